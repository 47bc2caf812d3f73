import JvmDerived
import JvmDerived.Pilot.@@N@@Statement
import JvmDerived.Pilot.@@N@@Code
set_option linter.unusedVariables false
set_option linter.unusedSimpArgs false
namespace Jvm.OwnGo
open Sem ClassFile Op Lib Jvm.Stand Jvm.Free Jvm.LawKit Jvm.RoadKit
/-- what is known of the body that is walked -/
def Cx (p : Program) (s : State) (m : MethodId) (meth : Method) (c : Code) (Z : State) (own nm : String) (bs : ByteArray) (ml : Nat) (rt : Option FieldType) : Prop :=
  p.tables.exec = Jvm.exec ∧ Z.Warmed39 s.vm ∧ c.code = bs ∧ c.maxLocals = ml ∧ s.vm.findClass own = some m.cls ∧ meth.name = nm ∧ meth.sig.returnType = rt ∧ meth.locks = false
/-- where the walk stands: every place that it has written lies in a cell at or above n0 -/
def Sd (p : Program) (l : Launch) (e : Env) (R : Room) (s : State) (m : MethodId) (args : Array Value) (below : List Frame) (meth : Method) (c : Code) (n0 : Nat) (T : State) (cells slots : Nat) : Prop :=
  ∃ locs, Stand p l e R s m args below meth c T locs cells slots ∧ Fr n0 locs
/-- the walk from t ends: it returns, Q holds of the value and the heap, at most C cells of N slots are made -/
def Go (p : Program) (e : Env) (below : List Frame) (s : State) (n0 : Nat) (Q : Option Value → Heap → Prop) (C N : Nat) (t : State) : Prop :=
  ∃ s₂ o, Steps p.tables e below t s₂ ∧ s₂.status = .running ∧ Ended s₂ below o ∧ ∃ v L, o = .returned v ∧ (Q v s₂.heap ∧ Fr n0 L) ∧ FrameEnd s o s₂ L C N
/-- a method's contract at these arguments and this heap -/
def Met (l : Launch) (Z : State) (y : MethodName) (bytes : ByteArray) (maxL : Nat) (ret : Option FieldType) (ws : List Jvm.Cond) (rm : Room) (as' : Array Value) (h : Heap) (n0 : Nat) (Q : Option Value → Heap → Prop) : Prop :=
  MetFree l y (head1 (Cond.code y bytes maxL ret :: ws) rm) (fun a U => a = as' ∧ Z.Warmed39 U.vm ∧ U.heap = h) (fun _ _ _ _ _ => True) (fun _ U o U' => ∃ v L, o = .returned v ∧ (Q v U'.heap ∧ Fr n0 L) ∧ FrameEnd U o U' L rm.cells rm.slots)
theorem Met.of {l : Launch} {Z : State} {y : MethodName} {bytes : ByteArray} {maxL : Nat} {ret : Option FieldType} {ws : List Jvm.Cond} {rm : Room} {as' : Array Value} {h : Heap} {n0 : Nat} {Q : Option Value → Heap → Prop} (hpn : plainFor y = true) (Ls : Array Slot) (hef : ∀ m, entryFrame m as' maxL = mkF m 0 Ls [])
    (body : ∀ p e s m below meth c T, Cx p s m meth c Z y.cls y.name bytes maxL ret → Sd p l e rm s m as' below meth c n0 T 0 0 → T.heap = h → Go p e below s n0 Q rm.cells rm.slots (T.setTop (mkF m 0 Ls []))) : Met l Z y bytes maxL ret ws rm as' h n0 Q := by
  refine MetFree.of_bodySF hpn hisR ?_
  intro p e s m args below meth c s₁ Bd hml0 hP hK
  obtain ⟨rfl, hZ, hh⟩ := hP
  obtain ⟨s₂, o, h1, h2, h3, h4⟩ := body p e s m below meth c s₁ ⟨Bd.exec, hZ, Bd.bytes, hml0, findClass_of_methodNamed Bd.named, (name_of_methodNamed Bd.named Bd.method).1, Bd.returns, Bd.notSynchronized⟩ ⟨[], Stand.of_body Bd, Fr.nil n0⟩ (by rw [← hh, Bd.state]; rfl)
  exact ⟨s₂, o, castTop (hef m) h1, h2, h3, h4⟩
theorem Met.mono {l : Launch} {Z : State} {y : MethodName} {bytes : ByteArray} {maxL : Nat} {ret : Option FieldType} {ws : List Jvm.Cond} {rm : Room} {as' : Array Value} {h : Heap} {n0 : Nat} {Q Q' : Option Value → Heap → Prop} (M : Met l Z y bytes maxL ret ws rm as' h n0 Q) (hQ : ∀ v g, Q v g → Q' v g) : Met l Z y bytes maxL ret ws rm as' h n0 Q' := by
  intro p e ha hc hk s m args below hf happ hP hK
  obtain ⟨n, o, h1, h2, h3, v, L, h4, h5, h6⟩ := M p e ha hc hk s m args below hf happ hP hK
  exact ⟨n, o, h1, h2, h3, v, L, h4, ⟨hQ _ _ h5.1, h5.2⟩, h6⟩
/-- what a branch asks -/
def cdP : ClassFile.Cond → Int32 → Int32 → Prop
  | .eq, x, y => x = y
  | .ne, x, y => ¬ x = y
  | .lt, x, y => x < y
  | .ge, x, y => ¬ x < y
  | .gt, x, y => y < x
  | .le, x, y => ¬ y < x
theorem cdT {cd : ClassFile.Cond} {x y : Int32} (h : cdP cd x y) : if_icmp.holds cd x y = true := by
  cases cd <;> simp only [cdP] at h
  · exact (teq h).1
  · exact (feq h).2
  · exact (tlt h).1
  · exact (flt h).2.1
  · exact (tlt h).2.2.1
  · exact (flt h).2.2.2
theorem cdF {cd : ClassFile.Cond} {x y : Int32} (h : ¬ cdP cd x y) : if_icmp.holds cd x y = false := by
  cases cd <;> simp only [cdP, Classical.not_not] at h
  · exact (feq h).1
  · exact (teq h).2
  · exact (flt h).1
  · exact (tlt h).2.1
  · exact (flt h).2.2.1
  · exact (tlt h).2.2.2
/-- an array of ints (or bytes, booleans, chars, shorts): n places, place j holds f j -/
def Ai (Z : State) (h : Heap) (a : Addr) (ty : FieldType) (n : Nat) (f : Nat → Int32) : Prop :=
  ∃ c : Cell, Arr Z h a c ty ∧ c.slots.size = n ∧ n < 2 ^ 31 ∧ ∀ j, j < n → c.slots[j]? = some (.int (f j))
def upA (f : Nat → Int32) (k : Nat) (x : Int32) : Nat → Int32 := fun j => if j = k then x else f j
theorem upA_same (f : Nat → Int32) (k : Nat) (x : Int32) : upA f k x k = x := if_pos rfl
theorem upA_other {f : Nat → Int32} {k j : Nat} {x : Int32} (h : j ≠ k) : upA f k x j = f j := if_neg h
theorem idx_ok {j : Int32} {k n : Nat} (hj : j.toInt = (k : Int)) (hk : k < n) : ¬ (j < 0 ∨ n ≤ j.toNatClampNeg) ∧ j.toNatClampNeg = k := by
  have e : j.toNatClampNeg = k := by rw [Int32.toNatClampNeg, hj]; rfl
  refine ⟨fun q => q.elim (fun q => ?_) (fun q => by omega), e⟩
  rw [Int32.lt_iff_toInt_lt, hj, show (0 : Int32).toInt = 0 from rfl] at q
  omega
section Facts
variable {Z : State} {h h' : Heap} {a b : Addr} {ty : FieldType} {n sl : Nat} {f : Nat → Int32} {v : Value} {ws : List Addr}
theorem Ai.lt (F : Ai Z h a ty n f) : a < h.size := by obtain ⟨c, A, -⟩ := F; exact A.lt
theorem Ai.ext (F : Ai Z h a ty n f) (E : Ext h h') : Ai Z h' a ty n f := by obtain ⟨c, A, r⟩ := F; exact ⟨c, A.ext E, r⟩
theorem Ai.other (F : Ai Z h b ty n f) (W : Wr h h' a sl v) (q : b ≠ a) : Ai Z h' b ty n f := by obtain ⟨c, A, r⟩ := F; exact ⟨c, A.other W q, r⟩
theorem Ai.keep (F : Ai Z h a ty n f) (K : Keep h h' ws) (q : a ∉ ws) : Ai Z h' a ty n f := by obtain ⟨c, A, r⟩ := F; exact ⟨c, ⟨K.2.1 a c A.1 q, A.2⟩, r⟩
theorem keepMore {ws' : List Addr} (K : Keep h h' ws) (q : ∀ x ∈ ws, x ∈ ws') : Keep h h' ws' := ⟨K.1, fun x c h1 h2 => K.2.1 x c h1 (fun h3 => h2 (q x h3)), K.2.2⟩
theorem Ai.set {k : Nat} {x : Int32} (F : Ai Z h a ty n f) (W : Wr h h' a k (.int x)) : Ai Z h' a ty n (upA f k x) := by
  obtain ⟨c, A, S, B, H⟩ := F
  refine ⟨_, A.same W, by rw [sz_set]; exact S, B, fun j hj => ?_⟩
  by_cases q : j = k
  · subst q
    rw [upA_same]
    simp [Cell.setSlot, S, hj]
  · rw [upA_other q, ← H j hj]
    exact Array.getElem?_setIfInBounds_ne (fun e => q e.symm)
theorem Ai.congr {g : Nat → Int32} (F : Ai Z h a ty n f) (q : ∀ j, j < n → f j = g j) : Ai Z h a ty n g := by
  obtain ⟨c, A, S, B, H⟩ := F
  exact ⟨c, A, S, B, fun j hj => by rw [H j hj, q j hj]⟩
theorem Ai.new {k : ClassId} {z : Int32} {n : Nat} (A : Arr Z h a (newA k ty z) ty) (hz : z.toInt = (n : Int)) (hn : n < 2 ^ 31) (hd : defaultValue ty = .int 0) : Ai Z h a ty n (fun _ => 0) := by
  have e : z.toNatClampNeg = n := by rw [Int32.toNatClampNeg, hz]; rfl
  exact ⟨_, A, by rw [sz_new, e], hn, fun j hj => by simp [newA, e, hj, hd]⟩
end Facts
section Go
variable {p : Program} {l : Launch} {e : Env} {R : Room} {s : State} {m : MethodId} {args : Array Value} {below : List Frame} {meth : Method} {c : Code} {T : State} {cells slots : Nat} {Z : State} {a0 : Array Value} {h : Heap} {own nm : String} {bs : ByteArray} {ml : Nat} {rt : Option FieldType} {n0 : Nat} {Q : Option Value → Heap → Prop} {C N : Nat} {pc : Nat} {Ls : Array Slot} {st : List Value}
theorem Go.step {t t' : State} (hs : ∀ target, Steps p.tables e below t' target → Steps p.tables e below t target) (g : Go p e below s n0 Q C N t') : Go p e below s n0 Q C N t := by
  obtain ⟨s₂, o, h1, r⟩ := g
  exact ⟨s₂, o, hs _ h1, r⟩
theorem Go.trans {t t' : State} (hs : Steps p.tables e below t t') (g : Go p e below s n0 Q C N t') : Go p e below s n0 Q C N t := by
  obtain ⟨s₂, o, h1, r⟩ := g
  exact ⟨s₂, o, hs.trans h1, r⟩
theorem Go.mono {Q' : Option Value → Heap → Prop} {t : State} (g : Go p e below s n0 Q C N t) (hQ : ∀ v k, Q v k → Q' v k) : Go p e below s n0 Q' C N t := by
  obtain ⟨s₂, o, h1, h2, h3, v, L, h4, h5, h6⟩ := g
  exact ⟨s₂, o, h1, h2, h3, v, L, h4, ⟨hQ _ _ h5.1, h5.2⟩, h6⟩
theorem g_eqI {x y : Int32} (q : x = y) (hr : Go p e below s n0 Q C N (T.setTop (mkF m pc Ls (.int y :: st)))) : Go p e below s n0 Q C N (T.setTop (mkF m pc Ls (.int x :: st))) := q ▸ hr
theorem g_eqJ {x y : Int64} (q : x = y) (hr : Go p e below s n0 Q C N (T.setTop (mkF m pc Ls (.long y :: st)))) : Go p e below s n0 Q C N (T.setTop (mkF m pc Ls (.long x :: st))) := q ▸ hr
theorem g_aloadN (K : Cx p s m meth c Z own nm bs ml rt) (X : Sd p l e R s m args below meth c n0 T cells slots) {k : Fin 4} {v : Value} (pc' : Nat) (hd : decode bs pc = .ok (.aload_n k, 1)) (hp : pc + 1 = pc') (hl : Ls[k.val]? = some (.val v)) (hv : v.isRef = true)
    (hr : Go p e below s n0 Q C N (T.setTop (mkF m pc' Ls (v :: st)))) : Go p e below s n0 Q C N (T.setTop (mkF m pc Ls (st))) := by
  obtain ⟨locs, Y, -⟩ := X
  obtain ⟨hx, -, hby, -⟩ := K
  subst hp
  exact Go.step (fun _ k => XS.aloadN Y.here hx (g := mkF m pc Ls (st)) rfl (hb hby hd) hl hv k) hr
theorem g_aload (K : Cx p s m meth c Z own nm bs ml rt) (X : Sd p l e R s m args below meth c n0 T cells slots) {k : Nat} {v : Value} (pc' : Nat) (hd : decode bs pc = .ok (.aload k, 2)) (hp : pc + 2 = pc') (hl : Ls[k]? = some (.val v)) (hv : v.isRef = true)
    (hr : Go p e below s n0 Q C N (T.setTop (mkF m pc' Ls (v :: st)))) : Go p e below s n0 Q C N (T.setTop (mkF m pc Ls (st))) := by
  obtain ⟨locs, Y, -⟩ := X
  obtain ⟨hx, -, hby, -⟩ := K
  subst hp
  exact Go.step (fun _ k => XS.aload Y.here hx (g := mkF m pc Ls (st)) rfl (hb hby hd) hl hv k) hr
theorem g_iloadN (K : Cx p s m meth c Z own nm bs ml rt) (X : Sd p l e R s m args below meth c n0 T cells slots) {k : Fin 4} {v : Int32} (pc' : Nat) (hd : decode bs pc = .ok (.iload_n k, 1)) (hp : pc + 1 = pc') (hl : Ls[k.val]? = some (.val (.int v)))
    (hr : Go p e below s n0 Q C N (T.setTop (mkF m pc' Ls (.int v :: st)))) : Go p e below s n0 Q C N (T.setTop (mkF m pc Ls (st))) := by
  obtain ⟨locs, Y, -⟩ := X
  obtain ⟨hx, -, hby, -⟩ := K
  subst hp
  exact Go.step (fun _ k => XS.iloadN Y.here hx (g := mkF m pc Ls (st)) rfl (hb hby hd) hl k) hr
theorem g_iload (K : Cx p s m meth c Z own nm bs ml rt) (X : Sd p l e R s m args below meth c n0 T cells slots) {k : Nat} {v : Int32} (pc' : Nat) (hd : decode bs pc = .ok (.iload k, 2)) (hp : pc + 2 = pc') (hl : Ls[k]? = some (.val (.int v)))
    (hr : Go p e below s n0 Q C N (T.setTop (mkF m pc' Ls (.int v :: st)))) : Go p e below s n0 Q C N (T.setTop (mkF m pc Ls (st))) := by
  obtain ⟨locs, Y, -⟩ := X
  obtain ⟨hx, -, hby, -⟩ := K
  subst hp
  exact Go.step (fun _ k => XS.iload Y.here hx (g := mkF m pc Ls (st)) rfl (hb hby hd) hl k) hr
theorem g_lloadN (K : Cx p s m meth c Z own nm bs ml rt) (X : Sd p l e R s m args below meth c n0 T cells slots) {k : Fin 4} {v : Int64} (pc' : Nat) (hd : decode bs pc = .ok (.lload_n k, 1)) (hp : pc + 1 = pc') (hl : Ls[k.val]? = some (.val (.long v)))
    (hr : Go p e below s n0 Q C N (T.setTop (mkF m pc' Ls (.long v :: st)))) : Go p e below s n0 Q C N (T.setTop (mkF m pc Ls (st))) := by
  obtain ⟨locs, Y, -⟩ := X
  obtain ⟨hx, -, hby, -⟩ := K
  subst hp
  exact Go.step (fun _ k => XT.lloadN Y.here hx (g := mkF m pc Ls (st)) rfl (hb hby hd) hl k) hr
theorem g_lload (K : Cx p s m meth c Z own nm bs ml rt) (X : Sd p l e R s m args below meth c n0 T cells slots) {k : Nat} {v : Int64} (pc' : Nat) (hd : decode bs pc = .ok (.lload k, 2)) (hp : pc + 2 = pc') (hl : Ls[k]? = some (.val (.long v)))
    (hr : Go p e below s n0 Q C N (T.setTop (mkF m pc' Ls (.long v :: st)))) : Go p e below s n0 Q C N (T.setTop (mkF m pc Ls (st))) := by
  obtain ⟨locs, Y, -⟩ := X
  obtain ⟨hx, -, hby, -⟩ := K
  subst hp
  exact Go.step (fun _ k => XT.lload Y.here hx (g := mkF m pc Ls (st)) rfl (hb hby hd) hl k) hr
theorem g_iconst (K : Cx p s m meth c Z own nm bs ml rt) (X : Sd p l e R s m args below meth c n0 T cells slots) {i : Int} (v : Int32) (pc' : Nat) (hd : decode bs pc = .ok (.iconst i, 1)) (hp : pc + 1 = pc') (hv : Int32.ofInt i = v)
    (hr : Go p e below s n0 Q C N (T.setTop (mkF m pc' Ls (.int v :: st)))) : Go p e below s n0 Q C N (T.setTop (mkF m pc Ls (st))) := by
  obtain ⟨locs, Y, -⟩ := X
  obtain ⟨hx, -, hby, -⟩ := K
  subst hp
  exact Go.step (fun _ k => XT.iconstV Y.here hx (g := mkF m pc Ls (st)) rfl v (hb hby hd) hv k) hr
theorem g_bipush (K : Cx p s m meth c Z own nm bs ml rt) (X : Sd p l e R s m args below meth c n0 T cells slots) {i : Int} (v : Int32) (pc' : Nat) (hd : decode bs pc = .ok (.bipush i, 2)) (hp : pc + 2 = pc') (hv : (Int8.ofInt i).toInt32 = v)
    (hr : Go p e below s n0 Q C N (T.setTop (mkF m pc' Ls (.int v :: st)))) : Go p e below s n0 Q C N (T.setTop (mkF m pc Ls (st))) := by
  obtain ⟨locs, Y, -⟩ := X
  obtain ⟨hx, -, hby, -⟩ := K
  subst hp
  exact Go.step (fun _ k => XT.bipushV Y.here hx (g := mkF m pc Ls (st)) rfl v (hb hby hd) hv k) hr
theorem g_sipush (K : Cx p s m meth c Z own nm bs ml rt) (X : Sd p l e R s m args below meth c n0 T cells slots) {i : Int} (v : Int32) (pc' : Nat) (hd : decode bs pc = .ok (.sipush i, 3)) (hp : pc + 3 = pc') (hv : (Int16.ofInt i).toInt32 = v)
    (hr : Go p e below s n0 Q C N (T.setTop (mkF m pc' Ls (.int v :: st)))) : Go p e below s n0 Q C N (T.setTop (mkF m pc Ls (st))) := by
  obtain ⟨locs, Y, -⟩ := X
  obtain ⟨hx, -, hby, -⟩ := K
  subst hp
  exact Go.step (fun _ k => XT.sipushV Y.here hx (g := mkF m pc Ls (st)) rfl v (hb hby hd) hv k) hr
theorem g_lconst (K : Cx p s m meth c Z own nm bs ml rt) (X : Sd p l e R s m args below meth c n0 T cells slots) {k : Fin 2} (v : Int64) (pc' : Nat) (hd : decode bs pc = .ok (.lconst k, 1)) (hp : pc + 1 = pc') (hv : Int64.ofNat k = v)
    (hr : Go p e below s n0 Q C N (T.setTop (mkF m pc' Ls (.long v :: st)))) : Go p e below s n0 Q C N (T.setTop (mkF m pc Ls (st))) := by
  obtain ⟨locs, Y, -⟩ := X
  obtain ⟨hx, -, hby, -⟩ := K
  subst hp
  exact Go.step (fun _ k => XT.lconstV Y.here hx (g := mkF m pc Ls (st)) rfl v (hb hby hd) hv k) hr
theorem g_anull (K : Cx p s m meth c Z own nm bs ml rt) (X : Sd p l e R s m args below meth c n0 T cells slots) (pc' : Nat) (hd : decode bs pc = .ok (.aconst_null, 1)) (hp : pc + 1 = pc') 
    (hr : Go p e below s n0 Q C N (T.setTop (mkF m pc' Ls (.null :: st)))) : Go p e below s n0 Q C N (T.setTop (mkF m pc Ls (st))) := by
  obtain ⟨locs, Y, -⟩ := X
  obtain ⟨hx, -, hby, -⟩ := K
  subst hp
  exact Go.step (fun _ k => XS.aconstNull Y.here hx (g := mkF m pc Ls (st)) rfl (hb hby hd) k) hr
theorem g_istoreN (K : Cx p s m meth c Z own nm bs ml rt) (X : Sd p l e R s m args below meth c n0 T cells slots) {k : Fin 4} {x : Int32} (pc' : Nat) (l' : Array Slot) (hd : decode bs pc = .ok (.istore_n k, 1)) (hp : pc + 1 = pc') (hl : storeLocals Ls k.val (.int x) = some l')
    (hr : Go p e below s n0 Q C N (T.setTop (mkF m pc' l' (st)))) : Go p e below s n0 Q C N (T.setTop (mkF m pc Ls (.int x :: st))) := by
  obtain ⟨locs, Y, -⟩ := X
  obtain ⟨hx, -, hby, -⟩ := K
  subst hp
  exact Go.step (fun _ k => XS.istoreN Y.here hx (g := mkF m pc Ls (.int x :: st)) rfl (hb hby hd) rfl hl k) hr
theorem g_istore (K : Cx p s m meth c Z own nm bs ml rt) (X : Sd p l e R s m args below meth c n0 T cells slots) {k : Nat} {x : Int32} (pc' : Nat) (l' : Array Slot) (hd : decode bs pc = .ok (.istore k, 2)) (hp : pc + 2 = pc') (hl : storeLocals Ls k (.int x) = some l')
    (hr : Go p e below s n0 Q C N (T.setTop (mkF m pc' l' (st)))) : Go p e below s n0 Q C N (T.setTop (mkF m pc Ls (.int x :: st))) := by
  obtain ⟨locs, Y, -⟩ := X
  obtain ⟨hx, -, hby, -⟩ := K
  subst hp
  exact Go.step (fun _ k => XS.istore Y.here hx (g := mkF m pc Ls (.int x :: st)) rfl (hb hby hd) rfl hl k) hr
theorem g_lstoreN (K : Cx p s m meth c Z own nm bs ml rt) (X : Sd p l e R s m args below meth c n0 T cells slots) {k : Fin 4} {x : Int64} (pc' : Nat) (l' : Array Slot) (hd : decode bs pc = .ok (.lstore_n k, 1)) (hp : pc + 1 = pc') (hl : storeLocals Ls k.val (.long x) = some l')
    (hr : Go p e below s n0 Q C N (T.setTop (mkF m pc' l' (st)))) : Go p e below s n0 Q C N (T.setTop (mkF m pc Ls (.long x :: st))) := by
  obtain ⟨locs, Y, -⟩ := X
  obtain ⟨hx, -, hby, -⟩ := K
  subst hp
  exact Go.step (fun _ k => XT.lstoreN Y.here hx (g := mkF m pc Ls (.long x :: st)) rfl (hb hby hd) rfl hl k) hr
theorem g_lstore (K : Cx p s m meth c Z own nm bs ml rt) (X : Sd p l e R s m args below meth c n0 T cells slots) {k : Nat} {x : Int64} (pc' : Nat) (l' : Array Slot) (hd : decode bs pc = .ok (.lstore k, 2)) (hp : pc + 2 = pc') (hl : storeLocals Ls k (.long x) = some l')
    (hr : Go p e below s n0 Q C N (T.setTop (mkF m pc' l' (st)))) : Go p e below s n0 Q C N (T.setTop (mkF m pc Ls (.long x :: st))) := by
  obtain ⟨locs, Y, -⟩ := X
  obtain ⟨hx, -, hby, -⟩ := K
  subst hp
  exact Go.step (fun _ k => XT.lstore Y.here hx (g := mkF m pc Ls (.long x :: st)) rfl (hb hby hd) rfl hl k) hr
theorem g_astoreN (K : Cx p s m meth c Z own nm bs ml rt) (X : Sd p l e R s m args below meth c n0 T cells slots) {k : Fin 4} {x : Value} (pc' : Nat) (l' : Array Slot) (hd : decode bs pc = .ok (.astore_n k, 1)) (hp : pc + 1 = pc') (hv : x.isRef = true) (hl : storeLocals Ls k.val x = some l')
    (hr : Go p e below s n0 Q C N (T.setTop (mkF m pc' l' (st)))) : Go p e below s n0 Q C N (T.setTop (mkF m pc Ls (x :: st))) := by
  obtain ⟨locs, Y, -⟩ := X
  obtain ⟨hx, -, hby, -⟩ := K
  subst hp
  exact Go.step (fun _ k => XS.astoreN Y.here hx (g := mkF m pc Ls (x :: st)) rfl (hb hby hd) rfl hv hl k) hr
theorem g_astore (K : Cx p s m meth c Z own nm bs ml rt) (X : Sd p l e R s m args below meth c n0 T cells slots) {k : Nat} {x : Value} (pc' : Nat) (l' : Array Slot) (hd : decode bs pc = .ok (.astore k, 2)) (hp : pc + 2 = pc') (hv : x.isRef = true) (hl : storeLocals Ls k x = some l')
    (hr : Go p e below s n0 Q C N (T.setTop (mkF m pc' l' (st)))) : Go p e below s n0 Q C N (T.setTop (mkF m pc Ls (x :: st))) := by
  obtain ⟨locs, Y, -⟩ := X
  obtain ⟨hx, -, hby, -⟩ := K
  subst hp
  exact Go.step (fun _ k => XS.astore Y.here hx (g := mkF m pc Ls (x :: st)) rfl (hb hby hd) rfl hv hl k) hr
theorem g_iinc (K : Cx p s m meth c Z own nm bs ml rt) (X : Sd p l e R s m args below meth c n0 T cells slots) {k : Nat} {cst : Int} {x : Int32} (v : Int32) (pc' : Nat) (l' : Array Slot) (hd : decode bs pc = .ok (.iinc k cst, 3)) (hp : pc + 3 = pc') (hv : Int32.ofInt cst = v) (hl : Ls[k]? = some (.val (.int x))) (hl' : storeLocals Ls k (.int (x + v)) = some l')
    (hr : Go p e below s n0 Q C N (T.setTop (mkF m pc' l' (st)))) : Go p e below s n0 Q C N (T.setTop (mkF m pc Ls (st))) := by
  obtain ⟨locs, Y, -⟩ := X
  obtain ⟨hx, -, hby, -⟩ := K
  subst hp
  exact Go.step (fun _ k => XT.iincV Y.here hx (g := mkF m pc Ls (st)) rfl v (hb hby hd) hv hl hl' k) hr
theorem g_iadd (K : Cx p s m meth c Z own nm bs ml rt) (X : Sd p l e R s m args below meth c n0 T cells slots) {x y : Int32} (pc' : Nat) (hd : decode bs pc = .ok (.iadd, 1)) (hp : pc + 1 = pc') 
    (hr : Go p e below s n0 Q C N (T.setTop (mkF m pc' Ls (.int (x + y) :: st)))) : Go p e below s n0 Q C N (T.setTop (mkF m pc Ls (.int y :: .int x :: st))) := by
  obtain ⟨locs, Y, -⟩ := X
  obtain ⟨hx, -, hby, -⟩ := K
  subst hp
  exact Go.step (fun _ k => XS.iadd Y.here hx (g := mkF m pc Ls (.int y :: .int x :: st)) rfl (hb hby hd) rfl k) hr
theorem g_isub (K : Cx p s m meth c Z own nm bs ml rt) (X : Sd p l e R s m args below meth c n0 T cells slots) {x y : Int32} (pc' : Nat) (hd : decode bs pc = .ok (.isub, 1)) (hp : pc + 1 = pc') 
    (hr : Go p e below s n0 Q C N (T.setTop (mkF m pc' Ls (.int (x - y) :: st)))) : Go p e below s n0 Q C N (T.setTop (mkF m pc Ls (.int y :: .int x :: st))) := by
  obtain ⟨locs, Y, -⟩ := X
  obtain ⟨hx, -, hby, -⟩ := K
  subst hp
  exact Go.step (fun _ k => XS.isub Y.here hx (g := mkF m pc Ls (.int y :: .int x :: st)) rfl (hb hby hd) rfl k) hr
theorem g_imul (K : Cx p s m meth c Z own nm bs ml rt) (X : Sd p l e R s m args below meth c n0 T cells slots) {x y : Int32} (pc' : Nat) (hd : decode bs pc = .ok (.imul, 1)) (hp : pc + 1 = pc') 
    (hr : Go p e below s n0 Q C N (T.setTop (mkF m pc' Ls (.int (x * y) :: st)))) : Go p e below s n0 Q C N (T.setTop (mkF m pc Ls (.int y :: .int x :: st))) := by
  obtain ⟨locs, Y, -⟩ := X
  obtain ⟨hx, -, hby, -⟩ := K
  subst hp
  exact Go.step (fun _ k => XS.imul Y.here hx (g := mkF m pc Ls (.int y :: .int x :: st)) rfl (hb hby hd) rfl k) hr
theorem g_iand (K : Cx p s m meth c Z own nm bs ml rt) (X : Sd p l e R s m args below meth c n0 T cells slots) {x y : Int32} (pc' : Nat) (hd : decode bs pc = .ok (.iand, 1)) (hp : pc + 1 = pc') 
    (hr : Go p e below s n0 Q C N (T.setTop (mkF m pc' Ls (.int (x &&& y) :: st)))) : Go p e below s n0 Q C N (T.setTop (mkF m pc Ls (.int y :: .int x :: st))) := by
  obtain ⟨locs, Y, -⟩ := X
  obtain ⟨hx, -, hby, -⟩ := K
  subst hp
  exact Go.step (fun _ k => XS.iand Y.here hx (g := mkF m pc Ls (.int y :: .int x :: st)) rfl (hb hby hd) rfl k) hr
theorem g_ior (K : Cx p s m meth c Z own nm bs ml rt) (X : Sd p l e R s m args below meth c n0 T cells slots) {x y : Int32} (pc' : Nat) (hd : decode bs pc = .ok (.ior, 1)) (hp : pc + 1 = pc') 
    (hr : Go p e below s n0 Q C N (T.setTop (mkF m pc' Ls (.int (x ||| y) :: st)))) : Go p e below s n0 Q C N (T.setTop (mkF m pc Ls (.int y :: .int x :: st))) := by
  obtain ⟨locs, Y, -⟩ := X
  obtain ⟨hx, -, hby, -⟩ := K
  subst hp
  exact Go.step (fun _ k => XT.ior Y.here hx (g := mkF m pc Ls (.int y :: .int x :: st)) rfl (hb hby hd) rfl k) hr
theorem g_ixor (K : Cx p s m meth c Z own nm bs ml rt) (X : Sd p l e R s m args below meth c n0 T cells slots) {x y : Int32} (pc' : Nat) (hd : decode bs pc = .ok (.ixor, 1)) (hp : pc + 1 = pc') 
    (hr : Go p e below s n0 Q C N (T.setTop (mkF m pc' Ls (.int (x ^^^ y) :: st)))) : Go p e below s n0 Q C N (T.setTop (mkF m pc Ls (.int y :: .int x :: st))) := by
  obtain ⟨locs, Y, -⟩ := X
  obtain ⟨hx, -, hby, -⟩ := K
  subst hp
  exact Go.step (fun _ k => XT.ixor Y.here hx (g := mkF m pc Ls (.int y :: .int x :: st)) rfl (hb hby hd) rfl k) hr
theorem g_ishl (K : Cx p s m meth c Z own nm bs ml rt) (X : Sd p l e R s m args below meth c n0 T cells slots) {x y : Int32} (pc' : Nat) (hd : decode bs pc = .ok (.ishl, 1)) (hp : pc + 1 = pc') 
    (hr : Go p e below s n0 Q C N (T.setTop (mkF m pc' Ls (.int (x <<< (y &&& 31)) :: st)))) : Go p e below s n0 Q C N (T.setTop (mkF m pc Ls (.int y :: .int x :: st))) := by
  obtain ⟨locs, Y, -⟩ := X
  obtain ⟨hx, -, hby, -⟩ := K
  subst hp
  exact Go.step (fun _ k => XT.ishl Y.here hx (g := mkF m pc Ls (.int y :: .int x :: st)) rfl (hb hby hd) rfl k) hr
theorem g_ishr (K : Cx p s m meth c Z own nm bs ml rt) (X : Sd p l e R s m args below meth c n0 T cells slots) {x y : Int32} (pc' : Nat) (hd : decode bs pc = .ok (.ishr, 1)) (hp : pc + 1 = pc') 
    (hr : Go p e below s n0 Q C N (T.setTop (mkF m pc' Ls (.int (x >>> (y &&& 31)) :: st)))) : Go p e below s n0 Q C N (T.setTop (mkF m pc Ls (.int y :: .int x :: st))) := by
  obtain ⟨locs, Y, -⟩ := X
  obtain ⟨hx, -, hby, -⟩ := K
  subst hp
  exact Go.step (fun _ k => XT.ishr Y.here hx (g := mkF m pc Ls (.int y :: .int x :: st)) rfl (hb hby hd) rfl k) hr
theorem g_iushr (K : Cx p s m meth c Z own nm bs ml rt) (X : Sd p l e R s m args below meth c n0 T cells slots) {x y : Int32} (pc' : Nat) (hd : decode bs pc = .ok (.iushr, 1)) (hp : pc + 1 = pc') 
    (hr : Go p e below s n0 Q C N (T.setTop (mkF m pc' Ls (.int (XT.ushr x y) :: st)))) : Go p e below s n0 Q C N (T.setTop (mkF m pc Ls (.int y :: .int x :: st))) := by
  obtain ⟨locs, Y, -⟩ := X
  obtain ⟨hx, -, hby, -⟩ := K
  subst hp
  exact Go.step (fun _ k => XT.iushr Y.here hx (g := mkF m pc Ls (.int y :: .int x :: st)) rfl (hb hby hd) rfl k) hr
theorem g_irem (K : Cx p s m meth c Z own nm bs ml rt) (X : Sd p l e R s m args below meth c n0 T cells slots) {x y : Int32} (pc' : Nat) (hd : decode bs pc = .ok (.irem, 1)) (hp : pc + 1 = pc') (hy : y ≠ 0)
    (hr : Go p e below s n0 Q C N (T.setTop (mkF m pc' Ls (.int (x % y) :: st)))) : Go p e below s n0 Q C N (T.setTop (mkF m pc Ls (.int y :: .int x :: st))) := by
  obtain ⟨locs, Y, -⟩ := X
  obtain ⟨hx, -, hby, -⟩ := K
  subst hp
  exact Go.step (fun _ k => iremM Y hx (g := mkF m pc Ls (.int y :: .int x :: st)) rfl (hb hby hd) rfl hy k) hr
theorem g_ladd (K : Cx p s m meth c Z own nm bs ml rt) (X : Sd p l e R s m args below meth c n0 T cells slots) {x y : Int64} (pc' : Nat) (hd : decode bs pc = .ok (.ladd, 1)) (hp : pc + 1 = pc') 
    (hr : Go p e below s n0 Q C N (T.setTop (mkF m pc' Ls (.long (x + y) :: st)))) : Go p e below s n0 Q C N (T.setTop (mkF m pc Ls (.long y :: .long x :: st))) := by
  obtain ⟨locs, Y, -⟩ := X
  obtain ⟨hx, -, hby, -⟩ := K
  subst hp
  exact Go.step (fun _ k => XT.ladd Y.here hx (g := mkF m pc Ls (.long y :: .long x :: st)) rfl (hb hby hd) rfl k) hr
theorem g_lsub (K : Cx p s m meth c Z own nm bs ml rt) (X : Sd p l e R s m args below meth c n0 T cells slots) {x y : Int64} (pc' : Nat) (hd : decode bs pc = .ok (.lsub, 1)) (hp : pc + 1 = pc') 
    (hr : Go p e below s n0 Q C N (T.setTop (mkF m pc' Ls (.long (x - y) :: st)))) : Go p e below s n0 Q C N (T.setTop (mkF m pc Ls (.long y :: .long x :: st))) := by
  obtain ⟨locs, Y, -⟩ := X
  obtain ⟨hx, -, hby, -⟩ := K
  subst hp
  exact Go.step (fun _ k => XT.lsub Y.here hx (g := mkF m pc Ls (.long y :: .long x :: st)) rfl (hb hby hd) rfl k) hr
theorem g_land (K : Cx p s m meth c Z own nm bs ml rt) (X : Sd p l e R s m args below meth c n0 T cells slots) {x y : Int64} (pc' : Nat) (hd : decode bs pc = .ok (.land, 1)) (hp : pc + 1 = pc') 
    (hr : Go p e below s n0 Q C N (T.setTop (mkF m pc' Ls (.long (x &&& y) :: st)))) : Go p e below s n0 Q C N (T.setTop (mkF m pc Ls (.long y :: .long x :: st))) := by
  obtain ⟨locs, Y, -⟩ := X
  obtain ⟨hx, -, hby, -⟩ := K
  subst hp
  exact Go.step (fun _ k => XT.land Y.here hx (g := mkF m pc Ls (.long y :: .long x :: st)) rfl (hb hby hd) rfl k) hr
theorem g_lor (K : Cx p s m meth c Z own nm bs ml rt) (X : Sd p l e R s m args below meth c n0 T cells slots) {x y : Int64} (pc' : Nat) (hd : decode bs pc = .ok (.lor, 1)) (hp : pc + 1 = pc') 
    (hr : Go p e below s n0 Q C N (T.setTop (mkF m pc' Ls (.long (x ||| y) :: st)))) : Go p e below s n0 Q C N (T.setTop (mkF m pc Ls (.long y :: .long x :: st))) := by
  obtain ⟨locs, Y, -⟩ := X
  obtain ⟨hx, -, hby, -⟩ := K
  subst hp
  exact Go.step (fun _ k => XT.lor Y.here hx (g := mkF m pc Ls (.long y :: .long x :: st)) rfl (hb hby hd) rfl k) hr
theorem g_lxor (K : Cx p s m meth c Z own nm bs ml rt) (X : Sd p l e R s m args below meth c n0 T cells slots) {x y : Int64} (pc' : Nat) (hd : decode bs pc = .ok (.lxor, 1)) (hp : pc + 1 = pc') 
    (hr : Go p e below s n0 Q C N (T.setTop (mkF m pc' Ls (.long (x ^^^ y) :: st)))) : Go p e below s n0 Q C N (T.setTop (mkF m pc Ls (.long y :: .long x :: st))) := by
  obtain ⟨locs, Y, -⟩ := X
  obtain ⟨hx, -, hby, -⟩ := K
  subst hp
  exact Go.step (fun _ k => XT.lxor Y.here hx (g := mkF m pc Ls (.long y :: .long x :: st)) rfl (hb hby hd) rfl k) hr
theorem g_lshl (K : Cx p s m meth c Z own nm bs ml rt) (X : Sd p l e R s m args below meth c n0 T cells slots) {x : Int64} {y : Int32} (pc' : Nat) (hd : decode bs pc = .ok (.lshl, 1)) (hp : pc + 1 = pc') 
    (hr : Go p e below s n0 Q C N (T.setTop (mkF m pc' Ls (.long (x <<< (y.toInt64 &&& 63)) :: st)))) : Go p e below s n0 Q C N (T.setTop (mkF m pc Ls (.int y :: .long x :: st))) := by
  obtain ⟨locs, Y, -⟩ := X
  obtain ⟨hx, -, hby, -⟩ := K
  subst hp
  exact Go.step (fun _ k => XT.lshl Y.here hx (g := mkF m pc Ls (.int y :: .long x :: st)) rfl (hb hby hd) rfl k) hr
theorem g_lushr (K : Cx p s m meth c Z own nm bs ml rt) (X : Sd p l e R s m args below meth c n0 T cells slots) {x : Int64} {y : Int32} (pc' : Nat) (hd : decode bs pc = .ok (.lushr, 1)) (hp : pc + 1 = pc') 
    (hr : Go p e below s n0 Q C N (T.setTop (mkF m pc' Ls (.long (XT.ushrL x y) :: st)))) : Go p e below s n0 Q C N (T.setTop (mkF m pc Ls (.int y :: .long x :: st))) := by
  obtain ⟨locs, Y, -⟩ := X
  obtain ⟨hx, -, hby, -⟩ := K
  subst hp
  exact Go.step (fun _ k => XT.lushr Y.here hx (g := mkF m pc Ls (.int y :: .long x :: st)) rfl (hb hby hd) rfl k) hr
theorem g_lcmp (K : Cx p s m meth c Z own nm bs ml rt) (X : Sd p l e R s m args below meth c n0 T cells slots) {x y : Int64} (pc' : Nat) (hd : decode bs pc = .ok (.lcmp, 1)) (hp : pc + 1 = pc') 
    (hr : Go p e below s n0 Q C N (T.setTop (mkF m pc' Ls (.int (XT.cmpL x y) :: st)))) : Go p e below s n0 Q C N (T.setTop (mkF m pc Ls (.long y :: .long x :: st))) := by
  obtain ⟨locs, Y, -⟩ := X
  obtain ⟨hx, -, hby, -⟩ := K
  subst hp
  exact Go.step (fun _ k => XT.lcmp Y.here hx (g := mkF m pc Ls (.long y :: .long x :: st)) rfl (hb hby hd) rfl k) hr
theorem g_i2l (K : Cx p s m meth c Z own nm bs ml rt) (X : Sd p l e R s m args below meth c n0 T cells slots) {x : Int32} (pc' : Nat) (hd : decode bs pc = .ok (.i2l, 1)) (hp : pc + 1 = pc') 
    (hr : Go p e below s n0 Q C N (T.setTop (mkF m pc' Ls (.long x.toInt64 :: st)))) : Go p e below s n0 Q C N (T.setTop (mkF m pc Ls (.int x :: st))) := by
  obtain ⟨locs, Y, -⟩ := X
  obtain ⟨hx, -, hby, -⟩ := K
  subst hp
  exact Go.step (fun _ k => XT.i2l Y.here hx (g := mkF m pc Ls (.int x :: st)) rfl (hb hby hd) rfl k) hr
theorem g_l2i (K : Cx p s m meth c Z own nm bs ml rt) (X : Sd p l e R s m args below meth c n0 T cells slots) {x : Int64} (pc' : Nat) (hd : decode bs pc = .ok (.l2i, 1)) (hp : pc + 1 = pc') 
    (hr : Go p e below s n0 Q C N (T.setTop (mkF m pc' Ls (.int x.toInt32 :: st)))) : Go p e below s n0 Q C N (T.setTop (mkF m pc Ls (.long x :: st))) := by
  obtain ⟨locs, Y, -⟩ := X
  obtain ⟨hx, -, hby, -⟩ := K
  subst hp
  exact Go.step (fun _ k => XT.l2i Y.here hx (g := mkF m pc Ls (.long x :: st)) rfl (hb hby hd) rfl k) hr
theorem g_i2b (K : Cx p s m meth c Z own nm bs ml rt) (X : Sd p l e R s m args below meth c n0 T cells slots) {x : Int32} (pc' : Nat) (hd : decode bs pc = .ok (.i2b, 1)) (hp : pc + 1 = pc') 
    (hr : Go p e below s n0 Q C N (T.setTop (mkF m pc' Ls (.int x.toInt8.toInt32 :: st)))) : Go p e below s n0 Q C N (T.setTop (mkF m pc Ls (.int x :: st))) := by
  obtain ⟨locs, Y, -⟩ := X
  obtain ⟨hx, -, hby, -⟩ := K
  subst hp
  exact Go.step (fun _ k => XT.i2b Y.here hx (g := mkF m pc Ls (.int x :: st)) rfl (hb hby hd) rfl k) hr
theorem g_dup (K : Cx p s m meth c Z own nm bs ml rt) (X : Sd p l e R s m args below meth c n0 T cells slots) {x : Value} (pc' : Nat) (hd : decode bs pc = .ok (.dup, 1)) (hp : pc + 1 = pc') (hc : x.category = 1)
    (hr : Go p e below s n0 Q C N (T.setTop (mkF m pc' Ls (x :: x :: st)))) : Go p e below s n0 Q C N (T.setTop (mkF m pc Ls (x :: st))) := by
  obtain ⟨locs, Y, -⟩ := X
  obtain ⟨hx, -, hby, -⟩ := K
  subst hp
  exact Go.step (fun _ k => XS.dup Y.here hx (g := mkF m pc Ls (x :: st)) rfl (hb hby hd) rfl hc k) hr
theorem g_dup_x1 (K : Cx p s m meth c Z own nm bs ml rt) (X : Sd p l e R s m args below meth c n0 T cells slots) {x y : Value} (pc' : Nat) (hd : decode bs pc = .ok (.dup_x1, 1)) (hp : pc + 1 = pc') (hc : x.category = 1) (hc' : y.category = 1)
    (hr : Go p e below s n0 Q C N (T.setTop (mkF m pc' Ls (x :: y :: x :: st)))) : Go p e below s n0 Q C N (T.setTop (mkF m pc Ls (x :: y :: st))) := by
  obtain ⟨locs, Y, -⟩ := X
  obtain ⟨hx, -, hby, -⟩ := K
  subst hp
  exact Go.step (fun _ k => XT.dupX1 Y.here hx (g := mkF m pc Ls (x :: y :: st)) rfl (hb hby hd) rfl hc hc' k) hr
theorem g_dup2 (K : Cx p s m meth c Z own nm bs ml rt) (X : Sd p l e R s m args below meth c n0 T cells slots) {x y : Value} (pc' : Nat) (hd : decode bs pc = .ok (.dup2, 1)) (hp : pc + 1 = pc') (hc : x.category = 1) (hc' : y.category = 1)
    (hr : Go p e below s n0 Q C N (T.setTop (mkF m pc' Ls (x :: y :: x :: y :: st)))) : Go p e below s n0 Q C N (T.setTop (mkF m pc Ls (x :: y :: st))) := by
  obtain ⟨locs, Y, -⟩ := X
  obtain ⟨hx, -, hby, -⟩ := K
  subst hp
  exact Go.step (fun _ k => XT.dup2 Y.here hx (g := mkF m pc Ls (x :: y :: st)) rfl (hb hby hd) rfl hc hc' k) hr
theorem g_pop (K : Cx p s m meth c Z own nm bs ml rt) (X : Sd p l e R s m args below meth c n0 T cells slots) {x : Value} (pc' : Nat) (hd : decode bs pc = .ok (.pop, 1)) (hp : pc + 1 = pc') (hc : x.category = 1)
    (hr : Go p e below s n0 Q C N (T.setTop (mkF m pc' Ls (st)))) : Go p e below s n0 Q C N (T.setTop (mkF m pc Ls (x :: st))) := by
  obtain ⟨locs, Y, -⟩ := X
  obtain ⟨hx, -, hby, -⟩ := K
  subst hp
  exact Go.step (fun _ k => XT.pop Y.here hx (g := mkF m pc Ls (x :: st)) rfl (hb hby hd) rfl hc k) hr
theorem g_goto (K : Cx p s m meth c Z own nm bs ml rt) (X : Sd p l e R s m args below meth c n0 T cells slots) {o : Int} (pc' : Nat) (hd : decode bs pc = .ok (.goto o, 3)) (hp : (pc : Int) + o = (pc' : Int))
    (hr : Go p e below s n0 Q C N (T.setTop (mkF m pc' Ls st))) : Go p e below s n0 Q C N (T.setTop (mkF m pc Ls st)) := by
  obtain ⟨locs, Y, -⟩ := X
  obtain ⟨hx, -, hby, -⟩ := K
  exact Go.step (fun _ k => XS.goto Y.here hx (g := mkF m pc Ls st) rfl (pc0 := pc) (pc' := pc') rfl (hb hby hd) (by omega) (by omega) k) hr
theorem g_icmpT (K : Cx p s m meth c Z own nm bs ml rt) (X : Sd p l e R s m args below meth c n0 T cells slots) {cd : ClassFile.Cond} {x y : Int32} {o : Int} (pc' : Nat) (hd : decode bs pc = .ok (.if_icmp cd o, 3)) (hp : (pc : Int) + o = (pc' : Int)) (hc : cdP cd x y)
    (hr : Go p e below s n0 Q C N (T.setTop (mkF m pc' Ls st))) : Go p e below s n0 Q C N (T.setTop (mkF m pc Ls (.int y :: .int x :: st))) := by
  obtain ⟨locs, Y, -⟩ := X
  obtain ⟨hx, -, hby, -⟩ := K
  exact Go.step (fun _ k => XS.icmpYes Y.here hx (g := mkF m pc Ls (.int y :: .int x :: st)) rfl (pc0 := pc) (pc' := pc') rfl (hb hby hd) rfl (cdT hc) (by omega) (by omega) k) hr
theorem g_icmpF (K : Cx p s m meth c Z own nm bs ml rt) (X : Sd p l e R s m args below meth c n0 T cells slots) {cd : ClassFile.Cond} {x y : Int32} {o : Int} (pc' : Nat) (hd : decode bs pc = .ok (.if_icmp cd o, 3)) (hp : pc + 3 = pc') (hc : ¬ cdP cd x y)
    (hr : Go p e below s n0 Q C N (T.setTop (mkF m pc' Ls st))) : Go p e below s n0 Q C N (T.setTop (mkF m pc Ls (.int y :: .int x :: st))) := by
  obtain ⟨locs, Y, -⟩ := X
  obtain ⟨hx, -, hby, -⟩ := K
  subst hp
  exact Go.step (fun _ k => XS.icmpNo Y.here hx (g := mkF m pc Ls (.int y :: .int x :: st)) rfl (hb hby hd) rfl (cdF hc) k) hr
theorem g_ifT (K : Cx p s m meth c Z own nm bs ml rt) (X : Sd p l e R s m args below meth c n0 T cells slots) {cd : ClassFile.Cond} {x : Int32} {o : Int} (pc' : Nat) (hd : decode bs pc = .ok (.ifCond cd o, 3)) (hp : (pc : Int) + o = (pc' : Int)) (hc : cdP cd x 0)
    (hr : Go p e below s n0 Q C N (T.setTop (mkF m pc' Ls st))) : Go p e below s n0 Q C N (T.setTop (mkF m pc Ls (.int x :: st))) := by
  obtain ⟨locs, Y, -⟩ := X
  obtain ⟨hx, -, hby, -⟩ := K
  exact Go.step (fun _ k => XS.ifYes Y.here hx (g := mkF m pc Ls (.int x :: st)) rfl (pc0 := pc) (pc' := pc') rfl (hb hby hd) rfl ((if0 _ _).trans (cdT hc)) (by omega) (by omega) k) hr
theorem g_ifF (K : Cx p s m meth c Z own nm bs ml rt) (X : Sd p l e R s m args below meth c n0 T cells slots) {cd : ClassFile.Cond} {x : Int32} {o : Int} (pc' : Nat) (hd : decode bs pc = .ok (.ifCond cd o, 3)) (hp : pc + 3 = pc') (hc : ¬ cdP cd x 0)
    (hr : Go p e below s n0 Q C N (T.setTop (mkF m pc' Ls st))) : Go p e below s n0 Q C N (T.setTop (mkF m pc Ls (.int x :: st))) := by
  obtain ⟨locs, Y, -⟩ := X
  obtain ⟨hx, -, hby, -⟩ := K
  subst hp
  exact Go.step (fun _ k => XS.ifNo Y.here hx (g := mkF m pc Ls (.int x :: st)) rfl (hb hby hd) rfl ((if0 _ _).trans (cdF hc)) k) hr
theorem g_icmp (K : Cx p s m meth c Z own nm bs ml rt) (X : Sd p l e R s m args below meth c n0 T cells slots) {cd : ClassFile.Cond} {x y : Int32} {o : Int} (pT pF : Nat) (hd : decode bs pc = .ok (.if_icmp cd o, 3)) (hp : (pc : Int) + o = (pT : Int)) (hq : pc + 3 = pF)
    (ht : cdP cd x y → Go p e below s n0 Q C N (T.setTop (mkF m pT Ls st))) (hf : ¬ cdP cd x y → Go p e below s n0 Q C N (T.setTop (mkF m pF Ls st))) : Go p e below s n0 Q C N (T.setTop (mkF m pc Ls (.int y :: .int x :: st))) :=
  (Classical.em (cdP cd x y)).elim (fun q => g_icmpT K X pT hd hp q (ht q)) (fun q => g_icmpF K X pF hd hq q (hf q))
theorem g_if (K : Cx p s m meth c Z own nm bs ml rt) (X : Sd p l e R s m args below meth c n0 T cells slots) {cd : ClassFile.Cond} {x : Int32} {o : Int} (pT pF : Nat) (hd : decode bs pc = .ok (.ifCond cd o, 3)) (hp : (pc : Int) + o = (pT : Int)) (hq : pc + 3 = pF)
    (ht : cdP cd x 0 → Go p e below s n0 Q C N (T.setTop (mkF m pT Ls st))) (hf : ¬ cdP cd x 0 → Go p e below s n0 Q C N (T.setTop (mkF m pF Ls st))) : Go p e below s n0 Q C N (T.setTop (mkF m pc Ls (.int x :: st))) :=
  (Classical.em (cdP cd x 0)).elim (fun q => g_ifT K X pT hd hp q (ht q)) (fun q => g_ifF K X pF hd hq q (hf q))
theorem g_acmpT (K : Cx p s m meth c Z own nm bs ml rt) (X : Sd p l e R s m args below meth c n0 T cells slots) {cd : ACond} {x y : Value} {o : Int} (pc' : Nat) (hd : decode bs pc = .ok (.if_acmp cd o, 3)) (hp : (pc : Int) + o = (pc' : Int)) (h1 : x.isRef = true) (h2 : y.isRef = true) (hc : acV cd (decide (x = y)) = true)
    (hr : Go p e below s n0 Q C N (T.setTop (mkF m pc' Ls st))) : Go p e below s n0 Q C N (T.setTop (mkF m pc Ls (y :: x :: st))) := by
  obtain ⟨locs, Y, -⟩ := X
  obtain ⟨hx, -, hby, -⟩ := K
  exact Go.step (fun _ k => acmp Y hx (g := mkF m pc Ls (y :: x :: st)) rfl h1 h2 (pc0 := pc) (pc' := pc') rfl (hb hby hd) rfl rfl (by omega) (by rw [if_pos hc]; omega) k) hr
theorem g_acmpF (K : Cx p s m meth c Z own nm bs ml rt) (X : Sd p l e R s m args below meth c n0 T cells slots) {cd : ACond} {x y : Value} {o : Int} (pc' : Nat) (hd : decode bs pc = .ok (.if_acmp cd o, 3)) (hp : pc + 3 = pc') (ho : 0 ≤ (pc : Int) + o) (h1 : x.isRef = true) (h2 : y.isRef = true) (hc : acV cd (decide (x = y)) = false)
    (hr : Go p e below s n0 Q C N (T.setTop (mkF m pc' Ls st))) : Go p e below s n0 Q C N (T.setTop (mkF m pc Ls (y :: x :: st))) := by
  obtain ⟨locs, Y, -⟩ := X
  obtain ⟨hx, -, hby, -⟩ := K
  exact Go.step (fun _ k => acmp Y hx (g := mkF m pc Ls (y :: x :: st)) rfl h1 h2 (pc0 := pc) (pc' := pc') rfl (hb hby hd) rfl rfl ho (by rw [if_neg (by rw [hc]; exact Bool.false_ne_true)]; exact hp.symm) k) hr
theorem g_ldcI (K : Cx p s m meth c Z own nm bs ml rt) (X : Sd p l e R s m args below meth c n0 T cells slots) {index : Nat} {v : Int32} (w : (Jvm.Cond.constant own index v).before a0 Z = true) (pc' : Nat) (hd : decode bs pc = .ok (.ldc index, 2)) (hp : pc + 2 = pc')
    (hr : Go p e below s n0 Q C N (T.setTop (mkF m pc' Ls (.int v :: st)))) : Go p e below s n0 Q C N (T.setTop (mkF m pc Ls st)) := by
  obtain ⟨locs, Y, -⟩ := X
  obtain ⟨hx, hZ, hby, -, hown, -⟩ := K
  subst hp
  exact Go.step (fun _ k => Y.ldcI hx hown (mvT hZ w) (g := mkF m pc Ls st) rfl (hb hby hd) k) hr
theorem g_ldc2J (K : Cx p s m meth c Z own nm bs ml rt) (X : Sd p l e R s m args below meth c n0 T cells slots) {index : Nat} {v : Int64} (w : (Jvm.Cond.constantLong own index v).before a0 Z = true) (pc' : Nat) (hd : decode bs pc = .ok (.ldc2_w index, 3)) (hp : pc + 3 = pc')
    (hr : Go p e below s n0 Q C N (T.setTop (mkF m pc' Ls (.long v :: st)))) : Go p e below s n0 Q C N (T.setTop (mkF m pc Ls st)) := by
  obtain ⟨locs, Y, -⟩ := X
  obtain ⟨hx, hZ, hby, -, hown, -⟩ := K
  subst hp
  exact Go.step (fun _ k => Y.ldc2J hx hown (mvT hZ w) (g := mkF m pc Ls st) rfl (hb hby hd) k) hr
theorem g_getF (K : Cx p s m meth c Z own nm bs ml rt) (X : Sd p l e R s m args below meth c n0 T cells slots) (eh : T.heap = h) {O n d : String} {index : Nat} (w : (Jvm.Cond.fieldLink own index O n d).before a0 Z = true) {a : Addr} {v : Value} (F : Fld Z h a O n d v) (pc' : Nat) (hd : decode bs pc = .ok (.getfield index, 3)) (hp : pc + 3 = pc')
    (hr : ∀ T', Sd p l e R s m args below meth c n0 T' cells slots → T'.heap = h → Go p e below s n0 Q C N (T'.setTop (mkF m pc' Ls (v :: st)))) : Go p e below s n0 Q C N (T.setTop (mkF m pc Ls (.ref a :: st))) := by
  obtain ⟨locs, Y, hN⟩ := X
  obtain ⟨hx, hZ, hby, -, hown, -⟩ := K
  subst hp
  obtain ⟨T', X', e', k⟩ := getF Y hx hZ hown (host := "") (Or.inl w) Via.refl eh F (g := mkF m pc Ls (.ref a :: st)) rfl rfl (hb hby hd)
  exact Go.step k (hr T' ⟨locs, X', hN⟩ e')
theorem g_putF (K : Cx p s m meth c Z own nm bs ml rt) (X : Sd p l e R s m args below meth c n0 T cells slots) (eh : T.heap = h) {O n d D : String} {index kk : Nat} {ty : FieldType} (w : (Jvm.Cond.fieldLink own index O n d).before a0 Z = true) {a : Addr} {v old : Value} (F : Fld Z h a O n d old) (E : Exa Z h a D) (L : (Jvm.Cond.lays D O n d).before a0 Z = true ∨ ((Jvm.Cond.laysFinal D O n d).before a0 Z = true ∧ own = O ∧ nm = "<init>")) (wi : (Jvm.Cond.instantiable D kk).before a0 Z = true)
    (hty : parseFieldDescriptor d = some ty) (hn : narrow ty v = v) (hf : fits ty v = true) (ge : n0 ≤ a) (pc' : Nat) (hd : decode bs pc = .ok (.putfield index, 3)) (hp : pc + 3 = pc')
    (hr : ∀ T' h', Sd p l e R s m args below meth c n0 T' cells slots → T'.heap = h' → Wr h h' a (Jvm.RoadKit.slotOf Z O n d) v → Go p e below s n0 Q C N (T'.setTop (mkF m pc' Ls st))) : Go p e below s n0 Q C N (T.setTop (mkF m pc Ls (v :: .ref a :: st))) := by
  obtain ⟨locs, Y, hN⟩ := X
  obtain ⟨hx, hZ, hby, -, hown, hnm, -⟩ := K
  subst hp
  obtain ⟨T', h', X', e', W, k⟩ := putF Y hx hZ hown (host := "") (Or.inl w) Via.refl eh F E (L.imp id fun q => ⟨q.1, q.2.1, hnm.trans q.2.2⟩) wi hty hn hf (g := mkF m pc Ls (v :: .ref a :: st)) rfl rfl (hb hby hd)
  exact Go.step k (hr T' h' ⟨_, X', Fr.snoc X' hN ge⟩ e' W)
theorem g_new (K : Cx p s m meth c Z own nm bs ml rt) (X : Sd p l e R s m args below meth c n0 T cells slots) (eh : T.heap = h) {D : String} {index n : Nat} (w : (Jvm.Cond.classLink own index D).before a0 Z = true) (wi : (Jvm.Cond.instantiable D n).before a0 Z = true) (wz : (Jvm.Cond.initialized D).before a0 Z = true) (pc' : Nat) (hd : decode bs pc = .ok (.new index, 3)) (hp : pc + 3 = pc') (hc : cells + 1 ≤ R.cells) (hl : slots + n ≤ R.slots)
    (hr : ∀ T' h' a, a = h.size → Sd p l e R s m args below meth c n0 T' (cells + 1) (slots + n) → T'.heap = h' → Ext h h' → Exa Z h' a D → (∀ {O nm d : String} {ty : FieldType}, Laid Z a0 D O nm d → parseFieldDescriptor d = some ty → Fld Z h' a O nm d (defaultValue ty)) → Go p e below s n0 Q C N (T'.setTop (mkF m pc' Ls (.ref a :: st)))) : Go p e below s n0 Q C N (T.setTop (mkF m pc Ls st)) := by
  obtain ⟨locs, Y, hN⟩ := X
  obtain ⟨hx, hZ, hby, -, hown, -⟩ := K
  subst hp
  obtain ⟨T', h', X', e', E, A, D', -, k⟩ := newO Y hx hZ hown w wi wz eh (g := mkF m pc Ls st) rfl (hb hby hd) hc hl
  exact Go.step k (hr T' h' h.size rfl ⟨locs, X', hN⟩ e' E A D')
theorem g_newA (K : Cx p s m meth c Z own nm bs ml rt) (X : Sd p l e R s m args below meth c n0 T cells slots) (eh : T.heap = h) {aty : ArrayType} (w : (Jvm.Cond.arrayClass (newarray.typeOf aty)).before a0 Z = true) (pc' : Nat) (hd : decode bs pc = .ok (.newarray aty, 2)) (hp : pc + 2 = pc') {z : Int32} {n cap : Nat} (hz : z.toInt = (n : Int)) (hcap : n ≤ cap) (hb' : cap * 8 ≤ 536870912) (hdv : defaultValue (newarray.typeOf aty) = .int 0) (hc : cells + 1 ≤ R.cells) (hl : slots + cap ≤ R.slots)
    (hr : ∀ T' h' a, a = h.size → Sd p l e R s m args below meth c n0 T' (cells + 1) (slots + cap) → T'.heap = h' → Ext h h' → Ai Z h' a (newarray.typeOf aty) n (fun _ => 0) → Exa Z h' a ("[" ++ (newarray.typeOf aty).toString) → Go p e below s n0 Q C N (T'.setTop (mkF m pc' Ls (.ref a :: st)))) : Go p e below s n0 Q C N (T.setTop (mkF m pc Ls (.int z :: st))) := by
  obtain ⟨locs, Y, hN⟩ := X
  obtain ⟨hx, hZ, hby, -, hown, -⟩ := K
  subst hp
  have ez : z.toNatClampNeg = n := by rw [Int32.toNatClampNeg, hz]; rfl
  have hz0 : ¬ z < 0 := by
    rw [Int32.lt_iff_toInt_lt, hz, show (0 : Int32).toInt = 0 from rfl]; omega
  obtain ⟨T', h', cA, X', e', E, A, B, k⟩ := newPE Y hx hZ w eh (g := mkF m pc Ls (.int z :: st)) rfl (hb hby hd) (n := z) rfl hz0 (cap := cap) (by rw [ez]; exact hcap) hb' hc hl rfl
  exact Go.step k (hr T' h' h.size rfl ⟨locs, X', hN⟩ e' E (Ai.new A hz (by omega) hdv) B)
theorem g_len (K : Cx p s m meth c Z own nm bs ml rt) (X : Sd p l e R s m args below meth c n0 T cells slots) (eh : T.heap = h) {a : Addr} {ty : FieldType} {n : Nat} {f : Nat → Int32} (A : Ai Z h a ty n f) (v : Int32) (hv : Int32.ofNat n = v) (pc' : Nat) (hd : decode bs pc = .ok (.arraylength, 1)) (hp : pc + 1 = pc')
    (hr : Go p e below s n0 Q C N (T.setTop (mkF m pc' Ls (.int v :: st)))) : Go p e below s n0 Q C N (T.setTop (mkF m pc Ls (.ref a :: st))) := by
  obtain ⟨locs, Y, -⟩ := X
  obtain ⟨hx, hZ, hby, -⟩ := K
  obtain ⟨cl, A, S, -⟩ := A
  subst hp hv
  refine Go.step (fun target k => Y.arraylength hx (cell := cl) (by rw [eh]; exact A.1) (State.isArrayOf_alike hZ.alike A.2.1) (g := mkF m pc Ls (.ref a :: st)) rfl (rest := st) rfl (hb hby hd) target ?_) hr
  rw [S]
  exact k
theorem g_iaload (K : Cx p s m meth c Z own nm bs ml rt) (X : Sd p l e R s m args below meth c n0 T cells slots) (eh : T.heap = h) {a : Addr} {n : Nat} {f : Nat → Int32} (A : Ai Z h a .int n f) {j : Int32} (k : Nat) (hj : j.toInt = (k : Int)) (hk : k < n) (v : Int32) (hv : f k = v) (pc' : Nat) (hd : decode bs pc = .ok (.iaload, 1)) (hp : pc + 1 = pc')
    (hr : Go p e below s n0 Q C N (T.setTop (mkF m pc' Ls (.int v :: st)))) : Go p e below s n0 Q C N (T.setTop (mkF m pc Ls (.int j :: .ref a :: st))) := by
  obtain ⟨locs, Y, -⟩ := X
  obtain ⟨hx, hZ, hby, -⟩ := K
  obtain ⟨cl, A, S, -, H⟩ := A
  subst hp hv
  obtain ⟨i1, i2⟩ := idx_ok hj hk
  exact Go.step (fun target kk => Y.iaload hx (j := j) (v := .int (f k)) (by rw [eh]; exact A.1) (State.isArrayOf_alike hZ.alike A.2.1) A.2.2 (by rw [S]; exact i1) (by rw [i2]; exact H k hk) (g := mkF m pc Ls (.int j :: .ref a :: st)) rfl rfl (hb hby hd) target kk) hr
theorem g_baload (K : Cx p s m meth c Z own nm bs ml rt) (X : Sd p l e R s m args below meth c n0 T cells slots) (eh : T.heap = h) {a : Addr} {n : Nat} {f : Nat → Int32} (A : Ai Z h a .byte n f) {j : Int32} (k : Nat) (hj : j.toInt = (k : Int)) (hk : k < n) (v : Int32) (hv : f k = v) (pc' : Nat) (hd : decode bs pc = .ok (.baload, 1)) (hp : pc + 1 = pc')
    (hr : Go p e below s n0 Q C N (T.setTop (mkF m pc' Ls (.int v :: st)))) : Go p e below s n0 Q C N (T.setTop (mkF m pc Ls (.int j :: .ref a :: st))) := by
  obtain ⟨locs, Y, -⟩ := X
  obtain ⟨hx, hZ, hby, -⟩ := K
  obtain ⟨cl, A, S, -, H⟩ := A
  subst hp hv
  obtain ⟨i1, i2⟩ := idx_ok hj hk
  exact Go.step (fun target kk => Y.baloadBytes hx (j := j) (v := .int (f k)) (by rw [eh]; exact A.1) (State.isArrayOf_alike hZ.alike A.2.1) A.2.2 (by rw [S]; exact i1) (by rw [i2]; exact H k hk) (g := mkF m pc Ls (.int j :: .ref a :: st)) rfl rfl (hb hby hd) target kk) hr
theorem g_iastore (K : Cx p s m meth c Z own nm bs ml rt) (X : Sd p l e R s m args below meth c n0 T cells slots) (eh : T.heap = h) {a : Addr} {n : Nat} {f : Nat → Int32} (A : Ai Z h a .int n f) {j x : Int32} (k : Nat) (hj : j.toInt = (k : Int)) (hk : k < n) (v : Int32) (hv : x = v) (ge : n0 ≤ a) (pc' : Nat) (hd : decode bs pc = .ok (.iastore, 1)) (hp : pc + 1 = pc')
    (hr : ∀ T' h', Sd p l e R s m args below meth c n0 T' cells slots → T'.heap = h' → Wr h h' a k (.int v) → Ai Z h' a .int n (upA f k v) → Go p e below s n0 Q C N (T'.setTop (mkF m pc' Ls st))) : Go p e below s n0 Q C N (T.setTop (mkF m pc Ls (.int x :: .int j :: .ref a :: st))) := by
  obtain ⟨locs, Y, hN⟩ := X
  obtain ⟨hx, hZ, hby, -⟩ := K
  have A' := A
  obtain ⟨cl, B, S, -, H⟩ := A
  subst hp hv
  obtain ⟨i1, i2⟩ := idx_ok hj hk
  obtain ⟨T', h', X', e', W, kk⟩ := stI Y hx hZ eh B (j := j) (x := x) (by rw [S]; exact i1) (g := mkF m pc Ls (.int x :: .int j :: .ref a :: st)) rfl (rest := st) rfl (hb hby hd)
  rw [i2] at W
  exact Go.step kk (hr T' h' ⟨_, X', Fr.snoc X' hN ge⟩ e' W (A'.set W))
theorem g_bastore (K : Cx p s m meth c Z own nm bs ml rt) (X : Sd p l e R s m args below meth c n0 T cells slots) (eh : T.heap = h) {a : Addr} {n : Nat} {f : Nat → Int32} (A : Ai Z h a .byte n f) {j x : Int32} (k : Nat) (hj : j.toInt = (k : Int)) (hk : k < n) (v : Int32) (hv : x.toInt8.toInt32 = v) (ge : n0 ≤ a) (pc' : Nat) (hd : decode bs pc = .ok (.bastore, 1)) (hp : pc + 1 = pc')
    (hr : ∀ T' h', Sd p l e R s m args below meth c n0 T' cells slots → T'.heap = h' → Wr h h' a k (.int v) → Ai Z h' a .byte n (upA f k v) → Go p e below s n0 Q C N (T'.setTop (mkF m pc' Ls st))) : Go p e below s n0 Q C N (T.setTop (mkF m pc Ls (.int x :: .int j :: .ref a :: st))) := by
  obtain ⟨locs, Y, hN⟩ := X
  obtain ⟨hx, hZ, hby, -⟩ := K
  have A' := A
  obtain ⟨cl, B, S, -, H⟩ := A
  subst hp hv
  obtain ⟨i1, i2⟩ := idx_ok hj hk
  obtain ⟨T', h', X', e', W, kk⟩ := stB Y hx hZ eh B (j := j) (x := x) (by rw [S]; exact i1) (g := mkF m pc Ls (.int x :: .int j :: .ref a :: st)) rfl (rest := st) rfl (hb hby hd)
  rw [i2] at W
  exact Go.step kk (hr T' h' ⟨_, X', Fr.snoc X' hN ge⟩ e' W (A'.set W))
theorem g_initO (K : Cx p s m meth c Z own nm bs ml rt) (X : Sd p l e R s m args below meth c n0 T cells slots) (eh : T.heap = h) (hsz : Ls.size = ml) {idx : Nat} (w1 : (Jvm.Cond.methodLink own idx Lib.objectInit).before a0 Z = true) (w2 : (Jvm.Cond.instanceMethod Lib.objectInit).before a0 Z = true) (w3 : (Jvm.Cond.code Lib.objectInit ⟨#[0xb1]⟩ 1 none).before a0 Z = true) {a : Addr} (pc' : Nat) (hd : decode bs pc = .ok (.invokespecial idx, 3)) (hp : pc + 3 = pc') (hf : 1 ≤ R.frames) (W : Nat) (hW : (st.map fun v => v.category).sum ≤ W) (hl : W + 12 ≤ R.locals)
    (hr : ∀ T', Sd p l e R s m args below meth c n0 T' cells slots → T'.heap = h → Go p e below s n0 Q C N (T'.setTop (mkF m pc' Ls st))) : Go p e below s n0 Q C N (T.setTop (mkF m pc Ls (.ref a :: st))) := by
  obtain ⟨locs, Y, hN⟩ := X
  obtain ⟨hx, hZ, hby, hml, hown, -⟩ := K
  subst hp
  obtain ⟨T', X', e', k⟩ := initO Y hx hZ hown w1 w2 w3 eh (g := mkF m pc Ls (.ref a :: st)) rfl (by rw [hml]; exact hsz) (a := a) (rest := st) rfl (hb hby hd) hf (W := W) (by show 2 * 0 + _ ≤ _; rw [Nat.mul_zero, Nat.zero_add]; exact hW) hl
  exact Go.step k (hr T' ⟨locs, X', hN⟩ e')
theorem g_special (K : Cx p s m meth c Z own nm bs ml rt) (X : Sd p l e R s m args below meth c n0 T cells slots) (eh : T.heap = h) (hsz : Ls.size = ml) {index : Nat} {y : MethodName} (hy1 : y.name = "<init>") {bytes : ByteArray} {maxL : Nat} {rm : Room} {as' : Array Value} {Q' : Option Value → Heap → Prop} (hM : Met l Z y bytes maxL none [] rm as' h n0 Q')
    (w1 : (Jvm.Cond.methodLink own index y).before a0 Z = true) (w2 : (Jvm.Cond.instanceMethod y).before a0 Z = true) (w3 : (Jvm.Cond.code y bytes maxL none).before a0 Z = true) (w4 : (Jvm.Cond.initialized y.cls).before a0 Z = true) (hy : y.cls ≠ "java/lang/invoke/MethodHandle" ∧ y.cls ≠ "java/lang/invoke/VarHandle")
    {a : Addr} (argsL : List Value) {S : List Value} (hS : argsL.reverse ++ .ref a :: st = S) (has : (.ref a :: argsL).toArray = as') (hlen : ∀ sig, parseMethodDescriptor y.desc = some sig → argsL.length = sig.parameters.length) (pc' : Nat) (hd : decode bs pc = .ok (.invokespecial index, 3)) (hp : pc + 3 = pc') (W : Nat) (hW : (st.map fun v => v.category).sum ≤ W) (hf : rm.frames + 1 ≤ R.frames) (hl : W + (maxL + 11) + rm.locals ≤ R.locals) (hc : cells + rm.cells ≤ R.cells) (hs : slots + rm.slots ≤ R.slots)
    (hr : ∀ T' v h', Sd p l e R s m args below meth c n0 T' (cells + rm.cells) (slots + rm.slots) → T'.heap = h' → Q' v h' → Go p e below s n0 Q C N (T'.setTop (mkF m pc' Ls (v.toList ++ st)))) : Go p e below s n0 Q C N (T.setTop (mkF m pc Ls S)) := by
  obtain ⟨locs, Y, hN⟩ := X
  obtain ⟨hx, hZ, hby, hml, hown, -⟩ := K
  subst hp hS has
  obtain ⟨v, vm1, ⟨T', L', k', n'⟩, -, X', ⟨Lc, ⟨hQ, hF⟩, l1, l2, l3⟩, k⟩ := Y.specialBack hx hy1 hown (mvT hZ w1) (mvT hZ w2) (mvT hZ w3) hy (backOf (W := W) (Q := fun v h L => Q' v h ∧ Fr n0 L) hM hZ w3 w4 hf hl) (g := mkF m pc Ls (argsL.reverse ++ .ref a :: st)) rfl (by rw [hml]; exact hsz) (Steps.refl _) (a := a) (argsL := argsL) (rest := st) hlen rfl (by show 2 * 0 + _ ≤ _; rw [Nat.mul_zero, Nat.zero_add]; exact hW) (hb hby hd) (fun _ _ => ⟨rfl, eh, hc, hs⟩)
  dsimp only [Pt.U, Pt.locs, Pt.cells, Pt.slots] at X' l1 l2 l3 k hQ
  subst l1 l2 l3
  exact Go.trans k (hr T' v T'.heap ⟨_, X', hN.app hF⟩ rfl hQ)
theorem g_static (K : Cx p s m meth c Z own nm bs ml rt) (X : Sd p l e R s m args below meth c n0 T cells slots) (eh : T.heap = h) (hsz : Ls.size = ml) {index : Nat} {y : MethodName} {bytes : ByteArray} {maxL : Nat} {ret : Option FieldType} {rm : Room} {as' : Array Value} {Q' : Option Value → Heap → Prop} (hM : Met l Z y bytes maxL ret [] rm as' h n0 Q')
    (w1 : (Jvm.Cond.methodLink own index y).before a0 Z = true) (w2 : (Jvm.Cond.static y).before a0 Z = true) (w3 : (Jvm.Cond.code y bytes maxL ret).before a0 Z = true) (w4 : (Jvm.Cond.initialized y.cls).before a0 Z = true) (hy : y.cls ≠ "java/lang/invoke/MethodHandle" ∧ y.cls ≠ "java/lang/invoke/VarHandle")
    (argsL : List Value) {S : List Value} (hS : argsL.reverse ++ st = S) (has : argsL.toArray = as') (hlen : ∀ sig, parseMethodDescriptor y.desc = some sig → argsL.length = sig.parameters.length) (pc' : Nat) (hd : decode bs pc = .ok (.invokestatic index, 3)) (hp : pc + 3 = pc') (W : Nat) (hW : (st.map fun v => v.category).sum ≤ W) (hf : rm.frames + 1 ≤ R.frames) (hl : W + (maxL + 11) + rm.locals ≤ R.locals) (hc : cells + rm.cells ≤ R.cells) (hs : slots + rm.slots ≤ R.slots)
    (hr : ∀ T' v h', Sd p l e R s m args below meth c n0 T' (cells + rm.cells) (slots + rm.slots) → T'.heap = h' → Q' v h' → Go p e below s n0 Q C N (T'.setTop (mkF m pc' Ls (v.toList ++ st)))) : Go p e below s n0 Q C N (T.setTop (mkF m pc Ls S)) := by
  obtain ⟨locs, Y, hN⟩ := X
  obtain ⟨hx, hZ, hby, hml, hown, -⟩ := K
  subst hp hS has
  obtain ⟨v, vm1, ⟨T', L', k', n'⟩, -, X', ⟨Lc, ⟨hQ, hF⟩, l1, l2, l3⟩, k⟩ := Jvm.LawKit.callS Y hx hown (mvT hZ w1) (mvT hZ w2) (mvT hZ w4) (mvT hZ w3) hy (backOf (W := W) (Q := fun v h L => Q' v h ∧ Fr n0 L) hM hZ w3 w4 hf hl) (g := mkF m pc Ls (argsL.reverse ++ st)) rfl (by rw [hml]; exact hsz) (argsL := argsL) (rest := st) hlen rfl (by show 2 * 0 + _ ≤ _; rw [Nat.mul_zero, Nat.zero_add]; exact hW) (hb hby hd) (fun _ _ => ⟨rfl, eh, hc, hs⟩)
  dsimp only [Pt.U, Pt.locs, Pt.cells, Pt.slots] at X' l1 l2 l3 k hQ
  subst l1 l2 l3
  exact Go.step k (hr T' v T'.heap ⟨_, X', hN.app hF⟩ rfl hQ)
theorem g_virtual (K : Cx p s m meth c Z own nm bs ml rt) (X : Sd p l e R s m args below meth c n0 T cells slots) (eh : T.heap = h) (hsz : Ls.size = ml) {index : Nat} {D : String} {y : MethodName} {bytes : ByteArray} {maxL : Nat} {ret : Option FieldType} {rm : Room} {as' : Array Value} {Q' : Option Value → Heap → Prop} (hM : Met l Z y bytes maxL ret [] rm as' h n0 Q')
    (w1 : (Jvm.Cond.methodLink own index y).before a0 Z = true) (w2 : (Jvm.Cond.declares y).before a0 Z = true) (w5 : (Jvm.Cond.selects D y y).before a0 Z = true) (w6 : (Jvm.Cond.instanceMethod y).before a0 Z = true) (w3 : (Jvm.Cond.code y bytes maxL ret).before a0 Z = true) (w4 : (Jvm.Cond.initialized y.cls).before a0 Z = true) (hy : y.cls ≠ "java/lang/invoke/MethodHandle" ∧ y.cls ≠ "java/lang/invoke/VarHandle")
    {a : Addr} (E : Exa Z h a D) (argsL : List Value) {S : List Value} (hS : argsL.reverse ++ .ref a :: st = S) (has : (.ref a :: argsL).toArray = as') (hlen : ∀ sig, parseMethodDescriptor y.desc = some sig → argsL.length = sig.parameters.length) (pc' : Nat) (hd : decode bs pc = .ok (.invokevirtual index, 3)) (hp : pc + 3 = pc') (W : Nat) (hW : (st.map fun v => v.category).sum ≤ W) (hf : rm.frames + 1 ≤ R.frames) (hl : W + (maxL + 11) + rm.locals ≤ R.locals) (hc : cells + rm.cells ≤ R.cells) (hs : slots + rm.slots ≤ R.slots)
    (hr : ∀ T' v h', Sd p l e R s m args below meth c n0 T' (cells + rm.cells) (slots + rm.slots) → T'.heap = h' → Q' v h' → Go p e below s n0 Q C N (T'.setTop (mkF m pc' Ls (v.toList ++ st)))) : Go p e below s n0 Q C N (T.setTop (mkF m pc Ls S)) := by
  obtain ⟨locs, Y, hN⟩ := X
  obtain ⟨hx, hZ, hby, hml, hown, -⟩ := K
  subst hp hS has
  obtain ⟨cq, kq, qa, qb, qc⟩ := isOf hZ eh E
  obtain ⟨v, vm1, ⟨T', L', k', n'⟩, -, X', ⟨Lc, ⟨hQ, hF⟩, l1, l2, l3⟩, k⟩ := Y.virtualBack hx (y := y) (z := y) hown (mvT hZ w1) (mvT hZ w2) (notFace_of_selects (args := #[]) (mvT hZ w5)) (mvT hZ w5) (mvT hZ w6) hy (backOf (W := W) (Q := fun v h L => Q' v h ∧ Fr n0 L) hM hZ w3 w4 hf hl) qa qc (g := mkF m pc Ls (argsL.reverse ++ .ref a :: st)) rfl (by rw [hml]; exact hsz) (Steps.refl _) (argsL := argsL) (rest := st) hlen rfl (by show 2 * 0 + _ ≤ _; rw [Nat.mul_zero, Nat.zero_add]; exact hW) (hb hby hd) (fun _ _ => ⟨rfl, eh, hc, hs⟩)
  dsimp only [Pt.U, Pt.locs, Pt.cells, Pt.slots] at X' l1 l2 l3 k hQ
  subst l1 l2 l3
  exact Go.trans k (hr T' v T'.heap ⟨_, X', hN.app hF⟩ rfl hQ)
theorem g_private (K : Cx p s m meth c Z own nm bs ml rt) (X : Sd p l e R s m args below meth c n0 T cells slots) (eh : T.heap = h) (hsz : Ls.size = ml) {index : Nat} {y : MethodName} {bytes : ByteArray} {maxL kk : Nat} {ret : Option FieldType} {rm : Room} {as' : Array Value} {Q' : Option Value → Heap → Prop} (hM : Met l Z y bytes maxL ret [] rm as' h n0 Q')
    (w1 : (Jvm.Cond.methodLink own index y).before a0 Z = true) (w2 : (Jvm.Cond.instanceMethod y).before a0 Z = true) (w5 : (Jvm.Cond.privateMethod y).before a0 Z = true) (wi : (Jvm.Cond.instantiable y.cls kk).before a0 Z = true) (w3 : (Jvm.Cond.code y bytes maxL ret).before a0 Z = true) (w4 : (Jvm.Cond.initialized y.cls).before a0 Z = true) (hy : y.cls ≠ "java/lang/invoke/MethodHandle" ∧ y.cls ≠ "java/lang/invoke/VarHandle")
    {D : String} {a : Addr} (E : Exa Z h a D) (argsL : List Value) {S : List Value} (hS : argsL.reverse ++ .ref a :: st = S) (has : (.ref a :: argsL).toArray = as') (hlen : ∀ sig, parseMethodDescriptor y.desc = some sig → argsL.length = sig.parameters.length) (pc' : Nat) (hd : decode bs pc = .ok (.invokevirtual index, 3)) (hp : pc + 3 = pc') (W : Nat) (hW : (st.map fun v => v.category).sum ≤ W) (hf : rm.frames + 1 ≤ R.frames) (hl : W + (maxL + 11) + rm.locals ≤ R.locals) (hc : cells + rm.cells ≤ R.cells) (hs : slots + rm.slots ≤ R.slots)
    (hr : ∀ T' v h', Sd p l e R s m args below meth c n0 T' (cells + rm.cells) (slots + rm.slots) → T'.heap = h' → Q' v h' → Go p e below s n0 Q C N (T'.setTop (mkF m pc' Ls (v.toList ++ st)))) : Go p e below s n0 Q C N (T.setTop (mkF m pc Ls S)) := by
  obtain ⟨locs, Y, hN⟩ := X
  obtain ⟨hx, hZ, hby, hml, hown, -⟩ := K
  subst hp hS has
  have hpriv : s.PrivateAt y := Cond.privateMethod_at (mvP hZ w5 (args := #[]))
  have wi' : (Jvm.Cond.instantiable y.cls kk).before args s = true := mvT hZ wi
  obtain ⟨ci, ki, i1, i2, -, i4, -⟩ := Cond.instantiable_spec wi'
  have hsel : (Jvm.Cond.selects y.cls y y).before args s = true := Jvm.Stand.selects_self_of_private i1 i2 (by cases hb2 : ki.isInterface <;> simp_all) hpriv (mvT hZ w2 : (Jvm.Cond.instanceMethod y).before args s = true) hy
  obtain ⟨cl, q1, q2⟩ := E.cell
  obtain ⟨v, vm1, ⟨T', L', k', n'⟩, -, X', ⟨Lc, ⟨hQ, hF⟩, l1, l2, l3⟩, k⟩ := Y.privateBack hx (y := y) hown (mvT hZ w1) (mvT hZ w2) hsel hpriv (mvT hZ w3) hy (backOf (W := W) (Q := fun v h L => Q' v h ∧ Fr n0 L) hM hZ w3 w4 hf hl) (g := mkF m pc Ls (argsL.reverse ++ .ref a :: st)) rfl (by rw [hml]; exact hsz) (Steps.refl _) (a := a) (cell := cl) (by rw [eh]; exact q1) q2 (argsL := argsL) (rest := st) hlen rfl (by show 2 * 0 + _ ≤ _; rw [Nat.mul_zero, Nat.zero_add]; exact hW) (hb hby hd) (fun _ _ => ⟨rfl, eh, hc, hs⟩)
  dsimp only [Pt.U, Pt.locs, Pt.cells, Pt.slots] at X' l1 l2 l3 k hQ
  subst l1 l2 l3
  exact Go.trans k (hr T' v T'.heap ⟨_, X', hN.app hF⟩ rfl hQ)
/-- an array of bytes -/
def Ab (Z : State) (h : Heap) (a : Addr) (n : Nat) (f : Nat → Int32) : Prop := Ai Z h a .byte n f ∧ ∀ j, j < n → (f j).toInt8.toInt32 = f j
def bl (f : Nat → Int32) (n : Nat) : List Value := (List.range n).map fun j => .int (f j)
theorem bl_len (f : Nat → Int32) (n : Nat) : (bl f n).length = n := by simp [bl]
theorem bl_at (f : Nat → Int32) {n j : Nat} (h : j < n) (d : Value) : (bl f n).getD j d = .int (f j) := by simp [bl, List.getD_eq_getElem?_getD, h]
theorem i32n {n : Nat} (hn : n < 2 ^ 31) : (Int32.ofNat n).toNatClampNeg = n ∧ ¬ Int32.ofNat n < 0 := by
  have e : (Int32.ofNat n).toInt = (n : Int) := Int32.toInt_ofNat_of_lt (by omega)
  refine ⟨by rw [Int32.toNatClampNeg, e]; rfl, ?_⟩
  rw [Int32.lt_iff_toInt_lt, e, show (0 : Int32).toInt = 0 from rfl]; omega
theorem Ab.arv {a : Addr} {n : Nat} {f : Nat → Int32} (A : Ab Z h a n f) : ∃ k, Arv Z h a k .byte (Int32.ofNat n) (bl f n) (.int 0) := by
  obtain ⟨⟨cl, A, S, B, H⟩, G⟩ := A
  obtain ⟨z1, z2⟩ := i32n B
  refine ⟨cl.cls, cl, A, rfl, by rw [z1]; exact S, z2, fun j hj => ?_, fun j hj => ?_⟩
  · rw [S] at hj
    rw [bl_at f hj]; exact H j hj
  · rw [S] at hj
    rw [bl_at f hj, ← G j hj]; exact fits_nar_byte _
theorem Ai.of_arv {a : Addr} {k : ClassId} {n : Nat} {vs : List Value} {d : Value} {g : Nat → Int32} {ty : FieldType} (hn : n < 2 ^ 31) (A : Arv Z h a k ty (Int32.ofNat n) vs d) (hg : ∀ j, j < n → vs.getD j d = .int (g j)) : Ai Z h a ty n g := by
  obtain ⟨cl, A, -, S, -, H, -⟩ := A
  obtain ⟨z1, -⟩ := i32n hn
  rw [z1] at S
  exact ⟨cl, A, S, hn, fun j hj => by rw [H j (by rw [S]; exact hj), hg j hj]⟩
theorem Ab.ext {h' : Heap} {a : Addr} {n : Nat} {f : Nat → Int32} (A : Ab Z h a n f) (E : Ext h h') : Ab Z h' a n f := ⟨A.1.ext E, A.2⟩
theorem Ab.other {h' : Heap} {a b : Addr} {n sl : Nat} {f : Nat → Int32} {v : Value} (A : Ab Z h b n f) (W : Wr h h' a sl v) (q : b ≠ a) : Ab Z h' b n f := ⟨A.1.other W q, A.2⟩
theorem Ab.keep {h' : Heap} {a : Addr} {n : Nat} {f : Nat → Int32} {ws : List Addr} (A : Ab Z h a n f) (K : Keep h h' ws) (q : a ∉ ws) : Ab Z h' a n f := ⟨A.1.keep K q, A.2⟩
theorem Ab.congr {a : Addr} {n : Nat} {f g : Nat → Int32} (A : Ab Z h a n f) (q : ∀ j, j < n → f j = g j) : Ab Z h a n g := ⟨A.1.congr q, fun j hj => by rw [← q j hj]; exact A.2 j hj⟩
theorem Ab.upA {h' : Heap} {a : Addr} {n k : Nat} {f : Nat → Int32} {x : Int32} (A : Ab Z h a n f) (B : Ai Z h' a .byte n (upA f k x)) (hx : x.toInt8.toInt32 = x) : Ab Z h' a n (upA f k x) := ⟨B, fun j hj => by
  by_cases q : j = k
  · subst q; rw [upA_same]; exact hx
  · rw [upA_other q]; exact A.2 j hj⟩
theorem g_cast (K : Cx p s m meth c Z own nm bs ml rt) (X : Sd p l e R s m args below meth c n0 T cells slots) (eh : T.heap = h) {D : String} {index : Nat} (w : (Jvm.Cond.classLink own index D).before a0 Z = true) {a : Addr} (E : Exa Z h a D) (pc' : Nat) (hd : decode bs pc = .ok (.checkcast index, 3)) (hp : pc + 3 = pc')
    (hr : ∀ T', Sd p l e R s m args below meth c n0 T' cells slots → T'.heap = h → Go p e below s n0 Q C N (T'.setTop (mkF m pc' Ls (.ref a :: st)))) : Go p e below s n0 Q C N (T.setTop (mkF m pc Ls (.ref a :: st))) := by
  obtain ⟨locs, Y, hN⟩ := X
  obtain ⟨hx, hZ, hby, -, hown, -⟩ := K
  subst hp
  obtain ⟨T', X', e', k⟩ := castY Y hx hZ hown w eh (Ins.self E) (g := mkF m pc Ls (.ref a :: st)) rfl rfl (hb hby hd)
  exact Go.step k (hr T' ⟨locs, X', hN⟩ e')
theorem g_clone (K : Cx p s m meth c Z own nm bs ml rt) (X : Sd p l e R s m args below meth c n0 T cells slots) (eh : T.heap = h) (hsz : Ls.size = ml) {index : Nat} (w1 : (Jvm.Cond.methodLink own index ⟨"[B", "clone", "()Ljava/lang/Object;"⟩).before a0 Z = true) (w2 : (Jvm.Cond.sameMethod "[B" "java/lang/Object" "clone" "()Ljava/lang/Object;").before a0 Z = true) (w3 : (Jvm.Cond.native ⟨"java/lang/Object", "clone", "()Ljava/lang/Object;"⟩).before a0 Z = true) (w4 : (Jvm.Cond.instanceMethod ⟨"java/lang/Object", "clone", "()Ljava/lang/Object;"⟩).before a0 Z = true) (w5 : (Jvm.Cond.selects "[B" ⟨"[B", "clone", "()Ljava/lang/Object;"⟩ ⟨"java/lang/Object", "clone", "()Ljava/lang/Object;"⟩).before a0 Z = true) (w6 : (Jvm.Cond.castable "[B" "java/lang/Cloneable").before a0 Z = true)
    {a : Addr} {n cap : Nat} {f : Nat → Int32} (A : Ab Z h a n f) (E : Exa Z h a "[B") (hcap : n ≤ cap) (pc' : Nat) (hd : decode bs pc = .ok (.invokevirtual index, 3)) (hp : pc + 3 = pc') (hf : 1 ≤ R.frames) (W : Nat) (hW : (st.map fun v => v.category).sum ≤ W) (hl : W + 14 ≤ R.locals) (hc : cells + 1 ≤ R.cells) (hs : slots + cap ≤ R.slots)
    (hr : ∀ T' h' b, b = h.size → Sd p l e R s m args below meth c n0 T' (cells + 1) (slots + cap) → T'.heap = h' → Ext h h' → Ab Z h' b n f → Exa Z h' b "[B" → Go p e below s n0 Q C N (T'.setTop (mkF m pc' Ls (.ref b :: st)))) : Go p e below s n0 Q C N (T.setTop (mkF m pc Ls (.ref a :: st))) := by
  obtain ⟨locs, Y, hN⟩ := X
  obtain ⟨hx, hZ, hby, hml, hown, -⟩ := K
  subst hp
  have hn := A.1
  obtain ⟨-, -, -, hn, -⟩ := hn
  obtain ⟨k, V⟩ := A.arv
  obtain ⟨z1, -⟩ := i32n hn
  obtain ⟨T', h', X', e', Ex, V', E', kk⟩ := cloneH Y hx hZ hown w1 w2 w3 w4 w5 w6 eh V.arh E (g := mkF m pc Ls (.ref a :: st)) rfl (by rw [hml]; exact hsz) (rest := st) rfl (hb hby hd) hf (W := W) (cap := cap) (by show 2 * 0 + _ ≤ _; rw [Nat.mul_zero, Nat.zero_add]; exact hW) hl (by rw [z1]; exact hcap) hc hs
  have V2 : Arv Z h' h.size k .byte (Int32.ofNat n) (bl f n) (.int 0) := V'
  exact Go.step kk (hr T' h' h.size rfl ⟨locs, X', hN⟩ e' Ex ⟨Ai.of_arv hn V2 (fun j hj => bl_at f hj _), A.2⟩ E')
/-- arraycopy from the start of one array of bytes to the start of another, new one -/
theorem g_acopy (K : Cx p s m meth c Z own nm bs ml rt) (X : Sd p l e R s m args below meth c n0 T cells slots) (eh : T.heap = h) (hsz : Ls.size = ml) {index : Nat} (w1 : (Jvm.Cond.methodLink own index Jvm.Stand.acN).before a0 Z = true) (w2 : (Jvm.Cond.native Jvm.Stand.acN).before a0 Z = true) (w3 : (Jvm.Cond.static Jvm.Stand.acN).before a0 Z = true) (w4 : (Jvm.Cond.initialized "java/lang/System").before a0 Z = true)
    {a b : Addr} {n m' q : Nat} {f g : Nat → Int32} (A : Ab Z h a n f) (B : Ab Z h b m' g) (E : Exa Z h b "[B") (hq1 : q ≤ n) (hq2 : q ≤ m') (ge : n0 ≤ b) {x y z : Int32} (hx0 : x = 0) (hy0 : y = 0) (hz : z = Int32.ofNat q) (pc' : Nat) (hd : decode bs pc = .ok (.invokestatic index, 3)) (hp : pc + 3 = pc') (hf : 1 ≤ R.frames) (W : Nat) (hW : (st.map fun v => v.category).sum ≤ W) (hl : W + (nativeFrameWords "java/lang/System" "arraycopy" 5 + 11) ≤ R.locals)
    (hr : ∀ T' h', Sd p l e R s m args below meth c n0 T' cells slots → T'.heap = h' → Keep h h' [b] → Ab Z h' b m' (fun j => if j < q then f j else g j) → Go p e below s n0 Q C N (T'.setTop (mkF m pc' Ls st))) : Go p e below s n0 Q C N (T.setTop (mkF m pc Ls (.int z :: .int y :: .ref b :: .int x :: .ref a :: st))) := by
  obtain ⟨locs, Y, hN⟩ := X
  obtain ⟨hx, hZ, hby, hml, hown, -⟩ := K
  subst hp hx0 hy0 hz
  have hn := A.1
  obtain ⟨-, -, -, hn, -⟩ := hn
  have hm := B.1
  obtain ⟨-, -, -, hm, -⟩ := hm
  obtain ⟨k, V⟩ := A.arv
  obtain ⟨k', V'⟩ := B.arv
  obtain ⟨n1, -⟩ := i32n hn
  obtain ⟨m1, -⟩ := i32n hm
  obtain ⟨q1, q2⟩ := i32n (n := q) (by omega)
  have z0 : (0 : Int32).toNatClampNeg = 0 := rfl
  obtain ⟨T', h', L, X', e', F', K', V2, kk⟩ := cpA Y hx hZ hown w1 w2 w3 w4 eh (sp := 0) (dp := 0) (nn := Int32.ofNat q) (us := (List.range q).map fun i => (bl f n).getD (0 + i) (.int 0)) V V' (Or.inl ⟨rfl, rfl⟩) (by decide) (by decide) q2 (by rw [z0, q1, n1]; omega) (by rw [z0, q1, m1]; omega) (by rw [q1, z0]) (by rw [z0, q1, bl_len]; omega) hN ge (g := mkF m pc Ls (.int (Int32.ofNat q) :: .int 0 :: .ref b :: .int 0 :: .ref a :: st)) rfl (by rw [hml]; exact hsz) (rest := st) rfl (hb hby hd) hf (W := W) (by show 2 * 0 + _ ≤ _; rw [Nat.mul_zero, Nat.zero_add]; exact hW) hl
  refine Go.step kk (hr T' h' ⟨_, X', F'⟩ e' K' ⟨Ai.of_arv hm V2 (fun j hj => ?_), fun j hj => ?_⟩)
  · rw [z0, q1]
    by_cases hjq : j < q
    · simp [hjq, bl_len, List.getD_eq_getElem?_getD, bl, List.getElem?_append, show j < n by omega]
    · have : j - q + q = j := by omega
      simp [hjq, bl_len, List.getD_eq_getElem?_getD, bl, List.getElem?_append, hj, List.getElem?_drop, show q + (j - q) = j by omega]
  · show (if j < q then f j else g j).toInt8.toInt32 = (if j < q then f j else g j)
    split
    · exact A.2 j (by omega)
    · exact B.2 j hj
theorem g_retN (K : Cx p s m meth c Z own nm bs ml rt) (X : Sd p l e R s m args below meth c n0 T cells slots) (eh : T.heap = h) {t : FieldType} (hret : rt = some t) (ht : t = .boolean ∨ t = .byte ∨ t = .char ∨ t = .short) {x : Int32} (v : Int32) (hv : nar t x = v) (hd : decode bs pc = .ok (.ireturn, 1)) (hC : cells ≤ C) (hS : slots ≤ N) (hq : Q (some (.int v)) h) : Go p e below s n0 Q C N (T.setTop (mkF m pc Ls (.int x :: st))) := by
  obtain ⟨locs, Y, hN⟩ := X
  obtain ⟨hx, hZ, hby, hml, hown, -, hrt, hlk⟩ := K
  subst hv hret
  obtain ⟨fs, hr, hrun, hended, hW, hsame⟩ := Y.leave (v := some (.int (nar t x))) (fun h => by rw [hrt] at h; cases h) hlk
  exact ⟨_, _, retN Y hx hrt ht (hb hby hd) hr, hrun, hended, _, _, rfl, ⟨by rw [← eh] at hq; exact hq, hN⟩, ⟨_, rfl⟩, hW, hsame.mono hC hS⟩
theorem g_retV (K : Cx p s m meth c Z own nm bs ml rt) (X : Sd p l e R s m args below meth c n0 T cells slots) (eh : T.heap = h) {t : FieldType} (hret : rt = some t) {w : Value} {i : Instr} (hn : narrow t w = w)
    (hi : (i = .ireturn ∧ (t = .int ∨ t = .boolean ∨ t = .byte ∨ t = .char ∨ t = .short) ∧ ∃ z, w = .int z) ∨ (i = .lreturn ∧ t = .long ∧ ∃ z, w = .long z) ∨ (i = .dreturn ∧ t = .double ∧ ∃ z, w = .double z) ∨ (i = .freturn ∧ t = .float ∧ ∃ z, w = .float z) ∨ (i = .areturn ∧ t.isReference = true ∧ w.isRef = true))
    (hd : decode bs pc = .ok (i, 1)) (hC : cells ≤ C) (hS : slots ≤ N) (hq : Q (some w) h) : Go p e below s n0 Q C N (T.setTop (mkF m pc Ls (w :: st))) := by
  obtain ⟨locs, Y, hN⟩ := X
  obtain ⟨hx, hZ, hby, hml, hown, -, hrt, hlk⟩ := K
  subst hret
  obtain ⟨fs, hr, hrun, hended, hW, hsame⟩ := Y.leave (v := some w) (fun h => by rw [hrt] at h; cases h) hlk
  exact ⟨_, _, retOut Y hx hrt hn hi (hb hby hd) hr, hrun, hended, _, _, rfl, ⟨by rw [← eh] at hq; exact hq, hN⟩, ⟨_, rfl⟩, hW, hsame.mono hC hS⟩
theorem g_retI (K : Cx p s m meth c Z own nm bs ml rt) (X : Sd p l e R s m args below meth c n0 T cells slots) (eh : T.heap = h) (hret : rt = some .int) {x : Int32} (hd : decode bs pc = .ok (.ireturn, 1)) (hC : cells ≤ C) (hS : slots ≤ N) (hq : Q (some (.int x)) h) : Go p e below s n0 Q C N (T.setTop (mkF m pc Ls (.int x :: st))) :=
  g_retV K X eh hret rfl (Or.inl ⟨rfl, Or.inl rfl, _, rfl⟩) hd hC hS hq
theorem g_retJ (K : Cx p s m meth c Z own nm bs ml rt) (X : Sd p l e R s m args below meth c n0 T cells slots) (eh : T.heap = h) (hret : rt = some .long) {x : Int64} (hd : decode bs pc = .ok (.lreturn, 1)) (hC : cells ≤ C) (hS : slots ≤ N) (hq : Q (some (.long x)) h) : Go p e below s n0 Q C N (T.setTop (mkF m pc Ls (.long x :: st))) :=
  g_retV K X eh hret rfl (Or.inr (Or.inl ⟨rfl, rfl, _, rfl⟩)) hd hC hS hq
theorem g_retR (K : Cx p s m meth c Z own nm bs ml rt) (X : Sd p l e R s m args below meth c n0 T cells slots) (eh : T.heap = h) {t : FieldType} (hret : rt = some t) (ht : t.isReference = true) {a : Addr} (hn : narrow t (.ref a) = .ref a) (hd : decode bs pc = .ok (.areturn, 1)) (hC : cells ≤ C) (hS : slots ≤ N) (hq : Q (some (.ref a)) h) : Go p e below s n0 Q C N (T.setTop (mkF m pc Ls (.ref a :: st))) :=
  g_retV K X eh hret hn (Or.inr (Or.inr (Or.inr (Or.inr ⟨rfl, ht, rfl⟩)))) hd hC hS hq
theorem g_ret (K : Cx p s m meth c Z own nm bs ml rt) (X : Sd p l e R s m args below meth c n0 T cells slots) (eh : T.heap = h) (hret : rt = none) (hd : decode bs pc = .ok (.return_, 1)) (hC : cells ≤ C) (hS : slots ≤ N) (hq : Q none h) : Go p e below s n0 Q C N (T.setTop (mkF m pc Ls [])) := by
  obtain ⟨locs, Y, hN⟩ := X
  obtain ⟨hx, hZ, hby, hml, hown, -, hrt, hlk⟩ := K
  subst hret
  obtain ⟨fs, hr, hrun, hended, hW, hsame⟩ := Y.leave (v := none) (fun _ => rfl) hlk
  exact ⟨_, _, Y.returnOut hx hrt (hb hby hd) hr, hrun, hended, _, _, rfl, ⟨by rw [← eh] at hq; exact hq, hN⟩, ⟨_, rfl⟩, hW, hsame.mono hC hS⟩
end Go
end Jvm.OwnGo
namespace Jvm.Pilot.@@N@@
open Jvm Jvm.ClassFile Sem Op Lib Jvm.Free Jvm.Stand Jvm.LawKit Jvm.RoadKit Jvm.OwnGo Bundle Jvm.Pilot.@@N@@.Jvm.D
theorem d1_0 : decode prog_61_method_10_code 0 = .ok (.aload_n 0, 1) := by decide +kernel
theorem d1_1 : decode prog_61_method_10_code 1 = .ok (.iload_n 1, 1) := by decide +kernel
theorem d1_2 : decode prog_61_method_10_code 2 = .ok (.baload, 1) := by decide +kernel
theorem d1_3 : decode prog_61_method_10_code 3 = .ok (.i2l, 1) := by decide +kernel
theorem d1_4 : decode prog_61_method_10_code 4 = .ok (.ldc2_w 83, 3) := by decide +kernel
theorem d1_7 : decode prog_61_method_10_code 7 = .ok (.land, 1) := by decide +kernel
theorem d1_8 : decode prog_61_method_10_code 8 = .ok (.aload_n 0, 1) := by decide +kernel
theorem d1_9 : decode prog_61_method_10_code 9 = .ok (.iload_n 1, 1) := by decide +kernel
theorem d1_10 : decode prog_61_method_10_code 10 = .ok (.iconst 1, 1) := by decide +kernel
theorem d1_11 : decode prog_61_method_10_code 11 = .ok (.iadd, 1) := by decide +kernel
theorem d1_12 : decode prog_61_method_10_code 12 = .ok (.baload, 1) := by decide +kernel
theorem d1_13 : decode prog_61_method_10_code 13 = .ok (.i2l, 1) := by decide +kernel
theorem d1_14 : decode prog_61_method_10_code 14 = .ok (.ldc2_w 83, 3) := by decide +kernel
theorem d1_17 : decode prog_61_method_10_code 17 = .ok (.land, 1) := by decide +kernel
theorem d1_18 : decode prog_61_method_10_code 18 = .ok (.bipush 8, 2) := by decide +kernel
theorem d1_20 : decode prog_61_method_10_code 20 = .ok (.lshl, 1) := by decide +kernel
theorem d1_21 : decode prog_61_method_10_code 21 = .ok (.lor, 1) := by decide +kernel
theorem d1_22 : decode prog_61_method_10_code 22 = .ok (.aload_n 0, 1) := by decide +kernel
theorem d1_23 : decode prog_61_method_10_code 23 = .ok (.iload_n 1, 1) := by decide +kernel
theorem d1_24 : decode prog_61_method_10_code 24 = .ok (.iconst 2, 1) := by decide +kernel
theorem d1_25 : decode prog_61_method_10_code 25 = .ok (.iadd, 1) := by decide +kernel
theorem d1_26 : decode prog_61_method_10_code 26 = .ok (.baload, 1) := by decide +kernel
theorem d1_27 : decode prog_61_method_10_code 27 = .ok (.i2l, 1) := by decide +kernel
theorem d1_28 : decode prog_61_method_10_code 28 = .ok (.ldc2_w 83, 3) := by decide +kernel
theorem d1_31 : decode prog_61_method_10_code 31 = .ok (.land, 1) := by decide +kernel
theorem d1_32 : decode prog_61_method_10_code 32 = .ok (.bipush 16, 2) := by decide +kernel
theorem d1_34 : decode prog_61_method_10_code 34 = .ok (.lshl, 1) := by decide +kernel
theorem d1_35 : decode prog_61_method_10_code 35 = .ok (.lor, 1) := by decide +kernel
theorem d1_36 : decode prog_61_method_10_code 36 = .ok (.aload_n 0, 1) := by decide +kernel
theorem d1_37 : decode prog_61_method_10_code 37 = .ok (.iload_n 1, 1) := by decide +kernel
theorem d1_38 : decode prog_61_method_10_code 38 = .ok (.iconst 3, 1) := by decide +kernel
theorem d1_39 : decode prog_61_method_10_code 39 = .ok (.iadd, 1) := by decide +kernel
theorem d1_40 : decode prog_61_method_10_code 40 = .ok (.baload, 1) := by decide +kernel
theorem d1_41 : decode prog_61_method_10_code 41 = .ok (.i2l, 1) := by decide +kernel
theorem d1_42 : decode prog_61_method_10_code 42 = .ok (.ldc2_w 83, 3) := by decide +kernel
theorem d1_45 : decode prog_61_method_10_code 45 = .ok (.land, 1) := by decide +kernel
theorem d1_46 : decode prog_61_method_10_code 46 = .ok (.bipush 24, 2) := by decide +kernel
theorem d1_48 : decode prog_61_method_10_code 48 = .ok (.lshl, 1) := by decide +kernel
theorem d1_49 : decode prog_61_method_10_code 49 = .ok (.lor, 1) := by decide +kernel
theorem d1_50 : decode prog_61_method_10_code 50 = .ok (.aload_n 0, 1) := by decide +kernel
theorem d1_51 : decode prog_61_method_10_code 51 = .ok (.iload_n 1, 1) := by decide +kernel
theorem d1_52 : decode prog_61_method_10_code 52 = .ok (.iconst 4, 1) := by decide +kernel
theorem d1_53 : decode prog_61_method_10_code 53 = .ok (.iadd, 1) := by decide +kernel
theorem d1_54 : decode prog_61_method_10_code 54 = .ok (.baload, 1) := by decide +kernel
theorem d1_55 : decode prog_61_method_10_code 55 = .ok (.i2l, 1) := by decide +kernel
theorem d1_56 : decode prog_61_method_10_code 56 = .ok (.ldc2_w 83, 3) := by decide +kernel
theorem d1_59 : decode prog_61_method_10_code 59 = .ok (.land, 1) := by decide +kernel
theorem d1_60 : decode prog_61_method_10_code 60 = .ok (.bipush 32, 2) := by decide +kernel
theorem d1_62 : decode prog_61_method_10_code 62 = .ok (.lshl, 1) := by decide +kernel
theorem d1_63 : decode prog_61_method_10_code 63 = .ok (.lor, 1) := by decide +kernel
theorem d1_64 : decode prog_61_method_10_code 64 = .ok (.aload_n 0, 1) := by decide +kernel
theorem d1_65 : decode prog_61_method_10_code 65 = .ok (.iload_n 1, 1) := by decide +kernel
theorem d1_66 : decode prog_61_method_10_code 66 = .ok (.iconst 5, 1) := by decide +kernel
theorem d1_67 : decode prog_61_method_10_code 67 = .ok (.iadd, 1) := by decide +kernel
theorem d1_68 : decode prog_61_method_10_code 68 = .ok (.baload, 1) := by decide +kernel
theorem d1_69 : decode prog_61_method_10_code 69 = .ok (.i2l, 1) := by decide +kernel
theorem d1_70 : decode prog_61_method_10_code 70 = .ok (.ldc2_w 83, 3) := by decide +kernel
theorem d1_73 : decode prog_61_method_10_code 73 = .ok (.land, 1) := by decide +kernel
theorem d1_74 : decode prog_61_method_10_code 74 = .ok (.bipush 40, 2) := by decide +kernel
theorem d1_76 : decode prog_61_method_10_code 76 = .ok (.lshl, 1) := by decide +kernel
theorem d1_77 : decode prog_61_method_10_code 77 = .ok (.lor, 1) := by decide +kernel
theorem d1_78 : decode prog_61_method_10_code 78 = .ok (.aload_n 0, 1) := by decide +kernel
theorem d1_79 : decode prog_61_method_10_code 79 = .ok (.iload_n 1, 1) := by decide +kernel
theorem d1_80 : decode prog_61_method_10_code 80 = .ok (.bipush 6, 2) := by decide +kernel
theorem d1_82 : decode prog_61_method_10_code 82 = .ok (.iadd, 1) := by decide +kernel
theorem d1_83 : decode prog_61_method_10_code 83 = .ok (.baload, 1) := by decide +kernel
theorem d1_84 : decode prog_61_method_10_code 84 = .ok (.i2l, 1) := by decide +kernel
theorem d1_85 : decode prog_61_method_10_code 85 = .ok (.ldc2_w 83, 3) := by decide +kernel
theorem d1_88 : decode prog_61_method_10_code 88 = .ok (.land, 1) := by decide +kernel
theorem d1_89 : decode prog_61_method_10_code 89 = .ok (.bipush 48, 2) := by decide +kernel
theorem d1_91 : decode prog_61_method_10_code 91 = .ok (.lshl, 1) := by decide +kernel
theorem d1_92 : decode prog_61_method_10_code 92 = .ok (.lor, 1) := by decide +kernel
theorem d1_93 : decode prog_61_method_10_code 93 = .ok (.aload_n 0, 1) := by decide +kernel
theorem d1_94 : decode prog_61_method_10_code 94 = .ok (.iload_n 1, 1) := by decide +kernel
theorem d1_95 : decode prog_61_method_10_code 95 = .ok (.bipush 7, 2) := by decide +kernel
theorem d1_97 : decode prog_61_method_10_code 97 = .ok (.iadd, 1) := by decide +kernel
theorem d1_98 : decode prog_61_method_10_code 98 = .ok (.baload, 1) := by decide +kernel
theorem d1_99 : decode prog_61_method_10_code 99 = .ok (.i2l, 1) := by decide +kernel
theorem d1_100 : decode prog_61_method_10_code 100 = .ok (.ldc2_w 83, 3) := by decide +kernel
theorem d1_103 : decode prog_61_method_10_code 103 = .ok (.land, 1) := by decide +kernel
theorem d1_104 : decode prog_61_method_10_code 104 = .ok (.bipush 56, 2) := by decide +kernel
theorem d1_106 : decode prog_61_method_10_code 106 = .ok (.lshl, 1) := by decide +kernel
theorem d1_107 : decode prog_61_method_10_code 107 = .ok (.lor, 1) := by decide +kernel
theorem d1_108 : decode prog_61_method_10_code 108 = .ok (.lreturn, 1) := by decide +kernel
theorem own_i0 {k : Nat} (hk : k < 100) : (Int32.ofNat k).toInt = (k : Int) := Int32.toInt_ofNat_of_lt (by omega)
theorem own_ix {k i : Nat} {z : Int32} (hk : k < 100) (hi : i < 100) (hz : z = Int32.ofNat i) : (Int32.ofNat k + z).toInt = ((k + i : Nat) : Int) := by
  subst hz
  rw [← Int32.ofNat_add, Int32.toInt_ofNat_of_lt (by omega)]
theorem own_bb (x : Int32) : x.toInt8.toInt32.toInt8.toInt32 = x.toInt8.toInt32 := by simp
theorem own_rem (x : Int32) : ∃ k : Nat, k < 5 ∧ (x &&& 2147483647) % 5 = Int32.ofNat k := by
  have h1 : (x &&& 2147483647).toInt = (((x &&& 2147483647).toBitVec.toNat : Nat) : Int) := by
    have : (x &&& 2147483647).toBitVec.toNat < 2 ^ 31 := by
      simp only [Int32.toBitVec_and, BitVec.toNat_and]
      exact Nat.lt_of_le_of_lt Nat.and_le_right (by decide)
    show (x &&& 2147483647).toBitVec.toInt = _
    rw [BitVec.toInt_eq_toNat_cond, if_pos (by omega)]
  refine ⟨(x &&& 2147483647).toBitVec.toNat % 5, Nat.mod_lt _ (by decide), ?_⟩
  apply Int32.toInt_inj.mp
  rw [Int32.toInt_mod, h1, show (5 : Int32).toInt = 5 from rfl, Int32.toInt_ofNat_of_lt (by omega)]
  exact (Int.ofNat_tmod _ _).symm
theorem pd_0 : parseMethodDescriptor "([BI)J" = some ⟨[(.array .byte), .int], some .long⟩ := by decide +kernel
def LE (f : Nat → Int32) (k : Nat) : Int64 := (((((((((f k).toInt64) &&& ((255 : Int64))) ||| ((((f (k + 1)).toInt64) &&& ((255 : Int64))) <<< (((8 : Int32)).toInt64 &&& 63))) ||| ((((f (k + 2)).toInt64) &&& ((255 : Int64))) <<< (((16 : Int32)).toInt64 &&& 63))) ||| ((((f (k + 3)).toInt64) &&& ((255 : Int64))) <<< (((24 : Int32)).toInt64 &&& 63))) ||| ((((f (k + 4)).toInt64) &&& ((255 : Int64))) <<< (((32 : Int32)).toInt64 &&& 63))) ||| ((((f (k + 5)).toInt64) &&& ((255 : Int64))) <<< (((40 : Int32)).toInt64 &&& 63))) ||| ((((f (k + 6)).toInt64) &&& ((255 : Int64))) <<< (((48 : Int32)).toInt64 &&& 63))) ||| ((((f (k + 7)).toInt64) &&& ((255 : Int64))) <<< (((56 : Int32)).toInt64 &&& 63))
def rmC : Room := { frames := 0, cells := 0, slots := 0, locals := 0 }
set_option maxRecDepth 65536 in
set_option maxHeartbeats 40000000 in
theorem met_le (l : Launch) (Z : State) (a0 : Array Value) (hw : ∀ d ∈ tables_1, d.before a0 Z = true) (a : Addr) (f : Nat → Int32) (k : Nat) (hk : k < 5) (h0 : Heap) (n0 : Nat) (A : Ai Z h0 a .byte 12 f) :
    Met l Z (⟨"com/example/bucketfold/bucketfold/KeyHash", "littleEndianLong", "([BI)J"⟩ : MethodName) prog_61_method_10_code 2 (some .long) [] rmC #[.ref a, .int (Int32.ofNat k)] h0 n0 (fun v h' => v = some (.long (LE f k))) := by
  refine Met.of (plainFor_of_name (by first | (simp [plainName, overriddenIn]; done) | decide +kernel)) #[.val (.ref a), .val (.int (Int32.ofNat k))] (fun m => by first | (simp [entryFrame, mkF, argsToLocals, Value.category]; done) | rfl) ?_
  intro p e s m below meth c T K X eh
  have A0 := A
  refine g_aloadN K X 1 d1_0 rfl rfl rfl ?_
  refine g_iloadN K X 2 d1_1 rfl rfl ?_
  refine g_baload K X eh A k (own_i0 (Nat.lt_trans hk (by decide))) (by omega) (f k) rfl 3 d1_2 rfl ?_
  refine g_i2l K X 4 d1_3 rfl ?_
  refine g_ldc2J K X (hw _ (List.mem_of_getElem? (i := 6) rfl)) 7 d1_4 rfl ?_
  refine g_land K X 8 d1_7 rfl ?_
  refine g_aloadN K X 9 d1_8 rfl rfl rfl ?_
  refine g_iloadN K X 10 d1_9 rfl rfl ?_
  refine g_iconst K X (1 : Int32) 11 d1_10 rfl rfl ?_
  refine g_iadd K X 12 d1_11 rfl ?_
  refine g_baload K X eh A (k + 1) (own_ix (Nat.lt_trans hk (by decide)) (by decide) rfl) (by omega) (f (k + 1)) rfl 13 d1_12 rfl ?_
  refine g_i2l K X 14 d1_13 rfl ?_
  refine g_ldc2J K X (hw _ (List.mem_of_getElem? (i := 6) rfl)) 17 d1_14 rfl ?_
  refine g_land K X 18 d1_17 rfl ?_
  refine g_bipush K X (8 : Int32) 20 d1_18 rfl rfl ?_
  refine g_lshl K X 21 d1_20 rfl ?_
  refine g_lor K X 22 d1_21 rfl ?_
  refine g_aloadN K X 23 d1_22 rfl rfl rfl ?_
  refine g_iloadN K X 24 d1_23 rfl rfl ?_
  refine g_iconst K X (2 : Int32) 25 d1_24 rfl rfl ?_
  refine g_iadd K X 26 d1_25 rfl ?_
  refine g_baload K X eh A (k + 2) (own_ix (Nat.lt_trans hk (by decide)) (by decide) rfl) (by omega) (f (k + 2)) rfl 27 d1_26 rfl ?_
  refine g_i2l K X 28 d1_27 rfl ?_
  refine g_ldc2J K X (hw _ (List.mem_of_getElem? (i := 6) rfl)) 31 d1_28 rfl ?_
  refine g_land K X 32 d1_31 rfl ?_
  refine g_bipush K X (16 : Int32) 34 d1_32 rfl rfl ?_
  refine g_lshl K X 35 d1_34 rfl ?_
  refine g_lor K X 36 d1_35 rfl ?_
  refine g_aloadN K X 37 d1_36 rfl rfl rfl ?_
  refine g_iloadN K X 38 d1_37 rfl rfl ?_
  refine g_iconst K X (3 : Int32) 39 d1_38 rfl rfl ?_
  refine g_iadd K X 40 d1_39 rfl ?_
  refine g_baload K X eh A (k + 3) (own_ix (Nat.lt_trans hk (by decide)) (by decide) rfl) (by omega) (f (k + 3)) rfl 41 d1_40 rfl ?_
  refine g_i2l K X 42 d1_41 rfl ?_
  refine g_ldc2J K X (hw _ (List.mem_of_getElem? (i := 6) rfl)) 45 d1_42 rfl ?_
  refine g_land K X 46 d1_45 rfl ?_
  refine g_bipush K X (24 : Int32) 48 d1_46 rfl rfl ?_
  refine g_lshl K X 49 d1_48 rfl ?_
  refine g_lor K X 50 d1_49 rfl ?_
  refine g_aloadN K X 51 d1_50 rfl rfl rfl ?_
  refine g_iloadN K X 52 d1_51 rfl rfl ?_
  refine g_iconst K X (4 : Int32) 53 d1_52 rfl rfl ?_
  refine g_iadd K X 54 d1_53 rfl ?_
  refine g_baload K X eh A (k + 4) (own_ix (Nat.lt_trans hk (by decide)) (by decide) rfl) (by omega) (f (k + 4)) rfl 55 d1_54 rfl ?_
  refine g_i2l K X 56 d1_55 rfl ?_
  refine g_ldc2J K X (hw _ (List.mem_of_getElem? (i := 6) rfl)) 59 d1_56 rfl ?_
  refine g_land K X 60 d1_59 rfl ?_
  refine g_bipush K X (32 : Int32) 62 d1_60 rfl rfl ?_
  refine g_lshl K X 63 d1_62 rfl ?_
  refine g_lor K X 64 d1_63 rfl ?_
  refine g_aloadN K X 65 d1_64 rfl rfl rfl ?_
  refine g_iloadN K X 66 d1_65 rfl rfl ?_
  refine g_iconst K X (5 : Int32) 67 d1_66 rfl rfl ?_
  refine g_iadd K X 68 d1_67 rfl ?_
  refine g_baload K X eh A (k + 5) (own_ix (Nat.lt_trans hk (by decide)) (by decide) rfl) (by omega) (f (k + 5)) rfl 69 d1_68 rfl ?_
  refine g_i2l K X 70 d1_69 rfl ?_
  refine g_ldc2J K X (hw _ (List.mem_of_getElem? (i := 6) rfl)) 73 d1_70 rfl ?_
  refine g_land K X 74 d1_73 rfl ?_
  refine g_bipush K X (40 : Int32) 76 d1_74 rfl rfl ?_
  refine g_lshl K X 77 d1_76 rfl ?_
  refine g_lor K X 78 d1_77 rfl ?_
  refine g_aloadN K X 79 d1_78 rfl rfl rfl ?_
  refine g_iloadN K X 80 d1_79 rfl rfl ?_
  refine g_bipush K X (6 : Int32) 82 d1_80 rfl rfl ?_
  refine g_iadd K X 83 d1_82 rfl ?_
  refine g_baload K X eh A (k + 6) (own_ix (Nat.lt_trans hk (by decide)) (by decide) rfl) (by omega) (f (k + 6)) rfl 84 d1_83 rfl ?_
  refine g_i2l K X 85 d1_84 rfl ?_
  refine g_ldc2J K X (hw _ (List.mem_of_getElem? (i := 6) rfl)) 88 d1_85 rfl ?_
  refine g_land K X 89 d1_88 rfl ?_
  refine g_bipush K X (48 : Int32) 91 d1_89 rfl rfl ?_
  refine g_lshl K X 92 d1_91 rfl ?_
  refine g_lor K X 93 d1_92 rfl ?_
  refine g_aloadN K X 94 d1_93 rfl rfl rfl ?_
  refine g_iloadN K X 95 d1_94 rfl rfl ?_
  refine g_bipush K X (7 : Int32) 97 d1_95 rfl rfl ?_
  refine g_iadd K X 98 d1_97 rfl ?_
  refine g_baload K X eh A (k + 7) (own_ix (Nat.lt_trans hk (by decide)) (by decide) rfl) (by omega) (f (k + 7)) rfl 99 d1_98 rfl ?_
  refine g_i2l K X 100 d1_99 rfl ?_
  refine g_ldc2J K X (hw _ (List.mem_of_getElem? (i := 6) rfl)) 103 d1_100 rfl ?_
  refine g_land K X 104 d1_103 rfl ?_
  refine g_bipush K X (56 : Int32) 106 d1_104 rfl rfl ?_
  refine g_lshl K X 107 d1_106 rfl ?_
  refine g_lor K X 108 d1_107 rfl ?_
  exact g_retJ K X eh rfl d1_108 (by decide) (by decide) rfl
theorem own_c255 : ∀ i : Fin 64, (255#64).getLsbD i.val = decide (i.val < 8) := by decide +kernel
/-- one byte in its place -/
theorem own_one (v : Int64) (n : Nat) (hn : n + 8 ≤ 64) (x : Int32) (hx : ∀ i, i < 8 → x.toBitVec.getLsbD i = v.toBitVec.getLsbD (n + i)) (s : Int64) (hs : s.toBitVec.smod 64 = BitVec.ofNat 64 n) :
    ∀ i, i < 64 → ((x.toInt64 &&& 255) <<< s).toBitVec.getLsbD i = (decide (n ≤ i) && decide (i < n + 8) && v.toBitVec.getLsbD i) := by
  intro i hi
  have e : (255 : Int64).toBitVec = 255#64 := rfl
  rw [Int64.toBitVec_shiftLeft, hs, BitVec.shiftLeft_eq', BitVec.getLsbD_shiftLeft, BitVec.toNat_ofNat, Nat.mod_eq_of_lt (by omega : n < 2 ^ 64)]
  by_cases h1 : i < n
  · simp [h1, show ¬ n ≤ i by omega]
  · rw [Int64.toBitVec_and, BitVec.getLsbD_and, e, own_c255 ⟨i - n, by omega⟩, Int32.toBitVec_toInt64, BitVec.getLsbD_signExtend]
    by_cases h2 : i < n + 8
    · have h3 : i - n < 8 := by omega
      simp only [show i - n < 32 by omega, if_true, hx _ h3, show n + (i - n) = i by omega]
      simp [hi, h1, h2, h3, show n ≤ i by omega, show i - n < 64 by omega]
    · simp [h2, show ¬ (i - n < 8) by omega]
theorem own_byt (v : Int64) (s : Int32) (n : Nat) (hn : n + 8 ≤ 64) (hs : ((s.toInt64.toUInt64 &&& Int64.toUInt64 63).toBitVec % 64) = BitVec.ofNat 64 n) : ∀ i, i < 8 → (XT.ushrL v s).toInt32.toInt8.toInt32.toBitVec.getLsbD i = v.toBitVec.getLsbD (n + i) := by
  intro i hi
  have e : (XT.ushrL v s).toBitVec = v.toBitVec >>> n := by
    show (((v.toUInt64 >>> (s.toInt64.toUInt64 &&& Int64.toUInt64 63)).toInt64)).toBitVec = _
    rw [UInt64.toBitVec_toInt64, UInt64.toBitVec_shiftRight, hs, Int64.toBitVec_toUInt64, BitVec.ushiftRight_eq', BitVec.toNat_ofNat, Nat.mod_eq_of_lt (by omega)]
  rw [Int8.toBitVec_toInt32, Int32.toBitVec_toInt8, Int64.toBitVec_toInt32, BitVec.getLsbD_signExtend, BitVec.getLsbD_signExtend, BitVec.getLsbD_signExtend, e]
  simp [hi, show i < 32 by omega, show i < 64 by omega]
theorem own_byt0 (v : Int64) : ∀ i, i < 8 → v.toInt32.toInt8.toInt32.toBitVec.getLsbD i = v.toBitVec.getLsbD (0 + i) := by
  intro i hi
  rw [Int8.toBitVec_toInt32, Int32.toBitVec_toInt8, Int64.toBitVec_toInt32, BitVec.getLsbD_signExtend, BitVec.getLsbD_signExtend, BitVec.getLsbD_signExtend]
  simp [hi, show i < 32 by omega, show i < 64 by omega]
theorem own_one0 (v : Int64) (x : Int32) (hx : ∀ i, i < 8 → x.toBitVec.getLsbD i = v.toBitVec.getLsbD (0 + i)) : ∀ i, i < 64 → (x.toInt64 &&& 255).toBitVec.getLsbD i = (decide (i < 8) && v.toBitVec.getLsbD i) := by
  intro i hi
  have e : (255 : Int64).toBitVec = 255#64 := rfl
  rw [Int64.toBitVec_and, BitVec.getLsbD_and, e, own_c255 ⟨i, hi⟩, Int32.toBitVec_toInt64, BitVec.getLsbD_signExtend]
  by_cases h : i < 8
  · have := hx i h
    rw [Nat.zero_add] at this
    rw [if_pos (show i < 32 by omega), this, decide_eq_true hi, decide_eq_true h, Bool.true_and, Bool.and_true]
  · simp [h]
theorem own_sx8 : ((8 : Int32).toInt64 &&& 63).toBitVec.smod 64 = BitVec.ofNat 64 8 := by decide +kernel
theorem own_sy8 : (((8 : Int32).toInt64.toUInt64 &&& Int64.toUInt64 63).toBitVec % 64) = BitVec.ofNat 64 8 := by decide +kernel
theorem own_sx16 : ((16 : Int32).toInt64 &&& 63).toBitVec.smod 64 = BitVec.ofNat 64 16 := by decide +kernel
theorem own_sy16 : (((16 : Int32).toInt64.toUInt64 &&& Int64.toUInt64 63).toBitVec % 64) = BitVec.ofNat 64 16 := by decide +kernel
theorem own_sx24 : ((24 : Int32).toInt64 &&& 63).toBitVec.smod 64 = BitVec.ofNat 64 24 := by decide +kernel
theorem own_sy24 : (((24 : Int32).toInt64.toUInt64 &&& Int64.toUInt64 63).toBitVec % 64) = BitVec.ofNat 64 24 := by decide +kernel
theorem own_sx32 : ((32 : Int32).toInt64 &&& 63).toBitVec.smod 64 = BitVec.ofNat 64 32 := by decide +kernel
theorem own_sy32 : (((32 : Int32).toInt64.toUInt64 &&& Int64.toUInt64 63).toBitVec % 64) = BitVec.ofNat 64 32 := by decide +kernel
theorem own_sx40 : ((40 : Int32).toInt64 &&& 63).toBitVec.smod 64 = BitVec.ofNat 64 40 := by decide +kernel
theorem own_sy40 : (((40 : Int32).toInt64.toUInt64 &&& Int64.toUInt64 63).toBitVec % 64) = BitVec.ofNat 64 40 := by decide +kernel
theorem own_sx48 : ((48 : Int32).toInt64 &&& 63).toBitVec.smod 64 = BitVec.ofNat 64 48 := by decide +kernel
theorem own_sy48 : (((48 : Int32).toInt64.toUInt64 &&& Int64.toUInt64 63).toBitVec % 64) = BitVec.ofNat 64 48 := by decide +kernel
theorem own_sx56 : ((56 : Int32).toInt64 &&& 63).toBitVec.smod 64 = BitVec.ofNat 64 56 := by decide +kernel
theorem own_sy56 : (((56 : Int32).toInt64.toUInt64 &&& Int64.toUInt64 63).toBitVec % 64) = BitVec.ofNat 64 56 := by decide +kernel
theorem own_le (v : Int64) (f : Nat → Int32) (k : Nat) (h0 : f k = v.toInt32.toInt8.toInt32) (h1 : f (k + 1) = (XT.ushrL v (8 : Int32)).toInt32.toInt8.toInt32) (h2 : f (k + 2) = (XT.ushrL v (16 : Int32)).toInt32.toInt8.toInt32) (h3 : f (k + 3) = (XT.ushrL v (24 : Int32)).toInt32.toInt8.toInt32) (h4 : f (k + 4) = (XT.ushrL v (32 : Int32)).toInt32.toInt8.toInt32) (h5 : f (k + 5) = (XT.ushrL v (40 : Int32)).toInt32.toInt8.toInt32) (h6 : f (k + 6) = (XT.ushrL v (48 : Int32)).toInt32.toInt8.toInt32) (h7 : f (k + 7) = (XT.ushrL v (56 : Int32)).toInt32.toInt8.toInt32) : LE f k = v := by
  rw [LE, h0, h1, h2, h3, h4, h5, h6, h7]
  apply Int64.toBitVec_inj.mp
  apply BitVec.eq_of_getLsbD_eq
  intro i hi
  simp only [Int64.toBitVec_or, BitVec.getLsbD_or]
  rw [own_one0 v _ (own_byt0 v) i hi, own_one v 8 (by decide) _ (own_byt v _ 8 (by decide) own_sy8) _ own_sx8 i hi, own_one v 16 (by decide) _ (own_byt v _ 16 (by decide) own_sy16) _ own_sx16 i hi, own_one v 24 (by decide) _ (own_byt v _ 24 (by decide) own_sy24) _ own_sx24 i hi, own_one v 32 (by decide) _ (own_byt v _ 32 (by decide) own_sy32) _ own_sx32 i hi, own_one v 40 (by decide) _ (own_byt v _ 40 (by decide) own_sy40) _ own_sx40 i hi, own_one v 48 (by decide) _ (own_byt v _ 48 (by decide) own_sy48) _ own_sx48 i hi, own_one v 56 (by decide) _ (own_byt v _ 56 (by decide) own_sy56) _ own_sx56 i hi]
  cases hb : v.toBitVec.getLsbD i
  · simp
  · simp only [Bool.and_true, Bool.or_eq_true, Bool.and_eq_true, decide_eq_true_eq]
    omega
set_option maxRecDepth 65536 in
set_option maxHeartbeats 40000000 in
theorem met_law (l : Launch) (Z : State) (a0 : Array Value) (hw : ∀ d ∈ tables_1, d.before a0 Z = true) (v0 : Int64) (x1 : Int32) (v2 : Int64) (x3 : Int32) (h0 : Heap) (n0 : Nat) (Z0 : n0 ≤ h0.size) :
    Met l Z x code maxLocals ret tables_1 room_1 #[.long v0, .int x1, .long v2, .int x3] h0 n0 (fun v h' => v = some (.int 1)) := by
  refine Met.of (plainFor_of_name (by first | (simp [plainName, overriddenIn]; done) | decide +kernel)) #[.val (.long v0), .second, .val (.int x1), .val (.long v2), .second, .val (.int x3), .unset, .unset] (fun m => by first | (simp [entryFrame, mkF, argsToLocals, Value.category, maxLocals]; done) | rfl) ?_
  intro p e s m below meth c T K X eh
  obtain ⟨k, hk, ek⟩ := own_rem x1
  refine g_iloadN K X 1 at_0 rfl rfl ?_
  refine g_ldcI K X (hw _ (List.mem_of_getElem? (i := 0) rfl)) 3 at_1 rfl ?_
  refine g_iand K X 4 at_3 rfl ?_
  refine g_iconst K X (5 : Int32) 5 at_4 rfl rfl ?_
  refine g_irem K X 6 at_5 rfl (by decide) ?_
  refine g_eqI (y := Int32.ofNat k) (ek) ?_
  refine g_istore K X 8 #[.val (.long v0), .second, .val (.int x1), .val (.long v2), .second, .val (.int x3), .val (.int (Int32.ofNat k)), .unset] at_6 rfl rfl ?_
  refine g_bipush K X (12 : Int32) 10 at_8 rfl rfl ?_
  refine g_newA K X eh (hw _ (List.mem_of_getElem? (i := 1) rfl)) 12 at_10 rfl (n := 12) (cap := 12) rfl (by decide) (by decide) rfl (by decide) (by decide) fun T h1 a ga X eh E A _ => ?_
  have ge : n0 ≤ a := ga ▸ Z0
  refine g_astore K X 14 #[.val (.long v0), .second, .val (.int x1), .val (.long v2), .second, .val (.int x3), .val (.int (Int32.ofNat k)), .val (.ref a)] at_12 rfl rfl rfl ?_
  refine g_aload K X 16 at_14 rfl rfl rfl ?_
  refine g_iconst K X (0 : Int32) 17 at_16 rfl rfl ?_
  refine g_lloadN K X 18 at_17 rfl rfl ?_
  refine g_l2i K X 19 at_18 rfl ?_
  refine g_i2b K X 20 at_19 rfl ?_
  refine g_bastore K X eh A 0 rfl (by decide) v2.toInt32.toInt8.toInt32 (own_bb _) ge 21 at_20 rfl fun T h X eh W A => ?_
  refine g_aload K X 23 at_21 rfl rfl rfl ?_
  refine g_iconst K X (1 : Int32) 24 at_23 rfl rfl ?_
  refine g_lloadN K X 25 at_24 rfl rfl ?_
  refine g_bipush K X (8 : Int32) 27 at_25 rfl rfl ?_
  refine g_lushr K X 28 at_27 rfl ?_
  refine g_l2i K X 29 at_28 rfl ?_
  refine g_i2b K X 30 at_29 rfl ?_
  refine g_bastore K X eh A 1 rfl (by decide) (((XT.ushrL v2 ((8 : Int32))).toInt32).toInt8.toInt32) (own_bb _) ge 31 at_30 rfl fun T h X eh W A => ?_
  refine g_aload K X 33 at_31 rfl rfl rfl ?_
  refine g_iconst K X (2 : Int32) 34 at_33 rfl rfl ?_
  refine g_lloadN K X 35 at_34 rfl rfl ?_
  refine g_bipush K X (16 : Int32) 37 at_35 rfl rfl ?_
  refine g_lushr K X 38 at_37 rfl ?_
  refine g_l2i K X 39 at_38 rfl ?_
  refine g_i2b K X 40 at_39 rfl ?_
  refine g_bastore K X eh A 2 rfl (by decide) (((XT.ushrL v2 ((16 : Int32))).toInt32).toInt8.toInt32) (own_bb _) ge 41 at_40 rfl fun T h X eh W A => ?_
  refine g_aload K X 43 at_41 rfl rfl rfl ?_
  refine g_iconst K X (3 : Int32) 44 at_43 rfl rfl ?_
  refine g_lloadN K X 45 at_44 rfl rfl ?_
  refine g_bipush K X (24 : Int32) 47 at_45 rfl rfl ?_
  refine g_lushr K X 48 at_47 rfl ?_
  refine g_l2i K X 49 at_48 rfl ?_
  refine g_i2b K X 50 at_49 rfl ?_
  refine g_bastore K X eh A 3 rfl (by decide) (((XT.ushrL v2 ((24 : Int32))).toInt32).toInt8.toInt32) (own_bb _) ge 51 at_50 rfl fun T h X eh W A => ?_
  refine g_aload K X 53 at_51 rfl rfl rfl ?_
  refine g_iconst K X (4 : Int32) 54 at_53 rfl rfl ?_
  refine g_lloadN K X 55 at_54 rfl rfl ?_
  refine g_bipush K X (32 : Int32) 57 at_55 rfl rfl ?_
  refine g_lushr K X 58 at_57 rfl ?_
  refine g_l2i K X 59 at_58 rfl ?_
  refine g_i2b K X 60 at_59 rfl ?_
  refine g_bastore K X eh A 4 rfl (by decide) (((XT.ushrL v2 ((32 : Int32))).toInt32).toInt8.toInt32) (own_bb _) ge 61 at_60 rfl fun T h X eh W A => ?_
  refine g_aload K X 63 at_61 rfl rfl rfl ?_
  refine g_iconst K X (5 : Int32) 64 at_63 rfl rfl ?_
  refine g_lloadN K X 65 at_64 rfl rfl ?_
  refine g_bipush K X (40 : Int32) 67 at_65 rfl rfl ?_
  refine g_lushr K X 68 at_67 rfl ?_
  refine g_l2i K X 69 at_68 rfl ?_
  refine g_i2b K X 70 at_69 rfl ?_
  refine g_bastore K X eh A 5 rfl (by decide) (((XT.ushrL v2 ((40 : Int32))).toInt32).toInt8.toInt32) (own_bb _) ge 71 at_70 rfl fun T h X eh W A => ?_
  refine g_aload K X 73 at_71 rfl rfl rfl ?_
  refine g_bipush K X (6 : Int32) 75 at_73 rfl rfl ?_
  refine g_lloadN K X 76 at_75 rfl rfl ?_
  refine g_bipush K X (48 : Int32) 78 at_76 rfl rfl ?_
  refine g_lushr K X 79 at_78 rfl ?_
  refine g_l2i K X 80 at_79 rfl ?_
  refine g_i2b K X 81 at_80 rfl ?_
  refine g_bastore K X eh A 6 rfl (by decide) (((XT.ushrL v2 ((48 : Int32))).toInt32).toInt8.toInt32) (own_bb _) ge 82 at_81 rfl fun T h X eh W A => ?_
  refine g_aload K X 84 at_82 rfl rfl rfl ?_
  refine g_bipush K X (7 : Int32) 86 at_84 rfl rfl ?_
  refine g_lloadN K X 87 at_86 rfl rfl ?_
  refine g_bipush K X (56 : Int32) 89 at_87 rfl rfl ?_
  refine g_lushr K X 90 at_89 rfl ?_
  refine g_l2i K X 91 at_90 rfl ?_
  refine g_i2b K X 92 at_91 rfl ?_
  refine g_bastore K X eh A 7 rfl (by decide) (((XT.ushrL v2 ((56 : Int32))).toInt32).toInt8.toInt32) (own_bb _) ge 93 at_92 rfl fun T h X eh W A => ?_
  refine g_aload K X 95 at_93 rfl rfl rfl ?_
  refine g_bipush K X (8 : Int32) 97 at_95 rfl rfl ?_
  refine g_iload K X 99 at_97 rfl rfl ?_
  refine g_i2b K X 100 at_99 rfl ?_
  refine g_bastore K X eh A 8 rfl (by decide) x3.toInt8.toInt32 (own_bb _) ge 101 at_100 rfl fun T h X eh W A => ?_
  refine g_aload K X 103 at_101 rfl rfl rfl ?_
  refine g_bipush K X (9 : Int32) 105 at_103 rfl rfl ?_
  refine g_iload K X 107 at_105 rfl rfl ?_
  refine g_bipush K X (8 : Int32) 109 at_107 rfl rfl ?_
  refine g_iushr K X 110 at_109 rfl ?_
  refine g_i2b K X 111 at_110 rfl ?_
  refine g_bastore K X eh A 9 rfl (by decide) ((XT.ushr x3 ((8 : Int32))).toInt8.toInt32) (own_bb _) ge 112 at_111 rfl fun T h X eh W A => ?_
  refine g_aload K X 114 at_112 rfl rfl rfl ?_
  refine g_bipush K X (10 : Int32) 116 at_114 rfl rfl ?_
  refine g_iload K X 118 at_116 rfl rfl ?_
  refine g_bipush K X (16 : Int32) 120 at_118 rfl rfl ?_
  refine g_iushr K X 121 at_120 rfl ?_
  refine g_i2b K X 122 at_121 rfl ?_
  refine g_bastore K X eh A 10 rfl (by decide) ((XT.ushr x3 ((16 : Int32))).toInt8.toInt32) (own_bb _) ge 123 at_122 rfl fun T h X eh W A => ?_
  refine g_aload K X 125 at_123 rfl rfl rfl ?_
  refine g_bipush K X (11 : Int32) 127 at_125 rfl rfl ?_
  refine g_iload K X 129 at_127 rfl rfl ?_
  refine g_bipush K X (24 : Int32) 131 at_129 rfl rfl ?_
  refine g_iushr K X 132 at_131 rfl ?_
  refine g_i2b K X 133 at_132 rfl ?_
  refine g_bastore K X eh A 11 rfl (by decide) ((XT.ushr x3 ((24 : Int32))).toInt8.toInt32) (own_bb _) ge 134 at_133 rfl fun T h X eh W A => ?_
  refine g_aload K X 136 at_134 rfl rfl rfl ?_
  refine g_iload K X 138 at_136 rfl rfl ?_
  refine g_lloadN K X 139 at_138 rfl rfl ?_
  refine g_l2i K X 140 at_139 rfl ?_
  refine g_i2b K X 141 at_140 rfl ?_
  obtain ⟨F, A⟩ : ∃ F, Ai Z h a .byte 12 F := ⟨_, A⟩
  refine g_bastore K X eh A k (own_i0 (Nat.lt_trans hk (by decide))) (by omega) v0.toInt32.toInt8.toInt32 (own_bb _) ge 142 at_141 rfl fun T h X eh W A => ?_
  refine g_aload K X 144 at_142 rfl rfl rfl ?_
  refine g_iload K X 146 at_144 rfl rfl ?_
  refine g_iconst K X (1 : Int32) 147 at_146 rfl rfl ?_
  refine g_iadd K X 148 at_147 rfl ?_
  refine g_lloadN K X 149 at_148 rfl rfl ?_
  refine g_bipush K X (8 : Int32) 151 at_149 rfl rfl ?_
  refine g_lushr K X 152 at_151 rfl ?_
  refine g_l2i K X 153 at_152 rfl ?_
  refine g_i2b K X 154 at_153 rfl ?_
  refine g_bastore K X eh A (k + 1) (own_ix (Nat.lt_trans hk (by decide)) (by decide) rfl) (by omega) (((XT.ushrL v0 ((8 : Int32))).toInt32).toInt8.toInt32) (own_bb _) ge 155 at_154 rfl fun T h X eh W A => ?_
  refine g_aload K X 157 at_155 rfl rfl rfl ?_
  refine g_iload K X 159 at_157 rfl rfl ?_
  refine g_iconst K X (2 : Int32) 160 at_159 rfl rfl ?_
  refine g_iadd K X 161 at_160 rfl ?_
  refine g_lloadN K X 162 at_161 rfl rfl ?_
  refine g_bipush K X (16 : Int32) 164 at_162 rfl rfl ?_
  refine g_lushr K X 165 at_164 rfl ?_
  refine g_l2i K X 166 at_165 rfl ?_
  refine g_i2b K X 167 at_166 rfl ?_
  refine g_bastore K X eh A (k + 2) (own_ix (Nat.lt_trans hk (by decide)) (by decide) rfl) (by omega) (((XT.ushrL v0 ((16 : Int32))).toInt32).toInt8.toInt32) (own_bb _) ge 168 at_167 rfl fun T h X eh W A => ?_
  refine g_aload K X 170 at_168 rfl rfl rfl ?_
  refine g_iload K X 172 at_170 rfl rfl ?_
  refine g_iconst K X (3 : Int32) 173 at_172 rfl rfl ?_
  refine g_iadd K X 174 at_173 rfl ?_
  refine g_lloadN K X 175 at_174 rfl rfl ?_
  refine g_bipush K X (24 : Int32) 177 at_175 rfl rfl ?_
  refine g_lushr K X 178 at_177 rfl ?_
  refine g_l2i K X 179 at_178 rfl ?_
  refine g_i2b K X 180 at_179 rfl ?_
  refine g_bastore K X eh A (k + 3) (own_ix (Nat.lt_trans hk (by decide)) (by decide) rfl) (by omega) (((XT.ushrL v0 ((24 : Int32))).toInt32).toInt8.toInt32) (own_bb _) ge 181 at_180 rfl fun T h X eh W A => ?_
  refine g_aload K X 183 at_181 rfl rfl rfl ?_
  refine g_iload K X 185 at_183 rfl rfl ?_
  refine g_iconst K X (4 : Int32) 186 at_185 rfl rfl ?_
  refine g_iadd K X 187 at_186 rfl ?_
  refine g_lloadN K X 188 at_187 rfl rfl ?_
  refine g_bipush K X (32 : Int32) 190 at_188 rfl rfl ?_
  refine g_lushr K X 191 at_190 rfl ?_
  refine g_l2i K X 192 at_191 rfl ?_
  refine g_i2b K X 193 at_192 rfl ?_
  refine g_bastore K X eh A (k + 4) (own_ix (Nat.lt_trans hk (by decide)) (by decide) rfl) (by omega) (((XT.ushrL v0 ((32 : Int32))).toInt32).toInt8.toInt32) (own_bb _) ge 194 at_193 rfl fun T h X eh W A => ?_
  refine g_aload K X 196 at_194 rfl rfl rfl ?_
  refine g_iload K X 198 at_196 rfl rfl ?_
  refine g_iconst K X (5 : Int32) 199 at_198 rfl rfl ?_
  refine g_iadd K X 200 at_199 rfl ?_
  refine g_lloadN K X 201 at_200 rfl rfl ?_
  refine g_bipush K X (40 : Int32) 203 at_201 rfl rfl ?_
  refine g_lushr K X 204 at_203 rfl ?_
  refine g_l2i K X 205 at_204 rfl ?_
  refine g_i2b K X 206 at_205 rfl ?_
  refine g_bastore K X eh A (k + 5) (own_ix (Nat.lt_trans hk (by decide)) (by decide) rfl) (by omega) (((XT.ushrL v0 ((40 : Int32))).toInt32).toInt8.toInt32) (own_bb _) ge 207 at_206 rfl fun T h X eh W A => ?_
  refine g_aload K X 209 at_207 rfl rfl rfl ?_
  refine g_iload K X 211 at_209 rfl rfl ?_
  refine g_bipush K X (6 : Int32) 213 at_211 rfl rfl ?_
  refine g_iadd K X 214 at_213 rfl ?_
  refine g_lloadN K X 215 at_214 rfl rfl ?_
  refine g_bipush K X (48 : Int32) 217 at_215 rfl rfl ?_
  refine g_lushr K X 218 at_217 rfl ?_
  refine g_l2i K X 219 at_218 rfl ?_
  refine g_i2b K X 220 at_219 rfl ?_
  refine g_bastore K X eh A (k + 6) (own_ix (Nat.lt_trans hk (by decide)) (by decide) rfl) (by omega) (((XT.ushrL v0 ((48 : Int32))).toInt32).toInt8.toInt32) (own_bb _) ge 221 at_220 rfl fun T h X eh W A => ?_
  refine g_aload K X 223 at_221 rfl rfl rfl ?_
  refine g_iload K X 225 at_223 rfl rfl ?_
  refine g_bipush K X (7 : Int32) 227 at_225 rfl rfl ?_
  refine g_iadd K X 228 at_227 rfl ?_
  refine g_lloadN K X 229 at_228 rfl rfl ?_
  refine g_bipush K X (56 : Int32) 231 at_229 rfl rfl ?_
  refine g_lushr K X 232 at_231 rfl ?_
  refine g_l2i K X 233 at_232 rfl ?_
  refine g_i2b K X 234 at_233 rfl ?_
  refine g_bastore K X eh A (k + 7) (own_ix (Nat.lt_trans hk (by decide)) (by decide) rfl) (by omega) (((XT.ushrL v0 ((56 : Int32))).toInt32).toInt8.toInt32) (own_bb _) ge 235 at_234 rfl fun T h X eh W A => ?_
  refine g_aload K X 237 at_235 rfl rfl rfl ?_
  refine g_iload K X 239 at_237 rfl rfl ?_
  obtain ⟨f, A, q0, q1, q2, q3, q4, q5, q6, q7⟩ : ∃ f, Ai Z h a .byte 12 f ∧ f k = v0.toInt32.toInt8.toInt32 ∧ f (k + 1) = (XT.ushrL v0 (8 : Int32)).toInt32.toInt8.toInt32 ∧ f (k + 2) = (XT.ushrL v0 (16 : Int32)).toInt32.toInt8.toInt32 ∧ f (k + 3) = (XT.ushrL v0 (24 : Int32)).toInt32.toInt8.toInt32 ∧ f (k + 4) = (XT.ushrL v0 (32 : Int32)).toInt32.toInt8.toInt32 ∧ f (k + 5) = (XT.ushrL v0 (40 : Int32)).toInt32.toInt8.toInt32 ∧ f (k + 6) = (XT.ushrL v0 (48 : Int32)).toInt32.toInt8.toInt32 ∧ f (k + 7) = (XT.ushrL v0 (56 : Int32)).toInt32.toInt8.toInt32 := ⟨_, A, by simp [upA], by simp [upA], by simp [upA], by simp [upA], by simp [upA], by simp [upA], by simp [upA], by simp [upA]⟩
  refine g_static K X eh rfl (met_le l Z a0 hw a f k hk h n0 A) (hw _ (List.mem_of_getElem? (i := 2) rfl)) (hw _ (List.mem_of_getElem? (i := 3) rfl)) (hw _ (List.mem_of_getElem? (i := 5) rfl)) (hw _ (List.mem_of_getElem? (i := 4) rfl)) (by decide) [.ref a, .int (Int32.ofNat k)] rfl rfl (lenOf pd_0 rfl) 242 at_239 rfl 0 (Nat.le_of_eq rfl) (by decide) (by decide) (by decide) (by decide) fun T v h' X eh hq => ?_
  subst hq
  refine g_eqJ (y := v0) (own_le v0 f k q0 q1 q2 q3 q4 q5 q6 q7) ?_
  refine g_lloadN K X 243 at_242 rfl rfl ?_
  refine g_lcmp K X 244 at_243 rfl ?_
  refine g_eqI (y := (0 : Int32)) (by simp [XT.cmpL, Int64.lt_irrefl]) ?_
  refine g_ifF K X 247 at_244 rfl (show ¬ (¬ ((0 : Int32)) = 0) from (fun q => q rfl)) ?_
  refine g_iconst K X (1 : Int32) 248 at_247 rfl rfl ?_
  refine g_goto K X 252 at_248 rfl ?_
  exact g_retN K X eh rfl (t := .boolean) (by simp) ((1 : Int32)) rfl at_252 (by decide) (by decide) rfl
set_option maxRecDepth 65536 in
set_option maxHeartbeats 40000000 in
theorem comes_1 {Post : Tables → Env → Array Value → State → Outcome → State → Prop} (hpost : ∀ tb e args s v u, (limb_1_1.after args s (.returned v) u = true ∧ limb_1_2.after args s (.returned v) u = true ∧ True) → FrameEnd s (.returned v) u (Jvm.fieldLocs frame_1_writes args s ++ Jvm.arrayLocs frame_1_arrays args s ++ Jvm.staticLocs frame_1_statics s) 16 128 → Post tb e args s (.returned v) u) :
    ArmFor flags0 classFile x code maxLocals ret World_1 tables_1 room_1 Calls_1 rest_1 Pre_1 Post := by
  intro l hfl _ _ p e ha hc hk s m args below hf hA hF happ hP
  obtain ⟨hcalls, hrest, hpre⟩ := hP
  obtain ⟨-, -, -, hnamed, -, -, -, hat⟩ := (Spec.applies_iff hf).mp happ
  obtain ⟨hg, hn⟩ := and_e (Cond.before_iff.mp (show (Jvm.Cond.and given_1 narrow_1).before args s = true from hpre))
  obtain ⟨h1, h2⟩ := and_e hg
  obtain ⟨w0, w1, w2, w3, rfl⟩ : ∃ w0 w1 w2 w3 : Value, args = #[w0, w1, w2, w3] := by
    have hs : args.size = 4 := by simpa [Cond.value, given_1] using h1
    obtain ⟨L⟩ := args
    match L, hs with
    | [w0, w1, w2, w3], _ => exact ⟨w0, w1, w2, w3, rfl⟩
  have hw := fun d (hd : d ∈ tables_1) => atoms_spec (ws := Jvm.Cond.code x code maxLocals ret :: tables_1) hat d (List.mem_cons_of_mem _ hd)
  obtain ⟨g0, r0⟩ := and_e h2
  obtain ⟨i0, e0⟩ := isL_v g0
  obtain rfl : w0 = (.long i0) := Option.some.inj e0
  obtain ⟨g1, r1⟩ := and_e r0
  obtain ⟨i1, e1⟩ := is_v g1
  obtain rfl : w1 = (.int i1) := Option.some.inj e1
  obtain ⟨g2, r2⟩ := and_e r1
  obtain ⟨i2, e2⟩ := isL_v g2
  obtain rfl : w2 = (.long i2) := Option.some.inj e2
  obtain ⟨i3, e3⟩ := is_v r2
  obtain rfl : w3 = (.int i3) := Option.some.inj e3
  obtain ⟨n, o, h1, h2, h3, _, L, rfl, ⟨rfl, N⟩, hq⟩ := met_law l s _ hw i0 i1 i2 i3 s.heap s.heap.size (Nat.le_refl _) p e ha hc hk s m _ below hf ((Spec.applies_iff_loose hf).mp happ).1 ⟨rfl, State.Warmed39.refl s, rfl⟩ trivial
  refine ⟨n, _, h1, h2, h3, hpost _ _ _ _ _ _ ⟨Cond.after_iff.mpr rfl, Cond.after_iff.mpr (eq_i res_at (Term.int_eval (1)) rfl), trivial⟩ ⟨hq.1, hq.2.1, (hq.2.2.sift fun y hy => Or.inr (N y hy)).mono (by decide) (by decide)⟩⟩
theorem main_1_1 : Claimed_1_1 := comes_1 fun _ _ _ _ _ _ h hF => ⟨h.1, hF⟩
theorem main_1_2 : Claimed_1_2 := comes_1 fun _ _ _ _ _ _ h hF => ⟨h.2.1, hF⟩
end Jvm.Pilot.@@N@@
namespace Jvm.Pilot.@@N@@
open Jvm Jvm.ClassFile Sem Op Lib Jvm.Free Jvm.Stand Jvm.Pilot.@@N@@.Jvm.D
/-! MADE BY PROGRAM (witnessworld.py) out of the Statement's table words and the real class files: 9 classes; the members and pool entries that the words name. The judged class is class 1, her method 1. -/
namespace start1
open Jvm.ClassFile
def u (s : String) : CpInfo := .utf8 (stringToUtf16 s)
/-- a pool by its gaps: so many unusable entries, then the entry; so many at the end -/
def gap : Nat → List CpInfo → List CpInfo
  | 0, r => r
  | n + 1, r => .unusable :: gap n r
def poolList (es : List (Nat × CpInfo)) (last : Nat) : List CpInfo := es.foldr (fun e r => gap e.1 (e.2 :: r)) (gap last [])
def pool (es : List (Nat × CpInfo)) (last : Nat) : Array CpInfo := ⟨poolList es last⟩
def fileOf (pool : Array CpInfo) (this : Nat) (attrs : Array Attribute := #[]) (ms : Array MethodInfo := #[]) (fl : Nat := 33) (sup : Nat := 0) (ifs : Array Nat := #[]) (fds : Array FieldInfo := #[]) : ClassFile where
  minorVersion := 0
  majorVersion := 65
  constantPool := pool
  accessFlags := fl
  thisClass := this
  superClass := sup
  interfaces := ifs
  fields := fds
  methods := ms
  attributes := attrs
def plain (name : String) (sup : Option ClassId) : Class where
  name := name
  kind := .ordinary
  loader := none
  accessFlags := 33
  super := sup
  interfaces := #[]
  cf := none
  fields := #[]
  methods := #[]
  instanceTypes := #[]
  staticTypes := #[]
  resolved := #[]
  callSites := []
  init := .initialized
  statics := none
  mirror := none

def pool0 : Array CpInfo := pool [(5, u "<init>"), (0, u "()V"), (1, .class_ 10), (1, u "java/lang/Object")] 113

def k0m0 : Method := { name := "<init>", desc := "()V", sig := { parameters := [], returnType := none }, accessFlags := 1, code := none }
/-- java/lang/Object -/
def k0 : Class := { plain "java/lang/Object" none with
  accessFlags := 33
  interfaces := #[]
  cf := some (fileOf pool0 8 #[] #[{ accessFlags := 1, nameIndex := 5, descriptorIndex := 6, attributes := #[] }] 33 0 #[] #[])
  fields := #[]
  methods := #[k0m0]
  instanceTypes := #[]
  staticTypes := #[]
  resolved := Array.replicate 124 none
  statics := none }

def pool1 : Array CpInfo := pool [(2, .class_ 4), (1, u "java/lang/Object"), (0, u "<init>"), (0, u "()V"), (0, .integer 2147483647), (0, .methodref 9 10), (0, .class_ 11), (0, .nameAndType 12 13), (0, u "com/example/bucketfold/bucketfold/KeyHash"), (0, u "littleEndianLong"), (0, u "([BI)J"), (0, .class_ 15), (0, u "com/example/bucketfold/bucketfold/KeyHashLittleEndianLongPinLaw"), (2, u "law"), (0, u "(JIJI)Z")] 5

def k1m0 : Method := { name := "<init>", desc := "()V", sig := { parameters := [], returnType := none }, accessFlags := 1, code := none }
def k1c1 : Code := { maxStack := 5, maxLocals := 8, code := code, exceptionTable := #[], attributes := #[] }
def k1m1 : Method := { name := "law", desc := "(JIJI)Z", sig := { parameters := [.long, .int, .long, .int], returnType := some .boolean }, accessFlags := 9, code := some k1c1 }
/-- com/example/bucketfold/bucketfold/KeyHashLittleEndianLongPinLaw -/
def k1 : Class := { plain "com/example/bucketfold/bucketfold/KeyHashLittleEndianLongPinLaw" (some 0) with
  accessFlags := 49
  interfaces := #[]
  cf := some (fileOf pool1 14 #[] #[{ accessFlags := 1, nameIndex := 5, descriptorIndex := 6, attributes := #[] }, { accessFlags := 9, nameIndex := 18, descriptorIndex := 19, attributes := #[] }] 49 2 #[] #[])
  fields := #[]
  methods := #[k1m0, k1m1]
  instanceTypes := #[]
  staticTypes := #[]
  resolved := Array.replicate 25 none
  statics := none }

def pool2 : Array CpInfo := pool [(4, .class_ 6), (1, u "java/lang/Object"), (3, .class_ 12), (1, u "com/example/bucketfold/bucketfold/KeyHash"), (0, u "seed"), (0, u "J"), (58, u "littleEndianLong"), (0, u "([BI)J"), (8, .long 255), (1, u "BITS"), (0, u "I"), (2, u "RANDOM_DEVICE"), (0, u "Ljava/lang/String;")] 12

def k2c0 : Code := { maxStack := 6, maxLocals := 2, code := prog_61_method_10_code, exceptionTable := #[], attributes := #[] }
def k2m0 : Method := { name := "littleEndianLong", desc := "([BI)J", sig := { parameters := [(.array .byte), .int], returnType := some .long }, accessFlags := 8, code := some k2c0 }
/-- com/example/bucketfold/bucketfold/KeyHash -/
def k2 : Class := { plain "com/example/bucketfold/bucketfold/KeyHash" (some 0) with
  accessFlags := 48
  interfaces := #[]
  cf := some (fileOf pool2 10 #[] #[{ accessFlags := 8, nameIndex := 73, descriptorIndex := 74, attributes := #[] }] 48 4 #[] #[{ accessFlags := 24, nameIndex := 85, descriptorIndex := 86, attributes := #[] }, { accessFlags := 26, nameIndex := 89, descriptorIndex := 90, attributes := #[] }, { accessFlags := 18, nameIndex := 13, descriptorIndex := 14, attributes := #[] }])
  fields := #[{ name := "BITS", type := .int, accessFlags := 24, slot := 0, constantValue := 0 }, { name := "RANDOM_DEVICE", type := (.object "java/lang/String"), accessFlags := 26, slot := 1, constantValue := 0 }, { name := "seed", type := .long, accessFlags := 18, slot := 0, constantValue := 0 }]
  methods := #[k2m0]
  instanceTypes := #[.long]
  staticTypes := #[.int, (.object "java/lang/String")]
  resolved := Array.replicate 103 none
  statics := none }

def pool3 : Array CpInfo := pool [(1, u "java/lang/Cloneable"), (0, .class_ 1), (0, u "java/lang/Object"), (0, .class_ 3)] 3

/-- java/lang/Cloneable -/
def k3 : Class := { plain "java/lang/Cloneable" (some 0) with
  accessFlags := 1537
  interfaces := #[]
  cf := some (fileOf pool3 2 #[] #[] 1537 4 #[] #[])
  fields := #[]
  methods := #[]
  instanceTypes := #[]
  staticTypes := #[]
  resolved := Array.replicate 8 none
  statics := none }

def pool4 : Array CpInfo := pool [(1, u "java/io/Serializable"), (0, .class_ 1), (0, u "java/lang/Object"), (0, .class_ 3)] 3

/-- java/io/Serializable -/
def k4 : Class := { plain "java/io/Serializable" (some 0) with
  accessFlags := 1537
  interfaces := #[]
  cf := some (fileOf pool4 2 #[] #[] 1537 4 #[] #[])
  fields := #[]
  methods := #[]
  instanceTypes := #[]
  staticTypes := #[]
  resolved := Array.replicate 8 none
  statics := none }

/-- the primitive byte -/
def k5 : Class := { plain "byte" none with kind := .primitive 'B', accessFlags := 0x411 }
/-- [B -/
def k6 : Class := { plain "[B" (some 0) with kind := .array 5 .byte, interfaces := #[3, 4], accessFlags := 1041 }

/-- the primitive int -/
def k7 : Class := { plain "int" none with kind := .primitive 'I', accessFlags := 0x411 }
/-- [I -/
def k8 : Class := { plain "[I" (some 0) with kind := .array 7 .int, interfaces := #[3, 4], accessFlags := 1041 }

def heap : Heap := #[]
def classes : Array Class := #[k0, k1, k2, k3, k4, k5, k6, k7, k8]
def interned : List (Array UInt16 × Addr) := []
def slotsUsed : Nat := 0
def theMethod : MethodId := ⟨1, 1⟩
def args0 : Array Value := #[.long 5, .int 7, .long 9, .int 3]
def aboutOver (below : List Frame) : State where
  vm := { classes := classes, interned := interned.toArray }
  heap := heap
  slotsUsed := slotsUsed
  threads := #[{ frames := .invoking theMethod args0 :: below }]
def below0 : List Frame := [.native { method := ⟨0, 0⟩, args := #[] }]
def about1 : State := aboutOver below0
def p0 : Program := .bare "" "" ""
def e0 : Env := launch0.env 0 0 0
theorem w_frames : about1.frames = Frame.invoking theMethod args0 :: below0 := rfl
set_option maxRecDepth 65536 in
theorem w_args : argsFit about1.vm theMethod args0 = true := by decide +kernel
set_option maxRecDepth 65536 in
theorem w_heap : heapFits about1 = true := by decide +kernel
set_option maxRecDepth 65536 in
theorem w_runnable : about1.curStatus? = some .runnable := by decide +kernel
set_option maxRecDepth 65536 in
theorem w_alone : about1.alone = true := by decide +kernel
set_option maxRecDepth 65536 in
theorem w_named : about1.methodNamed? x = some theMethod := by decide +kernel
set_option maxRecDepth 65536 in
theorem w_hears : about1.hears theMethod below0 = true := by decide +kernel
set_option maxRecDepth 65536 in
theorem w_ripe : about1.ripe theMethod args0 below0 = true := by decide +kernel
theorem w_running : about1.status = .running := rfl
set_option maxRecDepth 65536 in
theorem w_room : about1.hasRoom e0.platform room_1 = true :=
  launch0.hasRoom_least _ room_1 (by decide +kernel) (by decide +kernel) (by decide +kernel) (by decide +kernel) (by decide +kernel) (by decide +kernel)
theorem allAtoms_all (ts : List Jvm.Cond) (a : Array Jvm.Value) (st : Jvm.State) : (allAtoms ts).before a st = ts.all (fun c => c.before a st) := by
  induction ts with
  | nil => rfl
  | cons c t ih =>
    show (Jvm.Cond.and c (allAtoms t)).before a st = _
    rw [Jvm.Cond.before_and, ih, List.all_cons]
def words1 : List Jvm.Cond := Jvm.Cond.code x code maxLocals ret :: tables_1
/-- a 'code' word, met by the world's own term for the bytes: nothing is compared byte by byte -/
theorem code_word {y : MethodName} {bytes : ByteArray} {mx : Nat} {rt : Option FieldType} {a : Array Value} {s : State} {m : MethodId} {meth : Method} {c : Code} (h1 : s.methodNamed? y = some m) (h2 : s.vm.method? m = some meth) (h3 : meth.code = some c) (h4 : c.code = bytes)
    (h5 : (c.maxLocals == mx && c.exceptionTable.isEmpty && decide (c.maxStack ≤ mostOperands) && decide (meth.sig.returnType = rt) && !meth.locks && decide (parseMethodDescriptor y.desc = some meth.sig)) = true) : (Jvm.Cond.code y bytes mx rt).before a s = true := by
  simp only [Bool.and_eq_true, beq_iff_eq, Bool.not_eq_true', decide_eq_true_eq] at h5
  obtain ⟨⟨⟨⟨⟨g1, g2⟩, g3⟩, g4⟩, g5⟩, g6⟩ := h5
  simp [Cond.before, Cond.holds, Cond.value, h1, h2, h3, h4, g1, g2, g3, g4, g5, g6]
def isCode : Jvm.Cond → Bool
  | .code _ _ _ _ => true
  | _ => false
theorem all_split {L : List Jvm.Cond} {P : Jvm.Cond → Bool} (h1 : L.all (fun c => isCode c || P c) = true) (h2 : ∀ c ∈ L.filter isCode, P c = true) : L.all P = true := by
  refine List.all_eq_true.mpr fun c hc => ?_
  have h := List.all_eq_true.mp h1 c hc
  rcases Bool.eq_false_or_eq_true (isCode c) with hi | hi
  · exact h2 c (List.mem_filter.mpr ⟨hc, hi⟩)
  · simpa [hi] using h
set_option maxRecDepth 65536 in
theorem w_c0 : (Jvm.Cond.code x code maxLocals ret).before args0 about1 = true := code_word (m := ⟨1, 1⟩) (meth := k1m1) (c := k1c1) (by decide +kernel) rfl rfl rfl (by decide +kernel)
set_option maxRecDepth 65536 in
theorem w_c1 : (Jvm.Cond.code ({ cls := "com/example/bucketfold/bucketfold/KeyHash", name := "littleEndianLong", desc := "([BI)J" } : Jvm.MethodName) prog_61_method_10_code (2 : Nat) (Option.some Jvm.ClassFile.FieldType.long)).before args0 about1 = true := code_word (m := ⟨2, 0⟩) (meth := k2m0) (c := k2c0) (by decide +kernel) rfl rfl rfl (by decide +kernel)
def codes1 : List Jvm.Cond := [Jvm.Cond.code x code maxLocals ret, Jvm.Cond.code ({ cls := "com/example/bucketfold/bucketfold/KeyHash", name := "littleEndianLong", desc := "([BI)J" } : Jvm.MethodName) prog_61_method_10_code (2 : Nat) (Option.some Jvm.ClassFile.FieldType.long)]
set_option maxRecDepth 65536 in
theorem codes_eq : words1.filter isCode = codes1 := rfl
theorem w_codes : ∀ c ∈ words1.filter isCode, c.before args0 about1 = true := by
  rw [codes_eq]
  intro c hc
  simp only [codes1, List.mem_cons, List.not_mem_nil, or_false] at hc
  rcases hc with rfl | rfl
  · exact w_c0
  · exact w_c1
set_option maxRecDepth 65536 in
theorem w_t1 : words1.all (fun c => isCode c || c.before args0 about1) = true := by decide +kernel
theorem w_tables : (allAtoms (Jvm.Cond.code x code maxLocals ret :: tables_1)).before args0 about1 = true := by
  rw [allAtoms_all]
  show words1.all (fun c => c.before args0 about1) = true
  refine all_split ?_ w_codes
  rw [w_t1]
set_option maxRecDepth 65536 in
theorem w_case : (Jvm.Cond.and given_1 narrow_1).before args0 about1 = true := by decide +kernel
theorem w_applies : (headSpec (Jvm.Cond.code x code maxLocals ret :: tables_1) room_1).applies x e0.platform about1 = true :=
  (Spec.applies_iff w_frames).mpr ⟨w_running, w_runnable, w_alone, w_named, w_hears, w_ripe, w_room, w_tables⟩
theorem atStart : AtStart classFile x code maxLocals ret World_1 tables_1 room_1 Calls_1 rest_1 Pre_1 launch0 p0 e0 about1 theMethod args0 below0 :=
  ⟨lists_1, trivial, launch0.admits_env _ _ _, launch0.least_env, fairChoices_fair.cas, fairChoices_fair.clock, w_frames, w_args, w_heap, w_applies, trivial, trivial, w_case⟩
end start1
theorem witness_1 : WitnessClaimed_1 := ⟨start1.p0, start1.e0, start1.about1, start1.theMethod, start1.args0, start1.below0, start1.atStart⟩
end Jvm.Pilot.@@N@@
