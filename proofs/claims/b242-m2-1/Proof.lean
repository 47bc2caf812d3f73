import JvmDerived
import JvmDerived.Pilot.@@N@@Statement
import JvmDerived.Pilot.@@N@@Code
set_option linter.unusedVariables false
set_option linter.unusedSimpArgs false
namespace Jvm.OwnGo
open Sem ClassFile Op Lib Jvm.Stand Jvm.Free Jvm.LawKit Jvm.RoadKit
/-- what is known of the body that is walked -/
def Cx (p : Program) (s : State) (m : MethodId) (meth : Method) (c : Code) (Z : State) (own nm : String) (bs : ByteArray) (ml : Nat) (rt : Option FieldType) : Prop :=
  p.tables.exec = Jvm.exec ∧ Z.Warmed39 s.vm ∧ c.code = bs ∧ c.maxLocals = ml ∧ s.vm.findClass own = some m.cls ∧ meth.name = nm ∧ meth.sig.returnType = rt ∧ meth.locks = false
/-- where the walk stands: every place that it has written lies in a cell at or above n0 -/
def Sd (p : Program) (l : Launch) (e : Env) (R : Room) (s : State) (m : MethodId) (args : Array Value) (below : List Frame) (meth : Method) (c : Code) (n0 : Nat) (T : State) (cells slots : Nat) : Prop :=
  ∃ locs, Stand p l e R s m args below meth c T locs cells slots ∧ Fr n0 locs
/-- the walk from t ends: it returns, Q holds of the value and the heap, at most C cells of N slots are made -/
def Go (p : Program) (e : Env) (below : List Frame) (s : State) (n0 : Nat) (Q : Option Value → Heap → Prop) (C N : Nat) (t : State) : Prop :=
  ∃ s₂ o, Steps p.tables e below t s₂ ∧ s₂.status = .running ∧ Ended s₂ below o ∧ ∃ v L, o = .returned v ∧ (Q v s₂.heap ∧ Fr n0 L) ∧ FrameEnd s o s₂ L C N
/-- a method's contract at these arguments and this heap -/
def Met (l : Launch) (Z : State) (y : MethodName) (bytes : ByteArray) (maxL : Nat) (ret : Option FieldType) (ws : List Jvm.Cond) (rm : Room) (as' : Array Value) (h : Heap) (n0 : Nat) (Q : Option Value → Heap → Prop) : Prop :=
  MetFree l y (head1 (Cond.code y bytes maxL ret :: ws) rm) (fun a U => a = as' ∧ Z.Warmed39 U.vm ∧ U.heap = h) (fun _ _ _ _ _ => True) (fun _ U o U' => ∃ v L, o = .returned v ∧ (Q v U'.heap ∧ Fr n0 L) ∧ FrameEnd U o U' L rm.cells rm.slots)
theorem Met.of {l : Launch} {Z : State} {y : MethodName} {bytes : ByteArray} {maxL : Nat} {ret : Option FieldType} {ws : List Jvm.Cond} {rm : Room} {as' : Array Value} {h : Heap} {n0 : Nat} {Q : Option Value → Heap → Prop} (hpn : plainFor y = true) (Ls : Array Slot) (hef : ∀ m, entryFrame m as' maxL = mkF m 0 Ls [])
    (body : ∀ p e s m below meth c T, Cx p s m meth c Z y.cls y.name bytes maxL ret → Sd p l e rm s m as' below meth c n0 T 0 0 → T.heap = h → Go p e below s n0 Q rm.cells rm.slots (T.setTop (mkF m 0 Ls []))) : Met l Z y bytes maxL ret ws rm as' h n0 Q := by
  refine MetFree.of_bodySF hpn hisR ?_
  intro p e s m args below meth c s₁ Bd hml0 hP hK
  obtain ⟨rfl, hZ, hh⟩ := hP
  obtain ⟨s₂, o, h1, h2, h3, h4⟩ := body p e s m below meth c s₁ ⟨Bd.exec, hZ, Bd.bytes, hml0, findClass_of_methodNamed Bd.named, (name_of_methodNamed Bd.named Bd.method).1, Bd.returns, Bd.notSynchronized⟩ ⟨[], Stand.of_body Bd, Fr.nil n0⟩ (by rw [← hh, Bd.state]; rfl)
  exact ⟨s₂, o, castTop (hef m) h1, h2, h3, h4⟩
theorem Met.mono {l : Launch} {Z : State} {y : MethodName} {bytes : ByteArray} {maxL : Nat} {ret : Option FieldType} {ws : List Jvm.Cond} {rm : Room} {as' : Array Value} {h : Heap} {n0 : Nat} {Q Q' : Option Value → Heap → Prop} (M : Met l Z y bytes maxL ret ws rm as' h n0 Q) (hQ : ∀ v g, Q v g → Q' v g) : Met l Z y bytes maxL ret ws rm as' h n0 Q' := by
  intro p e ha hc hk s m args below hf happ hP hK
  obtain ⟨n, o, h1, h2, h3, v, L, h4, h5, h6⟩ := M p e ha hc hk s m args below hf happ hP hK
  exact ⟨n, o, h1, h2, h3, v, L, h4, ⟨hQ _ _ h5.1, h5.2⟩, h6⟩
/-- what a branch asks -/
def cdP : ClassFile.Cond → Int32 → Int32 → Prop
  | .eq, x, y => x = y
  | .ne, x, y => ¬ x = y
  | .lt, x, y => x < y
  | .ge, x, y => ¬ x < y
  | .gt, x, y => y < x
  | .le, x, y => ¬ y < x
theorem cdT {cd : ClassFile.Cond} {x y : Int32} (h : cdP cd x y) : if_icmp.holds cd x y = true := by
  cases cd <;> simp only [cdP] at h
  · exact (teq h).1
  · exact (feq h).2
  · exact (tlt h).1
  · exact (flt h).2.1
  · exact (tlt h).2.2.1
  · exact (flt h).2.2.2
theorem cdF {cd : ClassFile.Cond} {x y : Int32} (h : ¬ cdP cd x y) : if_icmp.holds cd x y = false := by
  cases cd <;> simp only [cdP, Classical.not_not] at h
  · exact (feq h).1
  · exact (teq h).2
  · exact (flt h).1
  · exact (tlt h).2.1
  · exact (flt h).2.2.1
  · exact (tlt h).2.2.2
/-- an array of ints (or bytes, booleans, chars, shorts): n places, place j holds f j -/
def Ai (Z : State) (h : Heap) (a : Addr) (ty : FieldType) (n : Nat) (f : Nat → Int32) : Prop :=
  ∃ c : Cell, Arr Z h a c ty ∧ c.slots.size = n ∧ n < 2 ^ 31 ∧ ∀ j, j < n → c.slots[j]? = some (.int (f j))
def upA (f : Nat → Int32) (k : Nat) (x : Int32) : Nat → Int32 := fun j => if j = k then x else f j
theorem upA_same (f : Nat → Int32) (k : Nat) (x : Int32) : upA f k x k = x := if_pos rfl
theorem upA_other {f : Nat → Int32} {k j : Nat} {x : Int32} (h : j ≠ k) : upA f k x j = f j := if_neg h
theorem idx_ok {j : Int32} {k n : Nat} (hj : j.toInt = (k : Int)) (hk : k < n) : ¬ (j < 0 ∨ n ≤ j.toNatClampNeg) ∧ j.toNatClampNeg = k := by
  have e : j.toNatClampNeg = k := by rw [Int32.toNatClampNeg, hj]; rfl
  refine ⟨fun q => q.elim (fun q => ?_) (fun q => by omega), e⟩
  rw [Int32.lt_iff_toInt_lt, hj, show (0 : Int32).toInt = 0 from rfl] at q
  omega
section Facts
variable {Z : State} {h h' : Heap} {a b : Addr} {ty : FieldType} {n sl : Nat} {f : Nat → Int32} {v : Value} {ws : List Addr}
theorem Ai.lt (F : Ai Z h a ty n f) : a < h.size := by obtain ⟨c, A, -⟩ := F; exact A.lt
theorem Ai.ext (F : Ai Z h a ty n f) (E : Ext h h') : Ai Z h' a ty n f := by obtain ⟨c, A, r⟩ := F; exact ⟨c, A.ext E, r⟩
theorem Ai.other (F : Ai Z h b ty n f) (W : Wr h h' a sl v) (q : b ≠ a) : Ai Z h' b ty n f := by obtain ⟨c, A, r⟩ := F; exact ⟨c, A.other W q, r⟩
theorem Ai.keep (F : Ai Z h a ty n f) (K : Keep h h' ws) (q : a ∉ ws) : Ai Z h' a ty n f := by obtain ⟨c, A, r⟩ := F; exact ⟨c, ⟨K.2.1 a c A.1 q, A.2⟩, r⟩
theorem keepMore {ws' : List Addr} (K : Keep h h' ws) (q : ∀ x ∈ ws, x ∈ ws') : Keep h h' ws' := ⟨K.1, fun x c h1 h2 => K.2.1 x c h1 (fun h3 => h2 (q x h3)), K.2.2⟩
theorem Ai.set {k : Nat} {x : Int32} (F : Ai Z h a ty n f) (W : Wr h h' a k (.int x)) : Ai Z h' a ty n (upA f k x) := by
  obtain ⟨c, A, S, B, H⟩ := F
  refine ⟨_, A.same W, by rw [sz_set]; exact S, B, fun j hj => ?_⟩
  by_cases q : j = k
  · subst q
    rw [upA_same]
    simp [Cell.setSlot, S, hj]
  · rw [upA_other q, ← H j hj]
    exact Array.getElem?_setIfInBounds_ne (fun e => q e.symm)
theorem Ai.congr {g : Nat → Int32} (F : Ai Z h a ty n f) (q : ∀ j, j < n → f j = g j) : Ai Z h a ty n g := by
  obtain ⟨c, A, S, B, H⟩ := F
  exact ⟨c, A, S, B, fun j hj => by rw [H j hj, q j hj]⟩
theorem Ai.new {k : ClassId} {z : Int32} {n : Nat} (A : Arr Z h a (newA k ty z) ty) (hz : z.toInt = (n : Int)) (hn : n < 2 ^ 31) (hd : defaultValue ty = .int 0) : Ai Z h a ty n (fun _ => 0) := by
  have e : z.toNatClampNeg = n := by rw [Int32.toNatClampNeg, hz]; rfl
  exact ⟨_, A, by rw [sz_new, e], hn, fun j hj => by simp [newA, e, hj, hd]⟩
end Facts
section Go
variable {p : Program} {l : Launch} {e : Env} {R : Room} {s : State} {m : MethodId} {args : Array Value} {below : List Frame} {meth : Method} {c : Code} {T : State} {cells slots : Nat} {Z : State} {a0 : Array Value} {h : Heap} {own nm : String} {bs : ByteArray} {ml : Nat} {rt : Option FieldType} {n0 : Nat} {Q : Option Value → Heap → Prop} {C N : Nat} {pc : Nat} {Ls : Array Slot} {st : List Value}
theorem Go.step {t t' : State} (hs : ∀ target, Steps p.tables e below t' target → Steps p.tables e below t target) (g : Go p e below s n0 Q C N t') : Go p e below s n0 Q C N t := by
  obtain ⟨s₂, o, h1, r⟩ := g
  exact ⟨s₂, o, hs _ h1, r⟩
theorem Go.trans {t t' : State} (hs : Steps p.tables e below t t') (g : Go p e below s n0 Q C N t') : Go p e below s n0 Q C N t := by
  obtain ⟨s₂, o, h1, r⟩ := g
  exact ⟨s₂, o, hs.trans h1, r⟩
theorem Go.mono {Q' : Option Value → Heap → Prop} {t : State} (g : Go p e below s n0 Q C N t) (hQ : ∀ v k, Q v k → Q' v k) : Go p e below s n0 Q' C N t := by
  obtain ⟨s₂, o, h1, h2, h3, v, L, h4, h5, h6⟩ := g
  exact ⟨s₂, o, h1, h2, h3, v, L, h4, ⟨hQ _ _ h5.1, h5.2⟩, h6⟩
theorem g_eqI {x y : Int32} (q : x = y) (hr : Go p e below s n0 Q C N (T.setTop (mkF m pc Ls (.int y :: st)))) : Go p e below s n0 Q C N (T.setTop (mkF m pc Ls (.int x :: st))) := q ▸ hr
theorem g_eqJ {x y : Int64} (q : x = y) (hr : Go p e below s n0 Q C N (T.setTop (mkF m pc Ls (.long y :: st)))) : Go p e below s n0 Q C N (T.setTop (mkF m pc Ls (.long x :: st))) := q ▸ hr
theorem g_aloadN (K : Cx p s m meth c Z own nm bs ml rt) (X : Sd p l e R s m args below meth c n0 T cells slots) {k : Fin 4} {v : Value} (pc' : Nat) (hd : decode bs pc = .ok (.aload_n k, 1)) (hp : pc + 1 = pc') (hl : Ls[k.val]? = some (.val v)) (hv : v.isRef = true)
    (hr : Go p e below s n0 Q C N (T.setTop (mkF m pc' Ls (v :: st)))) : Go p e below s n0 Q C N (T.setTop (mkF m pc Ls (st))) := by
  obtain ⟨locs, Y, -⟩ := X
  obtain ⟨hx, -, hby, -⟩ := K
  subst hp
  exact Go.step (fun _ k => XS.aloadN Y.here hx (g := mkF m pc Ls (st)) rfl (hb hby hd) hl hv k) hr
theorem g_aload (K : Cx p s m meth c Z own nm bs ml rt) (X : Sd p l e R s m args below meth c n0 T cells slots) {k : Nat} {v : Value} (pc' : Nat) (hd : decode bs pc = .ok (.aload k, 2)) (hp : pc + 2 = pc') (hl : Ls[k]? = some (.val v)) (hv : v.isRef = true)
    (hr : Go p e below s n0 Q C N (T.setTop (mkF m pc' Ls (v :: st)))) : Go p e below s n0 Q C N (T.setTop (mkF m pc Ls (st))) := by
  obtain ⟨locs, Y, -⟩ := X
  obtain ⟨hx, -, hby, -⟩ := K
  subst hp
  exact Go.step (fun _ k => XS.aload Y.here hx (g := mkF m pc Ls (st)) rfl (hb hby hd) hl hv k) hr
theorem g_iloadN (K : Cx p s m meth c Z own nm bs ml rt) (X : Sd p l e R s m args below meth c n0 T cells slots) {k : Fin 4} {v : Int32} (pc' : Nat) (hd : decode bs pc = .ok (.iload_n k, 1)) (hp : pc + 1 = pc') (hl : Ls[k.val]? = some (.val (.int v)))
    (hr : Go p e below s n0 Q C N (T.setTop (mkF m pc' Ls (.int v :: st)))) : Go p e below s n0 Q C N (T.setTop (mkF m pc Ls (st))) := by
  obtain ⟨locs, Y, -⟩ := X
  obtain ⟨hx, -, hby, -⟩ := K
  subst hp
  exact Go.step (fun _ k => XS.iloadN Y.here hx (g := mkF m pc Ls (st)) rfl (hb hby hd) hl k) hr
theorem g_iload (K : Cx p s m meth c Z own nm bs ml rt) (X : Sd p l e R s m args below meth c n0 T cells slots) {k : Nat} {v : Int32} (pc' : Nat) (hd : decode bs pc = .ok (.iload k, 2)) (hp : pc + 2 = pc') (hl : Ls[k]? = some (.val (.int v)))
    (hr : Go p e below s n0 Q C N (T.setTop (mkF m pc' Ls (.int v :: st)))) : Go p e below s n0 Q C N (T.setTop (mkF m pc Ls (st))) := by
  obtain ⟨locs, Y, -⟩ := X
  obtain ⟨hx, -, hby, -⟩ := K
  subst hp
  exact Go.step (fun _ k => XS.iload Y.here hx (g := mkF m pc Ls (st)) rfl (hb hby hd) hl k) hr
theorem g_lloadN (K : Cx p s m meth c Z own nm bs ml rt) (X : Sd p l e R s m args below meth c n0 T cells slots) {k : Fin 4} {v : Int64} (pc' : Nat) (hd : decode bs pc = .ok (.lload_n k, 1)) (hp : pc + 1 = pc') (hl : Ls[k.val]? = some (.val (.long v)))
    (hr : Go p e below s n0 Q C N (T.setTop (mkF m pc' Ls (.long v :: st)))) : Go p e below s n0 Q C N (T.setTop (mkF m pc Ls (st))) := by
  obtain ⟨locs, Y, -⟩ := X
  obtain ⟨hx, -, hby, -⟩ := K
  subst hp
  exact Go.step (fun _ k => XT.lloadN Y.here hx (g := mkF m pc Ls (st)) rfl (hb hby hd) hl k) hr
theorem g_lload (K : Cx p s m meth c Z own nm bs ml rt) (X : Sd p l e R s m args below meth c n0 T cells slots) {k : Nat} {v : Int64} (pc' : Nat) (hd : decode bs pc = .ok (.lload k, 2)) (hp : pc + 2 = pc') (hl : Ls[k]? = some (.val (.long v)))
    (hr : Go p e below s n0 Q C N (T.setTop (mkF m pc' Ls (.long v :: st)))) : Go p e below s n0 Q C N (T.setTop (mkF m pc Ls (st))) := by
  obtain ⟨locs, Y, -⟩ := X
  obtain ⟨hx, -, hby, -⟩ := K
  subst hp
  exact Go.step (fun _ k => XT.lload Y.here hx (g := mkF m pc Ls (st)) rfl (hb hby hd) hl k) hr
theorem g_iconst (K : Cx p s m meth c Z own nm bs ml rt) (X : Sd p l e R s m args below meth c n0 T cells slots) {i : Int} (v : Int32) (pc' : Nat) (hd : decode bs pc = .ok (.iconst i, 1)) (hp : pc + 1 = pc') (hv : Int32.ofInt i = v)
    (hr : Go p e below s n0 Q C N (T.setTop (mkF m pc' Ls (.int v :: st)))) : Go p e below s n0 Q C N (T.setTop (mkF m pc Ls (st))) := by
  obtain ⟨locs, Y, -⟩ := X
  obtain ⟨hx, -, hby, -⟩ := K
  subst hp
  exact Go.step (fun _ k => XT.iconstV Y.here hx (g := mkF m pc Ls (st)) rfl v (hb hby hd) hv k) hr
theorem g_bipush (K : Cx p s m meth c Z own nm bs ml rt) (X : Sd p l e R s m args below meth c n0 T cells slots) {i : Int} (v : Int32) (pc' : Nat) (hd : decode bs pc = .ok (.bipush i, 2)) (hp : pc + 2 = pc') (hv : (Int8.ofInt i).toInt32 = v)
    (hr : Go p e below s n0 Q C N (T.setTop (mkF m pc' Ls (.int v :: st)))) : Go p e below s n0 Q C N (T.setTop (mkF m pc Ls (st))) := by
  obtain ⟨locs, Y, -⟩ := X
  obtain ⟨hx, -, hby, -⟩ := K
  subst hp
  exact Go.step (fun _ k => XT.bipushV Y.here hx (g := mkF m pc Ls (st)) rfl v (hb hby hd) hv k) hr
theorem g_sipush (K : Cx p s m meth c Z own nm bs ml rt) (X : Sd p l e R s m args below meth c n0 T cells slots) {i : Int} (v : Int32) (pc' : Nat) (hd : decode bs pc = .ok (.sipush i, 3)) (hp : pc + 3 = pc') (hv : (Int16.ofInt i).toInt32 = v)
    (hr : Go p e below s n0 Q C N (T.setTop (mkF m pc' Ls (.int v :: st)))) : Go p e below s n0 Q C N (T.setTop (mkF m pc Ls (st))) := by
  obtain ⟨locs, Y, -⟩ := X
  obtain ⟨hx, -, hby, -⟩ := K
  subst hp
  exact Go.step (fun _ k => XT.sipushV Y.here hx (g := mkF m pc Ls (st)) rfl v (hb hby hd) hv k) hr
theorem g_lconst (K : Cx p s m meth c Z own nm bs ml rt) (X : Sd p l e R s m args below meth c n0 T cells slots) {k : Fin 2} (v : Int64) (pc' : Nat) (hd : decode bs pc = .ok (.lconst k, 1)) (hp : pc + 1 = pc') (hv : Int64.ofNat k = v)
    (hr : Go p e below s n0 Q C N (T.setTop (mkF m pc' Ls (.long v :: st)))) : Go p e below s n0 Q C N (T.setTop (mkF m pc Ls (st))) := by
  obtain ⟨locs, Y, -⟩ := X
  obtain ⟨hx, -, hby, -⟩ := K
  subst hp
  exact Go.step (fun _ k => XT.lconstV Y.here hx (g := mkF m pc Ls (st)) rfl v (hb hby hd) hv k) hr
theorem g_anull (K : Cx p s m meth c Z own nm bs ml rt) (X : Sd p l e R s m args below meth c n0 T cells slots) (pc' : Nat) (hd : decode bs pc = .ok (.aconst_null, 1)) (hp : pc + 1 = pc') 
    (hr : Go p e below s n0 Q C N (T.setTop (mkF m pc' Ls (.null :: st)))) : Go p e below s n0 Q C N (T.setTop (mkF m pc Ls (st))) := by
  obtain ⟨locs, Y, -⟩ := X
  obtain ⟨hx, -, hby, -⟩ := K
  subst hp
  exact Go.step (fun _ k => XS.aconstNull Y.here hx (g := mkF m pc Ls (st)) rfl (hb hby hd) k) hr
theorem g_istoreN (K : Cx p s m meth c Z own nm bs ml rt) (X : Sd p l e R s m args below meth c n0 T cells slots) {k : Fin 4} {x : Int32} (pc' : Nat) (l' : Array Slot) (hd : decode bs pc = .ok (.istore_n k, 1)) (hp : pc + 1 = pc') (hl : storeLocals Ls k.val (.int x) = some l')
    (hr : Go p e below s n0 Q C N (T.setTop (mkF m pc' l' (st)))) : Go p e below s n0 Q C N (T.setTop (mkF m pc Ls (.int x :: st))) := by
  obtain ⟨locs, Y, -⟩ := X
  obtain ⟨hx, -, hby, -⟩ := K
  subst hp
  exact Go.step (fun _ k => XS.istoreN Y.here hx (g := mkF m pc Ls (.int x :: st)) rfl (hb hby hd) rfl hl k) hr
theorem g_istore (K : Cx p s m meth c Z own nm bs ml rt) (X : Sd p l e R s m args below meth c n0 T cells slots) {k : Nat} {x : Int32} (pc' : Nat) (l' : Array Slot) (hd : decode bs pc = .ok (.istore k, 2)) (hp : pc + 2 = pc') (hl : storeLocals Ls k (.int x) = some l')
    (hr : Go p e below s n0 Q C N (T.setTop (mkF m pc' l' (st)))) : Go p e below s n0 Q C N (T.setTop (mkF m pc Ls (.int x :: st))) := by
  obtain ⟨locs, Y, -⟩ := X
  obtain ⟨hx, -, hby, -⟩ := K
  subst hp
  exact Go.step (fun _ k => XS.istore Y.here hx (g := mkF m pc Ls (.int x :: st)) rfl (hb hby hd) rfl hl k) hr
theorem g_lstoreN (K : Cx p s m meth c Z own nm bs ml rt) (X : Sd p l e R s m args below meth c n0 T cells slots) {k : Fin 4} {x : Int64} (pc' : Nat) (l' : Array Slot) (hd : decode bs pc = .ok (.lstore_n k, 1)) (hp : pc + 1 = pc') (hl : storeLocals Ls k.val (.long x) = some l')
    (hr : Go p e below s n0 Q C N (T.setTop (mkF m pc' l' (st)))) : Go p e below s n0 Q C N (T.setTop (mkF m pc Ls (.long x :: st))) := by
  obtain ⟨locs, Y, -⟩ := X
  obtain ⟨hx, -, hby, -⟩ := K
  subst hp
  exact Go.step (fun _ k => XT.lstoreN Y.here hx (g := mkF m pc Ls (.long x :: st)) rfl (hb hby hd) rfl hl k) hr
theorem g_lstore (K : Cx p s m meth c Z own nm bs ml rt) (X : Sd p l e R s m args below meth c n0 T cells slots) {k : Nat} {x : Int64} (pc' : Nat) (l' : Array Slot) (hd : decode bs pc = .ok (.lstore k, 2)) (hp : pc + 2 = pc') (hl : storeLocals Ls k (.long x) = some l')
    (hr : Go p e below s n0 Q C N (T.setTop (mkF m pc' l' (st)))) : Go p e below s n0 Q C N (T.setTop (mkF m pc Ls (.long x :: st))) := by
  obtain ⟨locs, Y, -⟩ := X
  obtain ⟨hx, -, hby, -⟩ := K
  subst hp
  exact Go.step (fun _ k => XT.lstore Y.here hx (g := mkF m pc Ls (.long x :: st)) rfl (hb hby hd) rfl hl k) hr
theorem g_astoreN (K : Cx p s m meth c Z own nm bs ml rt) (X : Sd p l e R s m args below meth c n0 T cells slots) {k : Fin 4} {x : Value} (pc' : Nat) (l' : Array Slot) (hd : decode bs pc = .ok (.astore_n k, 1)) (hp : pc + 1 = pc') (hv : x.isRef = true) (hl : storeLocals Ls k.val x = some l')
    (hr : Go p e below s n0 Q C N (T.setTop (mkF m pc' l' (st)))) : Go p e below s n0 Q C N (T.setTop (mkF m pc Ls (x :: st))) := by
  obtain ⟨locs, Y, -⟩ := X
  obtain ⟨hx, -, hby, -⟩ := K
  subst hp
  exact Go.step (fun _ k => XS.astoreN Y.here hx (g := mkF m pc Ls (x :: st)) rfl (hb hby hd) rfl hv hl k) hr
theorem g_astore (K : Cx p s m meth c Z own nm bs ml rt) (X : Sd p l e R s m args below meth c n0 T cells slots) {k : Nat} {x : Value} (pc' : Nat) (l' : Array Slot) (hd : decode bs pc = .ok (.astore k, 2)) (hp : pc + 2 = pc') (hv : x.isRef = true) (hl : storeLocals Ls k x = some l')
    (hr : Go p e below s n0 Q C N (T.setTop (mkF m pc' l' (st)))) : Go p e below s n0 Q C N (T.setTop (mkF m pc Ls (x :: st))) := by
  obtain ⟨locs, Y, -⟩ := X
  obtain ⟨hx, -, hby, -⟩ := K
  subst hp
  exact Go.step (fun _ k => XS.astore Y.here hx (g := mkF m pc Ls (x :: st)) rfl (hb hby hd) rfl hv hl k) hr
theorem g_iinc (K : Cx p s m meth c Z own nm bs ml rt) (X : Sd p l e R s m args below meth c n0 T cells slots) {k : Nat} {cst : Int} {x : Int32} (v : Int32) (pc' : Nat) (l' : Array Slot) (hd : decode bs pc = .ok (.iinc k cst, 3)) (hp : pc + 3 = pc') (hv : Int32.ofInt cst = v) (hl : Ls[k]? = some (.val (.int x))) (hl' : storeLocals Ls k (.int (x + v)) = some l')
    (hr : Go p e below s n0 Q C N (T.setTop (mkF m pc' l' (st)))) : Go p e below s n0 Q C N (T.setTop (mkF m pc Ls (st))) := by
  obtain ⟨locs, Y, -⟩ := X
  obtain ⟨hx, -, hby, -⟩ := K
  subst hp
  exact Go.step (fun _ k => XT.iincV Y.here hx (g := mkF m pc Ls (st)) rfl v (hb hby hd) hv hl hl' k) hr
theorem g_iadd (K : Cx p s m meth c Z own nm bs ml rt) (X : Sd p l e R s m args below meth c n0 T cells slots) {x y : Int32} (pc' : Nat) (hd : decode bs pc = .ok (.iadd, 1)) (hp : pc + 1 = pc') 
    (hr : Go p e below s n0 Q C N (T.setTop (mkF m pc' Ls (.int (x + y) :: st)))) : Go p e below s n0 Q C N (T.setTop (mkF m pc Ls (.int y :: .int x :: st))) := by
  obtain ⟨locs, Y, -⟩ := X
  obtain ⟨hx, -, hby, -⟩ := K
  subst hp
  exact Go.step (fun _ k => XS.iadd Y.here hx (g := mkF m pc Ls (.int y :: .int x :: st)) rfl (hb hby hd) rfl k) hr
theorem g_isub (K : Cx p s m meth c Z own nm bs ml rt) (X : Sd p l e R s m args below meth c n0 T cells slots) {x y : Int32} (pc' : Nat) (hd : decode bs pc = .ok (.isub, 1)) (hp : pc + 1 = pc') 
    (hr : Go p e below s n0 Q C N (T.setTop (mkF m pc' Ls (.int (x - y) :: st)))) : Go p e below s n0 Q C N (T.setTop (mkF m pc Ls (.int y :: .int x :: st))) := by
  obtain ⟨locs, Y, -⟩ := X
  obtain ⟨hx, -, hby, -⟩ := K
  subst hp
  exact Go.step (fun _ k => XS.isub Y.here hx (g := mkF m pc Ls (.int y :: .int x :: st)) rfl (hb hby hd) rfl k) hr
theorem g_imul (K : Cx p s m meth c Z own nm bs ml rt) (X : Sd p l e R s m args below meth c n0 T cells slots) {x y : Int32} (pc' : Nat) (hd : decode bs pc = .ok (.imul, 1)) (hp : pc + 1 = pc') 
    (hr : Go p e below s n0 Q C N (T.setTop (mkF m pc' Ls (.int (x * y) :: st)))) : Go p e below s n0 Q C N (T.setTop (mkF m pc Ls (.int y :: .int x :: st))) := by
  obtain ⟨locs, Y, -⟩ := X
  obtain ⟨hx, -, hby, -⟩ := K
  subst hp
  exact Go.step (fun _ k => XS.imul Y.here hx (g := mkF m pc Ls (.int y :: .int x :: st)) rfl (hb hby hd) rfl k) hr
theorem g_iand (K : Cx p s m meth c Z own nm bs ml rt) (X : Sd p l e R s m args below meth c n0 T cells slots) {x y : Int32} (pc' : Nat) (hd : decode bs pc = .ok (.iand, 1)) (hp : pc + 1 = pc') 
    (hr : Go p e below s n0 Q C N (T.setTop (mkF m pc' Ls (.int (x &&& y) :: st)))) : Go p e below s n0 Q C N (T.setTop (mkF m pc Ls (.int y :: .int x :: st))) := by
  obtain ⟨locs, Y, -⟩ := X
  obtain ⟨hx, -, hby, -⟩ := K
  subst hp
  exact Go.step (fun _ k => XS.iand Y.here hx (g := mkF m pc Ls (.int y :: .int x :: st)) rfl (hb hby hd) rfl k) hr
theorem g_ior (K : Cx p s m meth c Z own nm bs ml rt) (X : Sd p l e R s m args below meth c n0 T cells slots) {x y : Int32} (pc' : Nat) (hd : decode bs pc = .ok (.ior, 1)) (hp : pc + 1 = pc') 
    (hr : Go p e below s n0 Q C N (T.setTop (mkF m pc' Ls (.int (x ||| y) :: st)))) : Go p e below s n0 Q C N (T.setTop (mkF m pc Ls (.int y :: .int x :: st))) := by
  obtain ⟨locs, Y, -⟩ := X
  obtain ⟨hx, -, hby, -⟩ := K
  subst hp
  exact Go.step (fun _ k => XT.ior Y.here hx (g := mkF m pc Ls (.int y :: .int x :: st)) rfl (hb hby hd) rfl k) hr
theorem g_ixor (K : Cx p s m meth c Z own nm bs ml rt) (X : Sd p l e R s m args below meth c n0 T cells slots) {x y : Int32} (pc' : Nat) (hd : decode bs pc = .ok (.ixor, 1)) (hp : pc + 1 = pc') 
    (hr : Go p e below s n0 Q C N (T.setTop (mkF m pc' Ls (.int (x ^^^ y) :: st)))) : Go p e below s n0 Q C N (T.setTop (mkF m pc Ls (.int y :: .int x :: st))) := by
  obtain ⟨locs, Y, -⟩ := X
  obtain ⟨hx, -, hby, -⟩ := K
  subst hp
  exact Go.step (fun _ k => XT.ixor Y.here hx (g := mkF m pc Ls (.int y :: .int x :: st)) rfl (hb hby hd) rfl k) hr
theorem g_ishl (K : Cx p s m meth c Z own nm bs ml rt) (X : Sd p l e R s m args below meth c n0 T cells slots) {x y : Int32} (pc' : Nat) (hd : decode bs pc = .ok (.ishl, 1)) (hp : pc + 1 = pc') 
    (hr : Go p e below s n0 Q C N (T.setTop (mkF m pc' Ls (.int (x <<< (y &&& 31)) :: st)))) : Go p e below s n0 Q C N (T.setTop (mkF m pc Ls (.int y :: .int x :: st))) := by
  obtain ⟨locs, Y, -⟩ := X
  obtain ⟨hx, -, hby, -⟩ := K
  subst hp
  exact Go.step (fun _ k => XT.ishl Y.here hx (g := mkF m pc Ls (.int y :: .int x :: st)) rfl (hb hby hd) rfl k) hr
theorem g_ishr (K : Cx p s m meth c Z own nm bs ml rt) (X : Sd p l e R s m args below meth c n0 T cells slots) {x y : Int32} (pc' : Nat) (hd : decode bs pc = .ok (.ishr, 1)) (hp : pc + 1 = pc') 
    (hr : Go p e below s n0 Q C N (T.setTop (mkF m pc' Ls (.int (x >>> (y &&& 31)) :: st)))) : Go p e below s n0 Q C N (T.setTop (mkF m pc Ls (.int y :: .int x :: st))) := by
  obtain ⟨locs, Y, -⟩ := X
  obtain ⟨hx, -, hby, -⟩ := K
  subst hp
  exact Go.step (fun _ k => XT.ishr Y.here hx (g := mkF m pc Ls (.int y :: .int x :: st)) rfl (hb hby hd) rfl k) hr
theorem g_iushr (K : Cx p s m meth c Z own nm bs ml rt) (X : Sd p l e R s m args below meth c n0 T cells slots) {x y : Int32} (pc' : Nat) (hd : decode bs pc = .ok (.iushr, 1)) (hp : pc + 1 = pc') 
    (hr : Go p e below s n0 Q C N (T.setTop (mkF m pc' Ls (.int (XT.ushr x y) :: st)))) : Go p e below s n0 Q C N (T.setTop (mkF m pc Ls (.int y :: .int x :: st))) := by
  obtain ⟨locs, Y, -⟩ := X
  obtain ⟨hx, -, hby, -⟩ := K
  subst hp
  exact Go.step (fun _ k => XT.iushr Y.here hx (g := mkF m pc Ls (.int y :: .int x :: st)) rfl (hb hby hd) rfl k) hr
theorem g_irem (K : Cx p s m meth c Z own nm bs ml rt) (X : Sd p l e R s m args below meth c n0 T cells slots) {x y : Int32} (pc' : Nat) (hd : decode bs pc = .ok (.irem, 1)) (hp : pc + 1 = pc') (hy : y ≠ 0)
    (hr : Go p e below s n0 Q C N (T.setTop (mkF m pc' Ls (.int (x % y) :: st)))) : Go p e below s n0 Q C N (T.setTop (mkF m pc Ls (.int y :: .int x :: st))) := by
  obtain ⟨locs, Y, -⟩ := X
  obtain ⟨hx, -, hby, -⟩ := K
  subst hp
  exact Go.step (fun _ k => iremM Y hx (g := mkF m pc Ls (.int y :: .int x :: st)) rfl (hb hby hd) rfl hy k) hr
theorem g_ladd (K : Cx p s m meth c Z own nm bs ml rt) (X : Sd p l e R s m args below meth c n0 T cells slots) {x y : Int64} (pc' : Nat) (hd : decode bs pc = .ok (.ladd, 1)) (hp : pc + 1 = pc') 
    (hr : Go p e below s n0 Q C N (T.setTop (mkF m pc' Ls (.long (x + y) :: st)))) : Go p e below s n0 Q C N (T.setTop (mkF m pc Ls (.long y :: .long x :: st))) := by
  obtain ⟨locs, Y, -⟩ := X
  obtain ⟨hx, -, hby, -⟩ := K
  subst hp
  exact Go.step (fun _ k => XT.ladd Y.here hx (g := mkF m pc Ls (.long y :: .long x :: st)) rfl (hb hby hd) rfl k) hr
theorem g_lsub (K : Cx p s m meth c Z own nm bs ml rt) (X : Sd p l e R s m args below meth c n0 T cells slots) {x y : Int64} (pc' : Nat) (hd : decode bs pc = .ok (.lsub, 1)) (hp : pc + 1 = pc') 
    (hr : Go p e below s n0 Q C N (T.setTop (mkF m pc' Ls (.long (x - y) :: st)))) : Go p e below s n0 Q C N (T.setTop (mkF m pc Ls (.long y :: .long x :: st))) := by
  obtain ⟨locs, Y, -⟩ := X
  obtain ⟨hx, -, hby, -⟩ := K
  subst hp
  exact Go.step (fun _ k => XT.lsub Y.here hx (g := mkF m pc Ls (.long y :: .long x :: st)) rfl (hb hby hd) rfl k) hr
theorem g_land (K : Cx p s m meth c Z own nm bs ml rt) (X : Sd p l e R s m args below meth c n0 T cells slots) {x y : Int64} (pc' : Nat) (hd : decode bs pc = .ok (.land, 1)) (hp : pc + 1 = pc') 
    (hr : Go p e below s n0 Q C N (T.setTop (mkF m pc' Ls (.long (x &&& y) :: st)))) : Go p e below s n0 Q C N (T.setTop (mkF m pc Ls (.long y :: .long x :: st))) := by
  obtain ⟨locs, Y, -⟩ := X
  obtain ⟨hx, -, hby, -⟩ := K
  subst hp
  exact Go.step (fun _ k => XT.land Y.here hx (g := mkF m pc Ls (.long y :: .long x :: st)) rfl (hb hby hd) rfl k) hr
theorem g_lor (K : Cx p s m meth c Z own nm bs ml rt) (X : Sd p l e R s m args below meth c n0 T cells slots) {x y : Int64} (pc' : Nat) (hd : decode bs pc = .ok (.lor, 1)) (hp : pc + 1 = pc') 
    (hr : Go p e below s n0 Q C N (T.setTop (mkF m pc' Ls (.long (x ||| y) :: st)))) : Go p e below s n0 Q C N (T.setTop (mkF m pc Ls (.long y :: .long x :: st))) := by
  obtain ⟨locs, Y, -⟩ := X
  obtain ⟨hx, -, hby, -⟩ := K
  subst hp
  exact Go.step (fun _ k => XT.lor Y.here hx (g := mkF m pc Ls (.long y :: .long x :: st)) rfl (hb hby hd) rfl k) hr
theorem g_lxor (K : Cx p s m meth c Z own nm bs ml rt) (X : Sd p l e R s m args below meth c n0 T cells slots) {x y : Int64} (pc' : Nat) (hd : decode bs pc = .ok (.lxor, 1)) (hp : pc + 1 = pc') 
    (hr : Go p e below s n0 Q C N (T.setTop (mkF m pc' Ls (.long (x ^^^ y) :: st)))) : Go p e below s n0 Q C N (T.setTop (mkF m pc Ls (.long y :: .long x :: st))) := by
  obtain ⟨locs, Y, -⟩ := X
  obtain ⟨hx, -, hby, -⟩ := K
  subst hp
  exact Go.step (fun _ k => XT.lxor Y.here hx (g := mkF m pc Ls (.long y :: .long x :: st)) rfl (hb hby hd) rfl k) hr
theorem g_lshl (K : Cx p s m meth c Z own nm bs ml rt) (X : Sd p l e R s m args below meth c n0 T cells slots) {x : Int64} {y : Int32} (pc' : Nat) (hd : decode bs pc = .ok (.lshl, 1)) (hp : pc + 1 = pc') 
    (hr : Go p e below s n0 Q C N (T.setTop (mkF m pc' Ls (.long (x <<< (y.toInt64 &&& 63)) :: st)))) : Go p e below s n0 Q C N (T.setTop (mkF m pc Ls (.int y :: .long x :: st))) := by
  obtain ⟨locs, Y, -⟩ := X
  obtain ⟨hx, -, hby, -⟩ := K
  subst hp
  exact Go.step (fun _ k => XT.lshl Y.here hx (g := mkF m pc Ls (.int y :: .long x :: st)) rfl (hb hby hd) rfl k) hr
theorem g_lushr (K : Cx p s m meth c Z own nm bs ml rt) (X : Sd p l e R s m args below meth c n0 T cells slots) {x : Int64} {y : Int32} (pc' : Nat) (hd : decode bs pc = .ok (.lushr, 1)) (hp : pc + 1 = pc') 
    (hr : Go p e below s n0 Q C N (T.setTop (mkF m pc' Ls (.long (XT.ushrL x y) :: st)))) : Go p e below s n0 Q C N (T.setTop (mkF m pc Ls (.int y :: .long x :: st))) := by
  obtain ⟨locs, Y, -⟩ := X
  obtain ⟨hx, -, hby, -⟩ := K
  subst hp
  exact Go.step (fun _ k => XT.lushr Y.here hx (g := mkF m pc Ls (.int y :: .long x :: st)) rfl (hb hby hd) rfl k) hr
theorem g_lcmp (K : Cx p s m meth c Z own nm bs ml rt) (X : Sd p l e R s m args below meth c n0 T cells slots) {x y : Int64} (pc' : Nat) (hd : decode bs pc = .ok (.lcmp, 1)) (hp : pc + 1 = pc') 
    (hr : Go p e below s n0 Q C N (T.setTop (mkF m pc' Ls (.int (XT.cmpL x y) :: st)))) : Go p e below s n0 Q C N (T.setTop (mkF m pc Ls (.long y :: .long x :: st))) := by
  obtain ⟨locs, Y, -⟩ := X
  obtain ⟨hx, -, hby, -⟩ := K
  subst hp
  exact Go.step (fun _ k => XT.lcmp Y.here hx (g := mkF m pc Ls (.long y :: .long x :: st)) rfl (hb hby hd) rfl k) hr
theorem g_i2l (K : Cx p s m meth c Z own nm bs ml rt) (X : Sd p l e R s m args below meth c n0 T cells slots) {x : Int32} (pc' : Nat) (hd : decode bs pc = .ok (.i2l, 1)) (hp : pc + 1 = pc') 
    (hr : Go p e below s n0 Q C N (T.setTop (mkF m pc' Ls (.long x.toInt64 :: st)))) : Go p e below s n0 Q C N (T.setTop (mkF m pc Ls (.int x :: st))) := by
  obtain ⟨locs, Y, -⟩ := X
  obtain ⟨hx, -, hby, -⟩ := K
  subst hp
  exact Go.step (fun _ k => XT.i2l Y.here hx (g := mkF m pc Ls (.int x :: st)) rfl (hb hby hd) rfl k) hr
theorem g_l2i (K : Cx p s m meth c Z own nm bs ml rt) (X : Sd p l e R s m args below meth c n0 T cells slots) {x : Int64} (pc' : Nat) (hd : decode bs pc = .ok (.l2i, 1)) (hp : pc + 1 = pc') 
    (hr : Go p e below s n0 Q C N (T.setTop (mkF m pc' Ls (.int x.toInt32 :: st)))) : Go p e below s n0 Q C N (T.setTop (mkF m pc Ls (.long x :: st))) := by
  obtain ⟨locs, Y, -⟩ := X
  obtain ⟨hx, -, hby, -⟩ := K
  subst hp
  exact Go.step (fun _ k => XT.l2i Y.here hx (g := mkF m pc Ls (.long x :: st)) rfl (hb hby hd) rfl k) hr
theorem g_i2b (K : Cx p s m meth c Z own nm bs ml rt) (X : Sd p l e R s m args below meth c n0 T cells slots) {x : Int32} (pc' : Nat) (hd : decode bs pc = .ok (.i2b, 1)) (hp : pc + 1 = pc') 
    (hr : Go p e below s n0 Q C N (T.setTop (mkF m pc' Ls (.int x.toInt8.toInt32 :: st)))) : Go p e below s n0 Q C N (T.setTop (mkF m pc Ls (.int x :: st))) := by
  obtain ⟨locs, Y, -⟩ := X
  obtain ⟨hx, -, hby, -⟩ := K
  subst hp
  exact Go.step (fun _ k => XT.i2b Y.here hx (g := mkF m pc Ls (.int x :: st)) rfl (hb hby hd) rfl k) hr
theorem g_dup (K : Cx p s m meth c Z own nm bs ml rt) (X : Sd p l e R s m args below meth c n0 T cells slots) {x : Value} (pc' : Nat) (hd : decode bs pc = .ok (.dup, 1)) (hp : pc + 1 = pc') (hc : x.category = 1)
    (hr : Go p e below s n0 Q C N (T.setTop (mkF m pc' Ls (x :: x :: st)))) : Go p e below s n0 Q C N (T.setTop (mkF m pc Ls (x :: st))) := by
  obtain ⟨locs, Y, -⟩ := X
  obtain ⟨hx, -, hby, -⟩ := K
  subst hp
  exact Go.step (fun _ k => XS.dup Y.here hx (g := mkF m pc Ls (x :: st)) rfl (hb hby hd) rfl hc k) hr
theorem g_dup_x1 (K : Cx p s m meth c Z own nm bs ml rt) (X : Sd p l e R s m args below meth c n0 T cells slots) {x y : Value} (pc' : Nat) (hd : decode bs pc = .ok (.dup_x1, 1)) (hp : pc + 1 = pc') (hc : x.category = 1) (hc' : y.category = 1)
    (hr : Go p e below s n0 Q C N (T.setTop (mkF m pc' Ls (x :: y :: x :: st)))) : Go p e below s n0 Q C N (T.setTop (mkF m pc Ls (x :: y :: st))) := by
  obtain ⟨locs, Y, -⟩ := X
  obtain ⟨hx, -, hby, -⟩ := K
  subst hp
  exact Go.step (fun _ k => XT.dupX1 Y.here hx (g := mkF m pc Ls (x :: y :: st)) rfl (hb hby hd) rfl hc hc' k) hr
theorem g_dup2 (K : Cx p s m meth c Z own nm bs ml rt) (X : Sd p l e R s m args below meth c n0 T cells slots) {x y : Value} (pc' : Nat) (hd : decode bs pc = .ok (.dup2, 1)) (hp : pc + 1 = pc') (hc : x.category = 1) (hc' : y.category = 1)
    (hr : Go p e below s n0 Q C N (T.setTop (mkF m pc' Ls (x :: y :: x :: y :: st)))) : Go p e below s n0 Q C N (T.setTop (mkF m pc Ls (x :: y :: st))) := by
  obtain ⟨locs, Y, -⟩ := X
  obtain ⟨hx, -, hby, -⟩ := K
  subst hp
  exact Go.step (fun _ k => XT.dup2 Y.here hx (g := mkF m pc Ls (x :: y :: st)) rfl (hb hby hd) rfl hc hc' k) hr
theorem g_pop (K : Cx p s m meth c Z own nm bs ml rt) (X : Sd p l e R s m args below meth c n0 T cells slots) {x : Value} (pc' : Nat) (hd : decode bs pc = .ok (.pop, 1)) (hp : pc + 1 = pc') (hc : x.category = 1)
    (hr : Go p e below s n0 Q C N (T.setTop (mkF m pc' Ls (st)))) : Go p e below s n0 Q C N (T.setTop (mkF m pc Ls (x :: st))) := by
  obtain ⟨locs, Y, -⟩ := X
  obtain ⟨hx, -, hby, -⟩ := K
  subst hp
  exact Go.step (fun _ k => XT.pop Y.here hx (g := mkF m pc Ls (x :: st)) rfl (hb hby hd) rfl hc k) hr
theorem g_goto (K : Cx p s m meth c Z own nm bs ml rt) (X : Sd p l e R s m args below meth c n0 T cells slots) {o : Int} (pc' : Nat) (hd : decode bs pc = .ok (.goto o, 3)) (hp : (pc : Int) + o = (pc' : Int))
    (hr : Go p e below s n0 Q C N (T.setTop (mkF m pc' Ls st))) : Go p e below s n0 Q C N (T.setTop (mkF m pc Ls st)) := by
  obtain ⟨locs, Y, -⟩ := X
  obtain ⟨hx, -, hby, -⟩ := K
  exact Go.step (fun _ k => XS.goto Y.here hx (g := mkF m pc Ls st) rfl (pc0 := pc) (pc' := pc') rfl (hb hby hd) (by omega) (by omega) k) hr
theorem g_icmpT (K : Cx p s m meth c Z own nm bs ml rt) (X : Sd p l e R s m args below meth c n0 T cells slots) {cd : ClassFile.Cond} {x y : Int32} {o : Int} (pc' : Nat) (hd : decode bs pc = .ok (.if_icmp cd o, 3)) (hp : (pc : Int) + o = (pc' : Int)) (hc : cdP cd x y)
    (hr : Go p e below s n0 Q C N (T.setTop (mkF m pc' Ls st))) : Go p e below s n0 Q C N (T.setTop (mkF m pc Ls (.int y :: .int x :: st))) := by
  obtain ⟨locs, Y, -⟩ := X
  obtain ⟨hx, -, hby, -⟩ := K
  exact Go.step (fun _ k => XS.icmpYes Y.here hx (g := mkF m pc Ls (.int y :: .int x :: st)) rfl (pc0 := pc) (pc' := pc') rfl (hb hby hd) rfl (cdT hc) (by omega) (by omega) k) hr
theorem g_icmpF (K : Cx p s m meth c Z own nm bs ml rt) (X : Sd p l e R s m args below meth c n0 T cells slots) {cd : ClassFile.Cond} {x y : Int32} {o : Int} (pc' : Nat) (hd : decode bs pc = .ok (.if_icmp cd o, 3)) (hp : pc + 3 = pc') (hc : ¬ cdP cd x y)
    (hr : Go p e below s n0 Q C N (T.setTop (mkF m pc' Ls st))) : Go p e below s n0 Q C N (T.setTop (mkF m pc Ls (.int y :: .int x :: st))) := by
  obtain ⟨locs, Y, -⟩ := X
  obtain ⟨hx, -, hby, -⟩ := K
  subst hp
  exact Go.step (fun _ k => XS.icmpNo Y.here hx (g := mkF m pc Ls (.int y :: .int x :: st)) rfl (hb hby hd) rfl (cdF hc) k) hr
theorem g_ifT (K : Cx p s m meth c Z own nm bs ml rt) (X : Sd p l e R s m args below meth c n0 T cells slots) {cd : ClassFile.Cond} {x : Int32} {o : Int} (pc' : Nat) (hd : decode bs pc = .ok (.ifCond cd o, 3)) (hp : (pc : Int) + o = (pc' : Int)) (hc : cdP cd x 0)
    (hr : Go p e below s n0 Q C N (T.setTop (mkF m pc' Ls st))) : Go p e below s n0 Q C N (T.setTop (mkF m pc Ls (.int x :: st))) := by
  obtain ⟨locs, Y, -⟩ := X
  obtain ⟨hx, -, hby, -⟩ := K
  exact Go.step (fun _ k => XS.ifYes Y.here hx (g := mkF m pc Ls (.int x :: st)) rfl (pc0 := pc) (pc' := pc') rfl (hb hby hd) rfl ((if0 _ _).trans (cdT hc)) (by omega) (by omega) k) hr
theorem g_ifF (K : Cx p s m meth c Z own nm bs ml rt) (X : Sd p l e R s m args below meth c n0 T cells slots) {cd : ClassFile.Cond} {x : Int32} {o : Int} (pc' : Nat) (hd : decode bs pc = .ok (.ifCond cd o, 3)) (hp : pc + 3 = pc') (hc : ¬ cdP cd x 0)
    (hr : Go p e below s n0 Q C N (T.setTop (mkF m pc' Ls st))) : Go p e below s n0 Q C N (T.setTop (mkF m pc Ls (.int x :: st))) := by
  obtain ⟨locs, Y, -⟩ := X
  obtain ⟨hx, -, hby, -⟩ := K
  subst hp
  exact Go.step (fun _ k => XS.ifNo Y.here hx (g := mkF m pc Ls (.int x :: st)) rfl (hb hby hd) rfl ((if0 _ _).trans (cdF hc)) k) hr
theorem g_icmp (K : Cx p s m meth c Z own nm bs ml rt) (X : Sd p l e R s m args below meth c n0 T cells slots) {cd : ClassFile.Cond} {x y : Int32} {o : Int} (pT pF : Nat) (hd : decode bs pc = .ok (.if_icmp cd o, 3)) (hp : (pc : Int) + o = (pT : Int)) (hq : pc + 3 = pF)
    (ht : cdP cd x y → Go p e below s n0 Q C N (T.setTop (mkF m pT Ls st))) (hf : ¬ cdP cd x y → Go p e below s n0 Q C N (T.setTop (mkF m pF Ls st))) : Go p e below s n0 Q C N (T.setTop (mkF m pc Ls (.int y :: .int x :: st))) :=
  (Classical.em (cdP cd x y)).elim (fun q => g_icmpT K X pT hd hp q (ht q)) (fun q => g_icmpF K X pF hd hq q (hf q))
theorem g_if (K : Cx p s m meth c Z own nm bs ml rt) (X : Sd p l e R s m args below meth c n0 T cells slots) {cd : ClassFile.Cond} {x : Int32} {o : Int} (pT pF : Nat) (hd : decode bs pc = .ok (.ifCond cd o, 3)) (hp : (pc : Int) + o = (pT : Int)) (hq : pc + 3 = pF)
    (ht : cdP cd x 0 → Go p e below s n0 Q C N (T.setTop (mkF m pT Ls st))) (hf : ¬ cdP cd x 0 → Go p e below s n0 Q C N (T.setTop (mkF m pF Ls st))) : Go p e below s n0 Q C N (T.setTop (mkF m pc Ls (.int x :: st))) :=
  (Classical.em (cdP cd x 0)).elim (fun q => g_ifT K X pT hd hp q (ht q)) (fun q => g_ifF K X pF hd hq q (hf q))
theorem g_acmpT (K : Cx p s m meth c Z own nm bs ml rt) (X : Sd p l e R s m args below meth c n0 T cells slots) {cd : ACond} {x y : Value} {o : Int} (pc' : Nat) (hd : decode bs pc = .ok (.if_acmp cd o, 3)) (hp : (pc : Int) + o = (pc' : Int)) (h1 : x.isRef = true) (h2 : y.isRef = true) (hc : acV cd (decide (x = y)) = true)
    (hr : Go p e below s n0 Q C N (T.setTop (mkF m pc' Ls st))) : Go p e below s n0 Q C N (T.setTop (mkF m pc Ls (y :: x :: st))) := by
  obtain ⟨locs, Y, -⟩ := X
  obtain ⟨hx, -, hby, -⟩ := K
  exact Go.step (fun _ k => acmp Y hx (g := mkF m pc Ls (y :: x :: st)) rfl h1 h2 (pc0 := pc) (pc' := pc') rfl (hb hby hd) rfl rfl (by omega) (by rw [if_pos hc]; omega) k) hr
theorem g_acmpF (K : Cx p s m meth c Z own nm bs ml rt) (X : Sd p l e R s m args below meth c n0 T cells slots) {cd : ACond} {x y : Value} {o : Int} (pc' : Nat) (hd : decode bs pc = .ok (.if_acmp cd o, 3)) (hp : pc + 3 = pc') (ho : 0 ≤ (pc : Int) + o) (h1 : x.isRef = true) (h2 : y.isRef = true) (hc : acV cd (decide (x = y)) = false)
    (hr : Go p e below s n0 Q C N (T.setTop (mkF m pc' Ls st))) : Go p e below s n0 Q C N (T.setTop (mkF m pc Ls (y :: x :: st))) := by
  obtain ⟨locs, Y, -⟩ := X
  obtain ⟨hx, -, hby, -⟩ := K
  exact Go.step (fun _ k => acmp Y hx (g := mkF m pc Ls (y :: x :: st)) rfl h1 h2 (pc0 := pc) (pc' := pc') rfl (hb hby hd) rfl rfl ho (by rw [if_neg (by rw [hc]; exact Bool.false_ne_true)]; exact hp.symm) k) hr
theorem g_ldcI (K : Cx p s m meth c Z own nm bs ml rt) (X : Sd p l e R s m args below meth c n0 T cells slots) {index : Nat} {v : Int32} (w : (Jvm.Cond.constant own index v).before a0 Z = true) (pc' : Nat) (hd : decode bs pc = .ok (.ldc index, 2)) (hp : pc + 2 = pc')
    (hr : Go p e below s n0 Q C N (T.setTop (mkF m pc' Ls (.int v :: st)))) : Go p e below s n0 Q C N (T.setTop (mkF m pc Ls st)) := by
  obtain ⟨locs, Y, -⟩ := X
  obtain ⟨hx, hZ, hby, -, hown, -⟩ := K
  subst hp
  exact Go.step (fun _ k => Y.ldcI hx hown (mvT hZ w) (g := mkF m pc Ls st) rfl (hb hby hd) k) hr
theorem g_ldc2J (K : Cx p s m meth c Z own nm bs ml rt) (X : Sd p l e R s m args below meth c n0 T cells slots) {index : Nat} {v : Int64} (w : (Jvm.Cond.constantLong own index v).before a0 Z = true) (pc' : Nat) (hd : decode bs pc = .ok (.ldc2_w index, 3)) (hp : pc + 3 = pc')
    (hr : Go p e below s n0 Q C N (T.setTop (mkF m pc' Ls (.long v :: st)))) : Go p e below s n0 Q C N (T.setTop (mkF m pc Ls st)) := by
  obtain ⟨locs, Y, -⟩ := X
  obtain ⟨hx, hZ, hby, -, hown, -⟩ := K
  subst hp
  exact Go.step (fun _ k => Y.ldc2J hx hown (mvT hZ w) (g := mkF m pc Ls st) rfl (hb hby hd) k) hr
theorem g_getF (K : Cx p s m meth c Z own nm bs ml rt) (X : Sd p l e R s m args below meth c n0 T cells slots) (eh : T.heap = h) {O n d : String} {index : Nat} (w : (Jvm.Cond.fieldLink own index O n d).before a0 Z = true) {a : Addr} {v : Value} (F : Fld Z h a O n d v) (pc' : Nat) (hd : decode bs pc = .ok (.getfield index, 3)) (hp : pc + 3 = pc')
    (hr : ∀ T', Sd p l e R s m args below meth c n0 T' cells slots → T'.heap = h → Go p e below s n0 Q C N (T'.setTop (mkF m pc' Ls (v :: st)))) : Go p e below s n0 Q C N (T.setTop (mkF m pc Ls (.ref a :: st))) := by
  obtain ⟨locs, Y, hN⟩ := X
  obtain ⟨hx, hZ, hby, -, hown, -⟩ := K
  subst hp
  obtain ⟨T', X', e', k⟩ := getF Y hx hZ hown (host := "") (Or.inl w) Via.refl eh F (g := mkF m pc Ls (.ref a :: st)) rfl rfl (hb hby hd)
  exact Go.step k (hr T' ⟨locs, X', hN⟩ e')
theorem g_putF (K : Cx p s m meth c Z own nm bs ml rt) (X : Sd p l e R s m args below meth c n0 T cells slots) (eh : T.heap = h) {O n d D : String} {index kk : Nat} {ty : FieldType} (w : (Jvm.Cond.fieldLink own index O n d).before a0 Z = true) {a : Addr} {v old : Value} (F : Fld Z h a O n d old) (E : Exa Z h a D) (L : (Jvm.Cond.lays D O n d).before a0 Z = true ∨ ((Jvm.Cond.laysFinal D O n d).before a0 Z = true ∧ own = O ∧ nm = "<init>")) (wi : (Jvm.Cond.instantiable D kk).before a0 Z = true)
    (hty : parseFieldDescriptor d = some ty) (hn : narrow ty v = v) (hf : fits ty v = true) (ge : n0 ≤ a) (pc' : Nat) (hd : decode bs pc = .ok (.putfield index, 3)) (hp : pc + 3 = pc')
    (hr : ∀ T' h', Sd p l e R s m args below meth c n0 T' cells slots → T'.heap = h' → Wr h h' a (Jvm.RoadKit.slotOf Z O n d) v → Go p e below s n0 Q C N (T'.setTop (mkF m pc' Ls st))) : Go p e below s n0 Q C N (T.setTop (mkF m pc Ls (v :: .ref a :: st))) := by
  obtain ⟨locs, Y, hN⟩ := X
  obtain ⟨hx, hZ, hby, -, hown, hnm, -⟩ := K
  subst hp
  obtain ⟨T', h', X', e', W, k⟩ := putF Y hx hZ hown (host := "") (Or.inl w) Via.refl eh F E (L.imp id fun q => ⟨q.1, q.2.1, hnm.trans q.2.2⟩) wi hty hn hf (g := mkF m pc Ls (v :: .ref a :: st)) rfl rfl (hb hby hd)
  exact Go.step k (hr T' h' ⟨_, X', Fr.snoc X' hN ge⟩ e' W)
theorem g_new (K : Cx p s m meth c Z own nm bs ml rt) (X : Sd p l e R s m args below meth c n0 T cells slots) (eh : T.heap = h) {D : String} {index n : Nat} (w : (Jvm.Cond.classLink own index D).before a0 Z = true) (wi : (Jvm.Cond.instantiable D n).before a0 Z = true) (wz : (Jvm.Cond.initialized D).before a0 Z = true) (pc' : Nat) (hd : decode bs pc = .ok (.new index, 3)) (hp : pc + 3 = pc') (hc : cells + 1 ≤ R.cells) (hl : slots + n ≤ R.slots)
    (hr : ∀ T' h' a, a = h.size → Sd p l e R s m args below meth c n0 T' (cells + 1) (slots + n) → T'.heap = h' → Ext h h' → Exa Z h' a D → (∀ {O nm d : String} {ty : FieldType}, Laid Z a0 D O nm d → parseFieldDescriptor d = some ty → Fld Z h' a O nm d (defaultValue ty)) → Go p e below s n0 Q C N (T'.setTop (mkF m pc' Ls (.ref a :: st)))) : Go p e below s n0 Q C N (T.setTop (mkF m pc Ls st)) := by
  obtain ⟨locs, Y, hN⟩ := X
  obtain ⟨hx, hZ, hby, -, hown, -⟩ := K
  subst hp
  obtain ⟨T', h', X', e', E, A, D', -, k⟩ := newO Y hx hZ hown w wi wz eh (g := mkF m pc Ls st) rfl (hb hby hd) hc hl
  exact Go.step k (hr T' h' h.size rfl ⟨locs, X', hN⟩ e' E A D')
theorem g_newA (K : Cx p s m meth c Z own nm bs ml rt) (X : Sd p l e R s m args below meth c n0 T cells slots) (eh : T.heap = h) {aty : ArrayType} (w : (Jvm.Cond.arrayClass (newarray.typeOf aty)).before a0 Z = true) (pc' : Nat) (hd : decode bs pc = .ok (.newarray aty, 2)) (hp : pc + 2 = pc') {z : Int32} {n cap : Nat} (hz : z.toInt = (n : Int)) (hcap : n ≤ cap) (hb' : cap * 8 ≤ 536870912) (hdv : defaultValue (newarray.typeOf aty) = .int 0) (hc : cells + 1 ≤ R.cells) (hl : slots + cap ≤ R.slots)
    (hr : ∀ T' h' a, a = h.size → Sd p l e R s m args below meth c n0 T' (cells + 1) (slots + cap) → T'.heap = h' → Ext h h' → Ai Z h' a (newarray.typeOf aty) n (fun _ => 0) → Exa Z h' a ("[" ++ (newarray.typeOf aty).toString) → Go p e below s n0 Q C N (T'.setTop (mkF m pc' Ls (.ref a :: st)))) : Go p e below s n0 Q C N (T.setTop (mkF m pc Ls (.int z :: st))) := by
  obtain ⟨locs, Y, hN⟩ := X
  obtain ⟨hx, hZ, hby, -, hown, -⟩ := K
  subst hp
  have ez : z.toNatClampNeg = n := by rw [Int32.toNatClampNeg, hz]; rfl
  have hz0 : ¬ z < 0 := by
    rw [Int32.lt_iff_toInt_lt, hz, show (0 : Int32).toInt = 0 from rfl]; omega
  obtain ⟨T', h', cA, X', e', E, A, B, k⟩ := newPE Y hx hZ w eh (g := mkF m pc Ls (.int z :: st)) rfl (hb hby hd) (n := z) rfl hz0 (cap := cap) (by rw [ez]; exact hcap) hb' hc hl rfl
  exact Go.step k (hr T' h' h.size rfl ⟨locs, X', hN⟩ e' E (Ai.new A hz (by omega) hdv) B)
theorem g_len (K : Cx p s m meth c Z own nm bs ml rt) (X : Sd p l e R s m args below meth c n0 T cells slots) (eh : T.heap = h) {a : Addr} {ty : FieldType} {n : Nat} {f : Nat → Int32} (A : Ai Z h a ty n f) (v : Int32) (hv : Int32.ofNat n = v) (pc' : Nat) (hd : decode bs pc = .ok (.arraylength, 1)) (hp : pc + 1 = pc')
    (hr : Go p e below s n0 Q C N (T.setTop (mkF m pc' Ls (.int v :: st)))) : Go p e below s n0 Q C N (T.setTop (mkF m pc Ls (.ref a :: st))) := by
  obtain ⟨locs, Y, -⟩ := X
  obtain ⟨hx, hZ, hby, -⟩ := K
  obtain ⟨cl, A, S, -⟩ := A
  subst hp hv
  refine Go.step (fun target k => Y.arraylength hx (cell := cl) (by rw [eh]; exact A.1) (State.isArrayOf_alike hZ.alike A.2.1) (g := mkF m pc Ls (.ref a :: st)) rfl (rest := st) rfl (hb hby hd) target ?_) hr
  rw [S]
  exact k
theorem g_iaload (K : Cx p s m meth c Z own nm bs ml rt) (X : Sd p l e R s m args below meth c n0 T cells slots) (eh : T.heap = h) {a : Addr} {n : Nat} {f : Nat → Int32} (A : Ai Z h a .int n f) {j : Int32} (k : Nat) (hj : j.toInt = (k : Int)) (hk : k < n) (v : Int32) (hv : f k = v) (pc' : Nat) (hd : decode bs pc = .ok (.iaload, 1)) (hp : pc + 1 = pc')
    (hr : Go p e below s n0 Q C N (T.setTop (mkF m pc' Ls (.int v :: st)))) : Go p e below s n0 Q C N (T.setTop (mkF m pc Ls (.int j :: .ref a :: st))) := by
  obtain ⟨locs, Y, -⟩ := X
  obtain ⟨hx, hZ, hby, -⟩ := K
  obtain ⟨cl, A, S, -, H⟩ := A
  subst hp hv
  obtain ⟨i1, i2⟩ := idx_ok hj hk
  exact Go.step (fun target kk => Y.iaload hx (j := j) (v := .int (f k)) (by rw [eh]; exact A.1) (State.isArrayOf_alike hZ.alike A.2.1) A.2.2 (by rw [S]; exact i1) (by rw [i2]; exact H k hk) (g := mkF m pc Ls (.int j :: .ref a :: st)) rfl rfl (hb hby hd) target kk) hr
theorem g_baload (K : Cx p s m meth c Z own nm bs ml rt) (X : Sd p l e R s m args below meth c n0 T cells slots) (eh : T.heap = h) {a : Addr} {n : Nat} {f : Nat → Int32} (A : Ai Z h a .byte n f) {j : Int32} (k : Nat) (hj : j.toInt = (k : Int)) (hk : k < n) (v : Int32) (hv : f k = v) (pc' : Nat) (hd : decode bs pc = .ok (.baload, 1)) (hp : pc + 1 = pc')
    (hr : Go p e below s n0 Q C N (T.setTop (mkF m pc' Ls (.int v :: st)))) : Go p e below s n0 Q C N (T.setTop (mkF m pc Ls (.int j :: .ref a :: st))) := by
  obtain ⟨locs, Y, -⟩ := X
  obtain ⟨hx, hZ, hby, -⟩ := K
  obtain ⟨cl, A, S, -, H⟩ := A
  subst hp hv
  obtain ⟨i1, i2⟩ := idx_ok hj hk
  exact Go.step (fun target kk => Y.baloadBytes hx (j := j) (v := .int (f k)) (by rw [eh]; exact A.1) (State.isArrayOf_alike hZ.alike A.2.1) A.2.2 (by rw [S]; exact i1) (by rw [i2]; exact H k hk) (g := mkF m pc Ls (.int j :: .ref a :: st)) rfl rfl (hb hby hd) target kk) hr
theorem g_iastore (K : Cx p s m meth c Z own nm bs ml rt) (X : Sd p l e R s m args below meth c n0 T cells slots) (eh : T.heap = h) {a : Addr} {n : Nat} {f : Nat → Int32} (A : Ai Z h a .int n f) {j x : Int32} (k : Nat) (hj : j.toInt = (k : Int)) (hk : k < n) (v : Int32) (hv : x = v) (ge : n0 ≤ a) (pc' : Nat) (hd : decode bs pc = .ok (.iastore, 1)) (hp : pc + 1 = pc')
    (hr : ∀ T' h', Sd p l e R s m args below meth c n0 T' cells slots → T'.heap = h' → Wr h h' a k (.int v) → Ai Z h' a .int n (upA f k v) → Go p e below s n0 Q C N (T'.setTop (mkF m pc' Ls st))) : Go p e below s n0 Q C N (T.setTop (mkF m pc Ls (.int x :: .int j :: .ref a :: st))) := by
  obtain ⟨locs, Y, hN⟩ := X
  obtain ⟨hx, hZ, hby, -⟩ := K
  have A' := A
  obtain ⟨cl, B, S, -, H⟩ := A
  subst hp hv
  obtain ⟨i1, i2⟩ := idx_ok hj hk
  obtain ⟨T', h', X', e', W, kk⟩ := stI Y hx hZ eh B (j := j) (x := x) (by rw [S]; exact i1) (g := mkF m pc Ls (.int x :: .int j :: .ref a :: st)) rfl (rest := st) rfl (hb hby hd)
  rw [i2] at W
  exact Go.step kk (hr T' h' ⟨_, X', Fr.snoc X' hN ge⟩ e' W (A'.set W))
theorem g_bastore (K : Cx p s m meth c Z own nm bs ml rt) (X : Sd p l e R s m args below meth c n0 T cells slots) (eh : T.heap = h) {a : Addr} {n : Nat} {f : Nat → Int32} (A : Ai Z h a .byte n f) {j x : Int32} (k : Nat) (hj : j.toInt = (k : Int)) (hk : k < n) (v : Int32) (hv : x.toInt8.toInt32 = v) (ge : n0 ≤ a) (pc' : Nat) (hd : decode bs pc = .ok (.bastore, 1)) (hp : pc + 1 = pc')
    (hr : ∀ T' h', Sd p l e R s m args below meth c n0 T' cells slots → T'.heap = h' → Wr h h' a k (.int v) → Ai Z h' a .byte n (upA f k v) → Go p e below s n0 Q C N (T'.setTop (mkF m pc' Ls st))) : Go p e below s n0 Q C N (T.setTop (mkF m pc Ls (.int x :: .int j :: .ref a :: st))) := by
  obtain ⟨locs, Y, hN⟩ := X
  obtain ⟨hx, hZ, hby, -⟩ := K
  have A' := A
  obtain ⟨cl, B, S, -, H⟩ := A
  subst hp hv
  obtain ⟨i1, i2⟩ := idx_ok hj hk
  obtain ⟨T', h', X', e', W, kk⟩ := stB Y hx hZ eh B (j := j) (x := x) (by rw [S]; exact i1) (g := mkF m pc Ls (.int x :: .int j :: .ref a :: st)) rfl (rest := st) rfl (hb hby hd)
  rw [i2] at W
  exact Go.step kk (hr T' h' ⟨_, X', Fr.snoc X' hN ge⟩ e' W (A'.set W))
theorem g_initO (K : Cx p s m meth c Z own nm bs ml rt) (X : Sd p l e R s m args below meth c n0 T cells slots) (eh : T.heap = h) (hsz : Ls.size = ml) {idx : Nat} (w1 : (Jvm.Cond.methodLink own idx Lib.objectInit).before a0 Z = true) (w2 : (Jvm.Cond.instanceMethod Lib.objectInit).before a0 Z = true) (w3 : (Jvm.Cond.code Lib.objectInit ⟨#[0xb1]⟩ 1 none).before a0 Z = true) {a : Addr} (pc' : Nat) (hd : decode bs pc = .ok (.invokespecial idx, 3)) (hp : pc + 3 = pc') (hf : 1 ≤ R.frames) (W : Nat) (hW : (st.map fun v => v.category).sum ≤ W) (hl : W + 12 ≤ R.locals)
    (hr : ∀ T', Sd p l e R s m args below meth c n0 T' cells slots → T'.heap = h → Go p e below s n0 Q C N (T'.setTop (mkF m pc' Ls st))) : Go p e below s n0 Q C N (T.setTop (mkF m pc Ls (.ref a :: st))) := by
  obtain ⟨locs, Y, hN⟩ := X
  obtain ⟨hx, hZ, hby, hml, hown, -⟩ := K
  subst hp
  obtain ⟨T', X', e', k⟩ := initO Y hx hZ hown w1 w2 w3 eh (g := mkF m pc Ls (.ref a :: st)) rfl (by rw [hml]; exact hsz) (a := a) (rest := st) rfl (hb hby hd) hf (W := W) (by show 2 * 0 + _ ≤ _; rw [Nat.mul_zero, Nat.zero_add]; exact hW) hl
  exact Go.step k (hr T' ⟨locs, X', hN⟩ e')
theorem g_special (K : Cx p s m meth c Z own nm bs ml rt) (X : Sd p l e R s m args below meth c n0 T cells slots) (eh : T.heap = h) (hsz : Ls.size = ml) {index : Nat} {y : MethodName} (hy1 : y.name = "<init>") {bytes : ByteArray} {maxL : Nat} {rm : Room} {as' : Array Value} {Q' : Option Value → Heap → Prop} (hM : Met l Z y bytes maxL none [] rm as' h n0 Q')
    (w1 : (Jvm.Cond.methodLink own index y).before a0 Z = true) (w2 : (Jvm.Cond.instanceMethod y).before a0 Z = true) (w3 : (Jvm.Cond.code y bytes maxL none).before a0 Z = true) (w4 : (Jvm.Cond.initialized y.cls).before a0 Z = true) (hy : y.cls ≠ "java/lang/invoke/MethodHandle" ∧ y.cls ≠ "java/lang/invoke/VarHandle")
    {a : Addr} (argsL : List Value) {S : List Value} (hS : argsL.reverse ++ .ref a :: st = S) (has : (.ref a :: argsL).toArray = as') (hlen : ∀ sig, parseMethodDescriptor y.desc = some sig → argsL.length = sig.parameters.length) (pc' : Nat) (hd : decode bs pc = .ok (.invokespecial index, 3)) (hp : pc + 3 = pc') (W : Nat) (hW : (st.map fun v => v.category).sum ≤ W) (hf : rm.frames + 1 ≤ R.frames) (hl : W + (maxL + 11) + rm.locals ≤ R.locals) (hc : cells + rm.cells ≤ R.cells) (hs : slots + rm.slots ≤ R.slots)
    (hr : ∀ T' v h', Sd p l e R s m args below meth c n0 T' (cells + rm.cells) (slots + rm.slots) → T'.heap = h' → Q' v h' → Go p e below s n0 Q C N (T'.setTop (mkF m pc' Ls (v.toList ++ st)))) : Go p e below s n0 Q C N (T.setTop (mkF m pc Ls S)) := by
  obtain ⟨locs, Y, hN⟩ := X
  obtain ⟨hx, hZ, hby, hml, hown, -⟩ := K
  subst hp hS has
  obtain ⟨v, vm1, ⟨T', L', k', n'⟩, -, X', ⟨Lc, ⟨hQ, hF⟩, l1, l2, l3⟩, k⟩ := Y.specialBack hx hy1 hown (mvT hZ w1) (mvT hZ w2) (mvT hZ w3) hy (backOf (W := W) (Q := fun v h L => Q' v h ∧ Fr n0 L) hM hZ w3 w4 hf hl) (g := mkF m pc Ls (argsL.reverse ++ .ref a :: st)) rfl (by rw [hml]; exact hsz) (Steps.refl _) (a := a) (argsL := argsL) (rest := st) hlen rfl (by show 2 * 0 + _ ≤ _; rw [Nat.mul_zero, Nat.zero_add]; exact hW) (hb hby hd) (fun _ _ => ⟨rfl, eh, hc, hs⟩)
  dsimp only [Pt.U, Pt.locs, Pt.cells, Pt.slots] at X' l1 l2 l3 k hQ
  subst l1 l2 l3
  exact Go.trans k (hr T' v T'.heap ⟨_, X', hN.app hF⟩ rfl hQ)
theorem g_static (K : Cx p s m meth c Z own nm bs ml rt) (X : Sd p l e R s m args below meth c n0 T cells slots) (eh : T.heap = h) (hsz : Ls.size = ml) {index : Nat} {y : MethodName} {bytes : ByteArray} {maxL : Nat} {ret : Option FieldType} {rm : Room} {as' : Array Value} {Q' : Option Value → Heap → Prop} (hM : Met l Z y bytes maxL ret [] rm as' h n0 Q')
    (w1 : (Jvm.Cond.methodLink own index y).before a0 Z = true) (w2 : (Jvm.Cond.static y).before a0 Z = true) (w3 : (Jvm.Cond.code y bytes maxL ret).before a0 Z = true) (w4 : (Jvm.Cond.initialized y.cls).before a0 Z = true) (hy : y.cls ≠ "java/lang/invoke/MethodHandle" ∧ y.cls ≠ "java/lang/invoke/VarHandle")
    (argsL : List Value) {S : List Value} (hS : argsL.reverse ++ st = S) (has : argsL.toArray = as') (hlen : ∀ sig, parseMethodDescriptor y.desc = some sig → argsL.length = sig.parameters.length) (pc' : Nat) (hd : decode bs pc = .ok (.invokestatic index, 3)) (hp : pc + 3 = pc') (W : Nat) (hW : (st.map fun v => v.category).sum ≤ W) (hf : rm.frames + 1 ≤ R.frames) (hl : W + (maxL + 11) + rm.locals ≤ R.locals) (hc : cells + rm.cells ≤ R.cells) (hs : slots + rm.slots ≤ R.slots)
    (hr : ∀ T' v h', Sd p l e R s m args below meth c n0 T' (cells + rm.cells) (slots + rm.slots) → T'.heap = h' → Q' v h' → Go p e below s n0 Q C N (T'.setTop (mkF m pc' Ls (v.toList ++ st)))) : Go p e below s n0 Q C N (T.setTop (mkF m pc Ls S)) := by
  obtain ⟨locs, Y, hN⟩ := X
  obtain ⟨hx, hZ, hby, hml, hown, -⟩ := K
  subst hp hS has
  obtain ⟨v, vm1, ⟨T', L', k', n'⟩, -, X', ⟨Lc, ⟨hQ, hF⟩, l1, l2, l3⟩, k⟩ := Jvm.LawKit.callS Y hx hown (mvT hZ w1) (mvT hZ w2) (mvT hZ w4) (mvT hZ w3) hy (backOf (W := W) (Q := fun v h L => Q' v h ∧ Fr n0 L) hM hZ w3 w4 hf hl) (g := mkF m pc Ls (argsL.reverse ++ st)) rfl (by rw [hml]; exact hsz) (argsL := argsL) (rest := st) hlen rfl (by show 2 * 0 + _ ≤ _; rw [Nat.mul_zero, Nat.zero_add]; exact hW) (hb hby hd) (fun _ _ => ⟨rfl, eh, hc, hs⟩)
  dsimp only [Pt.U, Pt.locs, Pt.cells, Pt.slots] at X' l1 l2 l3 k hQ
  subst l1 l2 l3
  exact Go.step k (hr T' v T'.heap ⟨_, X', hN.app hF⟩ rfl hQ)
theorem g_virtual (K : Cx p s m meth c Z own nm bs ml rt) (X : Sd p l e R s m args below meth c n0 T cells slots) (eh : T.heap = h) (hsz : Ls.size = ml) {index : Nat} {D : String} {y : MethodName} {bytes : ByteArray} {maxL : Nat} {ret : Option FieldType} {rm : Room} {as' : Array Value} {Q' : Option Value → Heap → Prop} (hM : Met l Z y bytes maxL ret [] rm as' h n0 Q')
    (w1 : (Jvm.Cond.methodLink own index y).before a0 Z = true) (w2 : (Jvm.Cond.declares y).before a0 Z = true) (w5 : (Jvm.Cond.selects D y y).before a0 Z = true) (w6 : (Jvm.Cond.instanceMethod y).before a0 Z = true) (w3 : (Jvm.Cond.code y bytes maxL ret).before a0 Z = true) (w4 : (Jvm.Cond.initialized y.cls).before a0 Z = true) (hy : y.cls ≠ "java/lang/invoke/MethodHandle" ∧ y.cls ≠ "java/lang/invoke/VarHandle")
    {a : Addr} (E : Exa Z h a D) (argsL : List Value) {S : List Value} (hS : argsL.reverse ++ .ref a :: st = S) (has : (.ref a :: argsL).toArray = as') (hlen : ∀ sig, parseMethodDescriptor y.desc = some sig → argsL.length = sig.parameters.length) (pc' : Nat) (hd : decode bs pc = .ok (.invokevirtual index, 3)) (hp : pc + 3 = pc') (W : Nat) (hW : (st.map fun v => v.category).sum ≤ W) (hf : rm.frames + 1 ≤ R.frames) (hl : W + (maxL + 11) + rm.locals ≤ R.locals) (hc : cells + rm.cells ≤ R.cells) (hs : slots + rm.slots ≤ R.slots)
    (hr : ∀ T' v h', Sd p l e R s m args below meth c n0 T' (cells + rm.cells) (slots + rm.slots) → T'.heap = h' → Q' v h' → Go p e below s n0 Q C N (T'.setTop (mkF m pc' Ls (v.toList ++ st)))) : Go p e below s n0 Q C N (T.setTop (mkF m pc Ls S)) := by
  obtain ⟨locs, Y, hN⟩ := X
  obtain ⟨hx, hZ, hby, hml, hown, -⟩ := K
  subst hp hS has
  obtain ⟨cq, kq, qa, qb, qc⟩ := isOf hZ eh E
  obtain ⟨v, vm1, ⟨T', L', k', n'⟩, -, X', ⟨Lc, ⟨hQ, hF⟩, l1, l2, l3⟩, k⟩ := Y.virtualBack hx (y := y) (z := y) hown (mvT hZ w1) (mvT hZ w2) (notFace_of_selects (args := #[]) (mvT hZ w5)) (mvT hZ w5) (mvT hZ w6) hy (backOf (W := W) (Q := fun v h L => Q' v h ∧ Fr n0 L) hM hZ w3 w4 hf hl) qa qc (g := mkF m pc Ls (argsL.reverse ++ .ref a :: st)) rfl (by rw [hml]; exact hsz) (Steps.refl _) (argsL := argsL) (rest := st) hlen rfl (by show 2 * 0 + _ ≤ _; rw [Nat.mul_zero, Nat.zero_add]; exact hW) (hb hby hd) (fun _ _ => ⟨rfl, eh, hc, hs⟩)
  dsimp only [Pt.U, Pt.locs, Pt.cells, Pt.slots] at X' l1 l2 l3 k hQ
  subst l1 l2 l3
  exact Go.trans k (hr T' v T'.heap ⟨_, X', hN.app hF⟩ rfl hQ)
theorem g_private (K : Cx p s m meth c Z own nm bs ml rt) (X : Sd p l e R s m args below meth c n0 T cells slots) (eh : T.heap = h) (hsz : Ls.size = ml) {index : Nat} {y : MethodName} {bytes : ByteArray} {maxL kk : Nat} {ret : Option FieldType} {rm : Room} {as' : Array Value} {Q' : Option Value → Heap → Prop} (hM : Met l Z y bytes maxL ret [] rm as' h n0 Q')
    (w1 : (Jvm.Cond.methodLink own index y).before a0 Z = true) (w2 : (Jvm.Cond.instanceMethod y).before a0 Z = true) (w5 : (Jvm.Cond.privateMethod y).before a0 Z = true) (wi : (Jvm.Cond.instantiable y.cls kk).before a0 Z = true) (w3 : (Jvm.Cond.code y bytes maxL ret).before a0 Z = true) (w4 : (Jvm.Cond.initialized y.cls).before a0 Z = true) (hy : y.cls ≠ "java/lang/invoke/MethodHandle" ∧ y.cls ≠ "java/lang/invoke/VarHandle")
    {D : String} {a : Addr} (E : Exa Z h a D) (argsL : List Value) {S : List Value} (hS : argsL.reverse ++ .ref a :: st = S) (has : (.ref a :: argsL).toArray = as') (hlen : ∀ sig, parseMethodDescriptor y.desc = some sig → argsL.length = sig.parameters.length) (pc' : Nat) (hd : decode bs pc = .ok (.invokevirtual index, 3)) (hp : pc + 3 = pc') (W : Nat) (hW : (st.map fun v => v.category).sum ≤ W) (hf : rm.frames + 1 ≤ R.frames) (hl : W + (maxL + 11) + rm.locals ≤ R.locals) (hc : cells + rm.cells ≤ R.cells) (hs : slots + rm.slots ≤ R.slots)
    (hr : ∀ T' v h', Sd p l e R s m args below meth c n0 T' (cells + rm.cells) (slots + rm.slots) → T'.heap = h' → Q' v h' → Go p e below s n0 Q C N (T'.setTop (mkF m pc' Ls (v.toList ++ st)))) : Go p e below s n0 Q C N (T.setTop (mkF m pc Ls S)) := by
  obtain ⟨locs, Y, hN⟩ := X
  obtain ⟨hx, hZ, hby, hml, hown, -⟩ := K
  subst hp hS has
  have hpriv : s.PrivateAt y := Cond.privateMethod_at (mvP hZ w5 (args := #[]))
  have wi' : (Jvm.Cond.instantiable y.cls kk).before args s = true := mvT hZ wi
  obtain ⟨ci, ki, i1, i2, -, i4, -⟩ := Cond.instantiable_spec wi'
  have hsel : (Jvm.Cond.selects y.cls y y).before args s = true := Jvm.Stand.selects_self_of_private i1 i2 (by cases hb2 : ki.isInterface <;> simp_all) hpriv (mvT hZ w2 : (Jvm.Cond.instanceMethod y).before args s = true) hy
  obtain ⟨cl, q1, q2⟩ := E.cell
  obtain ⟨v, vm1, ⟨T', L', k', n'⟩, -, X', ⟨Lc, ⟨hQ, hF⟩, l1, l2, l3⟩, k⟩ := Y.privateBack hx (y := y) hown (mvT hZ w1) (mvT hZ w2) hsel hpriv (mvT hZ w3) hy (backOf (W := W) (Q := fun v h L => Q' v h ∧ Fr n0 L) hM hZ w3 w4 hf hl) (g := mkF m pc Ls (argsL.reverse ++ .ref a :: st)) rfl (by rw [hml]; exact hsz) (Steps.refl _) (a := a) (cell := cl) (by rw [eh]; exact q1) q2 (argsL := argsL) (rest := st) hlen rfl (by show 2 * 0 + _ ≤ _; rw [Nat.mul_zero, Nat.zero_add]; exact hW) (hb hby hd) (fun _ _ => ⟨rfl, eh, hc, hs⟩)
  dsimp only [Pt.U, Pt.locs, Pt.cells, Pt.slots] at X' l1 l2 l3 k hQ
  subst l1 l2 l3
  exact Go.trans k (hr T' v T'.heap ⟨_, X', hN.app hF⟩ rfl hQ)
/-- an array of bytes -/
def Ab (Z : State) (h : Heap) (a : Addr) (n : Nat) (f : Nat → Int32) : Prop := Ai Z h a .byte n f ∧ ∀ j, j < n → (f j).toInt8.toInt32 = f j
def bl (f : Nat → Int32) (n : Nat) : List Value := (List.range n).map fun j => .int (f j)
theorem bl_len (f : Nat → Int32) (n : Nat) : (bl f n).length = n := by simp [bl]
theorem bl_at (f : Nat → Int32) {n j : Nat} (h : j < n) (d : Value) : (bl f n).getD j d = .int (f j) := by simp [bl, List.getD_eq_getElem?_getD, h]
theorem i32n {n : Nat} (hn : n < 2 ^ 31) : (Int32.ofNat n).toNatClampNeg = n ∧ ¬ Int32.ofNat n < 0 := by
  have e : (Int32.ofNat n).toInt = (n : Int) := Int32.toInt_ofNat_of_lt (by omega)
  refine ⟨by rw [Int32.toNatClampNeg, e]; rfl, ?_⟩
  rw [Int32.lt_iff_toInt_lt, e, show (0 : Int32).toInt = 0 from rfl]; omega
theorem Ab.arv {a : Addr} {n : Nat} {f : Nat → Int32} (A : Ab Z h a n f) : ∃ k, Arv Z h a k .byte (Int32.ofNat n) (bl f n) (.int 0) := by
  obtain ⟨⟨cl, A, S, B, H⟩, G⟩ := A
  obtain ⟨z1, z2⟩ := i32n B
  refine ⟨cl.cls, cl, A, rfl, by rw [z1]; exact S, z2, fun j hj => ?_, fun j hj => ?_⟩
  · rw [S] at hj
    rw [bl_at f hj]; exact H j hj
  · rw [S] at hj
    rw [bl_at f hj, ← G j hj]; exact fits_nar_byte _
theorem Ai.of_arv {a : Addr} {k : ClassId} {n : Nat} {vs : List Value} {d : Value} {g : Nat → Int32} {ty : FieldType} (hn : n < 2 ^ 31) (A : Arv Z h a k ty (Int32.ofNat n) vs d) (hg : ∀ j, j < n → vs.getD j d = .int (g j)) : Ai Z h a ty n g := by
  obtain ⟨cl, A, -, S, -, H, -⟩ := A
  obtain ⟨z1, -⟩ := i32n hn
  rw [z1] at S
  exact ⟨cl, A, S, hn, fun j hj => by rw [H j (by rw [S]; exact hj), hg j hj]⟩
theorem Ab.ext {h' : Heap} {a : Addr} {n : Nat} {f : Nat → Int32} (A : Ab Z h a n f) (E : Ext h h') : Ab Z h' a n f := ⟨A.1.ext E, A.2⟩
theorem Ab.other {h' : Heap} {a b : Addr} {n sl : Nat} {f : Nat → Int32} {v : Value} (A : Ab Z h b n f) (W : Wr h h' a sl v) (q : b ≠ a) : Ab Z h' b n f := ⟨A.1.other W q, A.2⟩
theorem Ab.keep {h' : Heap} {a : Addr} {n : Nat} {f : Nat → Int32} {ws : List Addr} (A : Ab Z h a n f) (K : Keep h h' ws) (q : a ∉ ws) : Ab Z h' a n f := ⟨A.1.keep K q, A.2⟩
theorem Ab.congr {a : Addr} {n : Nat} {f g : Nat → Int32} (A : Ab Z h a n f) (q : ∀ j, j < n → f j = g j) : Ab Z h a n g := ⟨A.1.congr q, fun j hj => by rw [← q j hj]; exact A.2 j hj⟩
theorem Ab.upA {h' : Heap} {a : Addr} {n k : Nat} {f : Nat → Int32} {x : Int32} (A : Ab Z h a n f) (B : Ai Z h' a .byte n (upA f k x)) (hx : x.toInt8.toInt32 = x) : Ab Z h' a n (upA f k x) := ⟨B, fun j hj => by
  by_cases q : j = k
  · subst q; rw [upA_same]; exact hx
  · rw [upA_other q]; exact A.2 j hj⟩
theorem g_cast (K : Cx p s m meth c Z own nm bs ml rt) (X : Sd p l e R s m args below meth c n0 T cells slots) (eh : T.heap = h) {D : String} {index : Nat} (w : (Jvm.Cond.classLink own index D).before a0 Z = true) {a : Addr} (E : Exa Z h a D) (pc' : Nat) (hd : decode bs pc = .ok (.checkcast index, 3)) (hp : pc + 3 = pc')
    (hr : ∀ T', Sd p l e R s m args below meth c n0 T' cells slots → T'.heap = h → Go p e below s n0 Q C N (T'.setTop (mkF m pc' Ls (.ref a :: st)))) : Go p e below s n0 Q C N (T.setTop (mkF m pc Ls (.ref a :: st))) := by
  obtain ⟨locs, Y, hN⟩ := X
  obtain ⟨hx, hZ, hby, -, hown, -⟩ := K
  subst hp
  obtain ⟨T', X', e', k⟩ := castY Y hx hZ hown w eh (Ins.self E) (g := mkF m pc Ls (.ref a :: st)) rfl rfl (hb hby hd)
  exact Go.step k (hr T' ⟨locs, X', hN⟩ e')
theorem g_clone (K : Cx p s m meth c Z own nm bs ml rt) (X : Sd p l e R s m args below meth c n0 T cells slots) (eh : T.heap = h) (hsz : Ls.size = ml) {index : Nat} (w1 : (Jvm.Cond.methodLink own index ⟨"[B", "clone", "()Ljava/lang/Object;"⟩).before a0 Z = true) (w2 : (Jvm.Cond.sameMethod "[B" "java/lang/Object" "clone" "()Ljava/lang/Object;").before a0 Z = true) (w3 : (Jvm.Cond.native ⟨"java/lang/Object", "clone", "()Ljava/lang/Object;"⟩).before a0 Z = true) (w4 : (Jvm.Cond.instanceMethod ⟨"java/lang/Object", "clone", "()Ljava/lang/Object;"⟩).before a0 Z = true) (w5 : (Jvm.Cond.selects "[B" ⟨"[B", "clone", "()Ljava/lang/Object;"⟩ ⟨"java/lang/Object", "clone", "()Ljava/lang/Object;"⟩).before a0 Z = true) (w6 : (Jvm.Cond.castable "[B" "java/lang/Cloneable").before a0 Z = true)
    {a : Addr} {n cap : Nat} {f : Nat → Int32} (A : Ab Z h a n f) (E : Exa Z h a "[B") (hcap : n ≤ cap) (pc' : Nat) (hd : decode bs pc = .ok (.invokevirtual index, 3)) (hp : pc + 3 = pc') (hf : 1 ≤ R.frames) (W : Nat) (hW : (st.map fun v => v.category).sum ≤ W) (hl : W + 14 ≤ R.locals) (hc : cells + 1 ≤ R.cells) (hs : slots + cap ≤ R.slots)
    (hr : ∀ T' h' b, b = h.size → Sd p l e R s m args below meth c n0 T' (cells + 1) (slots + cap) → T'.heap = h' → Ext h h' → Ab Z h' b n f → Exa Z h' b "[B" → Go p e below s n0 Q C N (T'.setTop (mkF m pc' Ls (.ref b :: st)))) : Go p e below s n0 Q C N (T.setTop (mkF m pc Ls (.ref a :: st))) := by
  obtain ⟨locs, Y, hN⟩ := X
  obtain ⟨hx, hZ, hby, hml, hown, -⟩ := K
  subst hp
  have hn := A.1
  obtain ⟨-, -, -, hn, -⟩ := hn
  obtain ⟨k, V⟩ := A.arv
  obtain ⟨z1, -⟩ := i32n hn
  obtain ⟨T', h', X', e', Ex, V', E', kk⟩ := cloneH Y hx hZ hown w1 w2 w3 w4 w5 w6 eh V.arh E (g := mkF m pc Ls (.ref a :: st)) rfl (by rw [hml]; exact hsz) (rest := st) rfl (hb hby hd) hf (W := W) (cap := cap) (by show 2 * 0 + _ ≤ _; rw [Nat.mul_zero, Nat.zero_add]; exact hW) hl (by rw [z1]; exact hcap) hc hs
  have V2 : Arv Z h' h.size k .byte (Int32.ofNat n) (bl f n) (.int 0) := V'
  exact Go.step kk (hr T' h' h.size rfl ⟨locs, X', hN⟩ e' Ex ⟨Ai.of_arv hn V2 (fun j hj => bl_at f hj _), A.2⟩ E')
/-- arraycopy from the start of one array of bytes to the start of another, new one -/
theorem g_acopy (K : Cx p s m meth c Z own nm bs ml rt) (X : Sd p l e R s m args below meth c n0 T cells slots) (eh : T.heap = h) (hsz : Ls.size = ml) {index : Nat} (w1 : (Jvm.Cond.methodLink own index Jvm.Stand.acN).before a0 Z = true) (w2 : (Jvm.Cond.native Jvm.Stand.acN).before a0 Z = true) (w3 : (Jvm.Cond.static Jvm.Stand.acN).before a0 Z = true) (w4 : (Jvm.Cond.initialized "java/lang/System").before a0 Z = true)
    {a b : Addr} {n m' q : Nat} {f g : Nat → Int32} (A : Ab Z h a n f) (B : Ab Z h b m' g) (E : Exa Z h b "[B") (hq1 : q ≤ n) (hq2 : q ≤ m') (ge : n0 ≤ b) {x y z : Int32} (hx0 : x = 0) (hy0 : y = 0) (hz : z = Int32.ofNat q) (pc' : Nat) (hd : decode bs pc = .ok (.invokestatic index, 3)) (hp : pc + 3 = pc') (hf : 1 ≤ R.frames) (W : Nat) (hW : (st.map fun v => v.category).sum ≤ W) (hl : W + (nativeFrameWords "java/lang/System" "arraycopy" 5 + 11) ≤ R.locals)
    (hr : ∀ T' h', Sd p l e R s m args below meth c n0 T' cells slots → T'.heap = h' → Keep h h' [b] → Ab Z h' b m' (fun j => if j < q then f j else g j) → Go p e below s n0 Q C N (T'.setTop (mkF m pc' Ls st))) : Go p e below s n0 Q C N (T.setTop (mkF m pc Ls (.int z :: .int y :: .ref b :: .int x :: .ref a :: st))) := by
  obtain ⟨locs, Y, hN⟩ := X
  obtain ⟨hx, hZ, hby, hml, hown, -⟩ := K
  subst hp hx0 hy0 hz
  have hn := A.1
  obtain ⟨-, -, -, hn, -⟩ := hn
  have hm := B.1
  obtain ⟨-, -, -, hm, -⟩ := hm
  obtain ⟨k, V⟩ := A.arv
  obtain ⟨k', V'⟩ := B.arv
  obtain ⟨n1, -⟩ := i32n hn
  obtain ⟨m1, -⟩ := i32n hm
  obtain ⟨q1, q2⟩ := i32n (n := q) (by omega)
  have z0 : (0 : Int32).toNatClampNeg = 0 := rfl
  obtain ⟨T', h', L, X', e', F', K', V2, kk⟩ := cpA Y hx hZ hown w1 w2 w3 w4 eh (sp := 0) (dp := 0) (nn := Int32.ofNat q) (us := (List.range q).map fun i => (bl f n).getD (0 + i) (.int 0)) V V' (Or.inl ⟨rfl, rfl⟩) (by decide) (by decide) q2 (by rw [z0, q1, n1]; omega) (by rw [z0, q1, m1]; omega) (by rw [q1, z0]) (by rw [z0, q1, bl_len]; omega) hN ge (g := mkF m pc Ls (.int (Int32.ofNat q) :: .int 0 :: .ref b :: .int 0 :: .ref a :: st)) rfl (by rw [hml]; exact hsz) (rest := st) rfl (hb hby hd) hf (W := W) (by show 2 * 0 + _ ≤ _; rw [Nat.mul_zero, Nat.zero_add]; exact hW) hl
  refine Go.step kk (hr T' h' ⟨_, X', F'⟩ e' K' ⟨Ai.of_arv hm V2 (fun j hj => ?_), fun j hj => ?_⟩)
  · rw [z0, q1]
    by_cases hjq : j < q
    · simp [hjq, bl_len, List.getD_eq_getElem?_getD, bl, List.getElem?_append, show j < n by omega]
    · have : j - q + q = j := by omega
      simp [hjq, bl_len, List.getD_eq_getElem?_getD, bl, List.getElem?_append, hj, List.getElem?_drop, show q + (j - q) = j by omega]
  · show (if j < q then f j else g j).toInt8.toInt32 = (if j < q then f j else g j)
    split
    · exact A.2 j (by omega)
    · exact B.2 j hj
theorem g_retN (K : Cx p s m meth c Z own nm bs ml rt) (X : Sd p l e R s m args below meth c n0 T cells slots) (eh : T.heap = h) {t : FieldType} (hret : rt = some t) (ht : t = .boolean ∨ t = .byte ∨ t = .char ∨ t = .short) {x : Int32} (v : Int32) (hv : nar t x = v) (hd : decode bs pc = .ok (.ireturn, 1)) (hC : cells ≤ C) (hS : slots ≤ N) (hq : Q (some (.int v)) h) : Go p e below s n0 Q C N (T.setTop (mkF m pc Ls (.int x :: st))) := by
  obtain ⟨locs, Y, hN⟩ := X
  obtain ⟨hx, hZ, hby, hml, hown, -, hrt, hlk⟩ := K
  subst hv hret
  obtain ⟨fs, hr, hrun, hended, hW, hsame⟩ := Y.leave (v := some (.int (nar t x))) (fun h => by rw [hrt] at h; cases h) hlk
  exact ⟨_, _, retN Y hx hrt ht (hb hby hd) hr, hrun, hended, _, _, rfl, ⟨by rw [← eh] at hq; exact hq, hN⟩, ⟨_, rfl⟩, hW, hsame.mono hC hS⟩
theorem g_retV (K : Cx p s m meth c Z own nm bs ml rt) (X : Sd p l e R s m args below meth c n0 T cells slots) (eh : T.heap = h) {t : FieldType} (hret : rt = some t) {w : Value} {i : Instr} (hn : narrow t w = w)
    (hi : (i = .ireturn ∧ (t = .int ∨ t = .boolean ∨ t = .byte ∨ t = .char ∨ t = .short) ∧ ∃ z, w = .int z) ∨ (i = .lreturn ∧ t = .long ∧ ∃ z, w = .long z) ∨ (i = .dreturn ∧ t = .double ∧ ∃ z, w = .double z) ∨ (i = .freturn ∧ t = .float ∧ ∃ z, w = .float z) ∨ (i = .areturn ∧ t.isReference = true ∧ w.isRef = true))
    (hd : decode bs pc = .ok (i, 1)) (hC : cells ≤ C) (hS : slots ≤ N) (hq : Q (some w) h) : Go p e below s n0 Q C N (T.setTop (mkF m pc Ls (w :: st))) := by
  obtain ⟨locs, Y, hN⟩ := X
  obtain ⟨hx, hZ, hby, hml, hown, -, hrt, hlk⟩ := K
  subst hret
  obtain ⟨fs, hr, hrun, hended, hW, hsame⟩ := Y.leave (v := some w) (fun h => by rw [hrt] at h; cases h) hlk
  exact ⟨_, _, retOut Y hx hrt hn hi (hb hby hd) hr, hrun, hended, _, _, rfl, ⟨by rw [← eh] at hq; exact hq, hN⟩, ⟨_, rfl⟩, hW, hsame.mono hC hS⟩
theorem g_retI (K : Cx p s m meth c Z own nm bs ml rt) (X : Sd p l e R s m args below meth c n0 T cells slots) (eh : T.heap = h) (hret : rt = some .int) {x : Int32} (hd : decode bs pc = .ok (.ireturn, 1)) (hC : cells ≤ C) (hS : slots ≤ N) (hq : Q (some (.int x)) h) : Go p e below s n0 Q C N (T.setTop (mkF m pc Ls (.int x :: st))) :=
  g_retV K X eh hret rfl (Or.inl ⟨rfl, Or.inl rfl, _, rfl⟩) hd hC hS hq
theorem g_retJ (K : Cx p s m meth c Z own nm bs ml rt) (X : Sd p l e R s m args below meth c n0 T cells slots) (eh : T.heap = h) (hret : rt = some .long) {x : Int64} (hd : decode bs pc = .ok (.lreturn, 1)) (hC : cells ≤ C) (hS : slots ≤ N) (hq : Q (some (.long x)) h) : Go p e below s n0 Q C N (T.setTop (mkF m pc Ls (.long x :: st))) :=
  g_retV K X eh hret rfl (Or.inr (Or.inl ⟨rfl, rfl, _, rfl⟩)) hd hC hS hq
theorem g_retR (K : Cx p s m meth c Z own nm bs ml rt) (X : Sd p l e R s m args below meth c n0 T cells slots) (eh : T.heap = h) {t : FieldType} (hret : rt = some t) (ht : t.isReference = true) {a : Addr} (hn : narrow t (.ref a) = .ref a) (hd : decode bs pc = .ok (.areturn, 1)) (hC : cells ≤ C) (hS : slots ≤ N) (hq : Q (some (.ref a)) h) : Go p e below s n0 Q C N (T.setTop (mkF m pc Ls (.ref a :: st))) :=
  g_retV K X eh hret hn (Or.inr (Or.inr (Or.inr (Or.inr ⟨rfl, ht, rfl⟩)))) hd hC hS hq
theorem g_ret (K : Cx p s m meth c Z own nm bs ml rt) (X : Sd p l e R s m args below meth c n0 T cells slots) (eh : T.heap = h) (hret : rt = none) (hd : decode bs pc = .ok (.return_, 1)) (hC : cells ≤ C) (hS : slots ≤ N) (hq : Q none h) : Go p e below s n0 Q C N (T.setTop (mkF m pc Ls [])) := by
  obtain ⟨locs, Y, hN⟩ := X
  obtain ⟨hx, hZ, hby, hml, hown, -, hrt, hlk⟩ := K
  subst hret
  obtain ⟨fs, hr, hrun, hended, hW, hsame⟩ := Y.leave (v := none) (fun _ => rfl) hlk
  exact ⟨_, _, Y.returnOut hx hrt (hb hby hd) hr, hrun, hended, _, _, rfl, ⟨by rw [← eh] at hq; exact hq, hN⟩, ⟨_, rfl⟩, hW, hsame.mono hC hS⟩
end Go
end Jvm.OwnGo
namespace Jvm.Pilot.@@N@@
open Jvm Jvm.ClassFile Sem Op Lib Jvm.Free Jvm.Stand Jvm.LawKit Jvm.RoadKit Jvm.OwnGo Bundle Jvm.Pilot.@@N@@.Jvm.D
theorem own_i0 {k : Nat} (hk : k < 100) : (Int32.ofNat k).toInt = (k : Int) := Int32.toInt_ofNat_of_lt (by omega)
theorem own_bb (x : Int32) : x.toInt8.toInt32.toInt8.toInt32 = x.toInt8.toInt32 := by simp
theorem own_lt {i j : Nat} (hi : i < 100) (hj : j < 100) : Int32.ofNat i < Int32.ofNat j ↔ i < j := by
  rw [Int32.lt_iff_toInt_lt, own_i0 hi, own_i0 hj]; omega
theorem own_eq {i j : Nat} (hi : i < 100) (hj : j < 100) : Int32.ofNat i = Int32.ofNat j ↔ i = j := by
  rw [← Int32.toInt_inj, own_i0 hi, own_i0 hj]; omega
theorem own_add (k i : Nat) {z : Int32} (hz : z = Int32.ofNat i) : Int32.ofNat k + z = Int32.ofNat (k + i) := by
  subst hz; exact (Int32.ofNat_add k i).symm
theorem own_rem (x : Int32) (n : Nat) (z : Int32) (hz : z.toInt = (n : Int)) (h0 : 0 < n) (hn : n < 100) : ∃ k : Nat, k < n ∧ (x &&& 2147483647) % z = Int32.ofNat k := by
  have h1 : (x &&& 2147483647).toInt = (((x &&& 2147483647).toBitVec.toNat : Nat) : Int) := by
    have : (x &&& 2147483647).toBitVec.toNat < 2 ^ 31 := by
      simp only [Int32.toBitVec_and, BitVec.toNat_and]
      exact Nat.lt_of_le_of_lt Nat.and_le_right (by decide)
    show (x &&& 2147483647).toBitVec.toInt = _
    rw [BitVec.toInt_eq_toNat_cond, if_pos (by omega)]
  have h2 := Nat.mod_lt (x &&& 2147483647).toBitVec.toNat h0
  refine ⟨(x &&& 2147483647).toBitVec.toNat % n, h2, ?_⟩
  apply Int32.toInt_inj.mp
  rw [Int32.toInt_mod, h1, hz, Int32.toInt_ofNat_of_lt (by omega)]
  exact (Int.ofNat_tmod _ _).symm
/-- the i-th byte drawn -/
def DR (w : Int64) (v : Int32) (i : Nat) : Int32 := if i < 8 then (XT.ushrL w ((8 : Int32) * Int32.ofNat i)).toInt32.toInt8.toInt32 else (XT.ushr v ((8 : Int32) * (Int32.ofNat i - (8 : Int32)))).toInt8.toInt32
theorem own_dr (w : Int64) (v : Int32) (i : Nat) : (DR w v i).toInt8.toInt32 = DR w v i := by
  rw [DR]; split <;> exact own_bb _
/-- the byte of the depth -/
def BD (d z : Nat) : Int32 := if z = 0 then (Int32.ofNat d ||| (128 : Int32)).toInt8.toInt32 else (Int32.ofNat d).toInt8.toInt32
theorem own_bd : ∀ d : Fin 65, ∀ z : Fin 2, (BD d.val z.val &&& 127 = Int32.ofNat d.val) ∧ (BD d.val z.val &&& 128 = if z.val = 0 then 128 else 0) := by decide +kernel
/-- the array behind startPage -/
def PG (f : Nat → Int32) (k : Nat) (B : Int32) (j : Nat) : Int32 := if j = k then 2 else if j = k + 1 then B else if k + 2 ≤ j ∧ j < k + 6 then 0 else f j
theorem own_pg (f : Nat → Int32) (k : Nat) (B : Int32) : ∀ j, j < 12 → upA (upA (upA (upA (upA (upA f k 2) (k + 1) B) (k + 2) 0) (k + 3) 0) (k + 4) 0) (k + 5) 0 j = PG f k B j := fun j _ => by
  simp only [upA, PG]
  (repeat' split) <;> first | rfl | (exfalso; omega)
theorem own_fill (g : Nat → Int32) : ∀ j, j < 12 → (upA (upA (upA (upA (upA (upA (upA (upA (upA (upA (upA (upA (fun _ => 0) 0 (g 0)) 1 (g 1)) 2 (g 2)) 3 (g 3)) 4 (g 4)) 5 (g 5)) 6 (g 6)) 7 (g 7)) 8 (g 8)) 9 (g 9)) 10 (g 10)) 11 (g 11)) j = g j := fun j hj => by
  match j, hj with
  | 0, _ => rfl
  | 1, _ => rfl
  | 2, _ => rfl
  | 3, _ => rfl
  | 4, _ => rfl
  | 5, _ => rfl
  | 6, _ => rfl
  | 7, _ => rfl
  | 8, _ => rfl
  | 9, _ => rfl
  | 10, _ => rfl
  | 11, _ => rfl
theorem pd_0 : parseMethodDescriptor "(JII)B" = some ⟨[.long, .int, .int], some .byte⟩ := by decide +kernel
theorem pd_1 : parseMethodDescriptor "([BJIIIIZ)Z" = some ⟨[(.array .byte), .long, .int, .int, .int, .int, .boolean], some .boolean⟩ := by decide +kernel
theorem pd_2 : parseMethodDescriptor "([BIIZ)I" = some ⟨[(.array .byte), .int, .int, .boolean], some .int⟩ := by decide +kernel
theorem d1_0 : decode method_3_code 0 = .ok (.iload_n 3, 1) := by decide +kernel
theorem d1_1 : decode method_3_code 1 = .ok (.bipush 8, 2) := by decide +kernel
theorem d1_3 : decode method_3_code 3 = .ok (.if_icmp .ge 12, 3) := by decide +kernel
theorem d1_6 : decode method_3_code 6 = .ok (.lload_n 0, 1) := by decide +kernel
theorem d1_7 : decode method_3_code 7 = .ok (.bipush 8, 2) := by decide +kernel
theorem d1_9 : decode method_3_code 9 = .ok (.iload_n 3, 1) := by decide +kernel
theorem d1_10 : decode method_3_code 10 = .ok (.imul, 1) := by decide +kernel
theorem d1_11 : decode method_3_code 11 = .ok (.lushr, 1) := by decide +kernel
theorem d1_12 : decode method_3_code 12 = .ok (.l2i, 1) := by decide +kernel
theorem d1_13 : decode method_3_code 13 = .ok (.i2b, 1) := by decide +kernel
theorem d1_14 : decode method_3_code 14 = .ok (.ireturn, 1) := by decide +kernel
theorem d1_15 : decode method_3_code 15 = .ok (.iload_n 2, 1) := by decide +kernel
theorem d1_16 : decode method_3_code 16 = .ok (.bipush 8, 2) := by decide +kernel
theorem d1_18 : decode method_3_code 18 = .ok (.iload_n 3, 1) := by decide +kernel
theorem d1_19 : decode method_3_code 19 = .ok (.bipush 8, 2) := by decide +kernel
theorem d1_21 : decode method_3_code 21 = .ok (.isub, 1) := by decide +kernel
theorem d1_22 : decode method_3_code 22 = .ok (.imul, 1) := by decide +kernel
theorem d1_23 : decode method_3_code 23 = .ok (.iushr, 1) := by decide +kernel
theorem d1_24 : decode method_3_code 24 = .ok (.i2b, 1) := by decide +kernel
theorem d1_25 : decode method_3_code 25 = .ok (.ireturn, 1) := by decide +kernel
def rmD : Room := { frames := 0, cells := 0, slots := 0, locals := 0 }
set_option maxRecDepth 65536 in
set_option maxHeartbeats 40000000 in
theorem met_dr (l : Launch) (Z : State) (a0 : Array Value) (hw : ∀ d ∈ tables_1, d.before a0 Z = true) (w : Int64) (v : Int32) (i : Nat) (hi : i < 12) (h0 : Heap) (n0 : Nat) :
    Met l Z (⟨"com/example/bucketfold/bucketfold/BucketStartPagePinLaw", "drawn", "(JII)B"⟩ : MethodName) method_3_code 4 (some .byte) [] rmD #[.long w, .int v, .int (Int32.ofNat i)] h0 n0 (fun r h' => r = some (.int (DR w v i)) ∧ h0 = h') := by
  refine Met.of (plainFor_of_name (by first | (simp [plainName, overriddenIn]; done) | decide +kernel)) #[.val (.long w), .second, .val (.int v), .val (.int (Int32.ofNat i))] (fun m => by first | (simp [entryFrame, mkF, argsToLocals, Value.category]; done) | rfl) ?_
  intro p e s m below meth c T K X eh
  refine g_iloadN K X 1 d1_0 rfl rfl ?_
  refine g_bipush K X (8 : Int32) 3 d1_1 rfl rfl ?_
  by_cases hq : i < 8
  · refine g_icmpF K X 6 d1_3 rfl (show ¬ (¬ (Int32.ofNat i) < ((8 : Int32))) from (fun q => q ((own_lt (j := 8) (by omega) (by decide)).mpr hq))) ?_
    refine g_lloadN K X 7 d1_6 rfl rfl ?_
    refine g_bipush K X (8 : Int32) 9 d1_7 rfl rfl ?_
    refine g_iloadN K X 10 d1_9 rfl rfl ?_
    refine g_imul K X 11 d1_10 rfl ?_
    refine g_lushr K X 12 d1_11 rfl ?_
    refine g_l2i K X 13 d1_12 rfl ?_
    refine g_i2b K X 14 d1_13 rfl ?_
    have e1 : DR w v i = ((XT.ushrL w (((8 : Int32)) * (Int32.ofNat i))).toInt32).toInt8.toInt32 := by rw [DR, if_pos hq]
    exact g_retN K X eh rfl (t := .byte) (by simp) (DR w v i) (by rw [e1]; exact own_bb _) d1_14 (by decide) (by decide) ⟨rfl, rfl⟩
  · refine g_icmpT K X 15 d1_3 rfl (show ¬ (Int32.ofNat i) < ((8 : Int32)) from (fun q => hq ((own_lt (j := 8) (by omega) (by decide)).mp q))) ?_
    refine g_iloadN K X 16 d1_15 rfl rfl ?_
    refine g_bipush K X (8 : Int32) 18 d1_16 rfl rfl ?_
    refine g_iloadN K X 19 d1_18 rfl rfl ?_
    refine g_bipush K X (8 : Int32) 21 d1_19 rfl rfl ?_
    refine g_isub K X 22 d1_21 rfl ?_
    refine g_imul K X 23 d1_22 rfl ?_
    refine g_iushr K X 24 d1_23 rfl ?_
    refine g_i2b K X 25 d1_24 rfl ?_
    have e1 : DR w v i = (XT.ushr v (((8 : Int32)) * ((Int32.ofNat i) - ((8 : Int32))))).toInt8.toInt32 := by rw [DR, if_neg hq]
    exact g_retN K X eh rfl (t := .byte) (by simp) (DR w v i) (by rw [e1]; exact own_bb _) d1_25 (by decide) (by decide) ⟨rfl, rfl⟩
theorem d2_0 : decode prog_4_method_34_code 0 = .ok (.aload_n 0, 1) := by decide +kernel
theorem d2_1 : decode prog_4_method_34_code 1 = .ok (.iload_n 1, 1) := by decide +kernel
theorem d2_2 : decode prog_4_method_34_code 2 = .ok (.iconst 2, 1) := by decide +kernel
theorem d2_3 : decode prog_4_method_34_code 3 = .ok (.bastore, 1) := by decide +kernel
theorem d2_4 : decode prog_4_method_34_code 4 = .ok (.aload_n 0, 1) := by decide +kernel
theorem d2_5 : decode prog_4_method_34_code 5 = .ok (.iload_n 1, 1) := by decide +kernel
theorem d2_6 : decode prog_4_method_34_code 6 = .ok (.iconst 1, 1) := by decide +kernel
theorem d2_7 : decode prog_4_method_34_code 7 = .ok (.iadd, 1) := by decide +kernel
theorem d2_8 : decode prog_4_method_34_code 8 = .ok (.iload_n 3, 1) := by decide +kernel
theorem d2_9 : decode prog_4_method_34_code 9 = .ok (.ifCond .eq 7, 3) := by decide +kernel
theorem d2_12 : decode prog_4_method_34_code 12 = .ok (.iload_n 2, 1) := by decide +kernel
theorem d2_13 : decode prog_4_method_34_code 13 = .ok (.goto 8, 3) := by decide +kernel
theorem d2_16 : decode prog_4_method_34_code 16 = .ok (.iload_n 2, 1) := by decide +kernel
theorem d2_17 : decode prog_4_method_34_code 17 = .ok (.sipush 128, 3) := by decide +kernel
theorem d2_20 : decode prog_4_method_34_code 20 = .ok (.ior, 1) := by decide +kernel
theorem d2_21 : decode prog_4_method_34_code 21 = .ok (.i2b, 1) := by decide +kernel
theorem d2_22 : decode prog_4_method_34_code 22 = .ok (.bastore, 1) := by decide +kernel
theorem d2_23 : decode prog_4_method_34_code 23 = .ok (.iload_n 1, 1) := by decide +kernel
theorem d2_24 : decode prog_4_method_34_code 24 = .ok (.iconst 2, 1) := by decide +kernel
theorem d2_25 : decode prog_4_method_34_code 25 = .ok (.iadd, 1) := by decide +kernel
theorem d2_26 : decode prog_4_method_34_code 26 = .ok (.istore 4, 2) := by decide +kernel
theorem d2_28 : decode prog_4_method_34_code 28 = .ok (.iload 4, 2) := by decide +kernel
theorem d2_30 : decode prog_4_method_34_code 30 = .ok (.iload_n 1, 1) := by decide +kernel
theorem d2_31 : decode prog_4_method_34_code 31 = .ok (.bipush 6, 2) := by decide +kernel
theorem d2_33 : decode prog_4_method_34_code 33 = .ok (.iadd, 1) := by decide +kernel
theorem d2_34 : decode prog_4_method_34_code 34 = .ok (.if_icmp .ge 14, 3) := by decide +kernel
theorem d2_37 : decode prog_4_method_34_code 37 = .ok (.aload_n 0, 1) := by decide +kernel
theorem d2_38 : decode prog_4_method_34_code 38 = .ok (.iload 4, 2) := by decide +kernel
theorem d2_40 : decode prog_4_method_34_code 40 = .ok (.iconst 0, 1) := by decide +kernel
theorem d2_41 : decode prog_4_method_34_code 41 = .ok (.bastore, 1) := by decide +kernel
theorem d2_42 : decode prog_4_method_34_code 42 = .ok (.iinc 4 1, 3) := by decide +kernel
theorem d2_45 : decode prog_4_method_34_code 45 = .ok (.goto (-17), 3) := by decide +kernel
theorem d2_48 : decode prog_4_method_34_code 48 = .ok (.iload_n 1, 1) := by decide +kernel
theorem d2_49 : decode prog_4_method_34_code 49 = .ok (.bipush 6, 2) := by decide +kernel
theorem d2_51 : decode prog_4_method_34_code 51 = .ok (.iadd, 1) := by decide +kernel
theorem d2_52 : decode prog_4_method_34_code 52 = .ok (.ireturn, 1) := by decide +kernel
set_option maxRecDepth 65536 in
set_option maxHeartbeats 40000000 in
theorem met_sp0 (l : Launch) (Z : State) (a0 : Array Value) (hw : ∀ d ∈ tables_1, d.before a0 Z = true) (a : Addr) (f : Nat → Int32) (k d : Nat) (hk : k < 7) (hd : d < 65) (h0 : Heap) (n0 : Nat) (A : Ai Z h0 a .byte 12 f) (ge : n0 ≤ a) :
    Met l Z (⟨"com/example/bucketfold/bucketfold/Bucket", "startPage", "([BIIZ)I"⟩ : MethodName) prog_4_method_34_code 5 (some .int) [] rmD #[.ref a, .int (Int32.ofNat k), .int (Int32.ofNat d), .int ((0 : Int32))] h0 n0 (fun r h' => r = some (.int (Int32.ofNat (k + 6))) ∧ Ai Z h' a .byte 12 (PG f k (BD d 0)) ∧ Keep h0 h' [a]) := by
  refine Met.of (plainFor_of_name (by first | (simp [plainName, overriddenIn]; done) | decide +kernel)) #[.val (.ref a), .val (.int (Int32.ofNat k)), .val (.int (Int32.ofNat d)), .val (.int ((0 : Int32))), .unset] (fun m => by first | (simp [entryFrame, mkF, argsToLocals, Value.category]; done) | rfl) ?_
  intro p e s m below meth c T K X eh
  refine g_aloadN K X 1 d2_0 rfl rfl rfl ?_
  refine g_iloadN K X 2 d2_1 rfl rfl ?_
  refine g_iconst K X (2 : Int32) 3 d2_2 rfl rfl ?_
  refine g_bastore K X eh A k (own_i0 (by omega)) (by omega) ((2 : Int32)) rfl ge 4 d2_3 rfl fun T h X eh W A => ?_
  have Kp : Keep h0 h [a] := (Keep.refl _ _).wr W (Or.inl (List.mem_singleton.mpr rfl))
  refine g_aloadN K X 5 d2_4 rfl rfl rfl ?_
  refine g_iloadN K X 6 d2_5 rfl rfl ?_
  refine g_iconst K X (1 : Int32) 7 d2_6 rfl rfl ?_
  refine g_iadd K X 8 d2_7 rfl ?_
  refine g_eqI (y := Int32.ofNat (k + 1)) (own_add k 1 rfl) ?_
  refine g_iloadN K X 9 d2_8 rfl rfl ?_
  refine g_ifT K X 16 d2_9 rfl (show ((0 : Int32)) = 0 from rfl) ?_
  refine g_iloadN K X 17 d2_16 rfl rfl ?_
  refine g_sipush K X (128 : Int32) 20 d2_17 rfl rfl ?_
  refine g_ior K X 21 d2_20 rfl ?_
  refine g_i2b K X 22 d2_21 rfl ?_
  refine g_bastore K X eh A (k + 1) (own_i0 (by omega)) (by omega) (BD d 0) (own_bb _) ge 23 d2_22 rfl fun T h X eh W A => ?_
  replace Kp := Kp.wr W (Or.inl (List.mem_singleton.mpr rfl))
  refine g_iloadN K X 24 d2_23 rfl rfl ?_
  refine g_iconst K X (2 : Int32) 25 d2_24 rfl rfl ?_
  refine g_iadd K X 26 d2_25 rfl ?_
  refine g_eqI (y := Int32.ofNat (k + 2)) (own_add k 2 rfl) ?_
  refine g_istore K X 28 #[.val (.ref a), .val (.int (Int32.ofNat k)), .val (.int (Int32.ofNat d)), .val (.int ((0 : Int32))), .val (.int (Int32.ofNat (k + 2)))] d2_26 rfl rfl ?_
  refine g_iload K X 30 d2_28 rfl rfl ?_
  refine g_iloadN K X 31 d2_30 rfl rfl ?_
  refine g_bipush K X (6 : Int32) 33 d2_31 rfl rfl ?_
  refine g_iadd K X 34 d2_33 rfl ?_
  refine g_eqI (y := Int32.ofNat (k + 6)) (own_add k 6 rfl) ?_
  refine g_icmpF K X 37 d2_34 rfl (show ¬ (¬ (Int32.ofNat (k + 2)) < (Int32.ofNat (k + 6))) from (fun q => q ((own_lt (by omega) (by omega)).mpr (by omega)))) ?_
  refine g_aloadN K X 38 d2_37 rfl rfl rfl ?_
  refine g_iload K X 40 d2_38 rfl rfl ?_
  refine g_iconst K X (0 : Int32) 41 d2_40 rfl rfl ?_
  refine g_bastore K X eh A (k + 2) (own_i0 (by omega)) (by omega) ((0 : Int32)) rfl ge 42 d2_41 rfl fun T h X eh W A => ?_
  replace Kp := Kp.wr W (Or.inl (List.mem_singleton.mpr rfl))
  refine g_iinc K X (1 : Int32) 45 #[.val (.ref a), .val (.int (Int32.ofNat k)), .val (.int (Int32.ofNat d)), .val (.int ((0 : Int32))), .val (.int ((Int32.ofNat (k + 2)) + (1 : Int32)))] d2_42 rfl rfl rfl rfl ?_
  rw [own_add (k + 2) 1 (z := 1) rfl]
  rw [Nat.add_assoc k 2 1]
  show Go p e below s _ _ _ _ (T.setTop (mkF m 45 #[.val (.ref a), .val (.int (Int32.ofNat k)), .val (.int (Int32.ofNat d)), .val (.int ((0 : Int32))), .val (.int (Int32.ofNat (k + 3)))] []))
  refine g_goto K X 28 d2_45 rfl ?_
  refine g_iload K X 30 d2_28 rfl rfl ?_
  refine g_iloadN K X 31 d2_30 rfl rfl ?_
  refine g_bipush K X (6 : Int32) 33 d2_31 rfl rfl ?_
  refine g_iadd K X 34 d2_33 rfl ?_
  refine g_eqI (y := Int32.ofNat (k + 6)) (own_add k 6 rfl) ?_
  refine g_icmpF K X 37 d2_34 rfl (show ¬ (¬ (Int32.ofNat (k + 3)) < (Int32.ofNat (k + 6))) from (fun q => q ((own_lt (by omega) (by omega)).mpr (by omega)))) ?_
  refine g_aloadN K X 38 d2_37 rfl rfl rfl ?_
  refine g_iload K X 40 d2_38 rfl rfl ?_
  refine g_iconst K X (0 : Int32) 41 d2_40 rfl rfl ?_
  refine g_bastore K X eh A (k + 3) (own_i0 (by omega)) (by omega) ((0 : Int32)) rfl ge 42 d2_41 rfl fun T h X eh W A => ?_
  replace Kp := Kp.wr W (Or.inl (List.mem_singleton.mpr rfl))
  refine g_iinc K X (1 : Int32) 45 #[.val (.ref a), .val (.int (Int32.ofNat k)), .val (.int (Int32.ofNat d)), .val (.int ((0 : Int32))), .val (.int ((Int32.ofNat (k + 3)) + (1 : Int32)))] d2_42 rfl rfl rfl rfl ?_
  rw [own_add (k + 3) 1 (z := 1) rfl]
  rw [Nat.add_assoc k 3 1]
  show Go p e below s _ _ _ _ (T.setTop (mkF m 45 #[.val (.ref a), .val (.int (Int32.ofNat k)), .val (.int (Int32.ofNat d)), .val (.int ((0 : Int32))), .val (.int (Int32.ofNat (k + 4)))] []))
  refine g_goto K X 28 d2_45 rfl ?_
  refine g_iload K X 30 d2_28 rfl rfl ?_
  refine g_iloadN K X 31 d2_30 rfl rfl ?_
  refine g_bipush K X (6 : Int32) 33 d2_31 rfl rfl ?_
  refine g_iadd K X 34 d2_33 rfl ?_
  refine g_eqI (y := Int32.ofNat (k + 6)) (own_add k 6 rfl) ?_
  refine g_icmpF K X 37 d2_34 rfl (show ¬ (¬ (Int32.ofNat (k + 4)) < (Int32.ofNat (k + 6))) from (fun q => q ((own_lt (by omega) (by omega)).mpr (by omega)))) ?_
  refine g_aloadN K X 38 d2_37 rfl rfl rfl ?_
  refine g_iload K X 40 d2_38 rfl rfl ?_
  refine g_iconst K X (0 : Int32) 41 d2_40 rfl rfl ?_
  refine g_bastore K X eh A (k + 4) (own_i0 (by omega)) (by omega) ((0 : Int32)) rfl ge 42 d2_41 rfl fun T h X eh W A => ?_
  replace Kp := Kp.wr W (Or.inl (List.mem_singleton.mpr rfl))
  refine g_iinc K X (1 : Int32) 45 #[.val (.ref a), .val (.int (Int32.ofNat k)), .val (.int (Int32.ofNat d)), .val (.int ((0 : Int32))), .val (.int ((Int32.ofNat (k + 4)) + (1 : Int32)))] d2_42 rfl rfl rfl rfl ?_
  rw [own_add (k + 4) 1 (z := 1) rfl]
  rw [Nat.add_assoc k 4 1]
  show Go p e below s _ _ _ _ (T.setTop (mkF m 45 #[.val (.ref a), .val (.int (Int32.ofNat k)), .val (.int (Int32.ofNat d)), .val (.int ((0 : Int32))), .val (.int (Int32.ofNat (k + 5)))] []))
  refine g_goto K X 28 d2_45 rfl ?_
  refine g_iload K X 30 d2_28 rfl rfl ?_
  refine g_iloadN K X 31 d2_30 rfl rfl ?_
  refine g_bipush K X (6 : Int32) 33 d2_31 rfl rfl ?_
  refine g_iadd K X 34 d2_33 rfl ?_
  refine g_eqI (y := Int32.ofNat (k + 6)) (own_add k 6 rfl) ?_
  refine g_icmpF K X 37 d2_34 rfl (show ¬ (¬ (Int32.ofNat (k + 5)) < (Int32.ofNat (k + 6))) from (fun q => q ((own_lt (by omega) (by omega)).mpr (by omega)))) ?_
  refine g_aloadN K X 38 d2_37 rfl rfl rfl ?_
  refine g_iload K X 40 d2_38 rfl rfl ?_
  refine g_iconst K X (0 : Int32) 41 d2_40 rfl rfl ?_
  refine g_bastore K X eh A (k + 5) (own_i0 (by omega)) (by omega) ((0 : Int32)) rfl ge 42 d2_41 rfl fun T h X eh W A => ?_
  replace Kp := Kp.wr W (Or.inl (List.mem_singleton.mpr rfl))
  refine g_iinc K X (1 : Int32) 45 #[.val (.ref a), .val (.int (Int32.ofNat k)), .val (.int (Int32.ofNat d)), .val (.int ((0 : Int32))), .val (.int ((Int32.ofNat (k + 5)) + (1 : Int32)))] d2_42 rfl rfl rfl rfl ?_
  rw [own_add (k + 5) 1 (z := 1) rfl]
  rw [Nat.add_assoc k 5 1]
  show Go p e below s _ _ _ _ (T.setTop (mkF m 45 #[.val (.ref a), .val (.int (Int32.ofNat k)), .val (.int (Int32.ofNat d)), .val (.int ((0 : Int32))), .val (.int (Int32.ofNat (k + 6)))] []))
  refine g_goto K X 28 d2_45 rfl ?_
  refine g_iload K X 30 d2_28 rfl rfl ?_
  refine g_iloadN K X 31 d2_30 rfl rfl ?_
  refine g_bipush K X (6 : Int32) 33 d2_31 rfl rfl ?_
  refine g_iadd K X 34 d2_33 rfl ?_
  refine g_eqI (y := Int32.ofNat (k + 6)) (own_add k 6 rfl) ?_
  refine g_icmpT K X 48 d2_34 rfl (show ¬ (Int32.ofNat (k + 6)) < (Int32.ofNat (k + 6)) from (fun q => absurd ((own_lt (by omega) (by omega)).mp q) (Nat.lt_irrefl _))) ?_
  refine g_iloadN K X 49 d2_48 rfl rfl ?_
  refine g_bipush K X (6 : Int32) 51 d2_49 rfl rfl ?_
  refine g_iadd K X 52 d2_51 rfl ?_
  refine g_eqI (y := Int32.ofNat (k + 6)) (own_add k 6 rfl) ?_
  exact g_retI K X eh rfl d2_52 (by decide) (by decide) ⟨rfl, A.congr (own_pg f k _), Kp⟩
set_option maxRecDepth 65536 in
set_option maxHeartbeats 40000000 in
theorem met_sp1 (l : Launch) (Z : State) (a0 : Array Value) (hw : ∀ d ∈ tables_1, d.before a0 Z = true) (a : Addr) (f : Nat → Int32) (k d : Nat) (hk : k < 7) (hd : d < 65) (h0 : Heap) (n0 : Nat) (A : Ai Z h0 a .byte 12 f) (ge : n0 ≤ a) :
    Met l Z (⟨"com/example/bucketfold/bucketfold/Bucket", "startPage", "([BIIZ)I"⟩ : MethodName) prog_4_method_34_code 5 (some .int) [] rmD #[.ref a, .int (Int32.ofNat k), .int (Int32.ofNat d), .int ((1 : Int32))] h0 n0 (fun r h' => r = some (.int (Int32.ofNat (k + 6))) ∧ Ai Z h' a .byte 12 (PG f k (BD d 1)) ∧ Keep h0 h' [a]) := by
  refine Met.of (plainFor_of_name (by first | (simp [plainName, overriddenIn]; done) | decide +kernel)) #[.val (.ref a), .val (.int (Int32.ofNat k)), .val (.int (Int32.ofNat d)), .val (.int ((1 : Int32))), .unset] (fun m => by first | (simp [entryFrame, mkF, argsToLocals, Value.category]; done) | rfl) ?_
  intro p e s m below meth c T K X eh
  refine g_aloadN K X 1 d2_0 rfl rfl rfl ?_
  refine g_iloadN K X 2 d2_1 rfl rfl ?_
  refine g_iconst K X (2 : Int32) 3 d2_2 rfl rfl ?_
  refine g_bastore K X eh A k (own_i0 (by omega)) (by omega) ((2 : Int32)) rfl ge 4 d2_3 rfl fun T h X eh W A => ?_
  have Kp : Keep h0 h [a] := (Keep.refl _ _).wr W (Or.inl (List.mem_singleton.mpr rfl))
  refine g_aloadN K X 5 d2_4 rfl rfl rfl ?_
  refine g_iloadN K X 6 d2_5 rfl rfl ?_
  refine g_iconst K X (1 : Int32) 7 d2_6 rfl rfl ?_
  refine g_iadd K X 8 d2_7 rfl ?_
  refine g_eqI (y := Int32.ofNat (k + 1)) (own_add k 1 rfl) ?_
  refine g_iloadN K X 9 d2_8 rfl rfl ?_
  refine g_ifF K X 12 d2_9 rfl (show ¬ (((1 : Int32)) = 0) from (by decide)) ?_
  refine g_iloadN K X 13 d2_12 rfl rfl ?_
  refine g_goto K X 21 d2_13 rfl ?_
  refine g_i2b K X 22 d2_21 rfl ?_
  refine g_bastore K X eh A (k + 1) (own_i0 (by omega)) (by omega) (BD d 1) (own_bb _) ge 23 d2_22 rfl fun T h X eh W A => ?_
  replace Kp := Kp.wr W (Or.inl (List.mem_singleton.mpr rfl))
  refine g_iloadN K X 24 d2_23 rfl rfl ?_
  refine g_iconst K X (2 : Int32) 25 d2_24 rfl rfl ?_
  refine g_iadd K X 26 d2_25 rfl ?_
  refine g_eqI (y := Int32.ofNat (k + 2)) (own_add k 2 rfl) ?_
  refine g_istore K X 28 #[.val (.ref a), .val (.int (Int32.ofNat k)), .val (.int (Int32.ofNat d)), .val (.int ((1 : Int32))), .val (.int (Int32.ofNat (k + 2)))] d2_26 rfl rfl ?_
  refine g_iload K X 30 d2_28 rfl rfl ?_
  refine g_iloadN K X 31 d2_30 rfl rfl ?_
  refine g_bipush K X (6 : Int32) 33 d2_31 rfl rfl ?_
  refine g_iadd K X 34 d2_33 rfl ?_
  refine g_eqI (y := Int32.ofNat (k + 6)) (own_add k 6 rfl) ?_
  refine g_icmpF K X 37 d2_34 rfl (show ¬ (¬ (Int32.ofNat (k + 2)) < (Int32.ofNat (k + 6))) from (fun q => q ((own_lt (by omega) (by omega)).mpr (by omega)))) ?_
  refine g_aloadN K X 38 d2_37 rfl rfl rfl ?_
  refine g_iload K X 40 d2_38 rfl rfl ?_
  refine g_iconst K X (0 : Int32) 41 d2_40 rfl rfl ?_
  refine g_bastore K X eh A (k + 2) (own_i0 (by omega)) (by omega) ((0 : Int32)) rfl ge 42 d2_41 rfl fun T h X eh W A => ?_
  replace Kp := Kp.wr W (Or.inl (List.mem_singleton.mpr rfl))
  refine g_iinc K X (1 : Int32) 45 #[.val (.ref a), .val (.int (Int32.ofNat k)), .val (.int (Int32.ofNat d)), .val (.int ((1 : Int32))), .val (.int ((Int32.ofNat (k + 2)) + (1 : Int32)))] d2_42 rfl rfl rfl rfl ?_
  rw [own_add (k + 2) 1 (z := 1) rfl]
  rw [Nat.add_assoc k 2 1]
  show Go p e below s _ _ _ _ (T.setTop (mkF m 45 #[.val (.ref a), .val (.int (Int32.ofNat k)), .val (.int (Int32.ofNat d)), .val (.int ((1 : Int32))), .val (.int (Int32.ofNat (k + 3)))] []))
  refine g_goto K X 28 d2_45 rfl ?_
  refine g_iload K X 30 d2_28 rfl rfl ?_
  refine g_iloadN K X 31 d2_30 rfl rfl ?_
  refine g_bipush K X (6 : Int32) 33 d2_31 rfl rfl ?_
  refine g_iadd K X 34 d2_33 rfl ?_
  refine g_eqI (y := Int32.ofNat (k + 6)) (own_add k 6 rfl) ?_
  refine g_icmpF K X 37 d2_34 rfl (show ¬ (¬ (Int32.ofNat (k + 3)) < (Int32.ofNat (k + 6))) from (fun q => q ((own_lt (by omega) (by omega)).mpr (by omega)))) ?_
  refine g_aloadN K X 38 d2_37 rfl rfl rfl ?_
  refine g_iload K X 40 d2_38 rfl rfl ?_
  refine g_iconst K X (0 : Int32) 41 d2_40 rfl rfl ?_
  refine g_bastore K X eh A (k + 3) (own_i0 (by omega)) (by omega) ((0 : Int32)) rfl ge 42 d2_41 rfl fun T h X eh W A => ?_
  replace Kp := Kp.wr W (Or.inl (List.mem_singleton.mpr rfl))
  refine g_iinc K X (1 : Int32) 45 #[.val (.ref a), .val (.int (Int32.ofNat k)), .val (.int (Int32.ofNat d)), .val (.int ((1 : Int32))), .val (.int ((Int32.ofNat (k + 3)) + (1 : Int32)))] d2_42 rfl rfl rfl rfl ?_
  rw [own_add (k + 3) 1 (z := 1) rfl]
  rw [Nat.add_assoc k 3 1]
  show Go p e below s _ _ _ _ (T.setTop (mkF m 45 #[.val (.ref a), .val (.int (Int32.ofNat k)), .val (.int (Int32.ofNat d)), .val (.int ((1 : Int32))), .val (.int (Int32.ofNat (k + 4)))] []))
  refine g_goto K X 28 d2_45 rfl ?_
  refine g_iload K X 30 d2_28 rfl rfl ?_
  refine g_iloadN K X 31 d2_30 rfl rfl ?_
  refine g_bipush K X (6 : Int32) 33 d2_31 rfl rfl ?_
  refine g_iadd K X 34 d2_33 rfl ?_
  refine g_eqI (y := Int32.ofNat (k + 6)) (own_add k 6 rfl) ?_
  refine g_icmpF K X 37 d2_34 rfl (show ¬ (¬ (Int32.ofNat (k + 4)) < (Int32.ofNat (k + 6))) from (fun q => q ((own_lt (by omega) (by omega)).mpr (by omega)))) ?_
  refine g_aloadN K X 38 d2_37 rfl rfl rfl ?_
  refine g_iload K X 40 d2_38 rfl rfl ?_
  refine g_iconst K X (0 : Int32) 41 d2_40 rfl rfl ?_
  refine g_bastore K X eh A (k + 4) (own_i0 (by omega)) (by omega) ((0 : Int32)) rfl ge 42 d2_41 rfl fun T h X eh W A => ?_
  replace Kp := Kp.wr W (Or.inl (List.mem_singleton.mpr rfl))
  refine g_iinc K X (1 : Int32) 45 #[.val (.ref a), .val (.int (Int32.ofNat k)), .val (.int (Int32.ofNat d)), .val (.int ((1 : Int32))), .val (.int ((Int32.ofNat (k + 4)) + (1 : Int32)))] d2_42 rfl rfl rfl rfl ?_
  rw [own_add (k + 4) 1 (z := 1) rfl]
  rw [Nat.add_assoc k 4 1]
  show Go p e below s _ _ _ _ (T.setTop (mkF m 45 #[.val (.ref a), .val (.int (Int32.ofNat k)), .val (.int (Int32.ofNat d)), .val (.int ((1 : Int32))), .val (.int (Int32.ofNat (k + 5)))] []))
  refine g_goto K X 28 d2_45 rfl ?_
  refine g_iload K X 30 d2_28 rfl rfl ?_
  refine g_iloadN K X 31 d2_30 rfl rfl ?_
  refine g_bipush K X (6 : Int32) 33 d2_31 rfl rfl ?_
  refine g_iadd K X 34 d2_33 rfl ?_
  refine g_eqI (y := Int32.ofNat (k + 6)) (own_add k 6 rfl) ?_
  refine g_icmpF K X 37 d2_34 rfl (show ¬ (¬ (Int32.ofNat (k + 5)) < (Int32.ofNat (k + 6))) from (fun q => q ((own_lt (by omega) (by omega)).mpr (by omega)))) ?_
  refine g_aloadN K X 38 d2_37 rfl rfl rfl ?_
  refine g_iload K X 40 d2_38 rfl rfl ?_
  refine g_iconst K X (0 : Int32) 41 d2_40 rfl rfl ?_
  refine g_bastore K X eh A (k + 5) (own_i0 (by omega)) (by omega) ((0 : Int32)) rfl ge 42 d2_41 rfl fun T h X eh W A => ?_
  replace Kp := Kp.wr W (Or.inl (List.mem_singleton.mpr rfl))
  refine g_iinc K X (1 : Int32) 45 #[.val (.ref a), .val (.int (Int32.ofNat k)), .val (.int (Int32.ofNat d)), .val (.int ((1 : Int32))), .val (.int ((Int32.ofNat (k + 5)) + (1 : Int32)))] d2_42 rfl rfl rfl rfl ?_
  rw [own_add (k + 5) 1 (z := 1) rfl]
  rw [Nat.add_assoc k 5 1]
  show Go p e below s _ _ _ _ (T.setTop (mkF m 45 #[.val (.ref a), .val (.int (Int32.ofNat k)), .val (.int (Int32.ofNat d)), .val (.int ((1 : Int32))), .val (.int (Int32.ofNat (k + 6)))] []))
  refine g_goto K X 28 d2_45 rfl ?_
  refine g_iload K X 30 d2_28 rfl rfl ?_
  refine g_iloadN K X 31 d2_30 rfl rfl ?_
  refine g_bipush K X (6 : Int32) 33 d2_31 rfl rfl ?_
  refine g_iadd K X 34 d2_33 rfl ?_
  refine g_eqI (y := Int32.ofNat (k + 6)) (own_add k 6 rfl) ?_
  refine g_icmpT K X 48 d2_34 rfl (show ¬ (Int32.ofNat (k + 6)) < (Int32.ofNat (k + 6)) from (fun q => absurd ((own_lt (by omega) (by omega)).mp q) (Nat.lt_irrefl _))) ?_
  refine g_iloadN K X 49 d2_48 rfl rfl ?_
  refine g_bipush K X (6 : Int32) 51 d2_49 rfl rfl ?_
  refine g_iadd K X 52 d2_51 rfl ?_
  refine g_eqI (y := Int32.ofNat (k + 6)) (own_add k 6 rfl) ?_
  exact g_retI K X eh rfl d2_52 (by decide) (by decide) ⟨rfl, A.congr (own_pg f k _), Kp⟩
theorem d3_0 : decode method_4_code 0 = .ok (.aload_n 0, 1) := by decide +kernel
theorem d3_1 : decode method_4_code 1 = .ok (.iload 4, 2) := by decide +kernel
theorem d3_3 : decode method_4_code 3 = .ok (.baload, 1) := by decide +kernel
theorem d3_4 : decode method_4_code 4 = .ok (.istore 8, 2) := by decide +kernel
theorem d3_6 : decode method_4_code 6 = .ok (.iload 4, 2) := by decide +kernel
theorem d3_8 : decode method_4_code 8 = .ok (.iload 5, 2) := by decide +kernel
theorem d3_10 : decode method_4_code 10 = .ok (.if_icmp .lt 13, 3) := by decide +kernel
theorem d3_13 : decode method_4_code 13 = .ok (.iload 4, 2) := by decide +kernel
theorem d3_15 : decode method_4_code 15 = .ok (.iload 5, 2) := by decide +kernel
theorem d3_17 : decode method_4_code 17 = .ok (.bipush 6, 2) := by decide +kernel
theorem d3_19 : decode method_4_code 19 = .ok (.iadd, 1) := by decide +kernel
theorem d3_20 : decode method_4_code 20 = .ok (.if_icmp .lt 21, 3) := by decide +kernel
theorem d3_23 : decode method_4_code 23 = .ok (.iload 8, 2) := by decide +kernel
theorem d3_25 : decode method_4_code 25 = .ok (.lload_n 1, 1) := by decide +kernel
theorem d3_26 : decode method_4_code 26 = .ok (.iload_n 3, 1) := by decide +kernel
theorem d3_27 : decode method_4_code 27 = .ok (.iload 4, 2) := by decide +kernel
theorem d3_29 : decode method_4_code 29 = .ok (.invokestatic 8, 3) := by decide +kernel
theorem d3_32 : decode method_4_code 32 = .ok (.if_icmp .ne 7, 3) := by decide +kernel
theorem d3_35 : decode method_4_code 35 = .ok (.iconst 1, 1) := by decide +kernel
theorem d3_36 : decode method_4_code 36 = .ok (.goto 4, 3) := by decide +kernel
theorem d3_39 : decode method_4_code 39 = .ok (.iconst 0, 1) := by decide +kernel
theorem d3_40 : decode method_4_code 40 = .ok (.ireturn, 1) := by decide +kernel
theorem d3_41 : decode method_4_code 41 = .ok (.iload 4, 2) := by decide +kernel
theorem d3_43 : decode method_4_code 43 = .ok (.iload 5, 2) := by decide +kernel
theorem d3_45 : decode method_4_code 45 = .ok (.if_icmp .ne 15, 3) := by decide +kernel
theorem d3_48 : decode method_4_code 48 = .ok (.iload 8, 2) := by decide +kernel
theorem d3_50 : decode method_4_code 50 = .ok (.iconst 2, 1) := by decide +kernel
theorem d3_51 : decode method_4_code 51 = .ok (.if_icmp .ne 7, 3) := by decide +kernel
theorem d3_54 : decode method_4_code 54 = .ok (.iconst 1, 1) := by decide +kernel
theorem d3_55 : decode method_4_code 55 = .ok (.goto 4, 3) := by decide +kernel
theorem d3_58 : decode method_4_code 58 = .ok (.iconst 0, 1) := by decide +kernel
theorem d3_59 : decode method_4_code 59 = .ok (.ireturn, 1) := by decide +kernel
theorem d3_60 : decode method_4_code 60 = .ok (.iload 4, 2) := by decide +kernel
theorem d3_62 : decode method_4_code 62 = .ok (.iload 5, 2) := by decide +kernel
theorem d3_64 : decode method_4_code 64 = .ok (.iconst 1, 1) := by decide +kernel
theorem d3_65 : decode method_4_code 65 = .ok (.iadd, 1) := by decide +kernel
theorem d3_66 : decode method_4_code 66 = .ok (.if_icmp .ne 38, 3) := by decide +kernel
theorem d3_69 : decode method_4_code 69 = .ok (.iload 8, 2) := by decide +kernel
theorem d3_71 : decode method_4_code 71 = .ok (.bipush 127, 2) := by decide +kernel
theorem d3_73 : decode method_4_code 73 = .ok (.iand, 1) := by decide +kernel
theorem d3_74 : decode method_4_code 74 = .ok (.iload 6, 2) := by decide +kernel
theorem d3_76 : decode method_4_code 76 = .ok (.if_icmp .ne 26, 3) := by decide +kernel
theorem d3_79 : decode method_4_code 79 = .ok (.iload 8, 2) := by decide +kernel
theorem d3_81 : decode method_4_code 81 = .ok (.sipush 128, 3) := by decide +kernel
theorem d3_84 : decode method_4_code 84 = .ok (.iand, 1) := by decide +kernel
theorem d3_85 : decode method_4_code 85 = .ok (.ifCond .ne 7, 3) := by decide +kernel
theorem d3_88 : decode method_4_code 88 = .ok (.iconst 1, 1) := by decide +kernel
theorem d3_89 : decode method_4_code 89 = .ok (.goto 4, 3) := by decide +kernel
theorem d3_92 : decode method_4_code 92 = .ok (.iconst 0, 1) := by decide +kernel
theorem d3_93 : decode method_4_code 93 = .ok (.iload 7, 2) := by decide +kernel
theorem d3_95 : decode method_4_code 95 = .ok (.if_icmp .ne 7, 3) := by decide +kernel
theorem d3_98 : decode method_4_code 98 = .ok (.iconst 1, 1) := by decide +kernel
theorem d3_99 : decode method_4_code 99 = .ok (.goto 4, 3) := by decide +kernel
theorem d3_102 : decode method_4_code 102 = .ok (.iconst 0, 1) := by decide +kernel
theorem d3_103 : decode method_4_code 103 = .ok (.ireturn, 1) := by decide +kernel
theorem d3_104 : decode method_4_code 104 = .ok (.iload 8, 2) := by decide +kernel
theorem d3_106 : decode method_4_code 106 = .ok (.ifCond .ne 7, 3) := by decide +kernel
theorem d3_109 : decode method_4_code 109 = .ok (.iconst 1, 1) := by decide +kernel
theorem d3_110 : decode method_4_code 110 = .ok (.goto 4, 3) := by decide +kernel
theorem d3_113 : decode method_4_code 113 = .ok (.iconst 0, 1) := by decide +kernel
theorem d3_114 : decode method_4_code 114 = .ok (.ireturn, 1) := by decide +kernel
def rmO : Room := { frames := 1, cells := 0, slots := 0, locals := 16 }
set_option maxRecDepth 65536 in
set_option maxHeartbeats 40000000 in
theorem met_ok0 (l : Launch) (Z : State) (a0 : Array Value) (hw : ∀ d ∈ tables_1, d.before a0 Z = true) (a : Addr) (w : Int64) (v : Int32) (i k d : Nat) (hi : i < 12) (hk : k < 7) (hd : d < 65) (h0 : Heap) (n0 : Nat) (A : Ai Z h0 a .byte 12 (PG (DR w v) k (BD d 0))) :
    Met l Z (⟨"com/example/bucketfold/bucketfold/BucketStartPagePinLaw", "ok", "([BJIIIIZ)Z"⟩ : MethodName) method_4_code 9 (some .boolean) [] rmO #[.ref a, .long w, .int v, .int (Int32.ofNat i), .int (Int32.ofNat k), .int (Int32.ofNat d), .int ((0 : Int32))] h0 n0 (fun r h' => r = some (.int 1) ∧ h0 = h') := by
  refine Met.of (plainFor_of_name (by first | (simp [plainName, overriddenIn]; done) | decide +kernel)) #[.val (.ref a), .val (.long w), .second, .val (.int v), .val (.int (Int32.ofNat i)), .val (.int (Int32.ofNat k)), .val (.int (Int32.ofNat d)), .val (.int ((0 : Int32))), .unset] (fun m => by first | (simp [entryFrame, mkF, argsToLocals, Value.category]; done) | rfl) ?_
  intro p e s m below meth c T K X eh
  obtain ⟨bd1, bd2⟩ : (BD d 0 &&& 127 = Int32.ofNat d) ∧ (BD d 0 &&& 128 = 128) := own_bd ⟨d, hd⟩ 0
  refine g_aloadN K X 1 d3_0 rfl rfl rfl ?_
  refine g_iload K X 3 d3_1 rfl rfl ?_
  refine g_baload K X eh A i (own_i0 (by omega)) hi (PG (DR w v) k (BD d 0) i) rfl 4 d3_3 rfl ?_
  refine g_istore K X 6 #[.val (.ref a), .val (.long w), .second, .val (.int v), .val (.int (Int32.ofNat i)), .val (.int (Int32.ofNat k)), .val (.int (Int32.ofNat d)), .val (.int ((0 : Int32))), .val (.int (PG (DR w v) k (BD d 0) i))] d3_4 rfl rfl ?_
  refine g_iload K X 8 d3_6 rfl rfl ?_
  refine g_iload K X 10 d3_8 rfl rfl ?_
  by_cases h1 : i < k
  · refine g_icmpT K X 23 d3_10 rfl (show (Int32.ofNat i) < (Int32.ofNat k) from ((own_lt (by omega) (by omega)).mpr h1)) ?_
    refine g_iload K X 25 d3_23 rfl rfl ?_
    refine g_lloadN K X 26 d3_25 rfl rfl ?_
    refine g_iloadN K X 27 d3_26 rfl rfl ?_
    refine g_iload K X 29 d3_27 rfl rfl ?_
    refine g_static K X eh rfl (met_dr l Z a0 hw w v i hi h0 n0) (hw _ (List.mem_of_getElem? (i := 2) rfl)) (hw _ (List.mem_of_getElem? (i := 3) rfl)) (hw _ (List.mem_of_getElem? (i := 5) rfl)) (hw _ (List.mem_of_getElem? (i := 4) rfl)) (by decide) [.long w, .int v, .int (Int32.ofNat i)] rfl rfl (lenOf pd_0 rfl) 32 d3_29 rfl 1 (Nat.le_of_eq rfl) (by decide) (by decide) (by decide) (by decide) fun T r h' X eh hq => ?_
    obtain ⟨rfl, rfl⟩ := hq
    refine g_icmpF K X 35 d3_32 rfl (show ¬ (¬ (PG (DR w v) k (BD d 0) i) = (DR w v i)) from (fun q => q (by rw [PG, if_neg (by omega), if_neg (by omega), if_neg (by omega)]))) ?_
    refine g_iconst K X (1 : Int32) 36 d3_35 rfl rfl ?_
    refine g_goto K X 40 d3_36 rfl ?_
    exact g_retN K X eh rfl (t := .boolean) (by simp) ((1 : Int32)) rfl d3_40 (by decide) (by decide) ⟨rfl, rfl⟩
  · refine g_icmpF K X 13 d3_10 rfl (show ¬ ((Int32.ofNat i) < (Int32.ofNat k)) from (fun q => h1 ((own_lt (by omega) (by omega)).mp q))) ?_
    refine g_iload K X 15 d3_13 rfl rfl ?_
    refine g_iload K X 17 d3_15 rfl rfl ?_
    refine g_bipush K X (6 : Int32) 19 d3_17 rfl rfl ?_
    refine g_iadd K X 20 d3_19 rfl ?_
    refine g_eqI (y := Int32.ofNat (k + 6)) (own_add k 6 rfl) ?_
    by_cases h2 : i < k + 6
    · refine g_icmpT K X 41 d3_20 rfl (show (Int32.ofNat i) < (Int32.ofNat (k + 6)) from ((own_lt (by omega) (by omega)).mpr h2)) ?_
      refine g_iload K X 43 d3_41 rfl rfl ?_
      refine g_iload K X 45 d3_43 rfl rfl ?_
      by_cases h3 : i = k
      · refine g_icmpF K X 48 d3_45 rfl (show ¬ (¬ (Int32.ofNat i) = (Int32.ofNat k)) from (fun q => q (by rw [h3]))) ?_
        refine g_iload K X 50 d3_48 rfl rfl ?_
        refine g_iconst K X (2 : Int32) 51 d3_50 rfl rfl ?_
        refine g_icmpF K X 54 d3_51 rfl (show ¬ (¬ (PG (DR w v) k (BD d 0) i) = ((2 : Int32))) from (fun q => q (by rw [PG, if_pos h3]))) ?_
        refine g_iconst K X (1 : Int32) 55 d3_54 rfl rfl ?_
        refine g_goto K X 59 d3_55 rfl ?_
        exact g_retN K X eh rfl (t := .boolean) (by simp) ((1 : Int32)) rfl d3_59 (by decide) (by decide) ⟨rfl, rfl⟩
      · refine g_icmpT K X 60 d3_45 rfl (show ¬ (Int32.ofNat i) = (Int32.ofNat k) from (fun q => h3 ((own_eq (by omega) (by omega)).mp q))) ?_
        refine g_iload K X 62 d3_60 rfl rfl ?_
        refine g_iload K X 64 d3_62 rfl rfl ?_
        refine g_iconst K X (1 : Int32) 65 d3_64 rfl rfl ?_
        refine g_iadd K X 66 d3_65 rfl ?_
        refine g_eqI (y := Int32.ofNat (k + 1)) (own_add k 1 rfl) ?_
        by_cases h4 : i = k + 1
        · refine g_icmpF K X 69 d3_66 rfl (show ¬ (¬ (Int32.ofNat i) = (Int32.ofNat (k + 1))) from (fun q => q (by rw [h4]))) ?_
          have hB : PG (DR w v) k (BD d 0) i = BD d 0 := by rw [PG, if_neg h3, if_pos h4]
          refine g_iload K X 71 d3_69 rfl rfl ?_
          refine g_bipush K X (127 : Int32) 73 d3_71 rfl rfl ?_
          refine g_iand K X 74 d3_73 rfl ?_
          refine g_iload K X 76 d3_74 rfl rfl ?_
          refine g_icmpF K X 79 d3_76 rfl (show ¬ (¬ ((PG (DR w v) k (BD d 0) i) &&& ((127 : Int32))) = (Int32.ofNat d)) from (fun q => q (by rw [hB]; exact bd1))) ?_
          refine g_iload K X 81 d3_79 rfl rfl ?_
          refine g_sipush K X (128 : Int32) 84 d3_81 rfl rfl ?_
          refine g_iand K X 85 d3_84 rfl ?_
          refine g_ifT K X 92 d3_85 rfl (show ¬ ((PG (DR w v) k (BD d 0) i) &&& ((128 : Int32))) = 0 from (fun q => absurd q (by rw [hB, bd2]; decide))) ?_
          refine g_iconst K X (0 : Int32) 93 d3_92 rfl rfl ?_
          refine g_iload K X 95 d3_93 rfl rfl ?_
          refine g_icmpF K X 98 d3_95 rfl (show ¬ (¬ ((0 : Int32)) = ((0 : Int32))) from (fun q => q rfl)) ?_
          refine g_iconst K X (1 : Int32) 99 d3_98 rfl rfl ?_
          refine g_goto K X 103 d3_99 rfl ?_
          exact g_retN K X eh rfl (t := .boolean) (by simp) ((1 : Int32)) rfl d3_103 (by decide) (by decide) ⟨rfl, rfl⟩
        · refine g_icmpT K X 104 d3_66 rfl (show ¬ (Int32.ofNat i) = (Int32.ofNat (k + 1)) from (fun q => h4 ((own_eq (by omega) (by omega)).mp q))) ?_
          refine g_iload K X 106 d3_104 rfl rfl ?_
          refine g_ifF K X 109 d3_106 rfl (show ¬ (¬ (PG (DR w v) k (BD d 0) i) = 0) from (fun q => q (by rw [PG, if_neg h3, if_neg h4, if_pos ⟨by omega, h2⟩]))) ?_
          refine g_iconst K X (1 : Int32) 110 d3_109 rfl rfl ?_
          refine g_goto K X 114 d3_110 rfl ?_
          exact g_retN K X eh rfl (t := .boolean) (by simp) ((1 : Int32)) rfl d3_114 (by decide) (by decide) ⟨rfl, rfl⟩
    · refine g_icmpF K X 23 d3_20 rfl (show ¬ ((Int32.ofNat i) < (Int32.ofNat (k + 6))) from (fun q => h2 ((own_lt (by omega) (by omega)).mp q))) ?_
      refine g_iload K X 25 d3_23 rfl rfl ?_
      refine g_lloadN K X 26 d3_25 rfl rfl ?_
      refine g_iloadN K X 27 d3_26 rfl rfl ?_
      refine g_iload K X 29 d3_27 rfl rfl ?_
      refine g_static K X eh rfl (met_dr l Z a0 hw w v i hi h0 n0) (hw _ (List.mem_of_getElem? (i := 2) rfl)) (hw _ (List.mem_of_getElem? (i := 3) rfl)) (hw _ (List.mem_of_getElem? (i := 5) rfl)) (hw _ (List.mem_of_getElem? (i := 4) rfl)) (by decide) [.long w, .int v, .int (Int32.ofNat i)] rfl rfl (lenOf pd_0 rfl) 32 d3_29 rfl 1 (Nat.le_of_eq rfl) (by decide) (by decide) (by decide) (by decide) fun T r h' X eh hq => ?_
      obtain ⟨rfl, rfl⟩ := hq
      refine g_icmpF K X 35 d3_32 rfl (show ¬ (¬ (PG (DR w v) k (BD d 0) i) = (DR w v i)) from (fun q => q (by rw [PG, if_neg (by omega), if_neg (by omega), if_neg (by omega)]))) ?_
      refine g_iconst K X (1 : Int32) 36 d3_35 rfl rfl ?_
      refine g_goto K X 40 d3_36 rfl ?_
      exact g_retN K X eh rfl (t := .boolean) (by simp) ((1 : Int32)) rfl d3_40 (by decide) (by decide) ⟨rfl, rfl⟩
set_option maxRecDepth 65536 in
set_option maxHeartbeats 40000000 in
theorem met_ok1 (l : Launch) (Z : State) (a0 : Array Value) (hw : ∀ d ∈ tables_1, d.before a0 Z = true) (a : Addr) (w : Int64) (v : Int32) (i k d : Nat) (hi : i < 12) (hk : k < 7) (hd : d < 65) (h0 : Heap) (n0 : Nat) (A : Ai Z h0 a .byte 12 (PG (DR w v) k (BD d 1))) :
    Met l Z (⟨"com/example/bucketfold/bucketfold/BucketStartPagePinLaw", "ok", "([BJIIIIZ)Z"⟩ : MethodName) method_4_code 9 (some .boolean) [] rmO #[.ref a, .long w, .int v, .int (Int32.ofNat i), .int (Int32.ofNat k), .int (Int32.ofNat d), .int ((1 : Int32))] h0 n0 (fun r h' => r = some (.int 1) ∧ h0 = h') := by
  refine Met.of (plainFor_of_name (by first | (simp [plainName, overriddenIn]; done) | decide +kernel)) #[.val (.ref a), .val (.long w), .second, .val (.int v), .val (.int (Int32.ofNat i)), .val (.int (Int32.ofNat k)), .val (.int (Int32.ofNat d)), .val (.int ((1 : Int32))), .unset] (fun m => by first | (simp [entryFrame, mkF, argsToLocals, Value.category]; done) | rfl) ?_
  intro p e s m below meth c T K X eh
  obtain ⟨bd1, bd2⟩ : (BD d 1 &&& 127 = Int32.ofNat d) ∧ (BD d 1 &&& 128 = 0) := own_bd ⟨d, hd⟩ 1
  refine g_aloadN K X 1 d3_0 rfl rfl rfl ?_
  refine g_iload K X 3 d3_1 rfl rfl ?_
  refine g_baload K X eh A i (own_i0 (by omega)) hi (PG (DR w v) k (BD d 1) i) rfl 4 d3_3 rfl ?_
  refine g_istore K X 6 #[.val (.ref a), .val (.long w), .second, .val (.int v), .val (.int (Int32.ofNat i)), .val (.int (Int32.ofNat k)), .val (.int (Int32.ofNat d)), .val (.int ((1 : Int32))), .val (.int (PG (DR w v) k (BD d 1) i))] d3_4 rfl rfl ?_
  refine g_iload K X 8 d3_6 rfl rfl ?_
  refine g_iload K X 10 d3_8 rfl rfl ?_
  by_cases h1 : i < k
  · refine g_icmpT K X 23 d3_10 rfl (show (Int32.ofNat i) < (Int32.ofNat k) from ((own_lt (by omega) (by omega)).mpr h1)) ?_
    refine g_iload K X 25 d3_23 rfl rfl ?_
    refine g_lloadN K X 26 d3_25 rfl rfl ?_
    refine g_iloadN K X 27 d3_26 rfl rfl ?_
    refine g_iload K X 29 d3_27 rfl rfl ?_
    refine g_static K X eh rfl (met_dr l Z a0 hw w v i hi h0 n0) (hw _ (List.mem_of_getElem? (i := 2) rfl)) (hw _ (List.mem_of_getElem? (i := 3) rfl)) (hw _ (List.mem_of_getElem? (i := 5) rfl)) (hw _ (List.mem_of_getElem? (i := 4) rfl)) (by decide) [.long w, .int v, .int (Int32.ofNat i)] rfl rfl (lenOf pd_0 rfl) 32 d3_29 rfl 1 (Nat.le_of_eq rfl) (by decide) (by decide) (by decide) (by decide) fun T r h' X eh hq => ?_
    obtain ⟨rfl, rfl⟩ := hq
    refine g_icmpF K X 35 d3_32 rfl (show ¬ (¬ (PG (DR w v) k (BD d 1) i) = (DR w v i)) from (fun q => q (by rw [PG, if_neg (by omega), if_neg (by omega), if_neg (by omega)]))) ?_
    refine g_iconst K X (1 : Int32) 36 d3_35 rfl rfl ?_
    refine g_goto K X 40 d3_36 rfl ?_
    exact g_retN K X eh rfl (t := .boolean) (by simp) ((1 : Int32)) rfl d3_40 (by decide) (by decide) ⟨rfl, rfl⟩
  · refine g_icmpF K X 13 d3_10 rfl (show ¬ ((Int32.ofNat i) < (Int32.ofNat k)) from (fun q => h1 ((own_lt (by omega) (by omega)).mp q))) ?_
    refine g_iload K X 15 d3_13 rfl rfl ?_
    refine g_iload K X 17 d3_15 rfl rfl ?_
    refine g_bipush K X (6 : Int32) 19 d3_17 rfl rfl ?_
    refine g_iadd K X 20 d3_19 rfl ?_
    refine g_eqI (y := Int32.ofNat (k + 6)) (own_add k 6 rfl) ?_
    by_cases h2 : i < k + 6
    · refine g_icmpT K X 41 d3_20 rfl (show (Int32.ofNat i) < (Int32.ofNat (k + 6)) from ((own_lt (by omega) (by omega)).mpr h2)) ?_
      refine g_iload K X 43 d3_41 rfl rfl ?_
      refine g_iload K X 45 d3_43 rfl rfl ?_
      by_cases h3 : i = k
      · refine g_icmpF K X 48 d3_45 rfl (show ¬ (¬ (Int32.ofNat i) = (Int32.ofNat k)) from (fun q => q (by rw [h3]))) ?_
        refine g_iload K X 50 d3_48 rfl rfl ?_
        refine g_iconst K X (2 : Int32) 51 d3_50 rfl rfl ?_
        refine g_icmpF K X 54 d3_51 rfl (show ¬ (¬ (PG (DR w v) k (BD d 1) i) = ((2 : Int32))) from (fun q => q (by rw [PG, if_pos h3]))) ?_
        refine g_iconst K X (1 : Int32) 55 d3_54 rfl rfl ?_
        refine g_goto K X 59 d3_55 rfl ?_
        exact g_retN K X eh rfl (t := .boolean) (by simp) ((1 : Int32)) rfl d3_59 (by decide) (by decide) ⟨rfl, rfl⟩
      · refine g_icmpT K X 60 d3_45 rfl (show ¬ (Int32.ofNat i) = (Int32.ofNat k) from (fun q => h3 ((own_eq (by omega) (by omega)).mp q))) ?_
        refine g_iload K X 62 d3_60 rfl rfl ?_
        refine g_iload K X 64 d3_62 rfl rfl ?_
        refine g_iconst K X (1 : Int32) 65 d3_64 rfl rfl ?_
        refine g_iadd K X 66 d3_65 rfl ?_
        refine g_eqI (y := Int32.ofNat (k + 1)) (own_add k 1 rfl) ?_
        by_cases h4 : i = k + 1
        · refine g_icmpF K X 69 d3_66 rfl (show ¬ (¬ (Int32.ofNat i) = (Int32.ofNat (k + 1))) from (fun q => q (by rw [h4]))) ?_
          have hB : PG (DR w v) k (BD d 1) i = BD d 1 := by rw [PG, if_neg h3, if_pos h4]
          refine g_iload K X 71 d3_69 rfl rfl ?_
          refine g_bipush K X (127 : Int32) 73 d3_71 rfl rfl ?_
          refine g_iand K X 74 d3_73 rfl ?_
          refine g_iload K X 76 d3_74 rfl rfl ?_
          refine g_icmpF K X 79 d3_76 rfl (show ¬ (¬ ((PG (DR w v) k (BD d 1) i) &&& ((127 : Int32))) = (Int32.ofNat d)) from (fun q => q (by rw [hB]; exact bd1))) ?_
          refine g_iload K X 81 d3_79 rfl rfl ?_
          refine g_sipush K X (128 : Int32) 84 d3_81 rfl rfl ?_
          refine g_iand K X 85 d3_84 rfl ?_
          refine g_ifF K X 88 d3_85 rfl (show ¬ (¬ ((PG (DR w v) k (BD d 1) i) &&& ((128 : Int32))) = 0) from (fun q => q (by rw [hB, bd2]))) ?_
          refine g_iconst K X (1 : Int32) 89 d3_88 rfl rfl ?_
          refine g_goto K X 93 d3_89 rfl ?_
          refine g_iload K X 95 d3_93 rfl rfl ?_
          refine g_icmpF K X 98 d3_95 rfl (show ¬ (¬ ((1 : Int32)) = ((1 : Int32))) from (fun q => q rfl)) ?_
          refine g_iconst K X (1 : Int32) 99 d3_98 rfl rfl ?_
          refine g_goto K X 103 d3_99 rfl ?_
          exact g_retN K X eh rfl (t := .boolean) (by simp) ((1 : Int32)) rfl d3_103 (by decide) (by decide) ⟨rfl, rfl⟩
        · refine g_icmpT K X 104 d3_66 rfl (show ¬ (Int32.ofNat i) = (Int32.ofNat (k + 1)) from (fun q => h4 ((own_eq (by omega) (by omega)).mp q))) ?_
          refine g_iload K X 106 d3_104 rfl rfl ?_
          refine g_ifF K X 109 d3_106 rfl (show ¬ (¬ (PG (DR w v) k (BD d 1) i) = 0) from (fun q => q (by rw [PG, if_neg h3, if_neg h4, if_pos ⟨by omega, h2⟩]))) ?_
          refine g_iconst K X (1 : Int32) 110 d3_109 rfl rfl ?_
          refine g_goto K X 114 d3_110 rfl ?_
          exact g_retN K X eh rfl (t := .boolean) (by simp) ((1 : Int32)) rfl d3_114 (by decide) (by decide) ⟨rfl, rfl⟩
    · refine g_icmpF K X 23 d3_20 rfl (show ¬ ((Int32.ofNat i) < (Int32.ofNat (k + 6))) from (fun q => h2 ((own_lt (by omega) (by omega)).mp q))) ?_
      refine g_iload K X 25 d3_23 rfl rfl ?_
      refine g_lloadN K X 26 d3_25 rfl rfl ?_
      refine g_iloadN K X 27 d3_26 rfl rfl ?_
      refine g_iload K X 29 d3_27 rfl rfl ?_
      refine g_static K X eh rfl (met_dr l Z a0 hw w v i hi h0 n0) (hw _ (List.mem_of_getElem? (i := 2) rfl)) (hw _ (List.mem_of_getElem? (i := 3) rfl)) (hw _ (List.mem_of_getElem? (i := 5) rfl)) (hw _ (List.mem_of_getElem? (i := 4) rfl)) (by decide) [.long w, .int v, .int (Int32.ofNat i)] rfl rfl (lenOf pd_0 rfl) 32 d3_29 rfl 1 (Nat.le_of_eq rfl) (by decide) (by decide) (by decide) (by decide) fun T r h' X eh hq => ?_
      obtain ⟨rfl, rfl⟩ := hq
      refine g_icmpF K X 35 d3_32 rfl (show ¬ (¬ (PG (DR w v) k (BD d 1) i) = (DR w v i)) from (fun q => q (by rw [PG, if_neg (by omega), if_neg (by omega), if_neg (by omega)]))) ?_
      refine g_iconst K X (1 : Int32) 36 d3_35 rfl rfl ?_
      refine g_goto K X 40 d3_36 rfl ?_
      exact g_retN K X eh rfl (t := .boolean) (by simp) ((1 : Int32)) rfl d3_40 (by decide) (by decide) ⟨rfl, rfl⟩
set_option maxRecDepth 65536 in
set_option maxHeartbeats 40000000 in
theorem met_law (l : Launch) (Z : State) (a0 : Array Value) (hw : ∀ d ∈ tables_1, d.before a0 Z = true) (w : Int64) (v x2 x3 x4 : Int32) (h0 : Heap) (n0 : Nat) (Z0 : n0 ≤ h0.size) :
    Met l Z x code maxLocals ret tables_1 room_1 #[.long w, .int v, .int x2, .int x3, .int x4] h0 n0 (fun r h' => r = some (.int 1)) := by
  refine Met.of (plainFor_of_name (by first | (simp [plainName, overriddenIn]; done) | decide +kernel)) #[.val (.long w), .second, .val (.int v), .val (.int x2), .val (.int x3), .val (.int x4), .unset, .unset, .unset, .unset, .unset] (fun m => by first | (simp [entryFrame, mkF, argsToLocals, Value.category, maxLocals]; done) | rfl) ?_
  intro p e s m below meth c T K X eh
  obtain ⟨k, hk, ek⟩ := own_rem x2 7 7 rfl (by decide) (by decide)
  obtain ⟨d, hd, ed⟩ := own_rem x3 65 65 rfl (by decide) (by decide)
  have tailb0 : ∀ a T h, Ai Z h a .byte 12 (PG (DR w v) k (BD d 0)) → Sd p l e room_1 s m #[.long w, .int v, .int x2, .int x3, .int x4] below meth c n0 T 1 12 → T.heap = h → Go p e below s n0 (fun r h' => r = some (.int 1)) room_1.cells room_1.slots (T.setTop (mkF m 298 #[.val (.long w), .second, .val (.int v), .val (.int x2), .val (.int x3), .val (.int x4), .val (.int (Int32.ofNat k)), .val (.int (Int32.ofNat d)), .val (.int ((0 : Int32))), .val (.ref a), .val (.int (Int32.ofNat (k + 6)))] [])) := by
    intro a T h A X eh
    refine g_aload K X 300 at_298 rfl rfl rfl ?_
    refine g_lloadN K X 301 at_300 rfl rfl ?_
    refine g_iloadN K X 302 at_301 rfl rfl ?_
    refine g_bipush K X (6 : Int32) 304 at_302 rfl rfl ?_
    refine g_iload K X 306 at_304 rfl rfl ?_
    refine g_iload K X 308 at_306 rfl rfl ?_
    refine g_iload K X 310 at_308 rfl rfl ?_
    refine g_static K X eh rfl (met_ok0 l Z a0 hw a w v 6 k d (by decide) hk hd h n0 A) (hw _ (List.mem_of_getElem? (i := 10) rfl)) (hw _ (List.mem_of_getElem? (i := 11) rfl)) (hw _ (List.mem_of_getElem? (i := 12) rfl)) (hw _ (List.mem_of_getElem? (i := 4) rfl)) (by decide) [.ref a, .long w, .int v, .int ((6 : Int32)), .int (Int32.ofNat k), .int (Int32.ofNat d), .int ((0 : Int32))] rfl rfl (lenOf pd_1 rfl) 313 at_310 rfl 0 (Nat.le_of_eq rfl) (by decide) (by decide) (by decide) (by decide) fun T r h' X eh hq => ?_
    obtain ⟨rfl, rfl⟩ := hq
    refine g_ifF K X 316 at_313 rfl (show ¬ (((1 : Int32)) = 0) from (by decide)) ?_
    refine g_aload K X 318 at_316 rfl rfl rfl ?_
    refine g_lloadN K X 319 at_318 rfl rfl ?_
    refine g_iloadN K X 320 at_319 rfl rfl ?_
    refine g_bipush K X (7 : Int32) 322 at_320 rfl rfl ?_
    refine g_iload K X 324 at_322 rfl rfl ?_
    refine g_iload K X 326 at_324 rfl rfl ?_
    refine g_iload K X 328 at_326 rfl rfl ?_
    refine g_static K X eh rfl (met_ok0 l Z a0 hw a w v 7 k d (by decide) hk hd h n0 A) (hw _ (List.mem_of_getElem? (i := 10) rfl)) (hw _ (List.mem_of_getElem? (i := 11) rfl)) (hw _ (List.mem_of_getElem? (i := 12) rfl)) (hw _ (List.mem_of_getElem? (i := 4) rfl)) (by decide) [.ref a, .long w, .int v, .int ((7 : Int32)), .int (Int32.ofNat k), .int (Int32.ofNat d), .int ((0 : Int32))] rfl rfl (lenOf pd_1 rfl) 331 at_328 rfl 0 (Nat.le_of_eq rfl) (by decide) (by decide) (by decide) (by decide) fun T r h' X eh hq => ?_
    obtain ⟨rfl, rfl⟩ := hq
    refine g_ifF K X 334 at_331 rfl (show ¬ (((1 : Int32)) = 0) from (by decide)) ?_
    refine g_aload K X 336 at_334 rfl rfl rfl ?_
    refine g_lloadN K X 337 at_336 rfl rfl ?_
    refine g_iloadN K X 338 at_337 rfl rfl ?_
    refine g_bipush K X (8 : Int32) 340 at_338 rfl rfl ?_
    refine g_iload K X 342 at_340 rfl rfl ?_
    refine g_iload K X 344 at_342 rfl rfl ?_
    refine g_iload K X 346 at_344 rfl rfl ?_
    refine g_static K X eh rfl (met_ok0 l Z a0 hw a w v 8 k d (by decide) hk hd h n0 A) (hw _ (List.mem_of_getElem? (i := 10) rfl)) (hw _ (List.mem_of_getElem? (i := 11) rfl)) (hw _ (List.mem_of_getElem? (i := 12) rfl)) (hw _ (List.mem_of_getElem? (i := 4) rfl)) (by decide) [.ref a, .long w, .int v, .int ((8 : Int32)), .int (Int32.ofNat k), .int (Int32.ofNat d), .int ((0 : Int32))] rfl rfl (lenOf pd_1 rfl) 349 at_346 rfl 0 (Nat.le_of_eq rfl) (by decide) (by decide) (by decide) (by decide) fun T r h' X eh hq => ?_
    obtain ⟨rfl, rfl⟩ := hq
    refine g_ifF K X 352 at_349 rfl (show ¬ (((1 : Int32)) = 0) from (by decide)) ?_
    refine g_aload K X 354 at_352 rfl rfl rfl ?_
    refine g_lloadN K X 355 at_354 rfl rfl ?_
    refine g_iloadN K X 356 at_355 rfl rfl ?_
    refine g_bipush K X (9 : Int32) 358 at_356 rfl rfl ?_
    refine g_iload K X 360 at_358 rfl rfl ?_
    refine g_iload K X 362 at_360 rfl rfl ?_
    refine g_iload K X 364 at_362 rfl rfl ?_
    refine g_static K X eh rfl (met_ok0 l Z a0 hw a w v 9 k d (by decide) hk hd h n0 A) (hw _ (List.mem_of_getElem? (i := 10) rfl)) (hw _ (List.mem_of_getElem? (i := 11) rfl)) (hw _ (List.mem_of_getElem? (i := 12) rfl)) (hw _ (List.mem_of_getElem? (i := 4) rfl)) (by decide) [.ref a, .long w, .int v, .int ((9 : Int32)), .int (Int32.ofNat k), .int (Int32.ofNat d), .int ((0 : Int32))] rfl rfl (lenOf pd_1 rfl) 367 at_364 rfl 0 (Nat.le_of_eq rfl) (by decide) (by decide) (by decide) (by decide) fun T r h' X eh hq => ?_
    obtain ⟨rfl, rfl⟩ := hq
    refine g_ifF K X 370 at_367 rfl (show ¬ (((1 : Int32)) = 0) from (by decide)) ?_
    refine g_aload K X 372 at_370 rfl rfl rfl ?_
    refine g_lloadN K X 373 at_372 rfl rfl ?_
    refine g_iloadN K X 374 at_373 rfl rfl ?_
    refine g_bipush K X (10 : Int32) 376 at_374 rfl rfl ?_
    refine g_iload K X 378 at_376 rfl rfl ?_
    refine g_iload K X 380 at_378 rfl rfl ?_
    refine g_iload K X 382 at_380 rfl rfl ?_
    refine g_static K X eh rfl (met_ok0 l Z a0 hw a w v 10 k d (by decide) hk hd h n0 A) (hw _ (List.mem_of_getElem? (i := 10) rfl)) (hw _ (List.mem_of_getElem? (i := 11) rfl)) (hw _ (List.mem_of_getElem? (i := 12) rfl)) (hw _ (List.mem_of_getElem? (i := 4) rfl)) (by decide) [.ref a, .long w, .int v, .int ((10 : Int32)), .int (Int32.ofNat k), .int (Int32.ofNat d), .int ((0 : Int32))] rfl rfl (lenOf pd_1 rfl) 385 at_382 rfl 0 (Nat.le_of_eq rfl) (by decide) (by decide) (by decide) (by decide) fun T r h' X eh hq => ?_
    obtain ⟨rfl, rfl⟩ := hq
    refine g_ifF K X 388 at_385 rfl (show ¬ (((1 : Int32)) = 0) from (by decide)) ?_
    refine g_aload K X 390 at_388 rfl rfl rfl ?_
    refine g_lloadN K X 391 at_390 rfl rfl ?_
    refine g_iloadN K X 392 at_391 rfl rfl ?_
    refine g_bipush K X (11 : Int32) 394 at_392 rfl rfl ?_
    refine g_iload K X 396 at_394 rfl rfl ?_
    refine g_iload K X 398 at_396 rfl rfl ?_
    refine g_iload K X 400 at_398 rfl rfl ?_
    refine g_static K X eh rfl (met_ok0 l Z a0 hw a w v 11 k d (by decide) hk hd h n0 A) (hw _ (List.mem_of_getElem? (i := 10) rfl)) (hw _ (List.mem_of_getElem? (i := 11) rfl)) (hw _ (List.mem_of_getElem? (i := 12) rfl)) (hw _ (List.mem_of_getElem? (i := 4) rfl)) (by decide) [.ref a, .long w, .int v, .int ((11 : Int32)), .int (Int32.ofNat k), .int (Int32.ofNat d), .int ((0 : Int32))] rfl rfl (lenOf pd_1 rfl) 403 at_400 rfl 0 (Nat.le_of_eq rfl) (by decide) (by decide) (by decide) (by decide) fun T r h' X eh hq => ?_
    obtain ⟨rfl, rfl⟩ := hq
    refine g_ifF K X 406 at_403 rfl (show ¬ (((1 : Int32)) = 0) from (by decide)) ?_
    refine g_iconst K X (1 : Int32) 407 at_406 rfl rfl ?_
    refine g_goto K X 411 at_407 rfl ?_
    exact g_retN K X eh rfl (t := .boolean) (by simp) ((1 : Int32)) rfl at_411 (by decide) (by decide) rfl
  have taila0 : ∀ a T h, Ai Z h a .byte 12 (PG (DR w v) k (BD d 0)) → Sd p l e room_1 s m #[.long w, .int v, .int x2, .int x3, .int x4] below meth c n0 T 1 12 → T.heap = h → Go p e below s n0 (fun r h' => r = some (.int 1)) room_1.cells room_1.slots (T.setTop (mkF m 196 #[.val (.long w), .second, .val (.int v), .val (.int x2), .val (.int x3), .val (.int x4), .val (.int (Int32.ofNat k)), .val (.int (Int32.ofNat d)), .val (.int ((0 : Int32))), .val (.ref a), .val (.int (Int32.ofNat (k + 6)))] [])) := by
    intro a T h A X eh
    refine g_aload K X 198 at_196 rfl rfl rfl ?_
    refine g_lloadN K X 199 at_198 rfl rfl ?_
    refine g_iloadN K X 200 at_199 rfl rfl ?_
    refine g_iconst K X (0 : Int32) 201 at_200 rfl rfl ?_
    refine g_iload K X 203 at_201 rfl rfl ?_
    refine g_iload K X 205 at_203 rfl rfl ?_
    refine g_iload K X 207 at_205 rfl rfl ?_
    refine g_static K X eh rfl (met_ok0 l Z a0 hw a w v 0 k d (by decide) hk hd h n0 A) (hw _ (List.mem_of_getElem? (i := 10) rfl)) (hw _ (List.mem_of_getElem? (i := 11) rfl)) (hw _ (List.mem_of_getElem? (i := 12) rfl)) (hw _ (List.mem_of_getElem? (i := 4) rfl)) (by decide) [.ref a, .long w, .int v, .int ((0 : Int32)), .int (Int32.ofNat k), .int (Int32.ofNat d), .int ((0 : Int32))] rfl rfl (lenOf pd_1 rfl) 210 at_207 rfl 0 (Nat.le_of_eq rfl) (by decide) (by decide) (by decide) (by decide) fun T r h' X eh hq => ?_
    obtain ⟨rfl, rfl⟩ := hq
    refine g_ifF K X 213 at_210 rfl (show ¬ (((1 : Int32)) = 0) from (by decide)) ?_
    refine g_aload K X 215 at_213 rfl rfl rfl ?_
    refine g_lloadN K X 216 at_215 rfl rfl ?_
    refine g_iloadN K X 217 at_216 rfl rfl ?_
    refine g_iconst K X (1 : Int32) 218 at_217 rfl rfl ?_
    refine g_iload K X 220 at_218 rfl rfl ?_
    refine g_iload K X 222 at_220 rfl rfl ?_
    refine g_iload K X 224 at_222 rfl rfl ?_
    refine g_static K X eh rfl (met_ok0 l Z a0 hw a w v 1 k d (by decide) hk hd h n0 A) (hw _ (List.mem_of_getElem? (i := 10) rfl)) (hw _ (List.mem_of_getElem? (i := 11) rfl)) (hw _ (List.mem_of_getElem? (i := 12) rfl)) (hw _ (List.mem_of_getElem? (i := 4) rfl)) (by decide) [.ref a, .long w, .int v, .int ((1 : Int32)), .int (Int32.ofNat k), .int (Int32.ofNat d), .int ((0 : Int32))] rfl rfl (lenOf pd_1 rfl) 227 at_224 rfl 0 (Nat.le_of_eq rfl) (by decide) (by decide) (by decide) (by decide) fun T r h' X eh hq => ?_
    obtain ⟨rfl, rfl⟩ := hq
    refine g_ifF K X 230 at_227 rfl (show ¬ (((1 : Int32)) = 0) from (by decide)) ?_
    refine g_aload K X 232 at_230 rfl rfl rfl ?_
    refine g_lloadN K X 233 at_232 rfl rfl ?_
    refine g_iloadN K X 234 at_233 rfl rfl ?_
    refine g_iconst K X (2 : Int32) 235 at_234 rfl rfl ?_
    refine g_iload K X 237 at_235 rfl rfl ?_
    refine g_iload K X 239 at_237 rfl rfl ?_
    refine g_iload K X 241 at_239 rfl rfl ?_
    refine g_static K X eh rfl (met_ok0 l Z a0 hw a w v 2 k d (by decide) hk hd h n0 A) (hw _ (List.mem_of_getElem? (i := 10) rfl)) (hw _ (List.mem_of_getElem? (i := 11) rfl)) (hw _ (List.mem_of_getElem? (i := 12) rfl)) (hw _ (List.mem_of_getElem? (i := 4) rfl)) (by decide) [.ref a, .long w, .int v, .int ((2 : Int32)), .int (Int32.ofNat k), .int (Int32.ofNat d), .int ((0 : Int32))] rfl rfl (lenOf pd_1 rfl) 244 at_241 rfl 0 (Nat.le_of_eq rfl) (by decide) (by decide) (by decide) (by decide) fun T r h' X eh hq => ?_
    obtain ⟨rfl, rfl⟩ := hq
    refine g_ifF K X 247 at_244 rfl (show ¬ (((1 : Int32)) = 0) from (by decide)) ?_
    refine g_aload K X 249 at_247 rfl rfl rfl ?_
    refine g_lloadN K X 250 at_249 rfl rfl ?_
    refine g_iloadN K X 251 at_250 rfl rfl ?_
    refine g_iconst K X (3 : Int32) 252 at_251 rfl rfl ?_
    refine g_iload K X 254 at_252 rfl rfl ?_
    refine g_iload K X 256 at_254 rfl rfl ?_
    refine g_iload K X 258 at_256 rfl rfl ?_
    refine g_static K X eh rfl (met_ok0 l Z a0 hw a w v 3 k d (by decide) hk hd h n0 A) (hw _ (List.mem_of_getElem? (i := 10) rfl)) (hw _ (List.mem_of_getElem? (i := 11) rfl)) (hw _ (List.mem_of_getElem? (i := 12) rfl)) (hw _ (List.mem_of_getElem? (i := 4) rfl)) (by decide) [.ref a, .long w, .int v, .int ((3 : Int32)), .int (Int32.ofNat k), .int (Int32.ofNat d), .int ((0 : Int32))] rfl rfl (lenOf pd_1 rfl) 261 at_258 rfl 0 (Nat.le_of_eq rfl) (by decide) (by decide) (by decide) (by decide) fun T r h' X eh hq => ?_
    obtain ⟨rfl, rfl⟩ := hq
    refine g_ifF K X 264 at_261 rfl (show ¬ (((1 : Int32)) = 0) from (by decide)) ?_
    refine g_aload K X 266 at_264 rfl rfl rfl ?_
    refine g_lloadN K X 267 at_266 rfl rfl ?_
    refine g_iloadN K X 268 at_267 rfl rfl ?_
    refine g_iconst K X (4 : Int32) 269 at_268 rfl rfl ?_
    refine g_iload K X 271 at_269 rfl rfl ?_
    refine g_iload K X 273 at_271 rfl rfl ?_
    refine g_iload K X 275 at_273 rfl rfl ?_
    refine g_static K X eh rfl (met_ok0 l Z a0 hw a w v 4 k d (by decide) hk hd h n0 A) (hw _ (List.mem_of_getElem? (i := 10) rfl)) (hw _ (List.mem_of_getElem? (i := 11) rfl)) (hw _ (List.mem_of_getElem? (i := 12) rfl)) (hw _ (List.mem_of_getElem? (i := 4) rfl)) (by decide) [.ref a, .long w, .int v, .int ((4 : Int32)), .int (Int32.ofNat k), .int (Int32.ofNat d), .int ((0 : Int32))] rfl rfl (lenOf pd_1 rfl) 278 at_275 rfl 0 (Nat.le_of_eq rfl) (by decide) (by decide) (by decide) (by decide) fun T r h' X eh hq => ?_
    obtain ⟨rfl, rfl⟩ := hq
    refine g_ifF K X 281 at_278 rfl (show ¬ (((1 : Int32)) = 0) from (by decide)) ?_
    refine g_aload K X 283 at_281 rfl rfl rfl ?_
    refine g_lloadN K X 284 at_283 rfl rfl ?_
    refine g_iloadN K X 285 at_284 rfl rfl ?_
    refine g_iconst K X (5 : Int32) 286 at_285 rfl rfl ?_
    refine g_iload K X 288 at_286 rfl rfl ?_
    refine g_iload K X 290 at_288 rfl rfl ?_
    refine g_iload K X 292 at_290 rfl rfl ?_
    refine g_static K X eh rfl (met_ok0 l Z a0 hw a w v 5 k d (by decide) hk hd h n0 A) (hw _ (List.mem_of_getElem? (i := 10) rfl)) (hw _ (List.mem_of_getElem? (i := 11) rfl)) (hw _ (List.mem_of_getElem? (i := 12) rfl)) (hw _ (List.mem_of_getElem? (i := 4) rfl)) (by decide) [.ref a, .long w, .int v, .int ((5 : Int32)), .int (Int32.ofNat k), .int (Int32.ofNat d), .int ((0 : Int32))] rfl rfl (lenOf pd_1 rfl) 295 at_292 rfl 0 (Nat.le_of_eq rfl) (by decide) (by decide) (by decide) (by decide) fun T r h' X eh hq => ?_
    obtain ⟨rfl, rfl⟩ := hq
    refine g_ifF K X 298 at_295 rfl (show ¬ (((1 : Int32)) = 0) from (by decide)) ?_
    exact tailb0 a T _ A X eh
  have mid0 : ∀ a T h, n0 ≤ a → Ai Z h a .byte 12 (DR w v) → Sd p l e room_1 s m #[.long w, .int v, .int x2, .int x3, .int x4] below meth c n0 T 1 12 → T.heap = h → Go p e below s n0 (fun r h' => r = some (.int 1)) room_1.cells room_1.slots (T.setTop (mkF m 171 #[.val (.long w), .second, .val (.int v), .val (.int x2), .val (.int x3), .val (.int x4), .val (.int (Int32.ofNat k)), .val (.int (Int32.ofNat d)), .val (.int ((0 : Int32))), .val (.ref a), .unset] [])) := by
    intro a T h ge A X eh
    refine g_aload K X 173 at_171 rfl rfl rfl ?_
    refine g_iload K X 175 at_173 rfl rfl ?_
    refine g_iload K X 177 at_175 rfl rfl ?_
    refine g_iload K X 179 at_177 rfl rfl ?_
    refine g_static K X eh rfl (met_sp0 l Z a0 hw a (DR w v) k d hk hd h n0 A ge) (hw _ (List.mem_of_getElem? (i := 6) rfl)) (hw _ (List.mem_of_getElem? (i := 7) rfl)) (hw _ (List.mem_of_getElem? (i := 9) rfl)) (hw _ (List.mem_of_getElem? (i := 8) rfl)) (by decide) [.ref a, .int (Int32.ofNat k), .int (Int32.ofNat d), .int ((0 : Int32))] rfl rfl (lenOf pd_2 rfl) 182 at_179 rfl 0 (Nat.le_of_eq rfl) (by decide) (by decide) (by decide) (by decide) fun T r h X eh hq => ?_
    clear A
    obtain ⟨rfl, A, Kp⟩ := hq
    refine g_istore K X 184 #[.val (.long w), .second, .val (.int v), .val (.int x2), .val (.int x3), .val (.int x4), .val (.int (Int32.ofNat k)), .val (.int (Int32.ofNat d)), .val (.int ((0 : Int32))), .val (.ref a), .val (.int (Int32.ofNat (k + 6)))] at_182 rfl rfl ?_
    refine g_iload K X 186 at_184 rfl rfl ?_
    refine g_iload K X 188 at_186 rfl rfl ?_
    refine g_bipush K X (6 : Int32) 190 at_188 rfl rfl ?_
    refine g_iadd K X 191 at_190 rfl ?_
    refine g_eqI (y := Int32.ofNat (k + 6)) (own_add k 6 rfl) ?_
    refine g_icmpT K X 196 at_191 rfl (show (Int32.ofNat (k + 6)) = (Int32.ofNat (k + 6)) from rfl) ?_
    exact taila0 a T h A X eh
  have tailb1 : ∀ a T h, Ai Z h a .byte 12 (PG (DR w v) k (BD d 1)) → Sd p l e room_1 s m #[.long w, .int v, .int x2, .int x3, .int x4] below meth c n0 T 1 12 → T.heap = h → Go p e below s n0 (fun r h' => r = some (.int 1)) room_1.cells room_1.slots (T.setTop (mkF m 298 #[.val (.long w), .second, .val (.int v), .val (.int x2), .val (.int x3), .val (.int x4), .val (.int (Int32.ofNat k)), .val (.int (Int32.ofNat d)), .val (.int ((1 : Int32))), .val (.ref a), .val (.int (Int32.ofNat (k + 6)))] [])) := by
    intro a T h A X eh
    refine g_aload K X 300 at_298 rfl rfl rfl ?_
    refine g_lloadN K X 301 at_300 rfl rfl ?_
    refine g_iloadN K X 302 at_301 rfl rfl ?_
    refine g_bipush K X (6 : Int32) 304 at_302 rfl rfl ?_
    refine g_iload K X 306 at_304 rfl rfl ?_
    refine g_iload K X 308 at_306 rfl rfl ?_
    refine g_iload K X 310 at_308 rfl rfl ?_
    refine g_static K X eh rfl (met_ok1 l Z a0 hw a w v 6 k d (by decide) hk hd h n0 A) (hw _ (List.mem_of_getElem? (i := 10) rfl)) (hw _ (List.mem_of_getElem? (i := 11) rfl)) (hw _ (List.mem_of_getElem? (i := 12) rfl)) (hw _ (List.mem_of_getElem? (i := 4) rfl)) (by decide) [.ref a, .long w, .int v, .int ((6 : Int32)), .int (Int32.ofNat k), .int (Int32.ofNat d), .int ((1 : Int32))] rfl rfl (lenOf pd_1 rfl) 313 at_310 rfl 0 (Nat.le_of_eq rfl) (by decide) (by decide) (by decide) (by decide) fun T r h' X eh hq => ?_
    obtain ⟨rfl, rfl⟩ := hq
    refine g_ifF K X 316 at_313 rfl (show ¬ (((1 : Int32)) = 0) from (by decide)) ?_
    refine g_aload K X 318 at_316 rfl rfl rfl ?_
    refine g_lloadN K X 319 at_318 rfl rfl ?_
    refine g_iloadN K X 320 at_319 rfl rfl ?_
    refine g_bipush K X (7 : Int32) 322 at_320 rfl rfl ?_
    refine g_iload K X 324 at_322 rfl rfl ?_
    refine g_iload K X 326 at_324 rfl rfl ?_
    refine g_iload K X 328 at_326 rfl rfl ?_
    refine g_static K X eh rfl (met_ok1 l Z a0 hw a w v 7 k d (by decide) hk hd h n0 A) (hw _ (List.mem_of_getElem? (i := 10) rfl)) (hw _ (List.mem_of_getElem? (i := 11) rfl)) (hw _ (List.mem_of_getElem? (i := 12) rfl)) (hw _ (List.mem_of_getElem? (i := 4) rfl)) (by decide) [.ref a, .long w, .int v, .int ((7 : Int32)), .int (Int32.ofNat k), .int (Int32.ofNat d), .int ((1 : Int32))] rfl rfl (lenOf pd_1 rfl) 331 at_328 rfl 0 (Nat.le_of_eq rfl) (by decide) (by decide) (by decide) (by decide) fun T r h' X eh hq => ?_
    obtain ⟨rfl, rfl⟩ := hq
    refine g_ifF K X 334 at_331 rfl (show ¬ (((1 : Int32)) = 0) from (by decide)) ?_
    refine g_aload K X 336 at_334 rfl rfl rfl ?_
    refine g_lloadN K X 337 at_336 rfl rfl ?_
    refine g_iloadN K X 338 at_337 rfl rfl ?_
    refine g_bipush K X (8 : Int32) 340 at_338 rfl rfl ?_
    refine g_iload K X 342 at_340 rfl rfl ?_
    refine g_iload K X 344 at_342 rfl rfl ?_
    refine g_iload K X 346 at_344 rfl rfl ?_
    refine g_static K X eh rfl (met_ok1 l Z a0 hw a w v 8 k d (by decide) hk hd h n0 A) (hw _ (List.mem_of_getElem? (i := 10) rfl)) (hw _ (List.mem_of_getElem? (i := 11) rfl)) (hw _ (List.mem_of_getElem? (i := 12) rfl)) (hw _ (List.mem_of_getElem? (i := 4) rfl)) (by decide) [.ref a, .long w, .int v, .int ((8 : Int32)), .int (Int32.ofNat k), .int (Int32.ofNat d), .int ((1 : Int32))] rfl rfl (lenOf pd_1 rfl) 349 at_346 rfl 0 (Nat.le_of_eq rfl) (by decide) (by decide) (by decide) (by decide) fun T r h' X eh hq => ?_
    obtain ⟨rfl, rfl⟩ := hq
    refine g_ifF K X 352 at_349 rfl (show ¬ (((1 : Int32)) = 0) from (by decide)) ?_
    refine g_aload K X 354 at_352 rfl rfl rfl ?_
    refine g_lloadN K X 355 at_354 rfl rfl ?_
    refine g_iloadN K X 356 at_355 rfl rfl ?_
    refine g_bipush K X (9 : Int32) 358 at_356 rfl rfl ?_
    refine g_iload K X 360 at_358 rfl rfl ?_
    refine g_iload K X 362 at_360 rfl rfl ?_
    refine g_iload K X 364 at_362 rfl rfl ?_
    refine g_static K X eh rfl (met_ok1 l Z a0 hw a w v 9 k d (by decide) hk hd h n0 A) (hw _ (List.mem_of_getElem? (i := 10) rfl)) (hw _ (List.mem_of_getElem? (i := 11) rfl)) (hw _ (List.mem_of_getElem? (i := 12) rfl)) (hw _ (List.mem_of_getElem? (i := 4) rfl)) (by decide) [.ref a, .long w, .int v, .int ((9 : Int32)), .int (Int32.ofNat k), .int (Int32.ofNat d), .int ((1 : Int32))] rfl rfl (lenOf pd_1 rfl) 367 at_364 rfl 0 (Nat.le_of_eq rfl) (by decide) (by decide) (by decide) (by decide) fun T r h' X eh hq => ?_
    obtain ⟨rfl, rfl⟩ := hq
    refine g_ifF K X 370 at_367 rfl (show ¬ (((1 : Int32)) = 0) from (by decide)) ?_
    refine g_aload K X 372 at_370 rfl rfl rfl ?_
    refine g_lloadN K X 373 at_372 rfl rfl ?_
    refine g_iloadN K X 374 at_373 rfl rfl ?_
    refine g_bipush K X (10 : Int32) 376 at_374 rfl rfl ?_
    refine g_iload K X 378 at_376 rfl rfl ?_
    refine g_iload K X 380 at_378 rfl rfl ?_
    refine g_iload K X 382 at_380 rfl rfl ?_
    refine g_static K X eh rfl (met_ok1 l Z a0 hw a w v 10 k d (by decide) hk hd h n0 A) (hw _ (List.mem_of_getElem? (i := 10) rfl)) (hw _ (List.mem_of_getElem? (i := 11) rfl)) (hw _ (List.mem_of_getElem? (i := 12) rfl)) (hw _ (List.mem_of_getElem? (i := 4) rfl)) (by decide) [.ref a, .long w, .int v, .int ((10 : Int32)), .int (Int32.ofNat k), .int (Int32.ofNat d), .int ((1 : Int32))] rfl rfl (lenOf pd_1 rfl) 385 at_382 rfl 0 (Nat.le_of_eq rfl) (by decide) (by decide) (by decide) (by decide) fun T r h' X eh hq => ?_
    obtain ⟨rfl, rfl⟩ := hq
    refine g_ifF K X 388 at_385 rfl (show ¬ (((1 : Int32)) = 0) from (by decide)) ?_
    refine g_aload K X 390 at_388 rfl rfl rfl ?_
    refine g_lloadN K X 391 at_390 rfl rfl ?_
    refine g_iloadN K X 392 at_391 rfl rfl ?_
    refine g_bipush K X (11 : Int32) 394 at_392 rfl rfl ?_
    refine g_iload K X 396 at_394 rfl rfl ?_
    refine g_iload K X 398 at_396 rfl rfl ?_
    refine g_iload K X 400 at_398 rfl rfl ?_
    refine g_static K X eh rfl (met_ok1 l Z a0 hw a w v 11 k d (by decide) hk hd h n0 A) (hw _ (List.mem_of_getElem? (i := 10) rfl)) (hw _ (List.mem_of_getElem? (i := 11) rfl)) (hw _ (List.mem_of_getElem? (i := 12) rfl)) (hw _ (List.mem_of_getElem? (i := 4) rfl)) (by decide) [.ref a, .long w, .int v, .int ((11 : Int32)), .int (Int32.ofNat k), .int (Int32.ofNat d), .int ((1 : Int32))] rfl rfl (lenOf pd_1 rfl) 403 at_400 rfl 0 (Nat.le_of_eq rfl) (by decide) (by decide) (by decide) (by decide) fun T r h' X eh hq => ?_
    obtain ⟨rfl, rfl⟩ := hq
    refine g_ifF K X 406 at_403 rfl (show ¬ (((1 : Int32)) = 0) from (by decide)) ?_
    refine g_iconst K X (1 : Int32) 407 at_406 rfl rfl ?_
    refine g_goto K X 411 at_407 rfl ?_
    exact g_retN K X eh rfl (t := .boolean) (by simp) ((1 : Int32)) rfl at_411 (by decide) (by decide) rfl
  have taila1 : ∀ a T h, Ai Z h a .byte 12 (PG (DR w v) k (BD d 1)) → Sd p l e room_1 s m #[.long w, .int v, .int x2, .int x3, .int x4] below meth c n0 T 1 12 → T.heap = h → Go p e below s n0 (fun r h' => r = some (.int 1)) room_1.cells room_1.slots (T.setTop (mkF m 196 #[.val (.long w), .second, .val (.int v), .val (.int x2), .val (.int x3), .val (.int x4), .val (.int (Int32.ofNat k)), .val (.int (Int32.ofNat d)), .val (.int ((1 : Int32))), .val (.ref a), .val (.int (Int32.ofNat (k + 6)))] [])) := by
    intro a T h A X eh
    refine g_aload K X 198 at_196 rfl rfl rfl ?_
    refine g_lloadN K X 199 at_198 rfl rfl ?_
    refine g_iloadN K X 200 at_199 rfl rfl ?_
    refine g_iconst K X (0 : Int32) 201 at_200 rfl rfl ?_
    refine g_iload K X 203 at_201 rfl rfl ?_
    refine g_iload K X 205 at_203 rfl rfl ?_
    refine g_iload K X 207 at_205 rfl rfl ?_
    refine g_static K X eh rfl (met_ok1 l Z a0 hw a w v 0 k d (by decide) hk hd h n0 A) (hw _ (List.mem_of_getElem? (i := 10) rfl)) (hw _ (List.mem_of_getElem? (i := 11) rfl)) (hw _ (List.mem_of_getElem? (i := 12) rfl)) (hw _ (List.mem_of_getElem? (i := 4) rfl)) (by decide) [.ref a, .long w, .int v, .int ((0 : Int32)), .int (Int32.ofNat k), .int (Int32.ofNat d), .int ((1 : Int32))] rfl rfl (lenOf pd_1 rfl) 210 at_207 rfl 0 (Nat.le_of_eq rfl) (by decide) (by decide) (by decide) (by decide) fun T r h' X eh hq => ?_
    obtain ⟨rfl, rfl⟩ := hq
    refine g_ifF K X 213 at_210 rfl (show ¬ (((1 : Int32)) = 0) from (by decide)) ?_
    refine g_aload K X 215 at_213 rfl rfl rfl ?_
    refine g_lloadN K X 216 at_215 rfl rfl ?_
    refine g_iloadN K X 217 at_216 rfl rfl ?_
    refine g_iconst K X (1 : Int32) 218 at_217 rfl rfl ?_
    refine g_iload K X 220 at_218 rfl rfl ?_
    refine g_iload K X 222 at_220 rfl rfl ?_
    refine g_iload K X 224 at_222 rfl rfl ?_
    refine g_static K X eh rfl (met_ok1 l Z a0 hw a w v 1 k d (by decide) hk hd h n0 A) (hw _ (List.mem_of_getElem? (i := 10) rfl)) (hw _ (List.mem_of_getElem? (i := 11) rfl)) (hw _ (List.mem_of_getElem? (i := 12) rfl)) (hw _ (List.mem_of_getElem? (i := 4) rfl)) (by decide) [.ref a, .long w, .int v, .int ((1 : Int32)), .int (Int32.ofNat k), .int (Int32.ofNat d), .int ((1 : Int32))] rfl rfl (lenOf pd_1 rfl) 227 at_224 rfl 0 (Nat.le_of_eq rfl) (by decide) (by decide) (by decide) (by decide) fun T r h' X eh hq => ?_
    obtain ⟨rfl, rfl⟩ := hq
    refine g_ifF K X 230 at_227 rfl (show ¬ (((1 : Int32)) = 0) from (by decide)) ?_
    refine g_aload K X 232 at_230 rfl rfl rfl ?_
    refine g_lloadN K X 233 at_232 rfl rfl ?_
    refine g_iloadN K X 234 at_233 rfl rfl ?_
    refine g_iconst K X (2 : Int32) 235 at_234 rfl rfl ?_
    refine g_iload K X 237 at_235 rfl rfl ?_
    refine g_iload K X 239 at_237 rfl rfl ?_
    refine g_iload K X 241 at_239 rfl rfl ?_
    refine g_static K X eh rfl (met_ok1 l Z a0 hw a w v 2 k d (by decide) hk hd h n0 A) (hw _ (List.mem_of_getElem? (i := 10) rfl)) (hw _ (List.mem_of_getElem? (i := 11) rfl)) (hw _ (List.mem_of_getElem? (i := 12) rfl)) (hw _ (List.mem_of_getElem? (i := 4) rfl)) (by decide) [.ref a, .long w, .int v, .int ((2 : Int32)), .int (Int32.ofNat k), .int (Int32.ofNat d), .int ((1 : Int32))] rfl rfl (lenOf pd_1 rfl) 244 at_241 rfl 0 (Nat.le_of_eq rfl) (by decide) (by decide) (by decide) (by decide) fun T r h' X eh hq => ?_
    obtain ⟨rfl, rfl⟩ := hq
    refine g_ifF K X 247 at_244 rfl (show ¬ (((1 : Int32)) = 0) from (by decide)) ?_
    refine g_aload K X 249 at_247 rfl rfl rfl ?_
    refine g_lloadN K X 250 at_249 rfl rfl ?_
    refine g_iloadN K X 251 at_250 rfl rfl ?_
    refine g_iconst K X (3 : Int32) 252 at_251 rfl rfl ?_
    refine g_iload K X 254 at_252 rfl rfl ?_
    refine g_iload K X 256 at_254 rfl rfl ?_
    refine g_iload K X 258 at_256 rfl rfl ?_
    refine g_static K X eh rfl (met_ok1 l Z a0 hw a w v 3 k d (by decide) hk hd h n0 A) (hw _ (List.mem_of_getElem? (i := 10) rfl)) (hw _ (List.mem_of_getElem? (i := 11) rfl)) (hw _ (List.mem_of_getElem? (i := 12) rfl)) (hw _ (List.mem_of_getElem? (i := 4) rfl)) (by decide) [.ref a, .long w, .int v, .int ((3 : Int32)), .int (Int32.ofNat k), .int (Int32.ofNat d), .int ((1 : Int32))] rfl rfl (lenOf pd_1 rfl) 261 at_258 rfl 0 (Nat.le_of_eq rfl) (by decide) (by decide) (by decide) (by decide) fun T r h' X eh hq => ?_
    obtain ⟨rfl, rfl⟩ := hq
    refine g_ifF K X 264 at_261 rfl (show ¬ (((1 : Int32)) = 0) from (by decide)) ?_
    refine g_aload K X 266 at_264 rfl rfl rfl ?_
    refine g_lloadN K X 267 at_266 rfl rfl ?_
    refine g_iloadN K X 268 at_267 rfl rfl ?_
    refine g_iconst K X (4 : Int32) 269 at_268 rfl rfl ?_
    refine g_iload K X 271 at_269 rfl rfl ?_
    refine g_iload K X 273 at_271 rfl rfl ?_
    refine g_iload K X 275 at_273 rfl rfl ?_
    refine g_static K X eh rfl (met_ok1 l Z a0 hw a w v 4 k d (by decide) hk hd h n0 A) (hw _ (List.mem_of_getElem? (i := 10) rfl)) (hw _ (List.mem_of_getElem? (i := 11) rfl)) (hw _ (List.mem_of_getElem? (i := 12) rfl)) (hw _ (List.mem_of_getElem? (i := 4) rfl)) (by decide) [.ref a, .long w, .int v, .int ((4 : Int32)), .int (Int32.ofNat k), .int (Int32.ofNat d), .int ((1 : Int32))] rfl rfl (lenOf pd_1 rfl) 278 at_275 rfl 0 (Nat.le_of_eq rfl) (by decide) (by decide) (by decide) (by decide) fun T r h' X eh hq => ?_
    obtain ⟨rfl, rfl⟩ := hq
    refine g_ifF K X 281 at_278 rfl (show ¬ (((1 : Int32)) = 0) from (by decide)) ?_
    refine g_aload K X 283 at_281 rfl rfl rfl ?_
    refine g_lloadN K X 284 at_283 rfl rfl ?_
    refine g_iloadN K X 285 at_284 rfl rfl ?_
    refine g_iconst K X (5 : Int32) 286 at_285 rfl rfl ?_
    refine g_iload K X 288 at_286 rfl rfl ?_
    refine g_iload K X 290 at_288 rfl rfl ?_
    refine g_iload K X 292 at_290 rfl rfl ?_
    refine g_static K X eh rfl (met_ok1 l Z a0 hw a w v 5 k d (by decide) hk hd h n0 A) (hw _ (List.mem_of_getElem? (i := 10) rfl)) (hw _ (List.mem_of_getElem? (i := 11) rfl)) (hw _ (List.mem_of_getElem? (i := 12) rfl)) (hw _ (List.mem_of_getElem? (i := 4) rfl)) (by decide) [.ref a, .long w, .int v, .int ((5 : Int32)), .int (Int32.ofNat k), .int (Int32.ofNat d), .int ((1 : Int32))] rfl rfl (lenOf pd_1 rfl) 295 at_292 rfl 0 (Nat.le_of_eq rfl) (by decide) (by decide) (by decide) (by decide) fun T r h' X eh hq => ?_
    obtain ⟨rfl, rfl⟩ := hq
    refine g_ifF K X 298 at_295 rfl (show ¬ (((1 : Int32)) = 0) from (by decide)) ?_
    exact tailb1 a T _ A X eh
  have mid1 : ∀ a T h, n0 ≤ a → Ai Z h a .byte 12 (DR w v) → Sd p l e room_1 s m #[.long w, .int v, .int x2, .int x3, .int x4] below meth c n0 T 1 12 → T.heap = h → Go p e below s n0 (fun r h' => r = some (.int 1)) room_1.cells room_1.slots (T.setTop (mkF m 171 #[.val (.long w), .second, .val (.int v), .val (.int x2), .val (.int x3), .val (.int x4), .val (.int (Int32.ofNat k)), .val (.int (Int32.ofNat d)), .val (.int ((1 : Int32))), .val (.ref a), .unset] [])) := by
    intro a T h ge A X eh
    refine g_aload K X 173 at_171 rfl rfl rfl ?_
    refine g_iload K X 175 at_173 rfl rfl ?_
    refine g_iload K X 177 at_175 rfl rfl ?_
    refine g_iload K X 179 at_177 rfl rfl ?_
    refine g_static K X eh rfl (met_sp1 l Z a0 hw a (DR w v) k d hk hd h n0 A ge) (hw _ (List.mem_of_getElem? (i := 6) rfl)) (hw _ (List.mem_of_getElem? (i := 7) rfl)) (hw _ (List.mem_of_getElem? (i := 9) rfl)) (hw _ (List.mem_of_getElem? (i := 8) rfl)) (by decide) [.ref a, .int (Int32.ofNat k), .int (Int32.ofNat d), .int ((1 : Int32))] rfl rfl (lenOf pd_2 rfl) 182 at_179 rfl 0 (Nat.le_of_eq rfl) (by decide) (by decide) (by decide) (by decide) fun T r h X eh hq => ?_
    clear A
    obtain ⟨rfl, A, Kp⟩ := hq
    refine g_istore K X 184 #[.val (.long w), .second, .val (.int v), .val (.int x2), .val (.int x3), .val (.int x4), .val (.int (Int32.ofNat k)), .val (.int (Int32.ofNat d)), .val (.int ((1 : Int32))), .val (.ref a), .val (.int (Int32.ofNat (k + 6)))] at_182 rfl rfl ?_
    refine g_iload K X 186 at_184 rfl rfl ?_
    refine g_iload K X 188 at_186 rfl rfl ?_
    refine g_bipush K X (6 : Int32) 190 at_188 rfl rfl ?_
    refine g_iadd K X 191 at_190 rfl ?_
    refine g_eqI (y := Int32.ofNat (k + 6)) (own_add k 6 rfl) ?_
    refine g_icmpT K X 196 at_191 rfl (show (Int32.ofNat (k + 6)) = (Int32.ofNat (k + 6)) from rfl) ?_
    exact taila1 a T h A X eh
  refine g_iloadN K X 1 at_0 rfl rfl ?_
  refine g_ldcI K X (hw _ (List.mem_of_getElem? (i := 0) rfl)) 3 at_1 rfl ?_
  refine g_iand K X 4 at_3 rfl ?_
  refine g_bipush K X (7 : Int32) 6 at_4 rfl rfl ?_
  refine g_irem K X 7 at_6 rfl (by decide) ?_
  refine g_eqI (y := Int32.ofNat k) (ek) ?_
  refine g_istore K X 9 #[.val (.long w), .second, .val (.int v), .val (.int x2), .val (.int x3), .val (.int x4), .val (.int (Int32.ofNat k)), .unset, .unset, .unset, .unset] at_7 rfl rfl ?_
  refine g_iload K X 11 at_9 rfl rfl ?_
  refine g_ldcI K X (hw _ (List.mem_of_getElem? (i := 0) rfl)) 13 at_11 rfl ?_
  refine g_iand K X 14 at_13 rfl ?_
  refine g_bipush K X (65 : Int32) 16 at_14 rfl rfl ?_
  refine g_irem K X 17 at_16 rfl (by decide) ?_
  refine g_eqI (y := Int32.ofNat d) (ed) ?_
  refine g_istore K X 19 #[.val (.long w), .second, .val (.int v), .val (.int x2), .val (.int x3), .val (.int x4), .val (.int (Int32.ofNat k)), .val (.int (Int32.ofNat d)), .unset, .unset, .unset] at_17 rfl rfl ?_
  refine g_iload K X 21 at_19 rfl rfl ?_
  refine g_iconst K X (1 : Int32) 22 at_21 rfl rfl ?_
  refine g_iand K X 23 at_22 rfl ?_
  refine g_if K X 30 26 at_23 rfl rfl (fun (hz : (x4 &&& ((1 : Int32))) = 0) => ?_) (fun (hz : ¬ ((x4 &&& ((1 : Int32))) = 0)) => ?_)
  · refine g_iconst K X (0 : Int32) 31 at_30 rfl rfl ?_
    refine g_istore K X 33 #[.val (.long w), .second, .val (.int v), .val (.int x2), .val (.int x3), .val (.int x4), .val (.int (Int32.ofNat k)), .val (.int (Int32.ofNat d)), .val (.int ((0 : Int32))), .unset, .unset] at_31 rfl rfl ?_
    refine g_bipush K X (12 : Int32) 35 at_33 rfl rfl ?_
    refine g_newA K X eh (hw _ (List.mem_of_getElem? (i := 1) rfl)) 37 at_35 rfl (n := 12) (cap := 12) rfl (by decide) (by decide) rfl (by decide) (by decide) fun T h1 a ga X eh E A _ => ?_
    have ge : n0 ≤ a := ga ▸ Z0
    refine g_astore K X 39 #[.val (.long w), .second, .val (.int v), .val (.int x2), .val (.int x3), .val (.int x4), .val (.int (Int32.ofNat k)), .val (.int (Int32.ofNat d)), .val (.int ((0 : Int32))), .val (.ref a), .unset] at_37 rfl rfl rfl ?_
    refine g_aload K X 41 at_39 rfl rfl rfl ?_
    refine g_iconst K X (0 : Int32) 42 at_41 rfl rfl ?_
    refine g_lloadN K X 43 at_42 rfl rfl ?_
    refine g_iloadN K X 44 at_43 rfl rfl ?_
    refine g_iconst K X (0 : Int32) 45 at_44 rfl rfl ?_
    refine g_static K X eh rfl (met_dr l Z a0 hw w v 0 (by decide) h1 n0) (hw _ (List.mem_of_getElem? (i := 2) rfl)) (hw _ (List.mem_of_getElem? (i := 3) rfl)) (hw _ (List.mem_of_getElem? (i := 5) rfl)) (hw _ (List.mem_of_getElem? (i := 4) rfl)) (by decide) [.long w, .int v, .int ((0 : Int32))] rfl rfl (lenOf pd_0 rfl) 48 at_45 rfl 2 (Nat.le_of_eq rfl) (by decide) (by decide) (by decide) (by decide) fun T r h' X eh hq => ?_
    obtain ⟨rfl, rfl⟩ := hq
    refine g_bastore K X eh A 0 rfl (by decide) (DR w v 0) (own_dr _ _ _) ge 49 at_48 rfl fun T h X eh W A => ?_
    refine g_aload K X 51 at_49 rfl rfl rfl ?_
    refine g_iconst K X (1 : Int32) 52 at_51 rfl rfl ?_
    refine g_lloadN K X 53 at_52 rfl rfl ?_
    refine g_iloadN K X 54 at_53 rfl rfl ?_
    refine g_iconst K X (1 : Int32) 55 at_54 rfl rfl ?_
    refine g_static K X eh rfl (met_dr l Z a0 hw w v 1 (by decide) h n0) (hw _ (List.mem_of_getElem? (i := 2) rfl)) (hw _ (List.mem_of_getElem? (i := 3) rfl)) (hw _ (List.mem_of_getElem? (i := 5) rfl)) (hw _ (List.mem_of_getElem? (i := 4) rfl)) (by decide) [.long w, .int v, .int ((1 : Int32))] rfl rfl (lenOf pd_0 rfl) 58 at_55 rfl 2 (Nat.le_of_eq rfl) (by decide) (by decide) (by decide) (by decide) fun T r h' X eh hq => ?_
    obtain ⟨rfl, rfl⟩ := hq
    refine g_bastore K X eh A 1 rfl (by decide) (DR w v 1) (own_dr _ _ _) ge 59 at_58 rfl fun T h X eh W A => ?_
    refine g_aload K X 61 at_59 rfl rfl rfl ?_
    refine g_iconst K X (2 : Int32) 62 at_61 rfl rfl ?_
    refine g_lloadN K X 63 at_62 rfl rfl ?_
    refine g_iloadN K X 64 at_63 rfl rfl ?_
    refine g_iconst K X (2 : Int32) 65 at_64 rfl rfl ?_
    refine g_static K X eh rfl (met_dr l Z a0 hw w v 2 (by decide) h n0) (hw _ (List.mem_of_getElem? (i := 2) rfl)) (hw _ (List.mem_of_getElem? (i := 3) rfl)) (hw _ (List.mem_of_getElem? (i := 5) rfl)) (hw _ (List.mem_of_getElem? (i := 4) rfl)) (by decide) [.long w, .int v, .int ((2 : Int32))] rfl rfl (lenOf pd_0 rfl) 68 at_65 rfl 2 (Nat.le_of_eq rfl) (by decide) (by decide) (by decide) (by decide) fun T r h' X eh hq => ?_
    obtain ⟨rfl, rfl⟩ := hq
    refine g_bastore K X eh A 2 rfl (by decide) (DR w v 2) (own_dr _ _ _) ge 69 at_68 rfl fun T h X eh W A => ?_
    refine g_aload K X 71 at_69 rfl rfl rfl ?_
    refine g_iconst K X (3 : Int32) 72 at_71 rfl rfl ?_
    refine g_lloadN K X 73 at_72 rfl rfl ?_
    refine g_iloadN K X 74 at_73 rfl rfl ?_
    refine g_iconst K X (3 : Int32) 75 at_74 rfl rfl ?_
    refine g_static K X eh rfl (met_dr l Z a0 hw w v 3 (by decide) h n0) (hw _ (List.mem_of_getElem? (i := 2) rfl)) (hw _ (List.mem_of_getElem? (i := 3) rfl)) (hw _ (List.mem_of_getElem? (i := 5) rfl)) (hw _ (List.mem_of_getElem? (i := 4) rfl)) (by decide) [.long w, .int v, .int ((3 : Int32))] rfl rfl (lenOf pd_0 rfl) 78 at_75 rfl 2 (Nat.le_of_eq rfl) (by decide) (by decide) (by decide) (by decide) fun T r h' X eh hq => ?_
    obtain ⟨rfl, rfl⟩ := hq
    refine g_bastore K X eh A 3 rfl (by decide) (DR w v 3) (own_dr _ _ _) ge 79 at_78 rfl fun T h X eh W A => ?_
    refine g_aload K X 81 at_79 rfl rfl rfl ?_
    refine g_iconst K X (4 : Int32) 82 at_81 rfl rfl ?_
    refine g_lloadN K X 83 at_82 rfl rfl ?_
    refine g_iloadN K X 84 at_83 rfl rfl ?_
    refine g_iconst K X (4 : Int32) 85 at_84 rfl rfl ?_
    refine g_static K X eh rfl (met_dr l Z a0 hw w v 4 (by decide) h n0) (hw _ (List.mem_of_getElem? (i := 2) rfl)) (hw _ (List.mem_of_getElem? (i := 3) rfl)) (hw _ (List.mem_of_getElem? (i := 5) rfl)) (hw _ (List.mem_of_getElem? (i := 4) rfl)) (by decide) [.long w, .int v, .int ((4 : Int32))] rfl rfl (lenOf pd_0 rfl) 88 at_85 rfl 2 (Nat.le_of_eq rfl) (by decide) (by decide) (by decide) (by decide) fun T r h' X eh hq => ?_
    obtain ⟨rfl, rfl⟩ := hq
    refine g_bastore K X eh A 4 rfl (by decide) (DR w v 4) (own_dr _ _ _) ge 89 at_88 rfl fun T h X eh W A => ?_
    refine g_aload K X 91 at_89 rfl rfl rfl ?_
    refine g_iconst K X (5 : Int32) 92 at_91 rfl rfl ?_
    refine g_lloadN K X 93 at_92 rfl rfl ?_
    refine g_iloadN K X 94 at_93 rfl rfl ?_
    refine g_iconst K X (5 : Int32) 95 at_94 rfl rfl ?_
    refine g_static K X eh rfl (met_dr l Z a0 hw w v 5 (by decide) h n0) (hw _ (List.mem_of_getElem? (i := 2) rfl)) (hw _ (List.mem_of_getElem? (i := 3) rfl)) (hw _ (List.mem_of_getElem? (i := 5) rfl)) (hw _ (List.mem_of_getElem? (i := 4) rfl)) (by decide) [.long w, .int v, .int ((5 : Int32))] rfl rfl (lenOf pd_0 rfl) 98 at_95 rfl 2 (Nat.le_of_eq rfl) (by decide) (by decide) (by decide) (by decide) fun T r h' X eh hq => ?_
    obtain ⟨rfl, rfl⟩ := hq
    refine g_bastore K X eh A 5 rfl (by decide) (DR w v 5) (own_dr _ _ _) ge 99 at_98 rfl fun T h X eh W A => ?_
    refine g_aload K X 101 at_99 rfl rfl rfl ?_
    refine g_bipush K X (6 : Int32) 103 at_101 rfl rfl ?_
    refine g_lloadN K X 104 at_103 rfl rfl ?_
    refine g_iloadN K X 105 at_104 rfl rfl ?_
    refine g_bipush K X (6 : Int32) 107 at_105 rfl rfl ?_
    refine g_static K X eh rfl (met_dr l Z a0 hw w v 6 (by decide) h n0) (hw _ (List.mem_of_getElem? (i := 2) rfl)) (hw _ (List.mem_of_getElem? (i := 3) rfl)) (hw _ (List.mem_of_getElem? (i := 5) rfl)) (hw _ (List.mem_of_getElem? (i := 4) rfl)) (by decide) [.long w, .int v, .int ((6 : Int32))] rfl rfl (lenOf pd_0 rfl) 110 at_107 rfl 2 (Nat.le_of_eq rfl) (by decide) (by decide) (by decide) (by decide) fun T r h' X eh hq => ?_
    obtain ⟨rfl, rfl⟩ := hq
    refine g_bastore K X eh A 6 rfl (by decide) (DR w v 6) (own_dr _ _ _) ge 111 at_110 rfl fun T h X eh W A => ?_
    refine g_aload K X 113 at_111 rfl rfl rfl ?_
    refine g_bipush K X (7 : Int32) 115 at_113 rfl rfl ?_
    refine g_lloadN K X 116 at_115 rfl rfl ?_
    refine g_iloadN K X 117 at_116 rfl rfl ?_
    refine g_bipush K X (7 : Int32) 119 at_117 rfl rfl ?_
    refine g_static K X eh rfl (met_dr l Z a0 hw w v 7 (by decide) h n0) (hw _ (List.mem_of_getElem? (i := 2) rfl)) (hw _ (List.mem_of_getElem? (i := 3) rfl)) (hw _ (List.mem_of_getElem? (i := 5) rfl)) (hw _ (List.mem_of_getElem? (i := 4) rfl)) (by decide) [.long w, .int v, .int ((7 : Int32))] rfl rfl (lenOf pd_0 rfl) 122 at_119 rfl 2 (Nat.le_of_eq rfl) (by decide) (by decide) (by decide) (by decide) fun T r h' X eh hq => ?_
    obtain ⟨rfl, rfl⟩ := hq
    refine g_bastore K X eh A 7 rfl (by decide) (DR w v 7) (own_dr _ _ _) ge 123 at_122 rfl fun T h X eh W A => ?_
    refine g_aload K X 125 at_123 rfl rfl rfl ?_
    refine g_bipush K X (8 : Int32) 127 at_125 rfl rfl ?_
    refine g_lloadN K X 128 at_127 rfl rfl ?_
    refine g_iloadN K X 129 at_128 rfl rfl ?_
    refine g_bipush K X (8 : Int32) 131 at_129 rfl rfl ?_
    refine g_static K X eh rfl (met_dr l Z a0 hw w v 8 (by decide) h n0) (hw _ (List.mem_of_getElem? (i := 2) rfl)) (hw _ (List.mem_of_getElem? (i := 3) rfl)) (hw _ (List.mem_of_getElem? (i := 5) rfl)) (hw _ (List.mem_of_getElem? (i := 4) rfl)) (by decide) [.long w, .int v, .int ((8 : Int32))] rfl rfl (lenOf pd_0 rfl) 134 at_131 rfl 2 (Nat.le_of_eq rfl) (by decide) (by decide) (by decide) (by decide) fun T r h' X eh hq => ?_
    obtain ⟨rfl, rfl⟩ := hq
    refine g_bastore K X eh A 8 rfl (by decide) (DR w v 8) (own_dr _ _ _) ge 135 at_134 rfl fun T h X eh W A => ?_
    refine g_aload K X 137 at_135 rfl rfl rfl ?_
    refine g_bipush K X (9 : Int32) 139 at_137 rfl rfl ?_
    refine g_lloadN K X 140 at_139 rfl rfl ?_
    refine g_iloadN K X 141 at_140 rfl rfl ?_
    refine g_bipush K X (9 : Int32) 143 at_141 rfl rfl ?_
    refine g_static K X eh rfl (met_dr l Z a0 hw w v 9 (by decide) h n0) (hw _ (List.mem_of_getElem? (i := 2) rfl)) (hw _ (List.mem_of_getElem? (i := 3) rfl)) (hw _ (List.mem_of_getElem? (i := 5) rfl)) (hw _ (List.mem_of_getElem? (i := 4) rfl)) (by decide) [.long w, .int v, .int ((9 : Int32))] rfl rfl (lenOf pd_0 rfl) 146 at_143 rfl 2 (Nat.le_of_eq rfl) (by decide) (by decide) (by decide) (by decide) fun T r h' X eh hq => ?_
    obtain ⟨rfl, rfl⟩ := hq
    refine g_bastore K X eh A 9 rfl (by decide) (DR w v 9) (own_dr _ _ _) ge 147 at_146 rfl fun T h X eh W A => ?_
    refine g_aload K X 149 at_147 rfl rfl rfl ?_
    refine g_bipush K X (10 : Int32) 151 at_149 rfl rfl ?_
    refine g_lloadN K X 152 at_151 rfl rfl ?_
    refine g_iloadN K X 153 at_152 rfl rfl ?_
    refine g_bipush K X (10 : Int32) 155 at_153 rfl rfl ?_
    refine g_static K X eh rfl (met_dr l Z a0 hw w v 10 (by decide) h n0) (hw _ (List.mem_of_getElem? (i := 2) rfl)) (hw _ (List.mem_of_getElem? (i := 3) rfl)) (hw _ (List.mem_of_getElem? (i := 5) rfl)) (hw _ (List.mem_of_getElem? (i := 4) rfl)) (by decide) [.long w, .int v, .int ((10 : Int32))] rfl rfl (lenOf pd_0 rfl) 158 at_155 rfl 2 (Nat.le_of_eq rfl) (by decide) (by decide) (by decide) (by decide) fun T r h' X eh hq => ?_
    obtain ⟨rfl, rfl⟩ := hq
    refine g_bastore K X eh A 10 rfl (by decide) (DR w v 10) (own_dr _ _ _) ge 159 at_158 rfl fun T h X eh W A => ?_
    refine g_aload K X 161 at_159 rfl rfl rfl ?_
    refine g_bipush K X (11 : Int32) 163 at_161 rfl rfl ?_
    refine g_lloadN K X 164 at_163 rfl rfl ?_
    refine g_iloadN K X 165 at_164 rfl rfl ?_
    refine g_bipush K X (11 : Int32) 167 at_165 rfl rfl ?_
    refine g_static K X eh rfl (met_dr l Z a0 hw w v 11 (by decide) h n0) (hw _ (List.mem_of_getElem? (i := 2) rfl)) (hw _ (List.mem_of_getElem? (i := 3) rfl)) (hw _ (List.mem_of_getElem? (i := 5) rfl)) (hw _ (List.mem_of_getElem? (i := 4) rfl)) (by decide) [.long w, .int v, .int ((11 : Int32))] rfl rfl (lenOf pd_0 rfl) 170 at_167 rfl 2 (Nat.le_of_eq rfl) (by decide) (by decide) (by decide) (by decide) fun T r h' X eh hq => ?_
    obtain ⟨rfl, rfl⟩ := hq
    refine g_bastore K X eh A 11 rfl (by decide) (DR w v 11) (own_dr _ _ _) ge 171 at_170 rfl fun T h X eh W A => ?_
    replace A : Ai Z h a .byte 12 (DR w v) := A.congr (own_fill (DR w v))
    exact mid0 a T h ge A X eh
  · refine g_iconst K X (1 : Int32) 27 at_26 rfl rfl ?_
    refine g_goto K X 31 at_27 rfl ?_
    refine g_istore K X 33 #[.val (.long w), .second, .val (.int v), .val (.int x2), .val (.int x3), .val (.int x4), .val (.int (Int32.ofNat k)), .val (.int (Int32.ofNat d)), .val (.int ((1 : Int32))), .unset, .unset] at_31 rfl rfl ?_
    refine g_bipush K X (12 : Int32) 35 at_33 rfl rfl ?_
    refine g_newA K X eh (hw _ (List.mem_of_getElem? (i := 1) rfl)) 37 at_35 rfl (n := 12) (cap := 12) rfl (by decide) (by decide) rfl (by decide) (by decide) fun T h1 a ga X eh E A _ => ?_
    have ge : n0 ≤ a := ga ▸ Z0
    refine g_astore K X 39 #[.val (.long w), .second, .val (.int v), .val (.int x2), .val (.int x3), .val (.int x4), .val (.int (Int32.ofNat k)), .val (.int (Int32.ofNat d)), .val (.int ((1 : Int32))), .val (.ref a), .unset] at_37 rfl rfl rfl ?_
    refine g_aload K X 41 at_39 rfl rfl rfl ?_
    refine g_iconst K X (0 : Int32) 42 at_41 rfl rfl ?_
    refine g_lloadN K X 43 at_42 rfl rfl ?_
    refine g_iloadN K X 44 at_43 rfl rfl ?_
    refine g_iconst K X (0 : Int32) 45 at_44 rfl rfl ?_
    refine g_static K X eh rfl (met_dr l Z a0 hw w v 0 (by decide) h1 n0) (hw _ (List.mem_of_getElem? (i := 2) rfl)) (hw _ (List.mem_of_getElem? (i := 3) rfl)) (hw _ (List.mem_of_getElem? (i := 5) rfl)) (hw _ (List.mem_of_getElem? (i := 4) rfl)) (by decide) [.long w, .int v, .int ((0 : Int32))] rfl rfl (lenOf pd_0 rfl) 48 at_45 rfl 2 (Nat.le_of_eq rfl) (by decide) (by decide) (by decide) (by decide) fun T r h' X eh hq => ?_
    obtain ⟨rfl, rfl⟩ := hq
    refine g_bastore K X eh A 0 rfl (by decide) (DR w v 0) (own_dr _ _ _) ge 49 at_48 rfl fun T h X eh W A => ?_
    refine g_aload K X 51 at_49 rfl rfl rfl ?_
    refine g_iconst K X (1 : Int32) 52 at_51 rfl rfl ?_
    refine g_lloadN K X 53 at_52 rfl rfl ?_
    refine g_iloadN K X 54 at_53 rfl rfl ?_
    refine g_iconst K X (1 : Int32) 55 at_54 rfl rfl ?_
    refine g_static K X eh rfl (met_dr l Z a0 hw w v 1 (by decide) h n0) (hw _ (List.mem_of_getElem? (i := 2) rfl)) (hw _ (List.mem_of_getElem? (i := 3) rfl)) (hw _ (List.mem_of_getElem? (i := 5) rfl)) (hw _ (List.mem_of_getElem? (i := 4) rfl)) (by decide) [.long w, .int v, .int ((1 : Int32))] rfl rfl (lenOf pd_0 rfl) 58 at_55 rfl 2 (Nat.le_of_eq rfl) (by decide) (by decide) (by decide) (by decide) fun T r h' X eh hq => ?_
    obtain ⟨rfl, rfl⟩ := hq
    refine g_bastore K X eh A 1 rfl (by decide) (DR w v 1) (own_dr _ _ _) ge 59 at_58 rfl fun T h X eh W A => ?_
    refine g_aload K X 61 at_59 rfl rfl rfl ?_
    refine g_iconst K X (2 : Int32) 62 at_61 rfl rfl ?_
    refine g_lloadN K X 63 at_62 rfl rfl ?_
    refine g_iloadN K X 64 at_63 rfl rfl ?_
    refine g_iconst K X (2 : Int32) 65 at_64 rfl rfl ?_
    refine g_static K X eh rfl (met_dr l Z a0 hw w v 2 (by decide) h n0) (hw _ (List.mem_of_getElem? (i := 2) rfl)) (hw _ (List.mem_of_getElem? (i := 3) rfl)) (hw _ (List.mem_of_getElem? (i := 5) rfl)) (hw _ (List.mem_of_getElem? (i := 4) rfl)) (by decide) [.long w, .int v, .int ((2 : Int32))] rfl rfl (lenOf pd_0 rfl) 68 at_65 rfl 2 (Nat.le_of_eq rfl) (by decide) (by decide) (by decide) (by decide) fun T r h' X eh hq => ?_
    obtain ⟨rfl, rfl⟩ := hq
    refine g_bastore K X eh A 2 rfl (by decide) (DR w v 2) (own_dr _ _ _) ge 69 at_68 rfl fun T h X eh W A => ?_
    refine g_aload K X 71 at_69 rfl rfl rfl ?_
    refine g_iconst K X (3 : Int32) 72 at_71 rfl rfl ?_
    refine g_lloadN K X 73 at_72 rfl rfl ?_
    refine g_iloadN K X 74 at_73 rfl rfl ?_
    refine g_iconst K X (3 : Int32) 75 at_74 rfl rfl ?_
    refine g_static K X eh rfl (met_dr l Z a0 hw w v 3 (by decide) h n0) (hw _ (List.mem_of_getElem? (i := 2) rfl)) (hw _ (List.mem_of_getElem? (i := 3) rfl)) (hw _ (List.mem_of_getElem? (i := 5) rfl)) (hw _ (List.mem_of_getElem? (i := 4) rfl)) (by decide) [.long w, .int v, .int ((3 : Int32))] rfl rfl (lenOf pd_0 rfl) 78 at_75 rfl 2 (Nat.le_of_eq rfl) (by decide) (by decide) (by decide) (by decide) fun T r h' X eh hq => ?_
    obtain ⟨rfl, rfl⟩ := hq
    refine g_bastore K X eh A 3 rfl (by decide) (DR w v 3) (own_dr _ _ _) ge 79 at_78 rfl fun T h X eh W A => ?_
    refine g_aload K X 81 at_79 rfl rfl rfl ?_
    refine g_iconst K X (4 : Int32) 82 at_81 rfl rfl ?_
    refine g_lloadN K X 83 at_82 rfl rfl ?_
    refine g_iloadN K X 84 at_83 rfl rfl ?_
    refine g_iconst K X (4 : Int32) 85 at_84 rfl rfl ?_
    refine g_static K X eh rfl (met_dr l Z a0 hw w v 4 (by decide) h n0) (hw _ (List.mem_of_getElem? (i := 2) rfl)) (hw _ (List.mem_of_getElem? (i := 3) rfl)) (hw _ (List.mem_of_getElem? (i := 5) rfl)) (hw _ (List.mem_of_getElem? (i := 4) rfl)) (by decide) [.long w, .int v, .int ((4 : Int32))] rfl rfl (lenOf pd_0 rfl) 88 at_85 rfl 2 (Nat.le_of_eq rfl) (by decide) (by decide) (by decide) (by decide) fun T r h' X eh hq => ?_
    obtain ⟨rfl, rfl⟩ := hq
    refine g_bastore K X eh A 4 rfl (by decide) (DR w v 4) (own_dr _ _ _) ge 89 at_88 rfl fun T h X eh W A => ?_
    refine g_aload K X 91 at_89 rfl rfl rfl ?_
    refine g_iconst K X (5 : Int32) 92 at_91 rfl rfl ?_
    refine g_lloadN K X 93 at_92 rfl rfl ?_
    refine g_iloadN K X 94 at_93 rfl rfl ?_
    refine g_iconst K X (5 : Int32) 95 at_94 rfl rfl ?_
    refine g_static K X eh rfl (met_dr l Z a0 hw w v 5 (by decide) h n0) (hw _ (List.mem_of_getElem? (i := 2) rfl)) (hw _ (List.mem_of_getElem? (i := 3) rfl)) (hw _ (List.mem_of_getElem? (i := 5) rfl)) (hw _ (List.mem_of_getElem? (i := 4) rfl)) (by decide) [.long w, .int v, .int ((5 : Int32))] rfl rfl (lenOf pd_0 rfl) 98 at_95 rfl 2 (Nat.le_of_eq rfl) (by decide) (by decide) (by decide) (by decide) fun T r h' X eh hq => ?_
    obtain ⟨rfl, rfl⟩ := hq
    refine g_bastore K X eh A 5 rfl (by decide) (DR w v 5) (own_dr _ _ _) ge 99 at_98 rfl fun T h X eh W A => ?_
    refine g_aload K X 101 at_99 rfl rfl rfl ?_
    refine g_bipush K X (6 : Int32) 103 at_101 rfl rfl ?_
    refine g_lloadN K X 104 at_103 rfl rfl ?_
    refine g_iloadN K X 105 at_104 rfl rfl ?_
    refine g_bipush K X (6 : Int32) 107 at_105 rfl rfl ?_
    refine g_static K X eh rfl (met_dr l Z a0 hw w v 6 (by decide) h n0) (hw _ (List.mem_of_getElem? (i := 2) rfl)) (hw _ (List.mem_of_getElem? (i := 3) rfl)) (hw _ (List.mem_of_getElem? (i := 5) rfl)) (hw _ (List.mem_of_getElem? (i := 4) rfl)) (by decide) [.long w, .int v, .int ((6 : Int32))] rfl rfl (lenOf pd_0 rfl) 110 at_107 rfl 2 (Nat.le_of_eq rfl) (by decide) (by decide) (by decide) (by decide) fun T r h' X eh hq => ?_
    obtain ⟨rfl, rfl⟩ := hq
    refine g_bastore K X eh A 6 rfl (by decide) (DR w v 6) (own_dr _ _ _) ge 111 at_110 rfl fun T h X eh W A => ?_
    refine g_aload K X 113 at_111 rfl rfl rfl ?_
    refine g_bipush K X (7 : Int32) 115 at_113 rfl rfl ?_
    refine g_lloadN K X 116 at_115 rfl rfl ?_
    refine g_iloadN K X 117 at_116 rfl rfl ?_
    refine g_bipush K X (7 : Int32) 119 at_117 rfl rfl ?_
    refine g_static K X eh rfl (met_dr l Z a0 hw w v 7 (by decide) h n0) (hw _ (List.mem_of_getElem? (i := 2) rfl)) (hw _ (List.mem_of_getElem? (i := 3) rfl)) (hw _ (List.mem_of_getElem? (i := 5) rfl)) (hw _ (List.mem_of_getElem? (i := 4) rfl)) (by decide) [.long w, .int v, .int ((7 : Int32))] rfl rfl (lenOf pd_0 rfl) 122 at_119 rfl 2 (Nat.le_of_eq rfl) (by decide) (by decide) (by decide) (by decide) fun T r h' X eh hq => ?_
    obtain ⟨rfl, rfl⟩ := hq
    refine g_bastore K X eh A 7 rfl (by decide) (DR w v 7) (own_dr _ _ _) ge 123 at_122 rfl fun T h X eh W A => ?_
    refine g_aload K X 125 at_123 rfl rfl rfl ?_
    refine g_bipush K X (8 : Int32) 127 at_125 rfl rfl ?_
    refine g_lloadN K X 128 at_127 rfl rfl ?_
    refine g_iloadN K X 129 at_128 rfl rfl ?_
    refine g_bipush K X (8 : Int32) 131 at_129 rfl rfl ?_
    refine g_static K X eh rfl (met_dr l Z a0 hw w v 8 (by decide) h n0) (hw _ (List.mem_of_getElem? (i := 2) rfl)) (hw _ (List.mem_of_getElem? (i := 3) rfl)) (hw _ (List.mem_of_getElem? (i := 5) rfl)) (hw _ (List.mem_of_getElem? (i := 4) rfl)) (by decide) [.long w, .int v, .int ((8 : Int32))] rfl rfl (lenOf pd_0 rfl) 134 at_131 rfl 2 (Nat.le_of_eq rfl) (by decide) (by decide) (by decide) (by decide) fun T r h' X eh hq => ?_
    obtain ⟨rfl, rfl⟩ := hq
    refine g_bastore K X eh A 8 rfl (by decide) (DR w v 8) (own_dr _ _ _) ge 135 at_134 rfl fun T h X eh W A => ?_
    refine g_aload K X 137 at_135 rfl rfl rfl ?_
    refine g_bipush K X (9 : Int32) 139 at_137 rfl rfl ?_
    refine g_lloadN K X 140 at_139 rfl rfl ?_
    refine g_iloadN K X 141 at_140 rfl rfl ?_
    refine g_bipush K X (9 : Int32) 143 at_141 rfl rfl ?_
    refine g_static K X eh rfl (met_dr l Z a0 hw w v 9 (by decide) h n0) (hw _ (List.mem_of_getElem? (i := 2) rfl)) (hw _ (List.mem_of_getElem? (i := 3) rfl)) (hw _ (List.mem_of_getElem? (i := 5) rfl)) (hw _ (List.mem_of_getElem? (i := 4) rfl)) (by decide) [.long w, .int v, .int ((9 : Int32))] rfl rfl (lenOf pd_0 rfl) 146 at_143 rfl 2 (Nat.le_of_eq rfl) (by decide) (by decide) (by decide) (by decide) fun T r h' X eh hq => ?_
    obtain ⟨rfl, rfl⟩ := hq
    refine g_bastore K X eh A 9 rfl (by decide) (DR w v 9) (own_dr _ _ _) ge 147 at_146 rfl fun T h X eh W A => ?_
    refine g_aload K X 149 at_147 rfl rfl rfl ?_
    refine g_bipush K X (10 : Int32) 151 at_149 rfl rfl ?_
    refine g_lloadN K X 152 at_151 rfl rfl ?_
    refine g_iloadN K X 153 at_152 rfl rfl ?_
    refine g_bipush K X (10 : Int32) 155 at_153 rfl rfl ?_
    refine g_static K X eh rfl (met_dr l Z a0 hw w v 10 (by decide) h n0) (hw _ (List.mem_of_getElem? (i := 2) rfl)) (hw _ (List.mem_of_getElem? (i := 3) rfl)) (hw _ (List.mem_of_getElem? (i := 5) rfl)) (hw _ (List.mem_of_getElem? (i := 4) rfl)) (by decide) [.long w, .int v, .int ((10 : Int32))] rfl rfl (lenOf pd_0 rfl) 158 at_155 rfl 2 (Nat.le_of_eq rfl) (by decide) (by decide) (by decide) (by decide) fun T r h' X eh hq => ?_
    obtain ⟨rfl, rfl⟩ := hq
    refine g_bastore K X eh A 10 rfl (by decide) (DR w v 10) (own_dr _ _ _) ge 159 at_158 rfl fun T h X eh W A => ?_
    refine g_aload K X 161 at_159 rfl rfl rfl ?_
    refine g_bipush K X (11 : Int32) 163 at_161 rfl rfl ?_
    refine g_lloadN K X 164 at_163 rfl rfl ?_
    refine g_iloadN K X 165 at_164 rfl rfl ?_
    refine g_bipush K X (11 : Int32) 167 at_165 rfl rfl ?_
    refine g_static K X eh rfl (met_dr l Z a0 hw w v 11 (by decide) h n0) (hw _ (List.mem_of_getElem? (i := 2) rfl)) (hw _ (List.mem_of_getElem? (i := 3) rfl)) (hw _ (List.mem_of_getElem? (i := 5) rfl)) (hw _ (List.mem_of_getElem? (i := 4) rfl)) (by decide) [.long w, .int v, .int ((11 : Int32))] rfl rfl (lenOf pd_0 rfl) 170 at_167 rfl 2 (Nat.le_of_eq rfl) (by decide) (by decide) (by decide) (by decide) fun T r h' X eh hq => ?_
    obtain ⟨rfl, rfl⟩ := hq
    refine g_bastore K X eh A 11 rfl (by decide) (DR w v 11) (own_dr _ _ _) ge 171 at_170 rfl fun T h X eh W A => ?_
    replace A : Ai Z h a .byte 12 (DR w v) := A.congr (own_fill (DR w v))
    exact mid1 a T h ge A X eh
set_option maxRecDepth 65536 in
set_option maxHeartbeats 40000000 in
theorem comes_1 {Post : Tables → Env → Array Value → State → Outcome → State → Prop} (hpost : ∀ tb e args s v u, (limb_1_1.after args s (.returned v) u = true ∧ limb_1_2.after args s (.returned v) u = true ∧ True) → FrameEnd s (.returned v) u (Jvm.fieldLocs frame_1_writes args s ++ Jvm.arrayLocs frame_1_arrays args s ++ Jvm.staticLocs frame_1_statics s) 16 128 → Post tb e args s (.returned v) u) :
    ArmFor flags0 classFile x code maxLocals ret World_1 tables_1 room_1 Calls_1 rest_1 Pre_1 Post := by
  intro l hfl _ _ p e ha hc hk s m args below hf hA hF happ hP
  obtain ⟨hcalls, hrest, hpre⟩ := hP
  obtain ⟨-, -, -, hnamed, -, -, -, hat⟩ := (Spec.applies_iff hf).mp happ
  obtain ⟨hg, hn⟩ := and_e (Cond.before_iff.mp (show (Jvm.Cond.and given_1 narrow_1).before args s = true from hpre))
  obtain ⟨h1, h2⟩ := and_e hg
  obtain ⟨w0, w1, w2, w3, w4, rfl⟩ : ∃ w0 w1 w2 w3 w4 : Value, args = #[w0, w1, w2, w3, w4] := by
    have hs : args.size = 5 := by simpa [Cond.value, given_1] using h1
    obtain ⟨L⟩ := args
    match L, hs with
    | [w0, w1, w2, w3, w4], _ => exact ⟨w0, w1, w2, w3, w4, rfl⟩
  have hw := fun d (hd : d ∈ tables_1) => atoms_spec (ws := Jvm.Cond.code x code maxLocals ret :: tables_1) hat d (List.mem_cons_of_mem _ hd)
  obtain ⟨g0, r0⟩ := and_e h2
  obtain ⟨i0, e0⟩ := isL_v g0
  obtain rfl : w0 = (.long i0) := Option.some.inj e0
  obtain ⟨g1, r1⟩ := and_e r0
  obtain ⟨i1, e1⟩ := is_v g1
  obtain rfl : w1 = (.int i1) := Option.some.inj e1
  obtain ⟨g2, r2⟩ := and_e r1
  obtain ⟨i2, e2⟩ := is_v g2
  obtain rfl : w2 = (.int i2) := Option.some.inj e2
  obtain ⟨g3, r3⟩ := and_e r2
  obtain ⟨i3, e3⟩ := is_v g3
  obtain rfl : w3 = (.int i3) := Option.some.inj e3
  obtain ⟨i4, e4⟩ := is_v r3
  obtain rfl : w4 = (.int i4) := Option.some.inj e4
  obtain ⟨n, o, h1, h2, h3, _, L, rfl, ⟨rfl, N⟩, hq⟩ := met_law l s _ hw i0 i1 i2 i3 i4 s.heap s.heap.size (Nat.le_refl _) p e ha hc hk s m _ below hf ((Spec.applies_iff_loose hf).mp happ).1 ⟨rfl, State.Warmed39.refl s, rfl⟩ trivial
  refine ⟨n, _, h1, h2, h3, hpost _ _ _ _ _ _ ⟨Cond.after_iff.mpr rfl, Cond.after_iff.mpr (eq_i res_at (Term.int_eval (1)) rfl), trivial⟩ ⟨hq.1, hq.2.1, (hq.2.2.sift fun y hy => Or.inr (N y hy)).mono (by decide) (by decide)⟩⟩
theorem main_1_1 : Claimed_1_1 := comes_1 fun _ _ _ _ _ _ h hF => ⟨h.1, hF⟩
theorem main_1_2 : Claimed_1_2 := comes_1 fun _ _ _ _ _ _ h hF => ⟨h.2.1, hF⟩
end Jvm.Pilot.@@N@@
namespace Jvm.Pilot.@@N@@
open Jvm Jvm.ClassFile Sem Op Lib Jvm.Free Jvm.Stand Jvm.Pilot.@@N@@.Jvm.D
/-! MADE BY PROGRAM (witnessworld.py) out of the Statement's table words and the real class files: 9 classes; the members and pool entries that the words name. The judged class is class 1, her method 1. -/
namespace start1
open Jvm.ClassFile
def u (s : String) : CpInfo := .utf8 (stringToUtf16 s)
/-- a pool by its gaps: so many unusable entries, then the entry; so many at the end -/
def gap : Nat → List CpInfo → List CpInfo
  | 0, r => r
  | n + 1, r => .unusable :: gap n r
def poolList (es : List (Nat × CpInfo)) (last : Nat) : List CpInfo := es.foldr (fun e r => gap e.1 (e.2 :: r)) (gap last [])
def pool (es : List (Nat × CpInfo)) (last : Nat) : Array CpInfo := ⟨poolList es last⟩
def fileOf (pool : Array CpInfo) (this : Nat) (attrs : Array Attribute := #[]) (ms : Array MethodInfo := #[]) (fl : Nat := 33) (sup : Nat := 0) (ifs : Array Nat := #[]) (fds : Array FieldInfo := #[]) : ClassFile where
  minorVersion := 0
  majorVersion := 65
  constantPool := pool
  accessFlags := fl
  thisClass := this
  superClass := sup
  interfaces := ifs
  fields := fds
  methods := ms
  attributes := attrs
def plain (name : String) (sup : Option ClassId) : Class where
  name := name
  kind := .ordinary
  loader := none
  accessFlags := 33
  super := sup
  interfaces := #[]
  cf := none
  fields := #[]
  methods := #[]
  instanceTypes := #[]
  staticTypes := #[]
  resolved := #[]
  callSites := []
  init := .initialized
  statics := none
  mirror := none

def pool0 : Array CpInfo := pool [(5, u "<init>"), (0, u "()V"), (1, .class_ 10), (1, u "java/lang/Object")] 113

def k0m0 : Method := { name := "<init>", desc := "()V", sig := { parameters := [], returnType := none }, accessFlags := 1, code := none }
/-- java/lang/Object -/
def k0 : Class := { plain "java/lang/Object" none with
  accessFlags := 33
  interfaces := #[]
  cf := some (fileOf pool0 8 #[] #[{ accessFlags := 1, nameIndex := 5, descriptorIndex := 6, attributes := #[] }] 33 0 #[] #[])
  fields := #[]
  methods := #[k0m0]
  instanceTypes := #[]
  staticTypes := #[]
  resolved := Array.replicate 124 none
  statics := none }

def pool1 : Array CpInfo := pool [(2, .class_ 4), (1, u "java/lang/Object"), (0, u "<init>"), (0, u "()V"), (0, .integer 2147483647), (0, .methodref 9 10), (0, .class_ 11), (0, .nameAndType 12 13), (0, u "com/example/bucketfold/bucketfold/BucketStartPagePinLaw"), (0, u "drawn"), (0, u "(JII)B"), (0, .methodref 15 16), (0, .class_ 17), (0, .nameAndType 18 19), (0, u "com/example/bucketfold/bucketfold/Bucket"), (0, u "startPage"), (0, u "([BIIZ)I"), (0, .methodref 9 21), (0, .nameAndType 22 23), (0, u "ok"), (0, u "([BJIIIIZ)Z"), (2, u "law"), (0, u "(JIIII)Z")] 5

def k1m0 : Method := { name := "<init>", desc := "()V", sig := { parameters := [], returnType := none }, accessFlags := 1, code := none }
def k1c1 : Code := { maxStack := 8, maxLocals := 11, code := code, exceptionTable := #[], attributes := #[] }
def k1m1 : Method := { name := "law", desc := "(JIIII)Z", sig := { parameters := [.long, .int, .int, .int, .int], returnType := some .boolean }, accessFlags := 9, code := some k1c1 }
def k1c2 : Code := { maxStack := 4, maxLocals := 4, code := method_3_code, exceptionTable := #[], attributes := #[] }
def k1m2 : Method := { name := "drawn", desc := "(JII)B", sig := { parameters := [.long, .int, .int], returnType := some .byte }, accessFlags := 10, code := some k1c2 }
def k1c3 : Code := { maxStack := 5, maxLocals := 9, code := method_4_code, exceptionTable := #[], attributes := #[] }
def k1m3 : Method := { name := "ok", desc := "([BJIIIIZ)Z", sig := { parameters := [(.array .byte), .long, .int, .int, .int, .int, .boolean], returnType := some .boolean }, accessFlags := 10, code := some k1c3 }
/-- com/example/bucketfold/bucketfold/BucketStartPagePinLaw -/
def k1 : Class := { plain "com/example/bucketfold/bucketfold/BucketStartPagePinLaw" (some 0) with
  accessFlags := 49
  interfaces := #[]
  cf := some (fileOf pool1 9 #[] #[{ accessFlags := 1, nameIndex := 5, descriptorIndex := 6, attributes := #[] }, { accessFlags := 9, nameIndex := 26, descriptorIndex := 27, attributes := #[] }, { accessFlags := 10, nameIndex := 12, descriptorIndex := 13, attributes := #[] }, { accessFlags := 10, nameIndex := 22, descriptorIndex := 23, attributes := #[] }] 49 2 #[] #[])
  fields := #[]
  methods := #[k1m0, k1m1, k1m2, k1m3]
  instanceTypes := #[]
  staticTypes := #[]
  resolved := Array.replicate 33 none
  statics := none }

def pool2 : Array CpInfo := pool [(4, .class_ 6), (1, u "java/lang/Object"), (2, .class_ 10), (0, u "com/example/bucketfold/bucketfold/Bucket"), (2, u "end"), (0, u "I"), (2, u "page"), (2, u "content"), (0, u "Ljava/nio/ByteBuffer;"), (8, u "bytes"), (0, u "[B"), (2, u "limit"), (5, u "position"), (37, u "forChange"), (0, u "Z"), (83, u "count"), (13, u "keyAt"), (3, u "keyLength"), (10, u "valueAt"), (5, u "valueLength"), (60, u "startPage"), (0, u "([BIIZ)I"), (5, .class_ 268), (1, u "com/example/bucketfold/bucketfold/Bucket$RecordRun"), (58, u "waitsInMemory"), (12, .class_ 341), (0, u "com/example/bucketfold/bucketfold/Bucket$Value"), (18, u "starts"), (0, u "[I"), (4, .class_ 367), (0, u "com/example/bucketfold/bucketfold/Bucket$Stored"), (60, u "recordAt"), (64, u "PAGE_TYPE"), (0, u "B"), (2, u "OVERFLOW_PAGE_TYPE"), (1, u "ABSENT"), (0, u "J"), (0, u "NOT_KEPT"), (0, u "MISSING"), (0, u "LOCAL_DEPTH_AT"), (1, u "UNORDERED"), (1, u "DEPTH_BITS"), (1, u "NEXT_AT"), (0, u "RECORDS_AT"), (1, u "RUNS_PAST"), (1, u "INDEX_MULTIPLIER"), (68, .class_ 584), (0, u "com/example/bucketfold/bucketfold/Bucket$Record")] 57

def k2c0 : Code := { maxStack := 4, maxLocals := 5, code := prog_4_method_34_code, exceptionTable := #[], attributes := #[] }
def k2m0 : Method := { name := "startPage", desc := "([BIIZ)I", sig := { parameters := [(.array .byte), .int, .int, .boolean], returnType := some .int }, accessFlags := 8, code := some k2c0 }
/-- com/example/bucketfold/bucketfold/Bucket -/
def k2 : Class := { plain "com/example/bucketfold/bucketfold/Bucket" (some 0) with
  accessFlags := 48
  interfaces := #[]
  cf := some (fileOf pool2 9 #[.nestMembers #[366, 340, 583, 266]] #[{ accessFlags := 8, nameIndex := 259, descriptorIndex := 260, attributes := #[] }] 48 4 #[] #[{ accessFlags := 24, nameIndex := 493, descriptorIndex := 494, attributes := #[] }, { accessFlags := 24, nameIndex := 497, descriptorIndex := 494, attributes := #[] }, { accessFlags := 24, nameIndex := 499, descriptorIndex := 500, attributes := #[] }, { accessFlags := 24, nameIndex := 501, descriptorIndex := 500, attributes := #[] }, { accessFlags := 26, nameIndex := 502, descriptorIndex := 500, attributes := #[] }, { accessFlags := 26, nameIndex := 503, descriptorIndex := 14, attributes := #[] }, { accessFlags := 26, nameIndex := 505, descriptorIndex := 14, attributes := #[] }, { accessFlags := 26, nameIndex := 507, descriptorIndex := 14, attributes := #[] }, { accessFlags := 26, nameIndex := 509, descriptorIndex := 14, attributes := #[] }, { accessFlags := 26, nameIndex := 510, descriptorIndex := 14, attributes := #[] }, { accessFlags := 26, nameIndex := 512, descriptorIndex := 14, attributes := #[] }, { accessFlags := 26, nameIndex := 514, descriptorIndex := 500, attributes := #[] }, { accessFlags := 18, nameIndex := 17, descriptorIndex := 14, attributes := #[] }, { accessFlags := 18, nameIndex := 20, descriptorIndex := 21, attributes := #[] }, { accessFlags := 18, nameIndex := 30, descriptorIndex := 31, attributes := #[] }, { accessFlags := 18, nameIndex := 34, descriptorIndex := 14, attributes := #[] }, { accessFlags := 18, nameIndex := 40, descriptorIndex := 14, attributes := #[] }, { accessFlags := 2, nameIndex := 13, descriptorIndex := 14, attributes := #[] }, { accessFlags := 2, nameIndex := 163, descriptorIndex := 14, attributes := #[] }, { accessFlags := 2, nameIndex := 78, descriptorIndex := 79, attributes := #[] }, { accessFlags := 2, nameIndex := 360, descriptorIndex := 361, attributes := #[] }, { accessFlags := 2, nameIndex := 327, descriptorIndex := 79, attributes := #[] }, { accessFlags := 2, nameIndex := 428, descriptorIndex := 14, attributes := #[] }, { accessFlags := 2, nameIndex := 177, descriptorIndex := 14, attributes := #[] }, { accessFlags := 2, nameIndex := 181, descriptorIndex := 14, attributes := #[] }, { accessFlags := 2, nameIndex := 192, descriptorIndex := 14, attributes := #[] }, { accessFlags := 2, nameIndex := 198, descriptorIndex := 14, attributes := #[] }])
  fields := #[{ name := "PAGE_TYPE", type := .byte, accessFlags := 24, slot := 0, constantValue := 0 }, { name := "OVERFLOW_PAGE_TYPE", type := .byte, accessFlags := 24, slot := 1, constantValue := 0 }, { name := "ABSENT", type := .long, accessFlags := 24, slot := 2, constantValue := 0 }, { name := "NOT_KEPT", type := .long, accessFlags := 24, slot := 3, constantValue := 0 }, { name := "MISSING", type := .long, accessFlags := 26, slot := 4, constantValue := 0 }, { name := "LOCAL_DEPTH_AT", type := .int, accessFlags := 26, slot := 5, constantValue := 0 }, { name := "UNORDERED", type := .int, accessFlags := 26, slot := 6, constantValue := 0 }, { name := "DEPTH_BITS", type := .int, accessFlags := 26, slot := 7, constantValue := 0 }, { name := "NEXT_AT", type := .int, accessFlags := 26, slot := 8, constantValue := 0 }, { name := "RECORDS_AT", type := .int, accessFlags := 26, slot := 9, constantValue := 0 }, { name := "RUNS_PAST", type := .int, accessFlags := 26, slot := 10, constantValue := 0 }, { name := "INDEX_MULTIPLIER", type := .long, accessFlags := 26, slot := 11, constantValue := 0 }, { name := "page", type := .int, accessFlags := 18, slot := 0, constantValue := 0 }, { name := "content", type := (.object "java/nio/ByteBuffer"), accessFlags := 18, slot := 1, constantValue := 0 }, { name := "bytes", type := (.array .byte), accessFlags := 18, slot := 2, constantValue := 0 }, { name := "limit", type := .int, accessFlags := 18, slot := 3, constantValue := 0 }, { name := "position", type := .int, accessFlags := 18, slot := 4, constantValue := 0 }, { name := "end", type := .int, accessFlags := 2, slot := 5, constantValue := 0 }, { name := "count", type := .int, accessFlags := 2, slot := 6, constantValue := 0 }, { name := "forChange", type := .boolean, accessFlags := 2, slot := 7, constantValue := 0 }, { name := "starts", type := (.array .int), accessFlags := 2, slot := 8, constantValue := 0 }, { name := "waitsInMemory", type := .boolean, accessFlags := 2, slot := 9, constantValue := 0 }, { name := "recordAt", type := .int, accessFlags := 2, slot := 10, constantValue := 0 }, { name := "keyAt", type := .int, accessFlags := 2, slot := 11, constantValue := 0 }, { name := "keyLength", type := .int, accessFlags := 2, slot := 12, constantValue := 0 }, { name := "valueAt", type := .int, accessFlags := 2, slot := 13, constantValue := 0 }, { name := "valueLength", type := .int, accessFlags := 2, slot := 14, constantValue := 0 }]
  methods := #[k2m0]
  instanceTypes := #[.int, (.object "java/nio/ByteBuffer"), (.array .byte), .int, .int, .int, .int, .boolean, (.array .int), .boolean, .int, .int, .int, .int, .int]
  staticTypes := #[.byte, .byte, .long, .long, .long, .int, .int, .int, .int, .int, .int, .long]
  resolved := Array.replicate 642 none
  statics := none }

def pool3 : Array CpInfo := pool [(1, u "java/lang/Cloneable"), (0, .class_ 1), (0, u "java/lang/Object"), (0, .class_ 3)] 3

/-- java/lang/Cloneable -/
def k3 : Class := { plain "java/lang/Cloneable" (some 0) with
  accessFlags := 1537
  interfaces := #[]
  cf := some (fileOf pool3 2 #[] #[] 1537 4 #[] #[])
  fields := #[]
  methods := #[]
  instanceTypes := #[]
  staticTypes := #[]
  resolved := Array.replicate 8 none
  statics := none }

def pool4 : Array CpInfo := pool [(1, u "java/io/Serializable"), (0, .class_ 1), (0, u "java/lang/Object"), (0, .class_ 3)] 3

/-- java/io/Serializable -/
def k4 : Class := { plain "java/io/Serializable" (some 0) with
  accessFlags := 1537
  interfaces := #[]
  cf := some (fileOf pool4 2 #[] #[] 1537 4 #[] #[])
  fields := #[]
  methods := #[]
  instanceTypes := #[]
  staticTypes := #[]
  resolved := Array.replicate 8 none
  statics := none }

/-- the primitive byte -/
def k5 : Class := { plain "byte" none with kind := .primitive 'B', accessFlags := 0x411 }
/-- [B -/
def k6 : Class := { plain "[B" (some 0) with kind := .array 5 .byte, interfaces := #[3, 4], accessFlags := 1041 }

/-- the primitive int -/
def k7 : Class := { plain "int" none with kind := .primitive 'I', accessFlags := 0x411 }
/-- [I -/
def k8 : Class := { plain "[I" (some 0) with kind := .array 7 .int, interfaces := #[3, 4], accessFlags := 1041 }

def heap : Heap := #[]
def classes : Array Class := #[k0, k1, k2, k3, k4, k5, k6, k7, k8]
def interned : List (Array UInt16 × Addr) := []
def slotsUsed : Nat := 0
def theMethod : MethodId := ⟨1, 1⟩
def args0 : Array Value := #[.long 5, .int 2, .int 5, .int 6, .int 7]
def aboutOver (below : List Frame) : State where
  vm := { classes := classes, interned := interned.toArray }
  heap := heap
  slotsUsed := slotsUsed
  threads := #[{ frames := .invoking theMethod args0 :: below }]
def below0 : List Frame := [.native { method := ⟨0, 0⟩, args := #[] }]
def about1 : State := aboutOver below0
def p0 : Program := .bare "" "" ""
def e0 : Env := launch0.env 0 0 0
theorem w_frames : about1.frames = Frame.invoking theMethod args0 :: below0 := rfl
set_option maxRecDepth 65536 in
theorem w_args : argsFit about1.vm theMethod args0 = true := by decide +kernel
set_option maxRecDepth 65536 in
theorem w_heap : heapFits about1 = true := by decide +kernel
set_option maxRecDepth 65536 in
theorem w_runnable : about1.curStatus? = some .runnable := by decide +kernel
set_option maxRecDepth 65536 in
theorem w_alone : about1.alone = true := by decide +kernel
set_option maxRecDepth 65536 in
theorem w_named : about1.methodNamed? x = some theMethod := by decide +kernel
set_option maxRecDepth 65536 in
theorem w_hears : about1.hears theMethod below0 = true := by decide +kernel
set_option maxRecDepth 65536 in
theorem w_ripe : about1.ripe theMethod args0 below0 = true := by decide +kernel
theorem w_running : about1.status = .running := rfl
set_option maxRecDepth 65536 in
theorem w_room : about1.hasRoom e0.platform room_1 = true :=
  launch0.hasRoom_least _ room_1 (by decide +kernel) (by decide +kernel) (by decide +kernel) (by decide +kernel) (by decide +kernel) (by decide +kernel)
theorem allAtoms_all (ts : List Jvm.Cond) (a : Array Jvm.Value) (st : Jvm.State) : (allAtoms ts).before a st = ts.all (fun c => c.before a st) := by
  induction ts with
  | nil => rfl
  | cons c t ih =>
    show (Jvm.Cond.and c (allAtoms t)).before a st = _
    rw [Jvm.Cond.before_and, ih, List.all_cons]
def words1 : List Jvm.Cond := Jvm.Cond.code x code maxLocals ret :: tables_1
/-- a 'code' word, met by the world's own term for the bytes: nothing is compared byte by byte -/
theorem code_word {y : MethodName} {bytes : ByteArray} {mx : Nat} {rt : Option FieldType} {a : Array Value} {s : State} {m : MethodId} {meth : Method} {c : Code} (h1 : s.methodNamed? y = some m) (h2 : s.vm.method? m = some meth) (h3 : meth.code = some c) (h4 : c.code = bytes)
    (h5 : (c.maxLocals == mx && c.exceptionTable.isEmpty && decide (c.maxStack ≤ mostOperands) && decide (meth.sig.returnType = rt) && !meth.locks && decide (parseMethodDescriptor y.desc = some meth.sig)) = true) : (Jvm.Cond.code y bytes mx rt).before a s = true := by
  simp only [Bool.and_eq_true, beq_iff_eq, Bool.not_eq_true', decide_eq_true_eq] at h5
  obtain ⟨⟨⟨⟨⟨g1, g2⟩, g3⟩, g4⟩, g5⟩, g6⟩ := h5
  simp [Cond.before, Cond.holds, Cond.value, h1, h2, h3, h4, g1, g2, g3, g4, g5, g6]
def isCode : Jvm.Cond → Bool
  | .code _ _ _ _ => true
  | _ => false
theorem all_split {L : List Jvm.Cond} {P : Jvm.Cond → Bool} (h1 : L.all (fun c => isCode c || P c) = true) (h2 : ∀ c ∈ L.filter isCode, P c = true) : L.all P = true := by
  refine List.all_eq_true.mpr fun c hc => ?_
  have h := List.all_eq_true.mp h1 c hc
  rcases Bool.eq_false_or_eq_true (isCode c) with hi | hi
  · exact h2 c (List.mem_filter.mpr ⟨hc, hi⟩)
  · simpa [hi] using h
set_option maxRecDepth 65536 in
theorem w_c0 : (Jvm.Cond.code x code maxLocals ret).before args0 about1 = true := code_word (m := ⟨1, 1⟩) (meth := k1m1) (c := k1c1) (by decide +kernel) rfl rfl rfl (by decide +kernel)
set_option maxRecDepth 65536 in
theorem w_c1 : (Jvm.Cond.code ({ cls := "com/example/bucketfold/bucketfold/BucketStartPagePinLaw", name := "drawn", desc := "(JII)B" } : Jvm.MethodName) method_3_code (4 : Nat) (Option.some Jvm.ClassFile.FieldType.byte)).before args0 about1 = true := code_word (m := ⟨1, 2⟩) (meth := k1m2) (c := k1c2) (by decide +kernel) rfl rfl rfl (by decide +kernel)
set_option maxRecDepth 65536 in
theorem w_c2 : (Jvm.Cond.code ({ cls := "com/example/bucketfold/bucketfold/Bucket", name := "startPage", desc := "([BIIZ)I" } : Jvm.MethodName) prog_4_method_34_code (5 : Nat) (Option.some Jvm.ClassFile.FieldType.int)).before args0 about1 = true := code_word (m := ⟨2, 0⟩) (meth := k2m0) (c := k2c0) (by decide +kernel) rfl rfl rfl (by decide +kernel)
set_option maxRecDepth 65536 in
theorem w_c3 : (Jvm.Cond.code ({ cls := "com/example/bucketfold/bucketfold/BucketStartPagePinLaw", name := "ok", desc := "([BJIIIIZ)Z" } : Jvm.MethodName) method_4_code (9 : Nat) (Option.some Jvm.ClassFile.FieldType.boolean)).before args0 about1 = true := code_word (m := ⟨1, 3⟩) (meth := k1m3) (c := k1c3) (by decide +kernel) rfl rfl rfl (by decide +kernel)
def codes1 : List Jvm.Cond := [Jvm.Cond.code x code maxLocals ret, Jvm.Cond.code ({ cls := "com/example/bucketfold/bucketfold/BucketStartPagePinLaw", name := "drawn", desc := "(JII)B" } : Jvm.MethodName) method_3_code (4 : Nat) (Option.some Jvm.ClassFile.FieldType.byte), Jvm.Cond.code ({ cls := "com/example/bucketfold/bucketfold/Bucket", name := "startPage", desc := "([BIIZ)I" } : Jvm.MethodName) prog_4_method_34_code (5 : Nat) (Option.some Jvm.ClassFile.FieldType.int), Jvm.Cond.code ({ cls := "com/example/bucketfold/bucketfold/BucketStartPagePinLaw", name := "ok", desc := "([BJIIIIZ)Z" } : Jvm.MethodName) method_4_code (9 : Nat) (Option.some Jvm.ClassFile.FieldType.boolean)]
set_option maxRecDepth 65536 in
theorem codes_eq : words1.filter isCode = codes1 := rfl
theorem w_codes : ∀ c ∈ words1.filter isCode, c.before args0 about1 = true := by
  rw [codes_eq]
  intro c hc
  simp only [codes1, List.mem_cons, List.not_mem_nil, or_false] at hc
  rcases hc with rfl | rfl | rfl | rfl
  · exact w_c0
  · exact w_c1
  · exact w_c2
  · exact w_c3
set_option maxRecDepth 65536 in
theorem w_t1 : words1.all (fun c => isCode c || c.before args0 about1) = true := by decide +kernel
theorem w_tables : (allAtoms (Jvm.Cond.code x code maxLocals ret :: tables_1)).before args0 about1 = true := by
  rw [allAtoms_all]
  show words1.all (fun c => c.before args0 about1) = true
  refine all_split ?_ w_codes
  rw [w_t1]
set_option maxRecDepth 65536 in
theorem w_case : (Jvm.Cond.and given_1 narrow_1).before args0 about1 = true := by decide +kernel
theorem w_applies : (headSpec (Jvm.Cond.code x code maxLocals ret :: tables_1) room_1).applies x e0.platform about1 = true :=
  (Spec.applies_iff w_frames).mpr ⟨w_running, w_runnable, w_alone, w_named, w_hears, w_ripe, w_room, w_tables⟩
theorem atStart : AtStart classFile x code maxLocals ret World_1 tables_1 room_1 Calls_1 rest_1 Pre_1 launch0 p0 e0 about1 theMethod args0 below0 :=
  ⟨lists_1, trivial, launch0.admits_env _ _ _, launch0.least_env, fairChoices_fair.cas, fairChoices_fair.clock, w_frames, w_args, w_heap, w_applies, trivial, trivial, w_case⟩
end start1
theorem witness_1 : WitnessClaimed_1 := ⟨start1.p0, start1.e0, start1.about1, start1.theMethod, start1.args0, start1.below0, start1.atStart⟩
end Jvm.Pilot.@@N@@
