import JvmDerived
import JvmDerived.Pilot.@@N@@Statement
import JvmDerived.Pilot.@@N@@Code
set_option linter.unusedVariables false
set_option linter.unusedSimpArgs false
namespace Jvm.OwnGo
open Sem ClassFile Op Lib Jvm.Stand Jvm.Free Jvm.LawKit Jvm.RoadKit
/-- what is known of the body that is walked -/
def Cx (p : Program) (s : State) (m : MethodId) (meth : Method) (c : Code) (Z : State) (own nm : String) (bs : ByteArray) (ml : Nat) (rt : Option FieldType) : Prop :=
  p.tables.exec = Jvm.exec ∧ Z.Warmed39 s.vm ∧ c.code = bs ∧ c.maxLocals = ml ∧ s.vm.findClass own = some m.cls ∧ meth.name = nm ∧ meth.sig.returnType = rt ∧ meth.locks = false
/-- where the walk stands: every place that it has written lies in a cell at or above n0 -/
def Sd (p : Program) (l : Launch) (e : Env) (R : Room) (s : State) (m : MethodId) (args : Array Value) (below : List Frame) (meth : Method) (c : Code) (n0 : Nat) (T : State) (cells slots : Nat) : Prop :=
  ∃ locs, Stand p l e R s m args below meth c T locs cells slots ∧ Fr n0 locs
/-- the walk from t ends: it returns, Q holds of the value and the heap, at most C cells of N slots are made -/
def Go (p : Program) (e : Env) (below : List Frame) (s : State) (n0 : Nat) (Q : Option Value → Heap → Prop) (C N : Nat) (t : State) : Prop :=
  ∃ s₂ o, Steps p.tables e below t s₂ ∧ s₂.status = .running ∧ Ended s₂ below o ∧ ∃ v L, o = .returned v ∧ (Q v s₂.heap ∧ Fr n0 L) ∧ FrameEnd s o s₂ L C N
/-- a method's contract at these arguments and this heap -/
def Met (l : Launch) (Z : State) (y : MethodName) (bytes : ByteArray) (maxL : Nat) (ret : Option FieldType) (ws : List Jvm.Cond) (rm : Room) (as' : Array Value) (h : Heap) (n0 : Nat) (Q : Option Value → Heap → Prop) : Prop :=
  MetFree l y (head1 (Cond.code y bytes maxL ret :: ws) rm) (fun a U => a = as' ∧ Z.Warmed39 U.vm ∧ U.heap = h) (fun _ _ _ _ _ => True) (fun _ U o U' => ∃ v L, o = .returned v ∧ (Q v U'.heap ∧ Fr n0 L) ∧ FrameEnd U o U' L rm.cells rm.slots)
theorem Met.of {l : Launch} {Z : State} {y : MethodName} {bytes : ByteArray} {maxL : Nat} {ret : Option FieldType} {ws : List Jvm.Cond} {rm : Room} {as' : Array Value} {h : Heap} {n0 : Nat} {Q : Option Value → Heap → Prop} (hpn : plainFor y = true) (Ls : Array Slot) (hef : ∀ m, entryFrame m as' maxL = mkF m 0 Ls [])
    (body : ∀ p e s m below meth c T, Cx p s m meth c Z y.cls y.name bytes maxL ret → Sd p l e rm s m as' below meth c n0 T 0 0 → T.heap = h → Go p e below s n0 Q rm.cells rm.slots (T.setTop (mkF m 0 Ls []))) : Met l Z y bytes maxL ret ws rm as' h n0 Q := by
  refine MetFree.of_bodySF hpn hisR ?_
  intro p e s m args below meth c s₁ Bd hml0 hP hK
  obtain ⟨rfl, hZ, hh⟩ := hP
  obtain ⟨s₂, o, h1, h2, h3, h4⟩ := body p e s m below meth c s₁ ⟨Bd.exec, hZ, Bd.bytes, hml0, findClass_of_methodNamed Bd.named, (name_of_methodNamed Bd.named Bd.method).1, Bd.returns, Bd.notSynchronized⟩ ⟨[], Stand.of_body Bd, Fr.nil n0⟩ (by rw [← hh, Bd.state]; rfl)
  exact ⟨s₂, o, castTop (hef m) h1, h2, h3, h4⟩
theorem Met.mono {l : Launch} {Z : State} {y : MethodName} {bytes : ByteArray} {maxL : Nat} {ret : Option FieldType} {ws : List Jvm.Cond} {rm : Room} {as' : Array Value} {h : Heap} {n0 : Nat} {Q Q' : Option Value → Heap → Prop} (M : Met l Z y bytes maxL ret ws rm as' h n0 Q) (hQ : ∀ v g, Q v g → Q' v g) : Met l Z y bytes maxL ret ws rm as' h n0 Q' := by
  intro p e ha hc hk s m args below hf happ hP hK
  obtain ⟨n, o, h1, h2, h3, v, L, h4, h5, h6⟩ := M p e ha hc hk s m args below hf happ hP hK
  exact ⟨n, o, h1, h2, h3, v, L, h4, ⟨hQ _ _ h5.1, h5.2⟩, h6⟩
/-- what a branch asks -/
def cdP : ClassFile.Cond → Int32 → Int32 → Prop
  | .eq, x, y => x = y
  | .ne, x, y => ¬ x = y
  | .lt, x, y => x < y
  | .ge, x, y => ¬ x < y
  | .gt, x, y => y < x
  | .le, x, y => ¬ y < x
theorem cdT {cd : ClassFile.Cond} {x y : Int32} (h : cdP cd x y) : if_icmp.holds cd x y = true := by
  cases cd <;> simp only [cdP] at h
  · exact (teq h).1
  · exact (feq h).2
  · exact (tlt h).1
  · exact (flt h).2.1
  · exact (tlt h).2.2.1
  · exact (flt h).2.2.2
theorem cdF {cd : ClassFile.Cond} {x y : Int32} (h : ¬ cdP cd x y) : if_icmp.holds cd x y = false := by
  cases cd <;> simp only [cdP, Classical.not_not] at h
  · exact (feq h).1
  · exact (teq h).2
  · exact (flt h).1
  · exact (tlt h).2.1
  · exact (flt h).2.2.1
  · exact (tlt h).2.2.2
/-- an array of ints (or bytes, booleans, chars, shorts): n places, place j holds f j -/
def Ai (Z : State) (h : Heap) (a : Addr) (ty : FieldType) (n : Nat) (f : Nat → Int32) : Prop :=
  ∃ c : Cell, Arr Z h a c ty ∧ c.slots.size = n ∧ n < 2 ^ 31 ∧ ∀ j, j < n → c.slots[j]? = some (.int (f j))
def upA (f : Nat → Int32) (k : Nat) (x : Int32) : Nat → Int32 := fun j => if j = k then x else f j
theorem upA_same (f : Nat → Int32) (k : Nat) (x : Int32) : upA f k x k = x := if_pos rfl
theorem upA_other {f : Nat → Int32} {k j : Nat} {x : Int32} (h : j ≠ k) : upA f k x j = f j := if_neg h
theorem idx_ok {j : Int32} {k n : Nat} (hj : j.toInt = (k : Int)) (hk : k < n) : ¬ (j < 0 ∨ n ≤ j.toNatClampNeg) ∧ j.toNatClampNeg = k := by
  have e : j.toNatClampNeg = k := by rw [Int32.toNatClampNeg, hj]; rfl
  refine ⟨fun q => q.elim (fun q => ?_) (fun q => by omega), e⟩
  rw [Int32.lt_iff_toInt_lt, hj, show (0 : Int32).toInt = 0 from rfl] at q
  omega
section Facts
variable {Z : State} {h h' : Heap} {a b : Addr} {ty : FieldType} {n sl : Nat} {f : Nat → Int32} {v : Value} {ws : List Addr}
theorem Ai.lt (F : Ai Z h a ty n f) : a < h.size := by obtain ⟨c, A, -⟩ := F; exact A.lt
theorem Ai.ext (F : Ai Z h a ty n f) (E : Ext h h') : Ai Z h' a ty n f := by obtain ⟨c, A, r⟩ := F; exact ⟨c, A.ext E, r⟩
theorem Ai.other (F : Ai Z h b ty n f) (W : Wr h h' a sl v) (q : b ≠ a) : Ai Z h' b ty n f := by obtain ⟨c, A, r⟩ := F; exact ⟨c, A.other W q, r⟩
theorem Ai.keep (F : Ai Z h a ty n f) (K : Keep h h' ws) (q : a ∉ ws) : Ai Z h' a ty n f := by obtain ⟨c, A, r⟩ := F; exact ⟨c, ⟨K.2.1 a c A.1 q, A.2⟩, r⟩
theorem keepMore {ws' : List Addr} (K : Keep h h' ws) (q : ∀ x ∈ ws, x ∈ ws') : Keep h h' ws' := ⟨K.1, fun x c h1 h2 => K.2.1 x c h1 (fun h3 => h2 (q x h3)), K.2.2⟩
theorem Ai.set {k : Nat} {x : Int32} (F : Ai Z h a ty n f) (W : Wr h h' a k (.int x)) : Ai Z h' a ty n (upA f k x) := by
  obtain ⟨c, A, S, B, H⟩ := F
  refine ⟨_, A.same W, by rw [sz_set]; exact S, B, fun j hj => ?_⟩
  by_cases q : j = k
  · subst q
    rw [upA_same]
    simp [Cell.setSlot, S, hj]
  · rw [upA_other q, ← H j hj]
    exact Array.getElem?_setIfInBounds_ne (fun e => q e.symm)
theorem Ai.congr {g : Nat → Int32} (F : Ai Z h a ty n f) (q : ∀ j, j < n → f j = g j) : Ai Z h a ty n g := by
  obtain ⟨c, A, S, B, H⟩ := F
  exact ⟨c, A, S, B, fun j hj => by rw [H j hj, q j hj]⟩
theorem Ai.new {k : ClassId} {z : Int32} {n : Nat} (A : Arr Z h a (newA k ty z) ty) (hz : z.toInt = (n : Int)) (hn : n < 2 ^ 31) (hd : defaultValue ty = .int 0) : Ai Z h a ty n (fun _ => 0) := by
  have e : z.toNatClampNeg = n := by rw [Int32.toNatClampNeg, hz]; rfl
  exact ⟨_, A, by rw [sz_new, e], hn, fun j hj => by simp [newA, e, hj, hd]⟩
end Facts
section Go
variable {p : Program} {l : Launch} {e : Env} {R : Room} {s : State} {m : MethodId} {args : Array Value} {below : List Frame} {meth : Method} {c : Code} {T : State} {cells slots : Nat} {Z : State} {a0 : Array Value} {h : Heap} {own nm : String} {bs : ByteArray} {ml : Nat} {rt : Option FieldType} {n0 : Nat} {Q : Option Value → Heap → Prop} {C N : Nat} {pc : Nat} {Ls : Array Slot} {st : List Value}
theorem Go.step {t t' : State} (hs : ∀ target, Steps p.tables e below t' target → Steps p.tables e below t target) (g : Go p e below s n0 Q C N t') : Go p e below s n0 Q C N t := by
  obtain ⟨s₂, o, h1, r⟩ := g
  exact ⟨s₂, o, hs _ h1, r⟩
theorem Go.trans {t t' : State} (hs : Steps p.tables e below t t') (g : Go p e below s n0 Q C N t') : Go p e below s n0 Q C N t := by
  obtain ⟨s₂, o, h1, r⟩ := g
  exact ⟨s₂, o, hs.trans h1, r⟩
theorem Go.mono {Q' : Option Value → Heap → Prop} {t : State} (g : Go p e below s n0 Q C N t) (hQ : ∀ v k, Q v k → Q' v k) : Go p e below s n0 Q' C N t := by
  obtain ⟨s₂, o, h1, h2, h3, v, L, h4, h5, h6⟩ := g
  exact ⟨s₂, o, h1, h2, h3, v, L, h4, ⟨hQ _ _ h5.1, h5.2⟩, h6⟩
theorem g_eqI {x y : Int32} (q : x = y) (hr : Go p e below s n0 Q C N (T.setTop (mkF m pc Ls (.int y :: st)))) : Go p e below s n0 Q C N (T.setTop (mkF m pc Ls (.int x :: st))) := q ▸ hr
theorem g_eqJ {x y : Int64} (q : x = y) (hr : Go p e below s n0 Q C N (T.setTop (mkF m pc Ls (.long y :: st)))) : Go p e below s n0 Q C N (T.setTop (mkF m pc Ls (.long x :: st))) := q ▸ hr
theorem g_aloadN (K : Cx p s m meth c Z own nm bs ml rt) (X : Sd p l e R s m args below meth c n0 T cells slots) {k : Fin 4} {v : Value} (pc' : Nat) (hd : decode bs pc = .ok (.aload_n k, 1)) (hp : pc + 1 = pc') (hl : Ls[k.val]? = some (.val v)) (hv : v.isRef = true)
    (hr : Go p e below s n0 Q C N (T.setTop (mkF m pc' Ls (v :: st)))) : Go p e below s n0 Q C N (T.setTop (mkF m pc Ls (st))) := by
  obtain ⟨locs, Y, -⟩ := X
  obtain ⟨hx, -, hby, -⟩ := K
  subst hp
  exact Go.step (fun _ k => XS.aloadN Y.here hx (g := mkF m pc Ls (st)) rfl (hb hby hd) hl hv k) hr
theorem g_aload (K : Cx p s m meth c Z own nm bs ml rt) (X : Sd p l e R s m args below meth c n0 T cells slots) {k : Nat} {v : Value} (pc' : Nat) (hd : decode bs pc = .ok (.aload k, 2)) (hp : pc + 2 = pc') (hl : Ls[k]? = some (.val v)) (hv : v.isRef = true)
    (hr : Go p e below s n0 Q C N (T.setTop (mkF m pc' Ls (v :: st)))) : Go p e below s n0 Q C N (T.setTop (mkF m pc Ls (st))) := by
  obtain ⟨locs, Y, -⟩ := X
  obtain ⟨hx, -, hby, -⟩ := K
  subst hp
  exact Go.step (fun _ k => XS.aload Y.here hx (g := mkF m pc Ls (st)) rfl (hb hby hd) hl hv k) hr
theorem g_iloadN (K : Cx p s m meth c Z own nm bs ml rt) (X : Sd p l e R s m args below meth c n0 T cells slots) {k : Fin 4} {v : Int32} (pc' : Nat) (hd : decode bs pc = .ok (.iload_n k, 1)) (hp : pc + 1 = pc') (hl : Ls[k.val]? = some (.val (.int v)))
    (hr : Go p e below s n0 Q C N (T.setTop (mkF m pc' Ls (.int v :: st)))) : Go p e below s n0 Q C N (T.setTop (mkF m pc Ls (st))) := by
  obtain ⟨locs, Y, -⟩ := X
  obtain ⟨hx, -, hby, -⟩ := K
  subst hp
  exact Go.step (fun _ k => XS.iloadN Y.here hx (g := mkF m pc Ls (st)) rfl (hb hby hd) hl k) hr
theorem g_iload (K : Cx p s m meth c Z own nm bs ml rt) (X : Sd p l e R s m args below meth c n0 T cells slots) {k : Nat} {v : Int32} (pc' : Nat) (hd : decode bs pc = .ok (.iload k, 2)) (hp : pc + 2 = pc') (hl : Ls[k]? = some (.val (.int v)))
    (hr : Go p e below s n0 Q C N (T.setTop (mkF m pc' Ls (.int v :: st)))) : Go p e below s n0 Q C N (T.setTop (mkF m pc Ls (st))) := by
  obtain ⟨locs, Y, -⟩ := X
  obtain ⟨hx, -, hby, -⟩ := K
  subst hp
  exact Go.step (fun _ k => XS.iload Y.here hx (g := mkF m pc Ls (st)) rfl (hb hby hd) hl k) hr
theorem g_lloadN (K : Cx p s m meth c Z own nm bs ml rt) (X : Sd p l e R s m args below meth c n0 T cells slots) {k : Fin 4} {v : Int64} (pc' : Nat) (hd : decode bs pc = .ok (.lload_n k, 1)) (hp : pc + 1 = pc') (hl : Ls[k.val]? = some (.val (.long v)))
    (hr : Go p e below s n0 Q C N (T.setTop (mkF m pc' Ls (.long v :: st)))) : Go p e below s n0 Q C N (T.setTop (mkF m pc Ls (st))) := by
  obtain ⟨locs, Y, -⟩ := X
  obtain ⟨hx, -, hby, -⟩ := K
  subst hp
  exact Go.step (fun _ k => XT.lloadN Y.here hx (g := mkF m pc Ls (st)) rfl (hb hby hd) hl k) hr
theorem g_lload (K : Cx p s m meth c Z own nm bs ml rt) (X : Sd p l e R s m args below meth c n0 T cells slots) {k : Nat} {v : Int64} (pc' : Nat) (hd : decode bs pc = .ok (.lload k, 2)) (hp : pc + 2 = pc') (hl : Ls[k]? = some (.val (.long v)))
    (hr : Go p e below s n0 Q C N (T.setTop (mkF m pc' Ls (.long v :: st)))) : Go p e below s n0 Q C N (T.setTop (mkF m pc Ls (st))) := by
  obtain ⟨locs, Y, -⟩ := X
  obtain ⟨hx, -, hby, -⟩ := K
  subst hp
  exact Go.step (fun _ k => XT.lload Y.here hx (g := mkF m pc Ls (st)) rfl (hb hby hd) hl k) hr
theorem g_iconst (K : Cx p s m meth c Z own nm bs ml rt) (X : Sd p l e R s m args below meth c n0 T cells slots) {i : Int} (v : Int32) (pc' : Nat) (hd : decode bs pc = .ok (.iconst i, 1)) (hp : pc + 1 = pc') (hv : Int32.ofInt i = v)
    (hr : Go p e below s n0 Q C N (T.setTop (mkF m pc' Ls (.int v :: st)))) : Go p e below s n0 Q C N (T.setTop (mkF m pc Ls (st))) := by
  obtain ⟨locs, Y, -⟩ := X
  obtain ⟨hx, -, hby, -⟩ := K
  subst hp
  exact Go.step (fun _ k => XT.iconstV Y.here hx (g := mkF m pc Ls (st)) rfl v (hb hby hd) hv k) hr
theorem g_bipush (K : Cx p s m meth c Z own nm bs ml rt) (X : Sd p l e R s m args below meth c n0 T cells slots) {i : Int} (v : Int32) (pc' : Nat) (hd : decode bs pc = .ok (.bipush i, 2)) (hp : pc + 2 = pc') (hv : (Int8.ofInt i).toInt32 = v)
    (hr : Go p e below s n0 Q C N (T.setTop (mkF m pc' Ls (.int v :: st)))) : Go p e below s n0 Q C N (T.setTop (mkF m pc Ls (st))) := by
  obtain ⟨locs, Y, -⟩ := X
  obtain ⟨hx, -, hby, -⟩ := K
  subst hp
  exact Go.step (fun _ k => XT.bipushV Y.here hx (g := mkF m pc Ls (st)) rfl v (hb hby hd) hv k) hr
theorem g_sipush (K : Cx p s m meth c Z own nm bs ml rt) (X : Sd p l e R s m args below meth c n0 T cells slots) {i : Int} (v : Int32) (pc' : Nat) (hd : decode bs pc = .ok (.sipush i, 3)) (hp : pc + 3 = pc') (hv : (Int16.ofInt i).toInt32 = v)
    (hr : Go p e below s n0 Q C N (T.setTop (mkF m pc' Ls (.int v :: st)))) : Go p e below s n0 Q C N (T.setTop (mkF m pc Ls (st))) := by
  obtain ⟨locs, Y, -⟩ := X
  obtain ⟨hx, -, hby, -⟩ := K
  subst hp
  exact Go.step (fun _ k => XT.sipushV Y.here hx (g := mkF m pc Ls (st)) rfl v (hb hby hd) hv k) hr
theorem g_lconst (K : Cx p s m meth c Z own nm bs ml rt) (X : Sd p l e R s m args below meth c n0 T cells slots) {k : Fin 2} (v : Int64) (pc' : Nat) (hd : decode bs pc = .ok (.lconst k, 1)) (hp : pc + 1 = pc') (hv : Int64.ofNat k = v)
    (hr : Go p e below s n0 Q C N (T.setTop (mkF m pc' Ls (.long v :: st)))) : Go p e below s n0 Q C N (T.setTop (mkF m pc Ls (st))) := by
  obtain ⟨locs, Y, -⟩ := X
  obtain ⟨hx, -, hby, -⟩ := K
  subst hp
  exact Go.step (fun _ k => XT.lconstV Y.here hx (g := mkF m pc Ls (st)) rfl v (hb hby hd) hv k) hr
theorem g_anull (K : Cx p s m meth c Z own nm bs ml rt) (X : Sd p l e R s m args below meth c n0 T cells slots) (pc' : Nat) (hd : decode bs pc = .ok (.aconst_null, 1)) (hp : pc + 1 = pc') 
    (hr : Go p e below s n0 Q C N (T.setTop (mkF m pc' Ls (.null :: st)))) : Go p e below s n0 Q C N (T.setTop (mkF m pc Ls (st))) := by
  obtain ⟨locs, Y, -⟩ := X
  obtain ⟨hx, -, hby, -⟩ := K
  subst hp
  exact Go.step (fun _ k => XS.aconstNull Y.here hx (g := mkF m pc Ls (st)) rfl (hb hby hd) k) hr
theorem g_istoreN (K : Cx p s m meth c Z own nm bs ml rt) (X : Sd p l e R s m args below meth c n0 T cells slots) {k : Fin 4} {x : Int32} (pc' : Nat) (l' : Array Slot) (hd : decode bs pc = .ok (.istore_n k, 1)) (hp : pc + 1 = pc') (hl : storeLocals Ls k.val (.int x) = some l')
    (hr : Go p e below s n0 Q C N (T.setTop (mkF m pc' l' (st)))) : Go p e below s n0 Q C N (T.setTop (mkF m pc Ls (.int x :: st))) := by
  obtain ⟨locs, Y, -⟩ := X
  obtain ⟨hx, -, hby, -⟩ := K
  subst hp
  exact Go.step (fun _ k => XS.istoreN Y.here hx (g := mkF m pc Ls (.int x :: st)) rfl (hb hby hd) rfl hl k) hr
theorem g_istore (K : Cx p s m meth c Z own nm bs ml rt) (X : Sd p l e R s m args below meth c n0 T cells slots) {k : Nat} {x : Int32} (pc' : Nat) (l' : Array Slot) (hd : decode bs pc = .ok (.istore k, 2)) (hp : pc + 2 = pc') (hl : storeLocals Ls k (.int x) = some l')
    (hr : Go p e below s n0 Q C N (T.setTop (mkF m pc' l' (st)))) : Go p e below s n0 Q C N (T.setTop (mkF m pc Ls (.int x :: st))) := by
  obtain ⟨locs, Y, -⟩ := X
  obtain ⟨hx, -, hby, -⟩ := K
  subst hp
  exact Go.step (fun _ k => XS.istore Y.here hx (g := mkF m pc Ls (.int x :: st)) rfl (hb hby hd) rfl hl k) hr
theorem g_lstoreN (K : Cx p s m meth c Z own nm bs ml rt) (X : Sd p l e R s m args below meth c n0 T cells slots) {k : Fin 4} {x : Int64} (pc' : Nat) (l' : Array Slot) (hd : decode bs pc = .ok (.lstore_n k, 1)) (hp : pc + 1 = pc') (hl : storeLocals Ls k.val (.long x) = some l')
    (hr : Go p e below s n0 Q C N (T.setTop (mkF m pc' l' (st)))) : Go p e below s n0 Q C N (T.setTop (mkF m pc Ls (.long x :: st))) := by
  obtain ⟨locs, Y, -⟩ := X
  obtain ⟨hx, -, hby, -⟩ := K
  subst hp
  exact Go.step (fun _ k => XT.lstoreN Y.here hx (g := mkF m pc Ls (.long x :: st)) rfl (hb hby hd) rfl hl k) hr
theorem g_lstore (K : Cx p s m meth c Z own nm bs ml rt) (X : Sd p l e R s m args below meth c n0 T cells slots) {k : Nat} {x : Int64} (pc' : Nat) (l' : Array Slot) (hd : decode bs pc = .ok (.lstore k, 2)) (hp : pc + 2 = pc') (hl : storeLocals Ls k (.long x) = some l')
    (hr : Go p e below s n0 Q C N (T.setTop (mkF m pc' l' (st)))) : Go p e below s n0 Q C N (T.setTop (mkF m pc Ls (.long x :: st))) := by
  obtain ⟨locs, Y, -⟩ := X
  obtain ⟨hx, -, hby, -⟩ := K
  subst hp
  exact Go.step (fun _ k => XT.lstore Y.here hx (g := mkF m pc Ls (.long x :: st)) rfl (hb hby hd) rfl hl k) hr
theorem g_astoreN (K : Cx p s m meth c Z own nm bs ml rt) (X : Sd p l e R s m args below meth c n0 T cells slots) {k : Fin 4} {x : Value} (pc' : Nat) (l' : Array Slot) (hd : decode bs pc = .ok (.astore_n k, 1)) (hp : pc + 1 = pc') (hv : x.isRef = true) (hl : storeLocals Ls k.val x = some l')
    (hr : Go p e below s n0 Q C N (T.setTop (mkF m pc' l' (st)))) : Go p e below s n0 Q C N (T.setTop (mkF m pc Ls (x :: st))) := by
  obtain ⟨locs, Y, -⟩ := X
  obtain ⟨hx, -, hby, -⟩ := K
  subst hp
  exact Go.step (fun _ k => XS.astoreN Y.here hx (g := mkF m pc Ls (x :: st)) rfl (hb hby hd) rfl hv hl k) hr
theorem g_astore (K : Cx p s m meth c Z own nm bs ml rt) (X : Sd p l e R s m args below meth c n0 T cells slots) {k : Nat} {x : Value} (pc' : Nat) (l' : Array Slot) (hd : decode bs pc = .ok (.astore k, 2)) (hp : pc + 2 = pc') (hv : x.isRef = true) (hl : storeLocals Ls k x = some l')
    (hr : Go p e below s n0 Q C N (T.setTop (mkF m pc' l' (st)))) : Go p e below s n0 Q C N (T.setTop (mkF m pc Ls (x :: st))) := by
  obtain ⟨locs, Y, -⟩ := X
  obtain ⟨hx, -, hby, -⟩ := K
  subst hp
  exact Go.step (fun _ k => XS.astore Y.here hx (g := mkF m pc Ls (x :: st)) rfl (hb hby hd) rfl hv hl k) hr
theorem g_iinc (K : Cx p s m meth c Z own nm bs ml rt) (X : Sd p l e R s m args below meth c n0 T cells slots) {k : Nat} {cst : Int} {x : Int32} (v : Int32) (pc' : Nat) (l' : Array Slot) (hd : decode bs pc = .ok (.iinc k cst, 3)) (hp : pc + 3 = pc') (hv : Int32.ofInt cst = v) (hl : Ls[k]? = some (.val (.int x))) (hl' : storeLocals Ls k (.int (x + v)) = some l')
    (hr : Go p e below s n0 Q C N (T.setTop (mkF m pc' l' (st)))) : Go p e below s n0 Q C N (T.setTop (mkF m pc Ls (st))) := by
  obtain ⟨locs, Y, -⟩ := X
  obtain ⟨hx, -, hby, -⟩ := K
  subst hp
  exact Go.step (fun _ k => XT.iincV Y.here hx (g := mkF m pc Ls (st)) rfl v (hb hby hd) hv hl hl' k) hr
theorem g_iadd (K : Cx p s m meth c Z own nm bs ml rt) (X : Sd p l e R s m args below meth c n0 T cells slots) {x y : Int32} (pc' : Nat) (hd : decode bs pc = .ok (.iadd, 1)) (hp : pc + 1 = pc') 
    (hr : Go p e below s n0 Q C N (T.setTop (mkF m pc' Ls (.int (x + y) :: st)))) : Go p e below s n0 Q C N (T.setTop (mkF m pc Ls (.int y :: .int x :: st))) := by
  obtain ⟨locs, Y, -⟩ := X
  obtain ⟨hx, -, hby, -⟩ := K
  subst hp
  exact Go.step (fun _ k => XS.iadd Y.here hx (g := mkF m pc Ls (.int y :: .int x :: st)) rfl (hb hby hd) rfl k) hr
theorem g_isub (K : Cx p s m meth c Z own nm bs ml rt) (X : Sd p l e R s m args below meth c n0 T cells slots) {x y : Int32} (pc' : Nat) (hd : decode bs pc = .ok (.isub, 1)) (hp : pc + 1 = pc') 
    (hr : Go p e below s n0 Q C N (T.setTop (mkF m pc' Ls (.int (x - y) :: st)))) : Go p e below s n0 Q C N (T.setTop (mkF m pc Ls (.int y :: .int x :: st))) := by
  obtain ⟨locs, Y, -⟩ := X
  obtain ⟨hx, -, hby, -⟩ := K
  subst hp
  exact Go.step (fun _ k => XS.isub Y.here hx (g := mkF m pc Ls (.int y :: .int x :: st)) rfl (hb hby hd) rfl k) hr
theorem g_imul (K : Cx p s m meth c Z own nm bs ml rt) (X : Sd p l e R s m args below meth c n0 T cells slots) {x y : Int32} (pc' : Nat) (hd : decode bs pc = .ok (.imul, 1)) (hp : pc + 1 = pc') 
    (hr : Go p e below s n0 Q C N (T.setTop (mkF m pc' Ls (.int (x * y) :: st)))) : Go p e below s n0 Q C N (T.setTop (mkF m pc Ls (.int y :: .int x :: st))) := by
  obtain ⟨locs, Y, -⟩ := X
  obtain ⟨hx, -, hby, -⟩ := K
  subst hp
  exact Go.step (fun _ k => XS.imul Y.here hx (g := mkF m pc Ls (.int y :: .int x :: st)) rfl (hb hby hd) rfl k) hr
theorem g_iand (K : Cx p s m meth c Z own nm bs ml rt) (X : Sd p l e R s m args below meth c n0 T cells slots) {x y : Int32} (pc' : Nat) (hd : decode bs pc = .ok (.iand, 1)) (hp : pc + 1 = pc') 
    (hr : Go p e below s n0 Q C N (T.setTop (mkF m pc' Ls (.int (x &&& y) :: st)))) : Go p e below s n0 Q C N (T.setTop (mkF m pc Ls (.int y :: .int x :: st))) := by
  obtain ⟨locs, Y, -⟩ := X
  obtain ⟨hx, -, hby, -⟩ := K
  subst hp
  exact Go.step (fun _ k => XS.iand Y.here hx (g := mkF m pc Ls (.int y :: .int x :: st)) rfl (hb hby hd) rfl k) hr
theorem g_ior (K : Cx p s m meth c Z own nm bs ml rt) (X : Sd p l e R s m args below meth c n0 T cells slots) {x y : Int32} (pc' : Nat) (hd : decode bs pc = .ok (.ior, 1)) (hp : pc + 1 = pc') 
    (hr : Go p e below s n0 Q C N (T.setTop (mkF m pc' Ls (.int (x ||| y) :: st)))) : Go p e below s n0 Q C N (T.setTop (mkF m pc Ls (.int y :: .int x :: st))) := by
  obtain ⟨locs, Y, -⟩ := X
  obtain ⟨hx, -, hby, -⟩ := K
  subst hp
  exact Go.step (fun _ k => XT.ior Y.here hx (g := mkF m pc Ls (.int y :: .int x :: st)) rfl (hb hby hd) rfl k) hr
theorem g_ixor (K : Cx p s m meth c Z own nm bs ml rt) (X : Sd p l e R s m args below meth c n0 T cells slots) {x y : Int32} (pc' : Nat) (hd : decode bs pc = .ok (.ixor, 1)) (hp : pc + 1 = pc') 
    (hr : Go p e below s n0 Q C N (T.setTop (mkF m pc' Ls (.int (x ^^^ y) :: st)))) : Go p e below s n0 Q C N (T.setTop (mkF m pc Ls (.int y :: .int x :: st))) := by
  obtain ⟨locs, Y, -⟩ := X
  obtain ⟨hx, -, hby, -⟩ := K
  subst hp
  exact Go.step (fun _ k => XT.ixor Y.here hx (g := mkF m pc Ls (.int y :: .int x :: st)) rfl (hb hby hd) rfl k) hr
theorem g_ishl (K : Cx p s m meth c Z own nm bs ml rt) (X : Sd p l e R s m args below meth c n0 T cells slots) {x y : Int32} (pc' : Nat) (hd : decode bs pc = .ok (.ishl, 1)) (hp : pc + 1 = pc') 
    (hr : Go p e below s n0 Q C N (T.setTop (mkF m pc' Ls (.int (x <<< (y &&& 31)) :: st)))) : Go p e below s n0 Q C N (T.setTop (mkF m pc Ls (.int y :: .int x :: st))) := by
  obtain ⟨locs, Y, -⟩ := X
  obtain ⟨hx, -, hby, -⟩ := K
  subst hp
  exact Go.step (fun _ k => XT.ishl Y.here hx (g := mkF m pc Ls (.int y :: .int x :: st)) rfl (hb hby hd) rfl k) hr
theorem g_ishr (K : Cx p s m meth c Z own nm bs ml rt) (X : Sd p l e R s m args below meth c n0 T cells slots) {x y : Int32} (pc' : Nat) (hd : decode bs pc = .ok (.ishr, 1)) (hp : pc + 1 = pc') 
    (hr : Go p e below s n0 Q C N (T.setTop (mkF m pc' Ls (.int (x >>> (y &&& 31)) :: st)))) : Go p e below s n0 Q C N (T.setTop (mkF m pc Ls (.int y :: .int x :: st))) := by
  obtain ⟨locs, Y, -⟩ := X
  obtain ⟨hx, -, hby, -⟩ := K
  subst hp
  exact Go.step (fun _ k => XT.ishr Y.here hx (g := mkF m pc Ls (.int y :: .int x :: st)) rfl (hb hby hd) rfl k) hr
theorem g_iushr (K : Cx p s m meth c Z own nm bs ml rt) (X : Sd p l e R s m args below meth c n0 T cells slots) {x y : Int32} (pc' : Nat) (hd : decode bs pc = .ok (.iushr, 1)) (hp : pc + 1 = pc') 
    (hr : Go p e below s n0 Q C N (T.setTop (mkF m pc' Ls (.int (XT.ushr x y) :: st)))) : Go p e below s n0 Q C N (T.setTop (mkF m pc Ls (.int y :: .int x :: st))) := by
  obtain ⟨locs, Y, -⟩ := X
  obtain ⟨hx, -, hby, -⟩ := K
  subst hp
  exact Go.step (fun _ k => XT.iushr Y.here hx (g := mkF m pc Ls (.int y :: .int x :: st)) rfl (hb hby hd) rfl k) hr
theorem g_irem (K : Cx p s m meth c Z own nm bs ml rt) (X : Sd p l e R s m args below meth c n0 T cells slots) {x y : Int32} (pc' : Nat) (hd : decode bs pc = .ok (.irem, 1)) (hp : pc + 1 = pc') (hy : y ≠ 0)
    (hr : Go p e below s n0 Q C N (T.setTop (mkF m pc' Ls (.int (x % y) :: st)))) : Go p e below s n0 Q C N (T.setTop (mkF m pc Ls (.int y :: .int x :: st))) := by
  obtain ⟨locs, Y, -⟩ := X
  obtain ⟨hx, -, hby, -⟩ := K
  subst hp
  exact Go.step (fun _ k => iremM Y hx (g := mkF m pc Ls (.int y :: .int x :: st)) rfl (hb hby hd) rfl hy k) hr
theorem g_ladd (K : Cx p s m meth c Z own nm bs ml rt) (X : Sd p l e R s m args below meth c n0 T cells slots) {x y : Int64} (pc' : Nat) (hd : decode bs pc = .ok (.ladd, 1)) (hp : pc + 1 = pc') 
    (hr : Go p e below s n0 Q C N (T.setTop (mkF m pc' Ls (.long (x + y) :: st)))) : Go p e below s n0 Q C N (T.setTop (mkF m pc Ls (.long y :: .long x :: st))) := by
  obtain ⟨locs, Y, -⟩ := X
  obtain ⟨hx, -, hby, -⟩ := K
  subst hp
  exact Go.step (fun _ k => XT.ladd Y.here hx (g := mkF m pc Ls (.long y :: .long x :: st)) rfl (hb hby hd) rfl k) hr
theorem g_lsub (K : Cx p s m meth c Z own nm bs ml rt) (X : Sd p l e R s m args below meth c n0 T cells slots) {x y : Int64} (pc' : Nat) (hd : decode bs pc = .ok (.lsub, 1)) (hp : pc + 1 = pc') 
    (hr : Go p e below s n0 Q C N (T.setTop (mkF m pc' Ls (.long (x - y) :: st)))) : Go p e below s n0 Q C N (T.setTop (mkF m pc Ls (.long y :: .long x :: st))) := by
  obtain ⟨locs, Y, -⟩ := X
  obtain ⟨hx, -, hby, -⟩ := K
  subst hp
  exact Go.step (fun _ k => XT.lsub Y.here hx (g := mkF m pc Ls (.long y :: .long x :: st)) rfl (hb hby hd) rfl k) hr
theorem g_land (K : Cx p s m meth c Z own nm bs ml rt) (X : Sd p l e R s m args below meth c n0 T cells slots) {x y : Int64} (pc' : Nat) (hd : decode bs pc = .ok (.land, 1)) (hp : pc + 1 = pc') 
    (hr : Go p e below s n0 Q C N (T.setTop (mkF m pc' Ls (.long (x &&& y) :: st)))) : Go p e below s n0 Q C N (T.setTop (mkF m pc Ls (.long y :: .long x :: st))) := by
  obtain ⟨locs, Y, -⟩ := X
  obtain ⟨hx, -, hby, -⟩ := K
  subst hp
  exact Go.step (fun _ k => XT.land Y.here hx (g := mkF m pc Ls (.long y :: .long x :: st)) rfl (hb hby hd) rfl k) hr
theorem g_lor (K : Cx p s m meth c Z own nm bs ml rt) (X : Sd p l e R s m args below meth c n0 T cells slots) {x y : Int64} (pc' : Nat) (hd : decode bs pc = .ok (.lor, 1)) (hp : pc + 1 = pc') 
    (hr : Go p e below s n0 Q C N (T.setTop (mkF m pc' Ls (.long (x ||| y) :: st)))) : Go p e below s n0 Q C N (T.setTop (mkF m pc Ls (.long y :: .long x :: st))) := by
  obtain ⟨locs, Y, -⟩ := X
  obtain ⟨hx, -, hby, -⟩ := K
  subst hp
  exact Go.step (fun _ k => XT.lor Y.here hx (g := mkF m pc Ls (.long y :: .long x :: st)) rfl (hb hby hd) rfl k) hr
theorem g_lxor (K : Cx p s m meth c Z own nm bs ml rt) (X : Sd p l e R s m args below meth c n0 T cells slots) {x y : Int64} (pc' : Nat) (hd : decode bs pc = .ok (.lxor, 1)) (hp : pc + 1 = pc') 
    (hr : Go p e below s n0 Q C N (T.setTop (mkF m pc' Ls (.long (x ^^^ y) :: st)))) : Go p e below s n0 Q C N (T.setTop (mkF m pc Ls (.long y :: .long x :: st))) := by
  obtain ⟨locs, Y, -⟩ := X
  obtain ⟨hx, -, hby, -⟩ := K
  subst hp
  exact Go.step (fun _ k => XT.lxor Y.here hx (g := mkF m pc Ls (.long y :: .long x :: st)) rfl (hb hby hd) rfl k) hr
theorem g_lshl (K : Cx p s m meth c Z own nm bs ml rt) (X : Sd p l e R s m args below meth c n0 T cells slots) {x : Int64} {y : Int32} (pc' : Nat) (hd : decode bs pc = .ok (.lshl, 1)) (hp : pc + 1 = pc') 
    (hr : Go p e below s n0 Q C N (T.setTop (mkF m pc' Ls (.long (x <<< (y.toInt64 &&& 63)) :: st)))) : Go p e below s n0 Q C N (T.setTop (mkF m pc Ls (.int y :: .long x :: st))) := by
  obtain ⟨locs, Y, -⟩ := X
  obtain ⟨hx, -, hby, -⟩ := K
  subst hp
  exact Go.step (fun _ k => XT.lshl Y.here hx (g := mkF m pc Ls (.int y :: .long x :: st)) rfl (hb hby hd) rfl k) hr
theorem g_lushr (K : Cx p s m meth c Z own nm bs ml rt) (X : Sd p l e R s m args below meth c n0 T cells slots) {x : Int64} {y : Int32} (pc' : Nat) (hd : decode bs pc = .ok (.lushr, 1)) (hp : pc + 1 = pc') 
    (hr : Go p e below s n0 Q C N (T.setTop (mkF m pc' Ls (.long (XT.ushrL x y) :: st)))) : Go p e below s n0 Q C N (T.setTop (mkF m pc Ls (.int y :: .long x :: st))) := by
  obtain ⟨locs, Y, -⟩ := X
  obtain ⟨hx, -, hby, -⟩ := K
  subst hp
  exact Go.step (fun _ k => XT.lushr Y.here hx (g := mkF m pc Ls (.int y :: .long x :: st)) rfl (hb hby hd) rfl k) hr
theorem g_lcmp (K : Cx p s m meth c Z own nm bs ml rt) (X : Sd p l e R s m args below meth c n0 T cells slots) {x y : Int64} (pc' : Nat) (hd : decode bs pc = .ok (.lcmp, 1)) (hp : pc + 1 = pc') 
    (hr : Go p e below s n0 Q C N (T.setTop (mkF m pc' Ls (.int (XT.cmpL x y) :: st)))) : Go p e below s n0 Q C N (T.setTop (mkF m pc Ls (.long y :: .long x :: st))) := by
  obtain ⟨locs, Y, -⟩ := X
  obtain ⟨hx, -, hby, -⟩ := K
  subst hp
  exact Go.step (fun _ k => XT.lcmp Y.here hx (g := mkF m pc Ls (.long y :: .long x :: st)) rfl (hb hby hd) rfl k) hr
theorem g_i2l (K : Cx p s m meth c Z own nm bs ml rt) (X : Sd p l e R s m args below meth c n0 T cells slots) {x : Int32} (pc' : Nat) (hd : decode bs pc = .ok (.i2l, 1)) (hp : pc + 1 = pc') 
    (hr : Go p e below s n0 Q C N (T.setTop (mkF m pc' Ls (.long x.toInt64 :: st)))) : Go p e below s n0 Q C N (T.setTop (mkF m pc Ls (.int x :: st))) := by
  obtain ⟨locs, Y, -⟩ := X
  obtain ⟨hx, -, hby, -⟩ := K
  subst hp
  exact Go.step (fun _ k => XT.i2l Y.here hx (g := mkF m pc Ls (.int x :: st)) rfl (hb hby hd) rfl k) hr
theorem g_l2i (K : Cx p s m meth c Z own nm bs ml rt) (X : Sd p l e R s m args below meth c n0 T cells slots) {x : Int64} (pc' : Nat) (hd : decode bs pc = .ok (.l2i, 1)) (hp : pc + 1 = pc') 
    (hr : Go p e below s n0 Q C N (T.setTop (mkF m pc' Ls (.int x.toInt32 :: st)))) : Go p e below s n0 Q C N (T.setTop (mkF m pc Ls (.long x :: st))) := by
  obtain ⟨locs, Y, -⟩ := X
  obtain ⟨hx, -, hby, -⟩ := K
  subst hp
  exact Go.step (fun _ k => XT.l2i Y.here hx (g := mkF m pc Ls (.long x :: st)) rfl (hb hby hd) rfl k) hr
theorem g_i2b (K : Cx p s m meth c Z own nm bs ml rt) (X : Sd p l e R s m args below meth c n0 T cells slots) {x : Int32} (pc' : Nat) (hd : decode bs pc = .ok (.i2b, 1)) (hp : pc + 1 = pc') 
    (hr : Go p e below s n0 Q C N (T.setTop (mkF m pc' Ls (.int x.toInt8.toInt32 :: st)))) : Go p e below s n0 Q C N (T.setTop (mkF m pc Ls (.int x :: st))) := by
  obtain ⟨locs, Y, -⟩ := X
  obtain ⟨hx, -, hby, -⟩ := K
  subst hp
  exact Go.step (fun _ k => XT.i2b Y.here hx (g := mkF m pc Ls (.int x :: st)) rfl (hb hby hd) rfl k) hr
theorem g_dup (K : Cx p s m meth c Z own nm bs ml rt) (X : Sd p l e R s m args below meth c n0 T cells slots) {x : Value} (pc' : Nat) (hd : decode bs pc = .ok (.dup, 1)) (hp : pc + 1 = pc') (hc : x.category = 1)
    (hr : Go p e below s n0 Q C N (T.setTop (mkF m pc' Ls (x :: x :: st)))) : Go p e below s n0 Q C N (T.setTop (mkF m pc Ls (x :: st))) := by
  obtain ⟨locs, Y, -⟩ := X
  obtain ⟨hx, -, hby, -⟩ := K
  subst hp
  exact Go.step (fun _ k => XS.dup Y.here hx (g := mkF m pc Ls (x :: st)) rfl (hb hby hd) rfl hc k) hr
theorem g_dup_x1 (K : Cx p s m meth c Z own nm bs ml rt) (X : Sd p l e R s m args below meth c n0 T cells slots) {x y : Value} (pc' : Nat) (hd : decode bs pc = .ok (.dup_x1, 1)) (hp : pc + 1 = pc') (hc : x.category = 1) (hc' : y.category = 1)
    (hr : Go p e below s n0 Q C N (T.setTop (mkF m pc' Ls (x :: y :: x :: st)))) : Go p e below s n0 Q C N (T.setTop (mkF m pc Ls (x :: y :: st))) := by
  obtain ⟨locs, Y, -⟩ := X
  obtain ⟨hx, -, hby, -⟩ := K
  subst hp
  exact Go.step (fun _ k => XT.dupX1 Y.here hx (g := mkF m pc Ls (x :: y :: st)) rfl (hb hby hd) rfl hc hc' k) hr
theorem g_dup2 (K : Cx p s m meth c Z own nm bs ml rt) (X : Sd p l e R s m args below meth c n0 T cells slots) {x y : Value} (pc' : Nat) (hd : decode bs pc = .ok (.dup2, 1)) (hp : pc + 1 = pc') (hc : x.category = 1) (hc' : y.category = 1)
    (hr : Go p e below s n0 Q C N (T.setTop (mkF m pc' Ls (x :: y :: x :: y :: st)))) : Go p e below s n0 Q C N (T.setTop (mkF m pc Ls (x :: y :: st))) := by
  obtain ⟨locs, Y, -⟩ := X
  obtain ⟨hx, -, hby, -⟩ := K
  subst hp
  exact Go.step (fun _ k => XT.dup2 Y.here hx (g := mkF m pc Ls (x :: y :: st)) rfl (hb hby hd) rfl hc hc' k) hr
theorem g_pop (K : Cx p s m meth c Z own nm bs ml rt) (X : Sd p l e R s m args below meth c n0 T cells slots) {x : Value} (pc' : Nat) (hd : decode bs pc = .ok (.pop, 1)) (hp : pc + 1 = pc') (hc : x.category = 1)
    (hr : Go p e below s n0 Q C N (T.setTop (mkF m pc' Ls (st)))) : Go p e below s n0 Q C N (T.setTop (mkF m pc Ls (x :: st))) := by
  obtain ⟨locs, Y, -⟩ := X
  obtain ⟨hx, -, hby, -⟩ := K
  subst hp
  exact Go.step (fun _ k => XT.pop Y.here hx (g := mkF m pc Ls (x :: st)) rfl (hb hby hd) rfl hc k) hr
theorem g_goto (K : Cx p s m meth c Z own nm bs ml rt) (X : Sd p l e R s m args below meth c n0 T cells slots) {o : Int} (pc' : Nat) (hd : decode bs pc = .ok (.goto o, 3)) (hp : (pc : Int) + o = (pc' : Int))
    (hr : Go p e below s n0 Q C N (T.setTop (mkF m pc' Ls st))) : Go p e below s n0 Q C N (T.setTop (mkF m pc Ls st)) := by
  obtain ⟨locs, Y, -⟩ := X
  obtain ⟨hx, -, hby, -⟩ := K
  exact Go.step (fun _ k => XS.goto Y.here hx (g := mkF m pc Ls st) rfl (pc0 := pc) (pc' := pc') rfl (hb hby hd) (by omega) (by omega) k) hr
theorem g_icmpT (K : Cx p s m meth c Z own nm bs ml rt) (X : Sd p l e R s m args below meth c n0 T cells slots) {cd : ClassFile.Cond} {x y : Int32} {o : Int} (pc' : Nat) (hd : decode bs pc = .ok (.if_icmp cd o, 3)) (hp : (pc : Int) + o = (pc' : Int)) (hc : cdP cd x y)
    (hr : Go p e below s n0 Q C N (T.setTop (mkF m pc' Ls st))) : Go p e below s n0 Q C N (T.setTop (mkF m pc Ls (.int y :: .int x :: st))) := by
  obtain ⟨locs, Y, -⟩ := X
  obtain ⟨hx, -, hby, -⟩ := K
  exact Go.step (fun _ k => XS.icmpYes Y.here hx (g := mkF m pc Ls (.int y :: .int x :: st)) rfl (pc0 := pc) (pc' := pc') rfl (hb hby hd) rfl (cdT hc) (by omega) (by omega) k) hr
theorem g_icmpF (K : Cx p s m meth c Z own nm bs ml rt) (X : Sd p l e R s m args below meth c n0 T cells slots) {cd : ClassFile.Cond} {x y : Int32} {o : Int} (pc' : Nat) (hd : decode bs pc = .ok (.if_icmp cd o, 3)) (hp : pc + 3 = pc') (hc : ¬ cdP cd x y)
    (hr : Go p e below s n0 Q C N (T.setTop (mkF m pc' Ls st))) : Go p e below s n0 Q C N (T.setTop (mkF m pc Ls (.int y :: .int x :: st))) := by
  obtain ⟨locs, Y, -⟩ := X
  obtain ⟨hx, -, hby, -⟩ := K
  subst hp
  exact Go.step (fun _ k => XS.icmpNo Y.here hx (g := mkF m pc Ls (.int y :: .int x :: st)) rfl (hb hby hd) rfl (cdF hc) k) hr
theorem g_ifT (K : Cx p s m meth c Z own nm bs ml rt) (X : Sd p l e R s m args below meth c n0 T cells slots) {cd : ClassFile.Cond} {x : Int32} {o : Int} (pc' : Nat) (hd : decode bs pc = .ok (.ifCond cd o, 3)) (hp : (pc : Int) + o = (pc' : Int)) (hc : cdP cd x 0)
    (hr : Go p e below s n0 Q C N (T.setTop (mkF m pc' Ls st))) : Go p e below s n0 Q C N (T.setTop (mkF m pc Ls (.int x :: st))) := by
  obtain ⟨locs, Y, -⟩ := X
  obtain ⟨hx, -, hby, -⟩ := K
  exact Go.step (fun _ k => XS.ifYes Y.here hx (g := mkF m pc Ls (.int x :: st)) rfl (pc0 := pc) (pc' := pc') rfl (hb hby hd) rfl ((if0 _ _).trans (cdT hc)) (by omega) (by omega) k) hr
theorem g_ifF (K : Cx p s m meth c Z own nm bs ml rt) (X : Sd p l e R s m args below meth c n0 T cells slots) {cd : ClassFile.Cond} {x : Int32} {o : Int} (pc' : Nat) (hd : decode bs pc = .ok (.ifCond cd o, 3)) (hp : pc + 3 = pc') (hc : ¬ cdP cd x 0)
    (hr : Go p e below s n0 Q C N (T.setTop (mkF m pc' Ls st))) : Go p e below s n0 Q C N (T.setTop (mkF m pc Ls (.int x :: st))) := by
  obtain ⟨locs, Y, -⟩ := X
  obtain ⟨hx, -, hby, -⟩ := K
  subst hp
  exact Go.step (fun _ k => XS.ifNo Y.here hx (g := mkF m pc Ls (.int x :: st)) rfl (hb hby hd) rfl ((if0 _ _).trans (cdF hc)) k) hr
theorem g_icmp (K : Cx p s m meth c Z own nm bs ml rt) (X : Sd p l e R s m args below meth c n0 T cells slots) {cd : ClassFile.Cond} {x y : Int32} {o : Int} (pT pF : Nat) (hd : decode bs pc = .ok (.if_icmp cd o, 3)) (hp : (pc : Int) + o = (pT : Int)) (hq : pc + 3 = pF)
    (ht : cdP cd x y → Go p e below s n0 Q C N (T.setTop (mkF m pT Ls st))) (hf : ¬ cdP cd x y → Go p e below s n0 Q C N (T.setTop (mkF m pF Ls st))) : Go p e below s n0 Q C N (T.setTop (mkF m pc Ls (.int y :: .int x :: st))) :=
  (Classical.em (cdP cd x y)).elim (fun q => g_icmpT K X pT hd hp q (ht q)) (fun q => g_icmpF K X pF hd hq q (hf q))
theorem g_if (K : Cx p s m meth c Z own nm bs ml rt) (X : Sd p l e R s m args below meth c n0 T cells slots) {cd : ClassFile.Cond} {x : Int32} {o : Int} (pT pF : Nat) (hd : decode bs pc = .ok (.ifCond cd o, 3)) (hp : (pc : Int) + o = (pT : Int)) (hq : pc + 3 = pF)
    (ht : cdP cd x 0 → Go p e below s n0 Q C N (T.setTop (mkF m pT Ls st))) (hf : ¬ cdP cd x 0 → Go p e below s n0 Q C N (T.setTop (mkF m pF Ls st))) : Go p e below s n0 Q C N (T.setTop (mkF m pc Ls (.int x :: st))) :=
  (Classical.em (cdP cd x 0)).elim (fun q => g_ifT K X pT hd hp q (ht q)) (fun q => g_ifF K X pF hd hq q (hf q))
theorem g_acmpT (K : Cx p s m meth c Z own nm bs ml rt) (X : Sd p l e R s m args below meth c n0 T cells slots) {cd : ACond} {x y : Value} {o : Int} (pc' : Nat) (hd : decode bs pc = .ok (.if_acmp cd o, 3)) (hp : (pc : Int) + o = (pc' : Int)) (h1 : x.isRef = true) (h2 : y.isRef = true) (hc : acV cd (decide (x = y)) = true)
    (hr : Go p e below s n0 Q C N (T.setTop (mkF m pc' Ls st))) : Go p e below s n0 Q C N (T.setTop (mkF m pc Ls (y :: x :: st))) := by
  obtain ⟨locs, Y, -⟩ := X
  obtain ⟨hx, -, hby, -⟩ := K
  exact Go.step (fun _ k => acmp Y hx (g := mkF m pc Ls (y :: x :: st)) rfl h1 h2 (pc0 := pc) (pc' := pc') rfl (hb hby hd) rfl rfl (by omega) (by rw [if_pos hc]; omega) k) hr
theorem g_acmpF (K : Cx p s m meth c Z own nm bs ml rt) (X : Sd p l e R s m args below meth c n0 T cells slots) {cd : ACond} {x y : Value} {o : Int} (pc' : Nat) (hd : decode bs pc = .ok (.if_acmp cd o, 3)) (hp : pc + 3 = pc') (ho : 0 ≤ (pc : Int) + o) (h1 : x.isRef = true) (h2 : y.isRef = true) (hc : acV cd (decide (x = y)) = false)
    (hr : Go p e below s n0 Q C N (T.setTop (mkF m pc' Ls st))) : Go p e below s n0 Q C N (T.setTop (mkF m pc Ls (y :: x :: st))) := by
  obtain ⟨locs, Y, -⟩ := X
  obtain ⟨hx, -, hby, -⟩ := K
  exact Go.step (fun _ k => acmp Y hx (g := mkF m pc Ls (y :: x :: st)) rfl h1 h2 (pc0 := pc) (pc' := pc') rfl (hb hby hd) rfl rfl ho (by rw [if_neg (by rw [hc]; exact Bool.false_ne_true)]; exact hp.symm) k) hr
theorem g_ldcI (K : Cx p s m meth c Z own nm bs ml rt) (X : Sd p l e R s m args below meth c n0 T cells slots) {index : Nat} {v : Int32} (w : (Jvm.Cond.constant own index v).before a0 Z = true) (pc' : Nat) (hd : decode bs pc = .ok (.ldc index, 2)) (hp : pc + 2 = pc')
    (hr : Go p e below s n0 Q C N (T.setTop (mkF m pc' Ls (.int v :: st)))) : Go p e below s n0 Q C N (T.setTop (mkF m pc Ls st)) := by
  obtain ⟨locs, Y, -⟩ := X
  obtain ⟨hx, hZ, hby, -, hown, -⟩ := K
  subst hp
  exact Go.step (fun _ k => Y.ldcI hx hown (mvT hZ w) (g := mkF m pc Ls st) rfl (hb hby hd) k) hr
theorem g_ldc2J (K : Cx p s m meth c Z own nm bs ml rt) (X : Sd p l e R s m args below meth c n0 T cells slots) {index : Nat} {v : Int64} (w : (Jvm.Cond.constantLong own index v).before a0 Z = true) (pc' : Nat) (hd : decode bs pc = .ok (.ldc2_w index, 3)) (hp : pc + 3 = pc')
    (hr : Go p e below s n0 Q C N (T.setTop (mkF m pc' Ls (.long v :: st)))) : Go p e below s n0 Q C N (T.setTop (mkF m pc Ls st)) := by
  obtain ⟨locs, Y, -⟩ := X
  obtain ⟨hx, hZ, hby, -, hown, -⟩ := K
  subst hp
  exact Go.step (fun _ k => Y.ldc2J hx hown (mvT hZ w) (g := mkF m pc Ls st) rfl (hb hby hd) k) hr
theorem g_getF (K : Cx p s m meth c Z own nm bs ml rt) (X : Sd p l e R s m args below meth c n0 T cells slots) (eh : T.heap = h) {O n d : String} {index : Nat} (w : (Jvm.Cond.fieldLink own index O n d).before a0 Z = true) {a : Addr} {v : Value} (F : Fld Z h a O n d v) (pc' : Nat) (hd : decode bs pc = .ok (.getfield index, 3)) (hp : pc + 3 = pc')
    (hr : ∀ T', Sd p l e R s m args below meth c n0 T' cells slots → T'.heap = h → Go p e below s n0 Q C N (T'.setTop (mkF m pc' Ls (v :: st)))) : Go p e below s n0 Q C N (T.setTop (mkF m pc Ls (.ref a :: st))) := by
  obtain ⟨locs, Y, hN⟩ := X
  obtain ⟨hx, hZ, hby, -, hown, -⟩ := K
  subst hp
  obtain ⟨T', X', e', k⟩ := getF Y hx hZ hown (host := "") (Or.inl w) Via.refl eh F (g := mkF m pc Ls (.ref a :: st)) rfl rfl (hb hby hd)
  exact Go.step k (hr T' ⟨locs, X', hN⟩ e')
theorem g_putF (K : Cx p s m meth c Z own nm bs ml rt) (X : Sd p l e R s m args below meth c n0 T cells slots) (eh : T.heap = h) {O n d D : String} {index kk : Nat} {ty : FieldType} (w : (Jvm.Cond.fieldLink own index O n d).before a0 Z = true) {a : Addr} {v old : Value} (F : Fld Z h a O n d old) (E : Exa Z h a D) (L : (Jvm.Cond.lays D O n d).before a0 Z = true ∨ ((Jvm.Cond.laysFinal D O n d).before a0 Z = true ∧ own = O ∧ nm = "<init>")) (wi : (Jvm.Cond.instantiable D kk).before a0 Z = true)
    (hty : parseFieldDescriptor d = some ty) (hn : narrow ty v = v) (hf : fits ty v = true) (ge : n0 ≤ a) (pc' : Nat) (hd : decode bs pc = .ok (.putfield index, 3)) (hp : pc + 3 = pc')
    (hr : ∀ T' h', Sd p l e R s m args below meth c n0 T' cells slots → T'.heap = h' → Wr h h' a (Jvm.RoadKit.slotOf Z O n d) v → Go p e below s n0 Q C N (T'.setTop (mkF m pc' Ls st))) : Go p e below s n0 Q C N (T.setTop (mkF m pc Ls (v :: .ref a :: st))) := by
  obtain ⟨locs, Y, hN⟩ := X
  obtain ⟨hx, hZ, hby, -, hown, hnm, -⟩ := K
  subst hp
  obtain ⟨T', h', X', e', W, k⟩ := putF Y hx hZ hown (host := "") (Or.inl w) Via.refl eh F E (L.imp id fun q => ⟨q.1, q.2.1, hnm.trans q.2.2⟩) wi hty hn hf (g := mkF m pc Ls (v :: .ref a :: st)) rfl rfl (hb hby hd)
  exact Go.step k (hr T' h' ⟨_, X', Fr.snoc X' hN ge⟩ e' W)
theorem g_new (K : Cx p s m meth c Z own nm bs ml rt) (X : Sd p l e R s m args below meth c n0 T cells slots) (eh : T.heap = h) {D : String} {index n : Nat} (w : (Jvm.Cond.classLink own index D).before a0 Z = true) (wi : (Jvm.Cond.instantiable D n).before a0 Z = true) (wz : (Jvm.Cond.initialized D).before a0 Z = true) (pc' : Nat) (hd : decode bs pc = .ok (.new index, 3)) (hp : pc + 3 = pc') (hc : cells + 1 ≤ R.cells) (hl : slots + n ≤ R.slots)
    (hr : ∀ T' h' a, a = h.size → Sd p l e R s m args below meth c n0 T' (cells + 1) (slots + n) → T'.heap = h' → Ext h h' → Exa Z h' a D → (∀ {O nm d : String} {ty : FieldType}, Laid Z a0 D O nm d → parseFieldDescriptor d = some ty → Fld Z h' a O nm d (defaultValue ty)) → Go p e below s n0 Q C N (T'.setTop (mkF m pc' Ls (.ref a :: st)))) : Go p e below s n0 Q C N (T.setTop (mkF m pc Ls st)) := by
  obtain ⟨locs, Y, hN⟩ := X
  obtain ⟨hx, hZ, hby, -, hown, -⟩ := K
  subst hp
  obtain ⟨T', h', X', e', E, A, D', -, k⟩ := newO Y hx hZ hown w wi wz eh (g := mkF m pc Ls st) rfl (hb hby hd) hc hl
  exact Go.step k (hr T' h' h.size rfl ⟨locs, X', hN⟩ e' E A D')
theorem g_newA (K : Cx p s m meth c Z own nm bs ml rt) (X : Sd p l e R s m args below meth c n0 T cells slots) (eh : T.heap = h) {aty : ArrayType} (w : (Jvm.Cond.arrayClass (newarray.typeOf aty)).before a0 Z = true) (pc' : Nat) (hd : decode bs pc = .ok (.newarray aty, 2)) (hp : pc + 2 = pc') {z : Int32} {n cap : Nat} (hz : z.toInt = (n : Int)) (hcap : n ≤ cap) (hb' : cap * 8 ≤ 536870912) (hdv : defaultValue (newarray.typeOf aty) = .int 0) (hc : cells + 1 ≤ R.cells) (hl : slots + cap ≤ R.slots)
    (hr : ∀ T' h' a, a = h.size → Sd p l e R s m args below meth c n0 T' (cells + 1) (slots + cap) → T'.heap = h' → Ext h h' → Ai Z h' a (newarray.typeOf aty) n (fun _ => 0) → Exa Z h' a ("[" ++ (newarray.typeOf aty).toString) → Go p e below s n0 Q C N (T'.setTop (mkF m pc' Ls (.ref a :: st)))) : Go p e below s n0 Q C N (T.setTop (mkF m pc Ls (.int z :: st))) := by
  obtain ⟨locs, Y, hN⟩ := X
  obtain ⟨hx, hZ, hby, -, hown, -⟩ := K
  subst hp
  have ez : z.toNatClampNeg = n := by rw [Int32.toNatClampNeg, hz]; rfl
  have hz0 : ¬ z < 0 := by
    rw [Int32.lt_iff_toInt_lt, hz, show (0 : Int32).toInt = 0 from rfl]; omega
  obtain ⟨T', h', cA, X', e', E, A, B, k⟩ := newPE Y hx hZ w eh (g := mkF m pc Ls (.int z :: st)) rfl (hb hby hd) (n := z) rfl hz0 (cap := cap) (by rw [ez]; exact hcap) hb' hc hl rfl
  exact Go.step k (hr T' h' h.size rfl ⟨locs, X', hN⟩ e' E (Ai.new A hz (by omega) hdv) B)
theorem g_len (K : Cx p s m meth c Z own nm bs ml rt) (X : Sd p l e R s m args below meth c n0 T cells slots) (eh : T.heap = h) {a : Addr} {ty : FieldType} {n : Nat} {f : Nat → Int32} (A : Ai Z h a ty n f) (v : Int32) (hv : Int32.ofNat n = v) (pc' : Nat) (hd : decode bs pc = .ok (.arraylength, 1)) (hp : pc + 1 = pc')
    (hr : Go p e below s n0 Q C N (T.setTop (mkF m pc' Ls (.int v :: st)))) : Go p e below s n0 Q C N (T.setTop (mkF m pc Ls (.ref a :: st))) := by
  obtain ⟨locs, Y, -⟩ := X
  obtain ⟨hx, hZ, hby, -⟩ := K
  obtain ⟨cl, A, S, -⟩ := A
  subst hp hv
  refine Go.step (fun target k => Y.arraylength hx (cell := cl) (by rw [eh]; exact A.1) (State.isArrayOf_alike hZ.alike A.2.1) (g := mkF m pc Ls (.ref a :: st)) rfl (rest := st) rfl (hb hby hd) target ?_) hr
  rw [S]
  exact k
theorem g_iaload (K : Cx p s m meth c Z own nm bs ml rt) (X : Sd p l e R s m args below meth c n0 T cells slots) (eh : T.heap = h) {a : Addr} {n : Nat} {f : Nat → Int32} (A : Ai Z h a .int n f) {j : Int32} (k : Nat) (hj : j.toInt = (k : Int)) (hk : k < n) (v : Int32) (hv : f k = v) (pc' : Nat) (hd : decode bs pc = .ok (.iaload, 1)) (hp : pc + 1 = pc')
    (hr : Go p e below s n0 Q C N (T.setTop (mkF m pc' Ls (.int v :: st)))) : Go p e below s n0 Q C N (T.setTop (mkF m pc Ls (.int j :: .ref a :: st))) := by
  obtain ⟨locs, Y, -⟩ := X
  obtain ⟨hx, hZ, hby, -⟩ := K
  obtain ⟨cl, A, S, -, H⟩ := A
  subst hp hv
  obtain ⟨i1, i2⟩ := idx_ok hj hk
  exact Go.step (fun target kk => Y.iaload hx (j := j) (v := .int (f k)) (by rw [eh]; exact A.1) (State.isArrayOf_alike hZ.alike A.2.1) A.2.2 (by rw [S]; exact i1) (by rw [i2]; exact H k hk) (g := mkF m pc Ls (.int j :: .ref a :: st)) rfl rfl (hb hby hd) target kk) hr
theorem g_baload (K : Cx p s m meth c Z own nm bs ml rt) (X : Sd p l e R s m args below meth c n0 T cells slots) (eh : T.heap = h) {a : Addr} {n : Nat} {f : Nat → Int32} (A : Ai Z h a .byte n f) {j : Int32} (k : Nat) (hj : j.toInt = (k : Int)) (hk : k < n) (v : Int32) (hv : f k = v) (pc' : Nat) (hd : decode bs pc = .ok (.baload, 1)) (hp : pc + 1 = pc')
    (hr : Go p e below s n0 Q C N (T.setTop (mkF m pc' Ls (.int v :: st)))) : Go p e below s n0 Q C N (T.setTop (mkF m pc Ls (.int j :: .ref a :: st))) := by
  obtain ⟨locs, Y, -⟩ := X
  obtain ⟨hx, hZ, hby, -⟩ := K
  obtain ⟨cl, A, S, -, H⟩ := A
  subst hp hv
  obtain ⟨i1, i2⟩ := idx_ok hj hk
  exact Go.step (fun target kk => Y.baloadBytes hx (j := j) (v := .int (f k)) (by rw [eh]; exact A.1) (State.isArrayOf_alike hZ.alike A.2.1) A.2.2 (by rw [S]; exact i1) (by rw [i2]; exact H k hk) (g := mkF m pc Ls (.int j :: .ref a :: st)) rfl rfl (hb hby hd) target kk) hr
theorem g_iastore (K : Cx p s m meth c Z own nm bs ml rt) (X : Sd p l e R s m args below meth c n0 T cells slots) (eh : T.heap = h) {a : Addr} {n : Nat} {f : Nat → Int32} (A : Ai Z h a .int n f) {j x : Int32} (k : Nat) (hj : j.toInt = (k : Int)) (hk : k < n) (v : Int32) (hv : x = v) (ge : n0 ≤ a) (pc' : Nat) (hd : decode bs pc = .ok (.iastore, 1)) (hp : pc + 1 = pc')
    (hr : ∀ T' h', Sd p l e R s m args below meth c n0 T' cells slots → T'.heap = h' → Wr h h' a k (.int v) → Ai Z h' a .int n (upA f k v) → Go p e below s n0 Q C N (T'.setTop (mkF m pc' Ls st))) : Go p e below s n0 Q C N (T.setTop (mkF m pc Ls (.int x :: .int j :: .ref a :: st))) := by
  obtain ⟨locs, Y, hN⟩ := X
  obtain ⟨hx, hZ, hby, -⟩ := K
  have A' := A
  obtain ⟨cl, B, S, -, H⟩ := A
  subst hp hv
  obtain ⟨i1, i2⟩ := idx_ok hj hk
  obtain ⟨T', h', X', e', W, kk⟩ := stI Y hx hZ eh B (j := j) (x := x) (by rw [S]; exact i1) (g := mkF m pc Ls (.int x :: .int j :: .ref a :: st)) rfl (rest := st) rfl (hb hby hd)
  rw [i2] at W
  exact Go.step kk (hr T' h' ⟨_, X', Fr.snoc X' hN ge⟩ e' W (A'.set W))
theorem g_bastore (K : Cx p s m meth c Z own nm bs ml rt) (X : Sd p l e R s m args below meth c n0 T cells slots) (eh : T.heap = h) {a : Addr} {n : Nat} {f : Nat → Int32} (A : Ai Z h a .byte n f) {j x : Int32} (k : Nat) (hj : j.toInt = (k : Int)) (hk : k < n) (v : Int32) (hv : x.toInt8.toInt32 = v) (ge : n0 ≤ a) (pc' : Nat) (hd : decode bs pc = .ok (.bastore, 1)) (hp : pc + 1 = pc')
    (hr : ∀ T' h', Sd p l e R s m args below meth c n0 T' cells slots → T'.heap = h' → Wr h h' a k (.int v) → Ai Z h' a .byte n (upA f k v) → Go p e below s n0 Q C N (T'.setTop (mkF m pc' Ls st))) : Go p e below s n0 Q C N (T.setTop (mkF m pc Ls (.int x :: .int j :: .ref a :: st))) := by
  obtain ⟨locs, Y, hN⟩ := X
  obtain ⟨hx, hZ, hby, -⟩ := K
  have A' := A
  obtain ⟨cl, B, S, -, H⟩ := A
  subst hp hv
  obtain ⟨i1, i2⟩ := idx_ok hj hk
  obtain ⟨T', h', X', e', W, kk⟩ := stB Y hx hZ eh B (j := j) (x := x) (by rw [S]; exact i1) (g := mkF m pc Ls (.int x :: .int j :: .ref a :: st)) rfl (rest := st) rfl (hb hby hd)
  rw [i2] at W
  exact Go.step kk (hr T' h' ⟨_, X', Fr.snoc X' hN ge⟩ e' W (A'.set W))
theorem g_initO (K : Cx p s m meth c Z own nm bs ml rt) (X : Sd p l e R s m args below meth c n0 T cells slots) (eh : T.heap = h) (hsz : Ls.size = ml) {idx : Nat} (w1 : (Jvm.Cond.methodLink own idx Lib.objectInit).before a0 Z = true) (w2 : (Jvm.Cond.instanceMethod Lib.objectInit).before a0 Z = true) (w3 : (Jvm.Cond.code Lib.objectInit ⟨#[0xb1]⟩ 1 none).before a0 Z = true) {a : Addr} (pc' : Nat) (hd : decode bs pc = .ok (.invokespecial idx, 3)) (hp : pc + 3 = pc') (hf : 1 ≤ R.frames) (W : Nat) (hW : (st.map fun v => v.category).sum ≤ W) (hl : W + 12 ≤ R.locals)
    (hr : ∀ T', Sd p l e R s m args below meth c n0 T' cells slots → T'.heap = h → Go p e below s n0 Q C N (T'.setTop (mkF m pc' Ls st))) : Go p e below s n0 Q C N (T.setTop (mkF m pc Ls (.ref a :: st))) := by
  obtain ⟨locs, Y, hN⟩ := X
  obtain ⟨hx, hZ, hby, hml, hown, -⟩ := K
  subst hp
  obtain ⟨T', X', e', k⟩ := initO Y hx hZ hown w1 w2 w3 eh (g := mkF m pc Ls (.ref a :: st)) rfl (by rw [hml]; exact hsz) (a := a) (rest := st) rfl (hb hby hd) hf (W := W) (by show 2 * 0 + _ ≤ _; rw [Nat.mul_zero, Nat.zero_add]; exact hW) hl
  exact Go.step k (hr T' ⟨locs, X', hN⟩ e')
theorem g_special (K : Cx p s m meth c Z own nm bs ml rt) (X : Sd p l e R s m args below meth c n0 T cells slots) (eh : T.heap = h) (hsz : Ls.size = ml) {index : Nat} {y : MethodName} (hy1 : y.name = "<init>") {bytes : ByteArray} {maxL : Nat} {rm : Room} {as' : Array Value} {Q' : Option Value → Heap → Prop} (hM : Met l Z y bytes maxL none [] rm as' h n0 Q')
    (w1 : (Jvm.Cond.methodLink own index y).before a0 Z = true) (w2 : (Jvm.Cond.instanceMethod y).before a0 Z = true) (w3 : (Jvm.Cond.code y bytes maxL none).before a0 Z = true) (w4 : (Jvm.Cond.initialized y.cls).before a0 Z = true) (hy : y.cls ≠ "java/lang/invoke/MethodHandle" ∧ y.cls ≠ "java/lang/invoke/VarHandle")
    {a : Addr} (argsL : List Value) {S : List Value} (hS : argsL.reverse ++ .ref a :: st = S) (has : (.ref a :: argsL).toArray = as') (hlen : ∀ sig, parseMethodDescriptor y.desc = some sig → argsL.length = sig.parameters.length) (pc' : Nat) (hd : decode bs pc = .ok (.invokespecial index, 3)) (hp : pc + 3 = pc') (W : Nat) (hW : (st.map fun v => v.category).sum ≤ W) (hf : rm.frames + 1 ≤ R.frames) (hl : W + (maxL + 11) + rm.locals ≤ R.locals) (hc : cells + rm.cells ≤ R.cells) (hs : slots + rm.slots ≤ R.slots)
    (hr : ∀ T' v h', Sd p l e R s m args below meth c n0 T' (cells + rm.cells) (slots + rm.slots) → T'.heap = h' → Q' v h' → Go p e below s n0 Q C N (T'.setTop (mkF m pc' Ls (v.toList ++ st)))) : Go p e below s n0 Q C N (T.setTop (mkF m pc Ls S)) := by
  obtain ⟨locs, Y, hN⟩ := X
  obtain ⟨hx, hZ, hby, hml, hown, -⟩ := K
  subst hp hS has
  obtain ⟨v, vm1, ⟨T', L', k', n'⟩, -, X', ⟨Lc, ⟨hQ, hF⟩, l1, l2, l3⟩, k⟩ := Y.specialBack hx hy1 hown (mvT hZ w1) (mvT hZ w2) (mvT hZ w3) hy (backOf (W := W) (Q := fun v h L => Q' v h ∧ Fr n0 L) hM hZ w3 w4 hf hl) (g := mkF m pc Ls (argsL.reverse ++ .ref a :: st)) rfl (by rw [hml]; exact hsz) (Steps.refl _) (a := a) (argsL := argsL) (rest := st) hlen rfl (by show 2 * 0 + _ ≤ _; rw [Nat.mul_zero, Nat.zero_add]; exact hW) (hb hby hd) (fun _ _ => ⟨rfl, eh, hc, hs⟩)
  dsimp only [Pt.U, Pt.locs, Pt.cells, Pt.slots] at X' l1 l2 l3 k hQ
  subst l1 l2 l3
  exact Go.trans k (hr T' v T'.heap ⟨_, X', hN.app hF⟩ rfl hQ)
theorem g_static (K : Cx p s m meth c Z own nm bs ml rt) (X : Sd p l e R s m args below meth c n0 T cells slots) (eh : T.heap = h) (hsz : Ls.size = ml) {index : Nat} {y : MethodName} {bytes : ByteArray} {maxL : Nat} {ret : Option FieldType} {rm : Room} {as' : Array Value} {Q' : Option Value → Heap → Prop} (hM : Met l Z y bytes maxL ret [] rm as' h n0 Q')
    (w1 : (Jvm.Cond.methodLink own index y).before a0 Z = true) (w2 : (Jvm.Cond.static y).before a0 Z = true) (w3 : (Jvm.Cond.code y bytes maxL ret).before a0 Z = true) (w4 : (Jvm.Cond.initialized y.cls).before a0 Z = true) (hy : y.cls ≠ "java/lang/invoke/MethodHandle" ∧ y.cls ≠ "java/lang/invoke/VarHandle")
    (argsL : List Value) {S : List Value} (hS : argsL.reverse ++ st = S) (has : argsL.toArray = as') (hlen : ∀ sig, parseMethodDescriptor y.desc = some sig → argsL.length = sig.parameters.length) (pc' : Nat) (hd : decode bs pc = .ok (.invokestatic index, 3)) (hp : pc + 3 = pc') (W : Nat) (hW : (st.map fun v => v.category).sum ≤ W) (hf : rm.frames + 1 ≤ R.frames) (hl : W + (maxL + 11) + rm.locals ≤ R.locals) (hc : cells + rm.cells ≤ R.cells) (hs : slots + rm.slots ≤ R.slots)
    (hr : ∀ T' v h', Sd p l e R s m args below meth c n0 T' (cells + rm.cells) (slots + rm.slots) → T'.heap = h' → Q' v h' → Go p e below s n0 Q C N (T'.setTop (mkF m pc' Ls (v.toList ++ st)))) : Go p e below s n0 Q C N (T.setTop (mkF m pc Ls S)) := by
  obtain ⟨locs, Y, hN⟩ := X
  obtain ⟨hx, hZ, hby, hml, hown, -⟩ := K
  subst hp hS has
  obtain ⟨v, vm1, ⟨T', L', k', n'⟩, -, X', ⟨Lc, ⟨hQ, hF⟩, l1, l2, l3⟩, k⟩ := Jvm.LawKit.callS Y hx hown (mvT hZ w1) (mvT hZ w2) (mvT hZ w4) (mvT hZ w3) hy (backOf (W := W) (Q := fun v h L => Q' v h ∧ Fr n0 L) hM hZ w3 w4 hf hl) (g := mkF m pc Ls (argsL.reverse ++ st)) rfl (by rw [hml]; exact hsz) (argsL := argsL) (rest := st) hlen rfl (by show 2 * 0 + _ ≤ _; rw [Nat.mul_zero, Nat.zero_add]; exact hW) (hb hby hd) (fun _ _ => ⟨rfl, eh, hc, hs⟩)
  dsimp only [Pt.U, Pt.locs, Pt.cells, Pt.slots] at X' l1 l2 l3 k hQ
  subst l1 l2 l3
  exact Go.step k (hr T' v T'.heap ⟨_, X', hN.app hF⟩ rfl hQ)
theorem g_virtual (K : Cx p s m meth c Z own nm bs ml rt) (X : Sd p l e R s m args below meth c n0 T cells slots) (eh : T.heap = h) (hsz : Ls.size = ml) {index : Nat} {D : String} {y : MethodName} {bytes : ByteArray} {maxL : Nat} {ret : Option FieldType} {rm : Room} {as' : Array Value} {Q' : Option Value → Heap → Prop} (hM : Met l Z y bytes maxL ret [] rm as' h n0 Q')
    (w1 : (Jvm.Cond.methodLink own index y).before a0 Z = true) (w2 : (Jvm.Cond.declares y).before a0 Z = true) (w5 : (Jvm.Cond.selects D y y).before a0 Z = true) (w6 : (Jvm.Cond.instanceMethod y).before a0 Z = true) (w3 : (Jvm.Cond.code y bytes maxL ret).before a0 Z = true) (w4 : (Jvm.Cond.initialized y.cls).before a0 Z = true) (hy : y.cls ≠ "java/lang/invoke/MethodHandle" ∧ y.cls ≠ "java/lang/invoke/VarHandle")
    {a : Addr} (E : Exa Z h a D) (argsL : List Value) {S : List Value} (hS : argsL.reverse ++ .ref a :: st = S) (has : (.ref a :: argsL).toArray = as') (hlen : ∀ sig, parseMethodDescriptor y.desc = some sig → argsL.length = sig.parameters.length) (pc' : Nat) (hd : decode bs pc = .ok (.invokevirtual index, 3)) (hp : pc + 3 = pc') (W : Nat) (hW : (st.map fun v => v.category).sum ≤ W) (hf : rm.frames + 1 ≤ R.frames) (hl : W + (maxL + 11) + rm.locals ≤ R.locals) (hc : cells + rm.cells ≤ R.cells) (hs : slots + rm.slots ≤ R.slots)
    (hr : ∀ T' v h', Sd p l e R s m args below meth c n0 T' (cells + rm.cells) (slots + rm.slots) → T'.heap = h' → Q' v h' → Go p e below s n0 Q C N (T'.setTop (mkF m pc' Ls (v.toList ++ st)))) : Go p e below s n0 Q C N (T.setTop (mkF m pc Ls S)) := by
  obtain ⟨locs, Y, hN⟩ := X
  obtain ⟨hx, hZ, hby, hml, hown, -⟩ := K
  subst hp hS has
  obtain ⟨cq, kq, qa, qb, qc⟩ := isOf hZ eh E
  obtain ⟨v, vm1, ⟨T', L', k', n'⟩, -, X', ⟨Lc, ⟨hQ, hF⟩, l1, l2, l3⟩, k⟩ := Y.virtualBack hx (y := y) (z := y) hown (mvT hZ w1) (mvT hZ w2) (notFace_of_selects (args := #[]) (mvT hZ w5)) (mvT hZ w5) (mvT hZ w6) hy (backOf (W := W) (Q := fun v h L => Q' v h ∧ Fr n0 L) hM hZ w3 w4 hf hl) qa qc (g := mkF m pc Ls (argsL.reverse ++ .ref a :: st)) rfl (by rw [hml]; exact hsz) (Steps.refl _) (argsL := argsL) (rest := st) hlen rfl (by show 2 * 0 + _ ≤ _; rw [Nat.mul_zero, Nat.zero_add]; exact hW) (hb hby hd) (fun _ _ => ⟨rfl, eh, hc, hs⟩)
  dsimp only [Pt.U, Pt.locs, Pt.cells, Pt.slots] at X' l1 l2 l3 k hQ
  subst l1 l2 l3
  exact Go.trans k (hr T' v T'.heap ⟨_, X', hN.app hF⟩ rfl hQ)
theorem g_private (K : Cx p s m meth c Z own nm bs ml rt) (X : Sd p l e R s m args below meth c n0 T cells slots) (eh : T.heap = h) (hsz : Ls.size = ml) {index : Nat} {y : MethodName} {bytes : ByteArray} {maxL kk : Nat} {ret : Option FieldType} {rm : Room} {as' : Array Value} {Q' : Option Value → Heap → Prop} (hM : Met l Z y bytes maxL ret [] rm as' h n0 Q')
    (w1 : (Jvm.Cond.methodLink own index y).before a0 Z = true) (w2 : (Jvm.Cond.instanceMethod y).before a0 Z = true) (w5 : (Jvm.Cond.privateMethod y).before a0 Z = true) (wi : (Jvm.Cond.instantiable y.cls kk).before a0 Z = true) (w3 : (Jvm.Cond.code y bytes maxL ret).before a0 Z = true) (w4 : (Jvm.Cond.initialized y.cls).before a0 Z = true) (hy : y.cls ≠ "java/lang/invoke/MethodHandle" ∧ y.cls ≠ "java/lang/invoke/VarHandle")
    {D : String} {a : Addr} (E : Exa Z h a D) (argsL : List Value) {S : List Value} (hS : argsL.reverse ++ .ref a :: st = S) (has : (.ref a :: argsL).toArray = as') (hlen : ∀ sig, parseMethodDescriptor y.desc = some sig → argsL.length = sig.parameters.length) (pc' : Nat) (hd : decode bs pc = .ok (.invokevirtual index, 3)) (hp : pc + 3 = pc') (W : Nat) (hW : (st.map fun v => v.category).sum ≤ W) (hf : rm.frames + 1 ≤ R.frames) (hl : W + (maxL + 11) + rm.locals ≤ R.locals) (hc : cells + rm.cells ≤ R.cells) (hs : slots + rm.slots ≤ R.slots)
    (hr : ∀ T' v h', Sd p l e R s m args below meth c n0 T' (cells + rm.cells) (slots + rm.slots) → T'.heap = h' → Q' v h' → Go p e below s n0 Q C N (T'.setTop (mkF m pc' Ls (v.toList ++ st)))) : Go p e below s n0 Q C N (T.setTop (mkF m pc Ls S)) := by
  obtain ⟨locs, Y, hN⟩ := X
  obtain ⟨hx, hZ, hby, hml, hown, -⟩ := K
  subst hp hS has
  have hpriv : s.PrivateAt y := Cond.privateMethod_at (mvP hZ w5 (args := #[]))
  have wi' : (Jvm.Cond.instantiable y.cls kk).before args s = true := mvT hZ wi
  obtain ⟨ci, ki, i1, i2, -, i4, -⟩ := Cond.instantiable_spec wi'
  have hsel : (Jvm.Cond.selects y.cls y y).before args s = true := Jvm.Stand.selects_self_of_private i1 i2 (by cases hb2 : ki.isInterface <;> simp_all) hpriv (mvT hZ w2 : (Jvm.Cond.instanceMethod y).before args s = true) hy
  obtain ⟨cl, q1, q2⟩ := E.cell
  obtain ⟨v, vm1, ⟨T', L', k', n'⟩, -, X', ⟨Lc, ⟨hQ, hF⟩, l1, l2, l3⟩, k⟩ := Y.privateBack hx (y := y) hown (mvT hZ w1) (mvT hZ w2) hsel hpriv (mvT hZ w3) hy (backOf (W := W) (Q := fun v h L => Q' v h ∧ Fr n0 L) hM hZ w3 w4 hf hl) (g := mkF m pc Ls (argsL.reverse ++ .ref a :: st)) rfl (by rw [hml]; exact hsz) (Steps.refl _) (a := a) (cell := cl) (by rw [eh]; exact q1) q2 (argsL := argsL) (rest := st) hlen rfl (by show 2 * 0 + _ ≤ _; rw [Nat.mul_zero, Nat.zero_add]; exact hW) (hb hby hd) (fun _ _ => ⟨rfl, eh, hc, hs⟩)
  dsimp only [Pt.U, Pt.locs, Pt.cells, Pt.slots] at X' l1 l2 l3 k hQ
  subst l1 l2 l3
  exact Go.trans k (hr T' v T'.heap ⟨_, X', hN.app hF⟩ rfl hQ)
/-- an array of bytes -/
def Ab (Z : State) (h : Heap) (a : Addr) (n : Nat) (f : Nat → Int32) : Prop := Ai Z h a .byte n f ∧ ∀ j, j < n → (f j).toInt8.toInt32 = f j
def bl (f : Nat → Int32) (n : Nat) : List Value := (List.range n).map fun j => .int (f j)
theorem bl_len (f : Nat → Int32) (n : Nat) : (bl f n).length = n := by simp [bl]
theorem bl_at (f : Nat → Int32) {n j : Nat} (h : j < n) (d : Value) : (bl f n).getD j d = .int (f j) := by simp [bl, List.getD_eq_getElem?_getD, h]
theorem i32n {n : Nat} (hn : n < 2 ^ 31) : (Int32.ofNat n).toNatClampNeg = n ∧ ¬ Int32.ofNat n < 0 := by
  have e : (Int32.ofNat n).toInt = (n : Int) := Int32.toInt_ofNat_of_lt (by omega)
  refine ⟨by rw [Int32.toNatClampNeg, e]; rfl, ?_⟩
  rw [Int32.lt_iff_toInt_lt, e, show (0 : Int32).toInt = 0 from rfl]; omega
theorem Ab.arv {a : Addr} {n : Nat} {f : Nat → Int32} (A : Ab Z h a n f) : ∃ k, Arv Z h a k .byte (Int32.ofNat n) (bl f n) (.int 0) := by
  obtain ⟨⟨cl, A, S, B, H⟩, G⟩ := A
  obtain ⟨z1, z2⟩ := i32n B
  refine ⟨cl.cls, cl, A, rfl, by rw [z1]; exact S, z2, fun j hj => ?_, fun j hj => ?_⟩
  · rw [S] at hj
    rw [bl_at f hj]; exact H j hj
  · rw [S] at hj
    rw [bl_at f hj, ← G j hj]; exact fits_nar_byte _
theorem Ai.of_arv {a : Addr} {k : ClassId} {n : Nat} {vs : List Value} {d : Value} {g : Nat → Int32} {ty : FieldType} (hn : n < 2 ^ 31) (A : Arv Z h a k ty (Int32.ofNat n) vs d) (hg : ∀ j, j < n → vs.getD j d = .int (g j)) : Ai Z h a ty n g := by
  obtain ⟨cl, A, -, S, -, H, -⟩ := A
  obtain ⟨z1, -⟩ := i32n hn
  rw [z1] at S
  exact ⟨cl, A, S, hn, fun j hj => by rw [H j (by rw [S]; exact hj), hg j hj]⟩
theorem Ab.ext {h' : Heap} {a : Addr} {n : Nat} {f : Nat → Int32} (A : Ab Z h a n f) (E : Ext h h') : Ab Z h' a n f := ⟨A.1.ext E, A.2⟩
theorem Ab.other {h' : Heap} {a b : Addr} {n sl : Nat} {f : Nat → Int32} {v : Value} (A : Ab Z h b n f) (W : Wr h h' a sl v) (q : b ≠ a) : Ab Z h' b n f := ⟨A.1.other W q, A.2⟩
theorem Ab.keep {h' : Heap} {a : Addr} {n : Nat} {f : Nat → Int32} {ws : List Addr} (A : Ab Z h a n f) (K : Keep h h' ws) (q : a ∉ ws) : Ab Z h' a n f := ⟨A.1.keep K q, A.2⟩
theorem Ab.congr {a : Addr} {n : Nat} {f g : Nat → Int32} (A : Ab Z h a n f) (q : ∀ j, j < n → f j = g j) : Ab Z h a n g := ⟨A.1.congr q, fun j hj => by rw [← q j hj]; exact A.2 j hj⟩
theorem Ab.upA {h' : Heap} {a : Addr} {n k : Nat} {f : Nat → Int32} {x : Int32} (A : Ab Z h a n f) (B : Ai Z h' a .byte n (upA f k x)) (hx : x.toInt8.toInt32 = x) : Ab Z h' a n (upA f k x) := ⟨B, fun j hj => by
  by_cases q : j = k
  · subst q; rw [upA_same]; exact hx
  · rw [upA_other q]; exact A.2 j hj⟩
theorem g_cast (K : Cx p s m meth c Z own nm bs ml rt) (X : Sd p l e R s m args below meth c n0 T cells slots) (eh : T.heap = h) {D : String} {index : Nat} (w : (Jvm.Cond.classLink own index D).before a0 Z = true) {a : Addr} (E : Exa Z h a D) (pc' : Nat) (hd : decode bs pc = .ok (.checkcast index, 3)) (hp : pc + 3 = pc')
    (hr : ∀ T', Sd p l e R s m args below meth c n0 T' cells slots → T'.heap = h → Go p e below s n0 Q C N (T'.setTop (mkF m pc' Ls (.ref a :: st)))) : Go p e below s n0 Q C N (T.setTop (mkF m pc Ls (.ref a :: st))) := by
  obtain ⟨locs, Y, hN⟩ := X
  obtain ⟨hx, hZ, hby, -, hown, -⟩ := K
  subst hp
  obtain ⟨T', X', e', k⟩ := castY Y hx hZ hown w eh (Ins.self E) (g := mkF m pc Ls (.ref a :: st)) rfl rfl (hb hby hd)
  exact Go.step k (hr T' ⟨locs, X', hN⟩ e')
theorem g_clone (K : Cx p s m meth c Z own nm bs ml rt) (X : Sd p l e R s m args below meth c n0 T cells slots) (eh : T.heap = h) (hsz : Ls.size = ml) {index : Nat} (w1 : (Jvm.Cond.methodLink own index ⟨"[B", "clone", "()Ljava/lang/Object;"⟩).before a0 Z = true) (w2 : (Jvm.Cond.sameMethod "[B" "java/lang/Object" "clone" "()Ljava/lang/Object;").before a0 Z = true) (w3 : (Jvm.Cond.native ⟨"java/lang/Object", "clone", "()Ljava/lang/Object;"⟩).before a0 Z = true) (w4 : (Jvm.Cond.instanceMethod ⟨"java/lang/Object", "clone", "()Ljava/lang/Object;"⟩).before a0 Z = true) (w5 : (Jvm.Cond.selects "[B" ⟨"[B", "clone", "()Ljava/lang/Object;"⟩ ⟨"java/lang/Object", "clone", "()Ljava/lang/Object;"⟩).before a0 Z = true) (w6 : (Jvm.Cond.castable "[B" "java/lang/Cloneable").before a0 Z = true)
    {a : Addr} {n cap : Nat} {f : Nat → Int32} (A : Ab Z h a n f) (E : Exa Z h a "[B") (hcap : n ≤ cap) (pc' : Nat) (hd : decode bs pc = .ok (.invokevirtual index, 3)) (hp : pc + 3 = pc') (hf : 1 ≤ R.frames) (W : Nat) (hW : (st.map fun v => v.category).sum ≤ W) (hl : W + 14 ≤ R.locals) (hc : cells + 1 ≤ R.cells) (hs : slots + cap ≤ R.slots)
    (hr : ∀ T' h' b, b = h.size → Sd p l e R s m args below meth c n0 T' (cells + 1) (slots + cap) → T'.heap = h' → Ext h h' → Ab Z h' b n f → Exa Z h' b "[B" → Go p e below s n0 Q C N (T'.setTop (mkF m pc' Ls (.ref b :: st)))) : Go p e below s n0 Q C N (T.setTop (mkF m pc Ls (.ref a :: st))) := by
  obtain ⟨locs, Y, hN⟩ := X
  obtain ⟨hx, hZ, hby, hml, hown, -⟩ := K
  subst hp
  have hn := A.1
  obtain ⟨-, -, -, hn, -⟩ := hn
  obtain ⟨k, V⟩ := A.arv
  obtain ⟨z1, -⟩ := i32n hn
  obtain ⟨T', h', X', e', Ex, V', E', kk⟩ := cloneH Y hx hZ hown w1 w2 w3 w4 w5 w6 eh V.arh E (g := mkF m pc Ls (.ref a :: st)) rfl (by rw [hml]; exact hsz) (rest := st) rfl (hb hby hd) hf (W := W) (cap := cap) (by show 2 * 0 + _ ≤ _; rw [Nat.mul_zero, Nat.zero_add]; exact hW) hl (by rw [z1]; exact hcap) hc hs
  have V2 : Arv Z h' h.size k .byte (Int32.ofNat n) (bl f n) (.int 0) := V'
  exact Go.step kk (hr T' h' h.size rfl ⟨locs, X', hN⟩ e' Ex ⟨Ai.of_arv hn V2 (fun j hj => bl_at f hj _), A.2⟩ E')
/-- arraycopy from the start of one array of bytes to the start of another, new one -/
theorem g_acopy (K : Cx p s m meth c Z own nm bs ml rt) (X : Sd p l e R s m args below meth c n0 T cells slots) (eh : T.heap = h) (hsz : Ls.size = ml) {index : Nat} (w1 : (Jvm.Cond.methodLink own index Jvm.Stand.acN).before a0 Z = true) (w2 : (Jvm.Cond.native Jvm.Stand.acN).before a0 Z = true) (w3 : (Jvm.Cond.static Jvm.Stand.acN).before a0 Z = true) (w4 : (Jvm.Cond.initialized "java/lang/System").before a0 Z = true)
    {a b : Addr} {n m' q : Nat} {f g : Nat → Int32} (A : Ab Z h a n f) (B : Ab Z h b m' g) (E : Exa Z h b "[B") (hq1 : q ≤ n) (hq2 : q ≤ m') (ge : n0 ≤ b) {x y z : Int32} (hx0 : x = 0) (hy0 : y = 0) (hz : z = Int32.ofNat q) (pc' : Nat) (hd : decode bs pc = .ok (.invokestatic index, 3)) (hp : pc + 3 = pc') (hf : 1 ≤ R.frames) (W : Nat) (hW : (st.map fun v => v.category).sum ≤ W) (hl : W + (nativeFrameWords "java/lang/System" "arraycopy" 5 + 11) ≤ R.locals)
    (hr : ∀ T' h', Sd p l e R s m args below meth c n0 T' cells slots → T'.heap = h' → Keep h h' [b] → Ab Z h' b m' (fun j => if j < q then f j else g j) → Go p e below s n0 Q C N (T'.setTop (mkF m pc' Ls st))) : Go p e below s n0 Q C N (T.setTop (mkF m pc Ls (.int z :: .int y :: .ref b :: .int x :: .ref a :: st))) := by
  obtain ⟨locs, Y, hN⟩ := X
  obtain ⟨hx, hZ, hby, hml, hown, -⟩ := K
  subst hp hx0 hy0 hz
  have hn := A.1
  obtain ⟨-, -, -, hn, -⟩ := hn
  have hm := B.1
  obtain ⟨-, -, -, hm, -⟩ := hm
  obtain ⟨k, V⟩ := A.arv
  obtain ⟨k', V'⟩ := B.arv
  obtain ⟨n1, -⟩ := i32n hn
  obtain ⟨m1, -⟩ := i32n hm
  obtain ⟨q1, q2⟩ := i32n (n := q) (by omega)
  have z0 : (0 : Int32).toNatClampNeg = 0 := rfl
  obtain ⟨T', h', L, X', e', F', K', V2, kk⟩ := cpA Y hx hZ hown w1 w2 w3 w4 eh (sp := 0) (dp := 0) (nn := Int32.ofNat q) (us := (List.range q).map fun i => (bl f n).getD (0 + i) (.int 0)) V V' (Or.inl ⟨rfl, rfl⟩) (by decide) (by decide) q2 (by rw [z0, q1, n1]; omega) (by rw [z0, q1, m1]; omega) (by rw [q1, z0]) (by rw [z0, q1, bl_len]; omega) hN ge (g := mkF m pc Ls (.int (Int32.ofNat q) :: .int 0 :: .ref b :: .int 0 :: .ref a :: st)) rfl (by rw [hml]; exact hsz) (rest := st) rfl (hb hby hd) hf (W := W) (by show 2 * 0 + _ ≤ _; rw [Nat.mul_zero, Nat.zero_add]; exact hW) hl
  refine Go.step kk (hr T' h' ⟨_, X', F'⟩ e' K' ⟨Ai.of_arv hm V2 (fun j hj => ?_), fun j hj => ?_⟩)
  · rw [z0, q1]
    by_cases hjq : j < q
    · simp [hjq, bl_len, List.getD_eq_getElem?_getD, bl, List.getElem?_append, show j < n by omega]
    · have : j - q + q = j := by omega
      simp [hjq, bl_len, List.getD_eq_getElem?_getD, bl, List.getElem?_append, hj, List.getElem?_drop, show q + (j - q) = j by omega]
  · show (if j < q then f j else g j).toInt8.toInt32 = (if j < q then f j else g j)
    split
    · exact A.2 j (by omega)
    · exact B.2 j hj
theorem g_retN (K : Cx p s m meth c Z own nm bs ml rt) (X : Sd p l e R s m args below meth c n0 T cells slots) (eh : T.heap = h) {t : FieldType} (hret : rt = some t) (ht : t = .boolean ∨ t = .byte ∨ t = .char ∨ t = .short) {x : Int32} (v : Int32) (hv : nar t x = v) (hd : decode bs pc = .ok (.ireturn, 1)) (hC : cells ≤ C) (hS : slots ≤ N) (hq : Q (some (.int v)) h) : Go p e below s n0 Q C N (T.setTop (mkF m pc Ls (.int x :: st))) := by
  obtain ⟨locs, Y, hN⟩ := X
  obtain ⟨hx, hZ, hby, hml, hown, -, hrt, hlk⟩ := K
  subst hv hret
  obtain ⟨fs, hr, hrun, hended, hW, hsame⟩ := Y.leave (v := some (.int (nar t x))) (fun h => by rw [hrt] at h; cases h) hlk
  exact ⟨_, _, retN Y hx hrt ht (hb hby hd) hr, hrun, hended, _, _, rfl, ⟨by rw [← eh] at hq; exact hq, hN⟩, ⟨_, rfl⟩, hW, hsame.mono hC hS⟩
theorem g_retV (K : Cx p s m meth c Z own nm bs ml rt) (X : Sd p l e R s m args below meth c n0 T cells slots) (eh : T.heap = h) {t : FieldType} (hret : rt = some t) {w : Value} {i : Instr} (hn : narrow t w = w)
    (hi : (i = .ireturn ∧ (t = .int ∨ t = .boolean ∨ t = .byte ∨ t = .char ∨ t = .short) ∧ ∃ z, w = .int z) ∨ (i = .lreturn ∧ t = .long ∧ ∃ z, w = .long z) ∨ (i = .dreturn ∧ t = .double ∧ ∃ z, w = .double z) ∨ (i = .freturn ∧ t = .float ∧ ∃ z, w = .float z) ∨ (i = .areturn ∧ t.isReference = true ∧ w.isRef = true))
    (hd : decode bs pc = .ok (i, 1)) (hC : cells ≤ C) (hS : slots ≤ N) (hq : Q (some w) h) : Go p e below s n0 Q C N (T.setTop (mkF m pc Ls (w :: st))) := by
  obtain ⟨locs, Y, hN⟩ := X
  obtain ⟨hx, hZ, hby, hml, hown, -, hrt, hlk⟩ := K
  subst hret
  obtain ⟨fs, hr, hrun, hended, hW, hsame⟩ := Y.leave (v := some w) (fun h => by rw [hrt] at h; cases h) hlk
  exact ⟨_, _, retOut Y hx hrt hn hi (hb hby hd) hr, hrun, hended, _, _, rfl, ⟨by rw [← eh] at hq; exact hq, hN⟩, ⟨_, rfl⟩, hW, hsame.mono hC hS⟩
theorem g_retI (K : Cx p s m meth c Z own nm bs ml rt) (X : Sd p l e R s m args below meth c n0 T cells slots) (eh : T.heap = h) (hret : rt = some .int) {x : Int32} (hd : decode bs pc = .ok (.ireturn, 1)) (hC : cells ≤ C) (hS : slots ≤ N) (hq : Q (some (.int x)) h) : Go p e below s n0 Q C N (T.setTop (mkF m pc Ls (.int x :: st))) :=
  g_retV K X eh hret rfl (Or.inl ⟨rfl, Or.inl rfl, _, rfl⟩) hd hC hS hq
theorem g_retJ (K : Cx p s m meth c Z own nm bs ml rt) (X : Sd p l e R s m args below meth c n0 T cells slots) (eh : T.heap = h) (hret : rt = some .long) {x : Int64} (hd : decode bs pc = .ok (.lreturn, 1)) (hC : cells ≤ C) (hS : slots ≤ N) (hq : Q (some (.long x)) h) : Go p e below s n0 Q C N (T.setTop (mkF m pc Ls (.long x :: st))) :=
  g_retV K X eh hret rfl (Or.inr (Or.inl ⟨rfl, rfl, _, rfl⟩)) hd hC hS hq
theorem g_retR (K : Cx p s m meth c Z own nm bs ml rt) (X : Sd p l e R s m args below meth c n0 T cells slots) (eh : T.heap = h) {t : FieldType} (hret : rt = some t) (ht : t.isReference = true) {a : Addr} (hn : narrow t (.ref a) = .ref a) (hd : decode bs pc = .ok (.areturn, 1)) (hC : cells ≤ C) (hS : slots ≤ N) (hq : Q (some (.ref a)) h) : Go p e below s n0 Q C N (T.setTop (mkF m pc Ls (.ref a :: st))) :=
  g_retV K X eh hret hn (Or.inr (Or.inr (Or.inr (Or.inr ⟨rfl, ht, rfl⟩)))) hd hC hS hq
theorem g_ret (K : Cx p s m meth c Z own nm bs ml rt) (X : Sd p l e R s m args below meth c n0 T cells slots) (eh : T.heap = h) (hret : rt = none) (hd : decode bs pc = .ok (.return_, 1)) (hC : cells ≤ C) (hS : slots ≤ N) (hq : Q none h) : Go p e below s n0 Q C N (T.setTop (mkF m pc Ls [])) := by
  obtain ⟨locs, Y, hN⟩ := X
  obtain ⟨hx, hZ, hby, hml, hown, -, hrt, hlk⟩ := K
  subst hret
  obtain ⟨fs, hr, hrun, hended, hW, hsame⟩ := Y.leave (v := none) (fun _ => rfl) hlk
  exact ⟨_, _, Y.returnOut hx hrt (hb hby hd) hr, hrun, hended, _, _, rfl, ⟨by rw [← eh] at hq; exact hq, hN⟩, ⟨_, rfl⟩, hW, hsame.mono hC hS⟩
end Go
end Jvm.OwnGo
namespace Jvm.Pilot.@@N@@
open Jvm Jvm.ClassFile Sem Op Lib Jvm.Free Jvm.Stand Jvm.LawKit Jvm.RoadKit Jvm.OwnGo Bundle Jvm.Pilot.@@N@@.Jvm.D
theorem own_i0 {k : Nat} (hk : k < 2000000000) : (Int32.ofNat k).toInt = (k : Int) := Int32.toInt_ofNat_of_lt (by omega)
theorem own_bb (x : Int32) : x.toInt8.toInt32.toInt8.toInt32 = x.toInt8.toInt32 := by simp
theorem own_lt {i j : Nat} (hi : i < 2000000000) (hj : j < 2000000000) : Int32.ofNat i < Int32.ofNat j ↔ i < j := by
  rw [Int32.lt_iff_toInt_lt, own_i0 hi, own_i0 hj]; omega
theorem own_eq {i j : Nat} (hi : i < 2000000000) (hj : j < 2000000000) : Int32.ofNat i = Int32.ofNat j ↔ i = j := by
  rw [← Int32.toInt_inj, own_i0 hi, own_i0 hj]; omega
theorem own_add (k i : Nat) {z : Int32} (hz : z = Int32.ofNat i) : Int32.ofNat k + z = Int32.ofNat (k + i) := by
  subst hz; exact (Int32.ofNat_add k i).symm
theorem own_low (b : Int32) : ∃ k : Nat, k < 256 ∧ b &&& 255 = Int32.ofNat k := by
  refine ⟨(b &&& 255).toBitVec.toNat, ?_, ?_⟩
  · simp only [Int32.toBitVec_and, BitVec.toNat_and]
    exact Nat.lt_succ_of_le Nat.and_le_right
  · apply Int32.toBitVec_inj.mp
    show _ = BitVec.ofNat 32 _
    rw [BitVec.ofNat_toNat]; simp
theorem own_one (b : Int32) : ∃ k : Nat, k < 2 ∧ b &&& 1 = Int32.ofNat k := by
  refine ⟨(b &&& 1).toBitVec.toNat, ?_, ?_⟩
  · simp only [Int32.toBitVec_and, BitVec.toNat_and]
    exact Nat.lt_succ_of_le Nat.and_le_right
  · apply Int32.toBitVec_inj.mp
    show _ = BitVec.ofNat 32 _
    rw [BitVec.ofNat_toNat]; simp
theorem own_255 : ∀ i : Fin 32, (255#32).getLsbD i.val = decide (i.val < 8) := by decide +kernel
theorem own_byte (x : Int32) : x.toInt8.toInt32 &&& 255 = x &&& 255 := by
  apply Int32.toBitVec_inj.mp
  apply BitVec.eq_of_getLsbD_eq
  intro i hi
  have e : (255 : Int32).toBitVec = 255#32 := rfl
  simp only [Int32.toBitVec_and, BitVec.getLsbD_and, e, own_255 ⟨i, hi⟩, Int8.toBitVec_toInt32, Int32.toBitVec_toInt8, BitVec.getLsbD_signExtend]
  by_cases h : i < 8 <;> simp [h, hi]
theorem own_ush (x : Int32) : ∃ j : Nat, j < 2 ^ 31 ∧ (XT.ushr x (1 : Int32)).toInt = (j : Int) := by
  have hb := x.toBitVec.isLt
  have e2 : (XT.ushr x (1 : Int32)).toBitVec.toNat = x.toBitVec.toNat / 2 := by
    show ((x.toUInt32 >>> ((1 : Int32) &&& 31).toUInt32).toInt32).toBitVec.toNat = _
    rw [show ((1 : Int32) &&& 31).toUInt32 = 1 from rfl]
    simp only [UInt32.toBitVec_toInt32, UInt32.toBitVec_shiftRight, Int32.toBitVec_toUInt32]
    simp [BitVec.toNat_ushiftRight, Nat.shiftRight_eq_div_pow]
  refine ⟨x.toBitVec.toNat / 2, by omega, ?_⟩
  show (XT.ushr x (1 : Int32)).toBitVec.toInt = _
  rw [BitVec.toInt_eq_toNat_cond, e2, if_pos (by omega)]
theorem own_rem (x : Int32) : ∃ k : Nat, k < 5 ∧ (XT.ushr x (1 : Int32)) % 5 = Int32.ofNat k := by
  obtain ⟨j, hj, e⟩ := own_ush x
  refine ⟨j % 5, Nat.mod_lt _ (by decide), ?_⟩
  apply Int32.toInt_inj.mp
  rw [Int32.toInt_mod, e, show (5 : Int32).toInt = 5 from rfl, Int32.toInt_ofNat_of_lt (by omega)]
  exact (Int.ofNat_tmod _ _).symm
theorem own_m31 : ∀ b : Fin 256, Int32.ofNat b.val &&& 31 = Int32.ofNat (b.val % 32) := by decide +kernel
theorem own_m63 : ∀ b : Fin 256, Int32.ofNat b.val &&& 63 = Int32.ofNat (b.val % 64) := by decide +kernel
theorem own_m15 : ∀ b : Fin 256, Int32.ofNat b.val &&& 15 = Int32.ofNat (b.val % 16) := by decide +kernel
theorem own_m7 : ∀ b : Fin 256, Int32.ofNat b.val &&& 7 = Int32.ofNat (b.val % 8) := by decide +kernel
theorem own_t2 : ∀ b : Fin 256, (Int32.ofNat b.val &&& 224 = 192) ↔ (192 ≤ b.val ∧ b.val < 224) := by decide +kernel
theorem own_t3 : ∀ b : Fin 256, (Int32.ofNat b.val &&& 240 = 224) ↔ (224 ≤ b.val ∧ b.val < 240) := by decide +kernel
theorem own_t4 : ∀ b : Fin 256, (Int32.ofNat b.val &&& 248 = 240) ↔ (240 ≤ b.val ∧ b.val < 248) := by decide +kernel
theorem own_tc : ∀ b : Fin 256, (Int32.ofNat b.val &&& 192 = 128) ↔ (128 ≤ b.val ∧ b.val < 192) := by decide +kernel
theorem own_s6 : ∀ a : Fin 64, Int32.ofNat a.val <<< ((6 : Int32) &&& 31) = Int32.ofNat (a.val * 64) := by decide +kernel
theorem own_s12 : ∀ a : Fin 64, Int32.ofNat a.val <<< ((12 : Int32) &&& 31) = Int32.ofNat (a.val * 4096) := by decide +kernel
theorem own_s18 : ∀ a : Fin 64, Int32.ofNat a.val <<< ((18 : Int32) &&& 31) = Int32.ofNat (a.val * 262144) := by decide +kernel
theorem own_or {X C : Nat} (P i : Nat) (hP : P = 2 ^ i) (hC : C < P) (hX : X * P + C < 4294967296) : Int32.ofNat (X * P) ||| Int32.ofNat C = Int32.ofNat (X * P + C) := by
  subst hP
  apply Int32.toBitVec_inj.mp
  apply BitVec.eq_of_toNat_eq
  show ((BitVec.ofNat 32 (X * 2 ^ i)) ||| (BitVec.ofNat 32 C)).toNat = (BitVec.ofNat 32 (X * 2 ^ i + C)).toNat
  rw [BitVec.toNat_or, BitVec.toNat_ofNat, BitVec.toNat_ofNat, BitVec.toNat_ofNat, Nat.mod_eq_of_lt (by omega), Nat.mod_eq_of_lt (by omega), Nat.mod_eq_of_lt hX, ← Nat.shiftLeft_eq, Nat.shiftLeft_add_eq_or_of_lt hC]
theorem own_cp2 {a b : Nat} (ha : a < 256) (hb : b < 256) : (Int32.ofNat a &&& 31) <<< ((6 : Int32) &&& 31) ||| (Int32.ofNat b &&& 63) = Int32.ofNat (a % 32 * 64 + b % 64) := by
  rw [own_m31 ⟨a, ha⟩, own_m63 ⟨b, hb⟩, own_s6 ⟨a % 32, by omega⟩]
  exact own_or 64 6 (by decide) (by omega) (by omega)
theorem own_cp3 {a b d : Nat} (ha : a < 256) (hb : b < 256) (hd : d < 256) : ((Int32.ofNat a &&& 15) <<< ((12 : Int32) &&& 31) ||| (Int32.ofNat b &&& 63) <<< ((6 : Int32) &&& 31)) ||| (Int32.ofNat d &&& 63) = Int32.ofNat ((a % 16 * 64 + b % 64) * 64 + d % 64) := by
  rw [own_m15 ⟨a, ha⟩, own_m63 ⟨b, hb⟩, own_m63 ⟨d, hd⟩, own_s12 ⟨a % 16, by omega⟩, own_s6 ⟨b % 64, by omega⟩]
  have e1 : Int32.ofNat (a % 16 * 4096) ||| Int32.ofNat (b % 64 * 64) = Int32.ofNat ((a % 16 * 64 + b % 64) * 64) := by
    rw [own_or 4096 12 (by decide) (by omega) (by omega), show a % 16 * 4096 + b % 64 * 64 = (a % 16 * 64 + b % 64) * 64 by omega]
  show Int32.ofNat (a % 16 * 4096) ||| Int32.ofNat (b % 64 * 64) ||| _ = _
  rw [e1]
  exact own_or 64 6 (by decide) (by omega) (by omega)
theorem own_cp4 {a b d g : Nat} (ha : a < 256) (hb : b < 256) (hd : d < 256) (hg : g < 256) : (((Int32.ofNat a &&& 7) <<< ((18 : Int32) &&& 31) ||| (Int32.ofNat b &&& 63) <<< ((12 : Int32) &&& 31)) ||| (Int32.ofNat d &&& 63) <<< ((6 : Int32) &&& 31)) ||| (Int32.ofNat g &&& 63) = Int32.ofNat (((a % 8 * 64 + b % 64) * 64 + d % 64) * 64 + g % 64) := by
  rw [own_m7 ⟨a, ha⟩, own_m63 ⟨b, hb⟩, own_m63 ⟨d, hd⟩, own_m63 ⟨g, hg⟩, own_s18 ⟨a % 8, by omega⟩, own_s12 ⟨b % 64, by omega⟩, own_s6 ⟨d % 64, by omega⟩]
  have e1 : Int32.ofNat (a % 8 * 262144) ||| Int32.ofNat (b % 64 * 4096) = Int32.ofNat ((a % 8 * 64 + b % 64) * 4096) := by
    rw [own_or 262144 18 (by decide) (by omega) (by omega), show a % 8 * 262144 + b % 64 * 4096 = (a % 8 * 64 + b % 64) * 4096 by omega]
  have e2 : Int32.ofNat ((a % 8 * 64 + b % 64) * 4096) ||| Int32.ofNat (d % 64 * 64) = Int32.ofNat (((a % 8 * 64 + b % 64) * 64 + d % 64) * 64) := by
    rw [own_or 4096 12 (by decide) (by omega) (by omega), show (a % 8 * 64 + b % 64) * 4096 + d % 64 * 64 = ((a % 8 * 64 + b % 64) * 64 + d % 64) * 64 by omega]
  show (Int32.ofNat (a % 8 * 262144) ||| Int32.ofNat (b % 64 * 4096)) ||| Int32.ofNat (d % 64 * 64) ||| _ = _
  rw [e1, e2]
  exact own_or 64 6 (by decide) (by omega) (by omega)
/-! the well-formed lengths -/
def W2 (lo hi b1 r : Nat) : Nat := if 2 ≤ r ∧ lo ≤ b1 ∧ b1 ≤ hi then 2 else 0
def W3 (lo hi b1 b2 r : Nat) : Nat := if 3 ≤ r ∧ lo ≤ b1 ∧ b1 ≤ hi ∧ 128 ≤ b2 ∧ b2 ≤ 191 then 3 else 0
def W4 (lo hi b1 b2 b3 r : Nat) : Nat := if 4 ≤ r ∧ lo ≤ b1 ∧ b1 ≤ hi ∧ 128 ≤ b2 ∧ b2 ≤ 191 ∧ 128 ≤ b3 ∧ b3 ≤ 191 then 4 else 0
def WF (b0 b1 b2 b3 r : Nat) : Nat := if 194 ≤ b0 ∧ b0 ≤ 223 then W2 128 191 b1 r else if b0 = 224 then W3 160 191 b1 b2 r else if b0 = 237 then W3 128 159 b1 b2 r else if 225 ≤ b0 ∧ b0 ≤ 239 then W3 128 191 b1 b2 r
  else if b0 = 240 then W4 144 191 b1 b2 b3 r else if b0 = 244 then W4 128 143 b1 b2 b3 r else if 241 ≤ b0 ∧ b0 ≤ 243 then W4 128 191 b1 b2 b3 r else 0
def ic (b : Nat) : Nat := if 128 ≤ b ∧ b < 192 then 1 else 0
theorem pd_0 : parseMethodDescriptor "(I)Z" = some ⟨[.int], some .boolean⟩ := by decide +kernel
theorem pd_1 : parseMethodDescriptor "(IIIII)I" = some ⟨[.int, .int, .int, .int, .int], some .int⟩ := by decide +kernel
theorem pd_2 : parseMethodDescriptor "([BII)I" = some ⟨[(.array .byte), .int, .int], some .int⟩ := by decide +kernel
def rm0 : Room := { frames := 0, cells := 0, slots := 0, locals := 0 }
theorem d3_0 : decode method_2_code 0 = .ok (.iload_n 0, 1) := by decide +kernel
theorem d3_1 : decode method_2_code 1 = .ok (.sipush 192, 3) := by decide +kernel
theorem d3_4 : decode method_2_code 4 = .ok (.iand, 1) := by decide +kernel
theorem d3_5 : decode method_2_code 5 = .ok (.sipush 128, 3) := by decide +kernel
theorem d3_8 : decode method_2_code 8 = .ok (.if_icmp .ne 7, 3) := by decide +kernel
theorem d3_11 : decode method_2_code 11 = .ok (.iconst 1, 1) := by decide +kernel
theorem d3_12 : decode method_2_code 12 = .ok (.goto 4, 3) := by decide +kernel
theorem d3_15 : decode method_2_code 15 = .ok (.iconst 0, 1) := by decide +kernel
theorem d3_16 : decode method_2_code 16 = .ok (.ireturn, 1) := by decide +kernel
set_option maxRecDepth 65536 in
set_option maxHeartbeats 40000000 in
theorem met_ic (l : Launch) (Z : State) (a0 : Array Value) (hw : ∀ d ∈ tables_1, d.before a0 Z = true) (b : Nat) (hb : b < 256) (h0 : Heap) (n0 : Nat) :
    Met l Z (⟨"com/example/wireloom/wireloom/engine/Utf8SequenceLengthPinLaw", "isCont", "(I)Z"⟩ : MethodName) method_2_code 1 (some .boolean) [] rm0 #[.int (Int32.ofNat b)] h0 n0 (fun v h' => v = some (.int (Int32.ofNat (ic b))) ∧ h0 = h') := by
  refine Met.of (plainFor_of_name (by first | (simp [plainName, overriddenIn]; done) | decide +kernel)) #[.val (.int (Int32.ofNat b))] (fun m => by first | (simp [entryFrame, mkF, argsToLocals, Value.category]; done) | rfl) ?_
  intro p e s m below meth c T K X eh
  refine g_iloadN K X 1 d3_0 rfl rfl ?_
  refine g_sipush K X (192 : Int32) 4 d3_1 rfl rfl ?_
  refine g_iand K X 5 d3_4 rfl ?_
  refine g_sipush K X (128 : Int32) 8 d3_5 rfl rfl ?_
  by_cases hq : 128 ≤ b ∧ b < 192
  · refine g_icmpF K X 11 d3_8 rfl (show ¬ (¬ ((Int32.ofNat b) &&& ((192 : Int32))) = ((128 : Int32))) from (fun q => q ((own_tc ⟨b, hb⟩).mpr hq))) ?_
    refine g_iconst K X (1 : Int32) 12 d3_11 rfl rfl ?_
    refine g_goto K X 16 d3_12 rfl ?_
    exact g_retN K X eh rfl (t := .boolean) (by simp) ((1 : Int32)) rfl d3_16 (by decide) (by decide) ⟨by rw [ic, if_pos hq]; rfl, rfl⟩
  · refine g_icmpT K X 15 d3_8 rfl (show ¬ ((Int32.ofNat b) &&& ((192 : Int32))) = ((128 : Int32)) from (fun q => hq ((own_tc ⟨b, hb⟩).mp q))) ?_
    refine g_iconst K X (0 : Int32) 16 d3_15 rfl rfl ?_
    exact g_retN K X eh rfl (t := .boolean) (by simp) ((0 : Int32)) rfl d3_16 (by decide) (by decide) ⟨by rw [ic, if_neg hq]; rfl, rfl⟩
theorem d1_0 : decode method_3_code 0 = .ok (.iload_n 0, 1) := by decide +kernel
theorem d1_1 : decode method_3_code 1 = .ok (.sipush 224, 3) := by decide +kernel
theorem d1_4 : decode method_3_code 4 = .ok (.iand, 1) := by decide +kernel
theorem d1_5 : decode method_3_code 5 = .ok (.sipush 192, 3) := by decide +kernel
theorem d1_8 : decode method_3_code 8 = .ok (.if_icmp .ne 42, 3) := by decide +kernel
theorem d1_11 : decode method_3_code 11 = .ok (.iload_n 0, 1) := by decide +kernel
theorem d1_12 : decode method_3_code 12 = .ok (.bipush 31, 2) := by decide +kernel
theorem d1_14 : decode method_3_code 14 = .ok (.iand, 1) := by decide +kernel
theorem d1_15 : decode method_3_code 15 = .ok (.bipush 6, 2) := by decide +kernel
theorem d1_17 : decode method_3_code 17 = .ok (.ishl, 1) := by decide +kernel
theorem d1_18 : decode method_3_code 18 = .ok (.iload_n 1, 1) := by decide +kernel
theorem d1_19 : decode method_3_code 19 = .ok (.bipush 63, 2) := by decide +kernel
theorem d1_21 : decode method_3_code 21 = .ok (.iand, 1) := by decide +kernel
theorem d1_22 : decode method_3_code 22 = .ok (.ior, 1) := by decide +kernel
theorem d1_23 : decode method_3_code 23 = .ok (.istore 5, 2) := by decide +kernel
theorem d1_25 : decode method_3_code 25 = .ok (.iload 4, 2) := by decide +kernel
theorem d1_27 : decode method_3_code 27 = .ok (.iconst 2, 1) := by decide +kernel
theorem d1_28 : decode method_3_code 28 = .ok (.if_icmp .lt 20, 3) := by decide +kernel
theorem d1_31 : decode method_3_code 31 = .ok (.iload_n 1, 1) := by decide +kernel
theorem d1_32 : decode method_3_code 32 = .ok (.invokestatic 7, 3) := by decide +kernel
theorem d1_35 : decode method_3_code 35 = .ok (.ifCond .eq 13, 3) := by decide +kernel
theorem d1_38 : decode method_3_code 38 = .ok (.iload 5, 2) := by decide +kernel
theorem d1_40 : decode method_3_code 40 = .ok (.sipush 128, 3) := by decide +kernel
theorem d1_43 : decode method_3_code 43 = .ok (.if_icmp .lt 5, 3) := by decide +kernel
theorem d1_46 : decode method_3_code 46 = .ok (.iconst 2, 1) := by decide +kernel
theorem d1_47 : decode method_3_code 47 = .ok (.ireturn, 1) := by decide +kernel
theorem d1_48 : decode method_3_code 48 = .ok (.iconst 0, 1) := by decide +kernel
theorem d1_49 : decode method_3_code 49 = .ok (.ireturn, 1) := by decide +kernel
theorem d1_50 : decode method_3_code 50 = .ok (.iload_n 0, 1) := by decide +kernel
theorem d1_51 : decode method_3_code 51 = .ok (.sipush 240, 3) := by decide +kernel
theorem d1_54 : decode method_3_code 54 = .ok (.iand, 1) := by decide +kernel
theorem d1_55 : decode method_3_code 55 = .ok (.sipush 224, 3) := by decide +kernel
theorem d1_58 : decode method_3_code 58 = .ok (.if_icmp .ne 71, 3) := by decide +kernel
theorem d1_61 : decode method_3_code 61 = .ok (.iload_n 0, 1) := by decide +kernel
theorem d1_62 : decode method_3_code 62 = .ok (.bipush 15, 2) := by decide +kernel
theorem d1_64 : decode method_3_code 64 = .ok (.iand, 1) := by decide +kernel
theorem d1_65 : decode method_3_code 65 = .ok (.bipush 12, 2) := by decide +kernel
theorem d1_67 : decode method_3_code 67 = .ok (.ishl, 1) := by decide +kernel
theorem d1_68 : decode method_3_code 68 = .ok (.iload_n 1, 1) := by decide +kernel
theorem d1_69 : decode method_3_code 69 = .ok (.bipush 63, 2) := by decide +kernel
theorem d1_71 : decode method_3_code 71 = .ok (.iand, 1) := by decide +kernel
theorem d1_72 : decode method_3_code 72 = .ok (.bipush 6, 2) := by decide +kernel
theorem d1_74 : decode method_3_code 74 = .ok (.ishl, 1) := by decide +kernel
theorem d1_75 : decode method_3_code 75 = .ok (.ior, 1) := by decide +kernel
theorem d1_76 : decode method_3_code 76 = .ok (.iload_n 2, 1) := by decide +kernel
theorem d1_77 : decode method_3_code 77 = .ok (.bipush 63, 2) := by decide +kernel
theorem d1_79 : decode method_3_code 79 = .ok (.iand, 1) := by decide +kernel
theorem d1_80 : decode method_3_code 80 = .ok (.ior, 1) := by decide +kernel
theorem d1_81 : decode method_3_code 81 = .ok (.istore 5, 2) := by decide +kernel
theorem d1_83 : decode method_3_code 83 = .ok (.iload 4, 2) := by decide +kernel
theorem d1_85 : decode method_3_code 85 = .ok (.iconst 3, 1) := by decide +kernel
theorem d1_86 : decode method_3_code 86 = .ok (.if_icmp .lt 41, 3) := by decide +kernel
theorem d1_89 : decode method_3_code 89 = .ok (.iload_n 1, 1) := by decide +kernel
theorem d1_90 : decode method_3_code 90 = .ok (.invokestatic 7, 3) := by decide +kernel
theorem d1_93 : decode method_3_code 93 = .ok (.ifCond .eq 34, 3) := by decide +kernel
theorem d1_96 : decode method_3_code 96 = .ok (.iload_n 2, 1) := by decide +kernel
theorem d1_97 : decode method_3_code 97 = .ok (.invokestatic 7, 3) := by decide +kernel
theorem d1_100 : decode method_3_code 100 = .ok (.ifCond .eq 27, 3) := by decide +kernel
theorem d1_103 : decode method_3_code 103 = .ok (.iload 5, 2) := by decide +kernel
theorem d1_105 : decode method_3_code 105 = .ok (.sipush 2048, 3) := by decide +kernel
theorem d1_108 : decode method_3_code 108 = .ok (.if_icmp .lt 19, 3) := by decide +kernel
theorem d1_111 : decode method_3_code 111 = .ok (.iload 5, 2) := by decide +kernel
theorem d1_113 : decode method_3_code 113 = .ok (.ldc 13, 2) := by decide +kernel
theorem d1_115 : decode method_3_code 115 = .ok (.if_icmp .lt 10, 3) := by decide +kernel
theorem d1_118 : decode method_3_code 118 = .ok (.iload 5, 2) := by decide +kernel
theorem d1_120 : decode method_3_code 120 = .ok (.ldc 14, 2) := by decide +kernel
theorem d1_122 : decode method_3_code 122 = .ok (.if_icmp .le 5, 3) := by decide +kernel
theorem d1_125 : decode method_3_code 125 = .ok (.iconst 3, 1) := by decide +kernel
theorem d1_126 : decode method_3_code 126 = .ok (.ireturn, 1) := by decide +kernel
theorem d1_127 : decode method_3_code 127 = .ok (.iconst 0, 1) := by decide +kernel
theorem d1_128 : decode method_3_code 128 = .ok (.ireturn, 1) := by decide +kernel
theorem d1_129 : decode method_3_code 129 = .ok (.iload_n 0, 1) := by decide +kernel
theorem d1_130 : decode method_3_code 130 = .ok (.sipush 248, 3) := by decide +kernel
theorem d1_133 : decode method_3_code 133 = .ok (.iand, 1) := by decide +kernel
theorem d1_134 : decode method_3_code 134 = .ok (.sipush 240, 3) := by decide +kernel
theorem d1_137 : decode method_3_code 137 = .ok (.if_icmp .ne 78, 3) := by decide +kernel
theorem d1_140 : decode method_3_code 140 = .ok (.iload_n 0, 1) := by decide +kernel
theorem d1_141 : decode method_3_code 141 = .ok (.bipush 7, 2) := by decide +kernel
theorem d1_143 : decode method_3_code 143 = .ok (.iand, 1) := by decide +kernel
theorem d1_144 : decode method_3_code 144 = .ok (.bipush 18, 2) := by decide +kernel
theorem d1_146 : decode method_3_code 146 = .ok (.ishl, 1) := by decide +kernel
theorem d1_147 : decode method_3_code 147 = .ok (.iload_n 1, 1) := by decide +kernel
theorem d1_148 : decode method_3_code 148 = .ok (.bipush 63, 2) := by decide +kernel
theorem d1_150 : decode method_3_code 150 = .ok (.iand, 1) := by decide +kernel
theorem d1_151 : decode method_3_code 151 = .ok (.bipush 12, 2) := by decide +kernel
theorem d1_153 : decode method_3_code 153 = .ok (.ishl, 1) := by decide +kernel
theorem d1_154 : decode method_3_code 154 = .ok (.ior, 1) := by decide +kernel
theorem d1_155 : decode method_3_code 155 = .ok (.iload_n 2, 1) := by decide +kernel
theorem d1_156 : decode method_3_code 156 = .ok (.bipush 63, 2) := by decide +kernel
theorem d1_158 : decode method_3_code 158 = .ok (.iand, 1) := by decide +kernel
theorem d1_159 : decode method_3_code 159 = .ok (.bipush 6, 2) := by decide +kernel
theorem d1_161 : decode method_3_code 161 = .ok (.ishl, 1) := by decide +kernel
theorem d1_162 : decode method_3_code 162 = .ok (.ior, 1) := by decide +kernel
theorem d1_163 : decode method_3_code 163 = .ok (.iload_n 3, 1) := by decide +kernel
theorem d1_164 : decode method_3_code 164 = .ok (.bipush 63, 2) := by decide +kernel
theorem d1_166 : decode method_3_code 166 = .ok (.iand, 1) := by decide +kernel
theorem d1_167 : decode method_3_code 167 = .ok (.ior, 1) := by decide +kernel
theorem d1_168 : decode method_3_code 168 = .ok (.istore 5, 2) := by decide +kernel
theorem d1_170 : decode method_3_code 170 = .ok (.iload 4, 2) := by decide +kernel
theorem d1_172 : decode method_3_code 172 = .ok (.iconst 4, 1) := by decide +kernel
theorem d1_173 : decode method_3_code 173 = .ok (.if_icmp .lt 40, 3) := by decide +kernel
theorem d1_176 : decode method_3_code 176 = .ok (.iload_n 1, 1) := by decide +kernel
theorem d1_177 : decode method_3_code 177 = .ok (.invokestatic 7, 3) := by decide +kernel
theorem d1_180 : decode method_3_code 180 = .ok (.ifCond .eq 33, 3) := by decide +kernel
theorem d1_183 : decode method_3_code 183 = .ok (.iload_n 2, 1) := by decide +kernel
theorem d1_184 : decode method_3_code 184 = .ok (.invokestatic 7, 3) := by decide +kernel
theorem d1_187 : decode method_3_code 187 = .ok (.ifCond .eq 26, 3) := by decide +kernel
theorem d1_190 : decode method_3_code 190 = .ok (.iload_n 3, 1) := by decide +kernel
theorem d1_191 : decode method_3_code 191 = .ok (.invokestatic 7, 3) := by decide +kernel
theorem d1_194 : decode method_3_code 194 = .ok (.ifCond .eq 19, 3) := by decide +kernel
theorem d1_197 : decode method_3_code 197 = .ok (.iload 5, 2) := by decide +kernel
theorem d1_199 : decode method_3_code 199 = .ok (.ldc 15, 2) := by decide +kernel
theorem d1_201 : decode method_3_code 201 = .ok (.if_icmp .lt 12, 3) := by decide +kernel
theorem d1_204 : decode method_3_code 204 = .ok (.iload 5, 2) := by decide +kernel
theorem d1_206 : decode method_3_code 206 = .ok (.ldc 16, 2) := by decide +kernel
theorem d1_208 : decode method_3_code 208 = .ok (.if_icmp .gt 5, 3) := by decide +kernel
theorem d1_211 : decode method_3_code 211 = .ok (.iconst 4, 1) := by decide +kernel
theorem d1_212 : decode method_3_code 212 = .ok (.ireturn, 1) := by decide +kernel
theorem d1_213 : decode method_3_code 213 = .ok (.iconst 0, 1) := by decide +kernel
theorem d1_214 : decode method_3_code 214 = .ok (.ireturn, 1) := by decide +kernel
theorem d1_215 : decode method_3_code 215 = .ok (.iconst 0, 1) := by decide +kernel
theorem d1_216 : decode method_3_code 216 = .ok (.ireturn, 1) := by decide +kernel
def rmE : Room := { frames := 1, cells := 0, slots := 0, locals := 14 }
set_option maxRecDepth 65536 in
set_option maxHeartbeats 40000000 in
theorem met_ex (l : Launch) (Z : State) (a0 : Array Value) (hw : ∀ d ∈ tables_1, d.before a0 Z = true) (b0 b1 b2 b3 r : Nat) (h0' : b0 < 256) (h1' : b1 < 256) (h2' : b2 < 256) (h3' : b3 < 256) (hr : r < 5) (h0 : Heap) (n0 : Nat) :
    Met l Z (⟨"com/example/wireloom/wireloom/engine/Utf8SequenceLengthPinLaw", "expected", "(IIIII)I"⟩ : MethodName) method_3_code 6 (some .int) [] rmE #[.int (Int32.ofNat b0), .int (Int32.ofNat b1), .int (Int32.ofNat b2), .int (Int32.ofNat b3), .int (Int32.ofNat r)] h0 n0 (fun v h' => v = some (.int (Int32.ofNat (WF b0 b1 b2 b3 r))) ∧ h0 = h') := by
  refine Met.of (plainFor_of_name (by first | (simp [plainName, overriddenIn]; done) | decide +kernel)) #[.val (.int (Int32.ofNat b0)), .val (.int (Int32.ofNat b1)), .val (.int (Int32.ofNat b2)), .val (.int (Int32.ofNat b3)), .val (.int (Int32.ofNat r)), .unset] (fun m => by first | (simp [entryFrame, mkF, argsToLocals, Value.category]; done) | rfl) ?_
  intro p e s m below meth c T K X eh
  refine g_iloadN K X 1 d1_0 rfl rfl ?_
  refine g_sipush K X (224 : Int32) 4 d1_1 rfl rfl ?_
  refine g_iand K X 5 d1_4 rfl ?_
  refine g_sipush K X (192 : Int32) 8 d1_5 rfl rfl ?_
  by_cases t2 : 192 ≤ b0 ∧ b0 < 224
  · refine g_icmpF K X 11 d1_8 rfl (show ¬ (¬ ((Int32.ofNat b0) &&& ((224 : Int32))) = ((192 : Int32))) from (fun q => q ((own_t2 ⟨b0, h0'⟩).mpr t2))) ?_
    refine g_iloadN K X 12 d1_11 rfl rfl ?_
    refine g_bipush K X (31 : Int32) 14 d1_12 rfl rfl ?_
    refine g_iand K X 15 d1_14 rfl ?_
    refine g_bipush K X (6 : Int32) 17 d1_15 rfl rfl ?_
    refine g_ishl K X 18 d1_17 rfl ?_
    refine g_iloadN K X 19 d1_18 rfl rfl ?_
    refine g_bipush K X (63 : Int32) 21 d1_19 rfl rfl ?_
    refine g_iand K X 22 d1_21 rfl ?_
    refine g_ior K X 23 d1_22 rfl ?_
    refine g_eqI (y := Int32.ofNat (b0 % 32 * 64 + b1 % 64)) (own_cp2 h0' h1') ?_
    refine g_istore K X 25 #[.val (.int (Int32.ofNat b0)), .val (.int (Int32.ofNat b1)), .val (.int (Int32.ofNat b2)), .val (.int (Int32.ofNat b3)), .val (.int (Int32.ofNat r)), .val (.int (Int32.ofNat (b0 % 32 * 64 + b1 % 64)))] d1_23 rfl rfl ?_
    refine g_iload K X 27 d1_25 rfl rfl ?_
    refine g_iconst K X (2 : Int32) 28 d1_27 rfl rfl ?_
    by_cases hr2 : r < 2
    · refine g_icmpT K X 48 d1_28 rfl (show (Int32.ofNat r) < ((2 : Int32)) from ((own_lt (j := 2) (by omega) (by decide)).mpr hr2)) ?_
      refine g_iconst K X (0 : Int32) 49 d1_48 rfl rfl ?_
      exact g_retI K X eh rfl d1_49 (by decide) (by decide) ⟨by rw [show WF b0 b1 b2 b3 r = 0 by simp only [WF, W2, W3, W4]; (repeat' split) <;> omega]; rfl, rfl⟩
    · refine g_icmpF K X 31 d1_28 rfl (show ¬ ((Int32.ofNat r) < ((2 : Int32))) from (fun q => hr2 ((own_lt (j := 2) (by omega) (by decide)).mp q))) ?_
      refine g_iloadN K X 32 d1_31 rfl rfl ?_
      refine g_static K X eh rfl (met_ic l Z a0 hw b1 h1' h0 n0) (hw _ (List.mem_of_getElem? (i := 9) rfl)) (hw _ (List.mem_of_getElem? (i := 10) rfl)) (hw _ (List.mem_of_getElem? (i := 11) rfl)) (hw _ (List.mem_of_getElem? (i := 3) rfl)) (by decide) [.int (Int32.ofNat b1)] rfl rfl (lenOf pd_0 rfl) 35 d1_32 rfl 0 (Nat.le_of_eq rfl) (by decide) (by decide) (by decide) (by decide) fun T v h' X eh hv => ?_
      obtain ⟨rfl, rfl⟩ := hv
      by_cases cb1 : 128 ≤ b1 ∧ b1 < 192
      · rw [show ic b1 = 1 from if_pos cb1]
        refine g_ifF K X 38 d1_35 rfl (show ¬ ((Int32.ofNat 1) = 0) from (by decide)) ?_
        refine g_iload K X 40 d1_38 rfl rfl ?_
        refine g_sipush K X (128 : Int32) 43 d1_40 rfl rfl ?_
        by_cases hp : b0 % 32 * 64 + b1 % 64 < 128
        · refine g_icmpT K X 48 d1_43 rfl (show (Int32.ofNat (b0 % 32 * 64 + b1 % 64)) < ((128 : Int32)) from ((own_lt (j := 128) (by omega) (by decide)).mpr hp)) ?_
          refine g_iconst K X (0 : Int32) 49 d1_48 rfl rfl ?_
          exact g_retI K X eh rfl d1_49 (by decide) (by decide) ⟨by rw [show WF b0 b1 b2 b3 r = 0 by simp only [WF, W2, W3, W4]; (repeat' split) <;> omega]; rfl, rfl⟩
        · refine g_icmpF K X 46 d1_43 rfl (show ¬ ((Int32.ofNat (b0 % 32 * 64 + b1 % 64)) < ((128 : Int32))) from (fun q => hp ((own_lt (j := 128) (by omega) (by decide)).mp q))) ?_
          refine g_iconst K X (2 : Int32) 47 d1_46 rfl rfl ?_
          exact g_retI K X eh rfl d1_47 (by decide) (by decide) ⟨by rw [show WF b0 b1 b2 b3 r = 2 by simp only [WF, W2, W3, W4]; (repeat' split) <;> omega]; rfl, rfl⟩
      · rw [show ic b1 = 0 from if_neg cb1]
        refine g_ifT K X 48 d1_35 rfl (show (Int32.ofNat 0) = 0 from rfl) ?_
        refine g_iconst K X (0 : Int32) 49 d1_48 rfl rfl ?_
        exact g_retI K X eh rfl d1_49 (by decide) (by decide) ⟨by rw [show WF b0 b1 b2 b3 r = 0 by simp only [WF, W2, W3, W4]; (repeat' split) <;> omega]; rfl, rfl⟩
  · refine g_icmpT K X 50 d1_8 rfl (show ¬ ((Int32.ofNat b0) &&& ((224 : Int32))) = ((192 : Int32)) from (fun q => t2 ((own_t2 ⟨b0, h0'⟩).mp q))) ?_
    refine g_iloadN K X 51 d1_50 rfl rfl ?_
    refine g_sipush K X (240 : Int32) 54 d1_51 rfl rfl ?_
    refine g_iand K X 55 d1_54 rfl ?_
    refine g_sipush K X (224 : Int32) 58 d1_55 rfl rfl ?_
    by_cases t3 : 224 ≤ b0 ∧ b0 < 240
    · refine g_icmpF K X 61 d1_58 rfl (show ¬ (¬ ((Int32.ofNat b0) &&& ((240 : Int32))) = ((224 : Int32))) from (fun q => q ((own_t3 ⟨b0, h0'⟩).mpr t3))) ?_
      refine g_iloadN K X 62 d1_61 rfl rfl ?_
      refine g_bipush K X (15 : Int32) 64 d1_62 rfl rfl ?_
      refine g_iand K X 65 d1_64 rfl ?_
      refine g_bipush K X (12 : Int32) 67 d1_65 rfl rfl ?_
      refine g_ishl K X 68 d1_67 rfl ?_
      refine g_iloadN K X 69 d1_68 rfl rfl ?_
      refine g_bipush K X (63 : Int32) 71 d1_69 rfl rfl ?_
      refine g_iand K X 72 d1_71 rfl ?_
      refine g_bipush K X (6 : Int32) 74 d1_72 rfl rfl ?_
      refine g_ishl K X 75 d1_74 rfl ?_
      refine g_ior K X 76 d1_75 rfl ?_
      refine g_iloadN K X 77 d1_76 rfl rfl ?_
      refine g_bipush K X (63 : Int32) 79 d1_77 rfl rfl ?_
      refine g_iand K X 80 d1_79 rfl ?_
      refine g_ior K X 81 d1_80 rfl ?_
      refine g_eqI (y := Int32.ofNat ((b0 % 16 * 64 + b1 % 64) * 64 + b2 % 64)) (own_cp3 h0' h1' h2') ?_
      refine g_istore K X 83 #[.val (.int (Int32.ofNat b0)), .val (.int (Int32.ofNat b1)), .val (.int (Int32.ofNat b2)), .val (.int (Int32.ofNat b3)), .val (.int (Int32.ofNat r)), .val (.int (Int32.ofNat ((b0 % 16 * 64 + b1 % 64) * 64 + b2 % 64)))] d1_81 rfl rfl ?_
      refine g_iload K X 85 d1_83 rfl rfl ?_
      refine g_iconst K X (3 : Int32) 86 d1_85 rfl rfl ?_
      by_cases hr3 : r < 3
      · refine g_icmpT K X 127 d1_86 rfl (show (Int32.ofNat r) < ((3 : Int32)) from ((own_lt (j := 3) (by omega) (by decide)).mpr hr3)) ?_
        refine g_iconst K X (0 : Int32) 128 d1_127 rfl rfl ?_
        exact g_retI K X eh rfl d1_128 (by decide) (by decide) ⟨by rw [show WF b0 b1 b2 b3 r = 0 by simp only [WF, W2, W3, W4]; (repeat' split) <;> omega]; rfl, rfl⟩
      · refine g_icmpF K X 89 d1_86 rfl (show ¬ ((Int32.ofNat r) < ((3 : Int32))) from (fun q => hr3 ((own_lt (j := 3) (by omega) (by decide)).mp q))) ?_
        refine g_iloadN K X 90 d1_89 rfl rfl ?_
        refine g_static K X eh rfl (met_ic l Z a0 hw b1 h1' h0 n0) (hw _ (List.mem_of_getElem? (i := 9) rfl)) (hw _ (List.mem_of_getElem? (i := 10) rfl)) (hw _ (List.mem_of_getElem? (i := 11) rfl)) (hw _ (List.mem_of_getElem? (i := 3) rfl)) (by decide) [.int (Int32.ofNat b1)] rfl rfl (lenOf pd_0 rfl) 93 d1_90 rfl 0 (Nat.le_of_eq rfl) (by decide) (by decide) (by decide) (by decide) fun T v h' X eh hv => ?_
        obtain ⟨rfl, rfl⟩ := hv
        by_cases cb1 : 128 ≤ b1 ∧ b1 < 192
        · rw [show ic b1 = 1 from if_pos cb1]
          refine g_ifF K X 96 d1_93 rfl (show ¬ ((Int32.ofNat 1) = 0) from (by decide)) ?_
          refine g_iloadN K X 97 d1_96 rfl rfl ?_
          refine g_static K X eh rfl (met_ic l Z a0 hw b2 h2' h0 n0) (hw _ (List.mem_of_getElem? (i := 9) rfl)) (hw _ (List.mem_of_getElem? (i := 10) rfl)) (hw _ (List.mem_of_getElem? (i := 11) rfl)) (hw _ (List.mem_of_getElem? (i := 3) rfl)) (by decide) [.int (Int32.ofNat b2)] rfl rfl (lenOf pd_0 rfl) 100 d1_97 rfl 0 (Nat.le_of_eq rfl) (by decide) (by decide) (by decide) (by decide) fun T v h' X eh hv => ?_
          obtain ⟨rfl, rfl⟩ := hv
          by_cases cb2 : 128 ≤ b2 ∧ b2 < 192
          · rw [show ic b2 = 1 from if_pos cb2]
            refine g_ifF K X 103 d1_100 rfl (show ¬ ((Int32.ofNat 1) = 0) from (by decide)) ?_
            refine g_iload K X 105 d1_103 rfl rfl ?_
            refine g_sipush K X (2048 : Int32) 108 d1_105 rfl rfl ?_
            by_cases hp : (b0 % 16 * 64 + b1 % 64) * 64 + b2 % 64 < 2048
            · refine g_icmpT K X 127 d1_108 rfl (show (Int32.ofNat ((b0 % 16 * 64 + b1 % 64) * 64 + b2 % 64)) < ((2048 : Int32)) from ((own_lt (j := 2048) (by omega) (by decide)).mpr hp)) ?_
              refine g_iconst K X (0 : Int32) 128 d1_127 rfl rfl ?_
              exact g_retI K X eh rfl d1_128 (by decide) (by decide) ⟨by rw [show WF b0 b1 b2 b3 r = 0 by simp only [WF, W2, W3, W4]; (repeat' split) <;> omega]; rfl, rfl⟩
            · refine g_icmpF K X 111 d1_108 rfl (show ¬ ((Int32.ofNat ((b0 % 16 * 64 + b1 % 64) * 64 + b2 % 64)) < ((2048 : Int32))) from (fun q => hp ((own_lt (j := 2048) (by omega) (by decide)).mp q))) ?_
              refine g_iload K X 113 d1_111 rfl rfl ?_
              refine g_ldcI K X (hw _ (List.mem_of_getElem? (i := 12) rfl)) 115 d1_113 rfl ?_
              by_cases hs : (b0 % 16 * 64 + b1 % 64) * 64 + b2 % 64 < 55296
              · refine g_icmpT K X 125 d1_115 rfl (show (Int32.ofNat ((b0 % 16 * 64 + b1 % 64) * 64 + b2 % 64)) < ((55296 : Int32)) from ((own_lt (j := 55296) (by omega) (by decide)).mpr hs)) ?_
                refine g_iconst K X (3 : Int32) 126 d1_125 rfl rfl ?_
                exact g_retI K X eh rfl d1_126 (by decide) (by decide) ⟨by rw [show WF b0 b1 b2 b3 r = 3 by simp only [WF, W2, W3, W4]; (repeat' split) <;> omega]; rfl, rfl⟩
              · refine g_icmpF K X 118 d1_115 rfl (show ¬ ((Int32.ofNat ((b0 % 16 * 64 + b1 % 64) * 64 + b2 % 64)) < ((55296 : Int32))) from (fun q => hs ((own_lt (j := 55296) (by omega) (by decide)).mp q))) ?_
                refine g_iload K X 120 d1_118 rfl rfl ?_
                refine g_ldcI K X (hw _ (List.mem_of_getElem? (i := 13) rfl)) 122 d1_120 rfl ?_
                by_cases hu : 57343 < (b0 % 16 * 64 + b1 % 64) * 64 + b2 % 64
                · refine g_icmpF K X 125 d1_122 rfl (show ¬ (¬ ((57343 : Int32)) < (Int32.ofNat ((b0 % 16 * 64 + b1 % 64) * 64 + b2 % 64))) from (fun q => q ((own_lt (i := 57343) (by decide) (by omega)).mpr hu))) ?_
                  refine g_iconst K X (3 : Int32) 126 d1_125 rfl rfl ?_
                  exact g_retI K X eh rfl d1_126 (by decide) (by decide) ⟨by rw [show WF b0 b1 b2 b3 r = 3 by simp only [WF, W2, W3, W4]; (repeat' split) <;> omega]; rfl, rfl⟩
                · refine g_icmpT K X 127 d1_122 rfl (show ¬ ((57343 : Int32)) < (Int32.ofNat ((b0 % 16 * 64 + b1 % 64) * 64 + b2 % 64)) from (fun q => hu ((own_lt (i := 57343) (by decide) (by omega)).mp q))) ?_
                  refine g_iconst K X (0 : Int32) 128 d1_127 rfl rfl ?_
                  exact g_retI K X eh rfl d1_128 (by decide) (by decide) ⟨by rw [show WF b0 b1 b2 b3 r = 0 by simp only [WF, W2, W3, W4]; (repeat' split) <;> omega]; rfl, rfl⟩
          · rw [show ic b2 = 0 from if_neg cb2]
            refine g_ifT K X 127 d1_100 rfl (show (Int32.ofNat 0) = 0 from rfl) ?_
            refine g_iconst K X (0 : Int32) 128 d1_127 rfl rfl ?_
            exact g_retI K X eh rfl d1_128 (by decide) (by decide) ⟨by rw [show WF b0 b1 b2 b3 r = 0 by simp only [WF, W2, W3, W4]; (repeat' split) <;> omega]; rfl, rfl⟩
        · rw [show ic b1 = 0 from if_neg cb1]
          refine g_ifT K X 127 d1_93 rfl (show (Int32.ofNat 0) = 0 from rfl) ?_
          refine g_iconst K X (0 : Int32) 128 d1_127 rfl rfl ?_
          exact g_retI K X eh rfl d1_128 (by decide) (by decide) ⟨by rw [show WF b0 b1 b2 b3 r = 0 by simp only [WF, W2, W3, W4]; (repeat' split) <;> omega]; rfl, rfl⟩
    · refine g_icmpT K X 129 d1_58 rfl (show ¬ ((Int32.ofNat b0) &&& ((240 : Int32))) = ((224 : Int32)) from (fun q => t3 ((own_t3 ⟨b0, h0'⟩).mp q))) ?_
      refine g_iloadN K X 130 d1_129 rfl rfl ?_
      refine g_sipush K X (248 : Int32) 133 d1_130 rfl rfl ?_
      refine g_iand K X 134 d1_133 rfl ?_
      refine g_sipush K X (240 : Int32) 137 d1_134 rfl rfl ?_
      by_cases t4 : 240 ≤ b0 ∧ b0 < 248
      · refine g_icmpF K X 140 d1_137 rfl (show ¬ (¬ ((Int32.ofNat b0) &&& ((248 : Int32))) = ((240 : Int32))) from (fun q => q ((own_t4 ⟨b0, h0'⟩).mpr t4))) ?_
        refine g_iloadN K X 141 d1_140 rfl rfl ?_
        refine g_bipush K X (7 : Int32) 143 d1_141 rfl rfl ?_
        refine g_iand K X 144 d1_143 rfl ?_
        refine g_bipush K X (18 : Int32) 146 d1_144 rfl rfl ?_
        refine g_ishl K X 147 d1_146 rfl ?_
        refine g_iloadN K X 148 d1_147 rfl rfl ?_
        refine g_bipush K X (63 : Int32) 150 d1_148 rfl rfl ?_
        refine g_iand K X 151 d1_150 rfl ?_
        refine g_bipush K X (12 : Int32) 153 d1_151 rfl rfl ?_
        refine g_ishl K X 154 d1_153 rfl ?_
        refine g_ior K X 155 d1_154 rfl ?_
        refine g_iloadN K X 156 d1_155 rfl rfl ?_
        refine g_bipush K X (63 : Int32) 158 d1_156 rfl rfl ?_
        refine g_iand K X 159 d1_158 rfl ?_
        refine g_bipush K X (6 : Int32) 161 d1_159 rfl rfl ?_
        refine g_ishl K X 162 d1_161 rfl ?_
        refine g_ior K X 163 d1_162 rfl ?_
        refine g_iloadN K X 164 d1_163 rfl rfl ?_
        refine g_bipush K X (63 : Int32) 166 d1_164 rfl rfl ?_
        refine g_iand K X 167 d1_166 rfl ?_
        refine g_ior K X 168 d1_167 rfl ?_
        refine g_eqI (y := Int32.ofNat (((b0 % 8 * 64 + b1 % 64) * 64 + b2 % 64) * 64 + b3 % 64)) (own_cp4 h0' h1' h2' h3') ?_
        refine g_istore K X 170 #[.val (.int (Int32.ofNat b0)), .val (.int (Int32.ofNat b1)), .val (.int (Int32.ofNat b2)), .val (.int (Int32.ofNat b3)), .val (.int (Int32.ofNat r)), .val (.int (Int32.ofNat (((b0 % 8 * 64 + b1 % 64) * 64 + b2 % 64) * 64 + b3 % 64)))] d1_168 rfl rfl ?_
        refine g_iload K X 172 d1_170 rfl rfl ?_
        refine g_iconst K X (4 : Int32) 173 d1_172 rfl rfl ?_
        by_cases hr4 : r < 4
        · refine g_icmpT K X 213 d1_173 rfl (show (Int32.ofNat r) < ((4 : Int32)) from ((own_lt (j := 4) (by omega) (by decide)).mpr hr4)) ?_
          refine g_iconst K X (0 : Int32) 214 d1_213 rfl rfl ?_
          exact g_retI K X eh rfl d1_214 (by decide) (by decide) ⟨by rw [show WF b0 b1 b2 b3 r = 0 by simp only [WF, W2, W3, W4]; (repeat' split) <;> omega]; rfl, rfl⟩
        · refine g_icmpF K X 176 d1_173 rfl (show ¬ ((Int32.ofNat r) < ((4 : Int32))) from (fun q => hr4 ((own_lt (j := 4) (by omega) (by decide)).mp q))) ?_
          refine g_iloadN K X 177 d1_176 rfl rfl ?_
          refine g_static K X eh rfl (met_ic l Z a0 hw b1 h1' h0 n0) (hw _ (List.mem_of_getElem? (i := 9) rfl)) (hw _ (List.mem_of_getElem? (i := 10) rfl)) (hw _ (List.mem_of_getElem? (i := 11) rfl)) (hw _ (List.mem_of_getElem? (i := 3) rfl)) (by decide) [.int (Int32.ofNat b1)] rfl rfl (lenOf pd_0 rfl) 180 d1_177 rfl 0 (Nat.le_of_eq rfl) (by decide) (by decide) (by decide) (by decide) fun T v h' X eh hv => ?_
          obtain ⟨rfl, rfl⟩ := hv
          by_cases cb1 : 128 ≤ b1 ∧ b1 < 192
          · rw [show ic b1 = 1 from if_pos cb1]
            refine g_ifF K X 183 d1_180 rfl (show ¬ ((Int32.ofNat 1) = 0) from (by decide)) ?_
            refine g_iloadN K X 184 d1_183 rfl rfl ?_
            refine g_static K X eh rfl (met_ic l Z a0 hw b2 h2' h0 n0) (hw _ (List.mem_of_getElem? (i := 9) rfl)) (hw _ (List.mem_of_getElem? (i := 10) rfl)) (hw _ (List.mem_of_getElem? (i := 11) rfl)) (hw _ (List.mem_of_getElem? (i := 3) rfl)) (by decide) [.int (Int32.ofNat b2)] rfl rfl (lenOf pd_0 rfl) 187 d1_184 rfl 0 (Nat.le_of_eq rfl) (by decide) (by decide) (by decide) (by decide) fun T v h' X eh hv => ?_
            obtain ⟨rfl, rfl⟩ := hv
            by_cases cb2 : 128 ≤ b2 ∧ b2 < 192
            · rw [show ic b2 = 1 from if_pos cb2]
              refine g_ifF K X 190 d1_187 rfl (show ¬ ((Int32.ofNat 1) = 0) from (by decide)) ?_
              refine g_iloadN K X 191 d1_190 rfl rfl ?_
              refine g_static K X eh rfl (met_ic l Z a0 hw b3 h3' h0 n0) (hw _ (List.mem_of_getElem? (i := 9) rfl)) (hw _ (List.mem_of_getElem? (i := 10) rfl)) (hw _ (List.mem_of_getElem? (i := 11) rfl)) (hw _ (List.mem_of_getElem? (i := 3) rfl)) (by decide) [.int (Int32.ofNat b3)] rfl rfl (lenOf pd_0 rfl) 194 d1_191 rfl 0 (Nat.le_of_eq rfl) (by decide) (by decide) (by decide) (by decide) fun T v h' X eh hv => ?_
              obtain ⟨rfl, rfl⟩ := hv
              by_cases cb3 : 128 ≤ b3 ∧ b3 < 192
              · rw [show ic b3 = 1 from if_pos cb3]
                refine g_ifF K X 197 d1_194 rfl (show ¬ ((Int32.ofNat 1) = 0) from (by decide)) ?_
                refine g_iload K X 199 d1_197 rfl rfl ?_
                refine g_ldcI K X (hw _ (List.mem_of_getElem? (i := 14) rfl)) 201 d1_199 rfl ?_
                by_cases hp : ((b0 % 8 * 64 + b1 % 64) * 64 + b2 % 64) * 64 + b3 % 64 < 65536
                · refine g_icmpT K X 213 d1_201 rfl (show (Int32.ofNat (((b0 % 8 * 64 + b1 % 64) * 64 + b2 % 64) * 64 + b3 % 64)) < ((65536 : Int32)) from ((own_lt (j := 65536) (by omega) (by decide)).mpr hp)) ?_
                  refine g_iconst K X (0 : Int32) 214 d1_213 rfl rfl ?_
                  exact g_retI K X eh rfl d1_214 (by decide) (by decide) ⟨by rw [show WF b0 b1 b2 b3 r = 0 by simp only [WF, W2, W3, W4]; (repeat' split) <;> omega]; rfl, rfl⟩
                · refine g_icmpF K X 204 d1_201 rfl (show ¬ ((Int32.ofNat (((b0 % 8 * 64 + b1 % 64) * 64 + b2 % 64) * 64 + b3 % 64)) < ((65536 : Int32))) from (fun q => hp ((own_lt (j := 65536) (by omega) (by decide)).mp q))) ?_
                  refine g_iload K X 206 d1_204 rfl rfl ?_
                  refine g_ldcI K X (hw _ (List.mem_of_getElem? (i := 15) rfl)) 208 d1_206 rfl ?_
                  by_cases hs : 1114111 < ((b0 % 8 * 64 + b1 % 64) * 64 + b2 % 64) * 64 + b3 % 64
                  · refine g_icmpT K X 213 d1_208 rfl (show ((1114111 : Int32)) < (Int32.ofNat (((b0 % 8 * 64 + b1 % 64) * 64 + b2 % 64) * 64 + b3 % 64)) from ((own_lt (i := 1114111) (by decide) (by omega)).mpr hs)) ?_
                    refine g_iconst K X (0 : Int32) 214 d1_213 rfl rfl ?_
                    exact g_retI K X eh rfl d1_214 (by decide) (by decide) ⟨by rw [show WF b0 b1 b2 b3 r = 0 by simp only [WF, W2, W3, W4]; (repeat' split) <;> omega]; rfl, rfl⟩
                  · refine g_icmpF K X 211 d1_208 rfl (show ¬ (((1114111 : Int32)) < (Int32.ofNat (((b0 % 8 * 64 + b1 % 64) * 64 + b2 % 64) * 64 + b3 % 64))) from (fun q => hs ((own_lt (i := 1114111) (by decide) (by omega)).mp q))) ?_
                    refine g_iconst K X (4 : Int32) 212 d1_211 rfl rfl ?_
                    exact g_retI K X eh rfl d1_212 (by decide) (by decide) ⟨by rw [show WF b0 b1 b2 b3 r = 4 by simp only [WF, W2, W3, W4]; (repeat' split) <;> omega]; rfl, rfl⟩
              · rw [show ic b3 = 0 from if_neg cb3]
                refine g_ifT K X 213 d1_194 rfl (show (Int32.ofNat 0) = 0 from rfl) ?_
                refine g_iconst K X (0 : Int32) 214 d1_213 rfl rfl ?_
                exact g_retI K X eh rfl d1_214 (by decide) (by decide) ⟨by rw [show WF b0 b1 b2 b3 r = 0 by simp only [WF, W2, W3, W4]; (repeat' split) <;> omega]; rfl, rfl⟩
            · rw [show ic b2 = 0 from if_neg cb2]
              refine g_ifT K X 213 d1_187 rfl (show (Int32.ofNat 0) = 0 from rfl) ?_
              refine g_iconst K X (0 : Int32) 214 d1_213 rfl rfl ?_
              exact g_retI K X eh rfl d1_214 (by decide) (by decide) ⟨by rw [show WF b0 b1 b2 b3 r = 0 by simp only [WF, W2, W3, W4]; (repeat' split) <;> omega]; rfl, rfl⟩
          · rw [show ic b1 = 0 from if_neg cb1]
            refine g_ifT K X 213 d1_180 rfl (show (Int32.ofNat 0) = 0 from rfl) ?_
            refine g_iconst K X (0 : Int32) 214 d1_213 rfl rfl ?_
            exact g_retI K X eh rfl d1_214 (by decide) (by decide) ⟨by rw [show WF b0 b1 b2 b3 r = 0 by simp only [WF, W2, W3, W4]; (repeat' split) <;> omega]; rfl, rfl⟩
      · refine g_icmpT K X 215 d1_137 rfl (show ¬ ((Int32.ofNat b0) &&& ((248 : Int32))) = ((240 : Int32)) from (fun q => t4 ((own_t4 ⟨b0, h0'⟩).mp q))) ?_
        refine g_iconst K X (0 : Int32) 216 d1_215 rfl rfl ?_
        exact g_retI K X eh rfl d1_216 (by decide) (by decide) ⟨by rw [show WF b0 b1 b2 b3 r = 0 by simp only [WF, W2, W3, W4]; (repeat' split) <;> omega]; rfl, rfl⟩
theorem d2_0 : decode prog_55_method_2_code 0 = .ok (.aload_n 0, 1) := by decide +kernel
theorem d2_1 : decode prog_55_method_2_code 1 = .ok (.iload_n 1, 1) := by decide +kernel
theorem d2_2 : decode prog_55_method_2_code 2 = .ok (.baload, 1) := by decide +kernel
theorem d2_3 : decode prog_55_method_2_code 3 = .ok (.sipush 255, 3) := by decide +kernel
theorem d2_6 : decode prog_55_method_2_code 6 = .ok (.iand, 1) := by decide +kernel
theorem d2_7 : decode prog_55_method_2_code 7 = .ok (.istore_n 3, 1) := by decide +kernel
theorem d2_8 : decode prog_55_method_2_code 8 = .ok (.iconst 0, 1) := by decide +kernel
theorem d2_9 : decode prog_55_method_2_code 9 = .ok (.istore 4, 2) := by decide +kernel
theorem d2_11 : decode prog_55_method_2_code 11 = .ok (.sipush 128, 3) := by decide +kernel
theorem d2_14 : decode prog_55_method_2_code 14 = .ok (.istore 5, 2) := by decide +kernel
theorem d2_16 : decode prog_55_method_2_code 16 = .ok (.sipush 191, 3) := by decide +kernel
theorem d2_19 : decode prog_55_method_2_code 19 = .ok (.istore 6, 2) := by decide +kernel
theorem d2_21 : decode prog_55_method_2_code 21 = .ok (.iload_n 3, 1) := by decide +kernel
theorem d2_22 : decode prog_55_method_2_code 22 = .ok (.sipush 194, 3) := by decide +kernel
theorem d2_25 : decode prog_55_method_2_code 25 = .ok (.if_icmp .lt 16, 3) := by decide +kernel
theorem d2_28 : decode prog_55_method_2_code 28 = .ok (.iload_n 3, 1) := by decide +kernel
theorem d2_29 : decode prog_55_method_2_code 29 = .ok (.sipush 223, 3) := by decide +kernel
theorem d2_32 : decode prog_55_method_2_code 32 = .ok (.if_icmp .gt 9, 3) := by decide +kernel
theorem d2_35 : decode prog_55_method_2_code 35 = .ok (.iconst 2, 1) := by decide +kernel
theorem d2_36 : decode prog_55_method_2_code 36 = .ok (.istore 4, 2) := by decide +kernel
theorem d2_38 : decode prog_55_method_2_code 38 = .ok (.goto 94, 3) := by decide +kernel
theorem d2_41 : decode prog_55_method_2_code 41 = .ok (.iload_n 3, 1) := by decide +kernel
theorem d2_42 : decode prog_55_method_2_code 42 = .ok (.sipush 224, 3) := by decide +kernel
theorem d2_45 : decode prog_55_method_2_code 45 = .ok (.if_icmp .lt 43, 3) := by decide +kernel
theorem d2_48 : decode prog_55_method_2_code 48 = .ok (.iload_n 3, 1) := by decide +kernel
theorem d2_49 : decode prog_55_method_2_code 49 = .ok (.sipush 239, 3) := by decide +kernel
theorem d2_52 : decode prog_55_method_2_code 52 = .ok (.if_icmp .gt 36, 3) := by decide +kernel
theorem d2_55 : decode prog_55_method_2_code 55 = .ok (.iconst 3, 1) := by decide +kernel
theorem d2_56 : decode prog_55_method_2_code 56 = .ok (.istore 4, 2) := by decide +kernel
theorem d2_58 : decode prog_55_method_2_code 58 = .ok (.iload_n 3, 1) := by decide +kernel
theorem d2_59 : decode prog_55_method_2_code 59 = .ok (.sipush 224, 3) := by decide +kernel
theorem d2_62 : decode prog_55_method_2_code 62 = .ok (.if_icmp .ne 11, 3) := by decide +kernel
theorem d2_65 : decode prog_55_method_2_code 65 = .ok (.sipush 160, 3) := by decide +kernel
theorem d2_68 : decode prog_55_method_2_code 68 = .ok (.istore 5, 2) := by decide +kernel
theorem d2_70 : decode prog_55_method_2_code 70 = .ok (.goto 62, 3) := by decide +kernel
theorem d2_73 : decode prog_55_method_2_code 73 = .ok (.iload_n 3, 1) := by decide +kernel
theorem d2_74 : decode prog_55_method_2_code 74 = .ok (.sipush 237, 3) := by decide +kernel
theorem d2_77 : decode prog_55_method_2_code 77 = .ok (.if_icmp .ne 55, 3) := by decide +kernel
theorem d2_80 : decode prog_55_method_2_code 80 = .ok (.sipush 159, 3) := by decide +kernel
theorem d2_83 : decode prog_55_method_2_code 83 = .ok (.istore 6, 2) := by decide +kernel
theorem d2_85 : decode prog_55_method_2_code 85 = .ok (.goto 47, 3) := by decide +kernel
theorem d2_88 : decode prog_55_method_2_code 88 = .ok (.iload_n 3, 1) := by decide +kernel
theorem d2_89 : decode prog_55_method_2_code 89 = .ok (.sipush 240, 3) := by decide +kernel
theorem d2_92 : decode prog_55_method_2_code 92 = .ok (.if_icmp .lt 40, 3) := by decide +kernel
theorem d2_95 : decode prog_55_method_2_code 95 = .ok (.iload_n 3, 1) := by decide +kernel
theorem d2_96 : decode prog_55_method_2_code 96 = .ok (.sipush 244, 3) := by decide +kernel
theorem d2_99 : decode prog_55_method_2_code 99 = .ok (.if_icmp .gt 33, 3) := by decide +kernel
theorem d2_102 : decode prog_55_method_2_code 102 = .ok (.iconst 4, 1) := by decide +kernel
theorem d2_103 : decode prog_55_method_2_code 103 = .ok (.istore 4, 2) := by decide +kernel
theorem d2_105 : decode prog_55_method_2_code 105 = .ok (.iload_n 3, 1) := by decide +kernel
theorem d2_106 : decode prog_55_method_2_code 106 = .ok (.sipush 240, 3) := by decide +kernel
theorem d2_109 : decode prog_55_method_2_code 109 = .ok (.if_icmp .ne 11, 3) := by decide +kernel
theorem d2_112 : decode prog_55_method_2_code 112 = .ok (.sipush 144, 3) := by decide +kernel
theorem d2_115 : decode prog_55_method_2_code 115 = .ok (.istore 5, 2) := by decide +kernel
theorem d2_117 : decode prog_55_method_2_code 117 = .ok (.goto 15, 3) := by decide +kernel
theorem d2_120 : decode prog_55_method_2_code 120 = .ok (.iload_n 3, 1) := by decide +kernel
theorem d2_121 : decode prog_55_method_2_code 121 = .ok (.sipush 244, 3) := by decide +kernel
theorem d2_124 : decode prog_55_method_2_code 124 = .ok (.if_icmp .ne 8, 3) := by decide +kernel
theorem d2_127 : decode prog_55_method_2_code 127 = .ok (.sipush 143, 3) := by decide +kernel
theorem d2_130 : decode prog_55_method_2_code 130 = .ok (.istore 6, 2) := by decide +kernel
theorem d2_132 : decode prog_55_method_2_code 132 = .ok (.iload 4, 2) := by decide +kernel
theorem d2_134 : decode prog_55_method_2_code 134 = .ok (.ifCond .eq 11, 3) := by decide +kernel
theorem d2_137 : decode prog_55_method_2_code 137 = .ok (.iload_n 1, 1) := by decide +kernel
theorem d2_138 : decode prog_55_method_2_code 138 = .ok (.iload 4, 2) := by decide +kernel
theorem d2_140 : decode prog_55_method_2_code 140 = .ok (.iadd, 1) := by decide +kernel
theorem d2_141 : decode prog_55_method_2_code 141 = .ok (.iload_n 2, 1) := by decide +kernel
theorem d2_142 : decode prog_55_method_2_code 142 = .ok (.if_icmp .le 5, 3) := by decide +kernel
theorem d2_145 : decode prog_55_method_2_code 145 = .ok (.iconst 0, 1) := by decide +kernel
theorem d2_146 : decode prog_55_method_2_code 146 = .ok (.ireturn, 1) := by decide +kernel
theorem d2_147 : decode prog_55_method_2_code 147 = .ok (.iconst 1, 1) := by decide +kernel
theorem d2_148 : decode prog_55_method_2_code 148 = .ok (.istore 7, 2) := by decide +kernel
theorem d2_150 : decode prog_55_method_2_code 150 = .ok (.iload 7, 2) := by decide +kernel
theorem d2_152 : decode prog_55_method_2_code 152 = .ok (.iload 4, 2) := by decide +kernel
theorem d2_154 : decode prog_55_method_2_code 154 = .ok (.if_icmp .ge 47, 3) := by decide +kernel
theorem d2_157 : decode prog_55_method_2_code 157 = .ok (.aload_n 0, 1) := by decide +kernel
theorem d2_158 : decode prog_55_method_2_code 158 = .ok (.iload_n 1, 1) := by decide +kernel
theorem d2_159 : decode prog_55_method_2_code 159 = .ok (.iload 7, 2) := by decide +kernel
theorem d2_161 : decode prog_55_method_2_code 161 = .ok (.iadd, 1) := by decide +kernel
theorem d2_162 : decode prog_55_method_2_code 162 = .ok (.baload, 1) := by decide +kernel
theorem d2_163 : decode prog_55_method_2_code 163 = .ok (.sipush 255, 3) := by decide +kernel
theorem d2_166 : decode prog_55_method_2_code 166 = .ok (.iand, 1) := by decide +kernel
theorem d2_167 : decode prog_55_method_2_code 167 = .ok (.istore 8, 2) := by decide +kernel
theorem d2_169 : decode prog_55_method_2_code 169 = .ok (.iload 8, 2) := by decide +kernel
theorem d2_171 : decode prog_55_method_2_code 171 = .ok (.iload 5, 2) := by decide +kernel
theorem d2_173 : decode prog_55_method_2_code 173 = .ok (.if_icmp .lt 10, 3) := by decide +kernel
theorem d2_176 : decode prog_55_method_2_code 176 = .ok (.iload 8, 2) := by decide +kernel
theorem d2_178 : decode prog_55_method_2_code 178 = .ok (.iload 6, 2) := by decide +kernel
theorem d2_180 : decode prog_55_method_2_code 180 = .ok (.if_icmp .le 5, 3) := by decide +kernel
theorem d2_183 : decode prog_55_method_2_code 183 = .ok (.iconst 0, 1) := by decide +kernel
theorem d2_184 : decode prog_55_method_2_code 184 = .ok (.ireturn, 1) := by decide +kernel
theorem d2_185 : decode prog_55_method_2_code 185 = .ok (.sipush 128, 3) := by decide +kernel
theorem d2_188 : decode prog_55_method_2_code 188 = .ok (.istore 5, 2) := by decide +kernel
theorem d2_190 : decode prog_55_method_2_code 190 = .ok (.sipush 191, 3) := by decide +kernel
theorem d2_193 : decode prog_55_method_2_code 193 = .ok (.istore 6, 2) := by decide +kernel
theorem d2_195 : decode prog_55_method_2_code 195 = .ok (.iinc 7 1, 3) := by decide +kernel
theorem d2_198 : decode prog_55_method_2_code 198 = .ok (.goto (-48), 3) := by decide +kernel
theorem d2_201 : decode prog_55_method_2_code 201 = .ok (.iload 4, 2) := by decide +kernel
theorem d2_203 : decode prog_55_method_2_code 203 = .ok (.ireturn, 1) := by decide +kernel
set_option maxRecDepth 65536 in
set_option maxHeartbeats 40000000 in
theorem met_sl (l : Launch) (Z : State) (a0 : Array Value) (hw : ∀ d ∈ tables_1, d.before a0 Z = true) (a : Addr) (f : Nat → Int32) (k b0 b1 b2 b3 r : Nat) (hk : k < 2) (hr : r < 5) (h0' : b0 < 256) (h1' : b1 < 256) (h2' : b2 < 256) (h3' : b3 < 256) (h0 : Heap) (n0 : Nat) (A : Ai Z h0 a .byte 5 f) (q0 : f k &&& 255 = Int32.ofNat b0) (q1 : f (k + 1) &&& 255 = Int32.ofNat b1) (q2 : f (k + 2) &&& 255 = Int32.ofNat b2) (q3 : f (k + 3) &&& 255 = Int32.ofNat b3) :
    Met l Z (⟨"com/example/wireloom/wireloom/engine/Utf8", "sequenceLength", "([BII)I"⟩ : MethodName) prog_55_method_2_code 9 (some .int) [] rm0 #[.ref a, .int (Int32.ofNat k), .int (Int32.ofNat (k + r))] h0 n0 (fun v h' => v = some (.int (Int32.ofNat (WF b0 b1 b2 b3 r))) ∧ h0 = h') := by
  refine Met.of (plainFor_of_name (by first | (simp [plainName, overriddenIn]; done) | decide +kernel)) #[.val (.ref a), .val (.int (Int32.ofNat k)), .val (.int (Int32.ofNat (k + r))), .unset, .unset, .unset, .unset, .unset, .unset] (fun m => by first | (simp [entryFrame, mkF, argsToLocals, Value.category]; done) | rfl) ?_
  intro p e s m below meth c T K X eh
  have tail0 : ∀ lo hi, lo < 256 → hi < 256 → WF b0 b1 b2 b3 r = 0 → Go p e below s n0 (fun v h' => v = some (.int (Int32.ofNat (WF b0 b1 b2 b3 r))) ∧ h0 = h') rm0.cells rm0.slots (T.setTop (mkF m 132 #[.val (.ref a), .val (.int (Int32.ofNat k)), .val (.int (Int32.ofNat (k + r))), .val (.int (Int32.ofNat b0)), .val (.int ((0 : Int32))), .val (.int (Int32.ofNat lo)), .val (.int (Int32.ofNat hi)), .unset, .unset] [])) := by
    intro lo hi hlo hhi hW
    refine g_iload K X 134 d2_132 rfl rfl ?_
    refine g_ifT K X 145 d2_134 rfl (show ((0 : Int32)) = 0 from rfl) ?_
    refine g_iconst K X (0 : Int32) 146 d2_145 rfl rfl ?_
    exact g_retI K X eh rfl d2_146 (by decide) (by decide) ⟨by rw [hW]; rfl, rfl⟩
  have tail2 : ∀ lo hi, lo < 256 → hi < 256 → WF b0 b1 b2 b3 r = W2 lo hi b1 r → Go p e below s n0 (fun v h' => v = some (.int (Int32.ofNat (WF b0 b1 b2 b3 r))) ∧ h0 = h') rm0.cells rm0.slots (T.setTop (mkF m 132 #[.val (.ref a), .val (.int (Int32.ofNat k)), .val (.int (Int32.ofNat (k + r))), .val (.int (Int32.ofNat b0)), .val (.int ((2 : Int32))), .val (.int (Int32.ofNat lo)), .val (.int (Int32.ofNat hi)), .unset, .unset] [])) := by
    intro lo hi hlo hhi hW
    refine g_iload K X 134 d2_132 rfl rfl ?_
    refine g_ifF K X 137 d2_134 rfl (show ¬ (((2 : Int32)) = 0) from (by decide)) ?_
    refine g_iloadN K X 138 d2_137 rfl rfl ?_
    refine g_iload K X 140 d2_138 rfl rfl ?_
    refine g_iadd K X 141 d2_140 rfl ?_
    refine g_eqI (y := Int32.ofNat (k + 2)) (own_add k 2 rfl) ?_
    refine g_iloadN K X 142 d2_141 rfl rfl ?_
    by_cases hl : 2 ≤ r
    · refine g_icmpT K X 147 d2_142 rfl (show ¬ (Int32.ofNat (k + r)) < (Int32.ofNat (k + 2)) from (fun q => absurd ((own_lt (by omega) (by omega)).mp q) (by omega))) ?_
      refine g_iconst K X (1 : Int32) 148 d2_147 rfl rfl ?_
      refine g_istore K X 150 #[.val (.ref a), .val (.int (Int32.ofNat k)), .val (.int (Int32.ofNat (k + r))), .val (.int (Int32.ofNat b0)), .val (.int ((2 : Int32))), .val (.int (Int32.ofNat lo)), .val (.int (Int32.ofNat hi)), .val (.int ((1 : Int32))), .unset] d2_148 rfl rfl ?_
      refine g_iload K X 152 d2_150 rfl rfl ?_
      refine g_iload K X 154 d2_152 rfl rfl ?_
      refine g_icmpF K X 157 d2_154 rfl (show ¬ (¬ ((1 : Int32)) < ((2 : Int32))) from (fun q => q (by decide))) ?_
      refine g_aloadN K X 158 d2_157 rfl rfl rfl ?_
      refine g_iloadN K X 159 d2_158 rfl rfl ?_
      refine g_iload K X 161 d2_159 rfl rfl ?_
      refine g_iadd K X 162 d2_161 rfl ?_
      refine g_eqI (y := Int32.ofNat (k + 1)) (own_add k 1 rfl) ?_
      refine g_baload K X eh A (k + 1) (own_i0 (by omega)) (by omega) (f (k + 1)) rfl 163 d2_162 rfl ?_
      refine g_sipush K X (255 : Int32) 166 d2_163 rfl rfl ?_
      refine g_iand K X 167 d2_166 rfl ?_
      refine g_eqI (y := Int32.ofNat b1) (q1) ?_
      refine g_istore K X 169 #[.val (.ref a), .val (.int (Int32.ofNat k)), .val (.int (Int32.ofNat (k + r))), .val (.int (Int32.ofNat b0)), .val (.int ((2 : Int32))), .val (.int (Int32.ofNat lo)), .val (.int (Int32.ofNat hi)), .val (.int ((1 : Int32))), .val (.int (Int32.ofNat b1))] d2_167 rfl rfl ?_
      refine g_iload K X 171 d2_169 rfl rfl ?_
      refine g_iload K X 173 d2_171 rfl rfl ?_
      by_cases g1 : b1 < lo
      · refine g_icmpT K X 183 d2_173 rfl (show (Int32.ofNat b1) < (Int32.ofNat lo) from ((own_lt (by omega) (by omega)).mpr g1)) ?_
        refine g_iconst K X (0 : Int32) 184 d2_183 rfl rfl ?_
        exact g_retI K X eh rfl d2_184 (by decide) (by decide) ⟨by rw [show WF b0 b1 b2 b3 r = 0 by rw [hW]; (try simp only [W2, W3, W4]); (repeat' split) <;> omega]; rfl, rfl⟩
      · refine g_icmpF K X 176 d2_173 rfl (show ¬ ((Int32.ofNat b1) < (Int32.ofNat lo)) from (fun q => g1 ((own_lt (by omega) (by omega)).mp q))) ?_
        refine g_iload K X 178 d2_176 rfl rfl ?_
        refine g_iload K X 180 d2_178 rfl rfl ?_
        by_cases j1 : hi < b1
        · refine g_icmpF K X 183 d2_180 rfl (show ¬ (¬ (Int32.ofNat hi) < (Int32.ofNat b1)) from (fun q => q ((own_lt (by omega) (by omega)).mpr j1))) ?_
          refine g_iconst K X (0 : Int32) 184 d2_183 rfl rfl ?_
          exact g_retI K X eh rfl d2_184 (by decide) (by decide) ⟨by rw [show WF b0 b1 b2 b3 r = 0 by rw [hW]; (try simp only [W2, W3, W4]); (repeat' split) <;> omega]; rfl, rfl⟩
        · refine g_icmpT K X 185 d2_180 rfl (show ¬ (Int32.ofNat hi) < (Int32.ofNat b1) from (fun q => j1 ((own_lt (by omega) (by omega)).mp q))) ?_
          refine g_sipush K X (128 : Int32) 188 d2_185 rfl rfl ?_
          refine g_istore K X 190 #[.val (.ref a), .val (.int (Int32.ofNat k)), .val (.int (Int32.ofNat (k + r))), .val (.int (Int32.ofNat b0)), .val (.int ((2 : Int32))), .val (.int ((128 : Int32))), .val (.int (Int32.ofNat hi)), .val (.int ((1 : Int32))), .val (.int (Int32.ofNat b1))] d2_188 rfl rfl ?_
          refine g_sipush K X (191 : Int32) 193 d2_190 rfl rfl ?_
          refine g_istore K X 195 #[.val (.ref a), .val (.int (Int32.ofNat k)), .val (.int (Int32.ofNat (k + r))), .val (.int (Int32.ofNat b0)), .val (.int ((2 : Int32))), .val (.int ((128 : Int32))), .val (.int ((191 : Int32))), .val (.int ((1 : Int32))), .val (.int (Int32.ofNat b1))] d2_193 rfl rfl ?_
          refine g_iinc K X (1 : Int32) 198 #[.val (.ref a), .val (.int (Int32.ofNat k)), .val (.int (Int32.ofNat (k + r))), .val (.int (Int32.ofNat b0)), .val (.int ((2 : Int32))), .val (.int ((128 : Int32))), .val (.int ((191 : Int32))), .val (.int (((1 : Int32)) + (1 : Int32))), .val (.int (Int32.ofNat b1))] d2_195 rfl rfl rfl rfl ?_
          show Go p e below s _ _ _ _ (T.setTop (mkF m 198 #[.val (.ref a), .val (.int (Int32.ofNat k)), .val (.int (Int32.ofNat (k + r))), .val (.int (Int32.ofNat b0)), .val (.int ((2 : Int32))), .val (.int ((128 : Int32))), .val (.int ((191 : Int32))), .val (.int ((2 : Int32))), .val (.int (Int32.ofNat b1))] []))
          refine g_goto K X 150 d2_198 rfl ?_
          show Go p e below s _ _ _ _ (T.setTop (mkF m 150 #[.val (.ref a), .val (.int (Int32.ofNat k)), .val (.int (Int32.ofNat (k + r))), .val (.int (Int32.ofNat b0)), .val (.int ((2 : Int32))), .val (.int (Int32.ofNat 128)), .val (.int (Int32.ofNat 191)), .val (.int ((2 : Int32))), .val (.int (Int32.ofNat b1))] []))
          refine g_iload K X 152 d2_150 rfl rfl ?_
          refine g_iload K X 154 d2_152 rfl rfl ?_
          refine g_icmpT K X 201 d2_154 rfl (show ¬ ((2 : Int32)) < ((2 : Int32)) from (by decide)) ?_
          refine g_iload K X 203 d2_201 rfl rfl ?_
          exact g_retI K X eh rfl d2_203 (by decide) (by decide) ⟨by rw [show WF b0 b1 b2 b3 r = 2 by rw [hW]; (try simp only [W2, W3, W4]); (repeat' split) <;> omega]; rfl, rfl⟩
    · refine g_icmpF K X 145 d2_142 rfl (show ¬ (¬ (Int32.ofNat (k + r)) < (Int32.ofNat (k + 2))) from (fun q => q ((own_lt (by omega) (by omega)).mpr (by omega)))) ?_
      refine g_iconst K X (0 : Int32) 146 d2_145 rfl rfl ?_
      exact g_retI K X eh rfl d2_146 (by decide) (by decide) ⟨by rw [show WF b0 b1 b2 b3 r = 0 by rw [hW]; (try simp only [W2, W3, W4]); (repeat' split) <;> omega]; rfl, rfl⟩
  have tail3 : ∀ lo hi, lo < 256 → hi < 256 → WF b0 b1 b2 b3 r = W3 lo hi b1 b2 r → Go p e below s n0 (fun v h' => v = some (.int (Int32.ofNat (WF b0 b1 b2 b3 r))) ∧ h0 = h') rm0.cells rm0.slots (T.setTop (mkF m 132 #[.val (.ref a), .val (.int (Int32.ofNat k)), .val (.int (Int32.ofNat (k + r))), .val (.int (Int32.ofNat b0)), .val (.int ((3 : Int32))), .val (.int (Int32.ofNat lo)), .val (.int (Int32.ofNat hi)), .unset, .unset] [])) := by
    intro lo hi hlo hhi hW
    refine g_iload K X 134 d2_132 rfl rfl ?_
    refine g_ifF K X 137 d2_134 rfl (show ¬ (((3 : Int32)) = 0) from (by decide)) ?_
    refine g_iloadN K X 138 d2_137 rfl rfl ?_
    refine g_iload K X 140 d2_138 rfl rfl ?_
    refine g_iadd K X 141 d2_140 rfl ?_
    refine g_eqI (y := Int32.ofNat (k + 3)) (own_add k 3 rfl) ?_
    refine g_iloadN K X 142 d2_141 rfl rfl ?_
    by_cases hl : 3 ≤ r
    · refine g_icmpT K X 147 d2_142 rfl (show ¬ (Int32.ofNat (k + r)) < (Int32.ofNat (k + 3)) from (fun q => absurd ((own_lt (by omega) (by omega)).mp q) (by omega))) ?_
      refine g_iconst K X (1 : Int32) 148 d2_147 rfl rfl ?_
      refine g_istore K X 150 #[.val (.ref a), .val (.int (Int32.ofNat k)), .val (.int (Int32.ofNat (k + r))), .val (.int (Int32.ofNat b0)), .val (.int ((3 : Int32))), .val (.int (Int32.ofNat lo)), .val (.int (Int32.ofNat hi)), .val (.int ((1 : Int32))), .unset] d2_148 rfl rfl ?_
      refine g_iload K X 152 d2_150 rfl rfl ?_
      refine g_iload K X 154 d2_152 rfl rfl ?_
      refine g_icmpF K X 157 d2_154 rfl (show ¬ (¬ ((1 : Int32)) < ((3 : Int32))) from (fun q => q (by decide))) ?_
      refine g_aloadN K X 158 d2_157 rfl rfl rfl ?_
      refine g_iloadN K X 159 d2_158 rfl rfl ?_
      refine g_iload K X 161 d2_159 rfl rfl ?_
      refine g_iadd K X 162 d2_161 rfl ?_
      refine g_eqI (y := Int32.ofNat (k + 1)) (own_add k 1 rfl) ?_
      refine g_baload K X eh A (k + 1) (own_i0 (by omega)) (by omega) (f (k + 1)) rfl 163 d2_162 rfl ?_
      refine g_sipush K X (255 : Int32) 166 d2_163 rfl rfl ?_
      refine g_iand K X 167 d2_166 rfl ?_
      refine g_eqI (y := Int32.ofNat b1) (q1) ?_
      refine g_istore K X 169 #[.val (.ref a), .val (.int (Int32.ofNat k)), .val (.int (Int32.ofNat (k + r))), .val (.int (Int32.ofNat b0)), .val (.int ((3 : Int32))), .val (.int (Int32.ofNat lo)), .val (.int (Int32.ofNat hi)), .val (.int ((1 : Int32))), .val (.int (Int32.ofNat b1))] d2_167 rfl rfl ?_
      refine g_iload K X 171 d2_169 rfl rfl ?_
      refine g_iload K X 173 d2_171 rfl rfl ?_
      by_cases g1 : b1 < lo
      · refine g_icmpT K X 183 d2_173 rfl (show (Int32.ofNat b1) < (Int32.ofNat lo) from ((own_lt (by omega) (by omega)).mpr g1)) ?_
        refine g_iconst K X (0 : Int32) 184 d2_183 rfl rfl ?_
        exact g_retI K X eh rfl d2_184 (by decide) (by decide) ⟨by rw [show WF b0 b1 b2 b3 r = 0 by rw [hW]; (try simp only [W2, W3, W4]); (repeat' split) <;> omega]; rfl, rfl⟩
      · refine g_icmpF K X 176 d2_173 rfl (show ¬ ((Int32.ofNat b1) < (Int32.ofNat lo)) from (fun q => g1 ((own_lt (by omega) (by omega)).mp q))) ?_
        refine g_iload K X 178 d2_176 rfl rfl ?_
        refine g_iload K X 180 d2_178 rfl rfl ?_
        by_cases j1 : hi < b1
        · refine g_icmpF K X 183 d2_180 rfl (show ¬ (¬ (Int32.ofNat hi) < (Int32.ofNat b1)) from (fun q => q ((own_lt (by omega) (by omega)).mpr j1))) ?_
          refine g_iconst K X (0 : Int32) 184 d2_183 rfl rfl ?_
          exact g_retI K X eh rfl d2_184 (by decide) (by decide) ⟨by rw [show WF b0 b1 b2 b3 r = 0 by rw [hW]; (try simp only [W2, W3, W4]); (repeat' split) <;> omega]; rfl, rfl⟩
        · refine g_icmpT K X 185 d2_180 rfl (show ¬ (Int32.ofNat hi) < (Int32.ofNat b1) from (fun q => j1 ((own_lt (by omega) (by omega)).mp q))) ?_
          refine g_sipush K X (128 : Int32) 188 d2_185 rfl rfl ?_
          refine g_istore K X 190 #[.val (.ref a), .val (.int (Int32.ofNat k)), .val (.int (Int32.ofNat (k + r))), .val (.int (Int32.ofNat b0)), .val (.int ((3 : Int32))), .val (.int ((128 : Int32))), .val (.int (Int32.ofNat hi)), .val (.int ((1 : Int32))), .val (.int (Int32.ofNat b1))] d2_188 rfl rfl ?_
          refine g_sipush K X (191 : Int32) 193 d2_190 rfl rfl ?_
          refine g_istore K X 195 #[.val (.ref a), .val (.int (Int32.ofNat k)), .val (.int (Int32.ofNat (k + r))), .val (.int (Int32.ofNat b0)), .val (.int ((3 : Int32))), .val (.int ((128 : Int32))), .val (.int ((191 : Int32))), .val (.int ((1 : Int32))), .val (.int (Int32.ofNat b1))] d2_193 rfl rfl ?_
          refine g_iinc K X (1 : Int32) 198 #[.val (.ref a), .val (.int (Int32.ofNat k)), .val (.int (Int32.ofNat (k + r))), .val (.int (Int32.ofNat b0)), .val (.int ((3 : Int32))), .val (.int ((128 : Int32))), .val (.int ((191 : Int32))), .val (.int (((1 : Int32)) + (1 : Int32))), .val (.int (Int32.ofNat b1))] d2_195 rfl rfl rfl rfl ?_
          show Go p e below s _ _ _ _ (T.setTop (mkF m 198 #[.val (.ref a), .val (.int (Int32.ofNat k)), .val (.int (Int32.ofNat (k + r))), .val (.int (Int32.ofNat b0)), .val (.int ((3 : Int32))), .val (.int ((128 : Int32))), .val (.int ((191 : Int32))), .val (.int ((2 : Int32))), .val (.int (Int32.ofNat b1))] []))
          refine g_goto K X 150 d2_198 rfl ?_
          show Go p e below s _ _ _ _ (T.setTop (mkF m 150 #[.val (.ref a), .val (.int (Int32.ofNat k)), .val (.int (Int32.ofNat (k + r))), .val (.int (Int32.ofNat b0)), .val (.int ((3 : Int32))), .val (.int (Int32.ofNat 128)), .val (.int (Int32.ofNat 191)), .val (.int ((2 : Int32))), .val (.int (Int32.ofNat b1))] []))
          refine g_iload K X 152 d2_150 rfl rfl ?_
          refine g_iload K X 154 d2_152 rfl rfl ?_
          refine g_icmpF K X 157 d2_154 rfl (show ¬ (¬ ((2 : Int32)) < ((3 : Int32))) from (fun q => q (by decide))) ?_
          refine g_aloadN K X 158 d2_157 rfl rfl rfl ?_
          refine g_iloadN K X 159 d2_158 rfl rfl ?_
          refine g_iload K X 161 d2_159 rfl rfl ?_
          refine g_iadd K X 162 d2_161 rfl ?_
          refine g_eqI (y := Int32.ofNat (k + 2)) (own_add k 2 rfl) ?_
          refine g_baload K X eh A (k + 2) (own_i0 (by omega)) (by omega) (f (k + 2)) rfl 163 d2_162 rfl ?_
          refine g_sipush K X (255 : Int32) 166 d2_163 rfl rfl ?_
          refine g_iand K X 167 d2_166 rfl ?_
          refine g_eqI (y := Int32.ofNat b2) (q2) ?_
          refine g_istore K X 169 #[.val (.ref a), .val (.int (Int32.ofNat k)), .val (.int (Int32.ofNat (k + r))), .val (.int (Int32.ofNat b0)), .val (.int ((3 : Int32))), .val (.int (Int32.ofNat 128)), .val (.int (Int32.ofNat 191)), .val (.int ((2 : Int32))), .val (.int (Int32.ofNat b2))] d2_167 rfl rfl ?_
          refine g_iload K X 171 d2_169 rfl rfl ?_
          refine g_iload K X 173 d2_171 rfl rfl ?_
          by_cases g2 : b2 < 128
          · refine g_icmpT K X 183 d2_173 rfl (show (Int32.ofNat b2) < (Int32.ofNat 128) from ((own_lt (by omega) (by omega)).mpr g2)) ?_
            refine g_iconst K X (0 : Int32) 184 d2_183 rfl rfl ?_
            exact g_retI K X eh rfl d2_184 (by decide) (by decide) ⟨by rw [show WF b0 b1 b2 b3 r = 0 by rw [hW]; (try simp only [W2, W3, W4]); (repeat' split) <;> omega]; rfl, rfl⟩
          · refine g_icmpF K X 176 d2_173 rfl (show ¬ ((Int32.ofNat b2) < (Int32.ofNat 128)) from (fun q => g2 ((own_lt (by omega) (by omega)).mp q))) ?_
            refine g_iload K X 178 d2_176 rfl rfl ?_
            refine g_iload K X 180 d2_178 rfl rfl ?_
            by_cases j2 : 191 < b2
            · refine g_icmpF K X 183 d2_180 rfl (show ¬ (¬ (Int32.ofNat 191) < (Int32.ofNat b2)) from (fun q => q ((own_lt (by omega) (by omega)).mpr j2))) ?_
              refine g_iconst K X (0 : Int32) 184 d2_183 rfl rfl ?_
              exact g_retI K X eh rfl d2_184 (by decide) (by decide) ⟨by rw [show WF b0 b1 b2 b3 r = 0 by rw [hW]; (try simp only [W2, W3, W4]); (repeat' split) <;> omega]; rfl, rfl⟩
            · refine g_icmpT K X 185 d2_180 rfl (show ¬ (Int32.ofNat 191) < (Int32.ofNat b2) from (fun q => j2 ((own_lt (by omega) (by omega)).mp q))) ?_
              refine g_sipush K X (128 : Int32) 188 d2_185 rfl rfl ?_
              refine g_istore K X 190 #[.val (.ref a), .val (.int (Int32.ofNat k)), .val (.int (Int32.ofNat (k + r))), .val (.int (Int32.ofNat b0)), .val (.int ((3 : Int32))), .val (.int ((128 : Int32))), .val (.int (Int32.ofNat 191)), .val (.int ((2 : Int32))), .val (.int (Int32.ofNat b2))] d2_188 rfl rfl ?_
              refine g_sipush K X (191 : Int32) 193 d2_190 rfl rfl ?_
              refine g_istore K X 195 #[.val (.ref a), .val (.int (Int32.ofNat k)), .val (.int (Int32.ofNat (k + r))), .val (.int (Int32.ofNat b0)), .val (.int ((3 : Int32))), .val (.int ((128 : Int32))), .val (.int ((191 : Int32))), .val (.int ((2 : Int32))), .val (.int (Int32.ofNat b2))] d2_193 rfl rfl ?_
              refine g_iinc K X (1 : Int32) 198 #[.val (.ref a), .val (.int (Int32.ofNat k)), .val (.int (Int32.ofNat (k + r))), .val (.int (Int32.ofNat b0)), .val (.int ((3 : Int32))), .val (.int ((128 : Int32))), .val (.int ((191 : Int32))), .val (.int (((2 : Int32)) + (1 : Int32))), .val (.int (Int32.ofNat b2))] d2_195 rfl rfl rfl rfl ?_
              show Go p e below s _ _ _ _ (T.setTop (mkF m 198 #[.val (.ref a), .val (.int (Int32.ofNat k)), .val (.int (Int32.ofNat (k + r))), .val (.int (Int32.ofNat b0)), .val (.int ((3 : Int32))), .val (.int ((128 : Int32))), .val (.int ((191 : Int32))), .val (.int ((3 : Int32))), .val (.int (Int32.ofNat b2))] []))
              refine g_goto K X 150 d2_198 rfl ?_
              show Go p e below s _ _ _ _ (T.setTop (mkF m 150 #[.val (.ref a), .val (.int (Int32.ofNat k)), .val (.int (Int32.ofNat (k + r))), .val (.int (Int32.ofNat b0)), .val (.int ((3 : Int32))), .val (.int (Int32.ofNat 128)), .val (.int (Int32.ofNat 191)), .val (.int ((3 : Int32))), .val (.int (Int32.ofNat b2))] []))
              refine g_iload K X 152 d2_150 rfl rfl ?_
              refine g_iload K X 154 d2_152 rfl rfl ?_
              refine g_icmpT K X 201 d2_154 rfl (show ¬ ((3 : Int32)) < ((3 : Int32)) from (by decide)) ?_
              refine g_iload K X 203 d2_201 rfl rfl ?_
              exact g_retI K X eh rfl d2_203 (by decide) (by decide) ⟨by rw [show WF b0 b1 b2 b3 r = 3 by rw [hW]; (try simp only [W2, W3, W4]); (repeat' split) <;> omega]; rfl, rfl⟩
    · refine g_icmpF K X 145 d2_142 rfl (show ¬ (¬ (Int32.ofNat (k + r)) < (Int32.ofNat (k + 3))) from (fun q => q ((own_lt (by omega) (by omega)).mpr (by omega)))) ?_
      refine g_iconst K X (0 : Int32) 146 d2_145 rfl rfl ?_
      exact g_retI K X eh rfl d2_146 (by decide) (by decide) ⟨by rw [show WF b0 b1 b2 b3 r = 0 by rw [hW]; (try simp only [W2, W3, W4]); (repeat' split) <;> omega]; rfl, rfl⟩
  have tail4 : ∀ lo hi, lo < 256 → hi < 256 → WF b0 b1 b2 b3 r = W4 lo hi b1 b2 b3 r → Go p e below s n0 (fun v h' => v = some (.int (Int32.ofNat (WF b0 b1 b2 b3 r))) ∧ h0 = h') rm0.cells rm0.slots (T.setTop (mkF m 132 #[.val (.ref a), .val (.int (Int32.ofNat k)), .val (.int (Int32.ofNat (k + r))), .val (.int (Int32.ofNat b0)), .val (.int ((4 : Int32))), .val (.int (Int32.ofNat lo)), .val (.int (Int32.ofNat hi)), .unset, .unset] [])) := by
    intro lo hi hlo hhi hW
    refine g_iload K X 134 d2_132 rfl rfl ?_
    refine g_ifF K X 137 d2_134 rfl (show ¬ (((4 : Int32)) = 0) from (by decide)) ?_
    refine g_iloadN K X 138 d2_137 rfl rfl ?_
    refine g_iload K X 140 d2_138 rfl rfl ?_
    refine g_iadd K X 141 d2_140 rfl ?_
    refine g_eqI (y := Int32.ofNat (k + 4)) (own_add k 4 rfl) ?_
    refine g_iloadN K X 142 d2_141 rfl rfl ?_
    by_cases hl : 4 ≤ r
    · refine g_icmpT K X 147 d2_142 rfl (show ¬ (Int32.ofNat (k + r)) < (Int32.ofNat (k + 4)) from (fun q => absurd ((own_lt (by omega) (by omega)).mp q) (by omega))) ?_
      refine g_iconst K X (1 : Int32) 148 d2_147 rfl rfl ?_
      refine g_istore K X 150 #[.val (.ref a), .val (.int (Int32.ofNat k)), .val (.int (Int32.ofNat (k + r))), .val (.int (Int32.ofNat b0)), .val (.int ((4 : Int32))), .val (.int (Int32.ofNat lo)), .val (.int (Int32.ofNat hi)), .val (.int ((1 : Int32))), .unset] d2_148 rfl rfl ?_
      refine g_iload K X 152 d2_150 rfl rfl ?_
      refine g_iload K X 154 d2_152 rfl rfl ?_
      refine g_icmpF K X 157 d2_154 rfl (show ¬ (¬ ((1 : Int32)) < ((4 : Int32))) from (fun q => q (by decide))) ?_
      refine g_aloadN K X 158 d2_157 rfl rfl rfl ?_
      refine g_iloadN K X 159 d2_158 rfl rfl ?_
      refine g_iload K X 161 d2_159 rfl rfl ?_
      refine g_iadd K X 162 d2_161 rfl ?_
      refine g_eqI (y := Int32.ofNat (k + 1)) (own_add k 1 rfl) ?_
      refine g_baload K X eh A (k + 1) (own_i0 (by omega)) (by omega) (f (k + 1)) rfl 163 d2_162 rfl ?_
      refine g_sipush K X (255 : Int32) 166 d2_163 rfl rfl ?_
      refine g_iand K X 167 d2_166 rfl ?_
      refine g_eqI (y := Int32.ofNat b1) (q1) ?_
      refine g_istore K X 169 #[.val (.ref a), .val (.int (Int32.ofNat k)), .val (.int (Int32.ofNat (k + r))), .val (.int (Int32.ofNat b0)), .val (.int ((4 : Int32))), .val (.int (Int32.ofNat lo)), .val (.int (Int32.ofNat hi)), .val (.int ((1 : Int32))), .val (.int (Int32.ofNat b1))] d2_167 rfl rfl ?_
      refine g_iload K X 171 d2_169 rfl rfl ?_
      refine g_iload K X 173 d2_171 rfl rfl ?_
      by_cases g1 : b1 < lo
      · refine g_icmpT K X 183 d2_173 rfl (show (Int32.ofNat b1) < (Int32.ofNat lo) from ((own_lt (by omega) (by omega)).mpr g1)) ?_
        refine g_iconst K X (0 : Int32) 184 d2_183 rfl rfl ?_
        exact g_retI K X eh rfl d2_184 (by decide) (by decide) ⟨by rw [show WF b0 b1 b2 b3 r = 0 by rw [hW]; (try simp only [W2, W3, W4]); (repeat' split) <;> omega]; rfl, rfl⟩
      · refine g_icmpF K X 176 d2_173 rfl (show ¬ ((Int32.ofNat b1) < (Int32.ofNat lo)) from (fun q => g1 ((own_lt (by omega) (by omega)).mp q))) ?_
        refine g_iload K X 178 d2_176 rfl rfl ?_
        refine g_iload K X 180 d2_178 rfl rfl ?_
        by_cases j1 : hi < b1
        · refine g_icmpF K X 183 d2_180 rfl (show ¬ (¬ (Int32.ofNat hi) < (Int32.ofNat b1)) from (fun q => q ((own_lt (by omega) (by omega)).mpr j1))) ?_
          refine g_iconst K X (0 : Int32) 184 d2_183 rfl rfl ?_
          exact g_retI K X eh rfl d2_184 (by decide) (by decide) ⟨by rw [show WF b0 b1 b2 b3 r = 0 by rw [hW]; (try simp only [W2, W3, W4]); (repeat' split) <;> omega]; rfl, rfl⟩
        · refine g_icmpT K X 185 d2_180 rfl (show ¬ (Int32.ofNat hi) < (Int32.ofNat b1) from (fun q => j1 ((own_lt (by omega) (by omega)).mp q))) ?_
          refine g_sipush K X (128 : Int32) 188 d2_185 rfl rfl ?_
          refine g_istore K X 190 #[.val (.ref a), .val (.int (Int32.ofNat k)), .val (.int (Int32.ofNat (k + r))), .val (.int (Int32.ofNat b0)), .val (.int ((4 : Int32))), .val (.int ((128 : Int32))), .val (.int (Int32.ofNat hi)), .val (.int ((1 : Int32))), .val (.int (Int32.ofNat b1))] d2_188 rfl rfl ?_
          refine g_sipush K X (191 : Int32) 193 d2_190 rfl rfl ?_
          refine g_istore K X 195 #[.val (.ref a), .val (.int (Int32.ofNat k)), .val (.int (Int32.ofNat (k + r))), .val (.int (Int32.ofNat b0)), .val (.int ((4 : Int32))), .val (.int ((128 : Int32))), .val (.int ((191 : Int32))), .val (.int ((1 : Int32))), .val (.int (Int32.ofNat b1))] d2_193 rfl rfl ?_
          refine g_iinc K X (1 : Int32) 198 #[.val (.ref a), .val (.int (Int32.ofNat k)), .val (.int (Int32.ofNat (k + r))), .val (.int (Int32.ofNat b0)), .val (.int ((4 : Int32))), .val (.int ((128 : Int32))), .val (.int ((191 : Int32))), .val (.int (((1 : Int32)) + (1 : Int32))), .val (.int (Int32.ofNat b1))] d2_195 rfl rfl rfl rfl ?_
          show Go p e below s _ _ _ _ (T.setTop (mkF m 198 #[.val (.ref a), .val (.int (Int32.ofNat k)), .val (.int (Int32.ofNat (k + r))), .val (.int (Int32.ofNat b0)), .val (.int ((4 : Int32))), .val (.int ((128 : Int32))), .val (.int ((191 : Int32))), .val (.int ((2 : Int32))), .val (.int (Int32.ofNat b1))] []))
          refine g_goto K X 150 d2_198 rfl ?_
          show Go p e below s _ _ _ _ (T.setTop (mkF m 150 #[.val (.ref a), .val (.int (Int32.ofNat k)), .val (.int (Int32.ofNat (k + r))), .val (.int (Int32.ofNat b0)), .val (.int ((4 : Int32))), .val (.int (Int32.ofNat 128)), .val (.int (Int32.ofNat 191)), .val (.int ((2 : Int32))), .val (.int (Int32.ofNat b1))] []))
          refine g_iload K X 152 d2_150 rfl rfl ?_
          refine g_iload K X 154 d2_152 rfl rfl ?_
          refine g_icmpF K X 157 d2_154 rfl (show ¬ (¬ ((2 : Int32)) < ((4 : Int32))) from (fun q => q (by decide))) ?_
          refine g_aloadN K X 158 d2_157 rfl rfl rfl ?_
          refine g_iloadN K X 159 d2_158 rfl rfl ?_
          refine g_iload K X 161 d2_159 rfl rfl ?_
          refine g_iadd K X 162 d2_161 rfl ?_
          refine g_eqI (y := Int32.ofNat (k + 2)) (own_add k 2 rfl) ?_
          refine g_baload K X eh A (k + 2) (own_i0 (by omega)) (by omega) (f (k + 2)) rfl 163 d2_162 rfl ?_
          refine g_sipush K X (255 : Int32) 166 d2_163 rfl rfl ?_
          refine g_iand K X 167 d2_166 rfl ?_
          refine g_eqI (y := Int32.ofNat b2) (q2) ?_
          refine g_istore K X 169 #[.val (.ref a), .val (.int (Int32.ofNat k)), .val (.int (Int32.ofNat (k + r))), .val (.int (Int32.ofNat b0)), .val (.int ((4 : Int32))), .val (.int (Int32.ofNat 128)), .val (.int (Int32.ofNat 191)), .val (.int ((2 : Int32))), .val (.int (Int32.ofNat b2))] d2_167 rfl rfl ?_
          refine g_iload K X 171 d2_169 rfl rfl ?_
          refine g_iload K X 173 d2_171 rfl rfl ?_
          by_cases g2 : b2 < 128
          · refine g_icmpT K X 183 d2_173 rfl (show (Int32.ofNat b2) < (Int32.ofNat 128) from ((own_lt (by omega) (by omega)).mpr g2)) ?_
            refine g_iconst K X (0 : Int32) 184 d2_183 rfl rfl ?_
            exact g_retI K X eh rfl d2_184 (by decide) (by decide) ⟨by rw [show WF b0 b1 b2 b3 r = 0 by rw [hW]; (try simp only [W2, W3, W4]); (repeat' split) <;> omega]; rfl, rfl⟩
          · refine g_icmpF K X 176 d2_173 rfl (show ¬ ((Int32.ofNat b2) < (Int32.ofNat 128)) from (fun q => g2 ((own_lt (by omega) (by omega)).mp q))) ?_
            refine g_iload K X 178 d2_176 rfl rfl ?_
            refine g_iload K X 180 d2_178 rfl rfl ?_
            by_cases j2 : 191 < b2
            · refine g_icmpF K X 183 d2_180 rfl (show ¬ (¬ (Int32.ofNat 191) < (Int32.ofNat b2)) from (fun q => q ((own_lt (by omega) (by omega)).mpr j2))) ?_
              refine g_iconst K X (0 : Int32) 184 d2_183 rfl rfl ?_
              exact g_retI K X eh rfl d2_184 (by decide) (by decide) ⟨by rw [show WF b0 b1 b2 b3 r = 0 by rw [hW]; (try simp only [W2, W3, W4]); (repeat' split) <;> omega]; rfl, rfl⟩
            · refine g_icmpT K X 185 d2_180 rfl (show ¬ (Int32.ofNat 191) < (Int32.ofNat b2) from (fun q => j2 ((own_lt (by omega) (by omega)).mp q))) ?_
              refine g_sipush K X (128 : Int32) 188 d2_185 rfl rfl ?_
              refine g_istore K X 190 #[.val (.ref a), .val (.int (Int32.ofNat k)), .val (.int (Int32.ofNat (k + r))), .val (.int (Int32.ofNat b0)), .val (.int ((4 : Int32))), .val (.int ((128 : Int32))), .val (.int (Int32.ofNat 191)), .val (.int ((2 : Int32))), .val (.int (Int32.ofNat b2))] d2_188 rfl rfl ?_
              refine g_sipush K X (191 : Int32) 193 d2_190 rfl rfl ?_
              refine g_istore K X 195 #[.val (.ref a), .val (.int (Int32.ofNat k)), .val (.int (Int32.ofNat (k + r))), .val (.int (Int32.ofNat b0)), .val (.int ((4 : Int32))), .val (.int ((128 : Int32))), .val (.int ((191 : Int32))), .val (.int ((2 : Int32))), .val (.int (Int32.ofNat b2))] d2_193 rfl rfl ?_
              refine g_iinc K X (1 : Int32) 198 #[.val (.ref a), .val (.int (Int32.ofNat k)), .val (.int (Int32.ofNat (k + r))), .val (.int (Int32.ofNat b0)), .val (.int ((4 : Int32))), .val (.int ((128 : Int32))), .val (.int ((191 : Int32))), .val (.int (((2 : Int32)) + (1 : Int32))), .val (.int (Int32.ofNat b2))] d2_195 rfl rfl rfl rfl ?_
              show Go p e below s _ _ _ _ (T.setTop (mkF m 198 #[.val (.ref a), .val (.int (Int32.ofNat k)), .val (.int (Int32.ofNat (k + r))), .val (.int (Int32.ofNat b0)), .val (.int ((4 : Int32))), .val (.int ((128 : Int32))), .val (.int ((191 : Int32))), .val (.int ((3 : Int32))), .val (.int (Int32.ofNat b2))] []))
              refine g_goto K X 150 d2_198 rfl ?_
              show Go p e below s _ _ _ _ (T.setTop (mkF m 150 #[.val (.ref a), .val (.int (Int32.ofNat k)), .val (.int (Int32.ofNat (k + r))), .val (.int (Int32.ofNat b0)), .val (.int ((4 : Int32))), .val (.int (Int32.ofNat 128)), .val (.int (Int32.ofNat 191)), .val (.int ((3 : Int32))), .val (.int (Int32.ofNat b2))] []))
              refine g_iload K X 152 d2_150 rfl rfl ?_
              refine g_iload K X 154 d2_152 rfl rfl ?_
              refine g_icmpF K X 157 d2_154 rfl (show ¬ (¬ ((3 : Int32)) < ((4 : Int32))) from (fun q => q (by decide))) ?_
              refine g_aloadN K X 158 d2_157 rfl rfl rfl ?_
              refine g_iloadN K X 159 d2_158 rfl rfl ?_
              refine g_iload K X 161 d2_159 rfl rfl ?_
              refine g_iadd K X 162 d2_161 rfl ?_
              refine g_eqI (y := Int32.ofNat (k + 3)) (own_add k 3 rfl) ?_
              refine g_baload K X eh A (k + 3) (own_i0 (by omega)) (by omega) (f (k + 3)) rfl 163 d2_162 rfl ?_
              refine g_sipush K X (255 : Int32) 166 d2_163 rfl rfl ?_
              refine g_iand K X 167 d2_166 rfl ?_
              refine g_eqI (y := Int32.ofNat b3) (q3) ?_
              refine g_istore K X 169 #[.val (.ref a), .val (.int (Int32.ofNat k)), .val (.int (Int32.ofNat (k + r))), .val (.int (Int32.ofNat b0)), .val (.int ((4 : Int32))), .val (.int (Int32.ofNat 128)), .val (.int (Int32.ofNat 191)), .val (.int ((3 : Int32))), .val (.int (Int32.ofNat b3))] d2_167 rfl rfl ?_
              refine g_iload K X 171 d2_169 rfl rfl ?_
              refine g_iload K X 173 d2_171 rfl rfl ?_
              by_cases g3 : b3 < 128
              · refine g_icmpT K X 183 d2_173 rfl (show (Int32.ofNat b3) < (Int32.ofNat 128) from ((own_lt (by omega) (by omega)).mpr g3)) ?_
                refine g_iconst K X (0 : Int32) 184 d2_183 rfl rfl ?_
                exact g_retI K X eh rfl d2_184 (by decide) (by decide) ⟨by rw [show WF b0 b1 b2 b3 r = 0 by rw [hW]; (try simp only [W2, W3, W4]); (repeat' split) <;> omega]; rfl, rfl⟩
              · refine g_icmpF K X 176 d2_173 rfl (show ¬ ((Int32.ofNat b3) < (Int32.ofNat 128)) from (fun q => g3 ((own_lt (by omega) (by omega)).mp q))) ?_
                refine g_iload K X 178 d2_176 rfl rfl ?_
                refine g_iload K X 180 d2_178 rfl rfl ?_
                by_cases j3 : 191 < b3
                · refine g_icmpF K X 183 d2_180 rfl (show ¬ (¬ (Int32.ofNat 191) < (Int32.ofNat b3)) from (fun q => q ((own_lt (by omega) (by omega)).mpr j3))) ?_
                  refine g_iconst K X (0 : Int32) 184 d2_183 rfl rfl ?_
                  exact g_retI K X eh rfl d2_184 (by decide) (by decide) ⟨by rw [show WF b0 b1 b2 b3 r = 0 by rw [hW]; (try simp only [W2, W3, W4]); (repeat' split) <;> omega]; rfl, rfl⟩
                · refine g_icmpT K X 185 d2_180 rfl (show ¬ (Int32.ofNat 191) < (Int32.ofNat b3) from (fun q => j3 ((own_lt (by omega) (by omega)).mp q))) ?_
                  refine g_sipush K X (128 : Int32) 188 d2_185 rfl rfl ?_
                  refine g_istore K X 190 #[.val (.ref a), .val (.int (Int32.ofNat k)), .val (.int (Int32.ofNat (k + r))), .val (.int (Int32.ofNat b0)), .val (.int ((4 : Int32))), .val (.int ((128 : Int32))), .val (.int (Int32.ofNat 191)), .val (.int ((3 : Int32))), .val (.int (Int32.ofNat b3))] d2_188 rfl rfl ?_
                  refine g_sipush K X (191 : Int32) 193 d2_190 rfl rfl ?_
                  refine g_istore K X 195 #[.val (.ref a), .val (.int (Int32.ofNat k)), .val (.int (Int32.ofNat (k + r))), .val (.int (Int32.ofNat b0)), .val (.int ((4 : Int32))), .val (.int ((128 : Int32))), .val (.int ((191 : Int32))), .val (.int ((3 : Int32))), .val (.int (Int32.ofNat b3))] d2_193 rfl rfl ?_
                  refine g_iinc K X (1 : Int32) 198 #[.val (.ref a), .val (.int (Int32.ofNat k)), .val (.int (Int32.ofNat (k + r))), .val (.int (Int32.ofNat b0)), .val (.int ((4 : Int32))), .val (.int ((128 : Int32))), .val (.int ((191 : Int32))), .val (.int (((3 : Int32)) + (1 : Int32))), .val (.int (Int32.ofNat b3))] d2_195 rfl rfl rfl rfl ?_
                  show Go p e below s _ _ _ _ (T.setTop (mkF m 198 #[.val (.ref a), .val (.int (Int32.ofNat k)), .val (.int (Int32.ofNat (k + r))), .val (.int (Int32.ofNat b0)), .val (.int ((4 : Int32))), .val (.int ((128 : Int32))), .val (.int ((191 : Int32))), .val (.int ((4 : Int32))), .val (.int (Int32.ofNat b3))] []))
                  refine g_goto K X 150 d2_198 rfl ?_
                  show Go p e below s _ _ _ _ (T.setTop (mkF m 150 #[.val (.ref a), .val (.int (Int32.ofNat k)), .val (.int (Int32.ofNat (k + r))), .val (.int (Int32.ofNat b0)), .val (.int ((4 : Int32))), .val (.int (Int32.ofNat 128)), .val (.int (Int32.ofNat 191)), .val (.int ((4 : Int32))), .val (.int (Int32.ofNat b3))] []))
                  refine g_iload K X 152 d2_150 rfl rfl ?_
                  refine g_iload K X 154 d2_152 rfl rfl ?_
                  refine g_icmpT K X 201 d2_154 rfl (show ¬ ((4 : Int32)) < ((4 : Int32)) from (by decide)) ?_
                  refine g_iload K X 203 d2_201 rfl rfl ?_
                  exact g_retI K X eh rfl d2_203 (by decide) (by decide) ⟨by rw [show WF b0 b1 b2 b3 r = 4 by rw [hW]; (try simp only [W2, W3, W4]); (repeat' split) <;> omega]; rfl, rfl⟩
    · refine g_icmpF K X 145 d2_142 rfl (show ¬ (¬ (Int32.ofNat (k + r)) < (Int32.ofNat (k + 4))) from (fun q => q ((own_lt (by omega) (by omega)).mpr (by omega)))) ?_
      refine g_iconst K X (0 : Int32) 146 d2_145 rfl rfl ?_
      exact g_retI K X eh rfl d2_146 (by decide) (by decide) ⟨by rw [show WF b0 b1 b2 b3 r = 0 by rw [hW]; (try simp only [W2, W3, W4]); (repeat' split) <;> omega]; rfl, rfl⟩
  refine g_aloadN K X 1 d2_0 rfl rfl rfl ?_
  refine g_iloadN K X 2 d2_1 rfl rfl ?_
  refine g_baload K X eh A k (own_i0 (by omega)) (by omega) (f k) rfl 3 d2_2 rfl ?_
  refine g_sipush K X (255 : Int32) 6 d2_3 rfl rfl ?_
  refine g_iand K X 7 d2_6 rfl ?_
  refine g_eqI (y := Int32.ofNat b0) (q0) ?_
  refine g_istoreN K X 8 #[.val (.ref a), .val (.int (Int32.ofNat k)), .val (.int (Int32.ofNat (k + r))), .val (.int (Int32.ofNat b0)), .unset, .unset, .unset, .unset, .unset] d2_7 rfl rfl ?_
  refine g_iconst K X (0 : Int32) 9 d2_8 rfl rfl ?_
  refine g_istore K X 11 #[.val (.ref a), .val (.int (Int32.ofNat k)), .val (.int (Int32.ofNat (k + r))), .val (.int (Int32.ofNat b0)), .val (.int ((0 : Int32))), .unset, .unset, .unset, .unset] d2_9 rfl rfl ?_
  refine g_sipush K X (128 : Int32) 14 d2_11 rfl rfl ?_
  refine g_istore K X 16 #[.val (.ref a), .val (.int (Int32.ofNat k)), .val (.int (Int32.ofNat (k + r))), .val (.int (Int32.ofNat b0)), .val (.int ((0 : Int32))), .val (.int ((128 : Int32))), .unset, .unset, .unset] d2_14 rfl rfl ?_
  refine g_sipush K X (191 : Int32) 19 d2_16 rfl rfl ?_
  refine g_istore K X 21 #[.val (.ref a), .val (.int (Int32.ofNat k)), .val (.int (Int32.ofNat (k + r))), .val (.int (Int32.ofNat b0)), .val (.int ((0 : Int32))), .val (.int ((128 : Int32))), .val (.int ((191 : Int32))), .unset, .unset] d2_19 rfl rfl ?_
  refine g_iloadN K X 22 d2_21 rfl rfl ?_
  refine g_sipush K X (194 : Int32) 25 d2_22 rfl rfl ?_
  by_cases u1 : b0 < 194
  · refine g_icmpT K X 41 d2_25 rfl (show (Int32.ofNat b0) < ((194 : Int32)) from ((own_lt (j := 194) (by omega) (by decide)).mpr u1)) ?_
    refine g_iloadN K X 42 d2_41 rfl rfl ?_
    refine g_sipush K X (224 : Int32) 45 d2_42 rfl rfl ?_
    by_cases d1 : b0 < 224
    · refine g_icmpT K X 88 d2_45 rfl (show (Int32.ofNat b0) < ((224 : Int32)) from ((own_lt (j := 224) (by omega) (by decide)).mpr d1)) ?_
      refine g_iloadN K X 89 d2_88 rfl rfl ?_
      refine g_sipush K X (240 : Int32) 92 d2_89 rfl rfl ?_
      by_cases e1 : b0 < 240
      · refine g_icmpT K X 132 d2_92 rfl (show (Int32.ofNat b0) < ((240 : Int32)) from ((own_lt (j := 240) (by omega) (by decide)).mpr e1)) ?_
        exact tail0 128 191 (by decide) (by decide) (by simp only [WF]; (repeat' split) <;> first | rfl | omega)
      · refine g_icmpF K X 95 d2_92 rfl (show ¬ ((Int32.ofNat b0) < ((240 : Int32))) from (fun q => e1 ((own_lt (j := 240) (by omega) (by decide)).mp q))) ?_
        refine g_iloadN K X 96 d2_95 rfl rfl ?_
        refine g_sipush K X (244 : Int32) 99 d2_96 rfl rfl ?_
        by_cases e2 : 244 < b0
        · refine g_icmpT K X 132 d2_99 rfl (show ((244 : Int32)) < (Int32.ofNat b0) from ((own_lt (i := 244) (by decide) (by omega)).mpr e2)) ?_
          exact tail0 128 191 (by decide) (by decide) (by simp only [WF]; (repeat' split) <;> first | rfl | omega)
        · refine g_icmpF K X 102 d2_99 rfl (show ¬ (((244 : Int32)) < (Int32.ofNat b0)) from (fun q => e2 ((own_lt (i := 244) (by decide) (by omega)).mp q))) ?_
          refine g_iconst K X (4 : Int32) 103 d2_102 rfl rfl ?_
          refine g_istore K X 105 #[.val (.ref a), .val (.int (Int32.ofNat k)), .val (.int (Int32.ofNat (k + r))), .val (.int (Int32.ofNat b0)), .val (.int ((4 : Int32))), .val (.int ((128 : Int32))), .val (.int ((191 : Int32))), .unset, .unset] d2_103 rfl rfl ?_
          refine g_iloadN K X 106 d2_105 rfl rfl ?_
          refine g_sipush K X (240 : Int32) 109 d2_106 rfl rfl ?_
          by_cases e3 : b0 = 240
          · refine g_icmpF K X 112 d2_109 rfl (show ¬ (¬ (Int32.ofNat b0) = ((240 : Int32))) from (fun q => q (by rw [e3]; rfl))) ?_
            refine g_sipush K X (144 : Int32) 115 d2_112 rfl rfl ?_
            refine g_istore K X 117 #[.val (.ref a), .val (.int (Int32.ofNat k)), .val (.int (Int32.ofNat (k + r))), .val (.int (Int32.ofNat b0)), .val (.int ((4 : Int32))), .val (.int ((144 : Int32))), .val (.int ((191 : Int32))), .unset, .unset] d2_115 rfl rfl ?_
            refine g_goto K X 132 d2_117 rfl ?_
            exact tail4 144 191 (by decide) (by decide) (by simp only [WF]; (repeat' split) <;> first | rfl | omega)
          · refine g_icmpT K X 120 d2_109 rfl (show ¬ (Int32.ofNat b0) = ((240 : Int32)) from (fun q => e3 ((own_eq (j := 240) (by omega) (by decide)).mp q))) ?_
            refine g_iloadN K X 121 d2_120 rfl rfl ?_
            refine g_sipush K X (244 : Int32) 124 d2_121 rfl rfl ?_
            by_cases e4 : b0 = 244
            · refine g_icmpF K X 127 d2_124 rfl (show ¬ (¬ (Int32.ofNat b0) = ((244 : Int32))) from (fun q => q (by rw [e4]; rfl))) ?_
              refine g_sipush K X (143 : Int32) 130 d2_127 rfl rfl ?_
              refine g_istore K X 132 #[.val (.ref a), .val (.int (Int32.ofNat k)), .val (.int (Int32.ofNat (k + r))), .val (.int (Int32.ofNat b0)), .val (.int ((4 : Int32))), .val (.int ((128 : Int32))), .val (.int ((143 : Int32))), .unset, .unset] d2_130 rfl rfl ?_
              exact tail4 128 143 (by decide) (by decide) (by simp only [WF]; (repeat' split) <;> first | rfl | omega)
            · refine g_icmpT K X 132 d2_124 rfl (show ¬ (Int32.ofNat b0) = ((244 : Int32)) from (fun q => e4 ((own_eq (j := 244) (by omega) (by decide)).mp q))) ?_
              exact tail4 128 191 (by decide) (by decide) (by simp only [WF]; (repeat' split) <;> first | rfl | omega)
    · refine g_icmpF K X 48 d2_45 rfl (show ¬ ((Int32.ofNat b0) < ((224 : Int32))) from (fun q => d1 ((own_lt (j := 224) (by omega) (by decide)).mp q))) ?_
      refine g_iloadN K X 49 d2_48 rfl rfl ?_
      refine g_sipush K X (239 : Int32) 52 d2_49 rfl rfl ?_
      by_cases d2 : 239 < b0
      · refine g_icmpT K X 88 d2_52 rfl (show ((239 : Int32)) < (Int32.ofNat b0) from ((own_lt (i := 239) (by decide) (by omega)).mpr d2)) ?_
        refine g_iloadN K X 89 d2_88 rfl rfl ?_
        refine g_sipush K X (240 : Int32) 92 d2_89 rfl rfl ?_
        by_cases e1 : b0 < 240
        · refine g_icmpT K X 132 d2_92 rfl (show (Int32.ofNat b0) < ((240 : Int32)) from ((own_lt (j := 240) (by omega) (by decide)).mpr e1)) ?_
          exact tail0 128 191 (by decide) (by decide) (by simp only [WF]; (repeat' split) <;> first | rfl | omega)
        · refine g_icmpF K X 95 d2_92 rfl (show ¬ ((Int32.ofNat b0) < ((240 : Int32))) from (fun q => e1 ((own_lt (j := 240) (by omega) (by decide)).mp q))) ?_
          refine g_iloadN K X 96 d2_95 rfl rfl ?_
          refine g_sipush K X (244 : Int32) 99 d2_96 rfl rfl ?_
          by_cases e2 : 244 < b0
          · refine g_icmpT K X 132 d2_99 rfl (show ((244 : Int32)) < (Int32.ofNat b0) from ((own_lt (i := 244) (by decide) (by omega)).mpr e2)) ?_
            exact tail0 128 191 (by decide) (by decide) (by simp only [WF]; (repeat' split) <;> first | rfl | omega)
          · refine g_icmpF K X 102 d2_99 rfl (show ¬ (((244 : Int32)) < (Int32.ofNat b0)) from (fun q => e2 ((own_lt (i := 244) (by decide) (by omega)).mp q))) ?_
            refine g_iconst K X (4 : Int32) 103 d2_102 rfl rfl ?_
            refine g_istore K X 105 #[.val (.ref a), .val (.int (Int32.ofNat k)), .val (.int (Int32.ofNat (k + r))), .val (.int (Int32.ofNat b0)), .val (.int ((4 : Int32))), .val (.int ((128 : Int32))), .val (.int ((191 : Int32))), .unset, .unset] d2_103 rfl rfl ?_
            refine g_iloadN K X 106 d2_105 rfl rfl ?_
            refine g_sipush K X (240 : Int32) 109 d2_106 rfl rfl ?_
            by_cases e3 : b0 = 240
            · refine g_icmpF K X 112 d2_109 rfl (show ¬ (¬ (Int32.ofNat b0) = ((240 : Int32))) from (fun q => q (by rw [e3]; rfl))) ?_
              refine g_sipush K X (144 : Int32) 115 d2_112 rfl rfl ?_
              refine g_istore K X 117 #[.val (.ref a), .val (.int (Int32.ofNat k)), .val (.int (Int32.ofNat (k + r))), .val (.int (Int32.ofNat b0)), .val (.int ((4 : Int32))), .val (.int ((144 : Int32))), .val (.int ((191 : Int32))), .unset, .unset] d2_115 rfl rfl ?_
              refine g_goto K X 132 d2_117 rfl ?_
              exact tail4 144 191 (by decide) (by decide) (by simp only [WF]; (repeat' split) <;> first | rfl | omega)
            · refine g_icmpT K X 120 d2_109 rfl (show ¬ (Int32.ofNat b0) = ((240 : Int32)) from (fun q => e3 ((own_eq (j := 240) (by omega) (by decide)).mp q))) ?_
              refine g_iloadN K X 121 d2_120 rfl rfl ?_
              refine g_sipush K X (244 : Int32) 124 d2_121 rfl rfl ?_
              by_cases e4 : b0 = 244
              · refine g_icmpF K X 127 d2_124 rfl (show ¬ (¬ (Int32.ofNat b0) = ((244 : Int32))) from (fun q => q (by rw [e4]; rfl))) ?_
                refine g_sipush K X (143 : Int32) 130 d2_127 rfl rfl ?_
                refine g_istore K X 132 #[.val (.ref a), .val (.int (Int32.ofNat k)), .val (.int (Int32.ofNat (k + r))), .val (.int (Int32.ofNat b0)), .val (.int ((4 : Int32))), .val (.int ((128 : Int32))), .val (.int ((143 : Int32))), .unset, .unset] d2_130 rfl rfl ?_
                exact tail4 128 143 (by decide) (by decide) (by simp only [WF]; (repeat' split) <;> first | rfl | omega)
              · refine g_icmpT K X 132 d2_124 rfl (show ¬ (Int32.ofNat b0) = ((244 : Int32)) from (fun q => e4 ((own_eq (j := 244) (by omega) (by decide)).mp q))) ?_
                exact tail4 128 191 (by decide) (by decide) (by simp only [WF]; (repeat' split) <;> first | rfl | omega)
      · refine g_icmpF K X 55 d2_52 rfl (show ¬ (((239 : Int32)) < (Int32.ofNat b0)) from (fun q => d2 ((own_lt (i := 239) (by decide) (by omega)).mp q))) ?_
        refine g_iconst K X (3 : Int32) 56 d2_55 rfl rfl ?_
        refine g_istore K X 58 #[.val (.ref a), .val (.int (Int32.ofNat k)), .val (.int (Int32.ofNat (k + r))), .val (.int (Int32.ofNat b0)), .val (.int ((3 : Int32))), .val (.int ((128 : Int32))), .val (.int ((191 : Int32))), .unset, .unset] d2_56 rfl rfl ?_
        refine g_iloadN K X 59 d2_58 rfl rfl ?_
        refine g_sipush K X (224 : Int32) 62 d2_59 rfl rfl ?_
        by_cases d3 : b0 = 224
        · refine g_icmpF K X 65 d2_62 rfl (show ¬ (¬ (Int32.ofNat b0) = ((224 : Int32))) from (fun q => q (by rw [d3]; rfl))) ?_
          refine g_sipush K X (160 : Int32) 68 d2_65 rfl rfl ?_
          refine g_istore K X 70 #[.val (.ref a), .val (.int (Int32.ofNat k)), .val (.int (Int32.ofNat (k + r))), .val (.int (Int32.ofNat b0)), .val (.int ((3 : Int32))), .val (.int ((160 : Int32))), .val (.int ((191 : Int32))), .unset, .unset] d2_68 rfl rfl ?_
          refine g_goto K X 132 d2_70 rfl ?_
          exact tail3 160 191 (by decide) (by decide) (by simp only [WF]; (repeat' split) <;> first | rfl | omega)
        · refine g_icmpT K X 73 d2_62 rfl (show ¬ (Int32.ofNat b0) = ((224 : Int32)) from (fun q => d3 ((own_eq (j := 224) (by omega) (by decide)).mp q))) ?_
          refine g_iloadN K X 74 d2_73 rfl rfl ?_
          refine g_sipush K X (237 : Int32) 77 d2_74 rfl rfl ?_
          by_cases d4 : b0 = 237
          · refine g_icmpF K X 80 d2_77 rfl (show ¬ (¬ (Int32.ofNat b0) = ((237 : Int32))) from (fun q => q (by rw [d4]; rfl))) ?_
            refine g_sipush K X (159 : Int32) 83 d2_80 rfl rfl ?_
            refine g_istore K X 85 #[.val (.ref a), .val (.int (Int32.ofNat k)), .val (.int (Int32.ofNat (k + r))), .val (.int (Int32.ofNat b0)), .val (.int ((3 : Int32))), .val (.int ((128 : Int32))), .val (.int ((159 : Int32))), .unset, .unset] d2_83 rfl rfl ?_
            refine g_goto K X 132 d2_85 rfl ?_
            exact tail3 128 159 (by decide) (by decide) (by simp only [WF]; (repeat' split) <;> first | rfl | omega)
          · refine g_icmpT K X 132 d2_77 rfl (show ¬ (Int32.ofNat b0) = ((237 : Int32)) from (fun q => d4 ((own_eq (j := 237) (by omega) (by decide)).mp q))) ?_
            exact tail3 128 191 (by decide) (by decide) (by simp only [WF]; (repeat' split) <;> first | rfl | omega)
  · refine g_icmpF K X 28 d2_25 rfl (show ¬ ((Int32.ofNat b0) < ((194 : Int32))) from (fun q => u1 ((own_lt (j := 194) (by omega) (by decide)).mp q))) ?_
    refine g_iloadN K X 29 d2_28 rfl rfl ?_
    refine g_sipush K X (223 : Int32) 32 d2_29 rfl rfl ?_
    by_cases u2 : 223 < b0
    · refine g_icmpT K X 41 d2_32 rfl (show ((223 : Int32)) < (Int32.ofNat b0) from ((own_lt (i := 223) (by decide) (by omega)).mpr u2)) ?_
      refine g_iloadN K X 42 d2_41 rfl rfl ?_
      refine g_sipush K X (224 : Int32) 45 d2_42 rfl rfl ?_
      by_cases d1 : b0 < 224
      · refine g_icmpT K X 88 d2_45 rfl (show (Int32.ofNat b0) < ((224 : Int32)) from ((own_lt (j := 224) (by omega) (by decide)).mpr d1)) ?_
        refine g_iloadN K X 89 d2_88 rfl rfl ?_
        refine g_sipush K X (240 : Int32) 92 d2_89 rfl rfl ?_
        by_cases e1 : b0 < 240
        · refine g_icmpT K X 132 d2_92 rfl (show (Int32.ofNat b0) < ((240 : Int32)) from ((own_lt (j := 240) (by omega) (by decide)).mpr e1)) ?_
          exact tail0 128 191 (by decide) (by decide) (by simp only [WF]; (repeat' split) <;> first | rfl | omega)
        · refine g_icmpF K X 95 d2_92 rfl (show ¬ ((Int32.ofNat b0) < ((240 : Int32))) from (fun q => e1 ((own_lt (j := 240) (by omega) (by decide)).mp q))) ?_
          refine g_iloadN K X 96 d2_95 rfl rfl ?_
          refine g_sipush K X (244 : Int32) 99 d2_96 rfl rfl ?_
          by_cases e2 : 244 < b0
          · refine g_icmpT K X 132 d2_99 rfl (show ((244 : Int32)) < (Int32.ofNat b0) from ((own_lt (i := 244) (by decide) (by omega)).mpr e2)) ?_
            exact tail0 128 191 (by decide) (by decide) (by simp only [WF]; (repeat' split) <;> first | rfl | omega)
          · refine g_icmpF K X 102 d2_99 rfl (show ¬ (((244 : Int32)) < (Int32.ofNat b0)) from (fun q => e2 ((own_lt (i := 244) (by decide) (by omega)).mp q))) ?_
            refine g_iconst K X (4 : Int32) 103 d2_102 rfl rfl ?_
            refine g_istore K X 105 #[.val (.ref a), .val (.int (Int32.ofNat k)), .val (.int (Int32.ofNat (k + r))), .val (.int (Int32.ofNat b0)), .val (.int ((4 : Int32))), .val (.int ((128 : Int32))), .val (.int ((191 : Int32))), .unset, .unset] d2_103 rfl rfl ?_
            refine g_iloadN K X 106 d2_105 rfl rfl ?_
            refine g_sipush K X (240 : Int32) 109 d2_106 rfl rfl ?_
            by_cases e3 : b0 = 240
            · refine g_icmpF K X 112 d2_109 rfl (show ¬ (¬ (Int32.ofNat b0) = ((240 : Int32))) from (fun q => q (by rw [e3]; rfl))) ?_
              refine g_sipush K X (144 : Int32) 115 d2_112 rfl rfl ?_
              refine g_istore K X 117 #[.val (.ref a), .val (.int (Int32.ofNat k)), .val (.int (Int32.ofNat (k + r))), .val (.int (Int32.ofNat b0)), .val (.int ((4 : Int32))), .val (.int ((144 : Int32))), .val (.int ((191 : Int32))), .unset, .unset] d2_115 rfl rfl ?_
              refine g_goto K X 132 d2_117 rfl ?_
              exact tail4 144 191 (by decide) (by decide) (by simp only [WF]; (repeat' split) <;> first | rfl | omega)
            · refine g_icmpT K X 120 d2_109 rfl (show ¬ (Int32.ofNat b0) = ((240 : Int32)) from (fun q => e3 ((own_eq (j := 240) (by omega) (by decide)).mp q))) ?_
              refine g_iloadN K X 121 d2_120 rfl rfl ?_
              refine g_sipush K X (244 : Int32) 124 d2_121 rfl rfl ?_
              by_cases e4 : b0 = 244
              · refine g_icmpF K X 127 d2_124 rfl (show ¬ (¬ (Int32.ofNat b0) = ((244 : Int32))) from (fun q => q (by rw [e4]; rfl))) ?_
                refine g_sipush K X (143 : Int32) 130 d2_127 rfl rfl ?_
                refine g_istore K X 132 #[.val (.ref a), .val (.int (Int32.ofNat k)), .val (.int (Int32.ofNat (k + r))), .val (.int (Int32.ofNat b0)), .val (.int ((4 : Int32))), .val (.int ((128 : Int32))), .val (.int ((143 : Int32))), .unset, .unset] d2_130 rfl rfl ?_
                exact tail4 128 143 (by decide) (by decide) (by simp only [WF]; (repeat' split) <;> first | rfl | omega)
              · refine g_icmpT K X 132 d2_124 rfl (show ¬ (Int32.ofNat b0) = ((244 : Int32)) from (fun q => e4 ((own_eq (j := 244) (by omega) (by decide)).mp q))) ?_
                exact tail4 128 191 (by decide) (by decide) (by simp only [WF]; (repeat' split) <;> first | rfl | omega)
      · refine g_icmpF K X 48 d2_45 rfl (show ¬ ((Int32.ofNat b0) < ((224 : Int32))) from (fun q => d1 ((own_lt (j := 224) (by omega) (by decide)).mp q))) ?_
        refine g_iloadN K X 49 d2_48 rfl rfl ?_
        refine g_sipush K X (239 : Int32) 52 d2_49 rfl rfl ?_
        by_cases d2 : 239 < b0
        · refine g_icmpT K X 88 d2_52 rfl (show ((239 : Int32)) < (Int32.ofNat b0) from ((own_lt (i := 239) (by decide) (by omega)).mpr d2)) ?_
          refine g_iloadN K X 89 d2_88 rfl rfl ?_
          refine g_sipush K X (240 : Int32) 92 d2_89 rfl rfl ?_
          by_cases e1 : b0 < 240
          · refine g_icmpT K X 132 d2_92 rfl (show (Int32.ofNat b0) < ((240 : Int32)) from ((own_lt (j := 240) (by omega) (by decide)).mpr e1)) ?_
            exact tail0 128 191 (by decide) (by decide) (by simp only [WF]; (repeat' split) <;> first | rfl | omega)
          · refine g_icmpF K X 95 d2_92 rfl (show ¬ ((Int32.ofNat b0) < ((240 : Int32))) from (fun q => e1 ((own_lt (j := 240) (by omega) (by decide)).mp q))) ?_
            refine g_iloadN K X 96 d2_95 rfl rfl ?_
            refine g_sipush K X (244 : Int32) 99 d2_96 rfl rfl ?_
            by_cases e2 : 244 < b0
            · refine g_icmpT K X 132 d2_99 rfl (show ((244 : Int32)) < (Int32.ofNat b0) from ((own_lt (i := 244) (by decide) (by omega)).mpr e2)) ?_
              exact tail0 128 191 (by decide) (by decide) (by simp only [WF]; (repeat' split) <;> first | rfl | omega)
            · refine g_icmpF K X 102 d2_99 rfl (show ¬ (((244 : Int32)) < (Int32.ofNat b0)) from (fun q => e2 ((own_lt (i := 244) (by decide) (by omega)).mp q))) ?_
              refine g_iconst K X (4 : Int32) 103 d2_102 rfl rfl ?_
              refine g_istore K X 105 #[.val (.ref a), .val (.int (Int32.ofNat k)), .val (.int (Int32.ofNat (k + r))), .val (.int (Int32.ofNat b0)), .val (.int ((4 : Int32))), .val (.int ((128 : Int32))), .val (.int ((191 : Int32))), .unset, .unset] d2_103 rfl rfl ?_
              refine g_iloadN K X 106 d2_105 rfl rfl ?_
              refine g_sipush K X (240 : Int32) 109 d2_106 rfl rfl ?_
              by_cases e3 : b0 = 240
              · refine g_icmpF K X 112 d2_109 rfl (show ¬ (¬ (Int32.ofNat b0) = ((240 : Int32))) from (fun q => q (by rw [e3]; rfl))) ?_
                refine g_sipush K X (144 : Int32) 115 d2_112 rfl rfl ?_
                refine g_istore K X 117 #[.val (.ref a), .val (.int (Int32.ofNat k)), .val (.int (Int32.ofNat (k + r))), .val (.int (Int32.ofNat b0)), .val (.int ((4 : Int32))), .val (.int ((144 : Int32))), .val (.int ((191 : Int32))), .unset, .unset] d2_115 rfl rfl ?_
                refine g_goto K X 132 d2_117 rfl ?_
                exact tail4 144 191 (by decide) (by decide) (by simp only [WF]; (repeat' split) <;> first | rfl | omega)
              · refine g_icmpT K X 120 d2_109 rfl (show ¬ (Int32.ofNat b0) = ((240 : Int32)) from (fun q => e3 ((own_eq (j := 240) (by omega) (by decide)).mp q))) ?_
                refine g_iloadN K X 121 d2_120 rfl rfl ?_
                refine g_sipush K X (244 : Int32) 124 d2_121 rfl rfl ?_
                by_cases e4 : b0 = 244
                · refine g_icmpF K X 127 d2_124 rfl (show ¬ (¬ (Int32.ofNat b0) = ((244 : Int32))) from (fun q => q (by rw [e4]; rfl))) ?_
                  refine g_sipush K X (143 : Int32) 130 d2_127 rfl rfl ?_
                  refine g_istore K X 132 #[.val (.ref a), .val (.int (Int32.ofNat k)), .val (.int (Int32.ofNat (k + r))), .val (.int (Int32.ofNat b0)), .val (.int ((4 : Int32))), .val (.int ((128 : Int32))), .val (.int ((143 : Int32))), .unset, .unset] d2_130 rfl rfl ?_
                  exact tail4 128 143 (by decide) (by decide) (by simp only [WF]; (repeat' split) <;> first | rfl | omega)
                · refine g_icmpT K X 132 d2_124 rfl (show ¬ (Int32.ofNat b0) = ((244 : Int32)) from (fun q => e4 ((own_eq (j := 244) (by omega) (by decide)).mp q))) ?_
                  exact tail4 128 191 (by decide) (by decide) (by simp only [WF]; (repeat' split) <;> first | rfl | omega)
        · refine g_icmpF K X 55 d2_52 rfl (show ¬ (((239 : Int32)) < (Int32.ofNat b0)) from (fun q => d2 ((own_lt (i := 239) (by decide) (by omega)).mp q))) ?_
          refine g_iconst K X (3 : Int32) 56 d2_55 rfl rfl ?_
          refine g_istore K X 58 #[.val (.ref a), .val (.int (Int32.ofNat k)), .val (.int (Int32.ofNat (k + r))), .val (.int (Int32.ofNat b0)), .val (.int ((3 : Int32))), .val (.int ((128 : Int32))), .val (.int ((191 : Int32))), .unset, .unset] d2_56 rfl rfl ?_
          refine g_iloadN K X 59 d2_58 rfl rfl ?_
          refine g_sipush K X (224 : Int32) 62 d2_59 rfl rfl ?_
          by_cases d3 : b0 = 224
          · refine g_icmpF K X 65 d2_62 rfl (show ¬ (¬ (Int32.ofNat b0) = ((224 : Int32))) from (fun q => q (by rw [d3]; rfl))) ?_
            refine g_sipush K X (160 : Int32) 68 d2_65 rfl rfl ?_
            refine g_istore K X 70 #[.val (.ref a), .val (.int (Int32.ofNat k)), .val (.int (Int32.ofNat (k + r))), .val (.int (Int32.ofNat b0)), .val (.int ((3 : Int32))), .val (.int ((160 : Int32))), .val (.int ((191 : Int32))), .unset, .unset] d2_68 rfl rfl ?_
            refine g_goto K X 132 d2_70 rfl ?_
            exact tail3 160 191 (by decide) (by decide) (by simp only [WF]; (repeat' split) <;> first | rfl | omega)
          · refine g_icmpT K X 73 d2_62 rfl (show ¬ (Int32.ofNat b0) = ((224 : Int32)) from (fun q => d3 ((own_eq (j := 224) (by omega) (by decide)).mp q))) ?_
            refine g_iloadN K X 74 d2_73 rfl rfl ?_
            refine g_sipush K X (237 : Int32) 77 d2_74 rfl rfl ?_
            by_cases d4 : b0 = 237
            · refine g_icmpF K X 80 d2_77 rfl (show ¬ (¬ (Int32.ofNat b0) = ((237 : Int32))) from (fun q => q (by rw [d4]; rfl))) ?_
              refine g_sipush K X (159 : Int32) 83 d2_80 rfl rfl ?_
              refine g_istore K X 85 #[.val (.ref a), .val (.int (Int32.ofNat k)), .val (.int (Int32.ofNat (k + r))), .val (.int (Int32.ofNat b0)), .val (.int ((3 : Int32))), .val (.int ((128 : Int32))), .val (.int ((159 : Int32))), .unset, .unset] d2_83 rfl rfl ?_
              refine g_goto K X 132 d2_85 rfl ?_
              exact tail3 128 159 (by decide) (by decide) (by simp only [WF]; (repeat' split) <;> first | rfl | omega)
            · refine g_icmpT K X 132 d2_77 rfl (show ¬ (Int32.ofNat b0) = ((237 : Int32)) from (fun q => d4 ((own_eq (j := 237) (by omega) (by decide)).mp q))) ?_
              exact tail3 128 191 (by decide) (by decide) (by simp only [WF]; (repeat' split) <;> first | rfl | omega)
    · refine g_icmpF K X 35 d2_32 rfl (show ¬ (((223 : Int32)) < (Int32.ofNat b0)) from (fun q => u2 ((own_lt (i := 223) (by decide) (by omega)).mp q))) ?_
      refine g_iconst K X (2 : Int32) 36 d2_35 rfl rfl ?_
      refine g_istore K X 38 #[.val (.ref a), .val (.int (Int32.ofNat k)), .val (.int (Int32.ofNat (k + r))), .val (.int (Int32.ofNat b0)), .val (.int ((2 : Int32))), .val (.int ((128 : Int32))), .val (.int ((191 : Int32))), .unset, .unset] d2_36 rfl rfl ?_
      refine g_goto K X 132 d2_38 rfl ?_
      exact tail2 128 191 (by decide) (by decide) (by simp only [WF]; (repeat' split) <;> first | rfl | omega)
set_option maxRecDepth 65536 in
set_option maxHeartbeats 40000000 in
theorem met_law (l : Launch) (Z : State) (a0 : Array Value) (hw : ∀ d ∈ tables_1, d.before a0 Z = true) (x0 x1 x2 x3 x4 x5 : Int32) (h0 : Heap) (n0 : Nat) (Z0 : n0 ≤ h0.size) :
    Met l Z x code maxLocals ret tables_1 room_1 #[.int x0, .int x1, .int x2, .int x3, .int x4, .int x5] h0 n0 (fun v h' => v = some (.int 1)) := by
  refine Met.of (plainFor_of_name (by first | (simp [plainName, overriddenIn]; done) | decide +kernel)) #[.val (.int x0), .val (.int x1), .val (.int x2), .val (.int x3), .val (.int x4), .val (.int x5), .unset, .unset, .unset, .unset] (fun m => by first | (simp [entryFrame, mkF, argsToLocals, Value.category, maxLocals]; done) | rfl) ?_
  intro p e s m below meth c T K X eh
  obtain ⟨k, hk, ek⟩ := own_one x4
  obtain ⟨r, hr, er⟩ := own_rem x4
  obtain ⟨b0, hb0, eb0⟩ := own_low x0
  obtain ⟨b1, hb1, eb1⟩ := own_low x1
  obtain ⟨b2, hb2, eb2⟩ := own_low x2
  obtain ⟨b3, hb3, eb3⟩ := own_low x3
  refine g_iload K X 2 at_0 rfl rfl ?_
  refine g_iconst K X (1 : Int32) 3 at_2 rfl rfl ?_
  refine g_iand K X 4 at_3 rfl ?_
  refine g_eqI (y := Int32.ofNat k) (ek) ?_
  refine g_istore K X 6 #[.val (.int x0), .val (.int x1), .val (.int x2), .val (.int x3), .val (.int x4), .val (.int x5), .val (.int (Int32.ofNat k)), .unset, .unset, .unset] at_4 rfl rfl ?_
  refine g_iload K X 8 at_6 rfl rfl ?_
  refine g_iconst K X (1 : Int32) 9 at_8 rfl rfl ?_
  refine g_iushr K X 10 at_9 rfl ?_
  refine g_iconst K X (5 : Int32) 11 at_10 rfl rfl ?_
  refine g_irem K X 12 at_11 rfl (by decide) ?_
  refine g_eqI (y := Int32.ofNat r) (er) ?_
  refine g_istore K X 14 #[.val (.int x0), .val (.int x1), .val (.int x2), .val (.int x3), .val (.int x4), .val (.int x5), .val (.int (Int32.ofNat k)), .val (.int (Int32.ofNat r)), .unset, .unset] at_12 rfl rfl ?_
  refine g_iconst K X (5 : Int32) 15 at_14 rfl rfl ?_
  refine g_newA K X eh (hw _ (List.mem_of_getElem? (i := 0) rfl)) 17 at_15 rfl (n := 5) (cap := 5) rfl (by decide) (by decide) rfl (by decide) (by decide) fun T h1 a ga X eh E A _ => ?_
  have ge : n0 ≤ a := ga ▸ Z0
  refine g_astore K X 19 #[.val (.int x0), .val (.int x1), .val (.int x2), .val (.int x3), .val (.int x4), .val (.int x5), .val (.int (Int32.ofNat k)), .val (.int (Int32.ofNat r)), .val (.ref a), .unset] at_17 rfl rfl rfl ?_
  refine g_iload K X 21 at_19 rfl rfl ?_
  match k, hk with
  | 0, _ =>
    refine g_ifF K X 24 at_21 rfl (show ¬ (¬ (Int32.ofNat 0) = 0) from (fun q => q rfl)) ?_
    refine g_aload K X 26 at_24 rfl rfl rfl ?_
    refine g_iconst K X (0 : Int32) 27 at_26 rfl rfl ?_
    refine g_iloadN K X 28 at_27 rfl rfl ?_
    refine g_i2b K X 29 at_28 rfl ?_
    refine g_bastore K X eh A 0 rfl (by decide) x0.toInt8.toInt32 (own_bb _) ge 30 at_29 rfl fun T h X eh W A => ?_
    refine g_aload K X 32 at_30 rfl rfl rfl ?_
    refine g_iconst K X (1 : Int32) 33 at_32 rfl rfl ?_
    refine g_iloadN K X 34 at_33 rfl rfl ?_
    refine g_i2b K X 35 at_34 rfl ?_
    refine g_bastore K X eh A 1 rfl (by decide) x1.toInt8.toInt32 (own_bb _) ge 36 at_35 rfl fun T h X eh W A => ?_
    refine g_aload K X 38 at_36 rfl rfl rfl ?_
    refine g_iconst K X (2 : Int32) 39 at_38 rfl rfl ?_
    refine g_iloadN K X 40 at_39 rfl rfl ?_
    refine g_i2b K X 41 at_40 rfl ?_
    refine g_bastore K X eh A 2 rfl (by decide) x2.toInt8.toInt32 (own_bb _) ge 42 at_41 rfl fun T h X eh W A => ?_
    refine g_aload K X 44 at_42 rfl rfl rfl ?_
    refine g_iconst K X (3 : Int32) 45 at_44 rfl rfl ?_
    refine g_iloadN K X 46 at_45 rfl rfl ?_
    refine g_i2b K X 47 at_46 rfl ?_
    refine g_bastore K X eh A 3 rfl (by decide) x3.toInt8.toInt32 (own_bb _) ge 48 at_47 rfl fun T h X eh W A => ?_
    refine g_aload K X 50 at_48 rfl rfl rfl ?_
    refine g_iconst K X (4 : Int32) 51 at_50 rfl rfl ?_
    refine g_iload K X 53 at_51 rfl rfl ?_
    refine g_i2b K X 54 at_53 rfl ?_
    refine g_bastore K X eh A 4 rfl (by decide) x5.toInt8.toInt32 (own_bb _) ge 55 at_54 rfl fun T h X eh W A => ?_
    refine g_goto K X 89 at_55 rfl ?_
    refine g_iloadN K X 90 at_89 rfl rfl ?_
    refine g_sipush K X (255 : Int32) 93 at_90 rfl rfl ?_
    refine g_iand K X 94 at_93 rfl ?_
    refine g_eqI (y := Int32.ofNat b0) (eb0) ?_
    refine g_iloadN K X 95 at_94 rfl rfl ?_
    refine g_sipush K X (255 : Int32) 98 at_95 rfl rfl ?_
    refine g_iand K X 99 at_98 rfl ?_
    refine g_eqI (y := Int32.ofNat b1) (eb1) ?_
    refine g_iloadN K X 100 at_99 rfl rfl ?_
    refine g_sipush K X (255 : Int32) 103 at_100 rfl rfl ?_
    refine g_iand K X 104 at_103 rfl ?_
    refine g_eqI (y := Int32.ofNat b2) (eb2) ?_
    refine g_iloadN K X 105 at_104 rfl rfl ?_
    refine g_sipush K X (255 : Int32) 108 at_105 rfl rfl ?_
    refine g_iand K X 109 at_108 rfl ?_
    refine g_eqI (y := Int32.ofNat b3) (eb3) ?_
    refine g_iload K X 111 at_109 rfl rfl ?_
    refine g_static K X eh rfl (met_ex l Z a0 hw b0 b1 b2 b3 r hb0 hb1 hb2 hb3 hr h n0) (hw _ (List.mem_of_getElem? (i := 1) rfl)) (hw _ (List.mem_of_getElem? (i := 2) rfl)) (hw _ (List.mem_of_getElem? (i := 4) rfl)) (hw _ (List.mem_of_getElem? (i := 3) rfl)) (by decide) [.int (Int32.ofNat b0), .int (Int32.ofNat b1), .int (Int32.ofNat b2), .int (Int32.ofNat b3), .int (Int32.ofNat r)] rfl rfl (lenOf pd_1 rfl) 114 at_111 rfl 0 (Nat.le_of_eq rfl) (by decide) (by decide) (by decide) (by decide) fun T v h' X eh hv => ?_
    obtain ⟨rfl, rfl⟩ := hv
    refine g_istore K X 116 #[.val (.int x0), .val (.int x1), .val (.int x2), .val (.int x3), .val (.int x4), .val (.int x5), .val (.int (Int32.ofNat 0)), .val (.int (Int32.ofNat r)), .val (.ref a), .val (.int (Int32.ofNat (WF b0 b1 b2 b3 r)))] at_114 rfl rfl ?_
    refine g_aload K X 118 at_116 rfl rfl rfl ?_
    refine g_iload K X 120 at_118 rfl rfl ?_
    refine g_iload K X 122 at_120 rfl rfl ?_
    refine g_iload K X 124 at_122 rfl rfl ?_
    refine g_iadd K X 125 at_124 rfl ?_
    refine g_eqI (y := Int32.ofNat (0 + r)) (own_add 0 r rfl) ?_
    refine g_static K X eh rfl (met_sl l Z a0 hw a _ 0 b0 b1 b2 b3 r (by decide) hr hb0 hb1 hb2 hb3 h n0 A (by show x0.toInt8.toInt32 &&& 255 = _; rw [own_byte, eb0]) (by show x1.toInt8.toInt32 &&& 255 = _; rw [own_byte, eb1]) (by show x2.toInt8.toInt32 &&& 255 = _; rw [own_byte, eb2]) (by show x3.toInt8.toInt32 &&& 255 = _; rw [own_byte, eb3])) (hw _ (List.mem_of_getElem? (i := 5) rfl)) (hw _ (List.mem_of_getElem? (i := 6) rfl)) (hw _ (List.mem_of_getElem? (i := 8) rfl)) (hw _ (List.mem_of_getElem? (i := 7) rfl)) (by decide) [.ref a, .int (Int32.ofNat 0), .int (Int32.ofNat (0 + r))] rfl rfl (lenOf pd_2 rfl) 128 at_125 rfl 0 (Nat.le_of_eq rfl) (by decide) (by decide) (by decide) (by decide) fun T v h' X eh hv => ?_
    obtain ⟨rfl, rfl⟩ := hv
    refine g_iload K X 130 at_128 rfl rfl ?_
    refine g_icmpF K X 133 at_130 rfl (show ¬ (¬ (Int32.ofNat (WF b0 b1 b2 b3 r)) = (Int32.ofNat (WF b0 b1 b2 b3 r))) from (fun q => q rfl)) ?_
    refine g_iconst K X (1 : Int32) 134 at_133 rfl rfl ?_
    refine g_goto K X 138 at_134 rfl ?_
    exact g_retN K X eh rfl (t := .boolean) (by simp) ((1 : Int32)) rfl at_138 (by decide) (by decide) rfl
  | 1, _ =>
    refine g_ifT K X 58 at_21 rfl (show ¬ (Int32.ofNat 1) = 0 from (by decide)) ?_
    refine g_aload K X 60 at_58 rfl rfl rfl ?_
    refine g_iconst K X (0 : Int32) 61 at_60 rfl rfl ?_
    refine g_iload K X 63 at_61 rfl rfl ?_
    refine g_i2b K X 64 at_63 rfl ?_
    refine g_bastore K X eh A 0 rfl (by decide) x5.toInt8.toInt32 (own_bb _) ge 65 at_64 rfl fun T h X eh W A => ?_
    refine g_aload K X 67 at_65 rfl rfl rfl ?_
    refine g_iconst K X (1 : Int32) 68 at_67 rfl rfl ?_
    refine g_iloadN K X 69 at_68 rfl rfl ?_
    refine g_i2b K X 70 at_69 rfl ?_
    refine g_bastore K X eh A 1 rfl (by decide) x0.toInt8.toInt32 (own_bb _) ge 71 at_70 rfl fun T h X eh W A => ?_
    refine g_aload K X 73 at_71 rfl rfl rfl ?_
    refine g_iconst K X (2 : Int32) 74 at_73 rfl rfl ?_
    refine g_iloadN K X 75 at_74 rfl rfl ?_
    refine g_i2b K X 76 at_75 rfl ?_
    refine g_bastore K X eh A 2 rfl (by decide) x1.toInt8.toInt32 (own_bb _) ge 77 at_76 rfl fun T h X eh W A => ?_
    refine g_aload K X 79 at_77 rfl rfl rfl ?_
    refine g_iconst K X (3 : Int32) 80 at_79 rfl rfl ?_
    refine g_iloadN K X 81 at_80 rfl rfl ?_
    refine g_i2b K X 82 at_81 rfl ?_
    refine g_bastore K X eh A 3 rfl (by decide) x2.toInt8.toInt32 (own_bb _) ge 83 at_82 rfl fun T h X eh W A => ?_
    refine g_aload K X 85 at_83 rfl rfl rfl ?_
    refine g_iconst K X (4 : Int32) 86 at_85 rfl rfl ?_
    refine g_iloadN K X 87 at_86 rfl rfl ?_
    refine g_i2b K X 88 at_87 rfl ?_
    refine g_bastore K X eh A 4 rfl (by decide) x3.toInt8.toInt32 (own_bb _) ge 89 at_88 rfl fun T h X eh W A => ?_
    refine g_iloadN K X 90 at_89 rfl rfl ?_
    refine g_sipush K X (255 : Int32) 93 at_90 rfl rfl ?_
    refine g_iand K X 94 at_93 rfl ?_
    refine g_eqI (y := Int32.ofNat b0) (eb0) ?_
    refine g_iloadN K X 95 at_94 rfl rfl ?_
    refine g_sipush K X (255 : Int32) 98 at_95 rfl rfl ?_
    refine g_iand K X 99 at_98 rfl ?_
    refine g_eqI (y := Int32.ofNat b1) (eb1) ?_
    refine g_iloadN K X 100 at_99 rfl rfl ?_
    refine g_sipush K X (255 : Int32) 103 at_100 rfl rfl ?_
    refine g_iand K X 104 at_103 rfl ?_
    refine g_eqI (y := Int32.ofNat b2) (eb2) ?_
    refine g_iloadN K X 105 at_104 rfl rfl ?_
    refine g_sipush K X (255 : Int32) 108 at_105 rfl rfl ?_
    refine g_iand K X 109 at_108 rfl ?_
    refine g_eqI (y := Int32.ofNat b3) (eb3) ?_
    refine g_iload K X 111 at_109 rfl rfl ?_
    refine g_static K X eh rfl (met_ex l Z a0 hw b0 b1 b2 b3 r hb0 hb1 hb2 hb3 hr h n0) (hw _ (List.mem_of_getElem? (i := 1) rfl)) (hw _ (List.mem_of_getElem? (i := 2) rfl)) (hw _ (List.mem_of_getElem? (i := 4) rfl)) (hw _ (List.mem_of_getElem? (i := 3) rfl)) (by decide) [.int (Int32.ofNat b0), .int (Int32.ofNat b1), .int (Int32.ofNat b2), .int (Int32.ofNat b3), .int (Int32.ofNat r)] rfl rfl (lenOf pd_1 rfl) 114 at_111 rfl 0 (Nat.le_of_eq rfl) (by decide) (by decide) (by decide) (by decide) fun T v h' X eh hv => ?_
    obtain ⟨rfl, rfl⟩ := hv
    refine g_istore K X 116 #[.val (.int x0), .val (.int x1), .val (.int x2), .val (.int x3), .val (.int x4), .val (.int x5), .val (.int (Int32.ofNat 1)), .val (.int (Int32.ofNat r)), .val (.ref a), .val (.int (Int32.ofNat (WF b0 b1 b2 b3 r)))] at_114 rfl rfl ?_
    refine g_aload K X 118 at_116 rfl rfl rfl ?_
    refine g_iload K X 120 at_118 rfl rfl ?_
    refine g_iload K X 122 at_120 rfl rfl ?_
    refine g_iload K X 124 at_122 rfl rfl ?_
    refine g_iadd K X 125 at_124 rfl ?_
    refine g_eqI (y := Int32.ofNat (1 + r)) (own_add 1 r rfl) ?_
    refine g_static K X eh rfl (met_sl l Z a0 hw a _ 1 b0 b1 b2 b3 r (by decide) hr hb0 hb1 hb2 hb3 h n0 A (by show x0.toInt8.toInt32 &&& 255 = _; rw [own_byte, eb0]) (by show x1.toInt8.toInt32 &&& 255 = _; rw [own_byte, eb1]) (by show x2.toInt8.toInt32 &&& 255 = _; rw [own_byte, eb2]) (by show x3.toInt8.toInt32 &&& 255 = _; rw [own_byte, eb3])) (hw _ (List.mem_of_getElem? (i := 5) rfl)) (hw _ (List.mem_of_getElem? (i := 6) rfl)) (hw _ (List.mem_of_getElem? (i := 8) rfl)) (hw _ (List.mem_of_getElem? (i := 7) rfl)) (by decide) [.ref a, .int (Int32.ofNat 1), .int (Int32.ofNat (1 + r))] rfl rfl (lenOf pd_2 rfl) 128 at_125 rfl 0 (Nat.le_of_eq rfl) (by decide) (by decide) (by decide) (by decide) fun T v h' X eh hv => ?_
    obtain ⟨rfl, rfl⟩ := hv
    refine g_iload K X 130 at_128 rfl rfl ?_
    refine g_icmpF K X 133 at_130 rfl (show ¬ (¬ (Int32.ofNat (WF b0 b1 b2 b3 r)) = (Int32.ofNat (WF b0 b1 b2 b3 r))) from (fun q => q rfl)) ?_
    refine g_iconst K X (1 : Int32) 134 at_133 rfl rfl ?_
    refine g_goto K X 138 at_134 rfl ?_
    exact g_retN K X eh rfl (t := .boolean) (by simp) ((1 : Int32)) rfl at_138 (by decide) (by decide) rfl
set_option maxRecDepth 65536 in
set_option maxHeartbeats 40000000 in
theorem comes_1 {Post : Tables → Env → Array Value → State → Outcome → State → Prop} (hpost : ∀ tb e args s v u, (limb_1_1.after args s (.returned v) u = true ∧ limb_1_2.after args s (.returned v) u = true ∧ True) → FrameEnd s (.returned v) u (Jvm.fieldLocs frame_1_writes args s ++ Jvm.arrayLocs frame_1_arrays args s ++ Jvm.staticLocs frame_1_statics s) 16 128 → Post tb e args s (.returned v) u) :
    ArmFor flags0 classFile x code maxLocals ret World_1 tables_1 room_1 Calls_1 rest_1 Pre_1 Post := by
  intro l hfl _ _ p e ha hc hk s m args below hf hA hF happ hP
  obtain ⟨hcalls, hrest, hpre⟩ := hP
  obtain ⟨-, -, -, hnamed, -, -, -, hat⟩ := (Spec.applies_iff hf).mp happ
  obtain ⟨hg, hn⟩ := and_e (Cond.before_iff.mp (show (Jvm.Cond.and given_1 narrow_1).before args s = true from hpre))
  obtain ⟨h1, h2⟩ := and_e hg
  obtain ⟨w0, w1, w2, w3, w4, w5, rfl⟩ : ∃ w0 w1 w2 w3 w4 w5 : Value, args = #[w0, w1, w2, w3, w4, w5] := by
    have hs : args.size = 6 := by simpa [Cond.value, given_1] using h1
    obtain ⟨L⟩ := args
    match L, hs with
    | [w0, w1, w2, w3, w4, w5], _ => exact ⟨w0, w1, w2, w3, w4, w5, rfl⟩
  have hw := fun d (hd : d ∈ tables_1) => atoms_spec (ws := Jvm.Cond.code x code maxLocals ret :: tables_1) hat d (List.mem_cons_of_mem _ hd)
  obtain ⟨g0, r0⟩ := and_e h2
  obtain ⟨i0, e0⟩ := is_v g0
  obtain rfl : w0 = (.int i0) := Option.some.inj e0
  obtain ⟨g1, r1⟩ := and_e r0
  obtain ⟨i1, e1⟩ := is_v g1
  obtain rfl : w1 = (.int i1) := Option.some.inj e1
  obtain ⟨g2, r2⟩ := and_e r1
  obtain ⟨i2, e2⟩ := is_v g2
  obtain rfl : w2 = (.int i2) := Option.some.inj e2
  obtain ⟨g3, r3⟩ := and_e r2
  obtain ⟨i3, e3⟩ := is_v g3
  obtain rfl : w3 = (.int i3) := Option.some.inj e3
  obtain ⟨g4, r4⟩ := and_e r3
  obtain ⟨i4, e4⟩ := is_v g4
  obtain rfl : w4 = (.int i4) := Option.some.inj e4
  obtain ⟨i5, e5⟩ := is_v r4
  obtain rfl : w5 = (.int i5) := Option.some.inj e5
  obtain ⟨n, o, h1, h2, h3, _, L, rfl, ⟨rfl, N⟩, hq⟩ := met_law l s _ hw i0 i1 i2 i3 i4 i5 s.heap s.heap.size (Nat.le_refl _) p e ha hc hk s m _ below hf ((Spec.applies_iff_loose hf).mp happ).1 ⟨rfl, State.Warmed39.refl s, rfl⟩ trivial
  refine ⟨n, _, h1, h2, h3, hpost _ _ _ _ _ _ ⟨Cond.after_iff.mpr rfl, Cond.after_iff.mpr (eq_i res_at (Term.int_eval (1)) rfl), trivial⟩ ⟨hq.1, hq.2.1, (hq.2.2.sift fun y hy => Or.inr (N y hy)).mono (by decide) (by decide)⟩⟩
theorem main_1_1 : Claimed_1_1 := comes_1 fun _ _ _ _ _ _ h hF => ⟨h.1, hF⟩
theorem main_1_2 : Claimed_1_2 := comes_1 fun _ _ _ _ _ _ h hF => ⟨h.2.1, hF⟩
end Jvm.Pilot.@@N@@
namespace Jvm.Pilot.@@N@@
open Jvm Jvm.ClassFile Sem Op Lib Jvm.Free Jvm.Stand Jvm.Pilot.@@N@@.Jvm.D
/-! MADE BY PROGRAM (witnessworld.py) out of the Statement's table words and the real class files: 9 classes; the members and pool entries that the words name. The judged class is class 1, her method 3. -/
namespace start1
open Jvm.ClassFile
def u (s : String) : CpInfo := .utf8 (stringToUtf16 s)
/-- a pool by its gaps: so many unusable entries, then the entry; so many at the end -/
def gap : Nat → List CpInfo → List CpInfo
  | 0, r => r
  | n + 1, r => .unusable :: gap n r
def poolList (es : List (Nat × CpInfo)) (last : Nat) : List CpInfo := es.foldr (fun e r => gap e.1 (e.2 :: r)) (gap last [])
def pool (es : List (Nat × CpInfo)) (last : Nat) : Array CpInfo := ⟨poolList es last⟩
def fileOf (pool : Array CpInfo) (this : Nat) (attrs : Array Attribute := #[]) (ms : Array MethodInfo := #[]) (fl : Nat := 33) (sup : Nat := 0) (ifs : Array Nat := #[]) (fds : Array FieldInfo := #[]) : ClassFile where
  minorVersion := 0
  majorVersion := 65
  constantPool := pool
  accessFlags := fl
  thisClass := this
  superClass := sup
  interfaces := ifs
  fields := fds
  methods := ms
  attributes := attrs
def plain (name : String) (sup : Option ClassId) : Class where
  name := name
  kind := .ordinary
  loader := none
  accessFlags := 33
  super := sup
  interfaces := #[]
  cf := none
  fields := #[]
  methods := #[]
  instanceTypes := #[]
  staticTypes := #[]
  resolved := #[]
  callSites := []
  init := .initialized
  statics := none
  mirror := none

def pool0 : Array CpInfo := pool [(5, u "<init>"), (0, u "()V"), (1, .class_ 10), (1, u "java/lang/Object")] 113

def k0m0 : Method := { name := "<init>", desc := "()V", sig := { parameters := [], returnType := none }, accessFlags := 1, code := none }
/-- java/lang/Object -/
def k0 : Class := { plain "java/lang/Object" none with
  accessFlags := 33
  interfaces := #[]
  cf := some (fileOf pool0 8 #[] #[{ accessFlags := 1, nameIndex := 5, descriptorIndex := 6, attributes := #[] }] 33 0 #[] #[])
  fields := #[]
  methods := #[k0m0]
  instanceTypes := #[]
  staticTypes := #[]
  resolved := Array.replicate 124 none
  statics := none }

def pool1 : Array CpInfo := pool [(2, .class_ 4), (1, u "java/lang/Object"), (0, u "<init>"), (0, u "()V"), (0, .methodref 8 9), (0, .class_ 10), (0, .nameAndType 11 12), (0, u "com/example/wireloom/wireloom/engine/Utf8SequenceLengthPinLaw"), (0, u "isCont"), (0, u "(I)Z"), (0, .integer 55296), (0, .integer 57343), (0, .integer 65536), (0, .integer 1114111), (0, .methodref 8 18), (0, .nameAndType 19 20), (0, u "expected"), (0, u "(IIIII)I"), (0, .methodref 22 23), (0, .class_ 24), (0, .nameAndType 25 26), (0, u "com/example/wireloom/wireloom/engine/Utf8"), (0, u "sequenceLength"), (0, u "([BII)I"), (3, u "law"), (0, u "(IIIIII)Z")] 4

def k1m0 : Method := { name := "<init>", desc := "()V", sig := { parameters := [], returnType := none }, accessFlags := 2, code := none }
def k1c1 : Code := { maxStack := 2, maxLocals := 1, code := method_2_code, exceptionTable := #[], attributes := #[] }
def k1m1 : Method := { name := "isCont", desc := "(I)Z", sig := { parameters := [.int], returnType := some .boolean }, accessFlags := 10, code := some k1c1 }
def k1c2 : Code := { maxStack := 3, maxLocals := 6, code := method_3_code, exceptionTable := #[], attributes := #[] }
def k1m2 : Method := { name := "expected", desc := "(IIIII)I", sig := { parameters := [.int, .int, .int, .int, .int], returnType := some .int }, accessFlags := 10, code := some k1c2 }
def k1c3 : Code := { maxStack := 5, maxLocals := 10, code := code, exceptionTable := #[], attributes := #[] }
def k1m3 : Method := { name := "law", desc := "(IIIIII)Z", sig := { parameters := [.int, .int, .int, .int, .int, .int], returnType := some .boolean }, accessFlags := 9, code := some k1c3 }
/-- com/example/wireloom/wireloom/engine/Utf8SequenceLengthPinLaw -/
def k1 : Class := { plain "com/example/wireloom/wireloom/engine/Utf8SequenceLengthPinLaw" (some 0) with
  accessFlags := 49
  interfaces := #[]
  cf := some (fileOf pool1 8 #[] #[{ accessFlags := 2, nameIndex := 5, descriptorIndex := 6, attributes := #[] }, { accessFlags := 10, nameIndex := 11, descriptorIndex := 12, attributes := #[] }, { accessFlags := 10, nameIndex := 19, descriptorIndex := 20, attributes := #[] }, { accessFlags := 9, nameIndex := 30, descriptorIndex := 31, attributes := #[] }] 49 2 #[] #[])
  fields := #[]
  methods := #[k1m0, k1m1, k1m2, k1m3]
  instanceTypes := #[]
  staticTypes := #[]
  resolved := Array.replicate 36 none
  statics := none }

def pool2 : Array CpInfo := pool [(2, .class_ 4), (1, u "java/lang/Object"), (0, u "<init>"), (0, u "()V"), (0, .class_ 8), (0, u "com/example/wireloom/wireloom/engine/Utf8"), (14, u "sequenceLength"), (0, u "([BII)I"), (20, .class_ 46), (0, u "com/example/wireloom/wireloom/engine/Utf8$Text"), (14, u "WORD"), (0, u "Ljava/lang/invoke/VarHandle;"), (72, u "MAX_SEQUENCE_BYTES"), (0, u "I"), (2, u "CONTINUATION_LOW"), (1, u "CONTINUATION_HIGH"), (1, u "CONTINUATION_BITS"), (1, u "CONTINUATION_VALUE"), (1, u "TWO_BYTE_LEAD_BITS"), (1, u "LAST_LATIN1_LEAD"), (1, u "BYTE"), (1, u "TOP_BITS"), (0, u "J"), (0, u "FIRST_TWO_BYTE"), (0, u "FIRST_THREE_BYTE"), (1, u "MAX_CHAR_BYTES")] 19

def k2m0 : Method := { name := "<init>", desc := "()V", sig := { parameters := [], returnType := none }, accessFlags := 2, code := none }
def k2c1 : Code := { maxStack := 3, maxLocals := 9, code := prog_55_method_2_code, exceptionTable := #[], attributes := #[] }
def k2m1 : Method := { name := "sequenceLength", desc := "([BII)I", sig := { parameters := [(.array .byte), .int, .int], returnType := some .int }, accessFlags := 9, code := some k2c1 }
/-- com/example/wireloom/wireloom/engine/Utf8 -/
def k2 : Class := { plain "com/example/wireloom/wireloom/engine/Utf8" (some 0) with
  accessFlags := 49
  interfaces := #[]
  cf := some (fileOf pool2 7 #[.nestMembers #[45]] #[{ accessFlags := 2, nameIndex := 5, descriptorIndex := 6, attributes := #[] }, { accessFlags := 9, nameIndex := 23, descriptorIndex := 24, attributes := #[] }] 49 2 #[] #[{ accessFlags := 25, nameIndex := 135, descriptorIndex := 136, attributes := #[] }, { accessFlags := 26, nameIndex := 139, descriptorIndex := 136, attributes := #[] }, { accessFlags := 26, nameIndex := 141, descriptorIndex := 136, attributes := #[] }, { accessFlags := 26, nameIndex := 143, descriptorIndex := 136, attributes := #[] }, { accessFlags := 26, nameIndex := 145, descriptorIndex := 136, attributes := #[] }, { accessFlags := 26, nameIndex := 147, descriptorIndex := 136, attributes := #[] }, { accessFlags := 26, nameIndex := 149, descriptorIndex := 136, attributes := #[] }, { accessFlags := 26, nameIndex := 151, descriptorIndex := 136, attributes := #[] }, { accessFlags := 26, nameIndex := 61, descriptorIndex := 62, attributes := #[] }, { accessFlags := 26, nameIndex := 153, descriptorIndex := 154, attributes := #[] }, { accessFlags := 26, nameIndex := 155, descriptorIndex := 136, attributes := #[] }, { accessFlags := 26, nameIndex := 156, descriptorIndex := 136, attributes := #[] }, { accessFlags := 26, nameIndex := 158, descriptorIndex := 136, attributes := #[] }])
  fields := #[{ name := "MAX_SEQUENCE_BYTES", type := .int, accessFlags := 25, slot := 0, constantValue := 0 }, { name := "CONTINUATION_LOW", type := .int, accessFlags := 26, slot := 1, constantValue := 0 }, { name := "CONTINUATION_HIGH", type := .int, accessFlags := 26, slot := 2, constantValue := 0 }, { name := "CONTINUATION_BITS", type := .int, accessFlags := 26, slot := 3, constantValue := 0 }, { name := "CONTINUATION_VALUE", type := .int, accessFlags := 26, slot := 4, constantValue := 0 }, { name := "TWO_BYTE_LEAD_BITS", type := .int, accessFlags := 26, slot := 5, constantValue := 0 }, { name := "LAST_LATIN1_LEAD", type := .int, accessFlags := 26, slot := 6, constantValue := 0 }, { name := "BYTE", type := .int, accessFlags := 26, slot := 7, constantValue := 0 }, { name := "WORD", type := (.object "java/lang/invoke/VarHandle"), accessFlags := 26, slot := 8, constantValue := 0 }, { name := "TOP_BITS", type := .long, accessFlags := 26, slot := 9, constantValue := 0 }, { name := "FIRST_TWO_BYTE", type := .int, accessFlags := 26, slot := 10, constantValue := 0 }, { name := "FIRST_THREE_BYTE", type := .int, accessFlags := 26, slot := 11, constantValue := 0 }, { name := "MAX_CHAR_BYTES", type := .int, accessFlags := 26, slot := 12, constantValue := 0 }]
  methods := #[k2m0, k2m1]
  instanceTypes := #[]
  staticTypes := #[.int, .int, .int, .int, .int, .int, .int, .int, (.object "java/lang/invoke/VarHandle"), .long, .int, .int, .int]
  resolved := Array.replicate 178 none
  statics := none }

def pool3 : Array CpInfo := pool [(1, u "java/lang/Cloneable"), (0, .class_ 1), (0, u "java/lang/Object"), (0, .class_ 3)] 3

/-- java/lang/Cloneable -/
def k3 : Class := { plain "java/lang/Cloneable" (some 0) with
  accessFlags := 1537
  interfaces := #[]
  cf := some (fileOf pool3 2 #[] #[] 1537 4 #[] #[])
  fields := #[]
  methods := #[]
  instanceTypes := #[]
  staticTypes := #[]
  resolved := Array.replicate 8 none
  statics := none }

def pool4 : Array CpInfo := pool [(1, u "java/io/Serializable"), (0, .class_ 1), (0, u "java/lang/Object"), (0, .class_ 3)] 3

/-- java/io/Serializable -/
def k4 : Class := { plain "java/io/Serializable" (some 0) with
  accessFlags := 1537
  interfaces := #[]
  cf := some (fileOf pool4 2 #[] #[] 1537 4 #[] #[])
  fields := #[]
  methods := #[]
  instanceTypes := #[]
  staticTypes := #[]
  resolved := Array.replicate 8 none
  statics := none }

/-- the primitive byte -/
def k5 : Class := { plain "byte" none with kind := .primitive 'B', accessFlags := 0x411 }
/-- [B -/
def k6 : Class := { plain "[B" (some 0) with kind := .array 5 .byte, interfaces := #[3, 4], accessFlags := 1041 }

/-- the primitive int -/
def k7 : Class := { plain "int" none with kind := .primitive 'I', accessFlags := 0x411 }
/-- [I -/
def k8 : Class := { plain "[I" (some 0) with kind := .array 7 .int, interfaces := #[3, 4], accessFlags := 1041 }

def heap : Heap := #[]
def classes : Array Class := #[k0, k1, k2, k3, k4, k5, k6, k7, k8]
def interned : List (Array UInt16 × Addr) := []
def slotsUsed : Nat := 0
def theMethod : MethodId := ⟨1, 3⟩
def args0 : Array Value := #[.int 3, .int 2, .int 5, .int 6, .int 7, .int 8]
def aboutOver (below : List Frame) : State where
  vm := { classes := classes, interned := interned.toArray }
  heap := heap
  slotsUsed := slotsUsed
  threads := #[{ frames := .invoking theMethod args0 :: below }]
def below0 : List Frame := [.native { method := ⟨0, 0⟩, args := #[] }]
def about1 : State := aboutOver below0
def p0 : Program := .bare "" "" ""
def e0 : Env := launch0.env 0 0 0
theorem w_frames : about1.frames = Frame.invoking theMethod args0 :: below0 := rfl
set_option maxRecDepth 65536 in
theorem w_args : argsFit about1.vm theMethod args0 = true := by decide +kernel
set_option maxRecDepth 65536 in
theorem w_heap : heapFits about1 = true := by decide +kernel
set_option maxRecDepth 65536 in
theorem w_runnable : about1.curStatus? = some .runnable := by decide +kernel
set_option maxRecDepth 65536 in
theorem w_alone : about1.alone = true := by decide +kernel
set_option maxRecDepth 65536 in
theorem w_named : about1.methodNamed? x = some theMethod := by decide +kernel
set_option maxRecDepth 65536 in
theorem w_hears : about1.hears theMethod below0 = true := by decide +kernel
set_option maxRecDepth 65536 in
theorem w_ripe : about1.ripe theMethod args0 below0 = true := by decide +kernel
theorem w_running : about1.status = .running := rfl
set_option maxRecDepth 65536 in
theorem w_room : about1.hasRoom e0.platform room_1 = true :=
  launch0.hasRoom_least _ room_1 (by decide +kernel) (by decide +kernel) (by decide +kernel) (by decide +kernel) (by decide +kernel) (by decide +kernel)
theorem allAtoms_all (ts : List Jvm.Cond) (a : Array Jvm.Value) (st : Jvm.State) : (allAtoms ts).before a st = ts.all (fun c => c.before a st) := by
  induction ts with
  | nil => rfl
  | cons c t ih =>
    show (Jvm.Cond.and c (allAtoms t)).before a st = _
    rw [Jvm.Cond.before_and, ih, List.all_cons]
def words1 : List Jvm.Cond := Jvm.Cond.code x code maxLocals ret :: tables_1
/-- a 'code' word, met by the world's own term for the bytes: nothing is compared byte by byte -/
theorem code_word {y : MethodName} {bytes : ByteArray} {mx : Nat} {rt : Option FieldType} {a : Array Value} {s : State} {m : MethodId} {meth : Method} {c : Code} (h1 : s.methodNamed? y = some m) (h2 : s.vm.method? m = some meth) (h3 : meth.code = some c) (h4 : c.code = bytes)
    (h5 : (c.maxLocals == mx && c.exceptionTable.isEmpty && decide (c.maxStack ≤ mostOperands) && decide (meth.sig.returnType = rt) && !meth.locks && decide (parseMethodDescriptor y.desc = some meth.sig)) = true) : (Jvm.Cond.code y bytes mx rt).before a s = true := by
  simp only [Bool.and_eq_true, beq_iff_eq, Bool.not_eq_true', decide_eq_true_eq] at h5
  obtain ⟨⟨⟨⟨⟨g1, g2⟩, g3⟩, g4⟩, g5⟩, g6⟩ := h5
  simp [Cond.before, Cond.holds, Cond.value, h1, h2, h3, h4, g1, g2, g3, g4, g5, g6]
def isCode : Jvm.Cond → Bool
  | .code _ _ _ _ => true
  | _ => false
theorem all_split {L : List Jvm.Cond} {P : Jvm.Cond → Bool} (h1 : L.all (fun c => isCode c || P c) = true) (h2 : ∀ c ∈ L.filter isCode, P c = true) : L.all P = true := by
  refine List.all_eq_true.mpr fun c hc => ?_
  have h := List.all_eq_true.mp h1 c hc
  rcases Bool.eq_false_or_eq_true (isCode c) with hi | hi
  · exact h2 c (List.mem_filter.mpr ⟨hc, hi⟩)
  · simpa [hi] using h
set_option maxRecDepth 65536 in
theorem w_c0 : (Jvm.Cond.code x code maxLocals ret).before args0 about1 = true := code_word (m := ⟨1, 3⟩) (meth := k1m3) (c := k1c3) (by decide +kernel) rfl rfl rfl (by decide +kernel)
set_option maxRecDepth 65536 in
theorem w_c1 : (Jvm.Cond.code ({ cls := "com/example/wireloom/wireloom/engine/Utf8SequenceLengthPinLaw", name := "expected", desc := "(IIIII)I" } : Jvm.MethodName) method_3_code (6 : Nat) (Option.some Jvm.ClassFile.FieldType.int)).before args0 about1 = true := code_word (m := ⟨1, 2⟩) (meth := k1m2) (c := k1c2) (by decide +kernel) rfl rfl rfl (by decide +kernel)
set_option maxRecDepth 65536 in
theorem w_c2 : (Jvm.Cond.code ({ cls := "com/example/wireloom/wireloom/engine/Utf8", name := "sequenceLength", desc := "([BII)I" } : Jvm.MethodName) prog_55_method_2_code (9 : Nat) (Option.some Jvm.ClassFile.FieldType.int)).before args0 about1 = true := code_word (m := ⟨2, 1⟩) (meth := k2m1) (c := k2c1) (by decide +kernel) rfl rfl rfl (by decide +kernel)
set_option maxRecDepth 65536 in
theorem w_c3 : (Jvm.Cond.code ({ cls := "com/example/wireloom/wireloom/engine/Utf8SequenceLengthPinLaw", name := "isCont", desc := "(I)Z" } : Jvm.MethodName) method_2_code (1 : Nat) (Option.some Jvm.ClassFile.FieldType.boolean)).before args0 about1 = true := code_word (m := ⟨1, 1⟩) (meth := k1m1) (c := k1c1) (by decide +kernel) rfl rfl rfl (by decide +kernel)
def codes1 : List Jvm.Cond := [Jvm.Cond.code x code maxLocals ret, Jvm.Cond.code ({ cls := "com/example/wireloom/wireloom/engine/Utf8SequenceLengthPinLaw", name := "expected", desc := "(IIIII)I" } : Jvm.MethodName) method_3_code (6 : Nat) (Option.some Jvm.ClassFile.FieldType.int), Jvm.Cond.code ({ cls := "com/example/wireloom/wireloom/engine/Utf8", name := "sequenceLength", desc := "([BII)I" } : Jvm.MethodName) prog_55_method_2_code (9 : Nat) (Option.some Jvm.ClassFile.FieldType.int), Jvm.Cond.code ({ cls := "com/example/wireloom/wireloom/engine/Utf8SequenceLengthPinLaw", name := "isCont", desc := "(I)Z" } : Jvm.MethodName) method_2_code (1 : Nat) (Option.some Jvm.ClassFile.FieldType.boolean)]
set_option maxRecDepth 65536 in
theorem codes_eq : words1.filter isCode = codes1 := rfl
theorem w_codes : ∀ c ∈ words1.filter isCode, c.before args0 about1 = true := by
  rw [codes_eq]
  intro c hc
  simp only [codes1, List.mem_cons, List.not_mem_nil, or_false] at hc
  rcases hc with rfl | rfl | rfl | rfl
  · exact w_c0
  · exact w_c1
  · exact w_c2
  · exact w_c3
set_option maxRecDepth 65536 in
theorem w_t1 : words1.all (fun c => isCode c || c.before args0 about1) = true := by decide +kernel
theorem w_tables : (allAtoms (Jvm.Cond.code x code maxLocals ret :: tables_1)).before args0 about1 = true := by
  rw [allAtoms_all]
  show words1.all (fun c => c.before args0 about1) = true
  refine all_split ?_ w_codes
  rw [w_t1]
set_option maxRecDepth 65536 in
theorem w_case : (Jvm.Cond.and given_1 narrow_1).before args0 about1 = true := by decide +kernel
theorem w_applies : (headSpec (Jvm.Cond.code x code maxLocals ret :: tables_1) room_1).applies x e0.platform about1 = true :=
  (Spec.applies_iff w_frames).mpr ⟨w_running, w_runnable, w_alone, w_named, w_hears, w_ripe, w_room, w_tables⟩
theorem atStart : AtStart classFile x code maxLocals ret World_1 tables_1 room_1 Calls_1 rest_1 Pre_1 launch0 p0 e0 about1 theMethod args0 below0 :=
  ⟨lists_1, trivial, launch0.admits_env _ _ _, launch0.least_env, fairChoices_fair.cas, fairChoices_fair.clock, w_frames, w_args, w_heap, w_applies, trivial, trivial, w_case⟩
end start1
theorem witness_1 : WitnessClaimed_1 := ⟨start1.p0, start1.e0, start1.about1, start1.theMethod, start1.args0, start1.below0, start1.atStart⟩
end Jvm.Pilot.@@N@@
