import JvmDerived
import JvmDerived.Pilot.@@N@@Statement
import JvmDerived.Pilot.@@N@@Code
set_option linter.unusedVariables false
set_option linter.unusedSimpArgs false
namespace Jvm.OwnGo
open Sem ClassFile Op Lib Jvm.Stand Jvm.Free Jvm.LawKit Jvm.RoadKit
/-- what is known of the body that is walked -/
def Cx (p : Program) (s : State) (m : MethodId) (meth : Method) (c : Code) (Z : State) (own nm : String) (bs : ByteArray) (ml : Nat) (rt : Option FieldType) : Prop :=
  p.tables.exec = Jvm.exec ∧ Z.Warmed39 s.vm ∧ c.code = bs ∧ c.maxLocals = ml ∧ s.vm.findClass own = some m.cls ∧ meth.name = nm ∧ meth.sig.returnType = rt ∧ meth.locks = false
/-- where the walk stands: every place that it has written lies in a cell at or above n0 -/
def Sd (p : Program) (l : Launch) (e : Env) (R : Room) (s : State) (m : MethodId) (args : Array Value) (below : List Frame) (meth : Method) (c : Code) (n0 : Nat) (T : State) (cells slots : Nat) : Prop :=
  ∃ locs, Stand p l e R s m args below meth c T locs cells slots ∧ Fr n0 locs
/-- the walk from t ends: it returns, Q holds of the value and the heap, at most C cells of N slots are made -/
def Go (p : Program) (e : Env) (below : List Frame) (s : State) (n0 : Nat) (Q : Option Value → Heap → Prop) (C N : Nat) (t : State) : Prop :=
  ∃ s₂ o, Steps p.tables e below t s₂ ∧ s₂.status = .running ∧ Ended s₂ below o ∧ ∃ v L, o = .returned v ∧ (Q v s₂.heap ∧ Fr n0 L) ∧ FrameEnd s o s₂ L C N
/-- a method's contract at these arguments and this heap -/
def Met (l : Launch) (Z : State) (y : MethodName) (bytes : ByteArray) (maxL : Nat) (ret : Option FieldType) (ws : List Jvm.Cond) (rm : Room) (as' : Array Value) (h : Heap) (n0 : Nat) (Q : Option Value → Heap → Prop) : Prop :=
  MetFree l y (head1 (Cond.code y bytes maxL ret :: ws) rm) (fun a U => a = as' ∧ Z.Warmed39 U.vm ∧ U.heap = h) (fun _ _ _ _ _ => True) (fun _ U o U' => ∃ v L, o = .returned v ∧ (Q v U'.heap ∧ Fr n0 L) ∧ FrameEnd U o U' L rm.cells rm.slots)
theorem Met.of {l : Launch} {Z : State} {y : MethodName} {bytes : ByteArray} {maxL : Nat} {ret : Option FieldType} {ws : List Jvm.Cond} {rm : Room} {as' : Array Value} {h : Heap} {n0 : Nat} {Q : Option Value → Heap → Prop} (hpn : plainFor y = true) (Ls : Array Slot) (hef : ∀ m, entryFrame m as' maxL = mkF m 0 Ls [])
    (body : ∀ p e s m below meth c T, Cx p s m meth c Z y.cls y.name bytes maxL ret → Sd p l e rm s m as' below meth c n0 T 0 0 → T.heap = h → Go p e below s n0 Q rm.cells rm.slots (T.setTop (mkF m 0 Ls []))) : Met l Z y bytes maxL ret ws rm as' h n0 Q := by
  refine MetFree.of_bodySF hpn hisR ?_
  intro p e s m args below meth c s₁ Bd hml0 hP hK
  obtain ⟨rfl, hZ, hh⟩ := hP
  obtain ⟨s₂, o, h1, h2, h3, h4⟩ := body p e s m below meth c s₁ ⟨Bd.exec, hZ, Bd.bytes, hml0, findClass_of_methodNamed Bd.named, (name_of_methodNamed Bd.named Bd.method).1, Bd.returns, Bd.notSynchronized⟩ ⟨[], Stand.of_body Bd, Fr.nil n0⟩ (by rw [← hh, Bd.state]; rfl)
  exact ⟨s₂, o, castTop (hef m) h1, h2, h3, h4⟩
theorem Met.mono {l : Launch} {Z : State} {y : MethodName} {bytes : ByteArray} {maxL : Nat} {ret : Option FieldType} {ws : List Jvm.Cond} {rm : Room} {as' : Array Value} {h : Heap} {n0 : Nat} {Q Q' : Option Value → Heap → Prop} (M : Met l Z y bytes maxL ret ws rm as' h n0 Q) (hQ : ∀ v g, Q v g → Q' v g) : Met l Z y bytes maxL ret ws rm as' h n0 Q' := by
  intro p e ha hc hk s m args below hf happ hP hK
  obtain ⟨n, o, h1, h2, h3, v, L, h4, h5, h6⟩ := M p e ha hc hk s m args below hf happ hP hK
  exact ⟨n, o, h1, h2, h3, v, L, h4, ⟨hQ _ _ h5.1, h5.2⟩, h6⟩
/-- what a branch asks -/
def cdP : ClassFile.Cond → Int32 → Int32 → Prop
  | .eq, x, y => x = y
  | .ne, x, y => ¬ x = y
  | .lt, x, y => x < y
  | .ge, x, y => ¬ x < y
  | .gt, x, y => y < x
  | .le, x, y => ¬ y < x
theorem cdT {cd : ClassFile.Cond} {x y : Int32} (h : cdP cd x y) : if_icmp.holds cd x y = true := by
  cases cd <;> simp only [cdP] at h
  · exact (teq h).1
  · exact (feq h).2
  · exact (tlt h).1
  · exact (flt h).2.1
  · exact (tlt h).2.2.1
  · exact (flt h).2.2.2
theorem cdF {cd : ClassFile.Cond} {x y : Int32} (h : ¬ cdP cd x y) : if_icmp.holds cd x y = false := by
  cases cd <;> simp only [cdP, Classical.not_not] at h
  · exact (feq h).1
  · exact (teq h).2
  · exact (flt h).1
  · exact (tlt h).2.1
  · exact (flt h).2.2.1
  · exact (tlt h).2.2.2
/-- an array of ints (or bytes, booleans, chars, shorts): n places, place j holds f j -/
def Ai (Z : State) (h : Heap) (a : Addr) (ty : FieldType) (n : Nat) (f : Nat → Int32) : Prop :=
  ∃ c : Cell, Arr Z h a c ty ∧ c.slots.size = n ∧ n < 2 ^ 31 ∧ ∀ j, j < n → c.slots[j]? = some (.int (f j))
def upA (f : Nat → Int32) (k : Nat) (x : Int32) : Nat → Int32 := fun j => if j = k then x else f j
theorem upA_same (f : Nat → Int32) (k : Nat) (x : Int32) : upA f k x k = x := if_pos rfl
theorem upA_other {f : Nat → Int32} {k j : Nat} {x : Int32} (h : j ≠ k) : upA f k x j = f j := if_neg h
theorem idx_ok {j : Int32} {k n : Nat} (hj : j.toInt = (k : Int)) (hk : k < n) : ¬ (j < 0 ∨ n ≤ j.toNatClampNeg) ∧ j.toNatClampNeg = k := by
  have e : j.toNatClampNeg = k := by rw [Int32.toNatClampNeg, hj]; rfl
  refine ⟨fun q => q.elim (fun q => ?_) (fun q => by omega), e⟩
  rw [Int32.lt_iff_toInt_lt, hj, show (0 : Int32).toInt = 0 from rfl] at q
  omega
section Facts
variable {Z : State} {h h' : Heap} {a b : Addr} {ty : FieldType} {n sl : Nat} {f : Nat → Int32} {v : Value} {ws : List Addr}
theorem Ai.lt (F : Ai Z h a ty n f) : a < h.size := by obtain ⟨c, A, -⟩ := F; exact A.lt
theorem Ai.ext (F : Ai Z h a ty n f) (E : Ext h h') : Ai Z h' a ty n f := by obtain ⟨c, A, r⟩ := F; exact ⟨c, A.ext E, r⟩
theorem Ai.other (F : Ai Z h b ty n f) (W : Wr h h' a sl v) (q : b ≠ a) : Ai Z h' b ty n f := by obtain ⟨c, A, r⟩ := F; exact ⟨c, A.other W q, r⟩
theorem Ai.keep (F : Ai Z h a ty n f) (K : Keep h h' ws) (q : a ∉ ws) : Ai Z h' a ty n f := by obtain ⟨c, A, r⟩ := F; exact ⟨c, ⟨K.2.1 a c A.1 q, A.2⟩, r⟩
theorem keepMore {ws' : List Addr} (K : Keep h h' ws) (q : ∀ x ∈ ws, x ∈ ws') : Keep h h' ws' := ⟨K.1, fun x c h1 h2 => K.2.1 x c h1 (fun h3 => h2 (q x h3)), K.2.2⟩
theorem Ai.set {k : Nat} {x : Int32} (F : Ai Z h a ty n f) (W : Wr h h' a k (.int x)) : Ai Z h' a ty n (upA f k x) := by
  obtain ⟨c, A, S, B, H⟩ := F
  refine ⟨_, A.same W, by rw [sz_set]; exact S, B, fun j hj => ?_⟩
  by_cases q : j = k
  · subst q
    rw [upA_same]
    simp [Cell.setSlot, S, hj]
  · rw [upA_other q, ← H j hj]
    exact Array.getElem?_setIfInBounds_ne (fun e => q e.symm)
theorem Ai.congr {g : Nat → Int32} (F : Ai Z h a ty n f) (q : ∀ j, j < n → f j = g j) : Ai Z h a ty n g := by
  obtain ⟨c, A, S, B, H⟩ := F
  exact ⟨c, A, S, B, fun j hj => by rw [H j hj, q j hj]⟩
theorem Ai.new {k : ClassId} {z : Int32} {n : Nat} (A : Arr Z h a (newA k ty z) ty) (hz : z.toInt = (n : Int)) (hn : n < 2 ^ 31) (hd : defaultValue ty = .int 0) : Ai Z h a ty n (fun _ => 0) := by
  have e : z.toNatClampNeg = n := by rw [Int32.toNatClampNeg, hz]; rfl
  exact ⟨_, A, by rw [sz_new, e], hn, fun j hj => by simp [newA, e, hj, hd]⟩
end Facts
section Go
variable {p : Program} {l : Launch} {e : Env} {R : Room} {s : State} {m : MethodId} {args : Array Value} {below : List Frame} {meth : Method} {c : Code} {T : State} {cells slots : Nat} {Z : State} {a0 : Array Value} {h : Heap} {own nm : String} {bs : ByteArray} {ml : Nat} {rt : Option FieldType} {n0 : Nat} {Q : Option Value → Heap → Prop} {C N : Nat} {pc : Nat} {Ls : Array Slot} {st : List Value}
theorem Go.step {t t' : State} (hs : ∀ target, Steps p.tables e below t' target → Steps p.tables e below t target) (g : Go p e below s n0 Q C N t') : Go p e below s n0 Q C N t := by
  obtain ⟨s₂, o, h1, r⟩ := g
  exact ⟨s₂, o, hs _ h1, r⟩
theorem Go.trans {t t' : State} (hs : Steps p.tables e below t t') (g : Go p e below s n0 Q C N t') : Go p e below s n0 Q C N t := by
  obtain ⟨s₂, o, h1, r⟩ := g
  exact ⟨s₂, o, hs.trans h1, r⟩
theorem Go.mono {Q' : Option Value → Heap → Prop} {t : State} (g : Go p e below s n0 Q C N t) (hQ : ∀ v k, Q v k → Q' v k) : Go p e below s n0 Q' C N t := by
  obtain ⟨s₂, o, h1, h2, h3, v, L, h4, h5, h6⟩ := g
  exact ⟨s₂, o, h1, h2, h3, v, L, h4, ⟨hQ _ _ h5.1, h5.2⟩, h6⟩
theorem g_eqI {x y : Int32} (q : x = y) (hr : Go p e below s n0 Q C N (T.setTop (mkF m pc Ls (.int y :: st)))) : Go p e below s n0 Q C N (T.setTop (mkF m pc Ls (.int x :: st))) := q ▸ hr
theorem g_eqJ {x y : Int64} (q : x = y) (hr : Go p e below s n0 Q C N (T.setTop (mkF m pc Ls (.long y :: st)))) : Go p e below s n0 Q C N (T.setTop (mkF m pc Ls (.long x :: st))) := q ▸ hr
theorem g_aloadN (K : Cx p s m meth c Z own nm bs ml rt) (X : Sd p l e R s m args below meth c n0 T cells slots) {k : Fin 4} {v : Value} (pc' : Nat) (hd : decode bs pc = .ok (.aload_n k, 1)) (hp : pc + 1 = pc') (hl : Ls[k.val]? = some (.val v)) (hv : v.isRef = true)
    (hr : Go p e below s n0 Q C N (T.setTop (mkF m pc' Ls (v :: st)))) : Go p e below s n0 Q C N (T.setTop (mkF m pc Ls (st))) := by
  obtain ⟨locs, Y, -⟩ := X
  obtain ⟨hx, -, hby, -⟩ := K
  subst hp
  exact Go.step (fun _ k => XS.aloadN Y.here hx (g := mkF m pc Ls (st)) rfl (hb hby hd) hl hv k) hr
theorem g_aload (K : Cx p s m meth c Z own nm bs ml rt) (X : Sd p l e R s m args below meth c n0 T cells slots) {k : Nat} {v : Value} (pc' : Nat) (hd : decode bs pc = .ok (.aload k, 2)) (hp : pc + 2 = pc') (hl : Ls[k]? = some (.val v)) (hv : v.isRef = true)
    (hr : Go p e below s n0 Q C N (T.setTop (mkF m pc' Ls (v :: st)))) : Go p e below s n0 Q C N (T.setTop (mkF m pc Ls (st))) := by
  obtain ⟨locs, Y, -⟩ := X
  obtain ⟨hx, -, hby, -⟩ := K
  subst hp
  exact Go.step (fun _ k => XS.aload Y.here hx (g := mkF m pc Ls (st)) rfl (hb hby hd) hl hv k) hr
theorem g_iloadN (K : Cx p s m meth c Z own nm bs ml rt) (X : Sd p l e R s m args below meth c n0 T cells slots) {k : Fin 4} {v : Int32} (pc' : Nat) (hd : decode bs pc = .ok (.iload_n k, 1)) (hp : pc + 1 = pc') (hl : Ls[k.val]? = some (.val (.int v)))
    (hr : Go p e below s n0 Q C N (T.setTop (mkF m pc' Ls (.int v :: st)))) : Go p e below s n0 Q C N (T.setTop (mkF m pc Ls (st))) := by
  obtain ⟨locs, Y, -⟩ := X
  obtain ⟨hx, -, hby, -⟩ := K
  subst hp
  exact Go.step (fun _ k => XS.iloadN Y.here hx (g := mkF m pc Ls (st)) rfl (hb hby hd) hl k) hr
theorem g_iload (K : Cx p s m meth c Z own nm bs ml rt) (X : Sd p l e R s m args below meth c n0 T cells slots) {k : Nat} {v : Int32} (pc' : Nat) (hd : decode bs pc = .ok (.iload k, 2)) (hp : pc + 2 = pc') (hl : Ls[k]? = some (.val (.int v)))
    (hr : Go p e below s n0 Q C N (T.setTop (mkF m pc' Ls (.int v :: st)))) : Go p e below s n0 Q C N (T.setTop (mkF m pc Ls (st))) := by
  obtain ⟨locs, Y, -⟩ := X
  obtain ⟨hx, -, hby, -⟩ := K
  subst hp
  exact Go.step (fun _ k => XS.iload Y.here hx (g := mkF m pc Ls (st)) rfl (hb hby hd) hl k) hr
theorem g_lloadN (K : Cx p s m meth c Z own nm bs ml rt) (X : Sd p l e R s m args below meth c n0 T cells slots) {k : Fin 4} {v : Int64} (pc' : Nat) (hd : decode bs pc = .ok (.lload_n k, 1)) (hp : pc + 1 = pc') (hl : Ls[k.val]? = some (.val (.long v)))
    (hr : Go p e below s n0 Q C N (T.setTop (mkF m pc' Ls (.long v :: st)))) : Go p e below s n0 Q C N (T.setTop (mkF m pc Ls (st))) := by
  obtain ⟨locs, Y, -⟩ := X
  obtain ⟨hx, -, hby, -⟩ := K
  subst hp
  exact Go.step (fun _ k => XT.lloadN Y.here hx (g := mkF m pc Ls (st)) rfl (hb hby hd) hl k) hr
theorem g_lload (K : Cx p s m meth c Z own nm bs ml rt) (X : Sd p l e R s m args below meth c n0 T cells slots) {k : Nat} {v : Int64} (pc' : Nat) (hd : decode bs pc = .ok (.lload k, 2)) (hp : pc + 2 = pc') (hl : Ls[k]? = some (.val (.long v)))
    (hr : Go p e below s n0 Q C N (T.setTop (mkF m pc' Ls (.long v :: st)))) : Go p e below s n0 Q C N (T.setTop (mkF m pc Ls (st))) := by
  obtain ⟨locs, Y, -⟩ := X
  obtain ⟨hx, -, hby, -⟩ := K
  subst hp
  exact Go.step (fun _ k => XT.lload Y.here hx (g := mkF m pc Ls (st)) rfl (hb hby hd) hl k) hr
theorem g_iconst (K : Cx p s m meth c Z own nm bs ml rt) (X : Sd p l e R s m args below meth c n0 T cells slots) {i : Int} (v : Int32) (pc' : Nat) (hd : decode bs pc = .ok (.iconst i, 1)) (hp : pc + 1 = pc') (hv : Int32.ofInt i = v)
    (hr : Go p e below s n0 Q C N (T.setTop (mkF m pc' Ls (.int v :: st)))) : Go p e below s n0 Q C N (T.setTop (mkF m pc Ls (st))) := by
  obtain ⟨locs, Y, -⟩ := X
  obtain ⟨hx, -, hby, -⟩ := K
  subst hp
  exact Go.step (fun _ k => XT.iconstV Y.here hx (g := mkF m pc Ls (st)) rfl v (hb hby hd) hv k) hr
theorem g_bipush (K : Cx p s m meth c Z own nm bs ml rt) (X : Sd p l e R s m args below meth c n0 T cells slots) {i : Int} (v : Int32) (pc' : Nat) (hd : decode bs pc = .ok (.bipush i, 2)) (hp : pc + 2 = pc') (hv : (Int8.ofInt i).toInt32 = v)
    (hr : Go p e below s n0 Q C N (T.setTop (mkF m pc' Ls (.int v :: st)))) : Go p e below s n0 Q C N (T.setTop (mkF m pc Ls (st))) := by
  obtain ⟨locs, Y, -⟩ := X
  obtain ⟨hx, -, hby, -⟩ := K
  subst hp
  exact Go.step (fun _ k => XT.bipushV Y.here hx (g := mkF m pc Ls (st)) rfl v (hb hby hd) hv k) hr
theorem g_sipush (K : Cx p s m meth c Z own nm bs ml rt) (X : Sd p l e R s m args below meth c n0 T cells slots) {i : Int} (v : Int32) (pc' : Nat) (hd : decode bs pc = .ok (.sipush i, 3)) (hp : pc + 3 = pc') (hv : (Int16.ofInt i).toInt32 = v)
    (hr : Go p e below s n0 Q C N (T.setTop (mkF m pc' Ls (.int v :: st)))) : Go p e below s n0 Q C N (T.setTop (mkF m pc Ls (st))) := by
  obtain ⟨locs, Y, -⟩ := X
  obtain ⟨hx, -, hby, -⟩ := K
  subst hp
  exact Go.step (fun _ k => XT.sipushV Y.here hx (g := mkF m pc Ls (st)) rfl v (hb hby hd) hv k) hr
theorem g_lconst (K : Cx p s m meth c Z own nm bs ml rt) (X : Sd p l e R s m args below meth c n0 T cells slots) {k : Fin 2} (v : Int64) (pc' : Nat) (hd : decode bs pc = .ok (.lconst k, 1)) (hp : pc + 1 = pc') (hv : Int64.ofNat k = v)
    (hr : Go p e below s n0 Q C N (T.setTop (mkF m pc' Ls (.long v :: st)))) : Go p e below s n0 Q C N (T.setTop (mkF m pc Ls (st))) := by
  obtain ⟨locs, Y, -⟩ := X
  obtain ⟨hx, -, hby, -⟩ := K
  subst hp
  exact Go.step (fun _ k => XT.lconstV Y.here hx (g := mkF m pc Ls (st)) rfl v (hb hby hd) hv k) hr
theorem g_anull (K : Cx p s m meth c Z own nm bs ml rt) (X : Sd p l e R s m args below meth c n0 T cells slots) (pc' : Nat) (hd : decode bs pc = .ok (.aconst_null, 1)) (hp : pc + 1 = pc') 
    (hr : Go p e below s n0 Q C N (T.setTop (mkF m pc' Ls (.null :: st)))) : Go p e below s n0 Q C N (T.setTop (mkF m pc Ls (st))) := by
  obtain ⟨locs, Y, -⟩ := X
  obtain ⟨hx, -, hby, -⟩ := K
  subst hp
  exact Go.step (fun _ k => XS.aconstNull Y.here hx (g := mkF m pc Ls (st)) rfl (hb hby hd) k) hr
theorem g_istoreN (K : Cx p s m meth c Z own nm bs ml rt) (X : Sd p l e R s m args below meth c n0 T cells slots) {k : Fin 4} {x : Int32} (pc' : Nat) (l' : Array Slot) (hd : decode bs pc = .ok (.istore_n k, 1)) (hp : pc + 1 = pc') (hl : storeLocals Ls k.val (.int x) = some l')
    (hr : Go p e below s n0 Q C N (T.setTop (mkF m pc' l' (st)))) : Go p e below s n0 Q C N (T.setTop (mkF m pc Ls (.int x :: st))) := by
  obtain ⟨locs, Y, -⟩ := X
  obtain ⟨hx, -, hby, -⟩ := K
  subst hp
  exact Go.step (fun _ k => XS.istoreN Y.here hx (g := mkF m pc Ls (.int x :: st)) rfl (hb hby hd) rfl hl k) hr
theorem g_istore (K : Cx p s m meth c Z own nm bs ml rt) (X : Sd p l e R s m args below meth c n0 T cells slots) {k : Nat} {x : Int32} (pc' : Nat) (l' : Array Slot) (hd : decode bs pc = .ok (.istore k, 2)) (hp : pc + 2 = pc') (hl : storeLocals Ls k (.int x) = some l')
    (hr : Go p e below s n0 Q C N (T.setTop (mkF m pc' l' (st)))) : Go p e below s n0 Q C N (T.setTop (mkF m pc Ls (.int x :: st))) := by
  obtain ⟨locs, Y, -⟩ := X
  obtain ⟨hx, -, hby, -⟩ := K
  subst hp
  exact Go.step (fun _ k => XS.istore Y.here hx (g := mkF m pc Ls (.int x :: st)) rfl (hb hby hd) rfl hl k) hr
theorem g_lstoreN (K : Cx p s m meth c Z own nm bs ml rt) (X : Sd p l e R s m args below meth c n0 T cells slots) {k : Fin 4} {x : Int64} (pc' : Nat) (l' : Array Slot) (hd : decode bs pc = .ok (.lstore_n k, 1)) (hp : pc + 1 = pc') (hl : storeLocals Ls k.val (.long x) = some l')
    (hr : Go p e below s n0 Q C N (T.setTop (mkF m pc' l' (st)))) : Go p e below s n0 Q C N (T.setTop (mkF m pc Ls (.long x :: st))) := by
  obtain ⟨locs, Y, -⟩ := X
  obtain ⟨hx, -, hby, -⟩ := K
  subst hp
  exact Go.step (fun _ k => XT.lstoreN Y.here hx (g := mkF m pc Ls (.long x :: st)) rfl (hb hby hd) rfl hl k) hr
theorem g_lstore (K : Cx p s m meth c Z own nm bs ml rt) (X : Sd p l e R s m args below meth c n0 T cells slots) {k : Nat} {x : Int64} (pc' : Nat) (l' : Array Slot) (hd : decode bs pc = .ok (.lstore k, 2)) (hp : pc + 2 = pc') (hl : storeLocals Ls k (.long x) = some l')
    (hr : Go p e below s n0 Q C N (T.setTop (mkF m pc' l' (st)))) : Go p e below s n0 Q C N (T.setTop (mkF m pc Ls (.long x :: st))) := by
  obtain ⟨locs, Y, -⟩ := X
  obtain ⟨hx, -, hby, -⟩ := K
  subst hp
  exact Go.step (fun _ k => XT.lstore Y.here hx (g := mkF m pc Ls (.long x :: st)) rfl (hb hby hd) rfl hl k) hr
theorem g_astoreN (K : Cx p s m meth c Z own nm bs ml rt) (X : Sd p l e R s m args below meth c n0 T cells slots) {k : Fin 4} {x : Value} (pc' : Nat) (l' : Array Slot) (hd : decode bs pc = .ok (.astore_n k, 1)) (hp : pc + 1 = pc') (hv : x.isRef = true) (hl : storeLocals Ls k.val x = some l')
    (hr : Go p e below s n0 Q C N (T.setTop (mkF m pc' l' (st)))) : Go p e below s n0 Q C N (T.setTop (mkF m pc Ls (x :: st))) := by
  obtain ⟨locs, Y, -⟩ := X
  obtain ⟨hx, -, hby, -⟩ := K
  subst hp
  exact Go.step (fun _ k => XS.astoreN Y.here hx (g := mkF m pc Ls (x :: st)) rfl (hb hby hd) rfl hv hl k) hr
theorem g_astore (K : Cx p s m meth c Z own nm bs ml rt) (X : Sd p l e R s m args below meth c n0 T cells slots) {k : Nat} {x : Value} (pc' : Nat) (l' : Array Slot) (hd : decode bs pc = .ok (.astore k, 2)) (hp : pc + 2 = pc') (hv : x.isRef = true) (hl : storeLocals Ls k x = some l')
    (hr : Go p e below s n0 Q C N (T.setTop (mkF m pc' l' (st)))) : Go p e below s n0 Q C N (T.setTop (mkF m pc Ls (x :: st))) := by
  obtain ⟨locs, Y, -⟩ := X
  obtain ⟨hx, -, hby, -⟩ := K
  subst hp
  exact Go.step (fun _ k => XS.astore Y.here hx (g := mkF m pc Ls (x :: st)) rfl (hb hby hd) rfl hv hl k) hr
theorem g_iinc (K : Cx p s m meth c Z own nm bs ml rt) (X : Sd p l e R s m args below meth c n0 T cells slots) {k : Nat} {cst : Int} {x : Int32} (v : Int32) (pc' : Nat) (l' : Array Slot) (hd : decode bs pc = .ok (.iinc k cst, 3)) (hp : pc + 3 = pc') (hv : Int32.ofInt cst = v) (hl : Ls[k]? = some (.val (.int x))) (hl' : storeLocals Ls k (.int (x + v)) = some l')
    (hr : Go p e below s n0 Q C N (T.setTop (mkF m pc' l' (st)))) : Go p e below s n0 Q C N (T.setTop (mkF m pc Ls (st))) := by
  obtain ⟨locs, Y, -⟩ := X
  obtain ⟨hx, -, hby, -⟩ := K
  subst hp
  exact Go.step (fun _ k => XT.iincV Y.here hx (g := mkF m pc Ls (st)) rfl v (hb hby hd) hv hl hl' k) hr
theorem g_iadd (K : Cx p s m meth c Z own nm bs ml rt) (X : Sd p l e R s m args below meth c n0 T cells slots) {x y : Int32} (pc' : Nat) (hd : decode bs pc = .ok (.iadd, 1)) (hp : pc + 1 = pc') 
    (hr : Go p e below s n0 Q C N (T.setTop (mkF m pc' Ls (.int (x + y) :: st)))) : Go p e below s n0 Q C N (T.setTop (mkF m pc Ls (.int y :: .int x :: st))) := by
  obtain ⟨locs, Y, -⟩ := X
  obtain ⟨hx, -, hby, -⟩ := K
  subst hp
  exact Go.step (fun _ k => XS.iadd Y.here hx (g := mkF m pc Ls (.int y :: .int x :: st)) rfl (hb hby hd) rfl k) hr
theorem g_isub (K : Cx p s m meth c Z own nm bs ml rt) (X : Sd p l e R s m args below meth c n0 T cells slots) {x y : Int32} (pc' : Nat) (hd : decode bs pc = .ok (.isub, 1)) (hp : pc + 1 = pc') 
    (hr : Go p e below s n0 Q C N (T.setTop (mkF m pc' Ls (.int (x - y) :: st)))) : Go p e below s n0 Q C N (T.setTop (mkF m pc Ls (.int y :: .int x :: st))) := by
  obtain ⟨locs, Y, -⟩ := X
  obtain ⟨hx, -, hby, -⟩ := K
  subst hp
  exact Go.step (fun _ k => XS.isub Y.here hx (g := mkF m pc Ls (.int y :: .int x :: st)) rfl (hb hby hd) rfl k) hr
theorem g_imul (K : Cx p s m meth c Z own nm bs ml rt) (X : Sd p l e R s m args below meth c n0 T cells slots) {x y : Int32} (pc' : Nat) (hd : decode bs pc = .ok (.imul, 1)) (hp : pc + 1 = pc') 
    (hr : Go p e below s n0 Q C N (T.setTop (mkF m pc' Ls (.int (x * y) :: st)))) : Go p e below s n0 Q C N (T.setTop (mkF m pc Ls (.int y :: .int x :: st))) := by
  obtain ⟨locs, Y, -⟩ := X
  obtain ⟨hx, -, hby, -⟩ := K
  subst hp
  exact Go.step (fun _ k => XS.imul Y.here hx (g := mkF m pc Ls (.int y :: .int x :: st)) rfl (hb hby hd) rfl k) hr
theorem g_iand (K : Cx p s m meth c Z own nm bs ml rt) (X : Sd p l e R s m args below meth c n0 T cells slots) {x y : Int32} (pc' : Nat) (hd : decode bs pc = .ok (.iand, 1)) (hp : pc + 1 = pc') 
    (hr : Go p e below s n0 Q C N (T.setTop (mkF m pc' Ls (.int (x &&& y) :: st)))) : Go p e below s n0 Q C N (T.setTop (mkF m pc Ls (.int y :: .int x :: st))) := by
  obtain ⟨locs, Y, -⟩ := X
  obtain ⟨hx, -, hby, -⟩ := K
  subst hp
  exact Go.step (fun _ k => XS.iand Y.here hx (g := mkF m pc Ls (.int y :: .int x :: st)) rfl (hb hby hd) rfl k) hr
theorem g_ior (K : Cx p s m meth c Z own nm bs ml rt) (X : Sd p l e R s m args below meth c n0 T cells slots) {x y : Int32} (pc' : Nat) (hd : decode bs pc = .ok (.ior, 1)) (hp : pc + 1 = pc') 
    (hr : Go p e below s n0 Q C N (T.setTop (mkF m pc' Ls (.int (x ||| y) :: st)))) : Go p e below s n0 Q C N (T.setTop (mkF m pc Ls (.int y :: .int x :: st))) := by
  obtain ⟨locs, Y, -⟩ := X
  obtain ⟨hx, -, hby, -⟩ := K
  subst hp
  exact Go.step (fun _ k => XT.ior Y.here hx (g := mkF m pc Ls (.int y :: .int x :: st)) rfl (hb hby hd) rfl k) hr
theorem g_ixor (K : Cx p s m meth c Z own nm bs ml rt) (X : Sd p l e R s m args below meth c n0 T cells slots) {x y : Int32} (pc' : Nat) (hd : decode bs pc = .ok (.ixor, 1)) (hp : pc + 1 = pc') 
    (hr : Go p e below s n0 Q C N (T.setTop (mkF m pc' Ls (.int (x ^^^ y) :: st)))) : Go p e below s n0 Q C N (T.setTop (mkF m pc Ls (.int y :: .int x :: st))) := by
  obtain ⟨locs, Y, -⟩ := X
  obtain ⟨hx, -, hby, -⟩ := K
  subst hp
  exact Go.step (fun _ k => XT.ixor Y.here hx (g := mkF m pc Ls (.int y :: .int x :: st)) rfl (hb hby hd) rfl k) hr
theorem g_ishl (K : Cx p s m meth c Z own nm bs ml rt) (X : Sd p l e R s m args below meth c n0 T cells slots) {x y : Int32} (pc' : Nat) (hd : decode bs pc = .ok (.ishl, 1)) (hp : pc + 1 = pc') 
    (hr : Go p e below s n0 Q C N (T.setTop (mkF m pc' Ls (.int (x <<< (y &&& 31)) :: st)))) : Go p e below s n0 Q C N (T.setTop (mkF m pc Ls (.int y :: .int x :: st))) := by
  obtain ⟨locs, Y, -⟩ := X
  obtain ⟨hx, -, hby, -⟩ := K
  subst hp
  exact Go.step (fun _ k => XT.ishl Y.here hx (g := mkF m pc Ls (.int y :: .int x :: st)) rfl (hb hby hd) rfl k) hr
theorem g_ishr (K : Cx p s m meth c Z own nm bs ml rt) (X : Sd p l e R s m args below meth c n0 T cells slots) {x y : Int32} (pc' : Nat) (hd : decode bs pc = .ok (.ishr, 1)) (hp : pc + 1 = pc') 
    (hr : Go p e below s n0 Q C N (T.setTop (mkF m pc' Ls (.int (x >>> (y &&& 31)) :: st)))) : Go p e below s n0 Q C N (T.setTop (mkF m pc Ls (.int y :: .int x :: st))) := by
  obtain ⟨locs, Y, -⟩ := X
  obtain ⟨hx, -, hby, -⟩ := K
  subst hp
  exact Go.step (fun _ k => XT.ishr Y.here hx (g := mkF m pc Ls (.int y :: .int x :: st)) rfl (hb hby hd) rfl k) hr
theorem g_iushr (K : Cx p s m meth c Z own nm bs ml rt) (X : Sd p l e R s m args below meth c n0 T cells slots) {x y : Int32} (pc' : Nat) (hd : decode bs pc = .ok (.iushr, 1)) (hp : pc + 1 = pc') 
    (hr : Go p e below s n0 Q C N (T.setTop (mkF m pc' Ls (.int (XT.ushr x y) :: st)))) : Go p e below s n0 Q C N (T.setTop (mkF m pc Ls (.int y :: .int x :: st))) := by
  obtain ⟨locs, Y, -⟩ := X
  obtain ⟨hx, -, hby, -⟩ := K
  subst hp
  exact Go.step (fun _ k => XT.iushr Y.here hx (g := mkF m pc Ls (.int y :: .int x :: st)) rfl (hb hby hd) rfl k) hr
theorem g_irem (K : Cx p s m meth c Z own nm bs ml rt) (X : Sd p l e R s m args below meth c n0 T cells slots) {x y : Int32} (pc' : Nat) (hd : decode bs pc = .ok (.irem, 1)) (hp : pc + 1 = pc') (hy : y ≠ 0)
    (hr : Go p e below s n0 Q C N (T.setTop (mkF m pc' Ls (.int (x % y) :: st)))) : Go p e below s n0 Q C N (T.setTop (mkF m pc Ls (.int y :: .int x :: st))) := by
  obtain ⟨locs, Y, -⟩ := X
  obtain ⟨hx, -, hby, -⟩ := K
  subst hp
  exact Go.step (fun _ k => iremM Y hx (g := mkF m pc Ls (.int y :: .int x :: st)) rfl (hb hby hd) rfl hy k) hr
theorem g_ladd (K : Cx p s m meth c Z own nm bs ml rt) (X : Sd p l e R s m args below meth c n0 T cells slots) {x y : Int64} (pc' : Nat) (hd : decode bs pc = .ok (.ladd, 1)) (hp : pc + 1 = pc') 
    (hr : Go p e below s n0 Q C N (T.setTop (mkF m pc' Ls (.long (x + y) :: st)))) : Go p e below s n0 Q C N (T.setTop (mkF m pc Ls (.long y :: .long x :: st))) := by
  obtain ⟨locs, Y, -⟩ := X
  obtain ⟨hx, -, hby, -⟩ := K
  subst hp
  exact Go.step (fun _ k => XT.ladd Y.here hx (g := mkF m pc Ls (.long y :: .long x :: st)) rfl (hb hby hd) rfl k) hr
theorem g_lsub (K : Cx p s m meth c Z own nm bs ml rt) (X : Sd p l e R s m args below meth c n0 T cells slots) {x y : Int64} (pc' : Nat) (hd : decode bs pc = .ok (.lsub, 1)) (hp : pc + 1 = pc') 
    (hr : Go p e below s n0 Q C N (T.setTop (mkF m pc' Ls (.long (x - y) :: st)))) : Go p e below s n0 Q C N (T.setTop (mkF m pc Ls (.long y :: .long x :: st))) := by
  obtain ⟨locs, Y, -⟩ := X
  obtain ⟨hx, -, hby, -⟩ := K
  subst hp
  exact Go.step (fun _ k => XT.lsub Y.here hx (g := mkF m pc Ls (.long y :: .long x :: st)) rfl (hb hby hd) rfl k) hr
theorem g_land (K : Cx p s m meth c Z own nm bs ml rt) (X : Sd p l e R s m args below meth c n0 T cells slots) {x y : Int64} (pc' : Nat) (hd : decode bs pc = .ok (.land, 1)) (hp : pc + 1 = pc') 
    (hr : Go p e below s n0 Q C N (T.setTop (mkF m pc' Ls (.long (x &&& y) :: st)))) : Go p e below s n0 Q C N (T.setTop (mkF m pc Ls (.long y :: .long x :: st))) := by
  obtain ⟨locs, Y, -⟩ := X
  obtain ⟨hx, -, hby, -⟩ := K
  subst hp
  exact Go.step (fun _ k => XT.land Y.here hx (g := mkF m pc Ls (.long y :: .long x :: st)) rfl (hb hby hd) rfl k) hr
theorem g_lor (K : Cx p s m meth c Z own nm bs ml rt) (X : Sd p l e R s m args below meth c n0 T cells slots) {x y : Int64} (pc' : Nat) (hd : decode bs pc = .ok (.lor, 1)) (hp : pc + 1 = pc') 
    (hr : Go p e below s n0 Q C N (T.setTop (mkF m pc' Ls (.long (x ||| y) :: st)))) : Go p e below s n0 Q C N (T.setTop (mkF m pc Ls (.long y :: .long x :: st))) := by
  obtain ⟨locs, Y, -⟩ := X
  obtain ⟨hx, -, hby, -⟩ := K
  subst hp
  exact Go.step (fun _ k => XT.lor Y.here hx (g := mkF m pc Ls (.long y :: .long x :: st)) rfl (hb hby hd) rfl k) hr
theorem g_lxor (K : Cx p s m meth c Z own nm bs ml rt) (X : Sd p l e R s m args below meth c n0 T cells slots) {x y : Int64} (pc' : Nat) (hd : decode bs pc = .ok (.lxor, 1)) (hp : pc + 1 = pc') 
    (hr : Go p e below s n0 Q C N (T.setTop (mkF m pc' Ls (.long (x ^^^ y) :: st)))) : Go p e below s n0 Q C N (T.setTop (mkF m pc Ls (.long y :: .long x :: st))) := by
  obtain ⟨locs, Y, -⟩ := X
  obtain ⟨hx, -, hby, -⟩ := K
  subst hp
  exact Go.step (fun _ k => XT.lxor Y.here hx (g := mkF m pc Ls (.long y :: .long x :: st)) rfl (hb hby hd) rfl k) hr
theorem g_lshl (K : Cx p s m meth c Z own nm bs ml rt) (X : Sd p l e R s m args below meth c n0 T cells slots) {x : Int64} {y : Int32} (pc' : Nat) (hd : decode bs pc = .ok (.lshl, 1)) (hp : pc + 1 = pc') 
    (hr : Go p e below s n0 Q C N (T.setTop (mkF m pc' Ls (.long (x <<< (y.toInt64 &&& 63)) :: st)))) : Go p e below s n0 Q C N (T.setTop (mkF m pc Ls (.int y :: .long x :: st))) := by
  obtain ⟨locs, Y, -⟩ := X
  obtain ⟨hx, -, hby, -⟩ := K
  subst hp
  exact Go.step (fun _ k => XT.lshl Y.here hx (g := mkF m pc Ls (.int y :: .long x :: st)) rfl (hb hby hd) rfl k) hr
theorem g_lushr (K : Cx p s m meth c Z own nm bs ml rt) (X : Sd p l e R s m args below meth c n0 T cells slots) {x : Int64} {y : Int32} (pc' : Nat) (hd : decode bs pc = .ok (.lushr, 1)) (hp : pc + 1 = pc') 
    (hr : Go p e below s n0 Q C N (T.setTop (mkF m pc' Ls (.long (XT.ushrL x y) :: st)))) : Go p e below s n0 Q C N (T.setTop (mkF m pc Ls (.int y :: .long x :: st))) := by
  obtain ⟨locs, Y, -⟩ := X
  obtain ⟨hx, -, hby, -⟩ := K
  subst hp
  exact Go.step (fun _ k => XT.lushr Y.here hx (g := mkF m pc Ls (.int y :: .long x :: st)) rfl (hb hby hd) rfl k) hr
theorem g_lcmp (K : Cx p s m meth c Z own nm bs ml rt) (X : Sd p l e R s m args below meth c n0 T cells slots) {x y : Int64} (pc' : Nat) (hd : decode bs pc = .ok (.lcmp, 1)) (hp : pc + 1 = pc') 
    (hr : Go p e below s n0 Q C N (T.setTop (mkF m pc' Ls (.int (XT.cmpL x y) :: st)))) : Go p e below s n0 Q C N (T.setTop (mkF m pc Ls (.long y :: .long x :: st))) := by
  obtain ⟨locs, Y, -⟩ := X
  obtain ⟨hx, -, hby, -⟩ := K
  subst hp
  exact Go.step (fun _ k => XT.lcmp Y.here hx (g := mkF m pc Ls (.long y :: .long x :: st)) rfl (hb hby hd) rfl k) hr
theorem g_i2l (K : Cx p s m meth c Z own nm bs ml rt) (X : Sd p l e R s m args below meth c n0 T cells slots) {x : Int32} (pc' : Nat) (hd : decode bs pc = .ok (.i2l, 1)) (hp : pc + 1 = pc') 
    (hr : Go p e below s n0 Q C N (T.setTop (mkF m pc' Ls (.long x.toInt64 :: st)))) : Go p e below s n0 Q C N (T.setTop (mkF m pc Ls (.int x :: st))) := by
  obtain ⟨locs, Y, -⟩ := X
  obtain ⟨hx, -, hby, -⟩ := K
  subst hp
  exact Go.step (fun _ k => XT.i2l Y.here hx (g := mkF m pc Ls (.int x :: st)) rfl (hb hby hd) rfl k) hr
theorem g_l2i (K : Cx p s m meth c Z own nm bs ml rt) (X : Sd p l e R s m args below meth c n0 T cells slots) {x : Int64} (pc' : Nat) (hd : decode bs pc = .ok (.l2i, 1)) (hp : pc + 1 = pc') 
    (hr : Go p e below s n0 Q C N (T.setTop (mkF m pc' Ls (.int x.toInt32 :: st)))) : Go p e below s n0 Q C N (T.setTop (mkF m pc Ls (.long x :: st))) := by
  obtain ⟨locs, Y, -⟩ := X
  obtain ⟨hx, -, hby, -⟩ := K
  subst hp
  exact Go.step (fun _ k => XT.l2i Y.here hx (g := mkF m pc Ls (.long x :: st)) rfl (hb hby hd) rfl k) hr
theorem g_i2b (K : Cx p s m meth c Z own nm bs ml rt) (X : Sd p l e R s m args below meth c n0 T cells slots) {x : Int32} (pc' : Nat) (hd : decode bs pc = .ok (.i2b, 1)) (hp : pc + 1 = pc') 
    (hr : Go p e below s n0 Q C N (T.setTop (mkF m pc' Ls (.int x.toInt8.toInt32 :: st)))) : Go p e below s n0 Q C N (T.setTop (mkF m pc Ls (.int x :: st))) := by
  obtain ⟨locs, Y, -⟩ := X
  obtain ⟨hx, -, hby, -⟩ := K
  subst hp
  exact Go.step (fun _ k => XT.i2b Y.here hx (g := mkF m pc Ls (.int x :: st)) rfl (hb hby hd) rfl k) hr
theorem g_dup (K : Cx p s m meth c Z own nm bs ml rt) (X : Sd p l e R s m args below meth c n0 T cells slots) {x : Value} (pc' : Nat) (hd : decode bs pc = .ok (.dup, 1)) (hp : pc + 1 = pc') (hc : x.category = 1)
    (hr : Go p e below s n0 Q C N (T.setTop (mkF m pc' Ls (x :: x :: st)))) : Go p e below s n0 Q C N (T.setTop (mkF m pc Ls (x :: st))) := by
  obtain ⟨locs, Y, -⟩ := X
  obtain ⟨hx, -, hby, -⟩ := K
  subst hp
  exact Go.step (fun _ k => XS.dup Y.here hx (g := mkF m pc Ls (x :: st)) rfl (hb hby hd) rfl hc k) hr
theorem g_dup_x1 (K : Cx p s m meth c Z own nm bs ml rt) (X : Sd p l e R s m args below meth c n0 T cells slots) {x y : Value} (pc' : Nat) (hd : decode bs pc = .ok (.dup_x1, 1)) (hp : pc + 1 = pc') (hc : x.category = 1) (hc' : y.category = 1)
    (hr : Go p e below s n0 Q C N (T.setTop (mkF m pc' Ls (x :: y :: x :: st)))) : Go p e below s n0 Q C N (T.setTop (mkF m pc Ls (x :: y :: st))) := by
  obtain ⟨locs, Y, -⟩ := X
  obtain ⟨hx, -, hby, -⟩ := K
  subst hp
  exact Go.step (fun _ k => XT.dupX1 Y.here hx (g := mkF m pc Ls (x :: y :: st)) rfl (hb hby hd) rfl hc hc' k) hr
theorem g_dup2 (K : Cx p s m meth c Z own nm bs ml rt) (X : Sd p l e R s m args below meth c n0 T cells slots) {x y : Value} (pc' : Nat) (hd : decode bs pc = .ok (.dup2, 1)) (hp : pc + 1 = pc') (hc : x.category = 1) (hc' : y.category = 1)
    (hr : Go p e below s n0 Q C N (T.setTop (mkF m pc' Ls (x :: y :: x :: y :: st)))) : Go p e below s n0 Q C N (T.setTop (mkF m pc Ls (x :: y :: st))) := by
  obtain ⟨locs, Y, -⟩ := X
  obtain ⟨hx, -, hby, -⟩ := K
  subst hp
  exact Go.step (fun _ k => XT.dup2 Y.here hx (g := mkF m pc Ls (x :: y :: st)) rfl (hb hby hd) rfl hc hc' k) hr
theorem g_pop (K : Cx p s m meth c Z own nm bs ml rt) (X : Sd p l e R s m args below meth c n0 T cells slots) {x : Value} (pc' : Nat) (hd : decode bs pc = .ok (.pop, 1)) (hp : pc + 1 = pc') (hc : x.category = 1)
    (hr : Go p e below s n0 Q C N (T.setTop (mkF m pc' Ls (st)))) : Go p e below s n0 Q C N (T.setTop (mkF m pc Ls (x :: st))) := by
  obtain ⟨locs, Y, -⟩ := X
  obtain ⟨hx, -, hby, -⟩ := K
  subst hp
  exact Go.step (fun _ k => XT.pop Y.here hx (g := mkF m pc Ls (x :: st)) rfl (hb hby hd) rfl hc k) hr
theorem g_goto (K : Cx p s m meth c Z own nm bs ml rt) (X : Sd p l e R s m args below meth c n0 T cells slots) {o : Int} (pc' : Nat) (hd : decode bs pc = .ok (.goto o, 3)) (hp : (pc : Int) + o = (pc' : Int))
    (hr : Go p e below s n0 Q C N (T.setTop (mkF m pc' Ls st))) : Go p e below s n0 Q C N (T.setTop (mkF m pc Ls st)) := by
  obtain ⟨locs, Y, -⟩ := X
  obtain ⟨hx, -, hby, -⟩ := K
  exact Go.step (fun _ k => XS.goto Y.here hx (g := mkF m pc Ls st) rfl (pc0 := pc) (pc' := pc') rfl (hb hby hd) (by omega) (by omega) k) hr
theorem g_icmpT (K : Cx p s m meth c Z own nm bs ml rt) (X : Sd p l e R s m args below meth c n0 T cells slots) {cd : ClassFile.Cond} {x y : Int32} {o : Int} (pc' : Nat) (hd : decode bs pc = .ok (.if_icmp cd o, 3)) (hp : (pc : Int) + o = (pc' : Int)) (hc : cdP cd x y)
    (hr : Go p e below s n0 Q C N (T.setTop (mkF m pc' Ls st))) : Go p e below s n0 Q C N (T.setTop (mkF m pc Ls (.int y :: .int x :: st))) := by
  obtain ⟨locs, Y, -⟩ := X
  obtain ⟨hx, -, hby, -⟩ := K
  exact Go.step (fun _ k => XS.icmpYes Y.here hx (g := mkF m pc Ls (.int y :: .int x :: st)) rfl (pc0 := pc) (pc' := pc') rfl (hb hby hd) rfl (cdT hc) (by omega) (by omega) k) hr
theorem g_icmpF (K : Cx p s m meth c Z own nm bs ml rt) (X : Sd p l e R s m args below meth c n0 T cells slots) {cd : ClassFile.Cond} {x y : Int32} {o : Int} (pc' : Nat) (hd : decode bs pc = .ok (.if_icmp cd o, 3)) (hp : pc + 3 = pc') (hc : ¬ cdP cd x y)
    (hr : Go p e below s n0 Q C N (T.setTop (mkF m pc' Ls st))) : Go p e below s n0 Q C N (T.setTop (mkF m pc Ls (.int y :: .int x :: st))) := by
  obtain ⟨locs, Y, -⟩ := X
  obtain ⟨hx, -, hby, -⟩ := K
  subst hp
  exact Go.step (fun _ k => XS.icmpNo Y.here hx (g := mkF m pc Ls (.int y :: .int x :: st)) rfl (hb hby hd) rfl (cdF hc) k) hr
theorem g_ifT (K : Cx p s m meth c Z own nm bs ml rt) (X : Sd p l e R s m args below meth c n0 T cells slots) {cd : ClassFile.Cond} {x : Int32} {o : Int} (pc' : Nat) (hd : decode bs pc = .ok (.ifCond cd o, 3)) (hp : (pc : Int) + o = (pc' : Int)) (hc : cdP cd x 0)
    (hr : Go p e below s n0 Q C N (T.setTop (mkF m pc' Ls st))) : Go p e below s n0 Q C N (T.setTop (mkF m pc Ls (.int x :: st))) := by
  obtain ⟨locs, Y, -⟩ := X
  obtain ⟨hx, -, hby, -⟩ := K
  exact Go.step (fun _ k => XS.ifYes Y.here hx (g := mkF m pc Ls (.int x :: st)) rfl (pc0 := pc) (pc' := pc') rfl (hb hby hd) rfl ((if0 _ _).trans (cdT hc)) (by omega) (by omega) k) hr
theorem g_ifF (K : Cx p s m meth c Z own nm bs ml rt) (X : Sd p l e R s m args below meth c n0 T cells slots) {cd : ClassFile.Cond} {x : Int32} {o : Int} (pc' : Nat) (hd : decode bs pc = .ok (.ifCond cd o, 3)) (hp : pc + 3 = pc') (hc : ¬ cdP cd x 0)
    (hr : Go p e below s n0 Q C N (T.setTop (mkF m pc' Ls st))) : Go p e below s n0 Q C N (T.setTop (mkF m pc Ls (.int x :: st))) := by
  obtain ⟨locs, Y, -⟩ := X
  obtain ⟨hx, -, hby, -⟩ := K
  subst hp
  exact Go.step (fun _ k => XS.ifNo Y.here hx (g := mkF m pc Ls (.int x :: st)) rfl (hb hby hd) rfl ((if0 _ _).trans (cdF hc)) k) hr
theorem g_icmp (K : Cx p s m meth c Z own nm bs ml rt) (X : Sd p l e R s m args below meth c n0 T cells slots) {cd : ClassFile.Cond} {x y : Int32} {o : Int} (pT pF : Nat) (hd : decode bs pc = .ok (.if_icmp cd o, 3)) (hp : (pc : Int) + o = (pT : Int)) (hq : pc + 3 = pF)
    (ht : cdP cd x y → Go p e below s n0 Q C N (T.setTop (mkF m pT Ls st))) (hf : ¬ cdP cd x y → Go p e below s n0 Q C N (T.setTop (mkF m pF Ls st))) : Go p e below s n0 Q C N (T.setTop (mkF m pc Ls (.int y :: .int x :: st))) :=
  (Classical.em (cdP cd x y)).elim (fun q => g_icmpT K X pT hd hp q (ht q)) (fun q => g_icmpF K X pF hd hq q (hf q))
theorem g_if (K : Cx p s m meth c Z own nm bs ml rt) (X : Sd p l e R s m args below meth c n0 T cells slots) {cd : ClassFile.Cond} {x : Int32} {o : Int} (pT pF : Nat) (hd : decode bs pc = .ok (.ifCond cd o, 3)) (hp : (pc : Int) + o = (pT : Int)) (hq : pc + 3 = pF)
    (ht : cdP cd x 0 → Go p e below s n0 Q C N (T.setTop (mkF m pT Ls st))) (hf : ¬ cdP cd x 0 → Go p e below s n0 Q C N (T.setTop (mkF m pF Ls st))) : Go p e below s n0 Q C N (T.setTop (mkF m pc Ls (.int x :: st))) :=
  (Classical.em (cdP cd x 0)).elim (fun q => g_ifT K X pT hd hp q (ht q)) (fun q => g_ifF K X pF hd hq q (hf q))
theorem g_acmpT (K : Cx p s m meth c Z own nm bs ml rt) (X : Sd p l e R s m args below meth c n0 T cells slots) {cd : ACond} {x y : Value} {o : Int} (pc' : Nat) (hd : decode bs pc = .ok (.if_acmp cd o, 3)) (hp : (pc : Int) + o = (pc' : Int)) (h1 : x.isRef = true) (h2 : y.isRef = true) (hc : acV cd (decide (x = y)) = true)
    (hr : Go p e below s n0 Q C N (T.setTop (mkF m pc' Ls st))) : Go p e below s n0 Q C N (T.setTop (mkF m pc Ls (y :: x :: st))) := by
  obtain ⟨locs, Y, -⟩ := X
  obtain ⟨hx, -, hby, -⟩ := K
  exact Go.step (fun _ k => acmp Y hx (g := mkF m pc Ls (y :: x :: st)) rfl h1 h2 (pc0 := pc) (pc' := pc') rfl (hb hby hd) rfl rfl (by omega) (by rw [if_pos hc]; omega) k) hr
theorem g_acmpF (K : Cx p s m meth c Z own nm bs ml rt) (X : Sd p l e R s m args below meth c n0 T cells slots) {cd : ACond} {x y : Value} {o : Int} (pc' : Nat) (hd : decode bs pc = .ok (.if_acmp cd o, 3)) (hp : pc + 3 = pc') (ho : 0 ≤ (pc : Int) + o) (h1 : x.isRef = true) (h2 : y.isRef = true) (hc : acV cd (decide (x = y)) = false)
    (hr : Go p e below s n0 Q C N (T.setTop (mkF m pc' Ls st))) : Go p e below s n0 Q C N (T.setTop (mkF m pc Ls (y :: x :: st))) := by
  obtain ⟨locs, Y, -⟩ := X
  obtain ⟨hx, -, hby, -⟩ := K
  exact Go.step (fun _ k => acmp Y hx (g := mkF m pc Ls (y :: x :: st)) rfl h1 h2 (pc0 := pc) (pc' := pc') rfl (hb hby hd) rfl rfl ho (by rw [if_neg (by rw [hc]; exact Bool.false_ne_true)]; exact hp.symm) k) hr
theorem g_ldcI (K : Cx p s m meth c Z own nm bs ml rt) (X : Sd p l e R s m args below meth c n0 T cells slots) {index : Nat} {v : Int32} (w : (Jvm.Cond.constant own index v).before a0 Z = true) (pc' : Nat) (hd : decode bs pc = .ok (.ldc index, 2)) (hp : pc + 2 = pc')
    (hr : Go p e below s n0 Q C N (T.setTop (mkF m pc' Ls (.int v :: st)))) : Go p e below s n0 Q C N (T.setTop (mkF m pc Ls st)) := by
  obtain ⟨locs, Y, -⟩ := X
  obtain ⟨hx, hZ, hby, -, hown, -⟩ := K
  subst hp
  exact Go.step (fun _ k => Y.ldcI hx hown (mvT hZ w) (g := mkF m pc Ls st) rfl (hb hby hd) k) hr
theorem g_ldc2J (K : Cx p s m meth c Z own nm bs ml rt) (X : Sd p l e R s m args below meth c n0 T cells slots) {index : Nat} {v : Int64} (w : (Jvm.Cond.constantLong own index v).before a0 Z = true) (pc' : Nat) (hd : decode bs pc = .ok (.ldc2_w index, 3)) (hp : pc + 3 = pc')
    (hr : Go p e below s n0 Q C N (T.setTop (mkF m pc' Ls (.long v :: st)))) : Go p e below s n0 Q C N (T.setTop (mkF m pc Ls st)) := by
  obtain ⟨locs, Y, -⟩ := X
  obtain ⟨hx, hZ, hby, -, hown, -⟩ := K
  subst hp
  exact Go.step (fun _ k => Y.ldc2J hx hown (mvT hZ w) (g := mkF m pc Ls st) rfl (hb hby hd) k) hr
theorem g_getF (K : Cx p s m meth c Z own nm bs ml rt) (X : Sd p l e R s m args below meth c n0 T cells slots) (eh : T.heap = h) {O n d : String} {index : Nat} (w : (Jvm.Cond.fieldLink own index O n d).before a0 Z = true) {a : Addr} {v : Value} (F : Fld Z h a O n d v) (pc' : Nat) (hd : decode bs pc = .ok (.getfield index, 3)) (hp : pc + 3 = pc')
    (hr : ∀ T', Sd p l e R s m args below meth c n0 T' cells slots → T'.heap = h → Go p e below s n0 Q C N (T'.setTop (mkF m pc' Ls (v :: st)))) : Go p e below s n0 Q C N (T.setTop (mkF m pc Ls (.ref a :: st))) := by
  obtain ⟨locs, Y, hN⟩ := X
  obtain ⟨hx, hZ, hby, -, hown, -⟩ := K
  subst hp
  obtain ⟨T', X', e', k⟩ := getF Y hx hZ hown (host := "") (Or.inl w) Via.refl eh F (g := mkF m pc Ls (.ref a :: st)) rfl rfl (hb hby hd)
  exact Go.step k (hr T' ⟨locs, X', hN⟩ e')
theorem g_putF (K : Cx p s m meth c Z own nm bs ml rt) (X : Sd p l e R s m args below meth c n0 T cells slots) (eh : T.heap = h) {O n d D : String} {index kk : Nat} {ty : FieldType} (w : (Jvm.Cond.fieldLink own index O n d).before a0 Z = true) {a : Addr} {v old : Value} (F : Fld Z h a O n d old) (E : Exa Z h a D) (L : (Jvm.Cond.lays D O n d).before a0 Z = true ∨ ((Jvm.Cond.laysFinal D O n d).before a0 Z = true ∧ own = O ∧ nm = "<init>")) (wi : (Jvm.Cond.instantiable D kk).before a0 Z = true)
    (hty : parseFieldDescriptor d = some ty) (hn : narrow ty v = v) (hf : fits ty v = true) (ge : n0 ≤ a) (pc' : Nat) (hd : decode bs pc = .ok (.putfield index, 3)) (hp : pc + 3 = pc')
    (hr : ∀ T' h', Sd p l e R s m args below meth c n0 T' cells slots → T'.heap = h' → Wr h h' a (Jvm.RoadKit.slotOf Z O n d) v → Go p e below s n0 Q C N (T'.setTop (mkF m pc' Ls st))) : Go p e below s n0 Q C N (T.setTop (mkF m pc Ls (v :: .ref a :: st))) := by
  obtain ⟨locs, Y, hN⟩ := X
  obtain ⟨hx, hZ, hby, -, hown, hnm, -⟩ := K
  subst hp
  obtain ⟨T', h', X', e', W, k⟩ := putF Y hx hZ hown (host := "") (Or.inl w) Via.refl eh F E (L.imp id fun q => ⟨q.1, q.2.1, hnm.trans q.2.2⟩) wi hty hn hf (g := mkF m pc Ls (v :: .ref a :: st)) rfl rfl (hb hby hd)
  exact Go.step k (hr T' h' ⟨_, X', Fr.snoc X' hN ge⟩ e' W)
theorem g_new (K : Cx p s m meth c Z own nm bs ml rt) (X : Sd p l e R s m args below meth c n0 T cells slots) (eh : T.heap = h) {D : String} {index n : Nat} (w : (Jvm.Cond.classLink own index D).before a0 Z = true) (wi : (Jvm.Cond.instantiable D n).before a0 Z = true) (wz : (Jvm.Cond.initialized D).before a0 Z = true) (pc' : Nat) (hd : decode bs pc = .ok (.new index, 3)) (hp : pc + 3 = pc') (hc : cells + 1 ≤ R.cells) (hl : slots + n ≤ R.slots)
    (hr : ∀ T' h' a, a = h.size → Sd p l e R s m args below meth c n0 T' (cells + 1) (slots + n) → T'.heap = h' → Ext h h' → Exa Z h' a D → (∀ {O nm d : String} {ty : FieldType}, Laid Z a0 D O nm d → parseFieldDescriptor d = some ty → Fld Z h' a O nm d (defaultValue ty)) → Go p e below s n0 Q C N (T'.setTop (mkF m pc' Ls (.ref a :: st)))) : Go p e below s n0 Q C N (T.setTop (mkF m pc Ls st)) := by
  obtain ⟨locs, Y, hN⟩ := X
  obtain ⟨hx, hZ, hby, -, hown, -⟩ := K
  subst hp
  obtain ⟨T', h', X', e', E, A, D', -, k⟩ := newO Y hx hZ hown w wi wz eh (g := mkF m pc Ls st) rfl (hb hby hd) hc hl
  exact Go.step k (hr T' h' h.size rfl ⟨locs, X', hN⟩ e' E A D')
theorem g_newA (K : Cx p s m meth c Z own nm bs ml rt) (X : Sd p l e R s m args below meth c n0 T cells slots) (eh : T.heap = h) {aty : ArrayType} (w : (Jvm.Cond.arrayClass (newarray.typeOf aty)).before a0 Z = true) (pc' : Nat) (hd : decode bs pc = .ok (.newarray aty, 2)) (hp : pc + 2 = pc') {z : Int32} {n cap : Nat} (hz : z.toInt = (n : Int)) (hcap : n ≤ cap) (hb' : cap * 8 ≤ 536870912) (hdv : defaultValue (newarray.typeOf aty) = .int 0) (hc : cells + 1 ≤ R.cells) (hl : slots + cap ≤ R.slots)
    (hr : ∀ T' h' a, a = h.size → Sd p l e R s m args below meth c n0 T' (cells + 1) (slots + cap) → T'.heap = h' → Ext h h' → Ai Z h' a (newarray.typeOf aty) n (fun _ => 0) → Exa Z h' a ("[" ++ (newarray.typeOf aty).toString) → Go p e below s n0 Q C N (T'.setTop (mkF m pc' Ls (.ref a :: st)))) : Go p e below s n0 Q C N (T.setTop (mkF m pc Ls (.int z :: st))) := by
  obtain ⟨locs, Y, hN⟩ := X
  obtain ⟨hx, hZ, hby, -, hown, -⟩ := K
  subst hp
  have ez : z.toNatClampNeg = n := by rw [Int32.toNatClampNeg, hz]; rfl
  have hz0 : ¬ z < 0 := by
    rw [Int32.lt_iff_toInt_lt, hz, show (0 : Int32).toInt = 0 from rfl]; omega
  obtain ⟨T', h', cA, X', e', E, A, B, k⟩ := newPE Y hx hZ w eh (g := mkF m pc Ls (.int z :: st)) rfl (hb hby hd) (n := z) rfl hz0 (cap := cap) (by rw [ez]; exact hcap) hb' hc hl rfl
  exact Go.step k (hr T' h' h.size rfl ⟨locs, X', hN⟩ e' E (Ai.new A hz (by omega) hdv) B)
theorem g_len (K : Cx p s m meth c Z own nm bs ml rt) (X : Sd p l e R s m args below meth c n0 T cells slots) (eh : T.heap = h) {a : Addr} {ty : FieldType} {n : Nat} {f : Nat → Int32} (A : Ai Z h a ty n f) (v : Int32) (hv : Int32.ofNat n = v) (pc' : Nat) (hd : decode bs pc = .ok (.arraylength, 1)) (hp : pc + 1 = pc')
    (hr : Go p e below s n0 Q C N (T.setTop (mkF m pc' Ls (.int v :: st)))) : Go p e below s n0 Q C N (T.setTop (mkF m pc Ls (.ref a :: st))) := by
  obtain ⟨locs, Y, -⟩ := X
  obtain ⟨hx, hZ, hby, -⟩ := K
  obtain ⟨cl, A, S, -⟩ := A
  subst hp hv
  refine Go.step (fun target k => Y.arraylength hx (cell := cl) (by rw [eh]; exact A.1) (State.isArrayOf_alike hZ.alike A.2.1) (g := mkF m pc Ls (.ref a :: st)) rfl (rest := st) rfl (hb hby hd) target ?_) hr
  rw [S]
  exact k
theorem g_iaload (K : Cx p s m meth c Z own nm bs ml rt) (X : Sd p l e R s m args below meth c n0 T cells slots) (eh : T.heap = h) {a : Addr} {n : Nat} {f : Nat → Int32} (A : Ai Z h a .int n f) {j : Int32} (k : Nat) (hj : j.toInt = (k : Int)) (hk : k < n) (v : Int32) (hv : f k = v) (pc' : Nat) (hd : decode bs pc = .ok (.iaload, 1)) (hp : pc + 1 = pc')
    (hr : Go p e below s n0 Q C N (T.setTop (mkF m pc' Ls (.int v :: st)))) : Go p e below s n0 Q C N (T.setTop (mkF m pc Ls (.int j :: .ref a :: st))) := by
  obtain ⟨locs, Y, -⟩ := X
  obtain ⟨hx, hZ, hby, -⟩ := K
  obtain ⟨cl, A, S, -, H⟩ := A
  subst hp hv
  obtain ⟨i1, i2⟩ := idx_ok hj hk
  exact Go.step (fun target kk => Y.iaload hx (j := j) (v := .int (f k)) (by rw [eh]; exact A.1) (State.isArrayOf_alike hZ.alike A.2.1) A.2.2 (by rw [S]; exact i1) (by rw [i2]; exact H k hk) (g := mkF m pc Ls (.int j :: .ref a :: st)) rfl rfl (hb hby hd) target kk) hr
theorem g_baload (K : Cx p s m meth c Z own nm bs ml rt) (X : Sd p l e R s m args below meth c n0 T cells slots) (eh : T.heap = h) {a : Addr} {n : Nat} {f : Nat → Int32} (A : Ai Z h a .byte n f) {j : Int32} (k : Nat) (hj : j.toInt = (k : Int)) (hk : k < n) (v : Int32) (hv : f k = v) (pc' : Nat) (hd : decode bs pc = .ok (.baload, 1)) (hp : pc + 1 = pc')
    (hr : Go p e below s n0 Q C N (T.setTop (mkF m pc' Ls (.int v :: st)))) : Go p e below s n0 Q C N (T.setTop (mkF m pc Ls (.int j :: .ref a :: st))) := by
  obtain ⟨locs, Y, -⟩ := X
  obtain ⟨hx, hZ, hby, -⟩ := K
  obtain ⟨cl, A, S, -, H⟩ := A
  subst hp hv
  obtain ⟨i1, i2⟩ := idx_ok hj hk
  exact Go.step (fun target kk => Y.baloadBytes hx (j := j) (v := .int (f k)) (by rw [eh]; exact A.1) (State.isArrayOf_alike hZ.alike A.2.1) A.2.2 (by rw [S]; exact i1) (by rw [i2]; exact H k hk) (g := mkF m pc Ls (.int j :: .ref a :: st)) rfl rfl (hb hby hd) target kk) hr
theorem g_iastore (K : Cx p s m meth c Z own nm bs ml rt) (X : Sd p l e R s m args below meth c n0 T cells slots) (eh : T.heap = h) {a : Addr} {n : Nat} {f : Nat → Int32} (A : Ai Z h a .int n f) {j x : Int32} (k : Nat) (hj : j.toInt = (k : Int)) (hk : k < n) (v : Int32) (hv : x = v) (ge : n0 ≤ a) (pc' : Nat) (hd : decode bs pc = .ok (.iastore, 1)) (hp : pc + 1 = pc')
    (hr : ∀ T' h', Sd p l e R s m args below meth c n0 T' cells slots → T'.heap = h' → Wr h h' a k (.int v) → Ai Z h' a .int n (upA f k v) → Go p e below s n0 Q C N (T'.setTop (mkF m pc' Ls st))) : Go p e below s n0 Q C N (T.setTop (mkF m pc Ls (.int x :: .int j :: .ref a :: st))) := by
  obtain ⟨locs, Y, hN⟩ := X
  obtain ⟨hx, hZ, hby, -⟩ := K
  have A' := A
  obtain ⟨cl, B, S, -, H⟩ := A
  subst hp hv
  obtain ⟨i1, i2⟩ := idx_ok hj hk
  obtain ⟨T', h', X', e', W, kk⟩ := stI Y hx hZ eh B (j := j) (x := x) (by rw [S]; exact i1) (g := mkF m pc Ls (.int x :: .int j :: .ref a :: st)) rfl (rest := st) rfl (hb hby hd)
  rw [i2] at W
  exact Go.step kk (hr T' h' ⟨_, X', Fr.snoc X' hN ge⟩ e' W (A'.set W))
theorem g_bastore (K : Cx p s m meth c Z own nm bs ml rt) (X : Sd p l e R s m args below meth c n0 T cells slots) (eh : T.heap = h) {a : Addr} {n : Nat} {f : Nat → Int32} (A : Ai Z h a .byte n f) {j x : Int32} (k : Nat) (hj : j.toInt = (k : Int)) (hk : k < n) (v : Int32) (hv : x.toInt8.toInt32 = v) (ge : n0 ≤ a) (pc' : Nat) (hd : decode bs pc = .ok (.bastore, 1)) (hp : pc + 1 = pc')
    (hr : ∀ T' h', Sd p l e R s m args below meth c n0 T' cells slots → T'.heap = h' → Wr h h' a k (.int v) → Ai Z h' a .byte n (upA f k v) → Go p e below s n0 Q C N (T'.setTop (mkF m pc' Ls st))) : Go p e below s n0 Q C N (T.setTop (mkF m pc Ls (.int x :: .int j :: .ref a :: st))) := by
  obtain ⟨locs, Y, hN⟩ := X
  obtain ⟨hx, hZ, hby, -⟩ := K
  have A' := A
  obtain ⟨cl, B, S, -, H⟩ := A
  subst hp hv
  obtain ⟨i1, i2⟩ := idx_ok hj hk
  obtain ⟨T', h', X', e', W, kk⟩ := stB Y hx hZ eh B (j := j) (x := x) (by rw [S]; exact i1) (g := mkF m pc Ls (.int x :: .int j :: .ref a :: st)) rfl (rest := st) rfl (hb hby hd)
  rw [i2] at W
  exact Go.step kk (hr T' h' ⟨_, X', Fr.snoc X' hN ge⟩ e' W (A'.set W))
theorem g_initO (K : Cx p s m meth c Z own nm bs ml rt) (X : Sd p l e R s m args below meth c n0 T cells slots) (eh : T.heap = h) (hsz : Ls.size = ml) {idx : Nat} (w1 : (Jvm.Cond.methodLink own idx Lib.objectInit).before a0 Z = true) (w2 : (Jvm.Cond.instanceMethod Lib.objectInit).before a0 Z = true) (w3 : (Jvm.Cond.code Lib.objectInit ⟨#[0xb1]⟩ 1 none).before a0 Z = true) {a : Addr} (pc' : Nat) (hd : decode bs pc = .ok (.invokespecial idx, 3)) (hp : pc + 3 = pc') (hf : 1 ≤ R.frames) (W : Nat) (hW : (st.map fun v => v.category).sum ≤ W) (hl : W + 12 ≤ R.locals)
    (hr : ∀ T', Sd p l e R s m args below meth c n0 T' cells slots → T'.heap = h → Go p e below s n0 Q C N (T'.setTop (mkF m pc' Ls st))) : Go p e below s n0 Q C N (T.setTop (mkF m pc Ls (.ref a :: st))) := by
  obtain ⟨locs, Y, hN⟩ := X
  obtain ⟨hx, hZ, hby, hml, hown, -⟩ := K
  subst hp
  obtain ⟨T', X', e', k⟩ := initO Y hx hZ hown w1 w2 w3 eh (g := mkF m pc Ls (.ref a :: st)) rfl (by rw [hml]; exact hsz) (a := a) (rest := st) rfl (hb hby hd) hf (W := W) (by show 2 * 0 + _ ≤ _; rw [Nat.mul_zero, Nat.zero_add]; exact hW) hl
  exact Go.step k (hr T' ⟨locs, X', hN⟩ e')
theorem g_special (K : Cx p s m meth c Z own nm bs ml rt) (X : Sd p l e R s m args below meth c n0 T cells slots) (eh : T.heap = h) (hsz : Ls.size = ml) {index : Nat} {y : MethodName} (hy1 : y.name = "<init>") {bytes : ByteArray} {maxL : Nat} {rm : Room} {as' : Array Value} {Q' : Option Value → Heap → Prop} (hM : Met l Z y bytes maxL none [] rm as' h n0 Q')
    (w1 : (Jvm.Cond.methodLink own index y).before a0 Z = true) (w2 : (Jvm.Cond.instanceMethod y).before a0 Z = true) (w3 : (Jvm.Cond.code y bytes maxL none).before a0 Z = true) (w4 : (Jvm.Cond.initialized y.cls).before a0 Z = true) (hy : y.cls ≠ "java/lang/invoke/MethodHandle" ∧ y.cls ≠ "java/lang/invoke/VarHandle")
    {a : Addr} (argsL : List Value) {S : List Value} (hS : argsL.reverse ++ .ref a :: st = S) (has : (.ref a :: argsL).toArray = as') (hlen : ∀ sig, parseMethodDescriptor y.desc = some sig → argsL.length = sig.parameters.length) (pc' : Nat) (hd : decode bs pc = .ok (.invokespecial index, 3)) (hp : pc + 3 = pc') (W : Nat) (hW : (st.map fun v => v.category).sum ≤ W) (hf : rm.frames + 1 ≤ R.frames) (hl : W + (maxL + 11) + rm.locals ≤ R.locals) (hc : cells + rm.cells ≤ R.cells) (hs : slots + rm.slots ≤ R.slots)
    (hr : ∀ T' v h', Sd p l e R s m args below meth c n0 T' (cells + rm.cells) (slots + rm.slots) → T'.heap = h' → Q' v h' → Go p e below s n0 Q C N (T'.setTop (mkF m pc' Ls (v.toList ++ st)))) : Go p e below s n0 Q C N (T.setTop (mkF m pc Ls S)) := by
  obtain ⟨locs, Y, hN⟩ := X
  obtain ⟨hx, hZ, hby, hml, hown, -⟩ := K
  subst hp hS has
  obtain ⟨v, vm1, ⟨T', L', k', n'⟩, -, X', ⟨Lc, ⟨hQ, hF⟩, l1, l2, l3⟩, k⟩ := Y.specialBack hx hy1 hown (mvT hZ w1) (mvT hZ w2) (mvT hZ w3) hy (backOf (W := W) (Q := fun v h L => Q' v h ∧ Fr n0 L) hM hZ w3 w4 hf hl) (g := mkF m pc Ls (argsL.reverse ++ .ref a :: st)) rfl (by rw [hml]; exact hsz) (Steps.refl _) (a := a) (argsL := argsL) (rest := st) hlen rfl (by show 2 * 0 + _ ≤ _; rw [Nat.mul_zero, Nat.zero_add]; exact hW) (hb hby hd) (fun _ _ => ⟨rfl, eh, hc, hs⟩)
  dsimp only [Pt.U, Pt.locs, Pt.cells, Pt.slots] at X' l1 l2 l3 k hQ
  subst l1 l2 l3
  exact Go.trans k (hr T' v T'.heap ⟨_, X', hN.app hF⟩ rfl hQ)
theorem g_static (K : Cx p s m meth c Z own nm bs ml rt) (X : Sd p l e R s m args below meth c n0 T cells slots) (eh : T.heap = h) (hsz : Ls.size = ml) {index : Nat} {y : MethodName} {bytes : ByteArray} {maxL : Nat} {ret : Option FieldType} {rm : Room} {as' : Array Value} {Q' : Option Value → Heap → Prop} (hM : Met l Z y bytes maxL ret [] rm as' h n0 Q')
    (w1 : (Jvm.Cond.methodLink own index y).before a0 Z = true) (w2 : (Jvm.Cond.static y).before a0 Z = true) (w3 : (Jvm.Cond.code y bytes maxL ret).before a0 Z = true) (w4 : (Jvm.Cond.initialized y.cls).before a0 Z = true) (hy : y.cls ≠ "java/lang/invoke/MethodHandle" ∧ y.cls ≠ "java/lang/invoke/VarHandle")
    (argsL : List Value) {S : List Value} (hS : argsL.reverse ++ st = S) (has : argsL.toArray = as') (hlen : ∀ sig, parseMethodDescriptor y.desc = some sig → argsL.length = sig.parameters.length) (pc' : Nat) (hd : decode bs pc = .ok (.invokestatic index, 3)) (hp : pc + 3 = pc') (W : Nat) (hW : (st.map fun v => v.category).sum ≤ W) (hf : rm.frames + 1 ≤ R.frames) (hl : W + (maxL + 11) + rm.locals ≤ R.locals) (hc : cells + rm.cells ≤ R.cells) (hs : slots + rm.slots ≤ R.slots)
    (hr : ∀ T' v h', Sd p l e R s m args below meth c n0 T' (cells + rm.cells) (slots + rm.slots) → T'.heap = h' → Q' v h' → Go p e below s n0 Q C N (T'.setTop (mkF m pc' Ls (v.toList ++ st)))) : Go p e below s n0 Q C N (T.setTop (mkF m pc Ls S)) := by
  obtain ⟨locs, Y, hN⟩ := X
  obtain ⟨hx, hZ, hby, hml, hown, -⟩ := K
  subst hp hS has
  obtain ⟨v, vm1, ⟨T', L', k', n'⟩, -, X', ⟨Lc, ⟨hQ, hF⟩, l1, l2, l3⟩, k⟩ := Jvm.LawKit.callS Y hx hown (mvT hZ w1) (mvT hZ w2) (mvT hZ w4) (mvT hZ w3) hy (backOf (W := W) (Q := fun v h L => Q' v h ∧ Fr n0 L) hM hZ w3 w4 hf hl) (g := mkF m pc Ls (argsL.reverse ++ st)) rfl (by rw [hml]; exact hsz) (argsL := argsL) (rest := st) hlen rfl (by show 2 * 0 + _ ≤ _; rw [Nat.mul_zero, Nat.zero_add]; exact hW) (hb hby hd) (fun _ _ => ⟨rfl, eh, hc, hs⟩)
  dsimp only [Pt.U, Pt.locs, Pt.cells, Pt.slots] at X' l1 l2 l3 k hQ
  subst l1 l2 l3
  exact Go.step k (hr T' v T'.heap ⟨_, X', hN.app hF⟩ rfl hQ)
theorem g_virtual (K : Cx p s m meth c Z own nm bs ml rt) (X : Sd p l e R s m args below meth c n0 T cells slots) (eh : T.heap = h) (hsz : Ls.size = ml) {index : Nat} {D : String} {y : MethodName} {bytes : ByteArray} {maxL : Nat} {ret : Option FieldType} {rm : Room} {as' : Array Value} {Q' : Option Value → Heap → Prop} (hM : Met l Z y bytes maxL ret [] rm as' h n0 Q')
    (w1 : (Jvm.Cond.methodLink own index y).before a0 Z = true) (w2 : (Jvm.Cond.declares y).before a0 Z = true) (w5 : (Jvm.Cond.selects D y y).before a0 Z = true) (w6 : (Jvm.Cond.instanceMethod y).before a0 Z = true) (w3 : (Jvm.Cond.code y bytes maxL ret).before a0 Z = true) (w4 : (Jvm.Cond.initialized y.cls).before a0 Z = true) (hy : y.cls ≠ "java/lang/invoke/MethodHandle" ∧ y.cls ≠ "java/lang/invoke/VarHandle")
    {a : Addr} (E : Exa Z h a D) (argsL : List Value) {S : List Value} (hS : argsL.reverse ++ .ref a :: st = S) (has : (.ref a :: argsL).toArray = as') (hlen : ∀ sig, parseMethodDescriptor y.desc = some sig → argsL.length = sig.parameters.length) (pc' : Nat) (hd : decode bs pc = .ok (.invokevirtual index, 3)) (hp : pc + 3 = pc') (W : Nat) (hW : (st.map fun v => v.category).sum ≤ W) (hf : rm.frames + 1 ≤ R.frames) (hl : W + (maxL + 11) + rm.locals ≤ R.locals) (hc : cells + rm.cells ≤ R.cells) (hs : slots + rm.slots ≤ R.slots)
    (hr : ∀ T' v h', Sd p l e R s m args below meth c n0 T' (cells + rm.cells) (slots + rm.slots) → T'.heap = h' → Q' v h' → Go p e below s n0 Q C N (T'.setTop (mkF m pc' Ls (v.toList ++ st)))) : Go p e below s n0 Q C N (T.setTop (mkF m pc Ls S)) := by
  obtain ⟨locs, Y, hN⟩ := X
  obtain ⟨hx, hZ, hby, hml, hown, -⟩ := K
  subst hp hS has
  obtain ⟨cq, kq, qa, qb, qc⟩ := isOf hZ eh E
  obtain ⟨v, vm1, ⟨T', L', k', n'⟩, -, X', ⟨Lc, ⟨hQ, hF⟩, l1, l2, l3⟩, k⟩ := Y.virtualBack hx (y := y) (z := y) hown (mvT hZ w1) (mvT hZ w2) (notFace_of_selects (args := #[]) (mvT hZ w5)) (mvT hZ w5) (mvT hZ w6) hy (backOf (W := W) (Q := fun v h L => Q' v h ∧ Fr n0 L) hM hZ w3 w4 hf hl) qa qc (g := mkF m pc Ls (argsL.reverse ++ .ref a :: st)) rfl (by rw [hml]; exact hsz) (Steps.refl _) (argsL := argsL) (rest := st) hlen rfl (by show 2 * 0 + _ ≤ _; rw [Nat.mul_zero, Nat.zero_add]; exact hW) (hb hby hd) (fun _ _ => ⟨rfl, eh, hc, hs⟩)
  dsimp only [Pt.U, Pt.locs, Pt.cells, Pt.slots] at X' l1 l2 l3 k hQ
  subst l1 l2 l3
  exact Go.trans k (hr T' v T'.heap ⟨_, X', hN.app hF⟩ rfl hQ)
theorem g_private (K : Cx p s m meth c Z own nm bs ml rt) (X : Sd p l e R s m args below meth c n0 T cells slots) (eh : T.heap = h) (hsz : Ls.size = ml) {index : Nat} {y : MethodName} {bytes : ByteArray} {maxL kk : Nat} {ret : Option FieldType} {rm : Room} {as' : Array Value} {Q' : Option Value → Heap → Prop} (hM : Met l Z y bytes maxL ret [] rm as' h n0 Q')
    (w1 : (Jvm.Cond.methodLink own index y).before a0 Z = true) (w2 : (Jvm.Cond.instanceMethod y).before a0 Z = true) (w5 : (Jvm.Cond.privateMethod y).before a0 Z = true) (wi : (Jvm.Cond.instantiable y.cls kk).before a0 Z = true) (w3 : (Jvm.Cond.code y bytes maxL ret).before a0 Z = true) (w4 : (Jvm.Cond.initialized y.cls).before a0 Z = true) (hy : y.cls ≠ "java/lang/invoke/MethodHandle" ∧ y.cls ≠ "java/lang/invoke/VarHandle")
    {D : String} {a : Addr} (E : Exa Z h a D) (argsL : List Value) {S : List Value} (hS : argsL.reverse ++ .ref a :: st = S) (has : (.ref a :: argsL).toArray = as') (hlen : ∀ sig, parseMethodDescriptor y.desc = some sig → argsL.length = sig.parameters.length) (pc' : Nat) (hd : decode bs pc = .ok (.invokevirtual index, 3)) (hp : pc + 3 = pc') (W : Nat) (hW : (st.map fun v => v.category).sum ≤ W) (hf : rm.frames + 1 ≤ R.frames) (hl : W + (maxL + 11) + rm.locals ≤ R.locals) (hc : cells + rm.cells ≤ R.cells) (hs : slots + rm.slots ≤ R.slots)
    (hr : ∀ T' v h', Sd p l e R s m args below meth c n0 T' (cells + rm.cells) (slots + rm.slots) → T'.heap = h' → Q' v h' → Go p e below s n0 Q C N (T'.setTop (mkF m pc' Ls (v.toList ++ st)))) : Go p e below s n0 Q C N (T.setTop (mkF m pc Ls S)) := by
  obtain ⟨locs, Y, hN⟩ := X
  obtain ⟨hx, hZ, hby, hml, hown, -⟩ := K
  subst hp hS has
  have hpriv : s.PrivateAt y := Cond.privateMethod_at (mvP hZ w5 (args := #[]))
  have wi' : (Jvm.Cond.instantiable y.cls kk).before args s = true := mvT hZ wi
  obtain ⟨ci, ki, i1, i2, -, i4, -⟩ := Cond.instantiable_spec wi'
  have hsel : (Jvm.Cond.selects y.cls y y).before args s = true := Jvm.Stand.selects_self_of_private i1 i2 (by cases hb2 : ki.isInterface <;> simp_all) hpriv (mvT hZ w2 : (Jvm.Cond.instanceMethod y).before args s = true) hy
  obtain ⟨cl, q1, q2⟩ := E.cell
  obtain ⟨v, vm1, ⟨T', L', k', n'⟩, -, X', ⟨Lc, ⟨hQ, hF⟩, l1, l2, l3⟩, k⟩ := Y.privateBack hx (y := y) hown (mvT hZ w1) (mvT hZ w2) hsel hpriv (mvT hZ w3) hy (backOf (W := W) (Q := fun v h L => Q' v h ∧ Fr n0 L) hM hZ w3 w4 hf hl) (g := mkF m pc Ls (argsL.reverse ++ .ref a :: st)) rfl (by rw [hml]; exact hsz) (Steps.refl _) (a := a) (cell := cl) (by rw [eh]; exact q1) q2 (argsL := argsL) (rest := st) hlen rfl (by show 2 * 0 + _ ≤ _; rw [Nat.mul_zero, Nat.zero_add]; exact hW) (hb hby hd) (fun _ _ => ⟨rfl, eh, hc, hs⟩)
  dsimp only [Pt.U, Pt.locs, Pt.cells, Pt.slots] at X' l1 l2 l3 k hQ
  subst l1 l2 l3
  exact Go.trans k (hr T' v T'.heap ⟨_, X', hN.app hF⟩ rfl hQ)
/-- an array of bytes -/
def Ab (Z : State) (h : Heap) (a : Addr) (n : Nat) (f : Nat → Int32) : Prop := Ai Z h a .byte n f ∧ ∀ j, j < n → (f j).toInt8.toInt32 = f j
def bl (f : Nat → Int32) (n : Nat) : List Value := (List.range n).map fun j => .int (f j)
theorem bl_len (f : Nat → Int32) (n : Nat) : (bl f n).length = n := by simp [bl]
theorem bl_at (f : Nat → Int32) {n j : Nat} (h : j < n) (d : Value) : (bl f n).getD j d = .int (f j) := by simp [bl, List.getD_eq_getElem?_getD, h]
theorem i32n {n : Nat} (hn : n < 2 ^ 31) : (Int32.ofNat n).toNatClampNeg = n ∧ ¬ Int32.ofNat n < 0 := by
  have e : (Int32.ofNat n).toInt = (n : Int) := Int32.toInt_ofNat_of_lt (by omega)
  refine ⟨by rw [Int32.toNatClampNeg, e]; rfl, ?_⟩
  rw [Int32.lt_iff_toInt_lt, e, show (0 : Int32).toInt = 0 from rfl]; omega
theorem Ab.arv {a : Addr} {n : Nat} {f : Nat → Int32} (A : Ab Z h a n f) : ∃ k, Arv Z h a k .byte (Int32.ofNat n) (bl f n) (.int 0) := by
  obtain ⟨⟨cl, A, S, B, H⟩, G⟩ := A
  obtain ⟨z1, z2⟩ := i32n B
  refine ⟨cl.cls, cl, A, rfl, by rw [z1]; exact S, z2, fun j hj => ?_, fun j hj => ?_⟩
  · rw [S] at hj
    rw [bl_at f hj]; exact H j hj
  · rw [S] at hj
    rw [bl_at f hj, ← G j hj]; exact fits_nar_byte _
theorem Ai.of_arv {a : Addr} {k : ClassId} {n : Nat} {vs : List Value} {d : Value} {g : Nat → Int32} {ty : FieldType} (hn : n < 2 ^ 31) (A : Arv Z h a k ty (Int32.ofNat n) vs d) (hg : ∀ j, j < n → vs.getD j d = .int (g j)) : Ai Z h a ty n g := by
  obtain ⟨cl, A, -, S, -, H, -⟩ := A
  obtain ⟨z1, -⟩ := i32n hn
  rw [z1] at S
  exact ⟨cl, A, S, hn, fun j hj => by rw [H j (by rw [S]; exact hj), hg j hj]⟩
theorem Ab.ext {h' : Heap} {a : Addr} {n : Nat} {f : Nat → Int32} (A : Ab Z h a n f) (E : Ext h h') : Ab Z h' a n f := ⟨A.1.ext E, A.2⟩
theorem Ab.other {h' : Heap} {a b : Addr} {n sl : Nat} {f : Nat → Int32} {v : Value} (A : Ab Z h b n f) (W : Wr h h' a sl v) (q : b ≠ a) : Ab Z h' b n f := ⟨A.1.other W q, A.2⟩
theorem Ab.keep {h' : Heap} {a : Addr} {n : Nat} {f : Nat → Int32} {ws : List Addr} (A : Ab Z h a n f) (K : Keep h h' ws) (q : a ∉ ws) : Ab Z h' a n f := ⟨A.1.keep K q, A.2⟩
theorem Ab.congr {a : Addr} {n : Nat} {f g : Nat → Int32} (A : Ab Z h a n f) (q : ∀ j, j < n → f j = g j) : Ab Z h a n g := ⟨A.1.congr q, fun j hj => by rw [← q j hj]; exact A.2 j hj⟩
theorem Ab.upA {h' : Heap} {a : Addr} {n k : Nat} {f : Nat → Int32} {x : Int32} (A : Ab Z h a n f) (B : Ai Z h' a .byte n (upA f k x)) (hx : x.toInt8.toInt32 = x) : Ab Z h' a n (upA f k x) := ⟨B, fun j hj => by
  by_cases q : j = k
  · subst q; rw [upA_same]; exact hx
  · rw [upA_other q]; exact A.2 j hj⟩
theorem g_cast (K : Cx p s m meth c Z own nm bs ml rt) (X : Sd p l e R s m args below meth c n0 T cells slots) (eh : T.heap = h) {D : String} {index : Nat} (w : (Jvm.Cond.classLink own index D).before a0 Z = true) {a : Addr} (E : Exa Z h a D) (pc' : Nat) (hd : decode bs pc = .ok (.checkcast index, 3)) (hp : pc + 3 = pc')
    (hr : ∀ T', Sd p l e R s m args below meth c n0 T' cells slots → T'.heap = h → Go p e below s n0 Q C N (T'.setTop (mkF m pc' Ls (.ref a :: st)))) : Go p e below s n0 Q C N (T.setTop (mkF m pc Ls (.ref a :: st))) := by
  obtain ⟨locs, Y, hN⟩ := X
  obtain ⟨hx, hZ, hby, -, hown, -⟩ := K
  subst hp
  obtain ⟨T', X', e', k⟩ := castY Y hx hZ hown w eh (Ins.self E) (g := mkF m pc Ls (.ref a :: st)) rfl rfl (hb hby hd)
  exact Go.step k (hr T' ⟨locs, X', hN⟩ e')
theorem g_clone (K : Cx p s m meth c Z own nm bs ml rt) (X : Sd p l e R s m args below meth c n0 T cells slots) (eh : T.heap = h) (hsz : Ls.size = ml) {index : Nat} (w1 : (Jvm.Cond.methodLink own index ⟨"[B", "clone", "()Ljava/lang/Object;"⟩).before a0 Z = true) (w2 : (Jvm.Cond.sameMethod "[B" "java/lang/Object" "clone" "()Ljava/lang/Object;").before a0 Z = true) (w3 : (Jvm.Cond.native ⟨"java/lang/Object", "clone", "()Ljava/lang/Object;"⟩).before a0 Z = true) (w4 : (Jvm.Cond.instanceMethod ⟨"java/lang/Object", "clone", "()Ljava/lang/Object;"⟩).before a0 Z = true) (w5 : (Jvm.Cond.selects "[B" ⟨"[B", "clone", "()Ljava/lang/Object;"⟩ ⟨"java/lang/Object", "clone", "()Ljava/lang/Object;"⟩).before a0 Z = true) (w6 : (Jvm.Cond.castable "[B" "java/lang/Cloneable").before a0 Z = true)
    {a : Addr} {n cap : Nat} {f : Nat → Int32} (A : Ab Z h a n f) (E : Exa Z h a "[B") (hcap : n ≤ cap) (pc' : Nat) (hd : decode bs pc = .ok (.invokevirtual index, 3)) (hp : pc + 3 = pc') (hf : 1 ≤ R.frames) (W : Nat) (hW : (st.map fun v => v.category).sum ≤ W) (hl : W + 14 ≤ R.locals) (hc : cells + 1 ≤ R.cells) (hs : slots + cap ≤ R.slots)
    (hr : ∀ T' h' b, b = h.size → Sd p l e R s m args below meth c n0 T' (cells + 1) (slots + cap) → T'.heap = h' → Ext h h' → Ab Z h' b n f → Exa Z h' b "[B" → Go p e below s n0 Q C N (T'.setTop (mkF m pc' Ls (.ref b :: st)))) : Go p e below s n0 Q C N (T.setTop (mkF m pc Ls (.ref a :: st))) := by
  obtain ⟨locs, Y, hN⟩ := X
  obtain ⟨hx, hZ, hby, hml, hown, -⟩ := K
  subst hp
  have hn := A.1
  obtain ⟨-, -, -, hn, -⟩ := hn
  obtain ⟨k, V⟩ := A.arv
  obtain ⟨z1, -⟩ := i32n hn
  obtain ⟨T', h', X', e', Ex, V', E', kk⟩ := cloneH Y hx hZ hown w1 w2 w3 w4 w5 w6 eh V.arh E (g := mkF m pc Ls (.ref a :: st)) rfl (by rw [hml]; exact hsz) (rest := st) rfl (hb hby hd) hf (W := W) (cap := cap) (by show 2 * 0 + _ ≤ _; rw [Nat.mul_zero, Nat.zero_add]; exact hW) hl (by rw [z1]; exact hcap) hc hs
  have V2 : Arv Z h' h.size k .byte (Int32.ofNat n) (bl f n) (.int 0) := V'
  exact Go.step kk (hr T' h' h.size rfl ⟨locs, X', hN⟩ e' Ex ⟨Ai.of_arv hn V2 (fun j hj => bl_at f hj _), A.2⟩ E')
/-- arraycopy from the start of one array of bytes to the start of another, new one -/
theorem g_acopy (K : Cx p s m meth c Z own nm bs ml rt) (X : Sd p l e R s m args below meth c n0 T cells slots) (eh : T.heap = h) (hsz : Ls.size = ml) {index : Nat} (w1 : (Jvm.Cond.methodLink own index Jvm.Stand.acN).before a0 Z = true) (w2 : (Jvm.Cond.native Jvm.Stand.acN).before a0 Z = true) (w3 : (Jvm.Cond.static Jvm.Stand.acN).before a0 Z = true) (w4 : (Jvm.Cond.initialized "java/lang/System").before a0 Z = true)
    {a b : Addr} {n m' q : Nat} {f g : Nat → Int32} (A : Ab Z h a n f) (B : Ab Z h b m' g) (E : Exa Z h b "[B") (hq1 : q ≤ n) (hq2 : q ≤ m') (ge : n0 ≤ b) {x y z : Int32} (hx0 : x = 0) (hy0 : y = 0) (hz : z = Int32.ofNat q) (pc' : Nat) (hd : decode bs pc = .ok (.invokestatic index, 3)) (hp : pc + 3 = pc') (hf : 1 ≤ R.frames) (W : Nat) (hW : (st.map fun v => v.category).sum ≤ W) (hl : W + (nativeFrameWords "java/lang/System" "arraycopy" 5 + 11) ≤ R.locals)
    (hr : ∀ T' h', Sd p l e R s m args below meth c n0 T' cells slots → T'.heap = h' → Keep h h' [b] → Ab Z h' b m' (fun j => if j < q then f j else g j) → Go p e below s n0 Q C N (T'.setTop (mkF m pc' Ls st))) : Go p e below s n0 Q C N (T.setTop (mkF m pc Ls (.int z :: .int y :: .ref b :: .int x :: .ref a :: st))) := by
  obtain ⟨locs, Y, hN⟩ := X
  obtain ⟨hx, hZ, hby, hml, hown, -⟩ := K
  subst hp hx0 hy0 hz
  have hn := A.1
  obtain ⟨-, -, -, hn, -⟩ := hn
  have hm := B.1
  obtain ⟨-, -, -, hm, -⟩ := hm
  obtain ⟨k, V⟩ := A.arv
  obtain ⟨k', V'⟩ := B.arv
  obtain ⟨n1, -⟩ := i32n hn
  obtain ⟨m1, -⟩ := i32n hm
  obtain ⟨q1, q2⟩ := i32n (n := q) (by omega)
  have z0 : (0 : Int32).toNatClampNeg = 0 := rfl
  obtain ⟨T', h', L, X', e', F', K', V2, kk⟩ := cpA Y hx hZ hown w1 w2 w3 w4 eh (sp := 0) (dp := 0) (nn := Int32.ofNat q) (us := (List.range q).map fun i => (bl f n).getD (0 + i) (.int 0)) V V' (Or.inl ⟨rfl, rfl⟩) (by decide) (by decide) q2 (by rw [z0, q1, n1]; omega) (by rw [z0, q1, m1]; omega) (by rw [q1, z0]) (by rw [z0, q1, bl_len]; omega) hN ge (g := mkF m pc Ls (.int (Int32.ofNat q) :: .int 0 :: .ref b :: .int 0 :: .ref a :: st)) rfl (by rw [hml]; exact hsz) (rest := st) rfl (hb hby hd) hf (W := W) (by show 2 * 0 + _ ≤ _; rw [Nat.mul_zero, Nat.zero_add]; exact hW) hl
  refine Go.step kk (hr T' h' ⟨_, X', F'⟩ e' K' ⟨Ai.of_arv hm V2 (fun j hj => ?_), fun j hj => ?_⟩)
  · rw [z0, q1]
    by_cases hjq : j < q
    · simp [hjq, bl_len, List.getD_eq_getElem?_getD, bl, List.getElem?_append, show j < n by omega]
    · have : j - q + q = j := by omega
      simp [hjq, bl_len, List.getD_eq_getElem?_getD, bl, List.getElem?_append, hj, List.getElem?_drop, show q + (j - q) = j by omega]
  · show (if j < q then f j else g j).toInt8.toInt32 = (if j < q then f j else g j)
    split
    · exact A.2 j (by omega)
    · exact B.2 j hj
theorem g_retN (K : Cx p s m meth c Z own nm bs ml rt) (X : Sd p l e R s m args below meth c n0 T cells slots) (eh : T.heap = h) {t : FieldType} (hret : rt = some t) (ht : t = .boolean ∨ t = .byte ∨ t = .char ∨ t = .short) {x : Int32} (v : Int32) (hv : nar t x = v) (hd : decode bs pc = .ok (.ireturn, 1)) (hC : cells ≤ C) (hS : slots ≤ N) (hq : Q (some (.int v)) h) : Go p e below s n0 Q C N (T.setTop (mkF m pc Ls (.int x :: st))) := by
  obtain ⟨locs, Y, hN⟩ := X
  obtain ⟨hx, hZ, hby, hml, hown, -, hrt, hlk⟩ := K
  subst hv hret
  obtain ⟨fs, hr, hrun, hended, hW, hsame⟩ := Y.leave (v := some (.int (nar t x))) (fun h => by rw [hrt] at h; cases h) hlk
  exact ⟨_, _, retN Y hx hrt ht (hb hby hd) hr, hrun, hended, _, _, rfl, ⟨by rw [← eh] at hq; exact hq, hN⟩, ⟨_, rfl⟩, hW, hsame.mono hC hS⟩
theorem g_retV (K : Cx p s m meth c Z own nm bs ml rt) (X : Sd p l e R s m args below meth c n0 T cells slots) (eh : T.heap = h) {t : FieldType} (hret : rt = some t) {w : Value} {i : Instr} (hn : narrow t w = w)
    (hi : (i = .ireturn ∧ (t = .int ∨ t = .boolean ∨ t = .byte ∨ t = .char ∨ t = .short) ∧ ∃ z, w = .int z) ∨ (i = .lreturn ∧ t = .long ∧ ∃ z, w = .long z) ∨ (i = .dreturn ∧ t = .double ∧ ∃ z, w = .double z) ∨ (i = .freturn ∧ t = .float ∧ ∃ z, w = .float z) ∨ (i = .areturn ∧ t.isReference = true ∧ w.isRef = true))
    (hd : decode bs pc = .ok (i, 1)) (hC : cells ≤ C) (hS : slots ≤ N) (hq : Q (some w) h) : Go p e below s n0 Q C N (T.setTop (mkF m pc Ls (w :: st))) := by
  obtain ⟨locs, Y, hN⟩ := X
  obtain ⟨hx, hZ, hby, hml, hown, -, hrt, hlk⟩ := K
  subst hret
  obtain ⟨fs, hr, hrun, hended, hW, hsame⟩ := Y.leave (v := some w) (fun h => by rw [hrt] at h; cases h) hlk
  exact ⟨_, _, retOut Y hx hrt hn hi (hb hby hd) hr, hrun, hended, _, _, rfl, ⟨by rw [← eh] at hq; exact hq, hN⟩, ⟨_, rfl⟩, hW, hsame.mono hC hS⟩
theorem g_retI (K : Cx p s m meth c Z own nm bs ml rt) (X : Sd p l e R s m args below meth c n0 T cells slots) (eh : T.heap = h) (hret : rt = some .int) {x : Int32} (hd : decode bs pc = .ok (.ireturn, 1)) (hC : cells ≤ C) (hS : slots ≤ N) (hq : Q (some (.int x)) h) : Go p e below s n0 Q C N (T.setTop (mkF m pc Ls (.int x :: st))) :=
  g_retV K X eh hret rfl (Or.inl ⟨rfl, Or.inl rfl, _, rfl⟩) hd hC hS hq
theorem g_retJ (K : Cx p s m meth c Z own nm bs ml rt) (X : Sd p l e R s m args below meth c n0 T cells slots) (eh : T.heap = h) (hret : rt = some .long) {x : Int64} (hd : decode bs pc = .ok (.lreturn, 1)) (hC : cells ≤ C) (hS : slots ≤ N) (hq : Q (some (.long x)) h) : Go p e below s n0 Q C N (T.setTop (mkF m pc Ls (.long x :: st))) :=
  g_retV K X eh hret rfl (Or.inr (Or.inl ⟨rfl, rfl, _, rfl⟩)) hd hC hS hq
theorem g_retR (K : Cx p s m meth c Z own nm bs ml rt) (X : Sd p l e R s m args below meth c n0 T cells slots) (eh : T.heap = h) {t : FieldType} (hret : rt = some t) (ht : t.isReference = true) {a : Addr} (hn : narrow t (.ref a) = .ref a) (hd : decode bs pc = .ok (.areturn, 1)) (hC : cells ≤ C) (hS : slots ≤ N) (hq : Q (some (.ref a)) h) : Go p e below s n0 Q C N (T.setTop (mkF m pc Ls (.ref a :: st))) :=
  g_retV K X eh hret hn (Or.inr (Or.inr (Or.inr (Or.inr ⟨rfl, ht, rfl⟩)))) hd hC hS hq
theorem g_ret (K : Cx p s m meth c Z own nm bs ml rt) (X : Sd p l e R s m args below meth c n0 T cells slots) (eh : T.heap = h) (hret : rt = none) (hd : decode bs pc = .ok (.return_, 1)) (hC : cells ≤ C) (hS : slots ≤ N) (hq : Q none h) : Go p e below s n0 Q C N (T.setTop (mkF m pc Ls [])) := by
  obtain ⟨locs, Y, hN⟩ := X
  obtain ⟨hx, hZ, hby, hml, hown, -, hrt, hlk⟩ := K
  subst hret
  obtain ⟨fs, hr, hrun, hended, hW, hsame⟩ := Y.leave (v := none) (fun _ => rfl) hlk
  exact ⟨_, _, Y.returnOut hx hrt (hb hby hd) hr, hrun, hended, _, _, rfl, ⟨by rw [← eh] at hq; exact hq, hN⟩, ⟨_, rfl⟩, hW, hsame.mono hC hS⟩
end Go
end Jvm.OwnGo
namespace Jvm.Pilot.@@N@@
open Jvm Jvm.ClassFile Sem Op Lib Jvm.Free Jvm.Stand Jvm.LawKit Jvm.RoadKit Jvm.OwnGo Bundle Jvm.Pilot.@@N@@.Jvm.D
/-! a number below 256 is four digits below 4: the parents, the labels -/
def dg (n j : Nat) : Nat := n / 4 ^ j % 4
def df (n : Nat) (j : Nat) : Int32 := Int32.ofNat (dg n j)
def sd (n x y : Nat) : Nat := n + y * 4 ^ x - dg n x * 4 ^ x
/-- the root of x -/
def rt (n x : Nat) : Nat := dg n (dg n (dg n (dg n x)))
def rx (n x : Nat) : Bool := dg n (rt n x) == rt n x
/-- every road ends -/
def fo (n : Nat) : Bool := rx n 0 && rx n 1 && rx n 2 && rx n 3
def dp (n x : Nat) : Nat := if dg n x = x then 0 else if dg n (dg n x) = dg n x then 1 else if dg n (dg n (dg n x)) = dg n (dg n x) then 2 else 3
def sr (n n' : Nat) : Bool := rt n' 0 == rt n 0 && rt n' 1 == rt n 1 && rt n' 2 == rt n 2 && rt n' 3 == rt n 3
theorem u_dg (n j : Nat) : dg n j < 4 := Nat.mod_lt _ (by decide)
theorem u_rt (n x : Nat) : rt n x < 4 := u_dg _ _
def c0 (n x y : Nat) : Bool := decide (sd n x y < 256) && (dg (sd n x y) 0 == if 0 = x then y else dg n 0) && (dg (sd n x y) 1 == if 1 = x then y else dg n 1) && (dg (sd n x y) 2 == if 2 = x then y else dg n 2) && (dg (sd n x y) 3 == if 3 = x then y else dg n 3)
set_option maxRecDepth 65536 in
theorem c0_all : ∀ n : Fin 256, ∀ x y : Fin 4, c0 n.val x.val y.val = true := by decide +kernel
def c1 (n x : Nat) : Bool := !(fo n) || (dg n x == x) || (fo (sd n x (dg n (dg n x))) && sr n (sd n x (dg n (dg n x))) && decide (dp (sd n x (dg n (dg n x))) (dg n (dg n x)) < dp n x) && (rt n (dg n (dg n x)) == rt n x))
set_option maxRecDepth 65536 in
theorem c1_all : ∀ n : Fin 256, ∀ x : Fin 4, c1 n.val x.val = true := by decide +kernel
def lk (n x y z : Nat) : Bool := rt (sd n x y) z == if rt n z = x then y else rt n z
def c2 (n x y : Nat) : Bool := !(fo n && dg n x == x && dg n y == y && x != y) || (fo (sd n x y) && lk n x y 0 && lk n x y 1 && lk n x y 2 && lk n x y 3)
set_option maxRecDepth 65536 in
theorem c2_all : ∀ n : Fin 256, ∀ x y : Fin 4, c2 n.val x.val y.val = true := by decide +kernel
theorem u_four {P : Nat → Prop} (h0 : P 0) (h1 : P 1) (h2 : P 2) (h3 : P 3) : ∀ z, z < 4 → P z := fun z hz => by
  match z, hz with
  | 0, _ => exact h0
  | 1, _ => exact h1
  | 2, _ => exact h2
  | 3, _ => exact h3
theorem u_sd {n x y : Nat} (hn : n < 256) (hx : x < 4) (hy : y < 4) : sd n x y < 256 ∧ ∀ j, j < 4 → dg (sd n x y) j = if j = x then y else dg n j := by
  have h := c0_all ⟨n, hn⟩ ⟨x, hx⟩ ⟨y, hy⟩
  simp only [c0, Bool.and_eq_true, beq_iff_eq, decide_eq_true_eq] at h
  obtain ⟨⟨⟨⟨h0, h1⟩, h2⟩, h3⟩, h4⟩ := h
  exact ⟨h0, u_four h1 h2 h3 h4⟩
theorem u_sr {n n' : Nat} (h : sr n n' = true) : ∀ z, z < 4 → rt n' z = rt n z := by
  simp only [sr, Bool.and_eq_true, beq_iff_eq] at h
  exact u_four h.1.1.1 h.1.1.2 h.1.2 h.2
theorem u_fo {n : Nat} (h : fo n = true) : ∀ z, z < 4 → dg n (rt n z) = rt n z := by
  simp only [fo, rx, Bool.and_eq_true, beq_iff_eq] at h
  exact u_four h.1.1.1 h.1.1.2 h.1.2 h.2
theorem u_half {n x : Nat} (hn : n < 256) (hx : x < 4) (hf : fo n = true) (hq : dg n x ≠ x) : fo (sd n x (dg n (dg n x))) = true ∧ (∀ z, z < 4 → rt (sd n x (dg n (dg n x))) z = rt n z) ∧ dp (sd n x (dg n (dg n x))) (dg n (dg n x)) < dp n x ∧ rt n (dg n (dg n x)) = rt n x := by
  have h := c1_all ⟨n, hn⟩ ⟨x, hx⟩
  simp only [c1, Bool.or_eq_true, Bool.not_eq_true', Bool.and_eq_true, beq_iff_eq, decide_eq_true_eq] at h
  rcases h with (h | h) | ⟨⟨⟨h1, h2⟩, h3⟩, h4⟩
  · rw [hf] at h; cases h
  · exact absurd h hq
  · exact ⟨h1, u_sr h2, h3, h4⟩
theorem u_root {n x : Nat} (hq : dg n x = x) : rt n x = x := by simp [rt, hq]
theorem u_rr {n z : Nat} (hf : fo n = true) (hz : z < 4) : rt n (rt n z) = rt n z := u_root (u_fo hf z hz)
theorem u_link {n x y : Nat} (hn : n < 256) (hx : x < 4) (hy : y < 4) (hf : fo n = true) (h1 : dg n x = x) (h2 : dg n y = y) (hne : x ≠ y) : fo (sd n x y) = true ∧ ∀ z, z < 4 → rt (sd n x y) z = if rt n z = x then y else rt n z := by
  have h := c2_all ⟨n, hn⟩ ⟨x, hx⟩ ⟨y, hy⟩
  simp only [c2, lk, Bool.or_eq_true, Bool.not_eq_true', Bool.and_eq_true, beq_iff_eq, Bool.and_eq_false_iff, bne_iff_ne, ne_eq, bne_eq_false_iff_eq, beq_eq_false_iff_ne] at h
  rcases h with ((((h | h) | h) | h)) | ⟨⟨⟨⟨g0, g1⟩, g2⟩, g3⟩, g4⟩
  · rw [hf] at h; cases h
  · exact absurd h1 h
  · exact absurd h2 h
  · exact absurd h hne
  · exact ⟨g0, u_four g1 g2 g3 g4⟩
/-- the classes behind a union of a's and b's -/
def UN (n n' a b : Nat) : Prop := ∀ z w, z < 4 → w < 4 → (rt n' z = rt n' w ↔ (rt n z = rt n w ∨ ((rt n z = rt n a ∨ rt n z = rt n b) ∧ (rt n w = rt n a ∨ rt n w = rt n b))))
def SR (n n' : Nat) : Prop := ∀ z, z < 4 → rt n' z = rt n z
def LC (n m : Nat) : Prop := ∀ z w, z < 4 → w < 4 → (dg m z = dg m w ↔ rt n z = rt n w)
theorem own_i0 {k : Nat} (hk : k < 4) : (Int32.ofNat k).toInt = (k : Int) := Int32.toInt_ofNat_of_lt (by omega)
theorem own_inj {i j : Nat} (hi : i < 4) (hj : j < 4) (h : Int32.ofNat i = Int32.ofNat j) : i = j := by
  have := congrArg Int32.toInt h
  rw [own_i0 hi, own_i0 hj] at this
  omega
theorem own_and3 (x : Int32) : ∃ k : Nat, k < 4 ∧ x &&& 3 = Int32.ofNat k := by
  refine ⟨(x &&& 3).toBitVec.toNat, ?_, ?_⟩
  · simp only [Int32.toBitVec_and, BitVec.toNat_and]
    exact Nat.lt_succ_of_le Nat.and_le_right
  · apply Int32.toBitVec_inj.mp
    show _ = BitVec.ofNat 32 _
    rw [BitVec.ofNat_toNat]; simp
def UFs (Z : State) (h : Heap) (u pa ra : Addr) (n : Nat) : Prop := Exa Z h u "com/example/rowan/rowan/check/UnionFind" ∧ Fld Z h u "com/example/rowan/rowan/check/UnionFind" "parents" "[I" (.ref pa) ∧ Fld Z h u "com/example/rowan/rowan/check/UnionFind" "ranks" "[B" (.ref ra) ∧ Ai Z h pa .int 4 (df n) ∧ (∃ g, Ai Z h ra .byte 4 g) ∧ u ≠ pa ∧ u ≠ ra ∧ pa ≠ ra
section UFfacts
variable {Z : State} {h h' : Heap} {u pa ra : Addr} {n k y : Nat} {v : Value} {g : Nat → Int32} {ws : List Addr}
theorem ai_sd {a : Addr} (hn : n < 256) (hk : k < 4) (hy : y < 4) (A : Ai Z h a .int 4 (upA (df n) k (Int32.ofNat y))) : Ai Z h a .int 4 (df (sd n k y)) := A.congr fun j hj => by
  rw [df, (u_sd hn hk hy).2 j hj, upA]
  split <;> rfl
theorem UFs.setP (U : UFs Z h u pa ra n) (hn : n < 256) (hk : k < 4) (hy : y < 4) (W : Wr h h' pa k (.int (Int32.ofNat y))) (A : Ai Z h' pa .int 4 (upA (df n) k (Int32.ofNat y))) : UFs Z h' u pa ra (sd n k y) := by
  obtain ⟨E, F1, F2, -, ⟨g, G⟩, n1, n2, n3⟩ := U
  exact ⟨E.wr W, F1.other W (Or.inl n1), F2.other W (Or.inl n1), ai_sd hn hk hy A, ⟨g, G.other W (fun q => n3 q.symm)⟩, n1, n2, n3⟩
theorem UFs.setR (U : UFs Z h u pa ra n) (W : Wr h h' ra k v) (G : Ai Z h' ra .byte 4 g) : UFs Z h' u pa ra n := by
  obtain ⟨E, F1, F2, A, -, n1, n2, n3⟩ := U
  exact ⟨E.wr W, F1.other W (Or.inl n2), F2.other W (Or.inl n2), A.other W n3, ⟨g, G⟩, n1, n2, n3⟩
theorem UFs.keep (U : UFs Z h u pa ra n) (Kp : Keep h h' ws) (q1 : u ∉ ws) (q2 : pa ∉ ws) (q3 : ra ∉ ws) : UFs Z h' u pa ra n := by
  obtain ⟨E, F1, F2, A, ⟨g, G⟩, n1, n2, n3⟩ := U
  exact ⟨E.keep Kp, F1.keep Kp q1, F2.keep Kp q1, A.keep Kp q2, ⟨g, G.keep Kp q3⟩, n1, n2, n3⟩
theorem UFs.ext (U : UFs Z h u pa ra n) (E' : Ext h h') : UFs Z h' u pa ra n := by
  obtain ⟨E, F1, F2, A, ⟨g, G⟩, n1, n2, n3⟩ := U
  exact ⟨E.ext E', F1.ext E', F2.ext E', A.ext E', ⟨g, G.ext E'⟩, n1, n2, n3⟩
theorem UFs.other {a : Addr} (U : UFs Z h u pa ra n) (W : Wr h h' a k v) (q1 : u ≠ a) (q2 : pa ≠ a) (q3 : ra ≠ a) : UFs Z h' u pa ra n := by
  obtain ⟨E, F1, F2, A, ⟨g, G⟩, n1, n2, n3⟩ := U
  exact ⟨E.wr W, F1.other W (Or.inl q1), F2.other W (Or.inl q1), A.other W q2, ⟨g, G.other W q3⟩, n1, n2, n3⟩
end UFfacts
def RL (m fr t j mc : Nat) : Prop := mc < 256 ∧ ∀ i, i < 4 → dg mc i = if i < j ∧ dg m i = fr then t else dg m i
theorem rl_0 {m fr t : Nat} (hm : m < 256) : RL m fr t 0 m := ⟨hm, fun i _ => by simp⟩
theorem rl_hit {m fr t j mc : Nat} (r : RL m fr t j mc) (hj : j < 4) (ht : t < 4) (hq : dg mc j = fr) : RL m fr t (j + 1) (sd mc j t) := by
  obtain ⟨h1, h2⟩ := u_sd r.1 hj ht
  refine ⟨h1, fun i hi => ?_⟩
  have ej := r.2 j hj
  rw [if_neg (fun q => absurd q.1 (Nat.lt_irrefl _))] at ej
  rw [h2 i hi]
  by_cases q : i = j
  · subst q
    rw [if_pos rfl, if_pos ⟨Nat.lt_succ_self _, by omega⟩]
  · rw [if_neg q, r.2 i hi]
    by_cases q2 : i < j ∧ dg m i = fr
    · rw [if_pos q2, if_pos ⟨by omega, q2.2⟩]
    · rw [if_neg q2, if_neg (fun q3 => q2 ⟨by omega, q3.2⟩)]
theorem rl_miss {m fr t j mc : Nat} (r : RL m fr t j mc) (hj : j < 4) (hq : ¬ dg mc j = fr) : RL m fr t (j + 1) mc := by
  refine ⟨r.1, fun i hi => ?_⟩
  have ej := r.2 j hj
  rw [if_neg (fun q => absurd q.1 (Nat.lt_irrefl _))] at ej
  rw [r.2 i hi]
  by_cases q2 : i < j ∧ dg m i = fr
  · rw [if_pos q2, if_pos ⟨by omega, q2.2⟩]
  · rw [if_neg q2]
    by_cases q3 : i < j + 1 ∧ dg m i = fr
    · exfalso
      have : i = j := by
        by_cases q4 : i < j
        · exact absurd ⟨q4, q3.2⟩ q2
        · omega
      subst this
      exact hq (by omega)
    · rw [if_neg q3]
theorem rl_4 {m fr t mc : Nat} (r : RL m fr t 4 mc) : ∀ i, i < 4 → dg mc i = if dg m i = fr then t else dg m i := fun i hi => by
  rw [r.2 i hi]
  by_cases q : dg m i = fr
  · rw [if_pos ⟨hi, q⟩, if_pos q]
  · rw [if_neg (fun z => q z.2), if_neg q]
theorem lc_next {n n' m m' a b : Nat} (ha : a < 4) (hb : b < 4) (L : LC n m) (hU : UN n n' a b) (hm : ∀ i, i < 4 → dg m' i = if dg m i = dg m b then dg m a else dg m i) : LC n' m' := fun z w hz hw => by
  have e := hU z w hz hw
  have l1 := L z w hz hw
  have l2 := L z a hz ha
  have l3 := L z b hz hb
  have l4 := L w a hw ha
  have l5 := L w b hw hb
  rw [hm z hz, hm w hw, e]
  clear e hm hU L
  split <;> split <;> omega
theorem lc_same {n n' m a b : Nat} (ha : a < 4) (hb : b < 4) (L : LC n m) (hU : UN n n' a b) (hq : dg m a = dg m b) : LC n' m := fun z w hz hw => by
  have e := hU z w hz hw
  have l0 := L a b ha hb
  have l1 := L z w hz hw
  rw [e]
  clear e hU L
  omega
theorem lc_start : LC 228 228 := fun z w hz hw => by
  have h : ∀ z w : Fin 4, (dg 228 z.val = dg 228 w.val ↔ rt 228 z.val = rt 228 w.val) := by decide +kernel
  exact h ⟨z, hz⟩ ⟨w, hw⟩
def rf (n : Nat) (j : Nat) : Int32 := Int32.ofNat (rt n j)
theorem pd_0 : parseMethodDescriptor "(I)I" = some ⟨[.int], some .int⟩ := by decide +kernel
theorem pd_1 : parseMethodDescriptor "(II)Z" = some ⟨[.int, .int], some .boolean⟩ := by decide +kernel
theorem pd_2 : parseMethodDescriptor "([III)V" = some ⟨[(.array .int), .int, .int], none⟩ := by decide +kernel
theorem pd_3 : parseMethodDescriptor "(I)V" = some ⟨[.int], none⟩ := by decide +kernel
theorem pd_4 : parseMethodDescriptor "(Lcom/example/rowan/rowan/check/UnionFind;[III)Z" = some ⟨[(.object "com/example/rowan/rowan/check/UnionFind"), (.array .int), .int, .int], some .boolean⟩ := by decide +kernel
theorem pd_5 : parseMethodDescriptor "([I[II)Z" = some ⟨[(.array .int), (.array .int), .int], some .boolean⟩ := by decide +kernel
theorem pd_6 : parseMethodDescriptor "([I[III)Z" = some ⟨[(.array .int), (.array .int), .int, .int], some .boolean⟩ := by decide +kernel
theorem own_nn {k : Nat} (hk : k < 4) : ¬ Int32.ofNat k < 0 := by
  rw [Int32.lt_iff_toInt_lt, own_i0 hk, show (0 : Int32).toInt = 0 from rfl]; omega
theorem own_l3 {k : Nat} (hk : k < 4) : ¬ (3 : Int32) < Int32.ofNat k := by
  rw [Int32.lt_iff_toInt_lt, own_i0 hk, show (3 : Int32).toInt = 3 from rfl]; omega
theorem own_rot : ∀ k : Fin 4, ((Int32.ofNat k.val + 1) &&& 3 = Int32.ofNat ((k.val + 1) % 4)) ∧ ((Int32.ofNat k.val + 2) &&& 3 = Int32.ofNat ((k.val + 2) % 4)) ∧ ((Int32.ofNat k.val + 3) &&& 3 = Int32.ofNat ((k.val + 3) % 4)) := by decide +kernel
theorem own_rotf (g : Nat → Int32) {k : Nat} (hk : k < 4) : ∀ j, j < 4 → upA (upA (upA (upA (fun _ => 0) k (g k)) ((k + 1) % 4) (g ((k + 1) % 4))) ((k + 2) % 4) (g ((k + 2) % 4))) ((k + 3) % 4) (g ((k + 3) % 4)) j = g j := by
  match k, hk with
  | 0, _ => exact u_four rfl rfl rfl rfl
  | 1, _ => exact u_four rfl rfl rfl rfl
  | 2, _ => exact u_four rfl rfl rfl rfl
  | 3, _ => exact u_four rfl rfl rfl rfl
theorem own_rot1 {k : Nat} (hk : k < 4) : (Int32.ofNat k + 1) &&& 3 = Int32.ofNat ((k + 1) % 4) := (own_rot ⟨k, hk⟩).1
theorem own_rot2 {k : Nat} (hk : k < 4) : (Int32.ofNat k + 2) &&& 3 = Int32.ofNat ((k + 2) % 4) := (own_rot ⟨k, hk⟩).2.1
theorem own_rot3 {k : Nat} (hk : k < 4) : (Int32.ofNat k + 3) &&& 3 = Int32.ofNat ((k + 3) % 4) := (own_rot ⟨k, hk⟩).2.2
theorem d5_0 : decode prog_6_method_2_code 0 = .ok (.iload_n 1, 1) := by decide +kernel
theorem d5_1 : decode prog_6_method_2_code 1 = .ok (.istore_n 2, 1) := by decide +kernel
theorem d5_2 : decode prog_6_method_2_code 2 = .ok (.aload_n 0, 1) := by decide +kernel
theorem d5_3 : decode prog_6_method_2_code 3 = .ok (.getfield 7, 3) := by decide +kernel
theorem d5_6 : decode prog_6_method_2_code 6 = .ok (.iload_n 2, 1) := by decide +kernel
theorem d5_7 : decode prog_6_method_2_code 7 = .ok (.iaload, 1) := by decide +kernel
theorem d5_8 : decode prog_6_method_2_code 8 = .ok (.iload_n 2, 1) := by decide +kernel
theorem d5_9 : decode prog_6_method_2_code 9 = .ok (.if_icmp .eq 30, 3) := by decide +kernel
theorem d5_12 : decode prog_6_method_2_code 12 = .ok (.aload_n 0, 1) := by decide +kernel
theorem d5_13 : decode prog_6_method_2_code 13 = .ok (.getfield 7, 3) := by decide +kernel
theorem d5_16 : decode prog_6_method_2_code 16 = .ok (.iload_n 2, 1) := by decide +kernel
theorem d5_17 : decode prog_6_method_2_code 17 = .ok (.aload_n 0, 1) := by decide +kernel
theorem d5_18 : decode prog_6_method_2_code 18 = .ok (.getfield 7, 3) := by decide +kernel
theorem d5_21 : decode prog_6_method_2_code 21 = .ok (.aload_n 0, 1) := by decide +kernel
theorem d5_22 : decode prog_6_method_2_code 22 = .ok (.getfield 7, 3) := by decide +kernel
theorem d5_25 : decode prog_6_method_2_code 25 = .ok (.iload_n 2, 1) := by decide +kernel
theorem d5_26 : decode prog_6_method_2_code 26 = .ok (.iaload, 1) := by decide +kernel
theorem d5_27 : decode prog_6_method_2_code 27 = .ok (.iaload, 1) := by decide +kernel
theorem d5_28 : decode prog_6_method_2_code 28 = .ok (.iastore, 1) := by decide +kernel
theorem d5_29 : decode prog_6_method_2_code 29 = .ok (.aload_n 0, 1) := by decide +kernel
theorem d5_30 : decode prog_6_method_2_code 30 = .ok (.getfield 7, 3) := by decide +kernel
theorem d5_33 : decode prog_6_method_2_code 33 = .ok (.iload_n 2, 1) := by decide +kernel
theorem d5_34 : decode prog_6_method_2_code 34 = .ok (.iaload, 1) := by decide +kernel
theorem d5_35 : decode prog_6_method_2_code 35 = .ok (.istore_n 2, 1) := by decide +kernel
theorem d5_36 : decode prog_6_method_2_code 36 = .ok (.goto (-34), 3) := by decide +kernel
theorem d5_39 : decode prog_6_method_2_code 39 = .ok (.iload_n 2, 1) := by decide +kernel
theorem d5_40 : decode prog_6_method_2_code 40 = .ok (.ireturn, 1) := by decide +kernel
def rmF : Room := { frames := 0, cells := 0, slots := 0, locals := 0 }
def Qfind (Z : State) (u pa ra : Addr) (n x : Nat) (h0 : Heap) : Option Value → Heap → Prop := fun v h' => v = some (.int (Int32.ofNat (rt n x))) ∧ ∃ n', n' < 256 ∧ fo n' = true ∧ SR n n' ∧ UFs Z h' u pa ra n' ∧ Keep h0 h' [pa]
set_option maxRecDepth 65536 in
set_option maxHeartbeats 40000000 in
theorem met_find (l : Launch) (Z : State) (a0 : Array Value) (hw : ∀ d ∈ tables_1, d.before a0 Z = true) (u pa ra : Addr) (n x : Nat) (hn : n < 256) (hx : x < 4) (hf : fo n = true) (h0 : Heap) (n0 : Nat) (U : UFs Z h0 u pa ra n) (ge : n0 ≤ pa) :
    Met l Z (⟨"com/example/rowan/rowan/check/UnionFind", "find", "(I)I"⟩ : MethodName) prog_6_method_2_code 3 (some .int) [] rmF #[.ref u, .int (Int32.ofNat x)] h0 n0 (Qfind Z u pa ra n x h0) := by
  refine Met.of (plainFor_of_name (by first | (simp [plainName, overriddenIn]; done) | decide +kernel)) #[.val (.ref u), .val (.int (Int32.ofNat x)), .unset] (fun m => by first | (simp [entryFrame, mkF, argsToLocals, Value.category]; done) | rfl) ?_
  intro p e s m below meth c T K X eh
  have loop : ∀ d n1 cur T h, dp n1 cur < d → n1 < 256 → cur < 4 → fo n1 = true → SR n n1 → rt n1 cur = rt n x → UFs Z h u pa ra n1 → Keep h0 h [pa] → Sd p l e rmF s m #[.ref u, .int (Int32.ofNat x)] below meth c n0 T 0 0 → T.heap = h → Go p e below s n0 (Qfind Z u pa ra n x h0) rmF.cells rmF.slots (T.setTop (mkF m 2 #[.val (.ref u), .val (.int (Int32.ofNat x)), .val (.int (Int32.ofNat cur))] [])) := by
    intro d
    induction d with
    | zero => intro n1 cur T h hd; exact absurd hd (Nat.not_lt_zero _)
    | succ d ih =>
      intro n1 cur T h hd hn1 hcur hf1 hsr hrt U Kp X eh
      refine g_aloadN K X 3 d5_2 rfl rfl rfl ?_
      refine g_getF K X eh (hw _ (List.mem_of_getElem? (i := 10) rfl)) U.2.1 6 d5_3 rfl fun T X eh => ?_
      refine g_iloadN K X 7 d5_6 rfl rfl ?_
      refine g_iaload K X eh U.2.2.2.1 cur (own_i0 hcur) hcur (Int32.ofNat (dg n1 cur)) rfl 8 d5_7 rfl ?_
      refine g_iloadN K X 9 d5_8 rfl rfl ?_
      by_cases hq : dg n1 cur = cur
      · refine g_icmpT K X 39 d5_9 rfl (show (Int32.ofNat (dg n1 cur)) = (Int32.ofNat cur) from (by rw [hq])) ?_
        refine g_iloadN K X 40 d5_39 rfl rfl ?_
        exact g_retI K X eh rfl d5_40 (by decide) (by decide) ⟨by rw [← hrt, u_root hq], n1, hn1, hf1, hsr, U, Kp⟩
      · refine g_icmpF K X 12 d5_9 rfl (show ¬ ((Int32.ofNat (dg n1 cur)) = (Int32.ofNat cur)) from (fun q => hq (own_inj (u_dg _ _) hcur q))) ?_
        refine g_aloadN K X 13 d5_12 rfl rfl rfl ?_
        refine g_getF K X eh (hw _ (List.mem_of_getElem? (i := 10) rfl)) U.2.1 16 d5_13 rfl fun T X eh => ?_
        refine g_iloadN K X 17 d5_16 rfl rfl ?_
        refine g_aloadN K X 18 d5_17 rfl rfl rfl ?_
        refine g_getF K X eh (hw _ (List.mem_of_getElem? (i := 10) rfl)) U.2.1 21 d5_18 rfl fun T X eh => ?_
        refine g_aloadN K X 22 d5_21 rfl rfl rfl ?_
        refine g_getF K X eh (hw _ (List.mem_of_getElem? (i := 10) rfl)) U.2.1 25 d5_22 rfl fun T X eh => ?_
        refine g_iloadN K X 26 d5_25 rfl rfl ?_
        refine g_iaload K X eh U.2.2.2.1 cur (own_i0 hcur) hcur (Int32.ofNat (dg n1 cur)) rfl 27 d5_26 rfl ?_
        refine g_iaload K X eh U.2.2.2.1 (dg n1 cur) (own_i0 (u_dg _ _)) (u_dg _ _) (Int32.ofNat (dg n1 (dg n1 cur))) rfl 28 d5_27 rfl ?_
        refine g_iastore K X eh U.2.2.2.1 cur (own_i0 hcur) hcur (Int32.ofNat (dg n1 (dg n1 cur))) rfl ge 29 d5_28 rfl fun T h1 X eh W A => ?_
        obtain ⟨f1, f2, f3, f4⟩ := u_half hn1 hcur hf1 hq
        have U1 := U.setP hn1 hcur (u_dg _ _) W A
        obtain ⟨s1, s2⟩ := u_sd hn1 hcur (u_dg n1 (dg n1 cur))
        refine g_aloadN K X 30 d5_29 rfl rfl rfl ?_
        refine g_getF K X eh (hw _ (List.mem_of_getElem? (i := 10) rfl)) U1.2.1 33 d5_30 rfl fun T X eh => ?_
        refine g_iloadN K X 34 d5_33 rfl rfl ?_
        refine g_iaload K X eh U1.2.2.2.1 cur (own_i0 hcur) hcur (Int32.ofNat (dg n1 (dg n1 cur))) (by rw [df, s2 cur hcur, if_pos rfl]) 35 d5_34 rfl ?_
        refine g_istoreN K X 36 #[.val (.ref u), .val (.int (Int32.ofNat x)), .val (.int (Int32.ofNat (dg n1 (dg n1 cur))))] d5_35 rfl rfl ?_
        refine g_goto K X 2 d5_36 rfl ?_
        exact ih _ _ T h1 (Nat.lt_of_lt_of_le f3 (Nat.le_of_lt_succ hd)) s1 (u_dg _ _) f1 (fun z hz => (f2 z hz).trans (hsr z hz)) ((f2 _ (u_dg _ _)).trans (f4.trans hrt)) U1 (Kp.wr W (Or.inl (List.mem_singleton.mpr rfl))) X eh
  refine g_iloadN K X 1 d5_0 rfl rfl ?_
  refine g_istoreN K X 2 #[.val (.ref u), .val (.int (Int32.ofNat x)), .val (.int (Int32.ofNat x))] d5_1 rfl rfl ?_
  exact loop _ n x T h0 (Nat.lt_succ_self _) hn hx hf (fun _ _ => rfl) rfl U (Keep.refl _ _) X eh
theorem d4_0 : decode prog_6_method_3_code 0 = .ok (.aload_n 0, 1) := by decide +kernel
theorem d4_1 : decode prog_6_method_3_code 1 = .ok (.iload_n 1, 1) := by decide +kernel
theorem d4_2 : decode prog_6_method_3_code 2 = .ok (.invokevirtual 17, 3) := by decide +kernel
theorem d4_5 : decode prog_6_method_3_code 5 = .ok (.istore_n 3, 1) := by decide +kernel
theorem d4_6 : decode prog_6_method_3_code 6 = .ok (.aload_n 0, 1) := by decide +kernel
theorem d4_7 : decode prog_6_method_3_code 7 = .ok (.iload_n 2, 1) := by decide +kernel
theorem d4_8 : decode prog_6_method_3_code 8 = .ok (.invokevirtual 17, 3) := by decide +kernel
theorem d4_11 : decode prog_6_method_3_code 11 = .ok (.istore 4, 2) := by decide +kernel
theorem d4_13 : decode prog_6_method_3_code 13 = .ok (.iload_n 3, 1) := by decide +kernel
theorem d4_14 : decode prog_6_method_3_code 14 = .ok (.iload 4, 2) := by decide +kernel
theorem d4_16 : decode prog_6_method_3_code 16 = .ok (.if_icmp .ne 5, 3) := by decide +kernel
theorem d4_19 : decode prog_6_method_3_code 19 = .ok (.iconst 0, 1) := by decide +kernel
theorem d4_20 : decode prog_6_method_3_code 20 = .ok (.ireturn, 1) := by decide +kernel
theorem d4_21 : decode prog_6_method_3_code 21 = .ok (.aload_n 0, 1) := by decide +kernel
theorem d4_22 : decode prog_6_method_3_code 22 = .ok (.getfield 13, 3) := by decide +kernel
theorem d4_25 : decode prog_6_method_3_code 25 = .ok (.iload_n 3, 1) := by decide +kernel
theorem d4_26 : decode prog_6_method_3_code 26 = .ok (.baload, 1) := by decide +kernel
theorem d4_27 : decode prog_6_method_3_code 27 = .ok (.aload_n 0, 1) := by decide +kernel
theorem d4_28 : decode prog_6_method_3_code 28 = .ok (.getfield 13, 3) := by decide +kernel
theorem d4_31 : decode prog_6_method_3_code 31 = .ok (.iload 4, 2) := by decide +kernel
theorem d4_33 : decode prog_6_method_3_code 33 = .ok (.baload, 1) := by decide +kernel
theorem d4_34 : decode prog_6_method_3_code 34 = .ok (.if_icmp .ge 14, 3) := by decide +kernel
theorem d4_37 : decode prog_6_method_3_code 37 = .ok (.aload_n 0, 1) := by decide +kernel
theorem d4_38 : decode prog_6_method_3_code 38 = .ok (.getfield 7, 3) := by decide +kernel
theorem d4_41 : decode prog_6_method_3_code 41 = .ok (.iload_n 3, 1) := by decide +kernel
theorem d4_42 : decode prog_6_method_3_code 42 = .ok (.iload 4, 2) := by decide +kernel
theorem d4_44 : decode prog_6_method_3_code 44 = .ok (.iastore, 1) := by decide +kernel
theorem d4_45 : decode prog_6_method_3_code 45 = .ok (.goto 49, 3) := by decide +kernel
theorem d4_48 : decode prog_6_method_3_code 48 = .ok (.aload_n 0, 1) := by decide +kernel
theorem d4_49 : decode prog_6_method_3_code 49 = .ok (.getfield 13, 3) := by decide +kernel
theorem d4_52 : decode prog_6_method_3_code 52 = .ok (.iload_n 3, 1) := by decide +kernel
theorem d4_53 : decode prog_6_method_3_code 53 = .ok (.baload, 1) := by decide +kernel
theorem d4_54 : decode prog_6_method_3_code 54 = .ok (.aload_n 0, 1) := by decide +kernel
theorem d4_55 : decode prog_6_method_3_code 55 = .ok (.getfield 13, 3) := by decide +kernel
theorem d4_58 : decode prog_6_method_3_code 58 = .ok (.iload 4, 2) := by decide +kernel
theorem d4_60 : decode prog_6_method_3_code 60 = .ok (.baload, 1) := by decide +kernel
theorem d4_61 : decode prog_6_method_3_code 61 = .ok (.if_icmp .le 14, 3) := by decide +kernel
theorem d4_64 : decode prog_6_method_3_code 64 = .ok (.aload_n 0, 1) := by decide +kernel
theorem d4_65 : decode prog_6_method_3_code 65 = .ok (.getfield 7, 3) := by decide +kernel
theorem d4_68 : decode prog_6_method_3_code 68 = .ok (.iload 4, 2) := by decide +kernel
theorem d4_70 : decode prog_6_method_3_code 70 = .ok (.iload_n 3, 1) := by decide +kernel
theorem d4_71 : decode prog_6_method_3_code 71 = .ok (.iastore, 1) := by decide +kernel
theorem d4_72 : decode prog_6_method_3_code 72 = .ok (.goto 22, 3) := by decide +kernel
theorem d4_75 : decode prog_6_method_3_code 75 = .ok (.aload_n 0, 1) := by decide +kernel
theorem d4_76 : decode prog_6_method_3_code 76 = .ok (.getfield 7, 3) := by decide +kernel
theorem d4_79 : decode prog_6_method_3_code 79 = .ok (.iload 4, 2) := by decide +kernel
theorem d4_81 : decode prog_6_method_3_code 81 = .ok (.iload_n 3, 1) := by decide +kernel
theorem d4_82 : decode prog_6_method_3_code 82 = .ok (.iastore, 1) := by decide +kernel
theorem d4_83 : decode prog_6_method_3_code 83 = .ok (.aload_n 0, 1) := by decide +kernel
theorem d4_84 : decode prog_6_method_3_code 84 = .ok (.getfield 13, 3) := by decide +kernel
theorem d4_87 : decode prog_6_method_3_code 87 = .ok (.iload_n 3, 1) := by decide +kernel
theorem d4_88 : decode prog_6_method_3_code 88 = .ok (.dup2, 1) := by decide +kernel
theorem d4_89 : decode prog_6_method_3_code 89 = .ok (.baload, 1) := by decide +kernel
theorem d4_90 : decode prog_6_method_3_code 90 = .ok (.iconst 1, 1) := by decide +kernel
theorem d4_91 : decode prog_6_method_3_code 91 = .ok (.iadd, 1) := by decide +kernel
theorem d4_92 : decode prog_6_method_3_code 92 = .ok (.i2b, 1) := by decide +kernel
theorem d4_93 : decode prog_6_method_3_code 93 = .ok (.bastore, 1) := by decide +kernel
theorem d4_94 : decode prog_6_method_3_code 94 = .ok (.iconst 1, 1) := by decide +kernel
theorem d4_95 : decode prog_6_method_3_code 95 = .ok (.ireturn, 1) := by decide +kernel
def rmU : Room := { frames := 1, cells := 0, slots := 0, locals := 14 }
def Qun (Z : State) (u pa ra : Addr) (n a b : Nat) (h0 : Heap) : Option Value → Heap → Prop := fun v h' => v = some (.int (if rt n a = rt n b then 0 else 1)) ∧ ∃ n', n' < 256 ∧ fo n' = true ∧ UN n n' a b ∧ UFs Z h' u pa ra n' ∧ Keep h0 h' [pa, ra]
theorem u_un1 {n n1 n2 a b : Nat} (ha : a < 4) (hb : b < 4) (h1 : SR n n1) (h2 : SR n1 n2) (hq : rt n a = rt n b) : UN n n2 a b := fun z w hz hw => by
  rw [h2 z hz, h2 w hw, h1 z hz, h1 w hw]
  omega
theorem u_un2 {n n1 n2 n3 a b x y : Nat} (hz : ∀ z, z < 4 → rt n2 z = rt n z) (hx : (x = rt n a ∧ y = rt n b) ∨ (x = rt n b ∧ y = rt n a)) (h3 : ∀ z, z < 4 → rt n3 z = if rt n2 z = x then y else rt n2 z) : UN n n3 a b := fun z w h1 h2 => by
  rw [h3 z h1, h3 w h2, hz z h1, hz w h2]
  split <;> split <;> omega
set_option maxRecDepth 65536 in
set_option maxHeartbeats 40000000 in
theorem met_unite (l : Launch) (Z : State) (a0 : Array Value) (hw : ∀ d ∈ tables_1, d.before a0 Z = true) (u pa ra : Addr) (n a b : Nat) (hn : n < 256) (ha : a < 4) (hb : b < 4) (hf : fo n = true) (h0 : Heap) (n0 : Nat) (U : UFs Z h0 u pa ra n) (ge : n0 ≤ pa) (gr : n0 ≤ ra) :
    Met l Z (⟨"com/example/rowan/rowan/check/UnionFind", "unite", "(II)Z"⟩ : MethodName) prog_6_method_3_code 5 (some .boolean) [] rmU #[.ref u, .int (Int32.ofNat a), .int (Int32.ofNat b)] h0 n0 (Qun Z u pa ra n a b h0) := by
  refine Met.of (plainFor_of_name (by first | (simp [plainName, overriddenIn]; done) | decide +kernel)) #[.val (.ref u), .val (.int (Int32.ofNat a)), .val (.int (Int32.ofNat b)), .unset, .unset] (fun m => by first | (simp [entryFrame, mkF, argsToLocals, Value.category]; done) | rfl) ?_
  intro p e s m below meth c T K X eh
  refine g_aloadN K X 1 d4_0 rfl rfl rfl ?_
  refine g_iloadN K X 2 d4_1 rfl rfl ?_
  refine g_virtual K X eh rfl (met_find l Z a0 hw u pa ra n a hn ha hf h0 n0 U ge) (hw _ (List.mem_of_getElem? (i := 24) rfl)) (hw _ (List.mem_of_getElem? (i := 25) rfl)) (hw _ (List.mem_of_getElem? (i := 27) rfl)) (hw _ (List.mem_of_getElem? (i := 26) rfl)) (hw _ (List.mem_of_getElem? (i := 28) rfl)) (hw _ (List.mem_of_getElem? (i := 2) rfl)) (by decide) U.1 [.int (Int32.ofNat a)] rfl rfl (lenOf pd_0 rfl) 5 d4_2 rfl 0 (Nat.le_of_eq rfl) (by decide) (by decide) (by decide) (by decide) fun T v h1 X eh hq1 => ?_
  obtain ⟨rfl, n1, hn1, hf1, hs1, U1, K1⟩ := hq1
  refine g_istoreN K X 6 #[.val (.ref u), .val (.int (Int32.ofNat a)), .val (.int (Int32.ofNat b)), .val (.int (Int32.ofNat (rt n a))), .unset] d4_5 rfl rfl ?_
  refine g_aloadN K X 7 d4_6 rfl rfl rfl ?_
  refine g_iloadN K X 8 d4_7 rfl rfl ?_
  refine g_virtual K X eh rfl (met_find l Z a0 hw u pa ra n1 b hn1 hb hf1 h1 n0 U1 ge) (hw _ (List.mem_of_getElem? (i := 24) rfl)) (hw _ (List.mem_of_getElem? (i := 25) rfl)) (hw _ (List.mem_of_getElem? (i := 27) rfl)) (hw _ (List.mem_of_getElem? (i := 26) rfl)) (hw _ (List.mem_of_getElem? (i := 28) rfl)) (hw _ (List.mem_of_getElem? (i := 2) rfl)) (by decide) U1.1 [.int (Int32.ofNat b)] rfl rfl (lenOf pd_0 rfl) 11 d4_8 rfl 0 (Nat.le_of_eq rfl) (by decide) (by decide) (by decide) (by decide) fun T v h2 X eh hq2 => ?_
  obtain ⟨rfl, n2, hn2, hf2, hs2, U2, K2⟩ := hq2
  rw [hs1 b hb]
  have hs : ∀ z, z < 4 → rt n2 z = rt n z := fun z hz => (hs2 z hz).trans (hs1 z hz)
  have KK : Keep h0 h2 [pa, ra] := keepMore (K1.trans K2 (fun x hx => Or.inl hx)) (fun x hx => by simp only [List.mem_cons, List.not_mem_nil, or_false] at hx ⊢; exact Or.inl hx)
  refine g_istore K X 13 #[.val (.ref u), .val (.int (Int32.ofNat a)), .val (.int (Int32.ofNat b)), .val (.int (Int32.ofNat (rt n a))), .val (.int (Int32.ofNat (rt n b)))] d4_11 rfl rfl ?_
  refine g_iloadN K X 14 d4_13 rfl rfl ?_
  refine g_iload K X 16 d4_14 rfl rfl ?_
  by_cases hab : rt n a = rt n b
  · refine g_icmpF K X 19 d4_16 rfl (show ¬ (¬ (Int32.ofNat (rt n a)) = (Int32.ofNat (rt n b))) from (fun q => q (by rw [hab]))) ?_
    refine g_iconst K X (0 : Int32) 20 d4_19 rfl rfl ?_
    exact g_retN K X eh rfl (t := .boolean) (by simp) ((0 : Int32)) rfl d4_20 (by decide) (by decide) ⟨by rw [if_pos hab], n2, hn2, hf2, u_un1 ha hb hs1 hs2 hab, U2, KK⟩
  · refine g_icmpT K X 21 d4_16 rfl (show ¬ (Int32.ofNat (rt n a)) = (Int32.ofNat (rt n b)) from (fun q => hab (own_inj (u_rt _ _) (u_rt _ _) q))) ?_
    obtain ⟨g, G⟩ := U2.2.2.2.2.1
    have ra1 : dg n2 (rt n a) = rt n a := by rw [← hs a ha]; exact u_fo hf2 a ha
    have rb1 : dg n2 (rt n b) = rt n b := by rw [← hs b hb]; exact u_fo hf2 b hb
    refine g_aloadN K X 22 d4_21 rfl rfl rfl ?_
    refine g_getF K X eh (hw _ (List.mem_of_getElem? (i := 13) rfl)) U2.2.2.1 25 d4_22 rfl fun T X eh => ?_
    refine g_iloadN K X 26 d4_25 rfl rfl ?_
    refine g_baload K X eh G (rt n a) (own_i0 (u_rt _ _)) (u_rt _ _) (g (rt n a)) rfl 27 d4_26 rfl ?_
    refine g_aloadN K X 28 d4_27 rfl rfl rfl ?_
    refine g_getF K X eh (hw _ (List.mem_of_getElem? (i := 13) rfl)) U2.2.2.1 31 d4_28 rfl fun T X eh => ?_
    refine g_iload K X 33 d4_31 rfl rfl ?_
    refine g_baload K X eh G (rt n b) (own_i0 (u_rt _ _)) (u_rt _ _) (g (rt n b)) rfl 34 d4_33 rfl ?_
    refine g_icmp K X 48 37 d4_34 rfl rfl (fun (hc1 : ¬ (g (rt n a)) < (g (rt n b))) => ?_) (fun (hc1 : ¬ (¬ (g (rt n a)) < (g (rt n b)))) => ?_)
    · refine g_aloadN K X 49 d4_48 rfl rfl rfl ?_
      refine g_getF K X eh (hw _ (List.mem_of_getElem? (i := 13) rfl)) U2.2.2.1 52 d4_49 rfl fun T X eh => ?_
      refine g_iloadN K X 53 d4_52 rfl rfl ?_
      refine g_baload K X eh G (rt n a) (own_i0 (u_rt _ _)) (u_rt _ _) (g (rt n a)) rfl 54 d4_53 rfl ?_
      refine g_aloadN K X 55 d4_54 rfl rfl rfl ?_
      refine g_getF K X eh (hw _ (List.mem_of_getElem? (i := 13) rfl)) U2.2.2.1 58 d4_55 rfl fun T X eh => ?_
      refine g_iload K X 60 d4_58 rfl rfl ?_
      refine g_baload K X eh G (rt n b) (own_i0 (u_rt _ _)) (u_rt _ _) (g (rt n b)) rfl 61 d4_60 rfl ?_
      refine g_icmp K X 75 64 d4_61 rfl rfl (fun (hc2 : ¬ (g (rt n b)) < (g (rt n a))) => ?_) (fun (hc2 : ¬ (¬ (g (rt n b)) < (g (rt n a)))) => ?_)
      · refine g_aloadN K X 76 d4_75 rfl rfl rfl ?_
        refine g_getF K X eh (hw _ (List.mem_of_getElem? (i := 10) rfl)) U2.2.1 79 d4_76 rfl fun T X eh => ?_
        refine g_iload K X 81 d4_79 rfl rfl ?_
        refine g_iloadN K X 82 d4_81 rfl rfl ?_
        refine g_iastore K X eh U2.2.2.2.1 (rt n b) (own_i0 (u_rt _ _)) (u_rt _ _) (Int32.ofNat (rt n a)) rfl ge 83 d4_82 rfl fun T h3 X eh W A => ?_
        have U3 := U2.setP hn2 (u_rt _ _) (u_rt _ _) W A
        have s1 := (u_sd hn2 (u_rt n b) (u_rt n a)).1
        obtain ⟨f1, f2⟩ := u_link hn2 (u_rt n b) (u_rt n a) hf2 rb1 ra1 (fun q => hab q.symm)
        have K3 : Keep h0 h3 [pa, ra] := KK.wr W (Or.inl (List.mem_cons_self ..))
        have G3 : Ai Z h3 ra .byte 4 g := G.other W (fun q => U2.2.2.2.2.2.2.2 q.symm)
        refine g_aloadN K X 84 d4_83 rfl rfl rfl ?_
        refine g_getF K X eh (hw _ (List.mem_of_getElem? (i := 13) rfl)) U3.2.2.1 87 d4_84 rfl fun T X eh => ?_
        refine g_iloadN K X 88 d4_87 rfl rfl ?_
        refine g_dup2 K X 89 d4_88 rfl rfl rfl ?_
        refine g_baload K X eh G3 (rt n a) (own_i0 (u_rt _ _)) (u_rt _ _) (g (rt n a)) rfl 90 d4_89 rfl ?_
        refine g_iconst K X (1 : Int32) 91 d4_90 rfl rfl ?_
        refine g_iadd K X 92 d4_91 rfl ?_
        refine g_i2b K X 93 d4_92 rfl ?_
        refine g_bastore K X eh G3 (rt n a) (own_i0 (u_rt _ _)) (u_rt _ _) (((g (rt n a)) + ((1 : Int32))).toInt8.toInt32) (by simp) gr 94 d4_93 rfl fun T h4 X eh W4 G4 => ?_
        have U4 := U3.setR W4 G4
        have K4 : Keep h0 h4 [pa, ra] := K3.wr W4 (Or.inl (List.mem_cons_of_mem _ (List.mem_cons_self ..)))
        refine g_iconst K X (1 : Int32) 95 d4_94 rfl rfl ?_
        exact g_retN K X eh rfl (t := .boolean) (by simp) ((1 : Int32)) rfl d4_95 (by decide) (by decide) ⟨by rw [if_neg hab], _, s1, f1, u_un2 (n1 := 0) hs (Or.inr ⟨rfl, rfl⟩) f2, U4, K4⟩
      · refine g_aloadN K X 65 d4_64 rfl rfl rfl ?_
        refine g_getF K X eh (hw _ (List.mem_of_getElem? (i := 10) rfl)) U2.2.1 68 d4_65 rfl fun T X eh => ?_
        refine g_iload K X 70 d4_68 rfl rfl ?_
        refine g_iloadN K X 71 d4_70 rfl rfl ?_
        refine g_iastore K X eh U2.2.2.2.1 (rt n b) (own_i0 (u_rt _ _)) (u_rt _ _) (Int32.ofNat (rt n a)) rfl ge 72 d4_71 rfl fun T h3 X eh W A => ?_
        have U3 := U2.setP hn2 (u_rt _ _) (u_rt _ _) W A
        have s1 := (u_sd hn2 (u_rt n b) (u_rt n a)).1
        obtain ⟨f1, f2⟩ := u_link hn2 (u_rt n b) (u_rt n a) hf2 rb1 ra1 (fun q => hab q.symm)
        have K3 : Keep h0 h3 [pa, ra] := KK.wr W (Or.inl (List.mem_cons_self ..))
        refine g_goto K X 94 d4_72 rfl ?_
        refine g_iconst K X (1 : Int32) 95 d4_94 rfl rfl ?_
        exact g_retN K X eh rfl (t := .boolean) (by simp) ((1 : Int32)) rfl d4_95 (by decide) (by decide) ⟨by rw [if_neg hab], _, s1, f1, u_un2 (n1 := 0) hs (Or.inr ⟨rfl, rfl⟩) f2, U3, K3⟩
    · refine g_aloadN K X 38 d4_37 rfl rfl rfl ?_
      refine g_getF K X eh (hw _ (List.mem_of_getElem? (i := 10) rfl)) U2.2.1 41 d4_38 rfl fun T X eh => ?_
      refine g_iloadN K X 42 d4_41 rfl rfl ?_
      refine g_iload K X 44 d4_42 rfl rfl ?_
      refine g_iastore K X eh U2.2.2.2.1 (rt n a) (own_i0 (u_rt _ _)) (u_rt _ _) (Int32.ofNat (rt n b)) rfl ge 45 d4_44 rfl fun T h3 X eh W A => ?_
      have U3 := U2.setP hn2 (u_rt _ _) (u_rt _ _) W A
      have s1 := (u_sd hn2 (u_rt n a) (u_rt n b)).1
      obtain ⟨f1, f2⟩ := u_link hn2 (u_rt n a) (u_rt n b) hf2 ra1 rb1 hab
      have K3 : Keep h0 h3 [pa, ra] := KK.wr W (Or.inl (List.mem_cons_self ..))
      refine g_goto K X 94 d4_45 rfl ?_
      refine g_iconst K X (1 : Int32) 95 d4_94 rfl rfl ?_
      exact g_retN K X eh rfl (t := .boolean) (by simp) ((1 : Int32)) rfl d4_95 (by decide) (by decide) ⟨by rw [if_neg hab], _, s1, f1, u_un2 (n1 := 0) hs (Or.inl ⟨rfl, rfl⟩) f2, U3, K3⟩
theorem d1_0 : decode prog_6_method_1_code 0 = .ok (.aload_n 0, 1) := by decide +kernel
theorem d1_1 : decode prog_6_method_1_code 1 = .ok (.invokespecial 1, 3) := by decide +kernel
theorem d1_4 : decode prog_6_method_1_code 4 = .ok (.aload_n 0, 1) := by decide +kernel
theorem d1_5 : decode prog_6_method_1_code 5 = .ok (.iload_n 1, 1) := by decide +kernel
theorem d1_6 : decode prog_6_method_1_code 6 = .ok (.newarray .int, 2) := by decide +kernel
theorem d1_8 : decode prog_6_method_1_code 8 = .ok (.putfield 7, 3) := by decide +kernel
theorem d1_11 : decode prog_6_method_1_code 11 = .ok (.aload_n 0, 1) := by decide +kernel
theorem d1_12 : decode prog_6_method_1_code 12 = .ok (.iload_n 1, 1) := by decide +kernel
theorem d1_13 : decode prog_6_method_1_code 13 = .ok (.newarray .byte, 2) := by decide +kernel
theorem d1_15 : decode prog_6_method_1_code 15 = .ok (.putfield 13, 3) := by decide +kernel
theorem d1_18 : decode prog_6_method_1_code 18 = .ok (.iconst 0, 1) := by decide +kernel
theorem d1_19 : decode prog_6_method_1_code 19 = .ok (.istore_n 2, 1) := by decide +kernel
theorem d1_20 : decode prog_6_method_1_code 20 = .ok (.iload_n 2, 1) := by decide +kernel
theorem d1_21 : decode prog_6_method_1_code 21 = .ok (.iload_n 1, 1) := by decide +kernel
theorem d1_22 : decode prog_6_method_1_code 22 = .ok (.if_icmp .ge 16, 3) := by decide +kernel
theorem d1_25 : decode prog_6_method_1_code 25 = .ok (.aload_n 0, 1) := by decide +kernel
theorem d1_26 : decode prog_6_method_1_code 26 = .ok (.getfield 7, 3) := by decide +kernel
theorem d1_29 : decode prog_6_method_1_code 29 = .ok (.iload_n 2, 1) := by decide +kernel
theorem d1_30 : decode prog_6_method_1_code 30 = .ok (.iload_n 2, 1) := by decide +kernel
theorem d1_31 : decode prog_6_method_1_code 31 = .ok (.iastore, 1) := by decide +kernel
theorem d1_32 : decode prog_6_method_1_code 32 = .ok (.iinc 2 1, 3) := by decide +kernel
theorem d1_35 : decode prog_6_method_1_code 35 = .ok (.goto (-15), 3) := by decide +kernel
theorem d1_38 : decode prog_6_method_1_code 38 = .ok (.return_, 1) := by decide +kernel
def rmI : Room := { frames := 1, cells := 2, slots := 8, locals := 12 }
def Qini (Z : State) (u : Addr) (n0 : Nat) (h0 : Heap) : Option Value → Heap → Prop := fun v h' => v = none ∧ ∃ pa ra, UFs Z h' u pa ra 228 ∧ Keep h0 h' [u] ∧ n0 ≤ pa ∧ n0 ≤ ra
set_option maxRecDepth 65536 in
set_option maxHeartbeats 40000000 in
theorem met_init (l : Launch) (Z : State) (a0 : Array Value) (hw : ∀ d ∈ tables_1, d.before a0 Z = true) (u : Addr) (h0 : Heap) (n0 : Nat) (Z0 : n0 ≤ h0.size) (gu : n0 ≤ u) (E0 : Exa Z h0 u "com/example/rowan/rowan/check/UnionFind") (F1 : Fld Z h0 u "com/example/rowan/rowan/check/UnionFind" "parents" "[I" .null) (F2 : Fld Z h0 u "com/example/rowan/rowan/check/UnionFind" "ranks" "[B" .null) :
    Met l Z (⟨"com/example/rowan/rowan/check/UnionFind", "<init>", "(I)V"⟩ : MethodName) prog_6_method_1_code 3 none [] rmI #[.ref u, .int ((4 : Int32))] h0 n0 (Qini Z u n0 h0) := by
  refine Met.of (plainFor_of_name (by first | (simp [plainName, overriddenIn]; done) | decide +kernel)) #[.val (.ref u), .val (.int ((4 : Int32))), .unset] (fun m => by first | (simp [entryFrame, mkF, argsToLocals, Value.category]; done) | rfl) ?_
  intro p e s m below meth c T K X eh
  refine g_aloadN K X 1 d1_0 rfl rfl rfl ?_
  refine g_initO K X eh rfl (hw _ (List.mem_of_getElem? (i := 6) rfl)) (hw _ (List.mem_of_getElem? (i := 7) rfl)) (hw _ (List.mem_of_getElem? (i := 8) rfl)) 4 d1_1 rfl (by decide) 0 (Nat.le_of_eq rfl) (by decide) fun T X eh => ?_
  refine g_aloadN K X 5 d1_4 rfl rfl rfl ?_
  refine g_iloadN K X 6 d1_5 rfl rfl ?_
  refine g_newA K X eh (hw _ (List.mem_of_getElem? (i := 9) rfl)) 8 d1_6 rfl (n := 4) (cap := 4) rfl (by decide) (by decide) rfl (by decide) (by decide) fun T h1 pa gp X eh E1 A _ => ?_
  have up : u ≠ pa := fun q => absurd E0.lt (by rw [q, gp]; exact Nat.lt_irrefl _)
  refine g_putF K X eh (hw _ (List.mem_of_getElem? (i := 10) rfl)) (F1.ext E1) (E0.ext E1) (Or.inr ⟨(hw _ (List.mem_of_getElem? (i := 11) rfl)), rfl, rfl⟩) (hw _ (List.mem_of_getElem? (i := 1) rfl)) (ty := (.array .int)) (by decide) rfl rfl gu 11 d1_8 rfl fun T h2 X eh W2 => ?_
  have A2 := A.other W2 (fun q => up q.symm)
  have G1 := (F1.ext E1).same W2
  have G2 := (F2.ext E1).other W2 (Or.inr (slot_ne (C := "com/example/rowan/rowan/check/UnionFind") (a0 := a0) (Or.inr (hw _ (List.mem_of_getElem? (i := 14) rfl))) (Or.inr (hw _ (List.mem_of_getElem? (i := 11) rfl))) (by decide) (t := .array .byte) (t' := .array .int) (by decide) (by decide)))
  have E2 := (E0.ext E1).wr W2
  refine g_aloadN K X 12 d1_11 rfl rfl rfl ?_
  refine g_iloadN K X 13 d1_12 rfl rfl ?_
  refine g_newA K X eh (hw _ (List.mem_of_getElem? (i := 12) rfl)) 15 d1_13 rfl (n := 4) (cap := 4) rfl (by decide) (by decide) rfl (by decide) (by decide) fun T h3 ra gr X eh E3 B _ => ?_
  have s2 : h2.size = h1.size := W2.size
  have ur : u ≠ ra := fun q => absurd E2.lt (by rw [q, gr]; exact Nat.lt_irrefl _)
  have pr : pa ≠ ra := fun q => absurd A2.lt (by rw [q, gr]; exact Nat.lt_irrefl _)
  refine g_putF K X eh (hw _ (List.mem_of_getElem? (i := 13) rfl)) (G2.ext E3) (E2.ext E3) (Or.inr ⟨(hw _ (List.mem_of_getElem? (i := 14) rfl)), rfl, rfl⟩) (hw _ (List.mem_of_getElem? (i := 1) rfl)) (ty := (.array .byte)) (by decide) rfl rfl gu 18 d1_15 rfl fun T h4 X eh W4 => ?_
  have B4 := B.other W4 (fun q => ur q.symm)
  have A4 := (A2.ext E3).other W4 (fun q => up q.symm)
  have H2 := (G2.ext E3).same W4
  have H1 := (G1.ext E3).other W4 (Or.inr (slot_ne (C := "com/example/rowan/rowan/check/UnionFind") (a0 := a0) (Or.inr (hw _ (List.mem_of_getElem? (i := 11) rfl))) (Or.inr (hw _ (List.mem_of_getElem? (i := 14) rfl))) (by decide) (t := .array .int) (t' := .array .byte) (by decide) (by decide)))
  have E4 := (E2.ext E3).wr W4
  have gep : n0 ≤ pa := gp ▸ Z0
  have ger : n0 ≤ ra := gr ▸ s2 ▸ Nat.le_trans Z0 E1.1
  have K4 : Keep h0 h4 [u] := ((((Keep.refl h0 [u]).ext E1).wr W2 (Or.inl (List.mem_singleton.mpr rfl))).ext E3).wr W4 (Or.inl (List.mem_singleton.mpr rfl))
  have hpa : h0.size ≤ pa := Nat.le_of_eq gp.symm
  refine g_iconst K X (0 : Int32) 19 d1_18 rfl rfl ?_
  refine g_istoreN K X 20 #[.val (.ref u), .val (.int ((4 : Int32))), .val (.int ((0 : Int32)))] d1_19 rfl rfl ?_
  refine g_iloadN K X 21 d1_20 rfl rfl ?_
  refine g_iloadN K X 22 d1_21 rfl rfl ?_
  refine g_icmpF K X 25 d1_22 rfl (show ¬ (¬ ((0 : Int32)) < ((4 : Int32))) from (by decide)) ?_
  refine g_aloadN K X 26 d1_25 rfl rfl rfl ?_
  refine g_getF K X eh (hw _ (List.mem_of_getElem? (i := 10) rfl)) H1 29 d1_26 rfl fun T X eh => ?_
  refine g_iloadN K X 30 d1_29 rfl rfl ?_
  refine g_iloadN K X 31 d1_30 rfl rfl ?_
  refine g_iastore K X eh A4 0 rfl (by decide) ((0 : Int32)) rfl gep 32 d1_31 rfl fun T h X eh W A4 => ?_
  replace H1 := H1.other W (Or.inl up)
  replace H2 := H2.other W (Or.inl up)
  replace E4 := E4.wr W
  replace B4 := B4.other W (fun q => pr q.symm)
  replace K4 := K4.wr W (Or.inr hpa)
  refine g_iinc K X (1 : Int32) 35 #[.val (.ref u), .val (.int ((4 : Int32))), .val (.int (((0 : Int32)) + (1 : Int32)))] d1_32 rfl rfl rfl rfl ?_
  refine g_goto K X 20 d1_35 rfl ?_
  show Go p e below s _ _ _ _ (T.setTop (mkF m 20 #[.val (.ref u), .val (.int ((4 : Int32))), .val (.int ((1 : Int32)))] []))
  refine g_iloadN K X 21 d1_20 rfl rfl ?_
  refine g_iloadN K X 22 d1_21 rfl rfl ?_
  refine g_icmpF K X 25 d1_22 rfl (show ¬ (¬ ((1 : Int32)) < ((4 : Int32))) from (by decide)) ?_
  refine g_aloadN K X 26 d1_25 rfl rfl rfl ?_
  refine g_getF K X eh (hw _ (List.mem_of_getElem? (i := 10) rfl)) H1 29 d1_26 rfl fun T X eh => ?_
  refine g_iloadN K X 30 d1_29 rfl rfl ?_
  refine g_iloadN K X 31 d1_30 rfl rfl ?_
  refine g_iastore K X eh A4 1 rfl (by decide) ((1 : Int32)) rfl gep 32 d1_31 rfl fun T h X eh W A4 => ?_
  replace H1 := H1.other W (Or.inl up)
  replace H2 := H2.other W (Or.inl up)
  replace E4 := E4.wr W
  replace B4 := B4.other W (fun q => pr q.symm)
  replace K4 := K4.wr W (Or.inr hpa)
  refine g_iinc K X (1 : Int32) 35 #[.val (.ref u), .val (.int ((4 : Int32))), .val (.int (((1 : Int32)) + (1 : Int32)))] d1_32 rfl rfl rfl rfl ?_
  refine g_goto K X 20 d1_35 rfl ?_
  show Go p e below s _ _ _ _ (T.setTop (mkF m 20 #[.val (.ref u), .val (.int ((4 : Int32))), .val (.int ((2 : Int32)))] []))
  refine g_iloadN K X 21 d1_20 rfl rfl ?_
  refine g_iloadN K X 22 d1_21 rfl rfl ?_
  refine g_icmpF K X 25 d1_22 rfl (show ¬ (¬ ((2 : Int32)) < ((4 : Int32))) from (by decide)) ?_
  refine g_aloadN K X 26 d1_25 rfl rfl rfl ?_
  refine g_getF K X eh (hw _ (List.mem_of_getElem? (i := 10) rfl)) H1 29 d1_26 rfl fun T X eh => ?_
  refine g_iloadN K X 30 d1_29 rfl rfl ?_
  refine g_iloadN K X 31 d1_30 rfl rfl ?_
  refine g_iastore K X eh A4 2 rfl (by decide) ((2 : Int32)) rfl gep 32 d1_31 rfl fun T h X eh W A4 => ?_
  replace H1 := H1.other W (Or.inl up)
  replace H2 := H2.other W (Or.inl up)
  replace E4 := E4.wr W
  replace B4 := B4.other W (fun q => pr q.symm)
  replace K4 := K4.wr W (Or.inr hpa)
  refine g_iinc K X (1 : Int32) 35 #[.val (.ref u), .val (.int ((4 : Int32))), .val (.int (((2 : Int32)) + (1 : Int32)))] d1_32 rfl rfl rfl rfl ?_
  refine g_goto K X 20 d1_35 rfl ?_
  show Go p e below s _ _ _ _ (T.setTop (mkF m 20 #[.val (.ref u), .val (.int ((4 : Int32))), .val (.int ((3 : Int32)))] []))
  refine g_iloadN K X 21 d1_20 rfl rfl ?_
  refine g_iloadN K X 22 d1_21 rfl rfl ?_
  refine g_icmpF K X 25 d1_22 rfl (show ¬ (¬ ((3 : Int32)) < ((4 : Int32))) from (by decide)) ?_
  refine g_aloadN K X 26 d1_25 rfl rfl rfl ?_
  refine g_getF K X eh (hw _ (List.mem_of_getElem? (i := 10) rfl)) H1 29 d1_26 rfl fun T X eh => ?_
  refine g_iloadN K X 30 d1_29 rfl rfl ?_
  refine g_iloadN K X 31 d1_30 rfl rfl ?_
  refine g_iastore K X eh A4 3 rfl (by decide) ((3 : Int32)) rfl gep 32 d1_31 rfl fun T h X eh W A4 => ?_
  replace H1 := H1.other W (Or.inl up)
  replace H2 := H2.other W (Or.inl up)
  replace E4 := E4.wr W
  replace B4 := B4.other W (fun q => pr q.symm)
  replace K4 := K4.wr W (Or.inr hpa)
  refine g_iinc K X (1 : Int32) 35 #[.val (.ref u), .val (.int ((4 : Int32))), .val (.int (((3 : Int32)) + (1 : Int32)))] d1_32 rfl rfl rfl rfl ?_
  refine g_goto K X 20 d1_35 rfl ?_
  show Go p e below s _ _ _ _ (T.setTop (mkF m 20 #[.val (.ref u), .val (.int ((4 : Int32))), .val (.int ((4 : Int32)))] []))
  refine g_iloadN K X 21 d1_20 rfl rfl ?_
  refine g_iloadN K X 22 d1_21 rfl rfl ?_
  refine g_icmpT K X 38 d1_22 rfl (show ¬ ((4 : Int32)) < ((4 : Int32)) from (by decide)) ?_
  exact g_ret K X eh rfl d1_38 (by decide) (by decide) ⟨rfl, pa, ra, ⟨E4, H1, H2, A4.congr (u_four rfl rfl rfl rfl), ⟨_, B4⟩, up, ur, pr⟩, K4, gep, ger⟩
theorem d6_0 : decode method_2_code 0 = .ok (.aload_n 0, 1) := by decide +kernel
theorem d6_1 : decode method_2_code 1 = .ok (.iload_n 2, 1) := by decide +kernel
theorem d6_2 : decode method_2_code 2 = .ok (.iaload, 1) := by decide +kernel
theorem d6_3 : decode method_2_code 3 = .ok (.istore_n 3, 1) := by decide +kernel
theorem d6_4 : decode method_2_code 4 = .ok (.aload_n 0, 1) := by decide +kernel
theorem d6_5 : decode method_2_code 5 = .ok (.iload_n 1, 1) := by decide +kernel
theorem d6_6 : decode method_2_code 6 = .ok (.iaload, 1) := by decide +kernel
theorem d6_7 : decode method_2_code 7 = .ok (.istore 4, 2) := by decide +kernel
theorem d6_9 : decode method_2_code 9 = .ok (.aload_n 0, 1) := by decide +kernel
theorem d6_10 : decode method_2_code 10 = .ok (.iconst 0, 1) := by decide +kernel
theorem d6_11 : decode method_2_code 11 = .ok (.iaload, 1) := by decide +kernel
theorem d6_12 : decode method_2_code 12 = .ok (.iload_n 3, 1) := by decide +kernel
theorem d6_13 : decode method_2_code 13 = .ok (.if_icmp .ne 8, 3) := by decide +kernel
theorem d6_16 : decode method_2_code 16 = .ok (.aload_n 0, 1) := by decide +kernel
theorem d6_17 : decode method_2_code 17 = .ok (.iconst 0, 1) := by decide +kernel
theorem d6_18 : decode method_2_code 18 = .ok (.iload 4, 2) := by decide +kernel
theorem d6_20 : decode method_2_code 20 = .ok (.iastore, 1) := by decide +kernel
theorem d6_21 : decode method_2_code 21 = .ok (.aload_n 0, 1) := by decide +kernel
theorem d6_22 : decode method_2_code 22 = .ok (.iconst 1, 1) := by decide +kernel
theorem d6_23 : decode method_2_code 23 = .ok (.iaload, 1) := by decide +kernel
theorem d6_24 : decode method_2_code 24 = .ok (.iload_n 3, 1) := by decide +kernel
theorem d6_25 : decode method_2_code 25 = .ok (.if_icmp .ne 8, 3) := by decide +kernel
theorem d6_28 : decode method_2_code 28 = .ok (.aload_n 0, 1) := by decide +kernel
theorem d6_29 : decode method_2_code 29 = .ok (.iconst 1, 1) := by decide +kernel
theorem d6_30 : decode method_2_code 30 = .ok (.iload 4, 2) := by decide +kernel
theorem d6_32 : decode method_2_code 32 = .ok (.iastore, 1) := by decide +kernel
theorem d6_33 : decode method_2_code 33 = .ok (.aload_n 0, 1) := by decide +kernel
theorem d6_34 : decode method_2_code 34 = .ok (.iconst 2, 1) := by decide +kernel
theorem d6_35 : decode method_2_code 35 = .ok (.iaload, 1) := by decide +kernel
theorem d6_36 : decode method_2_code 36 = .ok (.iload_n 3, 1) := by decide +kernel
theorem d6_37 : decode method_2_code 37 = .ok (.if_icmp .ne 8, 3) := by decide +kernel
theorem d6_40 : decode method_2_code 40 = .ok (.aload_n 0, 1) := by decide +kernel
theorem d6_41 : decode method_2_code 41 = .ok (.iconst 2, 1) := by decide +kernel
theorem d6_42 : decode method_2_code 42 = .ok (.iload 4, 2) := by decide +kernel
theorem d6_44 : decode method_2_code 44 = .ok (.iastore, 1) := by decide +kernel
theorem d6_45 : decode method_2_code 45 = .ok (.aload_n 0, 1) := by decide +kernel
theorem d6_46 : decode method_2_code 46 = .ok (.iconst 3, 1) := by decide +kernel
theorem d6_47 : decode method_2_code 47 = .ok (.iaload, 1) := by decide +kernel
theorem d6_48 : decode method_2_code 48 = .ok (.iload_n 3, 1) := by decide +kernel
theorem d6_49 : decode method_2_code 49 = .ok (.if_icmp .ne 8, 3) := by decide +kernel
theorem d6_52 : decode method_2_code 52 = .ok (.aload_n 0, 1) := by decide +kernel
theorem d6_53 : decode method_2_code 53 = .ok (.iconst 3, 1) := by decide +kernel
theorem d6_54 : decode method_2_code 54 = .ok (.iload 4, 2) := by decide +kernel
theorem d6_56 : decode method_2_code 56 = .ok (.iastore, 1) := by decide +kernel
theorem d6_57 : decode method_2_code 57 = .ok (.return_, 1) := by decide +kernel
def rmR : Room := { frames := 0, cells := 0, slots := 0, locals := 0 }
def Qrl (Z : State) (la : Addr) (m0 fr t : Nat) (h0 : Heap) : Option Value → Heap → Prop := fun v h' => v = none ∧ ∃ m', m' < 256 ∧ (∀ i, i < 4 → dg m' i = if dg m0 i = fr then t else dg m0 i) ∧ Ai Z h' la .int 4 (df m') ∧ Keep h0 h' [la]
set_option maxRecDepth 65536 in
set_option maxHeartbeats 40000000 in
theorem met_mg (l : Launch) (Z : State) (a0 : Array Value) (hw : ∀ d ∈ tables_1, d.before a0 Z = true) (la : Addr) (m0 a b : Nat) (hm : m0 < 256) (ha : a < 4) (hb : b < 4) (h0 : Heap) (n0 : Nat) (A : Ai Z h0 la .int 4 (df m0)) (ge : n0 ≤ la) :
    Met l Z (⟨"com/example/rowan/rowan/check/UnionFindFindPinLaw", "merge", "([III)V"⟩ : MethodName) method_2_code 5 none [] rmR #[.ref la, .int (Int32.ofNat a), .int (Int32.ofNat b)] h0 n0 (Qrl Z la m0 (dg m0 b) (dg m0 a) h0) := by
  refine Met.of (plainFor_of_name (by first | (simp [plainName, overriddenIn]; done) | decide +kernel)) #[.val (.ref la), .val (.int (Int32.ofNat a)), .val (.int (Int32.ofNat b)), .unset, .unset] (fun m => by first | (simp [entryFrame, mkF, argsToLocals, Value.category]; done) | rfl) ?_
  intro p e s m below meth c T K X eh
  have hfr := u_dg m0 b
  have ht := u_dg m0 a
  have k4 : ∀ mc T h, RL m0 (dg m0 b) (dg m0 a) 4 mc → Ai Z h la .int 4 (df mc) → Keep h0 h [la] → Sd p l e rmR s m #[.ref la, .int (Int32.ofNat a), .int (Int32.ofNat b)] below meth c n0 T 0 0 → T.heap = h → Go p e below s n0 (Qrl Z la m0 (dg m0 b) (dg m0 a) h0) rmR.cells rmR.slots (T.setTop (mkF m 57 #[.val (.ref la), .val (.int (Int32.ofNat a)), .val (.int (Int32.ofNat b)), .val (.int (Int32.ofNat (dg m0 b))), .val (.int (Int32.ofNat (dg m0 a)))] [])) := by
    intro mc T h r A Kp X eh
    exact g_ret K X eh rfl d6_57 (by decide) (by decide) ⟨rfl, mc, r.1, rl_4 r, A, Kp⟩
  have k3 : ∀ mc T h, RL m0 (dg m0 b) (dg m0 a) 3 mc → Ai Z h la .int 4 (df mc) → Keep h0 h [la] → Sd p l e rmR s m #[.ref la, .int (Int32.ofNat a), .int (Int32.ofNat b)] below meth c n0 T 0 0 → T.heap = h → Go p e below s n0 (Qrl Z la m0 (dg m0 b) (dg m0 a) h0) rmR.cells rmR.slots (T.setTop (mkF m 45 #[.val (.ref la), .val (.int (Int32.ofNat a)), .val (.int (Int32.ofNat b)), .val (.int (Int32.ofNat (dg m0 b))), .val (.int (Int32.ofNat (dg m0 a)))] [])) := by
    intro mc T h r A Kp X eh
    refine g_aloadN K X 46 d6_45 rfl rfl rfl ?_
    refine g_iconst K X (3 : Int32) 47 d6_46 rfl rfl ?_
    refine g_iaload K X eh A 3 rfl (by decide) (Int32.ofNat (dg mc 3)) rfl 48 d6_47 rfl ?_
    refine g_iloadN K X 49 d6_48 rfl rfl ?_
    by_cases hq : dg mc 3 = dg m0 b
    · refine g_icmpF K X 52 d6_49 rfl (show ¬ (¬ (Int32.ofNat (dg mc 3)) = (Int32.ofNat (dg m0 b))) from (fun q => q (by rw [hq]))) ?_
      refine g_aloadN K X 53 d6_52 rfl rfl rfl ?_
      refine g_iconst K X (3 : Int32) 54 d6_53 rfl rfl ?_
      refine g_iload K X 56 d6_54 rfl rfl ?_
      refine g_iastore K X eh A 3 rfl (by decide) (Int32.ofNat (dg m0 a)) rfl ge 57 d6_56 rfl fun T h1 X eh W A1 => ?_
      exact k4 _ T h1 (rl_hit r (by decide) ht hq) (ai_sd r.1 (by decide) ht A1) (Kp.wr W (Or.inl (List.mem_singleton.mpr rfl))) X eh
    · refine g_icmpT K X 57 d6_49 rfl (show ¬ (Int32.ofNat (dg mc 3)) = (Int32.ofNat (dg m0 b)) from (fun q => hq (own_inj (u_dg _ _) hfr q))) ?_
      exact k4 mc T h (rl_miss r (by decide) hq) A Kp X eh
  have k2 : ∀ mc T h, RL m0 (dg m0 b) (dg m0 a) 2 mc → Ai Z h la .int 4 (df mc) → Keep h0 h [la] → Sd p l e rmR s m #[.ref la, .int (Int32.ofNat a), .int (Int32.ofNat b)] below meth c n0 T 0 0 → T.heap = h → Go p e below s n0 (Qrl Z la m0 (dg m0 b) (dg m0 a) h0) rmR.cells rmR.slots (T.setTop (mkF m 33 #[.val (.ref la), .val (.int (Int32.ofNat a)), .val (.int (Int32.ofNat b)), .val (.int (Int32.ofNat (dg m0 b))), .val (.int (Int32.ofNat (dg m0 a)))] [])) := by
    intro mc T h r A Kp X eh
    refine g_aloadN K X 34 d6_33 rfl rfl rfl ?_
    refine g_iconst K X (2 : Int32) 35 d6_34 rfl rfl ?_
    refine g_iaload K X eh A 2 rfl (by decide) (Int32.ofNat (dg mc 2)) rfl 36 d6_35 rfl ?_
    refine g_iloadN K X 37 d6_36 rfl rfl ?_
    by_cases hq : dg mc 2 = dg m0 b
    · refine g_icmpF K X 40 d6_37 rfl (show ¬ (¬ (Int32.ofNat (dg mc 2)) = (Int32.ofNat (dg m0 b))) from (fun q => q (by rw [hq]))) ?_
      refine g_aloadN K X 41 d6_40 rfl rfl rfl ?_
      refine g_iconst K X (2 : Int32) 42 d6_41 rfl rfl ?_
      refine g_iload K X 44 d6_42 rfl rfl ?_
      refine g_iastore K X eh A 2 rfl (by decide) (Int32.ofNat (dg m0 a)) rfl ge 45 d6_44 rfl fun T h1 X eh W A1 => ?_
      exact k3 _ T h1 (rl_hit r (by decide) ht hq) (ai_sd r.1 (by decide) ht A1) (Kp.wr W (Or.inl (List.mem_singleton.mpr rfl))) X eh
    · refine g_icmpT K X 45 d6_37 rfl (show ¬ (Int32.ofNat (dg mc 2)) = (Int32.ofNat (dg m0 b)) from (fun q => hq (own_inj (u_dg _ _) hfr q))) ?_
      exact k3 mc T h (rl_miss r (by decide) hq) A Kp X eh
  have k1 : ∀ mc T h, RL m0 (dg m0 b) (dg m0 a) 1 mc → Ai Z h la .int 4 (df mc) → Keep h0 h [la] → Sd p l e rmR s m #[.ref la, .int (Int32.ofNat a), .int (Int32.ofNat b)] below meth c n0 T 0 0 → T.heap = h → Go p e below s n0 (Qrl Z la m0 (dg m0 b) (dg m0 a) h0) rmR.cells rmR.slots (T.setTop (mkF m 21 #[.val (.ref la), .val (.int (Int32.ofNat a)), .val (.int (Int32.ofNat b)), .val (.int (Int32.ofNat (dg m0 b))), .val (.int (Int32.ofNat (dg m0 a)))] [])) := by
    intro mc T h r A Kp X eh
    refine g_aloadN K X 22 d6_21 rfl rfl rfl ?_
    refine g_iconst K X (1 : Int32) 23 d6_22 rfl rfl ?_
    refine g_iaload K X eh A 1 rfl (by decide) (Int32.ofNat (dg mc 1)) rfl 24 d6_23 rfl ?_
    refine g_iloadN K X 25 d6_24 rfl rfl ?_
    by_cases hq : dg mc 1 = dg m0 b
    · refine g_icmpF K X 28 d6_25 rfl (show ¬ (¬ (Int32.ofNat (dg mc 1)) = (Int32.ofNat (dg m0 b))) from (fun q => q (by rw [hq]))) ?_
      refine g_aloadN K X 29 d6_28 rfl rfl rfl ?_
      refine g_iconst K X (1 : Int32) 30 d6_29 rfl rfl ?_
      refine g_iload K X 32 d6_30 rfl rfl ?_
      refine g_iastore K X eh A 1 rfl (by decide) (Int32.ofNat (dg m0 a)) rfl ge 33 d6_32 rfl fun T h1 X eh W A1 => ?_
      exact k2 _ T h1 (rl_hit r (by decide) ht hq) (ai_sd r.1 (by decide) ht A1) (Kp.wr W (Or.inl (List.mem_singleton.mpr rfl))) X eh
    · refine g_icmpT K X 33 d6_25 rfl (show ¬ (Int32.ofNat (dg mc 1)) = (Int32.ofNat (dg m0 b)) from (fun q => hq (own_inj (u_dg _ _) hfr q))) ?_
      exact k2 mc T h (rl_miss r (by decide) hq) A Kp X eh
  have k0 : ∀ mc T h, RL m0 (dg m0 b) (dg m0 a) 0 mc → Ai Z h la .int 4 (df mc) → Keep h0 h [la] → Sd p l e rmR s m #[.ref la, .int (Int32.ofNat a), .int (Int32.ofNat b)] below meth c n0 T 0 0 → T.heap = h → Go p e below s n0 (Qrl Z la m0 (dg m0 b) (dg m0 a) h0) rmR.cells rmR.slots (T.setTop (mkF m 9 #[.val (.ref la), .val (.int (Int32.ofNat a)), .val (.int (Int32.ofNat b)), .val (.int (Int32.ofNat (dg m0 b))), .val (.int (Int32.ofNat (dg m0 a)))] [])) := by
    intro mc T h r A Kp X eh
    refine g_aloadN K X 10 d6_9 rfl rfl rfl ?_
    refine g_iconst K X (0 : Int32) 11 d6_10 rfl rfl ?_
    refine g_iaload K X eh A 0 rfl (by decide) (Int32.ofNat (dg mc 0)) rfl 12 d6_11 rfl ?_
    refine g_iloadN K X 13 d6_12 rfl rfl ?_
    by_cases hq : dg mc 0 = dg m0 b
    · refine g_icmpF K X 16 d6_13 rfl (show ¬ (¬ (Int32.ofNat (dg mc 0)) = (Int32.ofNat (dg m0 b))) from (fun q => q (by rw [hq]))) ?_
      refine g_aloadN K X 17 d6_16 rfl rfl rfl ?_
      refine g_iconst K X (0 : Int32) 18 d6_17 rfl rfl ?_
      refine g_iload K X 20 d6_18 rfl rfl ?_
      refine g_iastore K X eh A 0 rfl (by decide) (Int32.ofNat (dg m0 a)) rfl ge 21 d6_20 rfl fun T h1 X eh W A1 => ?_
      exact k1 _ T h1 (rl_hit r (by decide) ht hq) (ai_sd r.1 (by decide) ht A1) (Kp.wr W (Or.inl (List.mem_singleton.mpr rfl))) X eh
    · refine g_icmpT K X 21 d6_13 rfl (show ¬ (Int32.ofNat (dg mc 0)) = (Int32.ofNat (dg m0 b)) from (fun q => hq (own_inj (u_dg _ _) hfr q))) ?_
      exact k1 mc T h (rl_miss r (by decide) hq) A Kp X eh
  refine g_aloadN K X 1 d6_0 rfl rfl rfl ?_
  refine g_iloadN K X 2 d6_1 rfl rfl ?_
  refine g_iaload K X eh A b (own_i0 hb) hb (Int32.ofNat (dg m0 b)) rfl 3 d6_2 rfl ?_
  refine g_istoreN K X 4 #[.val (.ref la), .val (.int (Int32.ofNat a)), .val (.int (Int32.ofNat b)), .val (.int (Int32.ofNat (dg m0 b))), .unset] d6_3 rfl rfl ?_
  refine g_aloadN K X 5 d6_4 rfl rfl rfl ?_
  refine g_iloadN K X 6 d6_5 rfl rfl ?_
  refine g_iaload K X eh A a (own_i0 ha) ha (Int32.ofNat (dg m0 a)) rfl 7 d6_6 rfl ?_
  refine g_istore K X 9 #[.val (.ref la), .val (.int (Int32.ofNat a)), .val (.int (Int32.ofNat b)), .val (.int (Int32.ofNat (dg m0 b))), .val (.int (Int32.ofNat (dg m0 a)))] d6_7 rfl rfl ?_
  exact k0 m0 T h0 (rl_0 hm) A (Keep.refl _ _) X eh
theorem d3_0 : decode method_3_code 0 = .ok (.aload_n 1, 1) := by decide +kernel
theorem d3_1 : decode method_3_code 1 = .ok (.iload_n 2, 1) := by decide +kernel
theorem d3_2 : decode method_3_code 2 = .ok (.iaload, 1) := by decide +kernel
theorem d3_3 : decode method_3_code 3 = .ok (.aload_n 1, 1) := by decide +kernel
theorem d3_4 : decode method_3_code 4 = .ok (.iload_n 3, 1) := by decide +kernel
theorem d3_5 : decode method_3_code 5 = .ok (.iaload, 1) := by decide +kernel
theorem d3_6 : decode method_3_code 6 = .ok (.if_icmp .eq 7, 3) := by decide +kernel
theorem d3_9 : decode method_3_code 9 = .ok (.iconst 1, 1) := by decide +kernel
theorem d3_10 : decode method_3_code 10 = .ok (.goto 4, 3) := by decide +kernel
theorem d3_13 : decode method_3_code 13 = .ok (.iconst 0, 1) := by decide +kernel
theorem d3_14 : decode method_3_code 14 = .ok (.istore 4, 2) := by decide +kernel
theorem d3_16 : decode method_3_code 16 = .ok (.aload_n 0, 1) := by decide +kernel
theorem d3_17 : decode method_3_code 17 = .ok (.iload_n 2, 1) := by decide +kernel
theorem d3_18 : decode method_3_code 18 = .ok (.iload_n 3, 1) := by decide +kernel
theorem d3_19 : decode method_3_code 19 = .ok (.invokevirtual 7, 3) := by decide +kernel
theorem d3_22 : decode method_3_code 22 = .ok (.istore 5, 2) := by decide +kernel
theorem d3_24 : decode method_3_code 24 = .ok (.aload_n 1, 1) := by decide +kernel
theorem d3_25 : decode method_3_code 25 = .ok (.iload_n 2, 1) := by decide +kernel
theorem d3_26 : decode method_3_code 26 = .ok (.iload_n 3, 1) := by decide +kernel
theorem d3_27 : decode method_3_code 27 = .ok (.invokestatic 13, 3) := by decide +kernel
theorem d3_30 : decode method_3_code 30 = .ok (.iload 5, 2) := by decide +kernel
theorem d3_32 : decode method_3_code 32 = .ok (.iload 4, 2) := by decide +kernel
theorem d3_34 : decode method_3_code 34 = .ok (.if_icmp .ne 7, 3) := by decide +kernel
theorem d3_37 : decode method_3_code 37 = .ok (.iconst 1, 1) := by decide +kernel
theorem d3_38 : decode method_3_code 38 = .ok (.goto 4, 3) := by decide +kernel
theorem d3_41 : decode method_3_code 41 = .ok (.iconst 0, 1) := by decide +kernel
theorem d3_42 : decode method_3_code 42 = .ok (.ireturn, 1) := by decide +kernel
def rmS : Room := { frames := 2, cells := 0, slots := 0, locals := 30 }
def Qst (Z : State) (u pa ra la : Addr) (h0 : Heap) : Option Value → Heap → Prop := fun v h' => v = some (.int 1) ∧ ∃ n' m', n' < 256 ∧ m' < 256 ∧ fo n' = true ∧ LC n' m' ∧ UFs Z h' u pa ra n' ∧ Ai Z h' la .int 4 (df m') ∧ Keep h0 h' [pa, ra, la]
set_option maxRecDepth 65536 in
set_option maxHeartbeats 40000000 in
theorem met_step (l : Launch) (Z : State) (a0 : Array Value) (hw : ∀ d ∈ tables_1, d.before a0 Z = true) (u pa ra la : Addr) (n m0 a b : Nat) (hn : n < 256) (hm : m0 < 256) (ha : a < 4) (hb : b < 4) (hf : fo n = true) (L : LC n m0) (h0 : Heap) (n0 : Nat) (U : UFs Z h0 u pa ra n) (A : Ai Z h0 la .int 4 (df m0)) (ge : n0 ≤ pa) (gr : n0 ≤ ra) (gl : n0 ≤ la) (lu : la ≠ u) (lp : la ≠ pa) (lr : la ≠ ra) :
    Met l Z (⟨"com/example/rowan/rowan/check/UnionFindFindPinLaw", "step", "(Lcom/example/rowan/rowan/check/UnionFind;[III)Z"⟩ : MethodName) method_3_code 6 (some .boolean) [] rmS #[.ref u, .ref la, .int (Int32.ofNat a), .int (Int32.ofNat b)] h0 n0 (Qst Z u pa ra la h0) := by
  refine Met.of (plainFor_of_name (by first | (simp [plainName, overriddenIn]; done) | decide +kernel)) #[.val (.ref u), .val (.ref la), .val (.int (Int32.ofNat a)), .val (.int (Int32.ofNat b)), .unset, .unset] (fun m => by first | (simp [entryFrame, mkF, argsToLocals, Value.category]; done) | rfl) ?_
  intro p e s m below meth c T K X eh
  refine g_aloadN K X 1 d3_0 rfl rfl rfl ?_
  refine g_iloadN K X 2 d3_1 rfl rfl ?_
  refine g_iaload K X eh A a (own_i0 ha) ha (Int32.ofNat (dg m0 a)) rfl 3 d3_2 rfl ?_
  refine g_aloadN K X 4 d3_3 rfl rfl rfl ?_
  refine g_iloadN K X 5 d3_4 rfl rfl ?_
  refine g_iaload K X eh A b (own_i0 hb) hb (Int32.ofNat (dg m0 b)) rfl 6 d3_5 rfl ?_
  by_cases hl : dg m0 a = dg m0 b
  · refine g_icmpT K X 13 d3_6 rfl (show (Int32.ofNat (dg m0 a)) = (Int32.ofNat (dg m0 b)) from (by rw [hl])) ?_
    have hr : rt n a = rt n b := (L a b ha hb).mp hl
    refine g_iconst K X (0 : Int32) 14 d3_13 rfl rfl ?_
    refine g_istore K X 16 #[.val (.ref u), .val (.ref la), .val (.int (Int32.ofNat a)), .val (.int (Int32.ofNat b)), .val (.int ((0 : Int32))), .unset] d3_14 rfl rfl ?_
    refine g_aloadN K X 17 d3_16 rfl rfl rfl ?_
    refine g_iloadN K X 18 d3_17 rfl rfl ?_
    refine g_iloadN K X 19 d3_18 rfl rfl ?_
    refine g_virtual K X eh rfl (met_unite l Z a0 hw u pa ra n a b hn ha hb hf h0 n0 U ge gr) (hw _ (List.mem_of_getElem? (i := 19) rfl)) (hw _ (List.mem_of_getElem? (i := 20) rfl)) (hw _ (List.mem_of_getElem? (i := 22) rfl)) (hw _ (List.mem_of_getElem? (i := 21) rfl)) (hw _ (List.mem_of_getElem? (i := 23) rfl)) (hw _ (List.mem_of_getElem? (i := 2) rfl)) (by decide) U.1 [.int (Int32.ofNat a), .int (Int32.ofNat b)] rfl rfl (lenOf pd_1 rfl) 22 d3_19 rfl 0 (Nat.le_of_eq rfl) (by decide) (by decide) (by decide) (by decide) fun T v h1 X eh hq1 => ?_
    obtain ⟨rfl, n1, hn1, hf1, hU, U1, K1⟩ := hq1
    rw [if_pos hr]
    have A1 := A.keep K1 (ninS lp (ninS lr nin0))
    refine g_istore K X 24 #[.val (.ref u), .val (.ref la), .val (.int (Int32.ofNat a)), .val (.int (Int32.ofNat b)), .val (.int ((0 : Int32))), .val (.int ((0 : Int32)))] d3_22 rfl rfl ?_
    refine g_aloadN K X 25 d3_24 rfl rfl rfl ?_
    refine g_iloadN K X 26 d3_25 rfl rfl ?_
    refine g_iloadN K X 27 d3_26 rfl rfl ?_
    refine g_static K X eh rfl (met_mg l Z a0 hw la m0 a b hm ha hb h1 n0 A1 gl) (hw _ (List.mem_of_getElem? (i := 29) rfl)) (hw _ (List.mem_of_getElem? (i := 30) rfl)) (hw _ (List.mem_of_getElem? (i := 31) rfl)) (hw _ (List.mem_of_getElem? (i := 17) rfl)) (by decide) [.ref la, .int (Int32.ofNat a), .int (Int32.ofNat b)] rfl rfl (lenOf pd_2 rfl) 30 d3_27 rfl 0 (Nat.le_of_eq rfl) (by decide) (by decide) (by decide) (by decide) fun T v h2 X eh hq2 => ?_
    obtain ⟨rfl, m1, hm1, hd1, A2, K2⟩ := hq2
    have U2 := U1.keep K2 (ninS (fun q => lu q.symm) nin0) (ninS (fun q => lp q.symm) nin0) (ninS (fun q => lr q.symm) nin0)
    refine g_iload K X 32 d3_30 rfl rfl ?_
    refine g_iload K X 34 d3_32 rfl rfl ?_
    refine g_icmpF K X 37 d3_34 rfl (show ¬ (¬ ((0 : Int32)) = ((0 : Int32))) from (fun q => q rfl)) ?_
    refine g_iconst K X (1 : Int32) 38 d3_37 rfl rfl ?_
    refine g_goto K X 42 d3_38 rfl ?_
    exact g_retN K X eh rfl (t := .boolean) (by simp) ((1 : Int32)) rfl d3_42 (by decide) (by decide) ⟨rfl, n1, m1, hn1, hm1, hf1, lc_next ha hb L hU hd1, U2, A2, (keepMore K1 (fun x hx => by simp only [List.mem_cons, List.not_mem_nil, or_false] at hx ⊢; first | (rcases hx with h | h <;> simp [h]; done) | (simp [hx]; done))).trans K2 (fun x hx => Or.inl (by simp only [List.mem_cons, List.not_mem_nil, or_false] at hx ⊢; first | (rcases hx with h | h <;> simp [h]; done) | (simp [hx]; done)))⟩
  · refine g_icmpF K X 9 d3_6 rfl (show ¬ ((Int32.ofNat (dg m0 a)) = (Int32.ofNat (dg m0 b))) from (fun q => hl (own_inj (u_dg _ _) (u_dg _ _) q))) ?_
    have hr : ¬ rt n a = rt n b := fun q => hl ((L a b ha hb).mpr q)
    refine g_iconst K X (1 : Int32) 10 d3_9 rfl rfl ?_
    refine g_goto K X 14 d3_10 rfl ?_
    refine g_istore K X 16 #[.val (.ref u), .val (.ref la), .val (.int (Int32.ofNat a)), .val (.int (Int32.ofNat b)), .val (.int ((1 : Int32))), .unset] d3_14 rfl rfl ?_
    refine g_aloadN K X 17 d3_16 rfl rfl rfl ?_
    refine g_iloadN K X 18 d3_17 rfl rfl ?_
    refine g_iloadN K X 19 d3_18 rfl rfl ?_
    refine g_virtual K X eh rfl (met_unite l Z a0 hw u pa ra n a b hn ha hb hf h0 n0 U ge gr) (hw _ (List.mem_of_getElem? (i := 19) rfl)) (hw _ (List.mem_of_getElem? (i := 20) rfl)) (hw _ (List.mem_of_getElem? (i := 22) rfl)) (hw _ (List.mem_of_getElem? (i := 21) rfl)) (hw _ (List.mem_of_getElem? (i := 23) rfl)) (hw _ (List.mem_of_getElem? (i := 2) rfl)) (by decide) U.1 [.int (Int32.ofNat a), .int (Int32.ofNat b)] rfl rfl (lenOf pd_1 rfl) 22 d3_19 rfl 0 (Nat.le_of_eq rfl) (by decide) (by decide) (by decide) (by decide) fun T v h1 X eh hq1 => ?_
    obtain ⟨rfl, n1, hn1, hf1, hU, U1, K1⟩ := hq1
    rw [if_neg hr]
    have A1 := A.keep K1 (ninS lp (ninS lr nin0))
    refine g_istore K X 24 #[.val (.ref u), .val (.ref la), .val (.int (Int32.ofNat a)), .val (.int (Int32.ofNat b)), .val (.int ((1 : Int32))), .val (.int ((1 : Int32)))] d3_22 rfl rfl ?_
    refine g_aloadN K X 25 d3_24 rfl rfl rfl ?_
    refine g_iloadN K X 26 d3_25 rfl rfl ?_
    refine g_iloadN K X 27 d3_26 rfl rfl ?_
    refine g_static K X eh rfl (met_mg l Z a0 hw la m0 a b hm ha hb h1 n0 A1 gl) (hw _ (List.mem_of_getElem? (i := 29) rfl)) (hw _ (List.mem_of_getElem? (i := 30) rfl)) (hw _ (List.mem_of_getElem? (i := 31) rfl)) (hw _ (List.mem_of_getElem? (i := 17) rfl)) (by decide) [.ref la, .int (Int32.ofNat a), .int (Int32.ofNat b)] rfl rfl (lenOf pd_2 rfl) 30 d3_27 rfl 0 (Nat.le_of_eq rfl) (by decide) (by decide) (by decide) (by decide) fun T v h2 X eh hq2 => ?_
    obtain ⟨rfl, m1, hm1, hd1, A2, K2⟩ := hq2
    have U2 := U1.keep K2 (ninS (fun q => lu q.symm) nin0) (ninS (fun q => lp q.symm) nin0) (ninS (fun q => lr q.symm) nin0)
    refine g_iload K X 32 d3_30 rfl rfl ?_
    refine g_iload K X 34 d3_32 rfl rfl ?_
    refine g_icmpF K X 37 d3_34 rfl (show ¬ (¬ ((1 : Int32)) = ((1 : Int32))) from (fun q => q rfl)) ?_
    refine g_iconst K X (1 : Int32) 38 d3_37 rfl rfl ?_
    refine g_goto K X 42 d3_38 rfl ?_
    exact g_retN K X eh rfl (t := .boolean) (by simp) ((1 : Int32)) rfl d3_42 (by decide) (by decide) ⟨rfl, n1, m1, hn1, hm1, hf1, lc_next ha hb L hU hd1, U2, A2, (keepMore K1 (fun x hx => by simp only [List.mem_cons, List.not_mem_nil, or_false] at hx ⊢; first | (rcases hx with h | h <;> simp [h]; done) | (simp [hx]; done))).trans K2 (fun x hx => Or.inl (by simp only [List.mem_cons, List.not_mem_nil, or_false] at hx ⊢; first | (rcases hx with h | h <;> simp [h]; done) | (simp [hx]; done)))⟩
theorem d7_0 : decode method_5_code 0 = .ok (.aload_n 0, 1) := by decide +kernel
theorem d7_1 : decode method_5_code 1 = .ok (.iload_n 2, 1) := by decide +kernel
theorem d7_2 : decode method_5_code 2 = .ok (.iaload, 1) := by decide +kernel
theorem d7_3 : decode method_5_code 3 = .ok (.istore_n 3, 1) := by decide +kernel
theorem d7_4 : decode method_5_code 4 = .ok (.iload_n 3, 1) := by decide +kernel
theorem d7_5 : decode method_5_code 5 = .ok (.ifCond .lt 8, 3) := by decide +kernel
theorem d7_8 : decode method_5_code 8 = .ok (.iload_n 3, 1) := by decide +kernel
theorem d7_9 : decode method_5_code 9 = .ok (.iconst 3, 1) := by decide +kernel
theorem d7_10 : decode method_5_code 10 = .ok (.if_icmp .le 5, 3) := by decide +kernel
theorem d7_13 : decode method_5_code 13 = .ok (.iconst 0, 1) := by decide +kernel
theorem d7_14 : decode method_5_code 14 = .ok (.ireturn, 1) := by decide +kernel
theorem d7_15 : decode method_5_code 15 = .ok (.aload_n 1, 1) := by decide +kernel
theorem d7_16 : decode method_5_code 16 = .ok (.iload_n 3, 1) := by decide +kernel
theorem d7_17 : decode method_5_code 17 = .ok (.iaload, 1) := by decide +kernel
theorem d7_18 : decode method_5_code 18 = .ok (.aload_n 1, 1) := by decide +kernel
theorem d7_19 : decode method_5_code 19 = .ok (.iload_n 2, 1) := by decide +kernel
theorem d7_20 : decode method_5_code 20 = .ok (.iaload, 1) := by decide +kernel
theorem d7_21 : decode method_5_code 21 = .ok (.if_icmp .ne 7, 3) := by decide +kernel
theorem d7_24 : decode method_5_code 24 = .ok (.iconst 1, 1) := by decide +kernel
theorem d7_25 : decode method_5_code 25 = .ok (.goto 4, 3) := by decide +kernel
theorem d7_28 : decode method_5_code 28 = .ok (.iconst 0, 1) := by decide +kernel
theorem d7_29 : decode method_5_code 29 = .ok (.ireturn, 1) := by decide +kernel
set_option maxRecDepth 65536 in
set_option maxHeartbeats 40000000 in
theorem met_rep (l : Launch) (Z : State) (a0 : Array Value) (hw : ∀ d ∈ tables_1, d.before a0 Z = true) (fa la : Addr) (n m0 i : Nat) (hi : i < 4) (hf : fo n = true) (L : LC n m0) (h0 : Heap) (n0 : Nat) (F : Ai Z h0 fa .int 4 (rf n)) (A : Ai Z h0 la .int 4 (df m0)) :
    Met l Z (⟨"com/example/rowan/rowan/check/UnionFindFindPinLaw", "member", "([I[II)Z"⟩ : MethodName) method_5_code 4 (some .boolean) [] rmR #[.ref fa, .ref la, .int (Int32.ofNat i)] h0 n0 (fun v h' => v = some (.int 1) ∧ h0 = h') := by
  refine Met.of (plainFor_of_name (by first | (simp [plainName, overriddenIn]; done) | decide +kernel)) #[.val (.ref fa), .val (.ref la), .val (.int (Int32.ofNat i)), .unset] (fun m => by first | (simp [entryFrame, mkF, argsToLocals, Value.category]; done) | rfl) ?_
  intro p e s m below meth c T K X eh
  refine g_aloadN K X 1 d7_0 rfl rfl rfl ?_
  refine g_iloadN K X 2 d7_1 rfl rfl ?_
  refine g_iaload K X eh F i (own_i0 hi) hi (Int32.ofNat (rt n i)) rfl 3 d7_2 rfl ?_
  refine g_istoreN K X 4 #[.val (.ref fa), .val (.ref la), .val (.int (Int32.ofNat i)), .val (.int (Int32.ofNat (rt n i)))] d7_3 rfl rfl ?_
  refine g_iloadN K X 5 d7_4 rfl rfl ?_
  refine g_ifF K X 8 d7_5 rfl (show ¬ ((Int32.ofNat (rt n i)) < 0) from (own_nn (u_rt _ _))) ?_
  refine g_iloadN K X 9 d7_8 rfl rfl ?_
  refine g_iconst K X (3 : Int32) 10 d7_9 rfl rfl ?_
  refine g_icmpT K X 15 d7_10 rfl (show ¬ ((3 : Int32)) < (Int32.ofNat (rt n i)) from (own_l3 (u_rt _ _))) ?_
  refine g_aloadN K X 16 d7_15 rfl rfl rfl ?_
  refine g_iloadN K X 17 d7_16 rfl rfl ?_
  refine g_iaload K X eh A (rt n i) (own_i0 (u_rt _ _)) (u_rt _ _) (Int32.ofNat (dg m0 (rt n i))) rfl 18 d7_17 rfl ?_
  refine g_aloadN K X 19 d7_18 rfl rfl rfl ?_
  refine g_iloadN K X 20 d7_19 rfl rfl ?_
  refine g_iaload K X eh A i (own_i0 hi) hi (Int32.ofNat (dg m0 i)) rfl 21 d7_20 rfl ?_
  refine g_icmpF K X 24 d7_21 rfl (show ¬ (¬ (Int32.ofNat (dg m0 (rt n i))) = (Int32.ofNat (dg m0 i))) from (fun q => q (by rw [(L (rt n i) i (u_rt _ _) hi).mpr (u_rr hf hi)]))) ?_
  refine g_iconst K X (1 : Int32) 25 d7_24 rfl rfl ?_
  refine g_goto K X 29 d7_25 rfl ?_
  exact g_retN K X eh rfl (t := .boolean) (by simp) ((1 : Int32)) rfl d7_29 (by decide) (by decide) ⟨rfl, rfl⟩
theorem d8_0 : decode method_4_code 0 = .ok (.aload_n 0, 1) := by decide +kernel
theorem d8_1 : decode method_4_code 1 = .ok (.iload_n 2, 1) := by decide +kernel
theorem d8_2 : decode method_4_code 2 = .ok (.iaload, 1) := by decide +kernel
theorem d8_3 : decode method_4_code 3 = .ok (.aload_n 0, 1) := by decide +kernel
theorem d8_4 : decode method_4_code 4 = .ok (.iload_n 3, 1) := by decide +kernel
theorem d8_5 : decode method_4_code 5 = .ok (.iaload, 1) := by decide +kernel
theorem d8_6 : decode method_4_code 6 = .ok (.if_icmp .ne 7, 3) := by decide +kernel
theorem d8_9 : decode method_4_code 9 = .ok (.iconst 1, 1) := by decide +kernel
theorem d8_10 : decode method_4_code 10 = .ok (.goto 4, 3) := by decide +kernel
theorem d8_13 : decode method_4_code 13 = .ok (.iconst 0, 1) := by decide +kernel
theorem d8_14 : decode method_4_code 14 = .ok (.aload_n 1, 1) := by decide +kernel
theorem d8_15 : decode method_4_code 15 = .ok (.iload_n 2, 1) := by decide +kernel
theorem d8_16 : decode method_4_code 16 = .ok (.iaload, 1) := by decide +kernel
theorem d8_17 : decode method_4_code 17 = .ok (.aload_n 1, 1) := by decide +kernel
theorem d8_18 : decode method_4_code 18 = .ok (.iload_n 3, 1) := by decide +kernel
theorem d8_19 : decode method_4_code 19 = .ok (.iaload, 1) := by decide +kernel
theorem d8_20 : decode method_4_code 20 = .ok (.if_icmp .ne 7, 3) := by decide +kernel
theorem d8_23 : decode method_4_code 23 = .ok (.iconst 1, 1) := by decide +kernel
theorem d8_24 : decode method_4_code 24 = .ok (.goto 4, 3) := by decide +kernel
theorem d8_27 : decode method_4_code 27 = .ok (.iconst 0, 1) := by decide +kernel
theorem d8_28 : decode method_4_code 28 = .ok (.if_icmp .ne 7, 3) := by decide +kernel
theorem d8_31 : decode method_4_code 31 = .ok (.iconst 1, 1) := by decide +kernel
theorem d8_32 : decode method_4_code 32 = .ok (.goto 4, 3) := by decide +kernel
theorem d8_35 : decode method_4_code 35 = .ok (.iconst 0, 1) := by decide +kernel
theorem d8_36 : decode method_4_code 36 = .ok (.ireturn, 1) := by decide +kernel
set_option maxRecDepth 65536 in
set_option maxHeartbeats 40000000 in
theorem met_same (l : Launch) (Z : State) (a0 : Array Value) (hw : ∀ d ∈ tables_1, d.before a0 Z = true) (fa la : Addr) (n m0 i j : Nat) (hi : i < 4) (hj : j < 4) (L : LC n m0) (h0 : Heap) (n0 : Nat) (F : Ai Z h0 fa .int 4 (rf n)) (A : Ai Z h0 la .int 4 (df m0)) :
    Met l Z (⟨"com/example/rowan/rowan/check/UnionFindFindPinLaw", "pair", "([I[III)Z"⟩ : MethodName) method_4_code 4 (some .boolean) [] rmR #[.ref fa, .ref la, .int (Int32.ofNat i), .int (Int32.ofNat j)] h0 n0 (fun v h' => v = some (.int 1) ∧ h0 = h') := by
  refine Met.of (plainFor_of_name (by first | (simp [plainName, overriddenIn]; done) | decide +kernel)) #[.val (.ref fa), .val (.ref la), .val (.int (Int32.ofNat i)), .val (.int (Int32.ofNat j))] (fun m => by first | (simp [entryFrame, mkF, argsToLocals, Value.category]; done) | rfl) ?_
  intro p e s m below meth c T K X eh
  refine g_aloadN K X 1 d8_0 rfl rfl rfl ?_
  refine g_iloadN K X 2 d8_1 rfl rfl ?_
  refine g_iaload K X eh F i (own_i0 hi) hi (Int32.ofNat (rt n i)) rfl 3 d8_2 rfl ?_
  refine g_aloadN K X 4 d8_3 rfl rfl rfl ?_
  refine g_iloadN K X 5 d8_4 rfl rfl ?_
  refine g_iaload K X eh F j (own_i0 hj) hj (Int32.ofNat (rt n j)) rfl 6 d8_5 rfl ?_
  by_cases hq : rt n i = rt n j
  · refine g_icmpF K X 9 d8_6 rfl (show ¬ (¬ (Int32.ofNat (rt n i)) = (Int32.ofNat (rt n j))) from (fun q => q (by rw [hq]))) ?_
    refine g_iconst K X (1 : Int32) 10 d8_9 rfl rfl ?_
    refine g_goto K X 14 d8_10 rfl ?_
    refine g_aloadN K X 15 d8_14 rfl rfl rfl ?_
    refine g_iloadN K X 16 d8_15 rfl rfl ?_
    refine g_iaload K X eh A i (own_i0 hi) hi (Int32.ofNat (dg m0 i)) rfl 17 d8_16 rfl ?_
    refine g_aloadN K X 18 d8_17 rfl rfl rfl ?_
    refine g_iloadN K X 19 d8_18 rfl rfl ?_
    refine g_iaload K X eh A j (own_i0 hj) hj (Int32.ofNat (dg m0 j)) rfl 20 d8_19 rfl ?_
    refine g_icmpF K X 23 d8_20 rfl (show ¬ (¬ (Int32.ofNat (dg m0 i)) = (Int32.ofNat (dg m0 j))) from (fun q => q (by rw [(L i j hi hj).mpr hq]))) ?_
    refine g_iconst K X (1 : Int32) 24 d8_23 rfl rfl ?_
    refine g_goto K X 28 d8_24 rfl ?_
    refine g_icmpF K X 31 d8_28 rfl (show ¬ (¬ ((1 : Int32)) = ((1 : Int32))) from (fun q => q rfl)) ?_
    refine g_iconst K X (1 : Int32) 32 d8_31 rfl rfl ?_
    refine g_goto K X 36 d8_32 rfl ?_
    exact g_retN K X eh rfl (t := .boolean) (by simp) ((1 : Int32)) rfl d8_36 (by decide) (by decide) ⟨rfl, rfl⟩
  · refine g_icmpT K X 13 d8_6 rfl (show ¬ (Int32.ofNat (rt n i)) = (Int32.ofNat (rt n j)) from (fun q => hq (own_inj (u_rt _ _) (u_rt _ _) q))) ?_
    refine g_iconst K X (0 : Int32) 14 d8_13 rfl rfl ?_
    refine g_aloadN K X 15 d8_14 rfl rfl rfl ?_
    refine g_iloadN K X 16 d8_15 rfl rfl ?_
    refine g_iaload K X eh A i (own_i0 hi) hi (Int32.ofNat (dg m0 i)) rfl 17 d8_16 rfl ?_
    refine g_aloadN K X 18 d8_17 rfl rfl rfl ?_
    refine g_iloadN K X 19 d8_18 rfl rfl ?_
    refine g_iaload K X eh A j (own_i0 hj) hj (Int32.ofNat (dg m0 j)) rfl 20 d8_19 rfl ?_
    refine g_icmpT K X 27 d8_20 rfl (show ¬ (Int32.ofNat (dg m0 i)) = (Int32.ofNat (dg m0 j)) from (fun q => hq ((L i j hi hj).mp (own_inj (u_dg _ _) (u_dg _ _) q)))) ?_
    refine g_iconst K X (0 : Int32) 28 d8_27 rfl rfl ?_
    refine g_icmpF K X 31 d8_28 rfl (show ¬ (¬ ((0 : Int32)) = ((0 : Int32))) from (fun q => q rfl)) ?_
    refine g_iconst K X (1 : Int32) 32 d8_31 rfl rfl ?_
    refine g_goto K X 36 d8_32 rfl ?_
    exact g_retN K X eh rfl (t := .boolean) (by simp) ((1 : Int32)) rfl d8_36 (by decide) (by decide) ⟨rfl, rfl⟩
set_option maxRecDepth 65536 in
set_option maxHeartbeats 40000000 in
theorem met_law (l : Launch) (Z : State) (a0 : Array Value) (hw : ∀ d ∈ tables_1, d.before a0 Z = true) (x0 x1 x2 x3 : Int32) (h0 : Heap) (n0 : Nat) (Z0 : n0 ≤ h0.size) :
    Met l Z x code maxLocals ret tables_1 room_1 #[.int x0, .int x1, .int x2, .int x3] h0 n0 (fun v h' => v = some (.int 1)) := by
  refine Met.of (plainFor_of_name (by first | (simp [plainName, overriddenIn]; done) | decide +kernel)) #[.val (.int x0), .val (.int x1), .val (.int x2), .val (.int x3), .unset, .unset, .unset, .unset, .unset, .unset, .unset, .unset, .unset, .unset] (fun m => by first | (simp [entryFrame, mkF, argsToLocals, Value.category, maxLocals]; done) | rfl) ?_
  intro p e s m below meth c T K X eh
  refine g_new K X eh (hw _ (List.mem_of_getElem? (i := 0) rfl)) (hw _ (List.mem_of_getElem? (i := 1) rfl)) (hw _ (List.mem_of_getElem? (i := 2) rfl)) 3 at_0 rfl (by decide) (by decide) fun T h1 u gu X eh E1 Eu D => ?_
  have ge : n0 ≤ u := gu ▸ Z0
  refine g_dup K X 4 at_3 rfl rfl ?_
  refine g_iconst K X (4 : Int32) 5 at_4 rfl rfl ?_
  refine g_special K X eh rfl rfl (met_init l Z a0 hw u h1 n0 (Nat.le_trans Z0 E1.1) ge Eu (D (Or.inr (hw _ (List.mem_of_getElem? (i := 11) rfl))) (ty := .array .int) (by decide)) (D (Or.inr (hw _ (List.mem_of_getElem? (i := 14) rfl))) (ty := .array .byte) (by decide))) (hw _ (List.mem_of_getElem? (i := 3) rfl)) (hw _ (List.mem_of_getElem? (i := 4) rfl)) (hw _ (List.mem_of_getElem? (i := 5) rfl)) (hw _ (List.mem_of_getElem? (i := 2) rfl)) (by decide) (a := u) [.int ((4 : Int32))] rfl rfl (lenOf pd_3 rfl) 8 at_5 rfl 1 (Nat.le_of_eq rfl) (by decide) (by decide) (by decide) (by decide) fun T v h2 X eh hq => ?_
  obtain ⟨rfl, pa, ra, U, K2, gep, ger⟩ := hq
  have Z2 : n0 ≤ h2.size := Nat.le_trans Z0 (Nat.le_trans E1.1 K2.1)
  refine g_astore K X 10 #[.val (.int x0), .val (.int x1), .val (.int x2), .val (.int x3), .val (.ref u), .unset, .unset, .unset, .unset, .unset, .unset, .unset, .unset, .unset] at_8 rfl rfl rfl ?_
  refine g_iconst K X (4 : Int32) 11 at_10 rfl rfl ?_
  refine g_newA K X eh (hw _ (List.mem_of_getElem? (i := 9) rfl)) 13 at_11 rfl (n := 4) (cap := 4) rfl (by decide) (by decide) rfl (by decide) (by decide) fun T h3 la gl X eh E3 A _ => ?_
  have gel : n0 ≤ la := gl ▸ Z2
  have lu : la ≠ u := fun q => absurd U.1.lt (by rw [← q, gl]; exact Nat.lt_irrefl _)
  have lp : la ≠ pa := fun q => absurd U.2.2.2.1.lt (by rw [← q, gl]; exact Nat.lt_irrefl _)
  have lr : la ≠ ra := fun q => absurd (let ⟨_, G⟩ := U.2.2.2.2.1; G.lt) (by rw [← q, gl]; exact Nat.lt_irrefl _)
  replace U := U.ext E3
  refine g_dup K X 14 at_13 rfl rfl ?_
  refine g_iconst K X (0 : Int32) 15 at_14 rfl rfl ?_
  refine g_iconst K X (0 : Int32) 16 at_15 rfl rfl ?_
  refine g_iastore K X eh A 0 rfl (by decide) ((0 : Int32)) rfl gel 17 at_16 rfl fun T h X eh W A => ?_
  replace U := U.other W (fun q => lu q.symm) (fun q => lp q.symm) (fun q => lr q.symm)
  refine g_dup K X 18 at_17 rfl rfl ?_
  refine g_iconst K X (1 : Int32) 19 at_18 rfl rfl ?_
  refine g_iconst K X (1 : Int32) 20 at_19 rfl rfl ?_
  refine g_iastore K X eh A 1 rfl (by decide) ((1 : Int32)) rfl gel 21 at_20 rfl fun T h X eh W A => ?_
  replace U := U.other W (fun q => lu q.symm) (fun q => lp q.symm) (fun q => lr q.symm)
  refine g_dup K X 22 at_21 rfl rfl ?_
  refine g_iconst K X (2 : Int32) 23 at_22 rfl rfl ?_
  refine g_iconst K X (2 : Int32) 24 at_23 rfl rfl ?_
  refine g_iastore K X eh A 2 rfl (by decide) ((2 : Int32)) rfl gel 25 at_24 rfl fun T h X eh W A => ?_
  replace U := U.other W (fun q => lu q.symm) (fun q => lp q.symm) (fun q => lr q.symm)
  refine g_dup K X 26 at_25 rfl rfl ?_
  refine g_iconst K X (3 : Int32) 27 at_26 rfl rfl ?_
  refine g_iconst K X (3 : Int32) 28 at_27 rfl rfl ?_
  refine g_iastore K X eh A 3 rfl (by decide) ((3 : Int32)) rfl gel 29 at_28 rfl fun T h X eh W A => ?_
  replace U := U.other W (fun q => lu q.symm) (fun q => lp q.symm) (fun q => lr q.symm)
  replace A : Ai Z h la .int 4 (df 228) := A.congr (u_four rfl rfl rfl rfl)
  refine g_astore K X 31 #[.val (.int x0), .val (.int x1), .val (.int x2), .val (.int x3), .val (.ref u), .val (.ref la), .unset, .unset, .unset, .unset, .unset, .unset, .unset, .unset] at_29 rfl rfl rfl ?_
  refine g_iconst K X (4 : Int32) 32 at_31 rfl rfl ?_
  have Zh : n0 ≤ h.size := Nat.le_trans gel (Nat.le_of_lt A.lt)
  refine g_newA K X eh (hw _ (List.mem_of_getElem? (i := 9) rfl)) 34 at_32 rfl (n := 4) (cap := 4) rfl (by decide) (by decide) rfl (by decide) (by decide) fun T h5 fa gf X eh E5 F _ => ?_
  have gef : n0 ≤ fa := gf ▸ Zh
  have fu : fa ≠ u := fun q => absurd U.1.lt (by rw [← q, gf]; exact Nat.lt_irrefl _)
  have fp : fa ≠ pa := fun q => absurd U.2.2.2.1.lt (by rw [← q, gf]; exact Nat.lt_irrefl _)
  have fr : fa ≠ ra := fun q => absurd (let ⟨_, G⟩ := U.2.2.2.2.1; G.lt) (by rw [← q, gf]; exact Nat.lt_irrefl _)
  have fl : fa ≠ la := fun q => absurd A.lt (by rw [← q, gf]; exact Nat.lt_irrefl _)
  replace U := U.ext E5
  replace A := A.ext E5
  obtain ⟨n, hn, hf, m0, hm, L, U, A⟩ : ∃ n, n < 256 ∧ fo n = true ∧ ∃ m0, m0 < 256 ∧ LC n m0 ∧ UFs Z h5 u pa ra n ∧ Ai Z h5 la .int 4 (df m0) := ⟨228, by decide, by decide, 228, by decide, lc_start, U, A⟩
  obtain ⟨i0, hi0, ei0⟩ := own_and3 x0
  obtain ⟨j0, hj0, ej0⟩ := own_and3 (XT.ushr x0 (2 : Int32))
  refine g_astore K X 36 #[.val (.int x0), .val (.int x1), .val (.int x2), .val (.int x3), .val (.ref u), .val (.ref la), .val (.ref fa), .unset, .unset, .unset, .unset, .unset, .unset, .unset] at_34 rfl rfl rfl ?_
  refine g_aload K X 38 at_36 rfl rfl rfl ?_
  refine g_aload K X 40 at_38 rfl rfl rfl ?_
  refine g_iloadN K X 41 at_40 rfl rfl ?_
  refine g_iconst K X (3 : Int32) 42 at_41 rfl rfl ?_
  refine g_iand K X 43 at_42 rfl ?_
  refine g_eqI (y := Int32.ofNat i0) (ei0) ?_
  refine g_iloadN K X 44 at_43 rfl rfl ?_
  refine g_iconst K X (2 : Int32) 45 at_44 rfl rfl ?_
  refine g_iushr K X 46 at_45 rfl ?_
  refine g_iconst K X (3 : Int32) 47 at_46 rfl rfl ?_
  refine g_iand K X 48 at_47 rfl ?_
  refine g_eqI (y := Int32.ofNat j0) (ej0) ?_
  refine g_static K X eh rfl (met_step l Z a0 hw u pa ra la n m0 i0 j0 hn hm hi0 hj0 hf L h5 n0 U A gep ger gel lu lp lr) (hw _ (List.mem_of_getElem? (i := 15) rfl)) (hw _ (List.mem_of_getElem? (i := 16) rfl)) (hw _ (List.mem_of_getElem? (i := 18) rfl)) (hw _ (List.mem_of_getElem? (i := 17) rfl)) (by decide) [.ref u, .ref la, .int (Int32.ofNat i0), .int (Int32.ofNat j0)] rfl rfl (lenOf pd_4 rfl) 51 at_48 rfl 0 (Nat.le_of_eq rfl) (by decide) (by decide) (by decide) (by decide) fun T v h X eh hq => ?_
  clear U A L hf hn hm
  obtain ⟨rfl, n, m0, hn, hm, hf, L, U, A, Kp⟩ := hq
  replace F := F.keep Kp (ninS fp (ninS fr (ninS fl nin0)))
  refine g_ifT K X 56 at_51 rfl (show ¬ ((1 : Int32)) = 0 from (by decide)) ?_
  obtain ⟨i1, hi1, ei1⟩ := own_and3 x1
  obtain ⟨j1, hj1, ej1⟩ := own_and3 (XT.ushr x1 (2 : Int32))
  refine g_aload K X 58 at_56 rfl rfl rfl ?_
  refine g_aload K X 60 at_58 rfl rfl rfl ?_
  refine g_iloadN K X 61 at_60 rfl rfl ?_
  refine g_iconst K X (3 : Int32) 62 at_61 rfl rfl ?_
  refine g_iand K X 63 at_62 rfl ?_
  refine g_eqI (y := Int32.ofNat i1) (ei1) ?_
  refine g_iloadN K X 64 at_63 rfl rfl ?_
  refine g_iconst K X (2 : Int32) 65 at_64 rfl rfl ?_
  refine g_iushr K X 66 at_65 rfl ?_
  refine g_iconst K X (3 : Int32) 67 at_66 rfl rfl ?_
  refine g_iand K X 68 at_67 rfl ?_
  refine g_eqI (y := Int32.ofNat j1) (ej1) ?_
  refine g_static K X eh rfl (met_step l Z a0 hw u pa ra la n m0 i1 j1 hn hm hi1 hj1 hf L h n0 U A gep ger gel lu lp lr) (hw _ (List.mem_of_getElem? (i := 15) rfl)) (hw _ (List.mem_of_getElem? (i := 16) rfl)) (hw _ (List.mem_of_getElem? (i := 18) rfl)) (hw _ (List.mem_of_getElem? (i := 17) rfl)) (by decide) [.ref u, .ref la, .int (Int32.ofNat i1), .int (Int32.ofNat j1)] rfl rfl (lenOf pd_4 rfl) 71 at_68 rfl 0 (Nat.le_of_eq rfl) (by decide) (by decide) (by decide) (by decide) fun T v h X eh hq => ?_
  clear U A L hf hn hm
  obtain ⟨rfl, n, m0, hn, hm, hf, L, U, A, Kp⟩ := hq
  replace F := F.keep Kp (ninS fp (ninS fr (ninS fl nin0)))
  refine g_ifT K X 76 at_71 rfl (show ¬ ((1 : Int32)) = 0 from (by decide)) ?_
  obtain ⟨i2, hi2, ei2⟩ := own_and3 x2
  obtain ⟨j2, hj2, ej2⟩ := own_and3 (XT.ushr x2 (2 : Int32))
  refine g_aload K X 78 at_76 rfl rfl rfl ?_
  refine g_aload K X 80 at_78 rfl rfl rfl ?_
  refine g_iloadN K X 81 at_80 rfl rfl ?_
  refine g_iconst K X (3 : Int32) 82 at_81 rfl rfl ?_
  refine g_iand K X 83 at_82 rfl ?_
  refine g_eqI (y := Int32.ofNat i2) (ei2) ?_
  refine g_iloadN K X 84 at_83 rfl rfl ?_
  refine g_iconst K X (2 : Int32) 85 at_84 rfl rfl ?_
  refine g_iushr K X 86 at_85 rfl ?_
  refine g_iconst K X (3 : Int32) 87 at_86 rfl rfl ?_
  refine g_iand K X 88 at_87 rfl ?_
  refine g_eqI (y := Int32.ofNat j2) (ej2) ?_
  refine g_static K X eh rfl (met_step l Z a0 hw u pa ra la n m0 i2 j2 hn hm hi2 hj2 hf L h n0 U A gep ger gel lu lp lr) (hw _ (List.mem_of_getElem? (i := 15) rfl)) (hw _ (List.mem_of_getElem? (i := 16) rfl)) (hw _ (List.mem_of_getElem? (i := 18) rfl)) (hw _ (List.mem_of_getElem? (i := 17) rfl)) (by decide) [.ref u, .ref la, .int (Int32.ofNat i2), .int (Int32.ofNat j2)] rfl rfl (lenOf pd_4 rfl) 91 at_88 rfl 0 (Nat.le_of_eq rfl) (by decide) (by decide) (by decide) (by decide) fun T v h X eh hq => ?_
  clear U A L hf hn hm
  obtain ⟨rfl, n, m0, hn, hm, hf, L, U, A, Kp⟩ := hq
  replace F := F.keep Kp (ninS fp (ninS fr (ninS fl nin0)))
  refine g_ifT K X 96 at_91 rfl (show ¬ ((1 : Int32)) = 0 from (by decide)) ?_
  obtain ⟨k, hk, ek⟩ := own_and3 x3
  refine g_iloadN K X 97 at_96 rfl rfl ?_
  refine g_iconst K X (3 : Int32) 98 at_97 rfl rfl ?_
  refine g_iand K X 99 at_98 rfl ?_
  refine g_eqI (y := Int32.ofNat k) (ek) ?_
  refine g_istore K X 101 #[.val (.int x0), .val (.int x1), .val (.int x2), .val (.int x3), .val (.ref u), .val (.ref la), .val (.ref fa), .val (.int (Int32.ofNat k)), .unset, .unset, .unset, .unset, .unset, .unset] at_99 rfl rfl ?_
  refine g_iload K X 103 at_101 rfl rfl ?_
  refine g_istore K X 105 #[.val (.int x0), .val (.int x1), .val (.int x2), .val (.int x3), .val (.ref u), .val (.ref la), .val (.ref fa), .val (.int (Int32.ofNat k)), .val (.int (Int32.ofNat k)), .unset, .unset, .unset, .unset, .unset] at_103 rfl rfl ?_
  refine g_iload K X 107 at_105 rfl rfl ?_
  refine g_iconst K X (1 : Int32) 108 at_107 rfl rfl ?_
  refine g_iadd K X 109 at_108 rfl ?_
  refine g_iconst K X (3 : Int32) 110 at_109 rfl rfl ?_
  refine g_iand K X 111 at_110 rfl ?_
  refine g_eqI (y := Int32.ofNat ((k + 1) % 4)) (own_rot1 hk) ?_
  refine g_istore K X 113 #[.val (.int x0), .val (.int x1), .val (.int x2), .val (.int x3), .val (.ref u), .val (.ref la), .val (.ref fa), .val (.int (Int32.ofNat k)), .val (.int (Int32.ofNat k)), .val (.int (Int32.ofNat ((k + 1) % 4))), .unset, .unset, .unset, .unset] at_111 rfl rfl ?_
  refine g_iload K X 115 at_113 rfl rfl ?_
  refine g_iconst K X (2 : Int32) 116 at_115 rfl rfl ?_
  refine g_iadd K X 117 at_116 rfl ?_
  refine g_iconst K X (3 : Int32) 118 at_117 rfl rfl ?_
  refine g_iand K X 119 at_118 rfl ?_
  refine g_eqI (y := Int32.ofNat ((k + 2) % 4)) (own_rot2 hk) ?_
  refine g_istore K X 121 #[.val (.int x0), .val (.int x1), .val (.int x2), .val (.int x3), .val (.ref u), .val (.ref la), .val (.ref fa), .val (.int (Int32.ofNat k)), .val (.int (Int32.ofNat k)), .val (.int (Int32.ofNat ((k + 1) % 4))), .val (.int (Int32.ofNat ((k + 2) % 4))), .unset, .unset, .unset] at_119 rfl rfl ?_
  refine g_iload K X 123 at_121 rfl rfl ?_
  refine g_iconst K X (3 : Int32) 124 at_123 rfl rfl ?_
  refine g_iadd K X 125 at_124 rfl ?_
  refine g_iconst K X (3 : Int32) 126 at_125 rfl rfl ?_
  refine g_iand K X 127 at_126 rfl ?_
  refine g_eqI (y := Int32.ofNat ((k + 3) % 4)) (own_rot3 hk) ?_
  obtain ⟨n1, hn1, hf1, S1, U⟩ : ∃ n1, n1 < 256 ∧ fo n1 = true ∧ SR n n1 ∧ UFs Z h u pa ra n1 := ⟨n, hn, hf, fun _ _ => rfl, U⟩
  refine g_istore K X 129 #[.val (.int x0), .val (.int x1), .val (.int x2), .val (.int x3), .val (.ref u), .val (.ref la), .val (.ref fa), .val (.int (Int32.ofNat k)), .val (.int (Int32.ofNat k)), .val (.int (Int32.ofNat ((k + 1) % 4))), .val (.int (Int32.ofNat ((k + 2) % 4))), .val (.int (Int32.ofNat ((k + 3) % 4))), .unset, .unset] at_127 rfl rfl ?_
  refine g_aload K X 131 at_129 rfl rfl rfl ?_
  refine g_iload K X 133 at_131 rfl rfl ?_
  refine g_aload K X 135 at_133 rfl rfl rfl ?_
  refine g_iload K X 137 at_135 rfl rfl ?_
  refine g_virtual K X eh rfl (met_find l Z a0 hw u pa ra n1 (k) hn1 hk hf1 h n0 U gep) (hw _ (List.mem_of_getElem? (i := 32) rfl)) (hw _ (List.mem_of_getElem? (i := 25) rfl)) (hw _ (List.mem_of_getElem? (i := 27) rfl)) (hw _ (List.mem_of_getElem? (i := 26) rfl)) (hw _ (List.mem_of_getElem? (i := 28) rfl)) (hw _ (List.mem_of_getElem? (i := 2) rfl)) (by decide) U.1 [.int (Int32.ofNat k)] rfl rfl (lenOf pd_0 rfl) 140 at_137 rfl 2 (Nat.le_of_eq rfl) (by decide) (by decide) (by decide) (by decide) fun T v h X eh hq => ?_
  clear U
  obtain ⟨rfl, n2, hn2, hf2, Sx, U, Kp⟩ := hq
  rw [S1 _ hk]
  replace A := A.keep Kp (ninS lp nin0)
  replace F := F.keep Kp (ninS fp nin0)
  have S2 : SR n n2 := fun z hz => (Sx z hz).trans (S1 z hz)
  refine g_iastore K X eh F k (own_i0 hk) hk (Int32.ofNat (rt n (k))) rfl gef 141 at_140 rfl fun T h X eh W F => ?_
  replace U := U.other W (fun q => fu q.symm) (fun q => fp q.symm) (fun q => fr q.symm)
  replace A := A.other W (fun q => fl q.symm)
  refine g_aload K X 143 at_141 rfl rfl rfl ?_
  refine g_iload K X 145 at_143 rfl rfl ?_
  refine g_aload K X 147 at_145 rfl rfl rfl ?_
  refine g_iload K X 149 at_147 rfl rfl ?_
  refine g_virtual K X eh rfl (met_find l Z a0 hw u pa ra n2 ((k + 1) % 4) hn2 (Nat.mod_lt _ (by decide)) hf2 h n0 U gep) (hw _ (List.mem_of_getElem? (i := 32) rfl)) (hw _ (List.mem_of_getElem? (i := 25) rfl)) (hw _ (List.mem_of_getElem? (i := 27) rfl)) (hw _ (List.mem_of_getElem? (i := 26) rfl)) (hw _ (List.mem_of_getElem? (i := 28) rfl)) (hw _ (List.mem_of_getElem? (i := 2) rfl)) (by decide) U.1 [.int (Int32.ofNat ((k + 1) % 4))] rfl rfl (lenOf pd_0 rfl) 152 at_149 rfl 2 (Nat.le_of_eq rfl) (by decide) (by decide) (by decide) (by decide) fun T v h X eh hq => ?_
  clear U
  obtain ⟨rfl, n3, hn3, hf3, Sx, U, Kp⟩ := hq
  rw [S2 _ (Nat.mod_lt _ (by decide))]
  replace A := A.keep Kp (ninS lp nin0)
  replace F := F.keep Kp (ninS fp nin0)
  have S3 : SR n n3 := fun z hz => (Sx z hz).trans (S2 z hz)
  refine g_iastore K X eh F ((k + 1) % 4) (own_i0 (Nat.mod_lt _ (by decide))) (Nat.mod_lt _ (by decide)) (Int32.ofNat (rt n ((k + 1) % 4))) rfl gef 153 at_152 rfl fun T h X eh W F => ?_
  replace U := U.other W (fun q => fu q.symm) (fun q => fp q.symm) (fun q => fr q.symm)
  replace A := A.other W (fun q => fl q.symm)
  refine g_aload K X 155 at_153 rfl rfl rfl ?_
  refine g_iload K X 157 at_155 rfl rfl ?_
  refine g_aload K X 159 at_157 rfl rfl rfl ?_
  refine g_iload K X 161 at_159 rfl rfl ?_
  refine g_virtual K X eh rfl (met_find l Z a0 hw u pa ra n3 ((k + 2) % 4) hn3 (Nat.mod_lt _ (by decide)) hf3 h n0 U gep) (hw _ (List.mem_of_getElem? (i := 32) rfl)) (hw _ (List.mem_of_getElem? (i := 25) rfl)) (hw _ (List.mem_of_getElem? (i := 27) rfl)) (hw _ (List.mem_of_getElem? (i := 26) rfl)) (hw _ (List.mem_of_getElem? (i := 28) rfl)) (hw _ (List.mem_of_getElem? (i := 2) rfl)) (by decide) U.1 [.int (Int32.ofNat ((k + 2) % 4))] rfl rfl (lenOf pd_0 rfl) 164 at_161 rfl 2 (Nat.le_of_eq rfl) (by decide) (by decide) (by decide) (by decide) fun T v h X eh hq => ?_
  clear U
  obtain ⟨rfl, n4, hn4, hf4, Sx, U, Kp⟩ := hq
  rw [S3 _ (Nat.mod_lt _ (by decide))]
  replace A := A.keep Kp (ninS lp nin0)
  replace F := F.keep Kp (ninS fp nin0)
  have S4 : SR n n4 := fun z hz => (Sx z hz).trans (S3 z hz)
  refine g_iastore K X eh F ((k + 2) % 4) (own_i0 (Nat.mod_lt _ (by decide))) (Nat.mod_lt _ (by decide)) (Int32.ofNat (rt n ((k + 2) % 4))) rfl gef 165 at_164 rfl fun T h X eh W F => ?_
  replace U := U.other W (fun q => fu q.symm) (fun q => fp q.symm) (fun q => fr q.symm)
  replace A := A.other W (fun q => fl q.symm)
  refine g_aload K X 167 at_165 rfl rfl rfl ?_
  refine g_iload K X 169 at_167 rfl rfl ?_
  refine g_aload K X 171 at_169 rfl rfl rfl ?_
  refine g_iload K X 173 at_171 rfl rfl ?_
  refine g_virtual K X eh rfl (met_find l Z a0 hw u pa ra n4 ((k + 3) % 4) hn4 (Nat.mod_lt _ (by decide)) hf4 h n0 U gep) (hw _ (List.mem_of_getElem? (i := 32) rfl)) (hw _ (List.mem_of_getElem? (i := 25) rfl)) (hw _ (List.mem_of_getElem? (i := 27) rfl)) (hw _ (List.mem_of_getElem? (i := 26) rfl)) (hw _ (List.mem_of_getElem? (i := 28) rfl)) (hw _ (List.mem_of_getElem? (i := 2) rfl)) (by decide) U.1 [.int (Int32.ofNat ((k + 3) % 4))] rfl rfl (lenOf pd_0 rfl) 176 at_173 rfl 2 (Nat.le_of_eq rfl) (by decide) (by decide) (by decide) (by decide) fun T v h X eh hq => ?_
  clear U
  obtain ⟨rfl, n5, hn5, hf5, Sx, U, Kp⟩ := hq
  rw [S4 _ (Nat.mod_lt _ (by decide))]
  replace A := A.keep Kp (ninS lp nin0)
  replace F := F.keep Kp (ninS fp nin0)
  have S5 : SR n n5 := fun z hz => (Sx z hz).trans (S4 z hz)
  refine g_iastore K X eh F ((k + 3) % 4) (own_i0 (Nat.mod_lt _ (by decide))) (Nat.mod_lt _ (by decide)) (Int32.ofNat (rt n ((k + 3) % 4))) rfl gef 177 at_176 rfl fun T h X eh W F => ?_
  replace U := U.other W (fun q => fu q.symm) (fun q => fp q.symm) (fun q => fr q.symm)
  replace A := A.other W (fun q => fl q.symm)
  replace F : Ai Z h fa .int 4 (rf n) := F.congr (own_rotf (rf n) hk)
  refine g_aload K X 179 at_177 rfl rfl rfl ?_
  refine g_aload K X 181 at_179 rfl rfl rfl ?_
  refine g_iconst K X (0 : Int32) 182 at_181 rfl rfl ?_
  refine g_static K X eh rfl (met_rep l Z a0 hw fa la n m0 0 (by decide) hf L h n0 F A) (hw _ (List.mem_of_getElem? (i := 33) rfl)) (hw _ (List.mem_of_getElem? (i := 34) rfl)) (hw _ (List.mem_of_getElem? (i := 35) rfl)) (hw _ (List.mem_of_getElem? (i := 17) rfl)) (by decide) [.ref fa, .ref la, .int ((0 : Int32))] rfl rfl (lenOf pd_5 rfl) 185 at_182 rfl 0 (Nat.le_of_eq rfl) (by decide) (by decide) (by decide) (by decide) fun T v h' X eh hq => ?_
  obtain ⟨rfl, rfl⟩ := hq
  refine g_ifT K X 190 at_185 rfl (show ¬ ((1 : Int32)) = 0 from (by decide)) ?_
  refine g_aload K X 192 at_190 rfl rfl rfl ?_
  refine g_aload K X 194 at_192 rfl rfl rfl ?_
  refine g_iconst K X (1 : Int32) 195 at_194 rfl rfl ?_
  refine g_static K X eh rfl (met_rep l Z a0 hw fa la n m0 1 (by decide) hf L h n0 F A) (hw _ (List.mem_of_getElem? (i := 33) rfl)) (hw _ (List.mem_of_getElem? (i := 34) rfl)) (hw _ (List.mem_of_getElem? (i := 35) rfl)) (hw _ (List.mem_of_getElem? (i := 17) rfl)) (by decide) [.ref fa, .ref la, .int ((1 : Int32))] rfl rfl (lenOf pd_5 rfl) 198 at_195 rfl 0 (Nat.le_of_eq rfl) (by decide) (by decide) (by decide) (by decide) fun T v h' X eh hq => ?_
  obtain ⟨rfl, rfl⟩ := hq
  refine g_ifT K X 203 at_198 rfl (show ¬ ((1 : Int32)) = 0 from (by decide)) ?_
  refine g_aload K X 205 at_203 rfl rfl rfl ?_
  refine g_aload K X 207 at_205 rfl rfl rfl ?_
  refine g_iconst K X (2 : Int32) 208 at_207 rfl rfl ?_
  refine g_static K X eh rfl (met_rep l Z a0 hw fa la n m0 2 (by decide) hf L h n0 F A) (hw _ (List.mem_of_getElem? (i := 33) rfl)) (hw _ (List.mem_of_getElem? (i := 34) rfl)) (hw _ (List.mem_of_getElem? (i := 35) rfl)) (hw _ (List.mem_of_getElem? (i := 17) rfl)) (by decide) [.ref fa, .ref la, .int ((2 : Int32))] rfl rfl (lenOf pd_5 rfl) 211 at_208 rfl 0 (Nat.le_of_eq rfl) (by decide) (by decide) (by decide) (by decide) fun T v h' X eh hq => ?_
  obtain ⟨rfl, rfl⟩ := hq
  refine g_ifT K X 216 at_211 rfl (show ¬ ((1 : Int32)) = 0 from (by decide)) ?_
  refine g_aload K X 218 at_216 rfl rfl rfl ?_
  refine g_aload K X 220 at_218 rfl rfl rfl ?_
  refine g_iconst K X (3 : Int32) 221 at_220 rfl rfl ?_
  refine g_static K X eh rfl (met_rep l Z a0 hw fa la n m0 3 (by decide) hf L h n0 F A) (hw _ (List.mem_of_getElem? (i := 33) rfl)) (hw _ (List.mem_of_getElem? (i := 34) rfl)) (hw _ (List.mem_of_getElem? (i := 35) rfl)) (hw _ (List.mem_of_getElem? (i := 17) rfl)) (by decide) [.ref fa, .ref la, .int ((3 : Int32))] rfl rfl (lenOf pd_5 rfl) 224 at_221 rfl 0 (Nat.le_of_eq rfl) (by decide) (by decide) (by decide) (by decide) fun T v h' X eh hq => ?_
  obtain ⟨rfl, rfl⟩ := hq
  refine g_ifT K X 229 at_224 rfl (show ¬ ((1 : Int32)) = 0 from (by decide)) ?_
  refine g_aload K X 231 at_229 rfl rfl rfl ?_
  refine g_aload K X 233 at_231 rfl rfl rfl ?_
  refine g_iconst K X (0 : Int32) 234 at_233 rfl rfl ?_
  refine g_iconst K X (1 : Int32) 235 at_234 rfl rfl ?_
  refine g_static K X eh rfl (met_same l Z a0 hw fa la n m0 0 1 (by decide) (by decide) L h n0 F A) (hw _ (List.mem_of_getElem? (i := 36) rfl)) (hw _ (List.mem_of_getElem? (i := 37) rfl)) (hw _ (List.mem_of_getElem? (i := 38) rfl)) (hw _ (List.mem_of_getElem? (i := 17) rfl)) (by decide) [.ref fa, .ref la, .int ((0 : Int32)), .int ((1 : Int32))] rfl rfl (lenOf pd_6 rfl) 238 at_235 rfl 0 (Nat.le_of_eq rfl) (by decide) (by decide) (by decide) (by decide) fun T v h' X eh hq => ?_
  obtain ⟨rfl, rfl⟩ := hq
  refine g_ifT K X 243 at_238 rfl (show ¬ ((1 : Int32)) = 0 from (by decide)) ?_
  refine g_aload K X 245 at_243 rfl rfl rfl ?_
  refine g_aload K X 247 at_245 rfl rfl rfl ?_
  refine g_iconst K X (0 : Int32) 248 at_247 rfl rfl ?_
  refine g_iconst K X (2 : Int32) 249 at_248 rfl rfl ?_
  refine g_static K X eh rfl (met_same l Z a0 hw fa la n m0 0 2 (by decide) (by decide) L h n0 F A) (hw _ (List.mem_of_getElem? (i := 36) rfl)) (hw _ (List.mem_of_getElem? (i := 37) rfl)) (hw _ (List.mem_of_getElem? (i := 38) rfl)) (hw _ (List.mem_of_getElem? (i := 17) rfl)) (by decide) [.ref fa, .ref la, .int ((0 : Int32)), .int ((2 : Int32))] rfl rfl (lenOf pd_6 rfl) 252 at_249 rfl 0 (Nat.le_of_eq rfl) (by decide) (by decide) (by decide) (by decide) fun T v h' X eh hq => ?_
  obtain ⟨rfl, rfl⟩ := hq
  refine g_ifT K X 257 at_252 rfl (show ¬ ((1 : Int32)) = 0 from (by decide)) ?_
  refine g_aload K X 259 at_257 rfl rfl rfl ?_
  refine g_aload K X 261 at_259 rfl rfl rfl ?_
  refine g_iconst K X (0 : Int32) 262 at_261 rfl rfl ?_
  refine g_iconst K X (3 : Int32) 263 at_262 rfl rfl ?_
  refine g_static K X eh rfl (met_same l Z a0 hw fa la n m0 0 3 (by decide) (by decide) L h n0 F A) (hw _ (List.mem_of_getElem? (i := 36) rfl)) (hw _ (List.mem_of_getElem? (i := 37) rfl)) (hw _ (List.mem_of_getElem? (i := 38) rfl)) (hw _ (List.mem_of_getElem? (i := 17) rfl)) (by decide) [.ref fa, .ref la, .int ((0 : Int32)), .int ((3 : Int32))] rfl rfl (lenOf pd_6 rfl) 266 at_263 rfl 0 (Nat.le_of_eq rfl) (by decide) (by decide) (by decide) (by decide) fun T v h' X eh hq => ?_
  obtain ⟨rfl, rfl⟩ := hq
  refine g_ifT K X 271 at_266 rfl (show ¬ ((1 : Int32)) = 0 from (by decide)) ?_
  refine g_aload K X 273 at_271 rfl rfl rfl ?_
  refine g_aload K X 275 at_273 rfl rfl rfl ?_
  refine g_iconst K X (1 : Int32) 276 at_275 rfl rfl ?_
  refine g_iconst K X (2 : Int32) 277 at_276 rfl rfl ?_
  refine g_static K X eh rfl (met_same l Z a0 hw fa la n m0 1 2 (by decide) (by decide) L h n0 F A) (hw _ (List.mem_of_getElem? (i := 36) rfl)) (hw _ (List.mem_of_getElem? (i := 37) rfl)) (hw _ (List.mem_of_getElem? (i := 38) rfl)) (hw _ (List.mem_of_getElem? (i := 17) rfl)) (by decide) [.ref fa, .ref la, .int ((1 : Int32)), .int ((2 : Int32))] rfl rfl (lenOf pd_6 rfl) 280 at_277 rfl 0 (Nat.le_of_eq rfl) (by decide) (by decide) (by decide) (by decide) fun T v h' X eh hq => ?_
  obtain ⟨rfl, rfl⟩ := hq
  refine g_ifT K X 285 at_280 rfl (show ¬ ((1 : Int32)) = 0 from (by decide)) ?_
  refine g_aload K X 287 at_285 rfl rfl rfl ?_
  refine g_aload K X 289 at_287 rfl rfl rfl ?_
  refine g_iconst K X (1 : Int32) 290 at_289 rfl rfl ?_
  refine g_iconst K X (3 : Int32) 291 at_290 rfl rfl ?_
  refine g_static K X eh rfl (met_same l Z a0 hw fa la n m0 1 3 (by decide) (by decide) L h n0 F A) (hw _ (List.mem_of_getElem? (i := 36) rfl)) (hw _ (List.mem_of_getElem? (i := 37) rfl)) (hw _ (List.mem_of_getElem? (i := 38) rfl)) (hw _ (List.mem_of_getElem? (i := 17) rfl)) (by decide) [.ref fa, .ref la, .int ((1 : Int32)), .int ((3 : Int32))] rfl rfl (lenOf pd_6 rfl) 294 at_291 rfl 0 (Nat.le_of_eq rfl) (by decide) (by decide) (by decide) (by decide) fun T v h' X eh hq => ?_
  obtain ⟨rfl, rfl⟩ := hq
  refine g_ifT K X 299 at_294 rfl (show ¬ ((1 : Int32)) = 0 from (by decide)) ?_
  refine g_aload K X 301 at_299 rfl rfl rfl ?_
  refine g_aload K X 303 at_301 rfl rfl rfl ?_
  refine g_iconst K X (2 : Int32) 304 at_303 rfl rfl ?_
  refine g_iconst K X (3 : Int32) 305 at_304 rfl rfl ?_
  refine g_static K X eh rfl (met_same l Z a0 hw fa la n m0 2 3 (by decide) (by decide) L h n0 F A) (hw _ (List.mem_of_getElem? (i := 36) rfl)) (hw _ (List.mem_of_getElem? (i := 37) rfl)) (hw _ (List.mem_of_getElem? (i := 38) rfl)) (hw _ (List.mem_of_getElem? (i := 17) rfl)) (by decide) [.ref fa, .ref la, .int ((2 : Int32)), .int ((3 : Int32))] rfl rfl (lenOf pd_6 rfl) 308 at_305 rfl 0 (Nat.le_of_eq rfl) (by decide) (by decide) (by decide) (by decide) fun T v h' X eh hq => ?_
  obtain ⟨rfl, rfl⟩ := hq
  refine g_ifT K X 313 at_308 rfl (show ¬ ((1 : Int32)) = 0 from (by decide)) ?_
  obtain ⟨k2, hk2, ek2⟩ := own_and3 (XT.ushr x3 (2 : Int32))
  refine g_iloadN K X 314 at_313 rfl rfl ?_
  refine g_iconst K X (2 : Int32) 315 at_314 rfl rfl ?_
  refine g_iushr K X 316 at_315 rfl ?_
  refine g_iconst K X (3 : Int32) 317 at_316 rfl rfl ?_
  refine g_iand K X 318 at_317 rfl ?_
  refine g_eqI (y := Int32.ofNat k2) (ek2) ?_
  refine g_istore K X 320 #[.val (.int x0), .val (.int x1), .val (.int x2), .val (.int x3), .val (.ref u), .val (.ref la), .val (.ref fa), .val (.int (Int32.ofNat k)), .val (.int (Int32.ofNat k)), .val (.int (Int32.ofNat ((k + 1) % 4))), .val (.int (Int32.ofNat ((k + 2) % 4))), .val (.int (Int32.ofNat ((k + 3) % 4))), .val (.int (Int32.ofNat k2)), .unset] at_318 rfl rfl ?_
  refine g_aload K X 322 at_320 rfl rfl rfl ?_
  refine g_iload K X 324 at_322 rfl rfl ?_
  refine g_iaload K X eh F k2 (own_i0 hk2) hk2 (Int32.ofNat (rt n k2)) rfl 325 at_324 rfl ?_
  refine g_istore K X 327 #[.val (.int x0), .val (.int x1), .val (.int x2), .val (.int x3), .val (.ref u), .val (.ref la), .val (.ref fa), .val (.int (Int32.ofNat k)), .val (.int (Int32.ofNat k)), .val (.int (Int32.ofNat ((k + 1) % 4))), .val (.int (Int32.ofNat ((k + 2) % 4))), .val (.int (Int32.ofNat ((k + 3) % 4))), .val (.int (Int32.ofNat k2)), .val (.int (Int32.ofNat (rt n k2)))] at_325 rfl rfl ?_
  refine g_aload K X 329 at_327 rfl rfl rfl ?_
  refine g_iload K X 331 at_329 rfl rfl ?_
  refine g_virtual K X eh rfl (met_find l Z a0 hw u pa ra n5 (rt n k2) hn5 (u_rt _ _) hf5 h n0 U gep) (hw _ (List.mem_of_getElem? (i := 32) rfl)) (hw _ (List.mem_of_getElem? (i := 25) rfl)) (hw _ (List.mem_of_getElem? (i := 27) rfl)) (hw _ (List.mem_of_getElem? (i := 26) rfl)) (hw _ (List.mem_of_getElem? (i := 28) rfl)) (hw _ (List.mem_of_getElem? (i := 2) rfl)) (by decide) U.1 [.int (Int32.ofNat (rt n k2))] rfl rfl (lenOf pd_0 rfl) 334 at_331 rfl 0 (Nat.le_of_eq rfl) (by decide) (by decide) (by decide) (by decide) fun T v h X eh hq => ?_
  clear U
  obtain ⟨rfl, n6, hn6, hf6, Sx, U, Kp⟩ := hq
  rw [S5 _ (u_rt _ _), u_rr hf hk2]
  refine g_iload K X 336 at_334 rfl rfl ?_
  refine g_icmpF K X 339 at_336 rfl (show ¬ (¬ (Int32.ofNat (rt n k2)) = (Int32.ofNat (rt n k2))) from (fun q => q rfl)) ?_
  refine g_iconst K X (1 : Int32) 340 at_339 rfl rfl ?_
  refine g_goto K X 344 at_340 rfl ?_
  exact g_retN K X eh rfl (t := .boolean) (by simp) ((1 : Int32)) rfl at_344 (by decide) (by decide) rfl
set_option maxRecDepth 65536 in
set_option maxHeartbeats 40000000 in
theorem comes_1 {Post : Tables → Env → Array Value → State → Outcome → State → Prop} (hpost : ∀ tb e args s v u, (limb_1_1.after args s (.returned v) u = true ∧ limb_1_2.after args s (.returned v) u = true ∧ True) → FrameEnd s (.returned v) u (Jvm.fieldLocs frame_1_writes args s ++ Jvm.arrayLocs frame_1_arrays args s ++ Jvm.staticLocs frame_1_statics s) 24 128 → Post tb e args s (.returned v) u) :
    ArmFor flags0 classFile x code maxLocals ret World_1 tables_1 room_1 Calls_1 rest_1 Pre_1 Post := by
  intro l hfl _ _ p e ha hc hk s m args below hf hA hF happ hP
  obtain ⟨hcalls, hrest, hpre⟩ := hP
  obtain ⟨-, -, -, hnamed, -, -, -, hat⟩ := (Spec.applies_iff hf).mp happ
  obtain ⟨hg, hn⟩ := and_e (Cond.before_iff.mp (show (Jvm.Cond.and given_1 narrow_1).before args s = true from hpre))
  obtain ⟨h1, h2⟩ := and_e hg
  obtain ⟨w0, w1, w2, w3, rfl⟩ : ∃ w0 w1 w2 w3 : Value, args = #[w0, w1, w2, w3] := by
    have hs : args.size = 4 := by simpa [Cond.value, given_1] using h1
    obtain ⟨L⟩ := args
    match L, hs with
    | [w0, w1, w2, w3], _ => exact ⟨w0, w1, w2, w3, rfl⟩
  have hw := fun d (hd : d ∈ tables_1) => atoms_spec (ws := Jvm.Cond.code x code maxLocals ret :: tables_1) hat d (List.mem_cons_of_mem _ hd)
  obtain ⟨g0, r0⟩ := and_e h2
  obtain ⟨i0, e0⟩ := is_v g0
  obtain rfl : w0 = (.int i0) := Option.some.inj e0
  obtain ⟨g1, r1⟩ := and_e r0
  obtain ⟨i1, e1⟩ := is_v g1
  obtain rfl : w1 = (.int i1) := Option.some.inj e1
  obtain ⟨g2, r2⟩ := and_e r1
  obtain ⟨i2, e2⟩ := is_v g2
  obtain rfl : w2 = (.int i2) := Option.some.inj e2
  obtain ⟨i3, e3⟩ := is_v r2
  obtain rfl : w3 = (.int i3) := Option.some.inj e3
  obtain ⟨n, o, h1, h2, h3, _, L, rfl, ⟨rfl, N⟩, hq⟩ := met_law l s _ hw i0 i1 i2 i3 s.heap s.heap.size (Nat.le_refl _) p e ha hc hk s m _ below hf ((Spec.applies_iff_loose hf).mp happ).1 ⟨rfl, State.Warmed39.refl s, rfl⟩ trivial
  refine ⟨n, _, h1, h2, h3, hpost _ _ _ _ _ _ ⟨Cond.after_iff.mpr rfl, Cond.after_iff.mpr (eq_i res_at (Term.int_eval (1)) rfl), trivial⟩ ⟨hq.1, hq.2.1, (hq.2.2.sift fun y hy => Or.inr (N y hy)).mono (by decide) (by decide)⟩⟩
theorem main_1_1 : Claimed_1_1 := comes_1 fun _ _ _ _ _ _ h hF => ⟨h.1, hF⟩
theorem main_1_2 : Claimed_1_2 := comes_1 fun _ _ _ _ _ _ h hF => ⟨h.2.1, hF⟩
end Jvm.Pilot.@@N@@
namespace Jvm.Pilot.@@N@@
open Jvm Jvm.ClassFile Sem Op Lib Jvm.Free Jvm.Stand Jvm.Pilot.@@N@@.Jvm.D
/-! MADE BY PROGRAM (witnessworld.py) out of the Statement's table words and the real class files: 9 classes; the members and pool entries that the words name. The judged class is class 1, her method 5. -/
namespace start1
open Jvm.ClassFile
def u (s : String) : CpInfo := .utf8 (stringToUtf16 s)
/-- a pool by its gaps: so many unusable entries, then the entry; so many at the end -/
def gap : Nat → List CpInfo → List CpInfo
  | 0, r => r
  | n + 1, r => .unusable :: gap n r
def poolList (es : List (Nat × CpInfo)) (last : Nat) : List CpInfo := es.foldr (fun e r => gap e.1 (e.2 :: r)) (gap last [])
def pool (es : List (Nat × CpInfo)) (last : Nat) : Array CpInfo := ⟨poolList es last⟩
def fileOf (pool : Array CpInfo) (this : Nat) (attrs : Array Attribute := #[]) (ms : Array MethodInfo := #[]) (fl : Nat := 33) (sup : Nat := 0) (ifs : Array Nat := #[]) (fds : Array FieldInfo := #[]) : ClassFile where
  minorVersion := 0
  majorVersion := 65
  constantPool := pool
  accessFlags := fl
  thisClass := this
  superClass := sup
  interfaces := ifs
  fields := fds
  methods := ms
  attributes := attrs
def plain (name : String) (sup : Option ClassId) : Class where
  name := name
  kind := .ordinary
  loader := none
  accessFlags := 33
  super := sup
  interfaces := #[]
  cf := none
  fields := #[]
  methods := #[]
  instanceTypes := #[]
  staticTypes := #[]
  resolved := #[]
  callSites := []
  init := .initialized
  statics := none
  mirror := none

def pool0 : Array CpInfo := pool [(5, u "<init>"), (0, u "()V"), (1, .class_ 10), (1, u "java/lang/Object")] 113

def k0c0 : Code := { maxStack := 0, maxLocals := 1, code := object_method_1_code, exceptionTable := #[], attributes := #[] }
def k0m0 : Method := { name := "<init>", desc := "()V", sig := { parameters := [], returnType := none }, accessFlags := 1, code := some k0c0 }
/-- java/lang/Object -/
def k0 : Class := { plain "java/lang/Object" none with
  accessFlags := 33
  interfaces := #[]
  cf := some (fileOf pool0 8 #[] #[{ accessFlags := 1, nameIndex := 5, descriptorIndex := 6, attributes := #[] }] 33 0 #[] #[])
  fields := #[]
  methods := #[k0m0]
  instanceTypes := #[]
  staticTypes := #[]
  resolved := Array.replicate 124 none
  statics := none }

def pool1 : Array CpInfo := pool [(2, .class_ 4), (1, u "java/lang/Object"), (0, u "<init>"), (0, u "()V"), (0, .methodref 8 9), (0, .class_ 10), (0, .nameAndType 11 12), (0, u "com/example/rowan/rowan/check/UnionFind"), (0, u "unite"), (0, u "(II)Z"), (0, .methodref 14 15), (0, .class_ 16), (0, .nameAndType 17 18), (0, u "com/example/rowan/rowan/check/UnionFindFindPinLaw"), (0, u "merge"), (0, u "([III)V"), (0, .methodref 8 20), (0, .nameAndType 5 21), (0, u "(I)V"), (0, .methodref 14 23), (0, .nameAndType 24 25), (0, u "step"), (0, u "(Lcom/example/rowan/rowan/check/UnionFind;[III)Z"), (0, .methodref 8 27), (0, .nameAndType 28 29), (0, u "find"), (0, u "(I)I"), (0, .methodref 14 31), (0, .nameAndType 32 33), (0, u "member"), (0, u "([I[II)Z"), (0, .methodref 14 35), (0, .nameAndType 36 37), (0, u "pair"), (0, u "([I[III)Z"), (5, u "law"), (0, u "(IIII)Z")] 2

def k1m0 : Method := { name := "<init>", desc := "()V", sig := { parameters := [], returnType := none }, accessFlags := 1, code := none }
def k1c1 : Code := { maxStack := 3, maxLocals := 5, code := method_2_code, exceptionTable := #[], attributes := #[] }
def k1m1 : Method := { name := "merge", desc := "([III)V", sig := { parameters := [(.array .int), .int, .int], returnType := none }, accessFlags := 10, code := some k1c1 }
def k1c2 : Code := { maxStack := 3, maxLocals := 6, code := method_3_code, exceptionTable := #[], attributes := #[] }
def k1m2 : Method := { name := "step", desc := "(Lcom/example/rowan/rowan/check/UnionFind;[III)Z", sig := { parameters := [(.object "com/example/rowan/rowan/check/UnionFind"), (.array .int), .int, .int], returnType := some .boolean }, accessFlags := 10, code := some k1c2 }
def k1c3 : Code := { maxStack := 4, maxLocals := 4, code := method_4_code, exceptionTable := #[], attributes := #[] }
def k1m3 : Method := { name := "pair", desc := "([I[III)Z", sig := { parameters := [(.array .int), (.array .int), .int, .int], returnType := some .boolean }, accessFlags := 10, code := some k1c3 }
def k1c4 : Code := { maxStack := 3, maxLocals := 4, code := method_5_code, exceptionTable := #[], attributes := #[] }
def k1m4 : Method := { name := "member", desc := "([I[II)Z", sig := { parameters := [(.array .int), (.array .int), .int], returnType := some .boolean }, accessFlags := 10, code := some k1c4 }
def k1c5 : Code := { maxStack := 5, maxLocals := 14, code := code, exceptionTable := #[], attributes := #[] }
def k1m5 : Method := { name := "law", desc := "(IIII)Z", sig := { parameters := [.int, .int, .int, .int], returnType := some .boolean }, accessFlags := 9, code := some k1c5 }
/-- com/example/rowan/rowan/check/UnionFindFindPinLaw -/
def k1 : Class := { plain "com/example/rowan/rowan/check/UnionFindFindPinLaw" (some 0) with
  accessFlags := 49
  interfaces := #[]
  cf := some (fileOf pool1 14 #[] #[{ accessFlags := 1, nameIndex := 5, descriptorIndex := 6, attributes := #[] }, { accessFlags := 10, nameIndex := 17, descriptorIndex := 18, attributes := #[] }, { accessFlags := 10, nameIndex := 24, descriptorIndex := 25, attributes := #[] }, { accessFlags := 10, nameIndex := 36, descriptorIndex := 37, attributes := #[] }, { accessFlags := 10, nameIndex := 32, descriptorIndex := 33, attributes := #[] }, { accessFlags := 9, nameIndex := 43, descriptorIndex := 44, attributes := #[] }] 49 2 #[] #[])
  fields := #[]
  methods := #[k1m0, k1m1, k1m2, k1m3, k1m4, k1m5]
  instanceTypes := #[]
  staticTypes := #[]
  resolved := Array.replicate 47 none
  statics := none }

def pool2 : Array CpInfo := pool [(1, .methodref 2 3), (0, .class_ 4), (0, .nameAndType 5 6), (0, u "java/lang/Object"), (0, u "<init>"), (0, u "()V"), (0, .fieldref 8 9), (0, .class_ 10), (0, .nameAndType 11 12), (0, u "com/example/rowan/rowan/check/UnionFind"), (0, u "parents"), (0, u "[I"), (0, .fieldref 8 14), (0, .nameAndType 15 16), (0, u "ranks"), (0, u "[B"), (0, .methodref 8 18), (0, .nameAndType 19 20), (0, u "find"), (0, u "(I)I"), (0, u "(I)V"), (3, u "unite"), (0, u "(II)Z")] 2

def k2c0 : Code := { maxStack := 3, maxLocals := 3, code := prog_6_method_1_code, exceptionTable := #[], attributes := #[] }
def k2m0 : Method := { name := "<init>", desc := "(I)V", sig := { parameters := [.int], returnType := none }, accessFlags := 0, code := some k2c0 }
def k2c1 : Code := { maxStack := 5, maxLocals := 3, code := prog_6_method_2_code, exceptionTable := #[], attributes := #[] }
def k2m1 : Method := { name := "find", desc := "(I)I", sig := { parameters := [.int], returnType := some .int }, accessFlags := 0, code := some k2c1 }
def k2c2 : Code := { maxStack := 4, maxLocals := 5, code := prog_6_method_3_code, exceptionTable := #[], attributes := #[] }
def k2m2 : Method := { name := "unite", desc := "(II)Z", sig := { parameters := [.int, .int], returnType := some .boolean }, accessFlags := 0, code := some k2c2 }
/-- com/example/rowan/rowan/check/UnionFind -/
def k2 : Class := { plain "com/example/rowan/rowan/check/UnionFind" (some 0) with
  accessFlags := 48
  interfaces := #[]
  cf := some (fileOf pool2 8 #[] #[{ accessFlags := 0, nameIndex := 5, descriptorIndex := 21, attributes := #[] }, { accessFlags := 0, nameIndex := 19, descriptorIndex := 20, attributes := #[] }, { accessFlags := 0, nameIndex := 25, descriptorIndex := 26, attributes := #[] }] 48 2 #[] #[{ accessFlags := 18, nameIndex := 11, descriptorIndex := 12, attributes := #[] }, { accessFlags := 18, nameIndex := 15, descriptorIndex := 16, attributes := #[] }])
  fields := #[{ name := "parents", type := (.array .int), accessFlags := 18, slot := 0, constantValue := 0 }, { name := "ranks", type := (.array .byte), accessFlags := 18, slot := 1, constantValue := 0 }]
  methods := #[k2m0, k2m1, k2m2]
  instanceTypes := #[(.array .int), (.array .byte)]
  staticTypes := #[]
  resolved := Array.replicate 29 none
  statics := none }

def pool3 : Array CpInfo := pool [(1, u "java/lang/Cloneable"), (0, .class_ 1), (0, u "java/lang/Object"), (0, .class_ 3)] 3

/-- java/lang/Cloneable -/
def k3 : Class := { plain "java/lang/Cloneable" (some 0) with
  accessFlags := 1537
  interfaces := #[]
  cf := some (fileOf pool3 2 #[] #[] 1537 4 #[] #[])
  fields := #[]
  methods := #[]
  instanceTypes := #[]
  staticTypes := #[]
  resolved := Array.replicate 8 none
  statics := none }

def pool4 : Array CpInfo := pool [(1, u "java/io/Serializable"), (0, .class_ 1), (0, u "java/lang/Object"), (0, .class_ 3)] 3

/-- java/io/Serializable -/
def k4 : Class := { plain "java/io/Serializable" (some 0) with
  accessFlags := 1537
  interfaces := #[]
  cf := some (fileOf pool4 2 #[] #[] 1537 4 #[] #[])
  fields := #[]
  methods := #[]
  instanceTypes := #[]
  staticTypes := #[]
  resolved := Array.replicate 8 none
  statics := none }

/-- the primitive byte -/
def k5 : Class := { plain "byte" none with kind := .primitive 'B', accessFlags := 0x411 }
/-- [B -/
def k6 : Class := { plain "[B" (some 0) with kind := .array 5 .byte, interfaces := #[3, 4], accessFlags := 1041 }

/-- the primitive int -/
def k7 : Class := { plain "int" none with kind := .primitive 'I', accessFlags := 0x411 }
/-- [I -/
def k8 : Class := { plain "[I" (some 0) with kind := .array 7 .int, interfaces := #[3, 4], accessFlags := 1041 }

def heap : Heap := #[]
def classes : Array Class := #[k0, k1, k2, k3, k4, k5, k6, k7, k8]
def interned : List (Array UInt16 × Addr) := []
def slotsUsed : Nat := 0
def theMethod : MethodId := ⟨1, 5⟩
def args0 : Array Value := #[.int 3, .int 2, .int 5, .int 6]
def aboutOver (below : List Frame) : State where
  vm := { classes := classes, interned := interned.toArray }
  heap := heap
  slotsUsed := slotsUsed
  threads := #[{ frames := .invoking theMethod args0 :: below }]
def below0 : List Frame := [.native { method := ⟨0, 0⟩, args := #[] }]
def about1 : State := aboutOver below0
def p0 : Program := .bare "" "" ""
def e0 : Env := launch0.env 0 0 0
theorem w_frames : about1.frames = Frame.invoking theMethod args0 :: below0 := rfl
set_option maxRecDepth 65536 in
theorem w_args : argsFit about1.vm theMethod args0 = true := by decide +kernel
set_option maxRecDepth 65536 in
theorem w_heap : heapFits about1 = true := by decide +kernel
set_option maxRecDepth 65536 in
theorem w_runnable : about1.curStatus? = some .runnable := by decide +kernel
set_option maxRecDepth 65536 in
theorem w_alone : about1.alone = true := by decide +kernel
set_option maxRecDepth 65536 in
theorem w_named : about1.methodNamed? x = some theMethod := by decide +kernel
set_option maxRecDepth 65536 in
theorem w_hears : about1.hears theMethod below0 = true := by decide +kernel
set_option maxRecDepth 65536 in
theorem w_ripe : about1.ripe theMethod args0 below0 = true := by decide +kernel
theorem w_running : about1.status = .running := rfl
set_option maxRecDepth 65536 in
theorem w_room : about1.hasRoom e0.platform room_1 = true :=
  launch0.hasRoom_least _ room_1 (by decide +kernel) (by decide +kernel) (by decide +kernel) (by decide +kernel) (by decide +kernel) (by decide +kernel)
theorem allAtoms_all (ts : List Jvm.Cond) (a : Array Jvm.Value) (st : Jvm.State) : (allAtoms ts).before a st = ts.all (fun c => c.before a st) := by
  induction ts with
  | nil => rfl
  | cons c t ih =>
    show (Jvm.Cond.and c (allAtoms t)).before a st = _
    rw [Jvm.Cond.before_and, ih, List.all_cons]
def words1 : List Jvm.Cond := Jvm.Cond.code x code maxLocals ret :: tables_1
/-- a 'code' word, met by the world's own term for the bytes: nothing is compared byte by byte -/
theorem code_word {y : MethodName} {bytes : ByteArray} {mx : Nat} {rt : Option FieldType} {a : Array Value} {s : State} {m : MethodId} {meth : Method} {c : Code} (h1 : s.methodNamed? y = some m) (h2 : s.vm.method? m = some meth) (h3 : meth.code = some c) (h4 : c.code = bytes)
    (h5 : (c.maxLocals == mx && c.exceptionTable.isEmpty && decide (c.maxStack ≤ mostOperands) && decide (meth.sig.returnType = rt) && !meth.locks && decide (parseMethodDescriptor y.desc = some meth.sig)) = true) : (Jvm.Cond.code y bytes mx rt).before a s = true := by
  simp only [Bool.and_eq_true, beq_iff_eq, Bool.not_eq_true', decide_eq_true_eq] at h5
  obtain ⟨⟨⟨⟨⟨g1, g2⟩, g3⟩, g4⟩, g5⟩, g6⟩ := h5
  simp [Cond.before, Cond.holds, Cond.value, h1, h2, h3, h4, g1, g2, g3, g4, g5, g6]
def isCode : Jvm.Cond → Bool
  | .code _ _ _ _ => true
  | _ => false
theorem all_split {L : List Jvm.Cond} {P : Jvm.Cond → Bool} (h1 : L.all (fun c => isCode c || P c) = true) (h2 : ∀ c ∈ L.filter isCode, P c = true) : L.all P = true := by
  refine List.all_eq_true.mpr fun c hc => ?_
  have h := List.all_eq_true.mp h1 c hc
  rcases Bool.eq_false_or_eq_true (isCode c) with hi | hi
  · exact h2 c (List.mem_filter.mpr ⟨hc, hi⟩)
  · simpa [hi] using h
set_option maxRecDepth 65536 in
theorem w_c0 : (Jvm.Cond.code x code maxLocals ret).before args0 about1 = true := code_word (m := ⟨1, 5⟩) (meth := k1m5) (c := k1c5) (by decide +kernel) rfl rfl rfl (by decide +kernel)
set_option maxRecDepth 65536 in
theorem w_c1 : (Jvm.Cond.code ({ cls := "com/example/rowan/rowan/check/UnionFind", name := "<init>", desc := "(I)V" } : Jvm.MethodName) prog_6_method_1_code (3 : Nat) (Option.none : Option Jvm.ClassFile.FieldType)).before args0 about1 = true := code_word (m := ⟨2, 0⟩) (meth := k2m0) (c := k2c0) (by decide +kernel) rfl rfl rfl (by decide +kernel)
set_option maxRecDepth 65536 in
theorem w_c2 : (Jvm.Cond.code ({ cls := "java/lang/Object", name := "<init>", desc := "()V" } : Jvm.MethodName) object_method_1_code (1 : Nat) (Option.none : Option Jvm.ClassFile.FieldType)).before args0 about1 = true := code_word (m := ⟨0, 0⟩) (meth := k0m0) (c := k0c0) (by decide +kernel) rfl rfl rfl (by decide +kernel)
set_option maxRecDepth 65536 in
theorem w_c3 : (Jvm.Cond.code ({ cls := "com/example/rowan/rowan/check/UnionFindFindPinLaw", name := "step", desc := "(Lcom/example/rowan/rowan/check/UnionFind;[III)Z" } : Jvm.MethodName) method_3_code (6 : Nat) (Option.some Jvm.ClassFile.FieldType.boolean)).before args0 about1 = true := code_word (m := ⟨1, 2⟩) (meth := k1m2) (c := k1c2) (by decide +kernel) rfl rfl rfl (by decide +kernel)
set_option maxRecDepth 65536 in
theorem w_c4 : (Jvm.Cond.code ({ cls := "com/example/rowan/rowan/check/UnionFind", name := "unite", desc := "(II)Z" } : Jvm.MethodName) prog_6_method_3_code (5 : Nat) (Option.some Jvm.ClassFile.FieldType.boolean)).before args0 about1 = true := code_word (m := ⟨2, 2⟩) (meth := k2m2) (c := k2c2) (by decide +kernel) rfl rfl rfl (by decide +kernel)
set_option maxRecDepth 65536 in
theorem w_c5 : (Jvm.Cond.code ({ cls := "com/example/rowan/rowan/check/UnionFind", name := "find", desc := "(I)I" } : Jvm.MethodName) prog_6_method_2_code (3 : Nat) (Option.some Jvm.ClassFile.FieldType.int)).before args0 about1 = true := code_word (m := ⟨2, 1⟩) (meth := k2m1) (c := k2c1) (by decide +kernel) rfl rfl rfl (by decide +kernel)
set_option maxRecDepth 65536 in
theorem w_c6 : (Jvm.Cond.code ({ cls := "com/example/rowan/rowan/check/UnionFindFindPinLaw", name := "merge", desc := "([III)V" } : Jvm.MethodName) method_2_code (5 : Nat) (Option.none : Option Jvm.ClassFile.FieldType)).before args0 about1 = true := code_word (m := ⟨1, 1⟩) (meth := k1m1) (c := k1c1) (by decide +kernel) rfl rfl rfl (by decide +kernel)
set_option maxRecDepth 65536 in
theorem w_c7 : (Jvm.Cond.code ({ cls := "com/example/rowan/rowan/check/UnionFindFindPinLaw", name := "member", desc := "([I[II)Z" } : Jvm.MethodName) method_5_code (4 : Nat) (Option.some Jvm.ClassFile.FieldType.boolean)).before args0 about1 = true := code_word (m := ⟨1, 4⟩) (meth := k1m4) (c := k1c4) (by decide +kernel) rfl rfl rfl (by decide +kernel)
set_option maxRecDepth 65536 in
theorem w_c8 : (Jvm.Cond.code ({ cls := "com/example/rowan/rowan/check/UnionFindFindPinLaw", name := "pair", desc := "([I[III)Z" } : Jvm.MethodName) method_4_code (4 : Nat) (Option.some Jvm.ClassFile.FieldType.boolean)).before args0 about1 = true := code_word (m := ⟨1, 3⟩) (meth := k1m3) (c := k1c3) (by decide +kernel) rfl rfl rfl (by decide +kernel)
def codes1 : List Jvm.Cond := [Jvm.Cond.code x code maxLocals ret, Jvm.Cond.code ({ cls := "com/example/rowan/rowan/check/UnionFind", name := "<init>", desc := "(I)V" } : Jvm.MethodName) prog_6_method_1_code (3 : Nat) (Option.none : Option Jvm.ClassFile.FieldType), Jvm.Cond.code ({ cls := "java/lang/Object", name := "<init>", desc := "()V" } : Jvm.MethodName) object_method_1_code (1 : Nat) (Option.none : Option Jvm.ClassFile.FieldType), Jvm.Cond.code ({ cls := "com/example/rowan/rowan/check/UnionFindFindPinLaw", name := "step", desc := "(Lcom/example/rowan/rowan/check/UnionFind;[III)Z" } : Jvm.MethodName) method_3_code (6 : Nat) (Option.some Jvm.ClassFile.FieldType.boolean), Jvm.Cond.code ({ cls := "com/example/rowan/rowan/check/UnionFind", name := "unite", desc := "(II)Z" } : Jvm.MethodName) prog_6_method_3_code (5 : Nat) (Option.some Jvm.ClassFile.FieldType.boolean), Jvm.Cond.code ({ cls := "com/example/rowan/rowan/check/UnionFind", name := "find", desc := "(I)I" } : Jvm.MethodName) prog_6_method_2_code (3 : Nat) (Option.some Jvm.ClassFile.FieldType.int), Jvm.Cond.code ({ cls := "com/example/rowan/rowan/check/UnionFindFindPinLaw", name := "merge", desc := "([III)V" } : Jvm.MethodName) method_2_code (5 : Nat) (Option.none : Option Jvm.ClassFile.FieldType), Jvm.Cond.code ({ cls := "com/example/rowan/rowan/check/UnionFindFindPinLaw", name := "member", desc := "([I[II)Z" } : Jvm.MethodName) method_5_code (4 : Nat) (Option.some Jvm.ClassFile.FieldType.boolean), Jvm.Cond.code ({ cls := "com/example/rowan/rowan/check/UnionFindFindPinLaw", name := "pair", desc := "([I[III)Z" } : Jvm.MethodName) method_4_code (4 : Nat) (Option.some Jvm.ClassFile.FieldType.boolean)]
set_option maxRecDepth 65536 in
theorem codes_eq : words1.filter isCode = codes1 := rfl
theorem w_codes : ∀ c ∈ words1.filter isCode, c.before args0 about1 = true := by
  rw [codes_eq]
  intro c hc
  simp only [codes1, List.mem_cons, List.not_mem_nil, or_false] at hc
  rcases hc with rfl | rfl | rfl | rfl | rfl | rfl | rfl | rfl | rfl
  · exact w_c0
  · exact w_c1
  · exact w_c2
  · exact w_c3
  · exact w_c4
  · exact w_c5
  · exact w_c6
  · exact w_c7
  · exact w_c8
set_option maxRecDepth 65536 in
theorem w_t1 : (words1.take 24).all (fun c => isCode c || c.before args0 about1) = true := by decide +kernel
set_option maxRecDepth 65536 in
theorem w_t2 : (words1.drop 24).all (fun c => isCode c || c.before args0 about1) = true := by decide +kernel
theorem w_tables : (allAtoms (Jvm.Cond.code x code maxLocals ret :: tables_1)).before args0 about1 = true := by
  rw [allAtoms_all]
  show words1.all (fun c => c.before args0 about1) = true
  refine all_split ?_ w_codes
  rw [← List.take_append_drop 24 words1, List.all_append, w_t1, w_t2]
  rfl
set_option maxRecDepth 65536 in
theorem w_case : (Jvm.Cond.and given_1 narrow_1).before args0 about1 = true := by decide +kernel
theorem w_applies : (headSpec (Jvm.Cond.code x code maxLocals ret :: tables_1) room_1).applies x e0.platform about1 = true :=
  (Spec.applies_iff w_frames).mpr ⟨w_running, w_runnable, w_alone, w_named, w_hears, w_ripe, w_room, w_tables⟩
theorem atStart : AtStart classFile x code maxLocals ret World_1 tables_1 room_1 Calls_1 rest_1 Pre_1 launch0 p0 e0 about1 theMethod args0 below0 :=
  ⟨lists_1, trivial, launch0.admits_env _ _ _, launch0.least_env, fairChoices_fair.cas, fairChoices_fair.clock, w_frames, w_args, w_heap, w_applies, trivial, trivial, w_case⟩
end start1
theorem witness_1 : WitnessClaimed_1 := ⟨start1.p0, start1.e0, start1.about1, start1.theMethod, start1.args0, start1.below0, start1.atStart⟩
end Jvm.Pilot.@@N@@
