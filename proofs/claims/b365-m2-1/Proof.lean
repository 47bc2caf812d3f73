import JvmDerived
import JvmDerived.Pilot.@@N@@Statement
import JvmDerived.Pilot.@@N@@Code
set_option linter.unusedVariables false
set_option linter.unusedSimpArgs false
namespace Jvm.OwnGo
open Sem ClassFile Op Lib Jvm.Stand Jvm.Free Jvm.LawKit Jvm.RoadKit
/-- what is known of the body that is walked -/
def Cx (p : Program) (s : State) (m : MethodId) (meth : Method) (c : Code) (Z : State) (own nm : String) (bs : ByteArray) (ml : Nat) (rt : Option FieldType) : Prop :=
  p.tables.exec = Jvm.exec ∧ Z.Warmed39 s.vm ∧ c.code = bs ∧ c.maxLocals = ml ∧ s.vm.findClass own = some m.cls ∧ meth.name = nm ∧ meth.sig.returnType = rt ∧ meth.locks = false
/-- where the walk stands: every place that it has written lies in a cell at or above n0 -/
def Sd (p : Program) (l : Launch) (e : Env) (R : Room) (s : State) (m : MethodId) (args : Array Value) (below : List Frame) (meth : Method) (c : Code) (n0 : Nat) (T : State) (cells slots : Nat) : Prop :=
  ∃ locs, Stand p l e R s m args below meth c T locs cells slots ∧ Fr n0 locs
/-- the walk from t ends: it returns, Q holds of the value and the heap, at most C cells of N slots are made -/
def Go (p : Program) (e : Env) (below : List Frame) (s : State) (n0 : Nat) (Q : Option Value → Heap → Prop) (C N : Nat) (t : State) : Prop :=
  ∃ s₂ o, Steps p.tables e below t s₂ ∧ s₂.status = .running ∧ Ended s₂ below o ∧ ∃ v L, o = .returned v ∧ (Q v s₂.heap ∧ Fr n0 L) ∧ FrameEnd s o s₂ L C N
/-- a method's contract at these arguments and this heap -/
def Met (l : Launch) (Z : State) (y : MethodName) (bytes : ByteArray) (maxL : Nat) (ret : Option FieldType) (ws : List Jvm.Cond) (rm : Room) (as' : Array Value) (h : Heap) (n0 : Nat) (Q : Option Value → Heap → Prop) : Prop :=
  MetFree l y (head1 (Cond.code y bytes maxL ret :: ws) rm) (fun a U => a = as' ∧ Z.Warmed39 U.vm ∧ U.heap = h) (fun _ _ _ _ _ => True) (fun _ U o U' => ∃ v L, o = .returned v ∧ (Q v U'.heap ∧ Fr n0 L) ∧ FrameEnd U o U' L rm.cells rm.slots)
theorem Met.of {l : Launch} {Z : State} {y : MethodName} {bytes : ByteArray} {maxL : Nat} {ret : Option FieldType} {ws : List Jvm.Cond} {rm : Room} {as' : Array Value} {h : Heap} {n0 : Nat} {Q : Option Value → Heap → Prop} (hpn : plainFor y = true) (Ls : Array Slot) (hef : ∀ m, entryFrame m as' maxL = mkF m 0 Ls [])
    (body : ∀ p e s m below meth c T, Cx p s m meth c Z y.cls y.name bytes maxL ret → Sd p l e rm s m as' below meth c n0 T 0 0 → T.heap = h → Go p e below s n0 Q rm.cells rm.slots (T.setTop (mkF m 0 Ls []))) : Met l Z y bytes maxL ret ws rm as' h n0 Q := by
  refine MetFree.of_bodySF hpn hisR ?_
  intro p e s m args below meth c s₁ Bd hml0 hP hK
  obtain ⟨rfl, hZ, hh⟩ := hP
  obtain ⟨s₂, o, h1, h2, h3, h4⟩ := body p e s m below meth c s₁ ⟨Bd.exec, hZ, Bd.bytes, hml0, findClass_of_methodNamed Bd.named, (name_of_methodNamed Bd.named Bd.method).1, Bd.returns, Bd.notSynchronized⟩ ⟨[], Stand.of_body Bd, Fr.nil n0⟩ (by rw [← hh, Bd.state]; rfl)
  exact ⟨s₂, o, castTop (hef m) h1, h2, h3, h4⟩
theorem Met.mono {l : Launch} {Z : State} {y : MethodName} {bytes : ByteArray} {maxL : Nat} {ret : Option FieldType} {ws : List Jvm.Cond} {rm : Room} {as' : Array Value} {h : Heap} {n0 : Nat} {Q Q' : Option Value → Heap → Prop} (M : Met l Z y bytes maxL ret ws rm as' h n0 Q) (hQ : ∀ v g, Q v g → Q' v g) : Met l Z y bytes maxL ret ws rm as' h n0 Q' := by
  intro p e ha hc hk s m args below hf happ hP hK
  obtain ⟨n, o, h1, h2, h3, v, L, h4, h5, h6⟩ := M p e ha hc hk s m args below hf happ hP hK
  exact ⟨n, o, h1, h2, h3, v, L, h4, ⟨hQ _ _ h5.1, h5.2⟩, h6⟩
/-- what a branch asks -/
def cdP : ClassFile.Cond → Int32 → Int32 → Prop
  | .eq, x, y => x = y
  | .ne, x, y => ¬ x = y
  | .lt, x, y => x < y
  | .ge, x, y => ¬ x < y
  | .gt, x, y => y < x
  | .le, x, y => ¬ y < x
theorem cdT {cd : ClassFile.Cond} {x y : Int32} (h : cdP cd x y) : if_icmp.holds cd x y = true := by
  cases cd <;> simp only [cdP] at h
  · exact (teq h).1
  · exact (feq h).2
  · exact (tlt h).1
  · exact (flt h).2.1
  · exact (tlt h).2.2.1
  · exact (flt h).2.2.2
theorem cdF {cd : ClassFile.Cond} {x y : Int32} (h : ¬ cdP cd x y) : if_icmp.holds cd x y = false := by
  cases cd <;> simp only [cdP, Classical.not_not] at h
  · exact (feq h).1
  · exact (teq h).2
  · exact (flt h).1
  · exact (tlt h).2.1
  · exact (flt h).2.2.1
  · exact (tlt h).2.2.2
/-- an array of ints (or bytes, booleans, chars, shorts): n places, place j holds f j -/
def Ai (Z : State) (h : Heap) (a : Addr) (ty : FieldType) (n : Nat) (f : Nat → Int32) : Prop :=
  ∃ c : Cell, Arr Z h a c ty ∧ c.slots.size = n ∧ n < 2 ^ 31 ∧ ∀ j, j < n → c.slots[j]? = some (.int (f j))
def upA (f : Nat → Int32) (k : Nat) (x : Int32) : Nat → Int32 := fun j => if j = k then x else f j
theorem upA_same (f : Nat → Int32) (k : Nat) (x : Int32) : upA f k x k = x := if_pos rfl
theorem upA_other {f : Nat → Int32} {k j : Nat} {x : Int32} (h : j ≠ k) : upA f k x j = f j := if_neg h
theorem idx_ok {j : Int32} {k n : Nat} (hj : j.toInt = (k : Int)) (hk : k < n) : ¬ (j < 0 ∨ n ≤ j.toNatClampNeg) ∧ j.toNatClampNeg = k := by
  have e : j.toNatClampNeg = k := by rw [Int32.toNatClampNeg, hj]; rfl
  refine ⟨fun q => q.elim (fun q => ?_) (fun q => by omega), e⟩
  rw [Int32.lt_iff_toInt_lt, hj, show (0 : Int32).toInt = 0 from rfl] at q
  omega
section Facts
variable {Z : State} {h h' : Heap} {a b : Addr} {ty : FieldType} {n sl : Nat} {f : Nat → Int32} {v : Value} {ws : List Addr}
theorem Ai.lt (F : Ai Z h a ty n f) : a < h.size := by obtain ⟨c, A, -⟩ := F; exact A.lt
theorem Ai.ext (F : Ai Z h a ty n f) (E : Ext h h') : Ai Z h' a ty n f := by obtain ⟨c, A, r⟩ := F; exact ⟨c, A.ext E, r⟩
theorem Ai.other (F : Ai Z h b ty n f) (W : Wr h h' a sl v) (q : b ≠ a) : Ai Z h' b ty n f := by obtain ⟨c, A, r⟩ := F; exact ⟨c, A.other W q, r⟩
theorem Ai.keep (F : Ai Z h a ty n f) (K : Keep h h' ws) (q : a ∉ ws) : Ai Z h' a ty n f := by obtain ⟨c, A, r⟩ := F; exact ⟨c, ⟨K.2.1 a c A.1 q, A.2⟩, r⟩
theorem keepMore {ws' : List Addr} (K : Keep h h' ws) (q : ∀ x ∈ ws, x ∈ ws') : Keep h h' ws' := ⟨K.1, fun x c h1 h2 => K.2.1 x c h1 (fun h3 => h2 (q x h3)), K.2.2⟩
theorem Ai.set {k : Nat} {x : Int32} (F : Ai Z h a ty n f) (W : Wr h h' a k (.int x)) : Ai Z h' a ty n (upA f k x) := by
  obtain ⟨c, A, S, B, H⟩ := F
  refine ⟨_, A.same W, by rw [sz_set]; exact S, B, fun j hj => ?_⟩
  by_cases q : j = k
  · subst q
    rw [upA_same]
    simp [Cell.setSlot, S, hj]
  · rw [upA_other q, ← H j hj]
    exact Array.getElem?_setIfInBounds_ne (fun e => q e.symm)
theorem Ai.congr {g : Nat → Int32} (F : Ai Z h a ty n f) (q : ∀ j, j < n → f j = g j) : Ai Z h a ty n g := by
  obtain ⟨c, A, S, B, H⟩ := F
  exact ⟨c, A, S, B, fun j hj => by rw [H j hj, q j hj]⟩
theorem Ai.new {k : ClassId} {z : Int32} {n : Nat} (A : Arr Z h a (newA k ty z) ty) (hz : z.toInt = (n : Int)) (hn : n < 2 ^ 31) (hd : defaultValue ty = .int 0) : Ai Z h a ty n (fun _ => 0) := by
  have e : z.toNatClampNeg = n := by rw [Int32.toNatClampNeg, hz]; rfl
  exact ⟨_, A, by rw [sz_new, e], hn, fun j hj => by simp [newA, e, hj, hd]⟩
end Facts
section Go
variable {p : Program} {l : Launch} {e : Env} {R : Room} {s : State} {m : MethodId} {args : Array Value} {below : List Frame} {meth : Method} {c : Code} {T : State} {cells slots : Nat} {Z : State} {a0 : Array Value} {h : Heap} {own nm : String} {bs : ByteArray} {ml : Nat} {rt : Option FieldType} {n0 : Nat} {Q : Option Value → Heap → Prop} {C N : Nat} {pc : Nat} {Ls : Array Slot} {st : List Value}
theorem Go.step {t t' : State} (hs : ∀ target, Steps p.tables e below t' target → Steps p.tables e below t target) (g : Go p e below s n0 Q C N t') : Go p e below s n0 Q C N t := by
  obtain ⟨s₂, o, h1, r⟩ := g
  exact ⟨s₂, o, hs _ h1, r⟩
theorem Go.trans {t t' : State} (hs : Steps p.tables e below t t') (g : Go p e below s n0 Q C N t') : Go p e below s n0 Q C N t := by
  obtain ⟨s₂, o, h1, r⟩ := g
  exact ⟨s₂, o, hs.trans h1, r⟩
theorem Go.mono {Q' : Option Value → Heap → Prop} {t : State} (g : Go p e below s n0 Q C N t) (hQ : ∀ v k, Q v k → Q' v k) : Go p e below s n0 Q' C N t := by
  obtain ⟨s₂, o, h1, h2, h3, v, L, h4, h5, h6⟩ := g
  exact ⟨s₂, o, h1, h2, h3, v, L, h4, ⟨hQ _ _ h5.1, h5.2⟩, h6⟩
theorem g_eqI {x y : Int32} (q : x = y) (hr : Go p e below s n0 Q C N (T.setTop (mkF m pc Ls (.int y :: st)))) : Go p e below s n0 Q C N (T.setTop (mkF m pc Ls (.int x :: st))) := q ▸ hr
theorem g_eqJ {x y : Int64} (q : x = y) (hr : Go p e below s n0 Q C N (T.setTop (mkF m pc Ls (.long y :: st)))) : Go p e below s n0 Q C N (T.setTop (mkF m pc Ls (.long x :: st))) := q ▸ hr
theorem g_aloadN (K : Cx p s m meth c Z own nm bs ml rt) (X : Sd p l e R s m args below meth c n0 T cells slots) {k : Fin 4} {v : Value} (pc' : Nat) (hd : decode bs pc = .ok (.aload_n k, 1)) (hp : pc + 1 = pc') (hl : Ls[k.val]? = some (.val v)) (hv : v.isRef = true)
    (hr : Go p e below s n0 Q C N (T.setTop (mkF m pc' Ls (v :: st)))) : Go p e below s n0 Q C N (T.setTop (mkF m pc Ls (st))) := by
  obtain ⟨locs, Y, -⟩ := X
  obtain ⟨hx, -, hby, -⟩ := K
  subst hp
  exact Go.step (fun _ k => XS.aloadN Y.here hx (g := mkF m pc Ls (st)) rfl (hb hby hd) hl hv k) hr
theorem g_aload (K : Cx p s m meth c Z own nm bs ml rt) (X : Sd p l e R s m args below meth c n0 T cells slots) {k : Nat} {v : Value} (pc' : Nat) (hd : decode bs pc = .ok (.aload k, 2)) (hp : pc + 2 = pc') (hl : Ls[k]? = some (.val v)) (hv : v.isRef = true)
    (hr : Go p e below s n0 Q C N (T.setTop (mkF m pc' Ls (v :: st)))) : Go p e below s n0 Q C N (T.setTop (mkF m pc Ls (st))) := by
  obtain ⟨locs, Y, -⟩ := X
  obtain ⟨hx, -, hby, -⟩ := K
  subst hp
  exact Go.step (fun _ k => XS.aload Y.here hx (g := mkF m pc Ls (st)) rfl (hb hby hd) hl hv k) hr
theorem g_iloadN (K : Cx p s m meth c Z own nm bs ml rt) (X : Sd p l e R s m args below meth c n0 T cells slots) {k : Fin 4} {v : Int32} (pc' : Nat) (hd : decode bs pc = .ok (.iload_n k, 1)) (hp : pc + 1 = pc') (hl : Ls[k.val]? = some (.val (.int v)))
    (hr : Go p e below s n0 Q C N (T.setTop (mkF m pc' Ls (.int v :: st)))) : Go p e below s n0 Q C N (T.setTop (mkF m pc Ls (st))) := by
  obtain ⟨locs, Y, -⟩ := X
  obtain ⟨hx, -, hby, -⟩ := K
  subst hp
  exact Go.step (fun _ k => XS.iloadN Y.here hx (g := mkF m pc Ls (st)) rfl (hb hby hd) hl k) hr
theorem g_iload (K : Cx p s m meth c Z own nm bs ml rt) (X : Sd p l e R s m args below meth c n0 T cells slots) {k : Nat} {v : Int32} (pc' : Nat) (hd : decode bs pc = .ok (.iload k, 2)) (hp : pc + 2 = pc') (hl : Ls[k]? = some (.val (.int v)))
    (hr : Go p e below s n0 Q C N (T.setTop (mkF m pc' Ls (.int v :: st)))) : Go p e below s n0 Q C N (T.setTop (mkF m pc Ls (st))) := by
  obtain ⟨locs, Y, -⟩ := X
  obtain ⟨hx, -, hby, -⟩ := K
  subst hp
  exact Go.step (fun _ k => XS.iload Y.here hx (g := mkF m pc Ls (st)) rfl (hb hby hd) hl k) hr
theorem g_lloadN (K : Cx p s m meth c Z own nm bs ml rt) (X : Sd p l e R s m args below meth c n0 T cells slots) {k : Fin 4} {v : Int64} (pc' : Nat) (hd : decode bs pc = .ok (.lload_n k, 1)) (hp : pc + 1 = pc') (hl : Ls[k.val]? = some (.val (.long v)))
    (hr : Go p e below s n0 Q C N (T.setTop (mkF m pc' Ls (.long v :: st)))) : Go p e below s n0 Q C N (T.setTop (mkF m pc Ls (st))) := by
  obtain ⟨locs, Y, -⟩ := X
  obtain ⟨hx, -, hby, -⟩ := K
  subst hp
  exact Go.step (fun _ k => XT.lloadN Y.here hx (g := mkF m pc Ls (st)) rfl (hb hby hd) hl k) hr
theorem g_lload (K : Cx p s m meth c Z own nm bs ml rt) (X : Sd p l e R s m args below meth c n0 T cells slots) {k : Nat} {v : Int64} (pc' : Nat) (hd : decode bs pc = .ok (.lload k, 2)) (hp : pc + 2 = pc') (hl : Ls[k]? = some (.val (.long v)))
    (hr : Go p e below s n0 Q C N (T.setTop (mkF m pc' Ls (.long v :: st)))) : Go p e below s n0 Q C N (T.setTop (mkF m pc Ls (st))) := by
  obtain ⟨locs, Y, -⟩ := X
  obtain ⟨hx, -, hby, -⟩ := K
  subst hp
  exact Go.step (fun _ k => XT.lload Y.here hx (g := mkF m pc Ls (st)) rfl (hb hby hd) hl k) hr
theorem g_iconst (K : Cx p s m meth c Z own nm bs ml rt) (X : Sd p l e R s m args below meth c n0 T cells slots) {i : Int} (v : Int32) (pc' : Nat) (hd : decode bs pc = .ok (.iconst i, 1)) (hp : pc + 1 = pc') (hv : Int32.ofInt i = v)
    (hr : Go p e below s n0 Q C N (T.setTop (mkF m pc' Ls (.int v :: st)))) : Go p e below s n0 Q C N (T.setTop (mkF m pc Ls (st))) := by
  obtain ⟨locs, Y, -⟩ := X
  obtain ⟨hx, -, hby, -⟩ := K
  subst hp
  exact Go.step (fun _ k => XT.iconstV Y.here hx (g := mkF m pc Ls (st)) rfl v (hb hby hd) hv k) hr
theorem g_bipush (K : Cx p s m meth c Z own nm bs ml rt) (X : Sd p l e R s m args below meth c n0 T cells slots) {i : Int} (v : Int32) (pc' : Nat) (hd : decode bs pc = .ok (.bipush i, 2)) (hp : pc + 2 = pc') (hv : (Int8.ofInt i).toInt32 = v)
    (hr : Go p e below s n0 Q C N (T.setTop (mkF m pc' Ls (.int v :: st)))) : Go p e below s n0 Q C N (T.setTop (mkF m pc Ls (st))) := by
  obtain ⟨locs, Y, -⟩ := X
  obtain ⟨hx, -, hby, -⟩ := K
  subst hp
  exact Go.step (fun _ k => XT.bipushV Y.here hx (g := mkF m pc Ls (st)) rfl v (hb hby hd) hv k) hr
theorem g_sipush (K : Cx p s m meth c Z own nm bs ml rt) (X : Sd p l e R s m args below meth c n0 T cells slots) {i : Int} (v : Int32) (pc' : Nat) (hd : decode bs pc = .ok (.sipush i, 3)) (hp : pc + 3 = pc') (hv : (Int16.ofInt i).toInt32 = v)
    (hr : Go p e below s n0 Q C N (T.setTop (mkF m pc' Ls (.int v :: st)))) : Go p e below s n0 Q C N (T.setTop (mkF m pc Ls (st))) := by
  obtain ⟨locs, Y, -⟩ := X
  obtain ⟨hx, -, hby, -⟩ := K
  subst hp
  exact Go.step (fun _ k => XT.sipushV Y.here hx (g := mkF m pc Ls (st)) rfl v (hb hby hd) hv k) hr
theorem g_lconst (K : Cx p s m meth c Z own nm bs ml rt) (X : Sd p l e R s m args below meth c n0 T cells slots) {k : Fin 2} (v : Int64) (pc' : Nat) (hd : decode bs pc = .ok (.lconst k, 1)) (hp : pc + 1 = pc') (hv : Int64.ofNat k = v)
    (hr : Go p e below s n0 Q C N (T.setTop (mkF m pc' Ls (.long v :: st)))) : Go p e below s n0 Q C N (T.setTop (mkF m pc Ls (st))) := by
  obtain ⟨locs, Y, -⟩ := X
  obtain ⟨hx, -, hby, -⟩ := K
  subst hp
  exact Go.step (fun _ k => XT.lconstV Y.here hx (g := mkF m pc Ls (st)) rfl v (hb hby hd) hv k) hr
theorem g_anull (K : Cx p s m meth c Z own nm bs ml rt) (X : Sd p l e R s m args below meth c n0 T cells slots) (pc' : Nat) (hd : decode bs pc = .ok (.aconst_null, 1)) (hp : pc + 1 = pc') 
    (hr : Go p e below s n0 Q C N (T.setTop (mkF m pc' Ls (.null :: st)))) : Go p e below s n0 Q C N (T.setTop (mkF m pc Ls (st))) := by
  obtain ⟨locs, Y, -⟩ := X
  obtain ⟨hx, -, hby, -⟩ := K
  subst hp
  exact Go.step (fun _ k => XS.aconstNull Y.here hx (g := mkF m pc Ls (st)) rfl (hb hby hd) k) hr
theorem g_istoreN (K : Cx p s m meth c Z own nm bs ml rt) (X : Sd p l e R s m args below meth c n0 T cells slots) {k : Fin 4} {x : Int32} (pc' : Nat) (l' : Array Slot) (hd : decode bs pc = .ok (.istore_n k, 1)) (hp : pc + 1 = pc') (hl : storeLocals Ls k.val (.int x) = some l')
    (hr : Go p e below s n0 Q C N (T.setTop (mkF m pc' l' (st)))) : Go p e below s n0 Q C N (T.setTop (mkF m pc Ls (.int x :: st))) := by
  obtain ⟨locs, Y, -⟩ := X
  obtain ⟨hx, -, hby, -⟩ := K
  subst hp
  exact Go.step (fun _ k => XS.istoreN Y.here hx (g := mkF m pc Ls (.int x :: st)) rfl (hb hby hd) rfl hl k) hr
theorem g_istore (K : Cx p s m meth c Z own nm bs ml rt) (X : Sd p l e R s m args below meth c n0 T cells slots) {k : Nat} {x : Int32} (pc' : Nat) (l' : Array Slot) (hd : decode bs pc = .ok (.istore k, 2)) (hp : pc + 2 = pc') (hl : storeLocals Ls k (.int x) = some l')
    (hr : Go p e below s n0 Q C N (T.setTop (mkF m pc' l' (st)))) : Go p e below s n0 Q C N (T.setTop (mkF m pc Ls (.int x :: st))) := by
  obtain ⟨locs, Y, -⟩ := X
  obtain ⟨hx, -, hby, -⟩ := K
  subst hp
  exact Go.step (fun _ k => XS.istore Y.here hx (g := mkF m pc Ls (.int x :: st)) rfl (hb hby hd) rfl hl k) hr
theorem g_lstoreN (K : Cx p s m meth c Z own nm bs ml rt) (X : Sd p l e R s m args below meth c n0 T cells slots) {k : Fin 4} {x : Int64} (pc' : Nat) (l' : Array Slot) (hd : decode bs pc = .ok (.lstore_n k, 1)) (hp : pc + 1 = pc') (hl : storeLocals Ls k.val (.long x) = some l')
    (hr : Go p e below s n0 Q C N (T.setTop (mkF m pc' l' (st)))) : Go p e below s n0 Q C N (T.setTop (mkF m pc Ls (.long x :: st))) := by
  obtain ⟨locs, Y, -⟩ := X
  obtain ⟨hx, -, hby, -⟩ := K
  subst hp
  exact Go.step (fun _ k => XT.lstoreN Y.here hx (g := mkF m pc Ls (.long x :: st)) rfl (hb hby hd) rfl hl k) hr
theorem g_lstore (K : Cx p s m meth c Z own nm bs ml rt) (X : Sd p l e R s m args below meth c n0 T cells slots) {k : Nat} {x : Int64} (pc' : Nat) (l' : Array Slot) (hd : decode bs pc = .ok (.lstore k, 2)) (hp : pc + 2 = pc') (hl : storeLocals Ls k (.long x) = some l')
    (hr : Go p e below s n0 Q C N (T.setTop (mkF m pc' l' (st)))) : Go p e below s n0 Q C N (T.setTop (mkF m pc Ls (.long x :: st))) := by
  obtain ⟨locs, Y, -⟩ := X
  obtain ⟨hx, -, hby, -⟩ := K
  subst hp
  exact Go.step (fun _ k => XT.lstore Y.here hx (g := mkF m pc Ls (.long x :: st)) rfl (hb hby hd) rfl hl k) hr
theorem g_astoreN (K : Cx p s m meth c Z own nm bs ml rt) (X : Sd p l e R s m args below meth c n0 T cells slots) {k : Fin 4} {x : Value} (pc' : Nat) (l' : Array Slot) (hd : decode bs pc = .ok (.astore_n k, 1)) (hp : pc + 1 = pc') (hv : x.isRef = true) (hl : storeLocals Ls k.val x = some l')
    (hr : Go p e below s n0 Q C N (T.setTop (mkF m pc' l' (st)))) : Go p e below s n0 Q C N (T.setTop (mkF m pc Ls (x :: st))) := by
  obtain ⟨locs, Y, -⟩ := X
  obtain ⟨hx, -, hby, -⟩ := K
  subst hp
  exact Go.step (fun _ k => XS.astoreN Y.here hx (g := mkF m pc Ls (x :: st)) rfl (hb hby hd) rfl hv hl k) hr
theorem g_astore (K : Cx p s m meth c Z own nm bs ml rt) (X : Sd p l e R s m args below meth c n0 T cells slots) {k : Nat} {x : Value} (pc' : Nat) (l' : Array Slot) (hd : decode bs pc = .ok (.astore k, 2)) (hp : pc + 2 = pc') (hv : x.isRef = true) (hl : storeLocals Ls k x = some l')
    (hr : Go p e below s n0 Q C N (T.setTop (mkF m pc' l' (st)))) : Go p e below s n0 Q C N (T.setTop (mkF m pc Ls (x :: st))) := by
  obtain ⟨locs, Y, -⟩ := X
  obtain ⟨hx, -, hby, -⟩ := K
  subst hp
  exact Go.step (fun _ k => XS.astore Y.here hx (g := mkF m pc Ls (x :: st)) rfl (hb hby hd) rfl hv hl k) hr
theorem g_iinc (K : Cx p s m meth c Z own nm bs ml rt) (X : Sd p l e R s m args below meth c n0 T cells slots) {k : Nat} {cst : Int} {x : Int32} (v : Int32) (pc' : Nat) (l' : Array Slot) (hd : decode bs pc = .ok (.iinc k cst, 3)) (hp : pc + 3 = pc') (hv : Int32.ofInt cst = v) (hl : Ls[k]? = some (.val (.int x))) (hl' : storeLocals Ls k (.int (x + v)) = some l')
    (hr : Go p e below s n0 Q C N (T.setTop (mkF m pc' l' (st)))) : Go p e below s n0 Q C N (T.setTop (mkF m pc Ls (st))) := by
  obtain ⟨locs, Y, -⟩ := X
  obtain ⟨hx, -, hby, -⟩ := K
  subst hp
  exact Go.step (fun _ k => XT.iincV Y.here hx (g := mkF m pc Ls (st)) rfl v (hb hby hd) hv hl hl' k) hr
theorem g_iadd (K : Cx p s m meth c Z own nm bs ml rt) (X : Sd p l e R s m args below meth c n0 T cells slots) {x y : Int32} (pc' : Nat) (hd : decode bs pc = .ok (.iadd, 1)) (hp : pc + 1 = pc') 
    (hr : Go p e below s n0 Q C N (T.setTop (mkF m pc' Ls (.int (x + y) :: st)))) : Go p e below s n0 Q C N (T.setTop (mkF m pc Ls (.int y :: .int x :: st))) := by
  obtain ⟨locs, Y, -⟩ := X
  obtain ⟨hx, -, hby, -⟩ := K
  subst hp
  exact Go.step (fun _ k => XS.iadd Y.here hx (g := mkF m pc Ls (.int y :: .int x :: st)) rfl (hb hby hd) rfl k) hr
theorem g_isub (K : Cx p s m meth c Z own nm bs ml rt) (X : Sd p l e R s m args below meth c n0 T cells slots) {x y : Int32} (pc' : Nat) (hd : decode bs pc = .ok (.isub, 1)) (hp : pc + 1 = pc') 
    (hr : Go p e below s n0 Q C N (T.setTop (mkF m pc' Ls (.int (x - y) :: st)))) : Go p e below s n0 Q C N (T.setTop (mkF m pc Ls (.int y :: .int x :: st))) := by
  obtain ⟨locs, Y, -⟩ := X
  obtain ⟨hx, -, hby, -⟩ := K
  subst hp
  exact Go.step (fun _ k => XS.isub Y.here hx (g := mkF m pc Ls (.int y :: .int x :: st)) rfl (hb hby hd) rfl k) hr
theorem g_imul (K : Cx p s m meth c Z own nm bs ml rt) (X : Sd p l e R s m args below meth c n0 T cells slots) {x y : Int32} (pc' : Nat) (hd : decode bs pc = .ok (.imul, 1)) (hp : pc + 1 = pc') 
    (hr : Go p e below s n0 Q C N (T.setTop (mkF m pc' Ls (.int (x * y) :: st)))) : Go p e below s n0 Q C N (T.setTop (mkF m pc Ls (.int y :: .int x :: st))) := by
  obtain ⟨locs, Y, -⟩ := X
  obtain ⟨hx, -, hby, -⟩ := K
  subst hp
  exact Go.step (fun _ k => XS.imul Y.here hx (g := mkF m pc Ls (.int y :: .int x :: st)) rfl (hb hby hd) rfl k) hr
theorem g_iand (K : Cx p s m meth c Z own nm bs ml rt) (X : Sd p l e R s m args below meth c n0 T cells slots) {x y : Int32} (pc' : Nat) (hd : decode bs pc = .ok (.iand, 1)) (hp : pc + 1 = pc') 
    (hr : Go p e below s n0 Q C N (T.setTop (mkF m pc' Ls (.int (x &&& y) :: st)))) : Go p e below s n0 Q C N (T.setTop (mkF m pc Ls (.int y :: .int x :: st))) := by
  obtain ⟨locs, Y, -⟩ := X
  obtain ⟨hx, -, hby, -⟩ := K
  subst hp
  exact Go.step (fun _ k => XS.iand Y.here hx (g := mkF m pc Ls (.int y :: .int x :: st)) rfl (hb hby hd) rfl k) hr
theorem g_ior (K : Cx p s m meth c Z own nm bs ml rt) (X : Sd p l e R s m args below meth c n0 T cells slots) {x y : Int32} (pc' : Nat) (hd : decode bs pc = .ok (.ior, 1)) (hp : pc + 1 = pc') 
    (hr : Go p e below s n0 Q C N (T.setTop (mkF m pc' Ls (.int (x ||| y) :: st)))) : Go p e below s n0 Q C N (T.setTop (mkF m pc Ls (.int y :: .int x :: st))) := by
  obtain ⟨locs, Y, -⟩ := X
  obtain ⟨hx, -, hby, -⟩ := K
  subst hp
  exact Go.step (fun _ k => XT.ior Y.here hx (g := mkF m pc Ls (.int y :: .int x :: st)) rfl (hb hby hd) rfl k) hr
theorem g_ixor (K : Cx p s m meth c Z own nm bs ml rt) (X : Sd p l e R s m args below meth c n0 T cells slots) {x y : Int32} (pc' : Nat) (hd : decode bs pc = .ok (.ixor, 1)) (hp : pc + 1 = pc') 
    (hr : Go p e below s n0 Q C N (T.setTop (mkF m pc' Ls (.int (x ^^^ y) :: st)))) : Go p e below s n0 Q C N (T.setTop (mkF m pc Ls (.int y :: .int x :: st))) := by
  obtain ⟨locs, Y, -⟩ := X
  obtain ⟨hx, -, hby, -⟩ := K
  subst hp
  exact Go.step (fun _ k => XT.ixor Y.here hx (g := mkF m pc Ls (.int y :: .int x :: st)) rfl (hb hby hd) rfl k) hr
theorem g_ishl (K : Cx p s m meth c Z own nm bs ml rt) (X : Sd p l e R s m args below meth c n0 T cells slots) {x y : Int32} (pc' : Nat) (hd : decode bs pc = .ok (.ishl, 1)) (hp : pc + 1 = pc') 
    (hr : Go p e below s n0 Q C N (T.setTop (mkF m pc' Ls (.int (x <<< (y &&& 31)) :: st)))) : Go p e below s n0 Q C N (T.setTop (mkF m pc Ls (.int y :: .int x :: st))) := by
  obtain ⟨locs, Y, -⟩ := X
  obtain ⟨hx, -, hby, -⟩ := K
  subst hp
  exact Go.step (fun _ k => XT.ishl Y.here hx (g := mkF m pc Ls (.int y :: .int x :: st)) rfl (hb hby hd) rfl k) hr
theorem g_ishr (K : Cx p s m meth c Z own nm bs ml rt) (X : Sd p l e R s m args below meth c n0 T cells slots) {x y : Int32} (pc' : Nat) (hd : decode bs pc = .ok (.ishr, 1)) (hp : pc + 1 = pc') 
    (hr : Go p e below s n0 Q C N (T.setTop (mkF m pc' Ls (.int (x >>> (y &&& 31)) :: st)))) : Go p e below s n0 Q C N (T.setTop (mkF m pc Ls (.int y :: .int x :: st))) := by
  obtain ⟨locs, Y, -⟩ := X
  obtain ⟨hx, -, hby, -⟩ := K
  subst hp
  exact Go.step (fun _ k => XT.ishr Y.here hx (g := mkF m pc Ls (.int y :: .int x :: st)) rfl (hb hby hd) rfl k) hr
theorem g_iushr (K : Cx p s m meth c Z own nm bs ml rt) (X : Sd p l e R s m args below meth c n0 T cells slots) {x y : Int32} (pc' : Nat) (hd : decode bs pc = .ok (.iushr, 1)) (hp : pc + 1 = pc') 
    (hr : Go p e below s n0 Q C N (T.setTop (mkF m pc' Ls (.int (XT.ushr x y) :: st)))) : Go p e below s n0 Q C N (T.setTop (mkF m pc Ls (.int y :: .int x :: st))) := by
  obtain ⟨locs, Y, -⟩ := X
  obtain ⟨hx, -, hby, -⟩ := K
  subst hp
  exact Go.step (fun _ k => XT.iushr Y.here hx (g := mkF m pc Ls (.int y :: .int x :: st)) rfl (hb hby hd) rfl k) hr
theorem g_irem (K : Cx p s m meth c Z own nm bs ml rt) (X : Sd p l e R s m args below meth c n0 T cells slots) {x y : Int32} (pc' : Nat) (hd : decode bs pc = .ok (.irem, 1)) (hp : pc + 1 = pc') (hy : y ≠ 0)
    (hr : Go p e below s n0 Q C N (T.setTop (mkF m pc' Ls (.int (x % y) :: st)))) : Go p e below s n0 Q C N (T.setTop (mkF m pc Ls (.int y :: .int x :: st))) := by
  obtain ⟨locs, Y, -⟩ := X
  obtain ⟨hx, -, hby, -⟩ := K
  subst hp
  exact Go.step (fun _ k => iremM Y hx (g := mkF m pc Ls (.int y :: .int x :: st)) rfl (hb hby hd) rfl hy k) hr
theorem g_ladd (K : Cx p s m meth c Z own nm bs ml rt) (X : Sd p l e R s m args below meth c n0 T cells slots) {x y : Int64} (pc' : Nat) (hd : decode bs pc = .ok (.ladd, 1)) (hp : pc + 1 = pc') 
    (hr : Go p e below s n0 Q C N (T.setTop (mkF m pc' Ls (.long (x + y) :: st)))) : Go p e below s n0 Q C N (T.setTop (mkF m pc Ls (.long y :: .long x :: st))) := by
  obtain ⟨locs, Y, -⟩ := X
  obtain ⟨hx, -, hby, -⟩ := K
  subst hp
  exact Go.step (fun _ k => XT.ladd Y.here hx (g := mkF m pc Ls (.long y :: .long x :: st)) rfl (hb hby hd) rfl k) hr
theorem g_lsub (K : Cx p s m meth c Z own nm bs ml rt) (X : Sd p l e R s m args below meth c n0 T cells slots) {x y : Int64} (pc' : Nat) (hd : decode bs pc = .ok (.lsub, 1)) (hp : pc + 1 = pc') 
    (hr : Go p e below s n0 Q C N (T.setTop (mkF m pc' Ls (.long (x - y) :: st)))) : Go p e below s n0 Q C N (T.setTop (mkF m pc Ls (.long y :: .long x :: st))) := by
  obtain ⟨locs, Y, -⟩ := X
  obtain ⟨hx, -, hby, -⟩ := K
  subst hp
  exact Go.step (fun _ k => XT.lsub Y.here hx (g := mkF m pc Ls (.long y :: .long x :: st)) rfl (hb hby hd) rfl k) hr
theorem g_land (K : Cx p s m meth c Z own nm bs ml rt) (X : Sd p l e R s m args below meth c n0 T cells slots) {x y : Int64} (pc' : Nat) (hd : decode bs pc = .ok (.land, 1)) (hp : pc + 1 = pc') 
    (hr : Go p e below s n0 Q C N (T.setTop (mkF m pc' Ls (.long (x &&& y) :: st)))) : Go p e below s n0 Q C N (T.setTop (mkF m pc Ls (.long y :: .long x :: st))) := by
  obtain ⟨locs, Y, -⟩ := X
  obtain ⟨hx, -, hby, -⟩ := K
  subst hp
  exact Go.step (fun _ k => XT.land Y.here hx (g := mkF m pc Ls (.long y :: .long x :: st)) rfl (hb hby hd) rfl k) hr
theorem g_lor (K : Cx p s m meth c Z own nm bs ml rt) (X : Sd p l e R s m args below meth c n0 T cells slots) {x y : Int64} (pc' : Nat) (hd : decode bs pc = .ok (.lor, 1)) (hp : pc + 1 = pc') 
    (hr : Go p e below s n0 Q C N (T.setTop (mkF m pc' Ls (.long (x ||| y) :: st)))) : Go p e below s n0 Q C N (T.setTop (mkF m pc Ls (.long y :: .long x :: st))) := by
  obtain ⟨locs, Y, -⟩ := X
  obtain ⟨hx, -, hby, -⟩ := K
  subst hp
  exact Go.step (fun _ k => XT.lor Y.here hx (g := mkF m pc Ls (.long y :: .long x :: st)) rfl (hb hby hd) rfl k) hr
theorem g_lxor (K : Cx p s m meth c Z own nm bs ml rt) (X : Sd p l e R s m args below meth c n0 T cells slots) {x y : Int64} (pc' : Nat) (hd : decode bs pc = .ok (.lxor, 1)) (hp : pc + 1 = pc') 
    (hr : Go p e below s n0 Q C N (T.setTop (mkF m pc' Ls (.long (x ^^^ y) :: st)))) : Go p e below s n0 Q C N (T.setTop (mkF m pc Ls (.long y :: .long x :: st))) := by
  obtain ⟨locs, Y, -⟩ := X
  obtain ⟨hx, -, hby, -⟩ := K
  subst hp
  exact Go.step (fun _ k => XT.lxor Y.here hx (g := mkF m pc Ls (.long y :: .long x :: st)) rfl (hb hby hd) rfl k) hr
theorem g_lshl (K : Cx p s m meth c Z own nm bs ml rt) (X : Sd p l e R s m args below meth c n0 T cells slots) {x : Int64} {y : Int32} (pc' : Nat) (hd : decode bs pc = .ok (.lshl, 1)) (hp : pc + 1 = pc') 
    (hr : Go p e below s n0 Q C N (T.setTop (mkF m pc' Ls (.long (x <<< (y.toInt64 &&& 63)) :: st)))) : Go p e below s n0 Q C N (T.setTop (mkF m pc Ls (.int y :: .long x :: st))) := by
  obtain ⟨locs, Y, -⟩ := X
  obtain ⟨hx, -, hby, -⟩ := K
  subst hp
  exact Go.step (fun _ k => XT.lshl Y.here hx (g := mkF m pc Ls (.int y :: .long x :: st)) rfl (hb hby hd) rfl k) hr
theorem g_lushr (K : Cx p s m meth c Z own nm bs ml rt) (X : Sd p l e R s m args below meth c n0 T cells slots) {x : Int64} {y : Int32} (pc' : Nat) (hd : decode bs pc = .ok (.lushr, 1)) (hp : pc + 1 = pc') 
    (hr : Go p e below s n0 Q C N (T.setTop (mkF m pc' Ls (.long (XT.ushrL x y) :: st)))) : Go p e below s n0 Q C N (T.setTop (mkF m pc Ls (.int y :: .long x :: st))) := by
  obtain ⟨locs, Y, -⟩ := X
  obtain ⟨hx, -, hby, -⟩ := K
  subst hp
  exact Go.step (fun _ k => XT.lushr Y.here hx (g := mkF m pc Ls (.int y :: .long x :: st)) rfl (hb hby hd) rfl k) hr
theorem g_lcmp (K : Cx p s m meth c Z own nm bs ml rt) (X : Sd p l e R s m args below meth c n0 T cells slots) {x y : Int64} (pc' : Nat) (hd : decode bs pc = .ok (.lcmp, 1)) (hp : pc + 1 = pc') 
    (hr : Go p e below s n0 Q C N (T.setTop (mkF m pc' Ls (.int (XT.cmpL x y) :: st)))) : Go p e below s n0 Q C N (T.setTop (mkF m pc Ls (.long y :: .long x :: st))) := by
  obtain ⟨locs, Y, -⟩ := X
  obtain ⟨hx, -, hby, -⟩ := K
  subst hp
  exact Go.step (fun _ k => XT.lcmp Y.here hx (g := mkF m pc Ls (.long y :: .long x :: st)) rfl (hb hby hd) rfl k) hr
theorem g_i2l (K : Cx p s m meth c Z own nm bs ml rt) (X : Sd p l e R s m args below meth c n0 T cells slots) {x : Int32} (pc' : Nat) (hd : decode bs pc = .ok (.i2l, 1)) (hp : pc + 1 = pc') 
    (hr : Go p e below s n0 Q C N (T.setTop (mkF m pc' Ls (.long x.toInt64 :: st)))) : Go p e below s n0 Q C N (T.setTop (mkF m pc Ls (.int x :: st))) := by
  obtain ⟨locs, Y, -⟩ := X
  obtain ⟨hx, -, hby, -⟩ := K
  subst hp
  exact Go.step (fun _ k => XT.i2l Y.here hx (g := mkF m pc Ls (.int x :: st)) rfl (hb hby hd) rfl k) hr
theorem g_l2i (K : Cx p s m meth c Z own nm bs ml rt) (X : Sd p l e R s m args below meth c n0 T cells slots) {x : Int64} (pc' : Nat) (hd : decode bs pc = .ok (.l2i, 1)) (hp : pc + 1 = pc') 
    (hr : Go p e below s n0 Q C N (T.setTop (mkF m pc' Ls (.int x.toInt32 :: st)))) : Go p e below s n0 Q C N (T.setTop (mkF m pc Ls (.long x :: st))) := by
  obtain ⟨locs, Y, -⟩ := X
  obtain ⟨hx, -, hby, -⟩ := K
  subst hp
  exact Go.step (fun _ k => XT.l2i Y.here hx (g := mkF m pc Ls (.long x :: st)) rfl (hb hby hd) rfl k) hr
theorem g_i2b (K : Cx p s m meth c Z own nm bs ml rt) (X : Sd p l e R s m args below meth c n0 T cells slots) {x : Int32} (pc' : Nat) (hd : decode bs pc = .ok (.i2b, 1)) (hp : pc + 1 = pc') 
    (hr : Go p e below s n0 Q C N (T.setTop (mkF m pc' Ls (.int x.toInt8.toInt32 :: st)))) : Go p e below s n0 Q C N (T.setTop (mkF m pc Ls (.int x :: st))) := by
  obtain ⟨locs, Y, -⟩ := X
  obtain ⟨hx, -, hby, -⟩ := K
  subst hp
  exact Go.step (fun _ k => XT.i2b Y.here hx (g := mkF m pc Ls (.int x :: st)) rfl (hb hby hd) rfl k) hr
theorem g_dup (K : Cx p s m meth c Z own nm bs ml rt) (X : Sd p l e R s m args below meth c n0 T cells slots) {x : Value} (pc' : Nat) (hd : decode bs pc = .ok (.dup, 1)) (hp : pc + 1 = pc') (hc : x.category = 1)
    (hr : Go p e below s n0 Q C N (T.setTop (mkF m pc' Ls (x :: x :: st)))) : Go p e below s n0 Q C N (T.setTop (mkF m pc Ls (x :: st))) := by
  obtain ⟨locs, Y, -⟩ := X
  obtain ⟨hx, -, hby, -⟩ := K
  subst hp
  exact Go.step (fun _ k => XS.dup Y.here hx (g := mkF m pc Ls (x :: st)) rfl (hb hby hd) rfl hc k) hr
theorem g_dup_x1 (K : Cx p s m meth c Z own nm bs ml rt) (X : Sd p l e R s m args below meth c n0 T cells slots) {x y : Value} (pc' : Nat) (hd : decode bs pc = .ok (.dup_x1, 1)) (hp : pc + 1 = pc') (hc : x.category = 1) (hc' : y.category = 1)
    (hr : Go p e below s n0 Q C N (T.setTop (mkF m pc' Ls (x :: y :: x :: st)))) : Go p e below s n0 Q C N (T.setTop (mkF m pc Ls (x :: y :: st))) := by
  obtain ⟨locs, Y, -⟩ := X
  obtain ⟨hx, -, hby, -⟩ := K
  subst hp
  exact Go.step (fun _ k => XT.dupX1 Y.here hx (g := mkF m pc Ls (x :: y :: st)) rfl (hb hby hd) rfl hc hc' k) hr
theorem g_dup2 (K : Cx p s m meth c Z own nm bs ml rt) (X : Sd p l e R s m args below meth c n0 T cells slots) {x y : Value} (pc' : Nat) (hd : decode bs pc = .ok (.dup2, 1)) (hp : pc + 1 = pc') (hc : x.category = 1) (hc' : y.category = 1)
    (hr : Go p e below s n0 Q C N (T.setTop (mkF m pc' Ls (x :: y :: x :: y :: st)))) : Go p e below s n0 Q C N (T.setTop (mkF m pc Ls (x :: y :: st))) := by
  obtain ⟨locs, Y, -⟩ := X
  obtain ⟨hx, -, hby, -⟩ := K
  subst hp
  exact Go.step (fun _ k => XT.dup2 Y.here hx (g := mkF m pc Ls (x :: y :: st)) rfl (hb hby hd) rfl hc hc' k) hr
theorem g_pop (K : Cx p s m meth c Z own nm bs ml rt) (X : Sd p l e R s m args below meth c n0 T cells slots) {x : Value} (pc' : Nat) (hd : decode bs pc = .ok (.pop, 1)) (hp : pc + 1 = pc') (hc : x.category = 1)
    (hr : Go p e below s n0 Q C N (T.setTop (mkF m pc' Ls (st)))) : Go p e below s n0 Q C N (T.setTop (mkF m pc Ls (x :: st))) := by
  obtain ⟨locs, Y, -⟩ := X
  obtain ⟨hx, -, hby, -⟩ := K
  subst hp
  exact Go.step (fun _ k => XT.pop Y.here hx (g := mkF m pc Ls (x :: st)) rfl (hb hby hd) rfl hc k) hr
theorem g_goto (K : Cx p s m meth c Z own nm bs ml rt) (X : Sd p l e R s m args below meth c n0 T cells slots) {o : Int} (pc' : Nat) (hd : decode bs pc = .ok (.goto o, 3)) (hp : (pc : Int) + o = (pc' : Int))
    (hr : Go p e below s n0 Q C N (T.setTop (mkF m pc' Ls st))) : Go p e below s n0 Q C N (T.setTop (mkF m pc Ls st)) := by
  obtain ⟨locs, Y, -⟩ := X
  obtain ⟨hx, -, hby, -⟩ := K
  exact Go.step (fun _ k => XS.goto Y.here hx (g := mkF m pc Ls st) rfl (pc0 := pc) (pc' := pc') rfl (hb hby hd) (by omega) (by omega) k) hr
theorem g_icmpT (K : Cx p s m meth c Z own nm bs ml rt) (X : Sd p l e R s m args below meth c n0 T cells slots) {cd : ClassFile.Cond} {x y : Int32} {o : Int} (pc' : Nat) (hd : decode bs pc = .ok (.if_icmp cd o, 3)) (hp : (pc : Int) + o = (pc' : Int)) (hc : cdP cd x y)
    (hr : Go p e below s n0 Q C N (T.setTop (mkF m pc' Ls st))) : Go p e below s n0 Q C N (T.setTop (mkF m pc Ls (.int y :: .int x :: st))) := by
  obtain ⟨locs, Y, -⟩ := X
  obtain ⟨hx, -, hby, -⟩ := K
  exact Go.step (fun _ k => XS.icmpYes Y.here hx (g := mkF m pc Ls (.int y :: .int x :: st)) rfl (pc0 := pc) (pc' := pc') rfl (hb hby hd) rfl (cdT hc) (by omega) (by omega) k) hr
theorem g_icmpF (K : Cx p s m meth c Z own nm bs ml rt) (X : Sd p l e R s m args below meth c n0 T cells slots) {cd : ClassFile.Cond} {x y : Int32} {o : Int} (pc' : Nat) (hd : decode bs pc = .ok (.if_icmp cd o, 3)) (hp : pc + 3 = pc') (hc : ¬ cdP cd x y)
    (hr : Go p e below s n0 Q C N (T.setTop (mkF m pc' Ls st))) : Go p e below s n0 Q C N (T.setTop (mkF m pc Ls (.int y :: .int x :: st))) := by
  obtain ⟨locs, Y, -⟩ := X
  obtain ⟨hx, -, hby, -⟩ := K
  subst hp
  exact Go.step (fun _ k => XS.icmpNo Y.here hx (g := mkF m pc Ls (.int y :: .int x :: st)) rfl (hb hby hd) rfl (cdF hc) k) hr
theorem g_ifT (K : Cx p s m meth c Z own nm bs ml rt) (X : Sd p l e R s m args below meth c n0 T cells slots) {cd : ClassFile.Cond} {x : Int32} {o : Int} (pc' : Nat) (hd : decode bs pc = .ok (.ifCond cd o, 3)) (hp : (pc : Int) + o = (pc' : Int)) (hc : cdP cd x 0)
    (hr : Go p e below s n0 Q C N (T.setTop (mkF m pc' Ls st))) : Go p e below s n0 Q C N (T.setTop (mkF m pc Ls (.int x :: st))) := by
  obtain ⟨locs, Y, -⟩ := X
  obtain ⟨hx, -, hby, -⟩ := K
  exact Go.step (fun _ k => XS.ifYes Y.here hx (g := mkF m pc Ls (.int x :: st)) rfl (pc0 := pc) (pc' := pc') rfl (hb hby hd) rfl ((if0 _ _).trans (cdT hc)) (by omega) (by omega) k) hr
theorem g_ifF (K : Cx p s m meth c Z own nm bs ml rt) (X : Sd p l e R s m args below meth c n0 T cells slots) {cd : ClassFile.Cond} {x : Int32} {o : Int} (pc' : Nat) (hd : decode bs pc = .ok (.ifCond cd o, 3)) (hp : pc + 3 = pc') (hc : ¬ cdP cd x 0)
    (hr : Go p e below s n0 Q C N (T.setTop (mkF m pc' Ls st))) : Go p e below s n0 Q C N (T.setTop (mkF m pc Ls (.int x :: st))) := by
  obtain ⟨locs, Y, -⟩ := X
  obtain ⟨hx, -, hby, -⟩ := K
  subst hp
  exact Go.step (fun _ k => XS.ifNo Y.here hx (g := mkF m pc Ls (.int x :: st)) rfl (hb hby hd) rfl ((if0 _ _).trans (cdF hc)) k) hr
theorem g_icmp (K : Cx p s m meth c Z own nm bs ml rt) (X : Sd p l e R s m args below meth c n0 T cells slots) {cd : ClassFile.Cond} {x y : Int32} {o : Int} (pT pF : Nat) (hd : decode bs pc = .ok (.if_icmp cd o, 3)) (hp : (pc : Int) + o = (pT : Int)) (hq : pc + 3 = pF)
    (ht : cdP cd x y → Go p e below s n0 Q C N (T.setTop (mkF m pT Ls st))) (hf : ¬ cdP cd x y → Go p e below s n0 Q C N (T.setTop (mkF m pF Ls st))) : Go p e below s n0 Q C N (T.setTop (mkF m pc Ls (.int y :: .int x :: st))) :=
  (Classical.em (cdP cd x y)).elim (fun q => g_icmpT K X pT hd hp q (ht q)) (fun q => g_icmpF K X pF hd hq q (hf q))
theorem g_if (K : Cx p s m meth c Z own nm bs ml rt) (X : Sd p l e R s m args below meth c n0 T cells slots) {cd : ClassFile.Cond} {x : Int32} {o : Int} (pT pF : Nat) (hd : decode bs pc = .ok (.ifCond cd o, 3)) (hp : (pc : Int) + o = (pT : Int)) (hq : pc + 3 = pF)
    (ht : cdP cd x 0 → Go p e below s n0 Q C N (T.setTop (mkF m pT Ls st))) (hf : ¬ cdP cd x 0 → Go p e below s n0 Q C N (T.setTop (mkF m pF Ls st))) : Go p e below s n0 Q C N (T.setTop (mkF m pc Ls (.int x :: st))) :=
  (Classical.em (cdP cd x 0)).elim (fun q => g_ifT K X pT hd hp q (ht q)) (fun q => g_ifF K X pF hd hq q (hf q))
theorem g_acmpT (K : Cx p s m meth c Z own nm bs ml rt) (X : Sd p l e R s m args below meth c n0 T cells slots) {cd : ACond} {x y : Value} {o : Int} (pc' : Nat) (hd : decode bs pc = .ok (.if_acmp cd o, 3)) (hp : (pc : Int) + o = (pc' : Int)) (h1 : x.isRef = true) (h2 : y.isRef = true) (hc : acV cd (decide (x = y)) = true)
    (hr : Go p e below s n0 Q C N (T.setTop (mkF m pc' Ls st))) : Go p e below s n0 Q C N (T.setTop (mkF m pc Ls (y :: x :: st))) := by
  obtain ⟨locs, Y, -⟩ := X
  obtain ⟨hx, -, hby, -⟩ := K
  exact Go.step (fun _ k => acmp Y hx (g := mkF m pc Ls (y :: x :: st)) rfl h1 h2 (pc0 := pc) (pc' := pc') rfl (hb hby hd) rfl rfl (by omega) (by rw [if_pos hc]; omega) k) hr
theorem g_acmpF (K : Cx p s m meth c Z own nm bs ml rt) (X : Sd p l e R s m args below meth c n0 T cells slots) {cd : ACond} {x y : Value} {o : Int} (pc' : Nat) (hd : decode bs pc = .ok (.if_acmp cd o, 3)) (hp : pc + 3 = pc') (ho : 0 ≤ (pc : Int) + o) (h1 : x.isRef = true) (h2 : y.isRef = true) (hc : acV cd (decide (x = y)) = false)
    (hr : Go p e below s n0 Q C N (T.setTop (mkF m pc' Ls st))) : Go p e below s n0 Q C N (T.setTop (mkF m pc Ls (y :: x :: st))) := by
  obtain ⟨locs, Y, -⟩ := X
  obtain ⟨hx, -, hby, -⟩ := K
  exact Go.step (fun _ k => acmp Y hx (g := mkF m pc Ls (y :: x :: st)) rfl h1 h2 (pc0 := pc) (pc' := pc') rfl (hb hby hd) rfl rfl ho (by rw [if_neg (by rw [hc]; exact Bool.false_ne_true)]; exact hp.symm) k) hr
theorem g_ldcI (K : Cx p s m meth c Z own nm bs ml rt) (X : Sd p l e R s m args below meth c n0 T cells slots) {index : Nat} {v : Int32} (w : (Jvm.Cond.constant own index v).before a0 Z = true) (pc' : Nat) (hd : decode bs pc = .ok (.ldc index, 2)) (hp : pc + 2 = pc')
    (hr : Go p e below s n0 Q C N (T.setTop (mkF m pc' Ls (.int v :: st)))) : Go p e below s n0 Q C N (T.setTop (mkF m pc Ls st)) := by
  obtain ⟨locs, Y, -⟩ := X
  obtain ⟨hx, hZ, hby, -, hown, -⟩ := K
  subst hp
  exact Go.step (fun _ k => Y.ldcI hx hown (mvT hZ w) (g := mkF m pc Ls st) rfl (hb hby hd) k) hr
theorem g_ldc2J (K : Cx p s m meth c Z own nm bs ml rt) (X : Sd p l e R s m args below meth c n0 T cells slots) {index : Nat} {v : Int64} (w : (Jvm.Cond.constantLong own index v).before a0 Z = true) (pc' : Nat) (hd : decode bs pc = .ok (.ldc2_w index, 3)) (hp : pc + 3 = pc')
    (hr : Go p e below s n0 Q C N (T.setTop (mkF m pc' Ls (.long v :: st)))) : Go p e below s n0 Q C N (T.setTop (mkF m pc Ls st)) := by
  obtain ⟨locs, Y, -⟩ := X
  obtain ⟨hx, hZ, hby, -, hown, -⟩ := K
  subst hp
  exact Go.step (fun _ k => Y.ldc2J hx hown (mvT hZ w) (g := mkF m pc Ls st) rfl (hb hby hd) k) hr
theorem g_getF (K : Cx p s m meth c Z own nm bs ml rt) (X : Sd p l e R s m args below meth c n0 T cells slots) (eh : T.heap = h) {O n d : String} {index : Nat} (w : (Jvm.Cond.fieldLink own index O n d).before a0 Z = true) {a : Addr} {v : Value} (F : Fld Z h a O n d v) (pc' : Nat) (hd : decode bs pc = .ok (.getfield index, 3)) (hp : pc + 3 = pc')
    (hr : ∀ T', Sd p l e R s m args below meth c n0 T' cells slots → T'.heap = h → Go p e below s n0 Q C N (T'.setTop (mkF m pc' Ls (v :: st)))) : Go p e below s n0 Q C N (T.setTop (mkF m pc Ls (.ref a :: st))) := by
  obtain ⟨locs, Y, hN⟩ := X
  obtain ⟨hx, hZ, hby, -, hown, -⟩ := K
  subst hp
  obtain ⟨T', X', e', k⟩ := getF Y hx hZ hown (host := "") (Or.inl w) Via.refl eh F (g := mkF m pc Ls (.ref a :: st)) rfl rfl (hb hby hd)
  exact Go.step k (hr T' ⟨locs, X', hN⟩ e')
theorem g_putF (K : Cx p s m meth c Z own nm bs ml rt) (X : Sd p l e R s m args below meth c n0 T cells slots) (eh : T.heap = h) {O n d D : String} {index kk : Nat} {ty : FieldType} (w : (Jvm.Cond.fieldLink own index O n d).before a0 Z = true) {a : Addr} {v old : Value} (F : Fld Z h a O n d old) (E : Exa Z h a D) (L : (Jvm.Cond.lays D O n d).before a0 Z = true ∨ ((Jvm.Cond.laysFinal D O n d).before a0 Z = true ∧ own = O ∧ nm = "<init>")) (wi : (Jvm.Cond.instantiable D kk).before a0 Z = true)
    (hty : parseFieldDescriptor d = some ty) (hn : narrow ty v = v) (hf : fits ty v = true) (ge : n0 ≤ a) (pc' : Nat) (hd : decode bs pc = .ok (.putfield index, 3)) (hp : pc + 3 = pc')
    (hr : ∀ T' h', Sd p l e R s m args below meth c n0 T' cells slots → T'.heap = h' → Wr h h' a (Jvm.RoadKit.slotOf Z O n d) v → Go p e below s n0 Q C N (T'.setTop (mkF m pc' Ls st))) : Go p e below s n0 Q C N (T.setTop (mkF m pc Ls (v :: .ref a :: st))) := by
  obtain ⟨locs, Y, hN⟩ := X
  obtain ⟨hx, hZ, hby, -, hown, hnm, -⟩ := K
  subst hp
  obtain ⟨T', h', X', e', W, k⟩ := putF Y hx hZ hown (host := "") (Or.inl w) Via.refl eh F E (L.imp id fun q => ⟨q.1, q.2.1, hnm.trans q.2.2⟩) wi hty hn hf (g := mkF m pc Ls (v :: .ref a :: st)) rfl rfl (hb hby hd)
  exact Go.step k (hr T' h' ⟨_, X', Fr.snoc X' hN ge⟩ e' W)
theorem g_new (K : Cx p s m meth c Z own nm bs ml rt) (X : Sd p l e R s m args below meth c n0 T cells slots) (eh : T.heap = h) {D : String} {index n : Nat} (w : (Jvm.Cond.classLink own index D).before a0 Z = true) (wi : (Jvm.Cond.instantiable D n).before a0 Z = true) (wz : (Jvm.Cond.initialized D).before a0 Z = true) (pc' : Nat) (hd : decode bs pc = .ok (.new index, 3)) (hp : pc + 3 = pc') (hc : cells + 1 ≤ R.cells) (hl : slots + n ≤ R.slots)
    (hr : ∀ T' h' a, a = h.size → Sd p l e R s m args below meth c n0 T' (cells + 1) (slots + n) → T'.heap = h' → Ext h h' → Exa Z h' a D → (∀ {O nm d : String} {ty : FieldType}, Laid Z a0 D O nm d → parseFieldDescriptor d = some ty → Fld Z h' a O nm d (defaultValue ty)) → Go p e below s n0 Q C N (T'.setTop (mkF m pc' Ls (.ref a :: st)))) : Go p e below s n0 Q C N (T.setTop (mkF m pc Ls st)) := by
  obtain ⟨locs, Y, hN⟩ := X
  obtain ⟨hx, hZ, hby, -, hown, -⟩ := K
  subst hp
  obtain ⟨T', h', X', e', E, A, D', -, k⟩ := newO Y hx hZ hown w wi wz eh (g := mkF m pc Ls st) rfl (hb hby hd) hc hl
  exact Go.step k (hr T' h' h.size rfl ⟨locs, X', hN⟩ e' E A D')
theorem g_newA (K : Cx p s m meth c Z own nm bs ml rt) (X : Sd p l e R s m args below meth c n0 T cells slots) (eh : T.heap = h) {aty : ArrayType} (w : (Jvm.Cond.arrayClass (newarray.typeOf aty)).before a0 Z = true) (pc' : Nat) (hd : decode bs pc = .ok (.newarray aty, 2)) (hp : pc + 2 = pc') {z : Int32} {n cap : Nat} (hz : z.toInt = (n : Int)) (hcap : n ≤ cap) (hb' : cap * 8 ≤ 536870912) (hdv : defaultValue (newarray.typeOf aty) = .int 0) (hc : cells + 1 ≤ R.cells) (hl : slots + cap ≤ R.slots)
    (hr : ∀ T' h' a, a = h.size → Sd p l e R s m args below meth c n0 T' (cells + 1) (slots + cap) → T'.heap = h' → Ext h h' → Ai Z h' a (newarray.typeOf aty) n (fun _ => 0) → Exa Z h' a ("[" ++ (newarray.typeOf aty).toString) → Go p e below s n0 Q C N (T'.setTop (mkF m pc' Ls (.ref a :: st)))) : Go p e below s n0 Q C N (T.setTop (mkF m pc Ls (.int z :: st))) := by
  obtain ⟨locs, Y, hN⟩ := X
  obtain ⟨hx, hZ, hby, -, hown, -⟩ := K
  subst hp
  have ez : z.toNatClampNeg = n := by rw [Int32.toNatClampNeg, hz]; rfl
  have hz0 : ¬ z < 0 := by
    rw [Int32.lt_iff_toInt_lt, hz, show (0 : Int32).toInt = 0 from rfl]; omega
  obtain ⟨T', h', cA, X', e', E, A, B, k⟩ := newPE Y hx hZ w eh (g := mkF m pc Ls (.int z :: st)) rfl (hb hby hd) (n := z) rfl hz0 (cap := cap) (by rw [ez]; exact hcap) hb' hc hl rfl
  exact Go.step k (hr T' h' h.size rfl ⟨locs, X', hN⟩ e' E (Ai.new A hz (by omega) hdv) B)
theorem g_len (K : Cx p s m meth c Z own nm bs ml rt) (X : Sd p l e R s m args below meth c n0 T cells slots) (eh : T.heap = h) {a : Addr} {ty : FieldType} {n : Nat} {f : Nat → Int32} (A : Ai Z h a ty n f) (v : Int32) (hv : Int32.ofNat n = v) (pc' : Nat) (hd : decode bs pc = .ok (.arraylength, 1)) (hp : pc + 1 = pc')
    (hr : Go p e below s n0 Q C N (T.setTop (mkF m pc' Ls (.int v :: st)))) : Go p e below s n0 Q C N (T.setTop (mkF m pc Ls (.ref a :: st))) := by
  obtain ⟨locs, Y, -⟩ := X
  obtain ⟨hx, hZ, hby, -⟩ := K
  obtain ⟨cl, A, S, -⟩ := A
  subst hp hv
  refine Go.step (fun target k => Y.arraylength hx (cell := cl) (by rw [eh]; exact A.1) (State.isArrayOf_alike hZ.alike A.2.1) (g := mkF m pc Ls (.ref a :: st)) rfl (rest := st) rfl (hb hby hd) target ?_) hr
  rw [S]
  exact k
theorem g_iaload (K : Cx p s m meth c Z own nm bs ml rt) (X : Sd p l e R s m args below meth c n0 T cells slots) (eh : T.heap = h) {a : Addr} {n : Nat} {f : Nat → Int32} (A : Ai Z h a .int n f) {j : Int32} (k : Nat) (hj : j.toInt = (k : Int)) (hk : k < n) (v : Int32) (hv : f k = v) (pc' : Nat) (hd : decode bs pc = .ok (.iaload, 1)) (hp : pc + 1 = pc')
    (hr : Go p e below s n0 Q C N (T.setTop (mkF m pc' Ls (.int v :: st)))) : Go p e below s n0 Q C N (T.setTop (mkF m pc Ls (.int j :: .ref a :: st))) := by
  obtain ⟨locs, Y, -⟩ := X
  obtain ⟨hx, hZ, hby, -⟩ := K
  obtain ⟨cl, A, S, -, H⟩ := A
  subst hp hv
  obtain ⟨i1, i2⟩ := idx_ok hj hk
  exact Go.step (fun target kk => Y.iaload hx (j := j) (v := .int (f k)) (by rw [eh]; exact A.1) (State.isArrayOf_alike hZ.alike A.2.1) A.2.2 (by rw [S]; exact i1) (by rw [i2]; exact H k hk) (g := mkF m pc Ls (.int j :: .ref a :: st)) rfl rfl (hb hby hd) target kk) hr
theorem g_baload (K : Cx p s m meth c Z own nm bs ml rt) (X : Sd p l e R s m args below meth c n0 T cells slots) (eh : T.heap = h) {a : Addr} {n : Nat} {f : Nat → Int32} (A : Ai Z h a .byte n f) {j : Int32} (k : Nat) (hj : j.toInt = (k : Int)) (hk : k < n) (v : Int32) (hv : f k = v) (pc' : Nat) (hd : decode bs pc = .ok (.baload, 1)) (hp : pc + 1 = pc')
    (hr : Go p e below s n0 Q C N (T.setTop (mkF m pc' Ls (.int v :: st)))) : Go p e below s n0 Q C N (T.setTop (mkF m pc Ls (.int j :: .ref a :: st))) := by
  obtain ⟨locs, Y, -⟩ := X
  obtain ⟨hx, hZ, hby, -⟩ := K
  obtain ⟨cl, A, S, -, H⟩ := A
  subst hp hv
  obtain ⟨i1, i2⟩ := idx_ok hj hk
  exact Go.step (fun target kk => Y.baloadBytes hx (j := j) (v := .int (f k)) (by rw [eh]; exact A.1) (State.isArrayOf_alike hZ.alike A.2.1) A.2.2 (by rw [S]; exact i1) (by rw [i2]; exact H k hk) (g := mkF m pc Ls (.int j :: .ref a :: st)) rfl rfl (hb hby hd) target kk) hr
theorem g_iastore (K : Cx p s m meth c Z own nm bs ml rt) (X : Sd p l e R s m args below meth c n0 T cells slots) (eh : T.heap = h) {a : Addr} {n : Nat} {f : Nat → Int32} (A : Ai Z h a .int n f) {j x : Int32} (k : Nat) (hj : j.toInt = (k : Int)) (hk : k < n) (v : Int32) (hv : x = v) (ge : n0 ≤ a) (pc' : Nat) (hd : decode bs pc = .ok (.iastore, 1)) (hp : pc + 1 = pc')
    (hr : ∀ T' h', Sd p l e R s m args below meth c n0 T' cells slots → T'.heap = h' → Wr h h' a k (.int v) → Ai Z h' a .int n (upA f k v) → Go p e below s n0 Q C N (T'.setTop (mkF m pc' Ls st))) : Go p e below s n0 Q C N (T.setTop (mkF m pc Ls (.int x :: .int j :: .ref a :: st))) := by
  obtain ⟨locs, Y, hN⟩ := X
  obtain ⟨hx, hZ, hby, -⟩ := K
  have A' := A
  obtain ⟨cl, B, S, -, H⟩ := A
  subst hp hv
  obtain ⟨i1, i2⟩ := idx_ok hj hk
  obtain ⟨T', h', X', e', W, kk⟩ := stI Y hx hZ eh B (j := j) (x := x) (by rw [S]; exact i1) (g := mkF m pc Ls (.int x :: .int j :: .ref a :: st)) rfl (rest := st) rfl (hb hby hd)
  rw [i2] at W
  exact Go.step kk (hr T' h' ⟨_, X', Fr.snoc X' hN ge⟩ e' W (A'.set W))
theorem g_bastore (K : Cx p s m meth c Z own nm bs ml rt) (X : Sd p l e R s m args below meth c n0 T cells slots) (eh : T.heap = h) {a : Addr} {n : Nat} {f : Nat → Int32} (A : Ai Z h a .byte n f) {j x : Int32} (k : Nat) (hj : j.toInt = (k : Int)) (hk : k < n) (v : Int32) (hv : x.toInt8.toInt32 = v) (ge : n0 ≤ a) (pc' : Nat) (hd : decode bs pc = .ok (.bastore, 1)) (hp : pc + 1 = pc')
    (hr : ∀ T' h', Sd p l e R s m args below meth c n0 T' cells slots → T'.heap = h' → Wr h h' a k (.int v) → Ai Z h' a .byte n (upA f k v) → Go p e below s n0 Q C N (T'.setTop (mkF m pc' Ls st))) : Go p e below s n0 Q C N (T.setTop (mkF m pc Ls (.int x :: .int j :: .ref a :: st))) := by
  obtain ⟨locs, Y, hN⟩ := X
  obtain ⟨hx, hZ, hby, -⟩ := K
  have A' := A
  obtain ⟨cl, B, S, -, H⟩ := A
  subst hp hv
  obtain ⟨i1, i2⟩ := idx_ok hj hk
  obtain ⟨T', h', X', e', W, kk⟩ := stB Y hx hZ eh B (j := j) (x := x) (by rw [S]; exact i1) (g := mkF m pc Ls (.int x :: .int j :: .ref a :: st)) rfl (rest := st) rfl (hb hby hd)
  rw [i2] at W
  exact Go.step kk (hr T' h' ⟨_, X', Fr.snoc X' hN ge⟩ e' W (A'.set W))
theorem g_initO (K : Cx p s m meth c Z own nm bs ml rt) (X : Sd p l e R s m args below meth c n0 T cells slots) (eh : T.heap = h) (hsz : Ls.size = ml) {idx : Nat} (w1 : (Jvm.Cond.methodLink own idx Lib.objectInit).before a0 Z = true) (w2 : (Jvm.Cond.instanceMethod Lib.objectInit).before a0 Z = true) (w3 : (Jvm.Cond.code Lib.objectInit ⟨#[0xb1]⟩ 1 none).before a0 Z = true) {a : Addr} (pc' : Nat) (hd : decode bs pc = .ok (.invokespecial idx, 3)) (hp : pc + 3 = pc') (hf : 1 ≤ R.frames) (W : Nat) (hW : (st.map fun v => v.category).sum ≤ W) (hl : W + 12 ≤ R.locals)
    (hr : ∀ T', Sd p l e R s m args below meth c n0 T' cells slots → T'.heap = h → Go p e below s n0 Q C N (T'.setTop (mkF m pc' Ls st))) : Go p e below s n0 Q C N (T.setTop (mkF m pc Ls (.ref a :: st))) := by
  obtain ⟨locs, Y, hN⟩ := X
  obtain ⟨hx, hZ, hby, hml, hown, -⟩ := K
  subst hp
  obtain ⟨T', X', e', k⟩ := initO Y hx hZ hown w1 w2 w3 eh (g := mkF m pc Ls (.ref a :: st)) rfl (by rw [hml]; exact hsz) (a := a) (rest := st) rfl (hb hby hd) hf (W := W) (by show 2 * 0 + _ ≤ _; rw [Nat.mul_zero, Nat.zero_add]; exact hW) hl
  exact Go.step k (hr T' ⟨locs, X', hN⟩ e')
theorem g_special (K : Cx p s m meth c Z own nm bs ml rt) (X : Sd p l e R s m args below meth c n0 T cells slots) (eh : T.heap = h) (hsz : Ls.size = ml) {index : Nat} {y : MethodName} (hy1 : y.name = "<init>") {bytes : ByteArray} {maxL : Nat} {rm : Room} {as' : Array Value} {Q' : Option Value → Heap → Prop} (hM : Met l Z y bytes maxL none [] rm as' h n0 Q')
    (w1 : (Jvm.Cond.methodLink own index y).before a0 Z = true) (w2 : (Jvm.Cond.instanceMethod y).before a0 Z = true) (w3 : (Jvm.Cond.code y bytes maxL none).before a0 Z = true) (w4 : (Jvm.Cond.initialized y.cls).before a0 Z = true) (hy : y.cls ≠ "java/lang/invoke/MethodHandle" ∧ y.cls ≠ "java/lang/invoke/VarHandle")
    {a : Addr} (argsL : List Value) {S : List Value} (hS : argsL.reverse ++ .ref a :: st = S) (has : (.ref a :: argsL).toArray = as') (hlen : ∀ sig, parseMethodDescriptor y.desc = some sig → argsL.length = sig.parameters.length) (pc' : Nat) (hd : decode bs pc = .ok (.invokespecial index, 3)) (hp : pc + 3 = pc') (W : Nat) (hW : (st.map fun v => v.category).sum ≤ W) (hf : rm.frames + 1 ≤ R.frames) (hl : W + (maxL + 11) + rm.locals ≤ R.locals) (hc : cells + rm.cells ≤ R.cells) (hs : slots + rm.slots ≤ R.slots)
    (hr : ∀ T' v h', Sd p l e R s m args below meth c n0 T' (cells + rm.cells) (slots + rm.slots) → T'.heap = h' → Q' v h' → Go p e below s n0 Q C N (T'.setTop (mkF m pc' Ls (v.toList ++ st)))) : Go p e below s n0 Q C N (T.setTop (mkF m pc Ls S)) := by
  obtain ⟨locs, Y, hN⟩ := X
  obtain ⟨hx, hZ, hby, hml, hown, -⟩ := K
  subst hp hS has
  obtain ⟨v, vm1, ⟨T', L', k', n'⟩, -, X', ⟨Lc, ⟨hQ, hF⟩, l1, l2, l3⟩, k⟩ := Y.specialBack hx hy1 hown (mvT hZ w1) (mvT hZ w2) (mvT hZ w3) hy (backOf (W := W) (Q := fun v h L => Q' v h ∧ Fr n0 L) hM hZ w3 w4 hf hl) (g := mkF m pc Ls (argsL.reverse ++ .ref a :: st)) rfl (by rw [hml]; exact hsz) (Steps.refl _) (a := a) (argsL := argsL) (rest := st) hlen rfl (by show 2 * 0 + _ ≤ _; rw [Nat.mul_zero, Nat.zero_add]; exact hW) (hb hby hd) (fun _ _ => ⟨rfl, eh, hc, hs⟩)
  dsimp only [Pt.U, Pt.locs, Pt.cells, Pt.slots] at X' l1 l2 l3 k hQ
  subst l1 l2 l3
  exact Go.trans k (hr T' v T'.heap ⟨_, X', hN.app hF⟩ rfl hQ)
theorem g_static (K : Cx p s m meth c Z own nm bs ml rt) (X : Sd p l e R s m args below meth c n0 T cells slots) (eh : T.heap = h) (hsz : Ls.size = ml) {index : Nat} {y : MethodName} {bytes : ByteArray} {maxL : Nat} {ret : Option FieldType} {rm : Room} {as' : Array Value} {Q' : Option Value → Heap → Prop} (hM : Met l Z y bytes maxL ret [] rm as' h n0 Q')
    (w1 : (Jvm.Cond.methodLink own index y).before a0 Z = true) (w2 : (Jvm.Cond.static y).before a0 Z = true) (w3 : (Jvm.Cond.code y bytes maxL ret).before a0 Z = true) (w4 : (Jvm.Cond.initialized y.cls).before a0 Z = true) (hy : y.cls ≠ "java/lang/invoke/MethodHandle" ∧ y.cls ≠ "java/lang/invoke/VarHandle")
    (argsL : List Value) {S : List Value} (hS : argsL.reverse ++ st = S) (has : argsL.toArray = as') (hlen : ∀ sig, parseMethodDescriptor y.desc = some sig → argsL.length = sig.parameters.length) (pc' : Nat) (hd : decode bs pc = .ok (.invokestatic index, 3)) (hp : pc + 3 = pc') (W : Nat) (hW : (st.map fun v => v.category).sum ≤ W) (hf : rm.frames + 1 ≤ R.frames) (hl : W + (maxL + 11) + rm.locals ≤ R.locals) (hc : cells + rm.cells ≤ R.cells) (hs : slots + rm.slots ≤ R.slots)
    (hr : ∀ T' v h', Sd p l e R s m args below meth c n0 T' (cells + rm.cells) (slots + rm.slots) → T'.heap = h' → Q' v h' → Go p e below s n0 Q C N (T'.setTop (mkF m pc' Ls (v.toList ++ st)))) : Go p e below s n0 Q C N (T.setTop (mkF m pc Ls S)) := by
  obtain ⟨locs, Y, hN⟩ := X
  obtain ⟨hx, hZ, hby, hml, hown, -⟩ := K
  subst hp hS has
  obtain ⟨v, vm1, ⟨T', L', k', n'⟩, -, X', ⟨Lc, ⟨hQ, hF⟩, l1, l2, l3⟩, k⟩ := Jvm.LawKit.callS Y hx hown (mvT hZ w1) (mvT hZ w2) (mvT hZ w4) (mvT hZ w3) hy (backOf (W := W) (Q := fun v h L => Q' v h ∧ Fr n0 L) hM hZ w3 w4 hf hl) (g := mkF m pc Ls (argsL.reverse ++ st)) rfl (by rw [hml]; exact hsz) (argsL := argsL) (rest := st) hlen rfl (by show 2 * 0 + _ ≤ _; rw [Nat.mul_zero, Nat.zero_add]; exact hW) (hb hby hd) (fun _ _ => ⟨rfl, eh, hc, hs⟩)
  dsimp only [Pt.U, Pt.locs, Pt.cells, Pt.slots] at X' l1 l2 l3 k hQ
  subst l1 l2 l3
  exact Go.step k (hr T' v T'.heap ⟨_, X', hN.app hF⟩ rfl hQ)
theorem g_virtual (K : Cx p s m meth c Z own nm bs ml rt) (X : Sd p l e R s m args below meth c n0 T cells slots) (eh : T.heap = h) (hsz : Ls.size = ml) {index : Nat} {D : String} {y : MethodName} {bytes : ByteArray} {maxL : Nat} {ret : Option FieldType} {rm : Room} {as' : Array Value} {Q' : Option Value → Heap → Prop} (hM : Met l Z y bytes maxL ret [] rm as' h n0 Q')
    (w1 : (Jvm.Cond.methodLink own index y).before a0 Z = true) (w2 : (Jvm.Cond.declares y).before a0 Z = true) (w5 : (Jvm.Cond.selects D y y).before a0 Z = true) (w6 : (Jvm.Cond.instanceMethod y).before a0 Z = true) (w3 : (Jvm.Cond.code y bytes maxL ret).before a0 Z = true) (w4 : (Jvm.Cond.initialized y.cls).before a0 Z = true) (hy : y.cls ≠ "java/lang/invoke/MethodHandle" ∧ y.cls ≠ "java/lang/invoke/VarHandle")
    {a : Addr} (E : Exa Z h a D) (argsL : List Value) {S : List Value} (hS : argsL.reverse ++ .ref a :: st = S) (has : (.ref a :: argsL).toArray = as') (hlen : ∀ sig, parseMethodDescriptor y.desc = some sig → argsL.length = sig.parameters.length) (pc' : Nat) (hd : decode bs pc = .ok (.invokevirtual index, 3)) (hp : pc + 3 = pc') (W : Nat) (hW : (st.map fun v => v.category).sum ≤ W) (hf : rm.frames + 1 ≤ R.frames) (hl : W + (maxL + 11) + rm.locals ≤ R.locals) (hc : cells + rm.cells ≤ R.cells) (hs : slots + rm.slots ≤ R.slots)
    (hr : ∀ T' v h', Sd p l e R s m args below meth c n0 T' (cells + rm.cells) (slots + rm.slots) → T'.heap = h' → Q' v h' → Go p e below s n0 Q C N (T'.setTop (mkF m pc' Ls (v.toList ++ st)))) : Go p e below s n0 Q C N (T.setTop (mkF m pc Ls S)) := by
  obtain ⟨locs, Y, hN⟩ := X
  obtain ⟨hx, hZ, hby, hml, hown, -⟩ := K
  subst hp hS has
  obtain ⟨cq, kq, qa, qb, qc⟩ := isOf hZ eh E
  obtain ⟨v, vm1, ⟨T', L', k', n'⟩, -, X', ⟨Lc, ⟨hQ, hF⟩, l1, l2, l3⟩, k⟩ := Y.virtualBack hx (y := y) (z := y) hown (mvT hZ w1) (mvT hZ w2) (notFace_of_selects (args := #[]) (mvT hZ w5)) (mvT hZ w5) (mvT hZ w6) hy (backOf (W := W) (Q := fun v h L => Q' v h ∧ Fr n0 L) hM hZ w3 w4 hf hl) qa qc (g := mkF m pc Ls (argsL.reverse ++ .ref a :: st)) rfl (by rw [hml]; exact hsz) (Steps.refl _) (argsL := argsL) (rest := st) hlen rfl (by show 2 * 0 + _ ≤ _; rw [Nat.mul_zero, Nat.zero_add]; exact hW) (hb hby hd) (fun _ _ => ⟨rfl, eh, hc, hs⟩)
  dsimp only [Pt.U, Pt.locs, Pt.cells, Pt.slots] at X' l1 l2 l3 k hQ
  subst l1 l2 l3
  exact Go.trans k (hr T' v T'.heap ⟨_, X', hN.app hF⟩ rfl hQ)
theorem g_private (K : Cx p s m meth c Z own nm bs ml rt) (X : Sd p l e R s m args below meth c n0 T cells slots) (eh : T.heap = h) (hsz : Ls.size = ml) {index : Nat} {y : MethodName} {bytes : ByteArray} {maxL kk : Nat} {ret : Option FieldType} {rm : Room} {as' : Array Value} {Q' : Option Value → Heap → Prop} (hM : Met l Z y bytes maxL ret [] rm as' h n0 Q')
    (w1 : (Jvm.Cond.methodLink own index y).before a0 Z = true) (w2 : (Jvm.Cond.instanceMethod y).before a0 Z = true) (w5 : (Jvm.Cond.privateMethod y).before a0 Z = true) (wi : (Jvm.Cond.instantiable y.cls kk).before a0 Z = true) (w3 : (Jvm.Cond.code y bytes maxL ret).before a0 Z = true) (w4 : (Jvm.Cond.initialized y.cls).before a0 Z = true) (hy : y.cls ≠ "java/lang/invoke/MethodHandle" ∧ y.cls ≠ "java/lang/invoke/VarHandle")
    {D : String} {a : Addr} (E : Exa Z h a D) (argsL : List Value) {S : List Value} (hS : argsL.reverse ++ .ref a :: st = S) (has : (.ref a :: argsL).toArray = as') (hlen : ∀ sig, parseMethodDescriptor y.desc = some sig → argsL.length = sig.parameters.length) (pc' : Nat) (hd : decode bs pc = .ok (.invokevirtual index, 3)) (hp : pc + 3 = pc') (W : Nat) (hW : (st.map fun v => v.category).sum ≤ W) (hf : rm.frames + 1 ≤ R.frames) (hl : W + (maxL + 11) + rm.locals ≤ R.locals) (hc : cells + rm.cells ≤ R.cells) (hs : slots + rm.slots ≤ R.slots)
    (hr : ∀ T' v h', Sd p l e R s m args below meth c n0 T' (cells + rm.cells) (slots + rm.slots) → T'.heap = h' → Q' v h' → Go p e below s n0 Q C N (T'.setTop (mkF m pc' Ls (v.toList ++ st)))) : Go p e below s n0 Q C N (T.setTop (mkF m pc Ls S)) := by
  obtain ⟨locs, Y, hN⟩ := X
  obtain ⟨hx, hZ, hby, hml, hown, -⟩ := K
  subst hp hS has
  have hpriv : s.PrivateAt y := Cond.privateMethod_at (mvP hZ w5 (args := #[]))
  have wi' : (Jvm.Cond.instantiable y.cls kk).before args s = true := mvT hZ wi
  obtain ⟨ci, ki, i1, i2, -, i4, -⟩ := Cond.instantiable_spec wi'
  have hsel : (Jvm.Cond.selects y.cls y y).before args s = true := Jvm.Stand.selects_self_of_private i1 i2 (by cases hb2 : ki.isInterface <;> simp_all) hpriv (mvT hZ w2 : (Jvm.Cond.instanceMethod y).before args s = true) hy
  obtain ⟨cl, q1, q2⟩ := E.cell
  obtain ⟨v, vm1, ⟨T', L', k', n'⟩, -, X', ⟨Lc, ⟨hQ, hF⟩, l1, l2, l3⟩, k⟩ := Y.privateBack hx (y := y) hown (mvT hZ w1) (mvT hZ w2) hsel hpriv (mvT hZ w3) hy (backOf (W := W) (Q := fun v h L => Q' v h ∧ Fr n0 L) hM hZ w3 w4 hf hl) (g := mkF m pc Ls (argsL.reverse ++ .ref a :: st)) rfl (by rw [hml]; exact hsz) (Steps.refl _) (a := a) (cell := cl) (by rw [eh]; exact q1) q2 (argsL := argsL) (rest := st) hlen rfl (by show 2 * 0 + _ ≤ _; rw [Nat.mul_zero, Nat.zero_add]; exact hW) (hb hby hd) (fun _ _ => ⟨rfl, eh, hc, hs⟩)
  dsimp only [Pt.U, Pt.locs, Pt.cells, Pt.slots] at X' l1 l2 l3 k hQ
  subst l1 l2 l3
  exact Go.trans k (hr T' v T'.heap ⟨_, X', hN.app hF⟩ rfl hQ)
/-- an array of bytes -/
def Ab (Z : State) (h : Heap) (a : Addr) (n : Nat) (f : Nat → Int32) : Prop := Ai Z h a .byte n f ∧ ∀ j, j < n → (f j).toInt8.toInt32 = f j
def bl (f : Nat → Int32) (n : Nat) : List Value := (List.range n).map fun j => .int (f j)
theorem bl_len (f : Nat → Int32) (n : Nat) : (bl f n).length = n := by simp [bl]
theorem bl_at (f : Nat → Int32) {n j : Nat} (h : j < n) (d : Value) : (bl f n).getD j d = .int (f j) := by simp [bl, List.getD_eq_getElem?_getD, h]
theorem i32n {n : Nat} (hn : n < 2 ^ 31) : (Int32.ofNat n).toNatClampNeg = n ∧ ¬ Int32.ofNat n < 0 := by
  have e : (Int32.ofNat n).toInt = (n : Int) := Int32.toInt_ofNat_of_lt (by omega)
  refine ⟨by rw [Int32.toNatClampNeg, e]; rfl, ?_⟩
  rw [Int32.lt_iff_toInt_lt, e, show (0 : Int32).toInt = 0 from rfl]; omega
theorem Ab.arv {a : Addr} {n : Nat} {f : Nat → Int32} (A : Ab Z h a n f) : ∃ k, Arv Z h a k .byte (Int32.ofNat n) (bl f n) (.int 0) := by
  obtain ⟨⟨cl, A, S, B, H⟩, G⟩ := A
  obtain ⟨z1, z2⟩ := i32n B
  refine ⟨cl.cls, cl, A, rfl, by rw [z1]; exact S, z2, fun j hj => ?_, fun j hj => ?_⟩
  · rw [S] at hj
    rw [bl_at f hj]; exact H j hj
  · rw [S] at hj
    rw [bl_at f hj, ← G j hj]; exact fits_nar_byte _
theorem Ai.of_arv {a : Addr} {k : ClassId} {n : Nat} {vs : List Value} {d : Value} {g : Nat → Int32} {ty : FieldType} (hn : n < 2 ^ 31) (A : Arv Z h a k ty (Int32.ofNat n) vs d) (hg : ∀ j, j < n → vs.getD j d = .int (g j)) : Ai Z h a ty n g := by
  obtain ⟨cl, A, -, S, -, H, -⟩ := A
  obtain ⟨z1, -⟩ := i32n hn
  rw [z1] at S
  exact ⟨cl, A, S, hn, fun j hj => by rw [H j (by rw [S]; exact hj), hg j hj]⟩
theorem Ab.ext {h' : Heap} {a : Addr} {n : Nat} {f : Nat → Int32} (A : Ab Z h a n f) (E : Ext h h') : Ab Z h' a n f := ⟨A.1.ext E, A.2⟩
theorem Ab.other {h' : Heap} {a b : Addr} {n sl : Nat} {f : Nat → Int32} {v : Value} (A : Ab Z h b n f) (W : Wr h h' a sl v) (q : b ≠ a) : Ab Z h' b n f := ⟨A.1.other W q, A.2⟩
theorem Ab.keep {h' : Heap} {a : Addr} {n : Nat} {f : Nat → Int32} {ws : List Addr} (A : Ab Z h a n f) (K : Keep h h' ws) (q : a ∉ ws) : Ab Z h' a n f := ⟨A.1.keep K q, A.2⟩
theorem Ab.congr {a : Addr} {n : Nat} {f g : Nat → Int32} (A : Ab Z h a n f) (q : ∀ j, j < n → f j = g j) : Ab Z h a n g := ⟨A.1.congr q, fun j hj => by rw [← q j hj]; exact A.2 j hj⟩
theorem Ab.upA {h' : Heap} {a : Addr} {n k : Nat} {f : Nat → Int32} {x : Int32} (A : Ab Z h a n f) (B : Ai Z h' a .byte n (upA f k x)) (hx : x.toInt8.toInt32 = x) : Ab Z h' a n (upA f k x) := ⟨B, fun j hj => by
  by_cases q : j = k
  · subst q; rw [upA_same]; exact hx
  · rw [upA_other q]; exact A.2 j hj⟩
theorem g_cast (K : Cx p s m meth c Z own nm bs ml rt) (X : Sd p l e R s m args below meth c n0 T cells slots) (eh : T.heap = h) {D : String} {index : Nat} (w : (Jvm.Cond.classLink own index D).before a0 Z = true) {a : Addr} (E : Exa Z h a D) (pc' : Nat) (hd : decode bs pc = .ok (.checkcast index, 3)) (hp : pc + 3 = pc')
    (hr : ∀ T', Sd p l e R s m args below meth c n0 T' cells slots → T'.heap = h → Go p e below s n0 Q C N (T'.setTop (mkF m pc' Ls (.ref a :: st)))) : Go p e below s n0 Q C N (T.setTop (mkF m pc Ls (.ref a :: st))) := by
  obtain ⟨locs, Y, hN⟩ := X
  obtain ⟨hx, hZ, hby, -, hown, -⟩ := K
  subst hp
  obtain ⟨T', X', e', k⟩ := castY Y hx hZ hown w eh (Ins.self E) (g := mkF m pc Ls (.ref a :: st)) rfl rfl (hb hby hd)
  exact Go.step k (hr T' ⟨locs, X', hN⟩ e')
theorem g_clone (K : Cx p s m meth c Z own nm bs ml rt) (X : Sd p l e R s m args below meth c n0 T cells slots) (eh : T.heap = h) (hsz : Ls.size = ml) {index : Nat} (w1 : (Jvm.Cond.methodLink own index ⟨"[B", "clone", "()Ljava/lang/Object;"⟩).before a0 Z = true) (w2 : (Jvm.Cond.sameMethod "[B" "java/lang/Object" "clone" "()Ljava/lang/Object;").before a0 Z = true) (w3 : (Jvm.Cond.native ⟨"java/lang/Object", "clone", "()Ljava/lang/Object;"⟩).before a0 Z = true) (w4 : (Jvm.Cond.instanceMethod ⟨"java/lang/Object", "clone", "()Ljava/lang/Object;"⟩).before a0 Z = true) (w5 : (Jvm.Cond.selects "[B" ⟨"[B", "clone", "()Ljava/lang/Object;"⟩ ⟨"java/lang/Object", "clone", "()Ljava/lang/Object;"⟩).before a0 Z = true) (w6 : (Jvm.Cond.castable "[B" "java/lang/Cloneable").before a0 Z = true)
    {a : Addr} {n cap : Nat} {f : Nat → Int32} (A : Ab Z h a n f) (E : Exa Z h a "[B") (hcap : n ≤ cap) (pc' : Nat) (hd : decode bs pc = .ok (.invokevirtual index, 3)) (hp : pc + 3 = pc') (hf : 1 ≤ R.frames) (W : Nat) (hW : (st.map fun v => v.category).sum ≤ W) (hl : W + 14 ≤ R.locals) (hc : cells + 1 ≤ R.cells) (hs : slots + cap ≤ R.slots)
    (hr : ∀ T' h' b, b = h.size → Sd p l e R s m args below meth c n0 T' (cells + 1) (slots + cap) → T'.heap = h' → Ext h h' → Ab Z h' b n f → Exa Z h' b "[B" → Go p e below s n0 Q C N (T'.setTop (mkF m pc' Ls (.ref b :: st)))) : Go p e below s n0 Q C N (T.setTop (mkF m pc Ls (.ref a :: st))) := by
  obtain ⟨locs, Y, hN⟩ := X
  obtain ⟨hx, hZ, hby, hml, hown, -⟩ := K
  subst hp
  have hn := A.1
  obtain ⟨-, -, -, hn, -⟩ := hn
  obtain ⟨k, V⟩ := A.arv
  obtain ⟨z1, -⟩ := i32n hn
  obtain ⟨T', h', X', e', Ex, V', E', kk⟩ := cloneH Y hx hZ hown w1 w2 w3 w4 w5 w6 eh V.arh E (g := mkF m pc Ls (.ref a :: st)) rfl (by rw [hml]; exact hsz) (rest := st) rfl (hb hby hd) hf (W := W) (cap := cap) (by show 2 * 0 + _ ≤ _; rw [Nat.mul_zero, Nat.zero_add]; exact hW) hl (by rw [z1]; exact hcap) hc hs
  have V2 : Arv Z h' h.size k .byte (Int32.ofNat n) (bl f n) (.int 0) := V'
  exact Go.step kk (hr T' h' h.size rfl ⟨locs, X', hN⟩ e' Ex ⟨Ai.of_arv hn V2 (fun j hj => bl_at f hj _), A.2⟩ E')
/-- arraycopy from the start of one array of bytes to the start of another, new one -/
theorem g_acopy (K : Cx p s m meth c Z own nm bs ml rt) (X : Sd p l e R s m args below meth c n0 T cells slots) (eh : T.heap = h) (hsz : Ls.size = ml) {index : Nat} (w1 : (Jvm.Cond.methodLink own index Jvm.Stand.acN).before a0 Z = true) (w2 : (Jvm.Cond.native Jvm.Stand.acN).before a0 Z = true) (w3 : (Jvm.Cond.static Jvm.Stand.acN).before a0 Z = true) (w4 : (Jvm.Cond.initialized "java/lang/System").before a0 Z = true)
    {a b : Addr} {n m' q : Nat} {f g : Nat → Int32} (A : Ab Z h a n f) (B : Ab Z h b m' g) (E : Exa Z h b "[B") (hq1 : q ≤ n) (hq2 : q ≤ m') (ge : n0 ≤ b) {x y z : Int32} (hx0 : x = 0) (hy0 : y = 0) (hz : z = Int32.ofNat q) (pc' : Nat) (hd : decode bs pc = .ok (.invokestatic index, 3)) (hp : pc + 3 = pc') (hf : 1 ≤ R.frames) (W : Nat) (hW : (st.map fun v => v.category).sum ≤ W) (hl : W + (nativeFrameWords "java/lang/System" "arraycopy" 5 + 11) ≤ R.locals)
    (hr : ∀ T' h', Sd p l e R s m args below meth c n0 T' cells slots → T'.heap = h' → Keep h h' [b] → Ab Z h' b m' (fun j => if j < q then f j else g j) → Go p e below s n0 Q C N (T'.setTop (mkF m pc' Ls st))) : Go p e below s n0 Q C N (T.setTop (mkF m pc Ls (.int z :: .int y :: .ref b :: .int x :: .ref a :: st))) := by
  obtain ⟨locs, Y, hN⟩ := X
  obtain ⟨hx, hZ, hby, hml, hown, -⟩ := K
  subst hp hx0 hy0 hz
  have hn := A.1
  obtain ⟨-, -, -, hn, -⟩ := hn
  have hm := B.1
  obtain ⟨-, -, -, hm, -⟩ := hm
  obtain ⟨k, V⟩ := A.arv
  obtain ⟨k', V'⟩ := B.arv
  obtain ⟨n1, -⟩ := i32n hn
  obtain ⟨m1, -⟩ := i32n hm
  obtain ⟨q1, q2⟩ := i32n (n := q) (by omega)
  have z0 : (0 : Int32).toNatClampNeg = 0 := rfl
  obtain ⟨T', h', L, X', e', F', K', V2, kk⟩ := cpA Y hx hZ hown w1 w2 w3 w4 eh (sp := 0) (dp := 0) (nn := Int32.ofNat q) (us := (List.range q).map fun i => (bl f n).getD (0 + i) (.int 0)) V V' (Or.inl ⟨rfl, rfl⟩) (by decide) (by decide) q2 (by rw [z0, q1, n1]; omega) (by rw [z0, q1, m1]; omega) (by rw [q1, z0]) (by rw [z0, q1, bl_len]; omega) hN ge (g := mkF m pc Ls (.int (Int32.ofNat q) :: .int 0 :: .ref b :: .int 0 :: .ref a :: st)) rfl (by rw [hml]; exact hsz) (rest := st) rfl (hb hby hd) hf (W := W) (by show 2 * 0 + _ ≤ _; rw [Nat.mul_zero, Nat.zero_add]; exact hW) hl
  refine Go.step kk (hr T' h' ⟨_, X', F'⟩ e' K' ⟨Ai.of_arv hm V2 (fun j hj => ?_), fun j hj => ?_⟩)
  · rw [z0, q1]
    by_cases hjq : j < q
    · simp [hjq, bl_len, List.getD_eq_getElem?_getD, bl, List.getElem?_append, show j < n by omega]
    · have : j - q + q = j := by omega
      simp [hjq, bl_len, List.getD_eq_getElem?_getD, bl, List.getElem?_append, hj, List.getElem?_drop, show q + (j - q) = j by omega]
  · show (if j < q then f j else g j).toInt8.toInt32 = (if j < q then f j else g j)
    split
    · exact A.2 j (by omega)
    · exact B.2 j hj
theorem g_retN (K : Cx p s m meth c Z own nm bs ml rt) (X : Sd p l e R s m args below meth c n0 T cells slots) (eh : T.heap = h) {t : FieldType} (hret : rt = some t) (ht : t = .boolean ∨ t = .byte ∨ t = .char ∨ t = .short) {x : Int32} (v : Int32) (hv : nar t x = v) (hd : decode bs pc = .ok (.ireturn, 1)) (hC : cells ≤ C) (hS : slots ≤ N) (hq : Q (some (.int v)) h) : Go p e below s n0 Q C N (T.setTop (mkF m pc Ls (.int x :: st))) := by
  obtain ⟨locs, Y, hN⟩ := X
  obtain ⟨hx, hZ, hby, hml, hown, -, hrt, hlk⟩ := K
  subst hv hret
  obtain ⟨fs, hr, hrun, hended, hW, hsame⟩ := Y.leave (v := some (.int (nar t x))) (fun h => by rw [hrt] at h; cases h) hlk
  exact ⟨_, _, retN Y hx hrt ht (hb hby hd) hr, hrun, hended, _, _, rfl, ⟨by rw [← eh] at hq; exact hq, hN⟩, ⟨_, rfl⟩, hW, hsame.mono hC hS⟩
theorem g_retV (K : Cx p s m meth c Z own nm bs ml rt) (X : Sd p l e R s m args below meth c n0 T cells slots) (eh : T.heap = h) {t : FieldType} (hret : rt = some t) {w : Value} {i : Instr} (hn : narrow t w = w)
    (hi : (i = .ireturn ∧ (t = .int ∨ t = .boolean ∨ t = .byte ∨ t = .char ∨ t = .short) ∧ ∃ z, w = .int z) ∨ (i = .lreturn ∧ t = .long ∧ ∃ z, w = .long z) ∨ (i = .dreturn ∧ t = .double ∧ ∃ z, w = .double z) ∨ (i = .freturn ∧ t = .float ∧ ∃ z, w = .float z) ∨ (i = .areturn ∧ t.isReference = true ∧ w.isRef = true))
    (hd : decode bs pc = .ok (i, 1)) (hC : cells ≤ C) (hS : slots ≤ N) (hq : Q (some w) h) : Go p e below s n0 Q C N (T.setTop (mkF m pc Ls (w :: st))) := by
  obtain ⟨locs, Y, hN⟩ := X
  obtain ⟨hx, hZ, hby, hml, hown, -, hrt, hlk⟩ := K
  subst hret
  obtain ⟨fs, hr, hrun, hended, hW, hsame⟩ := Y.leave (v := some w) (fun h => by rw [hrt] at h; cases h) hlk
  exact ⟨_, _, retOut Y hx hrt hn hi (hb hby hd) hr, hrun, hended, _, _, rfl, ⟨by rw [← eh] at hq; exact hq, hN⟩, ⟨_, rfl⟩, hW, hsame.mono hC hS⟩
theorem g_retI (K : Cx p s m meth c Z own nm bs ml rt) (X : Sd p l e R s m args below meth c n0 T cells slots) (eh : T.heap = h) (hret : rt = some .int) {x : Int32} (hd : decode bs pc = .ok (.ireturn, 1)) (hC : cells ≤ C) (hS : slots ≤ N) (hq : Q (some (.int x)) h) : Go p e below s n0 Q C N (T.setTop (mkF m pc Ls (.int x :: st))) :=
  g_retV K X eh hret rfl (Or.inl ⟨rfl, Or.inl rfl, _, rfl⟩) hd hC hS hq
theorem g_retJ (K : Cx p s m meth c Z own nm bs ml rt) (X : Sd p l e R s m args below meth c n0 T cells slots) (eh : T.heap = h) (hret : rt = some .long) {x : Int64} (hd : decode bs pc = .ok (.lreturn, 1)) (hC : cells ≤ C) (hS : slots ≤ N) (hq : Q (some (.long x)) h) : Go p e below s n0 Q C N (T.setTop (mkF m pc Ls (.long x :: st))) :=
  g_retV K X eh hret rfl (Or.inr (Or.inl ⟨rfl, rfl, _, rfl⟩)) hd hC hS hq
theorem g_retR (K : Cx p s m meth c Z own nm bs ml rt) (X : Sd p l e R s m args below meth c n0 T cells slots) (eh : T.heap = h) {t : FieldType} (hret : rt = some t) (ht : t.isReference = true) {a : Addr} (hn : narrow t (.ref a) = .ref a) (hd : decode bs pc = .ok (.areturn, 1)) (hC : cells ≤ C) (hS : slots ≤ N) (hq : Q (some (.ref a)) h) : Go p e below s n0 Q C N (T.setTop (mkF m pc Ls (.ref a :: st))) :=
  g_retV K X eh hret hn (Or.inr (Or.inr (Or.inr (Or.inr ⟨rfl, ht, rfl⟩)))) hd hC hS hq
theorem g_ret (K : Cx p s m meth c Z own nm bs ml rt) (X : Sd p l e R s m args below meth c n0 T cells slots) (eh : T.heap = h) (hret : rt = none) (hd : decode bs pc = .ok (.return_, 1)) (hC : cells ≤ C) (hS : slots ≤ N) (hq : Q none h) : Go p e below s n0 Q C N (T.setTop (mkF m pc Ls [])) := by
  obtain ⟨locs, Y, hN⟩ := X
  obtain ⟨hx, hZ, hby, hml, hown, -, hrt, hlk⟩ := K
  subst hret
  obtain ⟨fs, hr, hrun, hended, hW, hsame⟩ := Y.leave (v := none) (fun _ => rfl) hlk
  exact ⟨_, _, Y.returnOut hx hrt (hb hby hd) hr, hrun, hended, _, _, rfl, ⟨by rw [← eh] at hq; exact hq, hN⟩, ⟨_, rfl⟩, hW, hsame.mono hC hS⟩
end Go
end Jvm.OwnGo
namespace Jvm.Pilot.@@N@@
open Jvm Jvm.ClassFile Sem Op Lib Jvm.Free Jvm.Stand Jvm.LawKit Jvm.RoadKit Jvm.OwnGo Bundle Jvm.Pilot.@@N@@.Jvm.D
theorem own_i0 {k : Nat} (hk : k < 100) : (Int32.ofNat k).toInt = (k : Int) := Int32.toInt_ofNat_of_lt (by omega)
theorem own_bb (x : Int32) : x.toInt8.toInt32.toInt8.toInt32 = x.toInt8.toInt32 := by simp
theorem own_lt {i j : Nat} (hi : i < 100) (hj : j < 100) : Int32.ofNat i < Int32.ofNat j ↔ i < j := by
  rw [Int32.lt_iff_toInt_lt, own_i0 hi, own_i0 hj]; omega
theorem own_eq {i j : Nat} (hi : i < 100) (hj : j < 100) : Int32.ofNat i = Int32.ofNat j ↔ i = j := by
  rw [← Int32.toInt_inj, own_i0 hi, own_i0 hj]; omega
theorem own_add (k i : Nat) {z : Int32} (hz : z = Int32.ofNat i) : Int32.ofNat k + z = Int32.ofNat (k + i) := by
  subst hz; exact (Int32.ofNat_add k i).symm
theorem own_sub {i j : Nat} (hi : i < 100) (h : j ≤ i) : Int32.ofNat i - Int32.ofNat j = Int32.ofNat (i - j) := by
  apply Int32.toInt_inj.mp
  rw [XT.sub32 (by rw [own_i0 hi, own_i0 (by omega)]; exact ⟨by omega, by omega⟩), own_i0 hi, own_i0 (by omega), own_i0 (by omega)]
  omega
theorem own_two {i : Nat} (hi : i < 40) : (2 : Int32) * Int32.ofNat i = Int32.ofNat (2 * i) := by
  apply Int32.toInt_inj.mp
  have e : (2 : Int32).toInt = 2 := rfl
  rw [XT.mul32 (by rw [e, own_i0 (by omega)]; exact ⟨by omega, by omega⟩), e, own_i0 (by omega), own_i0 (by omega)]
  omega
theorem own_and7 (x : Int32) : ∃ k : Nat, k ≤ 7 ∧ x &&& 7 = Int32.ofNat k := by
  refine ⟨(x &&& 7).toBitVec.toNat, ?_, ?_⟩
  · simp only [Int32.toBitVec_and, BitVec.toNat_and]
    exact Nat.and_le_right
  · apply Int32.toBitVec_inj.mp
    show _ = BitVec.ofNat 32 _
    rw [BitVec.ofNat_toNat]; simp
theorem own_rem (x : Int32) (n : Nat) (z : Int32) (hz : z.toInt = (n : Int)) (h0 : 0 < n) (hn : n < 100) : ∃ k : Nat, k < n ∧ (x &&& 2147483647) % z = Int32.ofNat k := by
  have h1 : (x &&& 2147483647).toInt = (((x &&& 2147483647).toBitVec.toNat : Nat) : Int) := by
    have : (x &&& 2147483647).toBitVec.toNat < 2 ^ 31 := by
      simp only [Int32.toBitVec_and, BitVec.toNat_and]
      exact Nat.lt_of_le_of_lt Nat.and_le_right (by decide)
    show (x &&& 2147483647).toBitVec.toInt = _
    rw [BitVec.toInt_eq_toNat_cond, if_pos (by omega)]
  have h2 := Nat.mod_lt (x &&& 2147483647).toBitVec.toNat h0
  refine ⟨(x &&& 2147483647).toBitVec.toNat % n, h2, ?_⟩
  apply Int32.toInt_inj.mp
  rw [Int32.toInt_mod, h1, hz, Int32.toInt_ofNat_of_lt (by omega)]
  exact (Int.ofNat_tmod _ _).symm
/-- the object: its array 'ar' of cap places, sz bytes in it -/
def GB (Z : State) (h : Heap) (g ar : Addr) (cap sz : Nat) (f : Nat → Int32) : Prop := Exa Z h g "com/example/millrace/millrace/GrowingBytes" ∧ Fld Z h g "com/example/millrace/millrace/GrowingBytes" "bytes" "[B" (.ref ar) ∧ Fld Z h g "com/example/millrace/millrace/GrowingBytes" "size" "I" (.int (Int32.ofNat sz)) ∧ Ab Z h ar cap f ∧ Exa Z h ar "[B" ∧ g ≠ ar
section GBfacts
variable {Z : State} {h h' : Heap} {g ar a : Addr} {cap sz sl : Nat} {f : Nat → Int32} {v : Value} {ws : List Addr}
theorem GB.ext (U : GB Z h g ar cap sz f) (E : Ext h h') : GB Z h' g ar cap sz f := ⟨U.1.ext E, U.2.1.ext E, U.2.2.1.ext E, U.2.2.2.1.ext E, U.2.2.2.2.1.ext E, U.2.2.2.2.2⟩
theorem GB.other (U : GB Z h g ar cap sz f) (W : Wr h h' a sl v) (q1 : g ≠ a) (q2 : ar ≠ a) : GB Z h' g ar cap sz f := ⟨U.1.wr W, U.2.1.other W (Or.inl q1), U.2.2.1.other W (Or.inl q1), U.2.2.2.1.other W q2, U.2.2.2.2.1.wr W, U.2.2.2.2.2⟩
theorem GB.keep (U : GB Z h g ar cap sz f) (K : Keep h h' ws) (q1 : g ∉ ws) (q2 : ar ∉ ws) : GB Z h' g ar cap sz f := ⟨U.1.keep K, U.2.1.keep K q1, U.2.2.1.keep K q1, U.2.2.2.1.keep K q2, U.2.2.2.2.1.keep K, U.2.2.2.2.2⟩
theorem GB.lg (U : GB Z h g ar cap sz f) : g < h.size := U.1.lt
theorem GB.la (U : GB Z h g ar cap sz f) : ar < h.size := U.2.2.2.1.1.lt
end GBfacts
theorem ne_of_new {a b : Addr} {h : Heap} (h1 : a < h.size) (h2 : h.size ≤ b) : a ≠ b := fun q => absurd h1 (by rw [q]; exact Nat.not_lt.mpr h2)
def rm0 : Room := { frames := 0, cells := 0, slots := 0, locals := 0 }
theorem pd_0 : parseMethodDescriptor "(II)I" = some ⟨[.int, .int], some .int⟩ := by decide +kernel
theorem pd_1 : parseMethodDescriptor "()V" = some ⟨[], none⟩ := by decide +kernel
theorem pd_2 : parseMethodDescriptor "([BI)[B" = some ⟨[(.array .byte), .int], some (.array .byte)⟩ := by decide +kernel
theorem pd_3 : parseMethodDescriptor "(I)V" = some ⟨[.int], none⟩ := by decide +kernel
theorem pd_4 : parseMethodDescriptor "()[B" = some ⟨[], some (.array .byte)⟩ := by decide +kernel
theorem pd_5 : parseMethodDescriptor "([BIIIII)Z" = some ⟨[(.array .byte), .int, .int, .int, .int, .int], some .boolean⟩ := by decide +kernel
theorem pd_6 : parseMethodDescriptor "()I" = some ⟨[], some .int⟩ := by decide +kernel
theorem d2_0 : decode jdk_2038_method_1_code 0 = .ok (.aload_n 0, 1) := by decide +kernel
theorem d2_1 : decode jdk_2038_method_1_code 1 = .ok (.invokespecial 1, 3) := by decide +kernel
theorem d2_4 : decode jdk_2038_method_1_code 4 = .ok (.return_, 1) := by decide +kernel
def rmOS : Room := { frames := 1, cells := 0, slots := 0, locals := 12 }
set_option maxRecDepth 65536 in
set_option maxHeartbeats 40000000 in
theorem met_os (l : Launch) (Z : State) (a0 : Array Value) (hw : ∀ d ∈ tables_1, d.before a0 Z = true) (u : Addr) (h0 : Heap) (n0 : Nat) :
    Met l Z (⟨"java/io/OutputStream", "<init>", "()V"⟩ : MethodName) jdk_2038_method_1_code 1 none [] rmOS #[.ref u] h0 n0 (fun v h' => v = none ∧ h0 = h') := by
  refine Met.of (plainFor_of_name (by first | (simp [plainName, overriddenIn]; done) | decide +kernel)) #[.val (.ref u)] (fun m => by first | (simp [entryFrame, mkF, argsToLocals, Value.category]; done) | rfl) ?_
  intro p e s m below meth c T K X eh
  refine g_aloadN K X 1 d2_0 rfl rfl rfl ?_
  refine g_initO K X eh rfl (hw _ (List.mem_of_getElem? (i := 12) rfl)) (hw _ (List.mem_of_getElem? (i := 13) rfl)) (hw _ (List.mem_of_getElem? (i := 14) rfl)) 4 d2_1 rfl (by decide) 0 (Nat.le_of_eq rfl) (by decide) fun T X eh => ?_
  exact g_ret K X eh rfl d2_4 (by decide) (by decide) ⟨rfl, rfl⟩
theorem d9_0 : decode jdk_29_method_69_code 0 = .ok (.iload_n 0, 1) := by decide +kernel
theorem d9_1 : decode jdk_29_method_69_code 1 = .ok (.iload_n 1, 1) := by decide +kernel
theorem d9_2 : decode jdk_29_method_69_code 2 = .ok (.if_icmp .gt 7, 3) := by decide +kernel
theorem d9_5 : decode jdk_29_method_69_code 5 = .ok (.iload_n 0, 1) := by decide +kernel
theorem d9_6 : decode jdk_29_method_69_code 6 = .ok (.goto 4, 3) := by decide +kernel
theorem d9_9 : decode jdk_29_method_69_code 9 = .ok (.iload_n 1, 1) := by decide +kernel
theorem d9_10 : decode jdk_29_method_69_code 10 = .ok (.ireturn, 1) := by decide +kernel
set_option maxRecDepth 65536 in
set_option maxHeartbeats 40000000 in
theorem met_min (l : Launch) (Z : State) (a0 : Array Value) (hw : ∀ d ∈ tables_1, d.before a0 Z = true) (i j : Nat) (hi : i < 100) (hj : j < 100) (h0 : Heap) (n0 : Nat) :
    Met l Z (⟨"java/lang/Math", "min", "(II)I"⟩ : MethodName) jdk_29_method_69_code 2 (some .int) [] rm0 #[.int (Int32.ofNat i), .int (Int32.ofNat j)] h0 n0 (fun v h' => v = some (.int (Int32.ofNat (min i j))) ∧ h0 = h') := by
  refine Met.of (by decide +kernel) #[.val (.int (Int32.ofNat i)), .val (.int (Int32.ofNat j))] (fun m => by first | (simp [entryFrame, mkF, argsToLocals, Value.category]; done) | rfl) ?_
  intro p e s m below meth c T K X eh
  refine g_iloadN K X 1 d9_0 rfl rfl ?_
  refine g_iloadN K X 2 d9_1 rfl rfl ?_
  by_cases hq : j < i
  · refine g_icmpT K X 9 d9_2 rfl (show (Int32.ofNat j) < (Int32.ofNat i) from ((own_lt (by omega) (by omega)).mpr hq)) ?_
    refine g_iloadN K X 10 d9_9 rfl rfl ?_
    exact g_retI K X eh rfl d9_10 (by decide) (by decide) ⟨by rw [show min i j = j by omega], rfl⟩
  · refine g_icmpF K X 5 d9_2 rfl (show ¬ ((Int32.ofNat j) < (Int32.ofNat i)) from (fun q => hq ((own_lt (by omega) (by omega)).mp q))) ?_
    refine g_iloadN K X 6 d9_5 rfl rfl ?_
    refine g_goto K X 10 d9_6 rfl ?_
    exact g_retI K X eh rfl d9_10 (by decide) (by decide) ⟨by rw [show min i j = i by omega], rfl⟩
theorem d7_0 : decode jdk_29_method_65_code 0 = .ok (.iload_n 0, 1) := by decide +kernel
theorem d7_1 : decode jdk_29_method_65_code 1 = .ok (.iload_n 1, 1) := by decide +kernel
theorem d7_2 : decode jdk_29_method_65_code 2 = .ok (.if_icmp .lt 7, 3) := by decide +kernel
theorem d7_5 : decode jdk_29_method_65_code 5 = .ok (.iload_n 0, 1) := by decide +kernel
theorem d7_6 : decode jdk_29_method_65_code 6 = .ok (.goto 4, 3) := by decide +kernel
theorem d7_9 : decode jdk_29_method_65_code 9 = .ok (.iload_n 1, 1) := by decide +kernel
theorem d7_10 : decode jdk_29_method_65_code 10 = .ok (.ireturn, 1) := by decide +kernel
set_option maxRecDepth 65536 in
set_option maxHeartbeats 40000000 in
theorem met_max (l : Launch) (Z : State) (a0 : Array Value) (hw : ∀ d ∈ tables_1, d.before a0 Z = true) (i j : Nat) (hi : i < 100) (hj : j < 100) (h0 : Heap) (n0 : Nat) :
    Met l Z (⟨"java/lang/Math", "max", "(II)I"⟩ : MethodName) jdk_29_method_65_code 2 (some .int) [] rm0 #[.int (Int32.ofNat i), .int (Int32.ofNat j)] h0 n0 (fun v h' => v = some (.int (Int32.ofNat (max i j))) ∧ h0 = h') := by
  refine Met.of (by decide +kernel) #[.val (.int (Int32.ofNat i)), .val (.int (Int32.ofNat j))] (fun m => by first | (simp [entryFrame, mkF, argsToLocals, Value.category]; done) | rfl) ?_
  intro p e s m below meth c T K X eh
  refine g_iloadN K X 1 d7_0 rfl rfl ?_
  refine g_iloadN K X 2 d7_1 rfl rfl ?_
  by_cases hq : i < j
  · refine g_icmpT K X 9 d7_2 rfl (show (Int32.ofNat i) < (Int32.ofNat j) from ((own_lt (by omega) (by omega)).mpr hq)) ?_
    refine g_iloadN K X 10 d7_9 rfl rfl ?_
    exact g_retI K X eh rfl d7_10 (by decide) (by decide) ⟨by rw [show max i j = j by omega], rfl⟩
  · refine g_icmpF K X 5 d7_2 rfl (show ¬ ((Int32.ofNat i) < (Int32.ofNat j)) from (fun q => hq ((own_lt (by omega) (by omega)).mp q))) ?_
    refine g_iloadN K X 6 d7_5 rfl rfl ?_
    refine g_goto K X 10 d7_6 rfl ?_
    exact g_retI K X eh rfl d7_10 (by decide) (by decide) ⟨by rw [show max i j = i by omega], rfl⟩
theorem d6_0 : decode jdk_29_method_24_code 0 = .ok (.iload_n 0, 1) := by decide +kernel
theorem d6_1 : decode jdk_29_method_24_code 1 = .ok (.iload_n 1, 1) := by decide +kernel
theorem d6_2 : decode jdk_29_method_24_code 2 = .ok (.iadd, 1) := by decide +kernel
theorem d6_3 : decode jdk_29_method_24_code 3 = .ok (.istore_n 2, 1) := by decide +kernel
theorem d6_4 : decode jdk_29_method_24_code 4 = .ok (.iload_n 0, 1) := by decide +kernel
theorem d6_5 : decode jdk_29_method_24_code 5 = .ok (.iload_n 2, 1) := by decide +kernel
theorem d6_6 : decode jdk_29_method_24_code 6 = .ok (.ixor, 1) := by decide +kernel
theorem d6_7 : decode jdk_29_method_24_code 7 = .ok (.iload_n 1, 1) := by decide +kernel
theorem d6_8 : decode jdk_29_method_24_code 8 = .ok (.iload_n 2, 1) := by decide +kernel
theorem d6_9 : decode jdk_29_method_24_code 9 = .ok (.ixor, 1) := by decide +kernel
theorem d6_10 : decode jdk_29_method_24_code 10 = .ok (.iand, 1) := by decide +kernel
theorem d6_11 : decode jdk_29_method_24_code 11 = .ok (.ifCond .ge 13, 3) := by decide +kernel
theorem d6_14 : decode jdk_29_method_24_code 14 = .ok (.new 109, 3) := by decide +kernel
theorem d6_17 : decode jdk_29_method_24_code 17 = .ok (.dup, 1) := by decide +kernel
theorem d6_18 : decode jdk_29_method_24_code 18 = .ok (.ldc 111, 2) := by decide +kernel
theorem d6_20 : decode jdk_29_method_24_code 20 = .ok (.invokespecial 113, 3) := by decide +kernel
theorem d6_23 : decode jdk_29_method_24_code 23 = .ok (.athrow, 1) := by decide +kernel
theorem d6_24 : decode jdk_29_method_24_code 24 = .ok (.iload_n 2, 1) := by decide +kernel
theorem d6_25 : decode jdk_29_method_24_code 25 = .ok (.ireturn, 1) := by decide +kernel
set_option maxRecDepth 65536 in
set_option maxHeartbeats 40000000 in
theorem met_add (l : Launch) (Z : State) (a0 : Array Value) (hw : ∀ d ∈ tables_1, d.before a0 Z = true) (i j : Nat) (hi : i < 50) (hj : j < 50) (h0 : Heap) (n0 : Nat) :
    Met l Z (⟨"java/lang/Math", "addExact", "(II)I"⟩ : MethodName) jdk_29_method_24_code 3 (some .int) [] rm0 #[.int (Int32.ofNat i), .int (Int32.ofNat j)] h0 n0 (fun v h' => v = some (.int (Int32.ofNat (i + j))) ∧ h0 = h') := by
  refine Met.of (by decide +kernel) #[.val (.int (Int32.ofNat i)), .val (.int (Int32.ofNat j)), .unset] (fun m => by first | (simp [entryFrame, mkF, argsToLocals, Value.category]; done) | rfl) ?_
  intro p e s m below meth c T K X eh
  refine g_iloadN K X 1 d6_0 rfl rfl ?_
  refine g_iloadN K X 2 d6_1 rfl rfl ?_
  refine g_iadd K X 3 d6_2 rfl ?_
  refine g_istoreN K X 4 #[.val (.int (Int32.ofNat i)), .val (.int (Int32.ofNat j)), .val (.int ((Int32.ofNat i) + (Int32.ofNat j)))] d6_3 rfl rfl ?_
  refine g_iloadN K X 5 d6_4 rfl rfl ?_
  refine g_iloadN K X 6 d6_5 rfl rfl ?_
  refine g_ixor K X 7 d6_6 rfl ?_
  refine g_iloadN K X 8 d6_7 rfl rfl ?_
  refine g_iloadN K X 9 d6_8 rfl rfl ?_
  refine g_ixor K X 10 d6_9 rfl ?_
  refine g_iand K X 11 d6_10 rfl ?_
  refine g_ifT K X 24 d6_11 rfl (show ¬ (((Int32.ofNat i) ^^^ ((Int32.ofNat i) + (Int32.ofNat j))) &&& ((Int32.ofNat j) ^^^ ((Int32.ofNat i) + (Int32.ofNat j)))) < 0 from (XT.addOk32 (by rw [own_i0 (by omega), own_i0 (by omega)]; exact ⟨by omega, by omega⟩))) ?_
  refine g_iloadN K X 25 d6_24 rfl rfl ?_
  refine g_eqI (y := Int32.ofNat (i + j)) (own_add i j rfl) ?_
  exact g_retI K X eh rfl d6_25 (by decide) (by decide) ⟨rfl, rfl⟩
theorem d8_0 : decode jdk_65_method_121_code 0 = .ok (.iload_n 1, 1) := by decide +kernel
theorem d8_1 : decode jdk_65_method_121_code 1 = .ok (.aload_n 0, 1) := by decide +kernel
theorem d8_2 : decode jdk_65_method_121_code 2 = .ok (.arraylength, 1) := by decide +kernel
theorem d8_3 : decode jdk_65_method_121_code 3 = .ok (.if_icmp .ne 11, 3) := by decide +kernel
theorem d8_6 : decode jdk_65_method_121_code 6 = .ok (.aload_n 0, 1) := by decide +kernel
theorem d8_7 : decode jdk_65_method_121_code 7 = .ok (.invokevirtual 310, 3) := by decide +kernel
theorem d8_10 : decode jdk_65_method_121_code 10 = .ok (.checkcast 311, 3) := by decide +kernel
theorem d8_13 : decode jdk_65_method_121_code 13 = .ok (.areturn, 1) := by decide +kernel
theorem d8_14 : decode jdk_65_method_121_code 14 = .ok (.iload_n 1, 1) := by decide +kernel
theorem d8_15 : decode jdk_65_method_121_code 15 = .ok (.newarray .byte, 2) := by decide +kernel
theorem d8_17 : decode jdk_65_method_121_code 17 = .ok (.astore_n 2, 1) := by decide +kernel
theorem d8_18 : decode jdk_65_method_121_code 18 = .ok (.aload_n 0, 1) := by decide +kernel
theorem d8_19 : decode jdk_65_method_121_code 19 = .ok (.iconst 0, 1) := by decide +kernel
theorem d8_20 : decode jdk_65_method_121_code 20 = .ok (.aload_n 2, 1) := by decide +kernel
theorem d8_21 : decode jdk_65_method_121_code 21 = .ok (.iconst 0, 1) := by decide +kernel
theorem d8_22 : decode jdk_65_method_121_code 22 = .ok (.aload_n 0, 1) := by decide +kernel
theorem d8_23 : decode jdk_65_method_121_code 23 = .ok (.arraylength, 1) := by decide +kernel
theorem d8_24 : decode jdk_65_method_121_code 24 = .ok (.iload_n 1, 1) := by decide +kernel
theorem d8_25 : decode jdk_65_method_121_code 25 = .ok (.invokestatic 304, 3) := by decide +kernel
theorem d8_28 : decode jdk_65_method_121_code 28 = .ok (.invokestatic 150, 3) := by decide +kernel
theorem d8_31 : decode jdk_65_method_121_code 31 = .ok (.aload_n 2, 1) := by decide +kernel
theorem d8_32 : decode jdk_65_method_121_code 32 = .ok (.areturn, 1) := by decide +kernel
def rmCo : Room := { frames := 1, cells := 1, slots := 8, locals := 40 }
def Qco (Z : State) (h0 : Heap) (n q : Nat) (f : Nat → Int32) : Option Value → Heap → Prop := fun v h' => ∃ b, v = some (.ref b) ∧ h0.size ≤ b ∧ Ab Z h' b q (fun j => if j < n then f j else 0) ∧ Exa Z h' b "[B" ∧ Keep h0 h' []
set_option maxRecDepth 65536 in
set_option maxHeartbeats 40000000 in
theorem met_co (l : Launch) (Z : State) (a0 : Array Value) (hw : ∀ d ∈ tables_1, d.before a0 Z = true) (a : Addr) (n q : Nat) (f : Nat → Int32) (hn : n ≤ 8) (hq : q ≤ 8) (h0 : Heap) (n0 : Nat) (Z0 : n0 ≤ h0.size) (A : Ab Z h0 a n f) (E : Exa Z h0 a "[B") :
    Met l Z (⟨"java/util/Arrays", "copyOf", "([BI)[B"⟩ : MethodName) jdk_65_method_121_code 3 (some (.array .byte)) [] rmCo #[.ref a, .int (Int32.ofNat q)] h0 n0 (Qco Z h0 n q f) := by
  refine Met.of (plainFor_of_name (by first | (simp [plainName, overriddenIn]; done) | decide +kernel)) #[.val (.ref a), .val (.int (Int32.ofNat q)), .unset] (fun m => by first | (simp [entryFrame, mkF, argsToLocals, Value.category]; done) | rfl) ?_
  intro p e s m below meth c T K X eh
  refine g_iloadN K X 1 d8_0 rfl rfl ?_
  refine g_aloadN K X 2 d8_1 rfl rfl rfl ?_
  refine g_len K X eh A.1 (Int32.ofNat n) rfl 3 d8_2 rfl ?_
  by_cases hnq : q = n
  · refine g_icmpF K X 6 d8_3 rfl (show ¬ (¬ (Int32.ofNat q) = (Int32.ofNat n)) from (fun z => z (by rw [hnq]))) ?_
    refine g_aloadN K X 7 d8_6 rfl rfl rfl ?_
    refine g_clone K X eh rfl (hw _ (List.mem_of_getElem? (i := 61) rfl)) (hw _ (List.mem_of_getElem? (i := 62) rfl)) (hw _ (List.mem_of_getElem? (i := 66) rfl)) (hw _ (List.mem_of_getElem? (i := 64) rfl)) (hw _ (List.mem_of_getElem? (i := 65) rfl)) (hw _ (List.mem_of_getElem? (i := 67) rfl)) (n := n) (cap := 8) A E hn 10 d8_7 rfl (by decide) 0 (Nat.le_of_eq rfl) (by decide) (by decide) (by decide) fun T h1 b gb X eh Ex B EB => ?_
    refine g_cast K X eh (hw _ (List.mem_of_getElem? (i := 68) rfl)) EB 13 d8_10 rfl fun T X eh => ?_
    exact g_retR K X eh rfl rfl rfl d8_13 (by decide) (by decide) ⟨b, rfl, Nat.le_of_eq gb.symm, by rw [hnq]; exact B.congr (fun j hj => by rw [if_pos hj]), EB, (Keep.refl _ _).ext Ex⟩
  · refine g_icmpT K X 14 d8_3 rfl (show ¬ (Int32.ofNat q) = (Int32.ofNat n) from (fun z => hnq ((own_eq (by omega) (by omega)).mp z))) ?_
    refine g_iloadN K X 15 d8_14 rfl rfl ?_
    refine g_newA K X eh (hw _ (List.mem_of_getElem? (i := 15) rfl)) 17 d8_15 rfl (n := q) (cap := 8) (own_i0 (by omega)) hq (by decide) rfl (by decide) (by decide) fun T h1 b gb X eh Ex B EB => ?_
    have gb0 : h0.size ≤ b := Nat.le_of_eq gb.symm
    refine g_astoreN K X 18 #[.val (.ref a), .val (.int (Int32.ofNat q)), .val (.ref b)] d8_17 rfl rfl rfl ?_
    refine g_aloadN K X 19 d8_18 rfl rfl rfl ?_
    refine g_iconst K X (0 : Int32) 20 d8_19 rfl rfl ?_
    refine g_aloadN K X 21 d8_20 rfl rfl rfl ?_
    refine g_iconst K X (0 : Int32) 22 d8_21 rfl rfl ?_
    refine g_aloadN K X 23 d8_22 rfl rfl rfl ?_
    refine g_len K X eh (A.ext Ex).1 (Int32.ofNat n) rfl 24 d8_23 rfl ?_
    refine g_iloadN K X 25 d8_24 rfl rfl ?_
    refine g_static K X eh rfl (met_min l Z a0 hw n q (by omega) (by omega) h1 n0) (hw _ (List.mem_of_getElem? (i := 40) rfl)) (hw _ (List.mem_of_getElem? (i := 41) rfl)) (hw _ (List.mem_of_getElem? (i := 42) rfl)) (hw _ (List.mem_of_getElem? (i := 31) rfl)) (by decide) [.int (Int32.ofNat n), .int (Int32.ofNat q)] rfl rfl (lenOf pd_0 rfl) 28 d8_25 rfl 4 (Nat.le_of_eq rfl) (by decide) (by decide) (by decide) (by decide) fun T v h' X eh hv => ?_
    obtain ⟨rfl, rfl⟩ := hv
    refine g_acopy K X eh rfl (hw _ (List.mem_of_getElem? (i := 43) rfl)) (hw _ (List.mem_of_getElem? (i := 46) rfl)) (hw _ (List.mem_of_getElem? (i := 44) rfl)) (hw _ (List.mem_of_getElem? (i := 45) rfl)) (q := min n q) (A.ext Ex) (⟨B, fun j hj => rfl⟩ : Ab Z _ b q (fun _ => 0)) EB (by omega) (by omega) (Nat.le_trans Z0 gb0) rfl rfl rfl 31 d8_28 rfl (by decide) 0 (Nat.le_of_eq rfl) (by decide) fun T h2 X eh Kp B2 => ?_
    refine g_aloadN K X 32 d8_31 rfl rfl rfl ?_
    exact g_retR K X eh rfl rfl rfl d8_32 (by decide) (by decide) ⟨b, rfl, gb0, B2.congr (fun j hj => by by_cases z : j < n <;> simp [z] <;> omega), EB.keep Kp, ((Keep.refl _ _).ext Ex).trans Kp (fun x hx => Or.inr (by simp only [List.mem_cons, List.not_mem_nil, or_false] at hx; rw [hx]; exact gb0))⟩
theorem d1_0 : decode prog_28_method_1_code 0 = .ok (.aload_n 0, 1) := by decide +kernel
theorem d1_1 : decode prog_28_method_1_code 1 = .ok (.invokespecial 1, 3) := by decide +kernel
theorem d1_4 : decode prog_28_method_1_code 4 = .ok (.aload_n 0, 1) := by decide +kernel
theorem d1_5 : decode prog_28_method_1_code 5 = .ok (.iload_n 1, 1) := by decide +kernel
theorem d1_6 : decode prog_28_method_1_code 6 = .ok (.newarray .byte, 2) := by decide +kernel
theorem d1_8 : decode prog_28_method_1_code 8 = .ok (.putfield 7, 3) := by decide +kernel
theorem d1_11 : decode prog_28_method_1_code 11 = .ok (.return_, 1) := by decide +kernel
def rmI : Room := { frames := 2, cells := 1, slots := 8, locals := 30 }
set_option maxRecDepth 65536 in
set_option maxHeartbeats 40000000 in
theorem met_init (l : Launch) (Z : State) (a0 : Array Value) (hw : ∀ d ∈ tables_1, d.before a0 Z = true) (g : Addr) (cap : Nat) (hcap : cap ≤ 7) (h0 : Heap) (n0 : Nat) (Z0 : n0 ≤ h0.size) (gg : n0 ≤ g) (E : Exa Z h0 g "com/example/millrace/millrace/GrowingBytes") (F1 : Fld Z h0 g "com/example/millrace/millrace/GrowingBytes" "bytes" "[B" .null) (F2 : Fld Z h0 g "com/example/millrace/millrace/GrowingBytes" "size" "I" (.int 0)) :
    Met l Z (⟨"com/example/millrace/millrace/GrowingBytes", "<init>", "(I)V"⟩ : MethodName) prog_28_method_1_code 2 none [] rmI #[.ref g, .int (Int32.ofNat cap)] h0 n0 (fun v h' => v = none ∧ ∃ ar, GB Z h' g ar cap 0 (fun _ => 0) ∧ h0.size ≤ ar ∧ Keep h0 h' [g]) := by
  refine Met.of (plainFor_of_name (by first | (simp [plainName, overriddenIn]; done) | decide +kernel)) #[.val (.ref g), .val (.int (Int32.ofNat cap))] (fun m => by first | (simp [entryFrame, mkF, argsToLocals, Value.category]; done) | rfl) ?_
  intro p e s m below meth c T K X eh
  refine g_aloadN K X 1 d1_0 rfl rfl rfl ?_
  refine g_special K X eh rfl rfl (met_os l Z a0 hw g h0 n0) (hw _ (List.mem_of_getElem? (i := 7) rfl)) (hw _ (List.mem_of_getElem? (i := 8) rfl)) (hw _ (List.mem_of_getElem? (i := 11) rfl)) (hw _ (List.mem_of_getElem? (i := 10) rfl)) (by decide) (a := g) [] rfl rfl (lenOf pd_1 rfl) 4 d1_1 rfl 0 (Nat.le_of_eq rfl) (by decide) (by decide) (by decide) (by decide) fun T v h' X eh hv => ?_
  obtain ⟨rfl, rfl⟩ := hv
  refine g_aloadN K X 5 d1_4 rfl rfl rfl ?_
  refine g_iloadN K X 6 d1_5 rfl rfl ?_
  refine g_newA K X eh (hw _ (List.mem_of_getElem? (i := 15) rfl)) 8 d1_6 rfl (n := cap) (cap := 8) (own_i0 (by omega)) (by omega) (by decide) rfl (by decide) (by decide) fun T h1 ar ga X eh Ex B EB => ?_
  have ne : g ≠ ar := ne_of_new E.lt (Nat.le_of_eq ga.symm)
  refine g_putF K X eh (hw _ (List.mem_of_getElem? (i := 16) rfl)) (F1.ext Ex) (E.ext Ex) (Or.inl (hw _ (List.mem_of_getElem? (i := 17) rfl))) (hw _ (List.mem_of_getElem? (i := 2) rfl)) (ty := (.array .byte)) (by decide) rfl rfl gg 11 d1_8 rfl fun T h2 X eh W2 => ?_
  exact g_ret K X eh rfl d1_11 (by decide) (by decide) ⟨rfl, ar, ⟨(E.ext Ex).wr W2, (F1.ext Ex).same W2, (F2.ext Ex).other W2 (Or.inr (slot_ne (C := "com/example/millrace/millrace/GrowingBytes") (a0 := a0) (Or.inl (hw _ (List.mem_of_getElem? (i := 28) rfl))) (Or.inl (hw _ (List.mem_of_getElem? (i := 17) rfl))) (by decide) (t := .int) (t' := .array .byte) (by decide) (by decide))), ⟨B.other W2 (fun q => ne q.symm), fun j hj => rfl⟩, EB.wr W2, ne⟩, Nat.le_of_eq ga.symm, ((Keep.refl _ _).ext Ex).wr W2 (Or.inl (List.mem_singleton.mpr rfl))⟩
theorem d5_0 : decode prog_28_method_13_code 0 = .ok (.iload_n 1, 1) := by decide +kernel
theorem d5_1 : decode prog_28_method_13_code 1 = .ok (.aload_n 0, 1) := by decide +kernel
theorem d5_2 : decode prog_28_method_13_code 2 = .ok (.getfield 7, 3) := by decide +kernel
theorem d5_5 : decode prog_28_method_13_code 5 = .ok (.arraylength, 1) := by decide +kernel
theorem d5_6 : decode prog_28_method_13_code 6 = .ok (.aload_n 0, 1) := by decide +kernel
theorem d5_7 : decode prog_28_method_13_code 7 = .ok (.getfield 17, 3) := by decide +kernel
theorem d5_10 : decode prog_28_method_13_code 10 = .ok (.isub, 1) := by decide +kernel
theorem d5_11 : decode prog_28_method_13_code 11 = .ok (.if_icmp .le 32, 3) := by decide +kernel
theorem d5_14 : decode prog_28_method_13_code 14 = .ok (.aload_n 0, 1) := by decide +kernel
theorem d5_15 : decode prog_28_method_13_code 15 = .ok (.aload_n 0, 1) := by decide +kernel
theorem d5_16 : decode prog_28_method_13_code 16 = .ok (.getfield 7, 3) := by decide +kernel
theorem d5_19 : decode prog_28_method_13_code 19 = .ok (.aload_n 0, 1) := by decide +kernel
theorem d5_20 : decode prog_28_method_13_code 20 = .ok (.getfield 17, 3) := by decide +kernel
theorem d5_23 : decode prog_28_method_13_code 23 = .ok (.iload_n 1, 1) := by decide +kernel
theorem d5_24 : decode prog_28_method_13_code 24 = .ok (.invokestatic 76, 3) := by decide +kernel
theorem d5_27 : decode prog_28_method_13_code 27 = .ok (.iconst 2, 1) := by decide +kernel
theorem d5_28 : decode prog_28_method_13_code 28 = .ok (.aload_n 0, 1) := by decide +kernel
theorem d5_29 : decode prog_28_method_13_code 29 = .ok (.getfield 7, 3) := by decide +kernel
theorem d5_32 : decode prog_28_method_13_code 32 = .ok (.arraylength, 1) := by decide +kernel
theorem d5_33 : decode prog_28_method_13_code 33 = .ok (.imul, 1) := by decide +kernel
theorem d5_34 : decode prog_28_method_13_code 34 = .ok (.invokestatic 82, 3) := by decide +kernel
theorem d5_37 : decode prog_28_method_13_code 37 = .ok (.invokestatic 70, 3) := by decide +kernel
theorem d5_40 : decode prog_28_method_13_code 40 = .ok (.putfield 7, 3) := by decide +kernel
theorem d5_43 : decode prog_28_method_13_code 43 = .ok (.return_, 1) := by decide +kernel
def rmM : Room := { frames := 2, cells := 1, slots := 8, locals := 60 }
/-- the array behind a makeRoom(1) -/
def Grow (h0 : Heap) (ar cap sz ar' cap' : Nat) : Prop := (sz < cap ∧ ar' = ar ∧ cap' = cap) ∨ (¬ sz < cap ∧ h0.size ≤ ar' ∧ cap' = max (sz + 1) (2 * cap))
def Qmr (Z : State) (h0 : Heap) (g ar cap sz : Nat) (f : Nat → Int32) : Option Value → Heap → Prop := fun v h' => v = none ∧ ∃ ar' cap' f', GB Z h' g ar' cap' sz f' ∧ Grow h0 ar cap sz ar' cap' ∧ (∀ j, j < sz → f' j = f j) ∧ Keep h0 h' [g]
set_option maxRecDepth 65536 in
set_option maxHeartbeats 40000000 in
theorem met_mr (l : Launch) (Z : State) (a0 : Array Value) (hw : ∀ d ∈ tables_1, d.before a0 Z = true) (g ar : Addr) (cap sz : Nat) (f : Nat → Int32) (hcap : cap ≤ 7) (hsz : sz ≤ cap) (hs3 : sz ≤ 3) (h0 : Heap) (n0 : Nat) (Z0 : n0 ≤ h0.size) (gg : n0 ≤ g) (U : GB Z h0 g ar cap sz f) :
    Met l Z (⟨"com/example/millrace/millrace/GrowingBytes", "makeRoom", "(I)V"⟩ : MethodName) prog_28_method_13_code 2 none [] rmM #[.ref g, .int ((1 : Int32))] h0 n0 (Qmr Z h0 g ar cap sz f) := by
  refine Met.of (plainFor_of_name (by first | (simp [plainName, overriddenIn]; done) | decide +kernel)) #[.val (.ref g), .val (.int ((1 : Int32)))] (fun m => by first | (simp [entryFrame, mkF, argsToLocals, Value.category]; done) | rfl) ?_
  intro p e s m below meth c T K X eh
  refine g_iloadN K X 1 d5_0 rfl rfl ?_
  refine g_aloadN K X 2 d5_1 rfl rfl rfl ?_
  refine g_getF K X eh (hw _ (List.mem_of_getElem? (i := 16) rfl)) U.2.1 5 d5_2 rfl fun T X eh => ?_
  refine g_len K X eh U.2.2.2.1.1 (Int32.ofNat cap) rfl 6 d5_5 rfl ?_
  refine g_aloadN K X 7 d5_6 rfl rfl rfl ?_
  refine g_getF K X eh (hw _ (List.mem_of_getElem? (i := 27) rfl)) U.2.2.1 10 d5_7 rfl fun T X eh => ?_
  refine g_isub K X 11 d5_10 rfl ?_
  refine g_eqI (y := Int32.ofNat (cap - sz)) (own_sub (by omega) hsz) ?_
  by_cases hlt : sz < cap
  · refine g_icmpT K X 43 d5_11 rfl (show ¬ (Int32.ofNat (cap - sz)) < ((1 : Int32)) from (fun z => absurd ((own_lt (j := 1) (by omega) (by decide)).mp z) (by omega))) ?_
    exact g_ret K X eh rfl d5_43 (by decide) (by decide) ⟨rfl, ar, cap, f, U, Or.inl ⟨hlt, rfl, rfl⟩, fun _ _ => rfl, Keep.refl _ _⟩
  · refine g_icmpF K X 14 d5_11 rfl (show ¬ (¬ (Int32.ofNat (cap - sz)) < ((1 : Int32))) from (fun z => z ((own_lt (j := 1) (by omega) (by decide)).mpr (by omega)))) ?_
    refine g_aloadN K X 15 d5_14 rfl rfl rfl ?_
    refine g_aloadN K X 16 d5_15 rfl rfl rfl ?_
    refine g_getF K X eh (hw _ (List.mem_of_getElem? (i := 16) rfl)) U.2.1 19 d5_16 rfl fun T X eh => ?_
    refine g_aloadN K X 20 d5_19 rfl rfl rfl ?_
    refine g_getF K X eh (hw _ (List.mem_of_getElem? (i := 27) rfl)) U.2.2.1 23 d5_20 rfl fun T X eh => ?_
    refine g_iloadN K X 24 d5_23 rfl rfl ?_
    refine g_static K X eh rfl (met_add l Z a0 hw sz 1 (by omega) (by decide) h0 n0) (hw _ (List.mem_of_getElem? (i := 29) rfl)) (hw _ (List.mem_of_getElem? (i := 30) rfl)) (hw _ (List.mem_of_getElem? (i := 32) rfl)) (hw _ (List.mem_of_getElem? (i := 31) rfl)) (by decide) [.int (Int32.ofNat sz), .int ((1 : Int32))] rfl rfl (lenOf pd_0 rfl) 27 d5_24 rfl 2 (Nat.le_of_eq rfl) (by decide) (by decide) (by decide) (by decide) fun T v h' X eh hv => ?_
    obtain ⟨rfl, rfl⟩ := hv
    refine g_iconst K X (2 : Int32) 28 d5_27 rfl rfl ?_
    refine g_aloadN K X 29 d5_28 rfl rfl rfl ?_
    refine g_getF K X eh (hw _ (List.mem_of_getElem? (i := 16) rfl)) U.2.1 32 d5_29 rfl fun T X eh => ?_
    refine g_len K X eh U.2.2.2.1.1 (Int32.ofNat cap) rfl 33 d5_32 rfl ?_
    refine g_imul K X 34 d5_33 rfl ?_
    refine g_eqI (y := Int32.ofNat (2 * cap)) (own_two (by omega)) ?_
    refine g_static K X eh rfl (met_max l Z a0 hw (sz + 1) (2 * cap) (by omega) (by omega) _ n0) (hw _ (List.mem_of_getElem? (i := 33) rfl)) (hw _ (List.mem_of_getElem? (i := 34) rfl)) (hw _ (List.mem_of_getElem? (i := 35) rfl)) (hw _ (List.mem_of_getElem? (i := 31) rfl)) (by decide) [.int (Int32.ofNat (sz + 1)), .int (Int32.ofNat (2 * cap))] rfl rfl (lenOf pd_0 rfl) 37 d5_34 rfl 2 (Nat.le_of_eq rfl) (by decide) (by decide) (by decide) (by decide) fun T v h' X eh hv => ?_
    obtain ⟨rfl, rfl⟩ := hv
    refine g_static K X eh rfl (met_co l Z a0 hw ar cap (max (sz + 1) (2 * cap)) f (by omega) (by omega) _ n0 Z0 U.2.2.2.1 U.2.2.2.2.1) (hw _ (List.mem_of_getElem? (i := 36) rfl)) (hw _ (List.mem_of_getElem? (i := 37) rfl)) (hw _ (List.mem_of_getElem? (i := 39) rfl)) (hw _ (List.mem_of_getElem? (i := 38) rfl)) (by decide) [.ref ar, .int (Int32.ofNat (max (sz + 1) (2 * cap)))] rfl rfl (lenOf pd_2 rfl) 40 d5_37 rfl 1 (Nat.le_of_eq rfl) (by decide) (by decide) (by decide) (by decide) fun T v h1 X eh hv => ?_
    obtain ⟨b, rfl, gb, B, EB, Kp⟩ := hv
    have ne : g ≠ b := ne_of_new U.lg gb
    refine g_putF K X eh (hw _ (List.mem_of_getElem? (i := 16) rfl)) (U.2.1.keep Kp nin0) (U.1.keep Kp) (Or.inl (hw _ (List.mem_of_getElem? (i := 17) rfl))) (hw _ (List.mem_of_getElem? (i := 2) rfl)) (ty := (.array .byte)) (by decide) rfl rfl gg 43 d5_40 rfl fun T h2 X eh W2 => ?_
    exact g_ret K X eh rfl d5_43 (by decide) (by decide) ⟨rfl, b, max (sz + 1) (2 * cap), _, ⟨(U.1.keep Kp).wr W2, (U.2.1.keep Kp nin0).same W2, (U.2.2.1.keep Kp nin0).other W2 (Or.inr (slot_ne (C := "com/example/millrace/millrace/GrowingBytes") (a0 := a0) (Or.inl (hw _ (List.mem_of_getElem? (i := 28) rfl))) (Or.inl (hw _ (List.mem_of_getElem? (i := 17) rfl))) (by decide) (t := .int) (t' := .array .byte) (by decide) (by decide))), B.other W2 (fun q => ne q.symm), EB.wr W2, ne⟩, Or.inr ⟨hlt, gb, rfl⟩, fun j hj => if_pos (by omega), (keepMore Kp (fun x hx => nomatch hx)).wr W2 (Or.inl (List.mem_singleton.mpr rfl))⟩
theorem d4_0 : decode prog_28_method_2_code 0 = .ok (.aload_n 0, 1) := by decide +kernel
theorem d4_1 : decode prog_28_method_2_code 1 = .ok (.iconst 1, 1) := by decide +kernel
theorem d4_2 : decode prog_28_method_2_code 2 = .ok (.invokevirtual 13, 3) := by decide +kernel
theorem d4_5 : decode prog_28_method_2_code 5 = .ok (.aload_n 0, 1) := by decide +kernel
theorem d4_6 : decode prog_28_method_2_code 6 = .ok (.getfield 7, 3) := by decide +kernel
theorem d4_9 : decode prog_28_method_2_code 9 = .ok (.aload_n 0, 1) := by decide +kernel
theorem d4_10 : decode prog_28_method_2_code 10 = .ok (.dup, 1) := by decide +kernel
theorem d4_11 : decode prog_28_method_2_code 11 = .ok (.getfield 17, 3) := by decide +kernel
theorem d4_14 : decode prog_28_method_2_code 14 = .ok (.dup_x1, 1) := by decide +kernel
theorem d4_15 : decode prog_28_method_2_code 15 = .ok (.iconst 1, 1) := by decide +kernel
theorem d4_16 : decode prog_28_method_2_code 16 = .ok (.iadd, 1) := by decide +kernel
theorem d4_17 : decode prog_28_method_2_code 17 = .ok (.putfield 17, 3) := by decide +kernel
theorem d4_20 : decode prog_28_method_2_code 20 = .ok (.iload_n 1, 1) := by decide +kernel
theorem d4_21 : decode prog_28_method_2_code 21 = .ok (.i2b, 1) := by decide +kernel
theorem d4_22 : decode prog_28_method_2_code 22 = .ok (.bastore, 1) := by decide +kernel
theorem d4_23 : decode prog_28_method_2_code 23 = .ok (.return_, 1) := by decide +kernel
def rmW : Room := { frames := 3, cells := 1, slots := 8, locals := 75 }
def Qwr (Z : State) (h0 : Heap) (g ar cap sz : Nat) (f : Nat → Int32) (x : Int32) : Option Value → Heap → Prop := fun v h' => v = none ∧ ∃ ar' cap' f', GB Z h' g ar' cap' (sz + 1) f' ∧ Grow h0 ar cap sz ar' cap' ∧ (∀ j, j < sz → f' j = f j) ∧ f' sz = x.toInt8.toInt32 ∧ Keep h0 h' [g, ar]
set_option maxRecDepth 65536 in
set_option maxHeartbeats 40000000 in
theorem met_wr (l : Launch) (Z : State) (a0 : Array Value) (hw : ∀ d ∈ tables_1, d.before a0 Z = true) (g ar : Addr) (cap sz : Nat) (f : Nat → Int32) (x0 : Int32) (hcap : cap ≤ 7) (hsz : sz ≤ cap) (hs3 : sz ≤ 3) (h0 : Heap) (n0 : Nat) (Z0 : n0 ≤ h0.size) (gg : n0 ≤ g) (ga : n0 ≤ ar) (U : GB Z h0 g ar cap sz f) :
    Met l Z (⟨"com/example/millrace/millrace/GrowingBytes", "write", "(I)V"⟩ : MethodName) prog_28_method_2_code 2 none [] rmW #[.ref g, .int x0] h0 n0 (Qwr Z h0 g ar cap sz f x0) := by
  refine Met.of (plainFor_of_name (by first | (simp [plainName, overriddenIn]; done) | decide +kernel)) #[.val (.ref g), .val (.int x0)] (fun m => by first | (simp [entryFrame, mkF, argsToLocals, Value.category]; done) | rfl) ?_
  intro p e s m below meth c T K X eh
  refine g_aloadN K X 1 d4_0 rfl rfl rfl ?_
  refine g_iconst K X (1 : Int32) 2 d4_1 rfl rfl ?_
  refine g_private K X eh rfl (met_mr l Z a0 hw g ar cap sz f hcap hsz hs3 h0 n0 Z0 gg U) (hw _ (List.mem_of_getElem? (i := 23) rfl)) (hw _ (List.mem_of_getElem? (i := 24) rfl)) (hw _ (List.mem_of_getElem? (i := 25) rfl)) (hw _ (List.mem_of_getElem? (i := 2) rfl)) (hw _ (List.mem_of_getElem? (i := 26) rfl)) (hw _ (List.mem_of_getElem? (i := 3) rfl)) (by decide) U.1 [.int ((1 : Int32))] rfl rfl (lenOf pd_3 rfl) 5 d4_2 rfl 0 (Nat.le_of_eq rfl) (by decide) (by decide) (by decide) (by decide) fun T v h1 X eh hv => ?_
  obtain ⟨rfl, ar', cap', f', V, Gr, hf, Kp⟩ := hv
  have hlt : sz < cap' := by rcases Gr with ⟨q1, -, q2⟩ | ⟨q1, -, q2⟩ <;> omega
  have ga' : n0 ≤ ar' := by rcases Gr with ⟨-, q1, -⟩ | ⟨-, q1, -⟩ <;> omega
  have hc' : cap' ≤ 7 := by rcases Gr with ⟨-, -, q2⟩ | ⟨q1, -, q2⟩ <;> omega
  refine g_aloadN K X 6 d4_5 rfl rfl rfl ?_
  refine g_getF K X eh (hw _ (List.mem_of_getElem? (i := 16) rfl)) V.2.1 9 d4_6 rfl fun T X eh => ?_
  refine g_aloadN K X 10 d4_9 rfl rfl rfl ?_
  refine g_dup K X 11 d4_10 rfl rfl ?_
  refine g_getF K X eh (hw _ (List.mem_of_getElem? (i := 27) rfl)) V.2.2.1 14 d4_11 rfl fun T X eh => ?_
  refine g_dup_x1 K X 15 d4_14 rfl rfl rfl ?_
  refine g_iconst K X (1 : Int32) 16 d4_15 rfl rfl ?_
  refine g_iadd K X 17 d4_16 rfl ?_
  refine g_eqI (y := Int32.ofNat (sz + 1)) (own_add sz 1 rfl) ?_
  refine g_putF K X eh (hw _ (List.mem_of_getElem? (i := 27) rfl)) V.2.2.1 V.1 (Or.inl (hw _ (List.mem_of_getElem? (i := 28) rfl))) (hw _ (List.mem_of_getElem? (i := 2) rfl)) (ty := .int) (by decide) rfl rfl gg 20 d4_17 rfl fun T h2 X eh W2 => ?_
  have A2 := V.2.2.2.1.other W2 (fun q => V.2.2.2.2.2 q.symm)
  refine g_iloadN K X 21 d4_20 rfl rfl ?_
  refine g_i2b K X 22 d4_21 rfl ?_
  refine g_bastore K X eh A2.1 sz (own_i0 (by omega)) hlt x0.toInt8.toInt32 (own_bb _) ga' 23 d4_22 rfl fun T h3 X eh W3 A3 => ?_
  have ne := V.2.2.2.2.2
  have Kw : Keep h0 h3 [g, ar] := by
    refine ((keepMore Kp (fun x hx => by simp only [List.mem_cons, List.not_mem_nil, or_false] at hx ⊢; exact Or.inl hx)).wr W2 (Or.inl (List.mem_cons_self ..))).wr W3 ?_
    rcases Gr with ⟨-, q1, -⟩ | ⟨-, q1, -⟩
    · exact Or.inl (q1 ▸ List.mem_cons_of_mem _ (List.mem_cons_self ..))
    · exact Or.inr q1
  exact g_ret K X eh rfl d4_23 (by decide) (by decide) ⟨rfl, ar', cap', _, ⟨(V.1.wr W2).wr W3, (V.2.1.other W2 (Or.inr (slot_ne (C := "com/example/millrace/millrace/GrowingBytes") (a0 := a0) (Or.inl (hw _ (List.mem_of_getElem? (i := 17) rfl))) (Or.inl (hw _ (List.mem_of_getElem? (i := 28) rfl))) (by decide) (t := .array .byte) (t' := .int) (by decide) (by decide)))).other W3 (Or.inl ne), (V.2.2.1.same W2).other W3 (Or.inl ne), A2.upA A3 (own_bb _), (V.2.2.2.2.1.wr W2).wr W3, ne⟩, Gr, fun j hj => by rw [upA_other (by omega)]; exact hf j hj, upA_same _ _ _, Kw⟩
theorem d12_0 : decode prog_28_method_8_code 0 = .ok (.aload_n 0, 1) := by decide +kernel
theorem d12_1 : decode prog_28_method_8_code 1 = .ok (.getfield 17, 3) := by decide +kernel
theorem d12_4 : decode prog_28_method_8_code 4 = .ok (.ireturn, 1) := by decide +kernel
set_option maxRecDepth 65536 in
set_option maxHeartbeats 40000000 in
theorem met_sz (l : Launch) (Z : State) (a0 : Array Value) (hw : ∀ d ∈ tables_1, d.before a0 Z = true) (g ar : Addr) (cap sz : Nat) (f : Nat → Int32) (h0 : Heap) (n0 : Nat) (U : GB Z h0 g ar cap sz f) :
    Met l Z (⟨"com/example/millrace/millrace/GrowingBytes", "size", "()I"⟩ : MethodName) prog_28_method_8_code 1 (some .int) [] rm0 #[.ref g] h0 n0 (fun v h' => v = some (.int (Int32.ofNat sz)) ∧ h0 = h') := by
  refine Met.of (plainFor_of_name (by first | (simp [plainName, overriddenIn]; done) | decide +kernel)) #[.val (.ref g)] (fun m => by first | (simp [entryFrame, mkF, argsToLocals, Value.category]; done) | rfl) ?_
  intro p e s m below meth c T K X eh
  refine g_aloadN K X 1 d12_0 rfl rfl rfl ?_
  refine g_getF K X eh (hw _ (List.mem_of_getElem? (i := 27) rfl)) U.2.2.1 4 d12_1 rfl fun T X eh => ?_
  exact g_retI K X eh rfl d12_4 (by decide) (by decide) ⟨rfl, rfl⟩
theorem d10_0 : decode prog_28_method_11_code 0 = .ok (.aload_n 0, 1) := by decide +kernel
theorem d10_1 : decode prog_28_method_11_code 1 = .ok (.getfield 7, 3) := by decide +kernel
theorem d10_4 : decode prog_28_method_11_code 4 = .ok (.aload_n 0, 1) := by decide +kernel
theorem d10_5 : decode prog_28_method_11_code 5 = .ok (.getfield 17, 3) := by decide +kernel
theorem d10_8 : decode prog_28_method_11_code 8 = .ok (.invokestatic 70, 3) := by decide +kernel
theorem d10_11 : decode prog_28_method_11_code 11 = .ok (.areturn, 1) := by decide +kernel
def rmCp : Room := { frames := 2, cells := 1, slots := 8, locals := 56 }
set_option maxRecDepth 65536 in
set_option maxHeartbeats 40000000 in
theorem met_cp (l : Launch) (Z : State) (a0 : Array Value) (hw : ∀ d ∈ tables_1, d.before a0 Z = true) (g ar : Addr) (cap sz : Nat) (f : Nat → Int32) (hcap : cap ≤ 7) (hsz : sz ≤ cap) (h0 : Heap) (n0 : Nat) (Z0 : n0 ≤ h0.size) (U : GB Z h0 g ar cap sz f) :
    Met l Z (⟨"com/example/millrace/millrace/GrowingBytes", "copy", "()[B"⟩ : MethodName) prog_28_method_11_code 1 (some (.array .byte)) [] rmCp #[.ref g] h0 n0 (fun v h' => ∃ b, v = some (.ref b) ∧ h0.size ≤ b ∧ Ab Z h' b sz f ∧ Exa Z h' b "[B" ∧ Keep h0 h' []) := by
  refine Met.of (plainFor_of_name (by first | (simp [plainName, overriddenIn]; done) | decide +kernel)) #[.val (.ref g)] (fun m => by first | (simp [entryFrame, mkF, argsToLocals, Value.category]; done) | rfl) ?_
  intro p e s m below meth c T K X eh
  refine g_aloadN K X 1 d10_0 rfl rfl rfl ?_
  refine g_getF K X eh (hw _ (List.mem_of_getElem? (i := 16) rfl)) U.2.1 4 d10_1 rfl fun T X eh => ?_
  refine g_aloadN K X 5 d10_4 rfl rfl rfl ?_
  refine g_getF K X eh (hw _ (List.mem_of_getElem? (i := 27) rfl)) U.2.2.1 8 d10_5 rfl fun T X eh => ?_
  refine g_static K X eh rfl (met_co l Z a0 hw ar cap sz f (by omega) (by omega) h0 n0 Z0 U.2.2.2.1 U.2.2.2.2.1) (hw _ (List.mem_of_getElem? (i := 36) rfl)) (hw _ (List.mem_of_getElem? (i := 37) rfl)) (hw _ (List.mem_of_getElem? (i := 39) rfl)) (hw _ (List.mem_of_getElem? (i := 38) rfl)) (by decide) [.ref ar, .int (Int32.ofNat sz)] rfl rfl (lenOf pd_2 rfl) 11 d10_8 rfl 0 (Nat.le_of_eq rfl) (by decide) (by decide) (by decide) (by decide) fun T v h1 X eh hv => ?_
  obtain ⟨b, rfl, gb, B, EB, Kp⟩ := hv
  exact g_retR K X eh rfl rfl rfl d10_11 (by decide) (by decide) ⟨b, rfl, gb, B.congr (fun j hj => if_pos (by omega)), EB, Kp⟩
theorem d11_0 : decode method_2_code 0 = .ok (.aload_n 0, 1) := by decide +kernel
theorem d11_1 : decode method_2_code 1 = .ok (.arraylength, 1) := by decide +kernel
theorem d11_2 : decode method_2_code 2 = .ok (.iload_n 1, 1) := by decide +kernel
theorem d11_3 : decode method_2_code 3 = .ok (.if_icmp .eq 5, 3) := by decide +kernel
theorem d11_6 : decode method_2_code 6 = .ok (.iconst 0, 1) := by decide +kernel
theorem d11_7 : decode method_2_code 7 = .ok (.ireturn, 1) := by decide +kernel
theorem d11_8 : decode method_2_code 8 = .ok (.iload_n 1, 1) := by decide +kernel
theorem d11_9 : decode method_2_code 9 = .ok (.ifCond .le 13, 3) := by decide +kernel
theorem d11_12 : decode method_2_code 12 = .ok (.aload_n 0, 1) := by decide +kernel
theorem d11_13 : decode method_2_code 13 = .ok (.iconst 0, 1) := by decide +kernel
theorem d11_14 : decode method_2_code 14 = .ok (.baload, 1) := by decide +kernel
theorem d11_15 : decode method_2_code 15 = .ok (.iload_n 2, 1) := by decide +kernel
theorem d11_16 : decode method_2_code 16 = .ok (.i2b, 1) := by decide +kernel
theorem d11_17 : decode method_2_code 17 = .ok (.if_icmp .eq 5, 3) := by decide +kernel
theorem d11_20 : decode method_2_code 20 = .ok (.iconst 0, 1) := by decide +kernel
theorem d11_21 : decode method_2_code 21 = .ok (.ireturn, 1) := by decide +kernel
theorem d11_22 : decode method_2_code 22 = .ok (.iload_n 1, 1) := by decide +kernel
theorem d11_23 : decode method_2_code 23 = .ok (.iconst 1, 1) := by decide +kernel
theorem d11_24 : decode method_2_code 24 = .ok (.if_icmp .le 13, 3) := by decide +kernel
theorem d11_27 : decode method_2_code 27 = .ok (.aload_n 0, 1) := by decide +kernel
theorem d11_28 : decode method_2_code 28 = .ok (.iconst 1, 1) := by decide +kernel
theorem d11_29 : decode method_2_code 29 = .ok (.baload, 1) := by decide +kernel
theorem d11_30 : decode method_2_code 30 = .ok (.iload_n 3, 1) := by decide +kernel
theorem d11_31 : decode method_2_code 31 = .ok (.i2b, 1) := by decide +kernel
theorem d11_32 : decode method_2_code 32 = .ok (.if_icmp .eq 5, 3) := by decide +kernel
theorem d11_35 : decode method_2_code 35 = .ok (.iconst 0, 1) := by decide +kernel
theorem d11_36 : decode method_2_code 36 = .ok (.ireturn, 1) := by decide +kernel
theorem d11_37 : decode method_2_code 37 = .ok (.iload_n 1, 1) := by decide +kernel
theorem d11_38 : decode method_2_code 38 = .ok (.iconst 2, 1) := by decide +kernel
theorem d11_39 : decode method_2_code 39 = .ok (.if_icmp .le 14, 3) := by decide +kernel
theorem d11_42 : decode method_2_code 42 = .ok (.aload_n 0, 1) := by decide +kernel
theorem d11_43 : decode method_2_code 43 = .ok (.iconst 2, 1) := by decide +kernel
theorem d11_44 : decode method_2_code 44 = .ok (.baload, 1) := by decide +kernel
theorem d11_45 : decode method_2_code 45 = .ok (.iload 4, 2) := by decide +kernel
theorem d11_47 : decode method_2_code 47 = .ok (.i2b, 1) := by decide +kernel
theorem d11_48 : decode method_2_code 48 = .ok (.if_icmp .eq 5, 3) := by decide +kernel
theorem d11_51 : decode method_2_code 51 = .ok (.iconst 0, 1) := by decide +kernel
theorem d11_52 : decode method_2_code 52 = .ok (.ireturn, 1) := by decide +kernel
theorem d11_53 : decode method_2_code 53 = .ok (.iload_n 1, 1) := by decide +kernel
theorem d11_54 : decode method_2_code 54 = .ok (.iconst 3, 1) := by decide +kernel
theorem d11_55 : decode method_2_code 55 = .ok (.if_icmp .le 14, 3) := by decide +kernel
theorem d11_58 : decode method_2_code 58 = .ok (.aload_n 0, 1) := by decide +kernel
theorem d11_59 : decode method_2_code 59 = .ok (.iconst 3, 1) := by decide +kernel
theorem d11_60 : decode method_2_code 60 = .ok (.baload, 1) := by decide +kernel
theorem d11_61 : decode method_2_code 61 = .ok (.iload 5, 2) := by decide +kernel
theorem d11_63 : decode method_2_code 63 = .ok (.i2b, 1) := by decide +kernel
theorem d11_64 : decode method_2_code 64 = .ok (.if_icmp .eq 5, 3) := by decide +kernel
theorem d11_67 : decode method_2_code 67 = .ok (.iconst 0, 1) := by decide +kernel
theorem d11_68 : decode method_2_code 68 = .ok (.ireturn, 1) := by decide +kernel
theorem d11_69 : decode method_2_code 69 = .ok (.iconst 1, 1) := by decide +kernel
theorem d11_70 : decode method_2_code 70 = .ok (.ireturn, 1) := by decide +kernel
set_option maxRecDepth 65536 in
set_option maxHeartbeats 40000000 in
theorem met_ho0 (l : Launch) (Z : State) (a0 : Array Value) (hw : ∀ d ∈ tables_1, d.before a0 Z = true) (b : Addr) (f : Nat → Int32) (x2 x3 x4 x5 : Int32) (h0 : Heap) (n0 : Nat) (B : Ab Z h0 b 0 f)  :
    Met l Z (⟨"com/example/millrace/millrace/GrowingBytesCopyPinLaw", "holds", "([BIIIII)Z"⟩ : MethodName) method_2_code 6 (some .boolean) [] rm0 #[.ref b, .int (Int32.ofNat 0), .int x2, .int x3, .int x4, .int x5] h0 n0 (fun v h' => v = some (.int 1) ∧ h0 = h') := by
  refine Met.of (plainFor_of_name (by first | (simp [plainName, overriddenIn]; done) | decide +kernel)) #[.val (.ref b), .val (.int (Int32.ofNat 0)), .val (.int x2), .val (.int x3), .val (.int x4), .val (.int x5)] (fun m => by first | (simp [entryFrame, mkF, argsToLocals, Value.category]; done) | rfl) ?_
  intro p e s m below meth c T K X eh
  refine g_aloadN K X 1 d11_0 rfl rfl rfl ?_
  refine g_len K X eh B.1 (Int32.ofNat 0) rfl 2 d11_1 rfl ?_
  refine g_iloadN K X 3 d11_2 rfl rfl ?_
  refine g_icmpT K X 8 d11_3 rfl (show (Int32.ofNat 0) = (Int32.ofNat 0) from rfl) ?_
  refine g_iloadN K X 9 d11_8 rfl rfl ?_
  refine g_ifT K X 22 d11_9 rfl (show ¬ 0 < (Int32.ofNat 0) from (by decide)) ?_
  refine g_iloadN K X 23 d11_22 rfl rfl ?_
  refine g_iconst K X (1 : Int32) 24 d11_23 rfl rfl ?_
  refine g_icmpT K X 37 d11_24 rfl (show ¬ ((1 : Int32)) < (Int32.ofNat 0) from (by decide)) ?_
  refine g_iloadN K X 38 d11_37 rfl rfl ?_
  refine g_iconst K X (2 : Int32) 39 d11_38 rfl rfl ?_
  refine g_icmpT K X 53 d11_39 rfl (show ¬ ((2 : Int32)) < (Int32.ofNat 0) from (by decide)) ?_
  refine g_iloadN K X 54 d11_53 rfl rfl ?_
  refine g_iconst K X (3 : Int32) 55 d11_54 rfl rfl ?_
  refine g_icmpT K X 69 d11_55 rfl (show ¬ ((3 : Int32)) < (Int32.ofNat 0) from (by decide)) ?_
  refine g_iconst K X (1 : Int32) 70 d11_69 rfl rfl ?_
  exact g_retN K X eh rfl (t := .boolean) (by simp) ((1 : Int32)) rfl d11_70 (by decide) (by decide) ⟨rfl, rfl⟩
set_option maxRecDepth 65536 in
set_option maxHeartbeats 40000000 in
theorem met_ho1 (l : Launch) (Z : State) (a0 : Array Value) (hw : ∀ d ∈ tables_1, d.before a0 Z = true) (b : Addr) (f : Nat → Int32) (x2 x3 x4 x5 : Int32) (h0 : Heap) (n0 : Nat) (B : Ab Z h0 b 1 f) (q0 : f 0 = x2.toInt8.toInt32) :
    Met l Z (⟨"com/example/millrace/millrace/GrowingBytesCopyPinLaw", "holds", "([BIIIII)Z"⟩ : MethodName) method_2_code 6 (some .boolean) [] rm0 #[.ref b, .int (Int32.ofNat 1), .int x2, .int x3, .int x4, .int x5] h0 n0 (fun v h' => v = some (.int 1) ∧ h0 = h') := by
  refine Met.of (plainFor_of_name (by first | (simp [plainName, overriddenIn]; done) | decide +kernel)) #[.val (.ref b), .val (.int (Int32.ofNat 1)), .val (.int x2), .val (.int x3), .val (.int x4), .val (.int x5)] (fun m => by first | (simp [entryFrame, mkF, argsToLocals, Value.category]; done) | rfl) ?_
  intro p e s m below meth c T K X eh
  refine g_aloadN K X 1 d11_0 rfl rfl rfl ?_
  refine g_len K X eh B.1 (Int32.ofNat 1) rfl 2 d11_1 rfl ?_
  refine g_iloadN K X 3 d11_2 rfl rfl ?_
  refine g_icmpT K X 8 d11_3 rfl (show (Int32.ofNat 1) = (Int32.ofNat 1) from rfl) ?_
  refine g_iloadN K X 9 d11_8 rfl rfl ?_
  refine g_ifF K X 12 d11_9 rfl (show ¬ (¬ 0 < (Int32.ofNat 1)) from (by decide)) ?_
  refine g_aloadN K X 13 d11_12 rfl rfl rfl ?_
  refine g_iconst K X (0 : Int32) 14 d11_13 rfl rfl ?_
  refine g_baload K X eh B.1 0 rfl (by decide) (f 0) rfl 15 d11_14 rfl ?_
  refine g_iloadN K X 16 d11_15 rfl rfl ?_
  refine g_i2b K X 17 d11_16 rfl ?_
  refine g_icmpT K X 22 d11_17 rfl (show (f 0) = x2.toInt8.toInt32 from q0) ?_
  refine g_iloadN K X 23 d11_22 rfl rfl ?_
  refine g_iconst K X (1 : Int32) 24 d11_23 rfl rfl ?_
  refine g_icmpT K X 37 d11_24 rfl (show ¬ ((1 : Int32)) < (Int32.ofNat 1) from (by decide)) ?_
  refine g_iloadN K X 38 d11_37 rfl rfl ?_
  refine g_iconst K X (2 : Int32) 39 d11_38 rfl rfl ?_
  refine g_icmpT K X 53 d11_39 rfl (show ¬ ((2 : Int32)) < (Int32.ofNat 1) from (by decide)) ?_
  refine g_iloadN K X 54 d11_53 rfl rfl ?_
  refine g_iconst K X (3 : Int32) 55 d11_54 rfl rfl ?_
  refine g_icmpT K X 69 d11_55 rfl (show ¬ ((3 : Int32)) < (Int32.ofNat 1) from (by decide)) ?_
  refine g_iconst K X (1 : Int32) 70 d11_69 rfl rfl ?_
  exact g_retN K X eh rfl (t := .boolean) (by simp) ((1 : Int32)) rfl d11_70 (by decide) (by decide) ⟨rfl, rfl⟩
set_option maxRecDepth 65536 in
set_option maxHeartbeats 40000000 in
theorem met_ho2 (l : Launch) (Z : State) (a0 : Array Value) (hw : ∀ d ∈ tables_1, d.before a0 Z = true) (b : Addr) (f : Nat → Int32) (x2 x3 x4 x5 : Int32) (h0 : Heap) (n0 : Nat) (B : Ab Z h0 b 2 f) (q0 : f 0 = x2.toInt8.toInt32) (q1 : f 1 = x3.toInt8.toInt32) :
    Met l Z (⟨"com/example/millrace/millrace/GrowingBytesCopyPinLaw", "holds", "([BIIIII)Z"⟩ : MethodName) method_2_code 6 (some .boolean) [] rm0 #[.ref b, .int (Int32.ofNat 2), .int x2, .int x3, .int x4, .int x5] h0 n0 (fun v h' => v = some (.int 1) ∧ h0 = h') := by
  refine Met.of (plainFor_of_name (by first | (simp [plainName, overriddenIn]; done) | decide +kernel)) #[.val (.ref b), .val (.int (Int32.ofNat 2)), .val (.int x2), .val (.int x3), .val (.int x4), .val (.int x5)] (fun m => by first | (simp [entryFrame, mkF, argsToLocals, Value.category]; done) | rfl) ?_
  intro p e s m below meth c T K X eh
  refine g_aloadN K X 1 d11_0 rfl rfl rfl ?_
  refine g_len K X eh B.1 (Int32.ofNat 2) rfl 2 d11_1 rfl ?_
  refine g_iloadN K X 3 d11_2 rfl rfl ?_
  refine g_icmpT K X 8 d11_3 rfl (show (Int32.ofNat 2) = (Int32.ofNat 2) from rfl) ?_
  refine g_iloadN K X 9 d11_8 rfl rfl ?_
  refine g_ifF K X 12 d11_9 rfl (show ¬ (¬ 0 < (Int32.ofNat 2)) from (by decide)) ?_
  refine g_aloadN K X 13 d11_12 rfl rfl rfl ?_
  refine g_iconst K X (0 : Int32) 14 d11_13 rfl rfl ?_
  refine g_baload K X eh B.1 0 rfl (by decide) (f 0) rfl 15 d11_14 rfl ?_
  refine g_iloadN K X 16 d11_15 rfl rfl ?_
  refine g_i2b K X 17 d11_16 rfl ?_
  refine g_icmpT K X 22 d11_17 rfl (show (f 0) = x2.toInt8.toInt32 from q0) ?_
  refine g_iloadN K X 23 d11_22 rfl rfl ?_
  refine g_iconst K X (1 : Int32) 24 d11_23 rfl rfl ?_
  refine g_icmpF K X 27 d11_24 rfl (show ¬ (¬ ((1 : Int32)) < (Int32.ofNat 2)) from (by decide)) ?_
  refine g_aloadN K X 28 d11_27 rfl rfl rfl ?_
  refine g_iconst K X (1 : Int32) 29 d11_28 rfl rfl ?_
  refine g_baload K X eh B.1 1 rfl (by decide) (f 1) rfl 30 d11_29 rfl ?_
  refine g_iloadN K X 31 d11_30 rfl rfl ?_
  refine g_i2b K X 32 d11_31 rfl ?_
  refine g_icmpT K X 37 d11_32 rfl (show (f 1) = x3.toInt8.toInt32 from q1) ?_
  refine g_iloadN K X 38 d11_37 rfl rfl ?_
  refine g_iconst K X (2 : Int32) 39 d11_38 rfl rfl ?_
  refine g_icmpT K X 53 d11_39 rfl (show ¬ ((2 : Int32)) < (Int32.ofNat 2) from (by decide)) ?_
  refine g_iloadN K X 54 d11_53 rfl rfl ?_
  refine g_iconst K X (3 : Int32) 55 d11_54 rfl rfl ?_
  refine g_icmpT K X 69 d11_55 rfl (show ¬ ((3 : Int32)) < (Int32.ofNat 2) from (by decide)) ?_
  refine g_iconst K X (1 : Int32) 70 d11_69 rfl rfl ?_
  exact g_retN K X eh rfl (t := .boolean) (by simp) ((1 : Int32)) rfl d11_70 (by decide) (by decide) ⟨rfl, rfl⟩
set_option maxRecDepth 65536 in
set_option maxHeartbeats 40000000 in
theorem met_ho3 (l : Launch) (Z : State) (a0 : Array Value) (hw : ∀ d ∈ tables_1, d.before a0 Z = true) (b : Addr) (f : Nat → Int32) (x2 x3 x4 x5 : Int32) (h0 : Heap) (n0 : Nat) (B : Ab Z h0 b 3 f) (q0 : f 0 = x2.toInt8.toInt32) (q1 : f 1 = x3.toInt8.toInt32) (q2 : f 2 = x4.toInt8.toInt32) :
    Met l Z (⟨"com/example/millrace/millrace/GrowingBytesCopyPinLaw", "holds", "([BIIIII)Z"⟩ : MethodName) method_2_code 6 (some .boolean) [] rm0 #[.ref b, .int (Int32.ofNat 3), .int x2, .int x3, .int x4, .int x5] h0 n0 (fun v h' => v = some (.int 1) ∧ h0 = h') := by
  refine Met.of (plainFor_of_name (by first | (simp [plainName, overriddenIn]; done) | decide +kernel)) #[.val (.ref b), .val (.int (Int32.ofNat 3)), .val (.int x2), .val (.int x3), .val (.int x4), .val (.int x5)] (fun m => by first | (simp [entryFrame, mkF, argsToLocals, Value.category]; done) | rfl) ?_
  intro p e s m below meth c T K X eh
  refine g_aloadN K X 1 d11_0 rfl rfl rfl ?_
  refine g_len K X eh B.1 (Int32.ofNat 3) rfl 2 d11_1 rfl ?_
  refine g_iloadN K X 3 d11_2 rfl rfl ?_
  refine g_icmpT K X 8 d11_3 rfl (show (Int32.ofNat 3) = (Int32.ofNat 3) from rfl) ?_
  refine g_iloadN K X 9 d11_8 rfl rfl ?_
  refine g_ifF K X 12 d11_9 rfl (show ¬ (¬ 0 < (Int32.ofNat 3)) from (by decide)) ?_
  refine g_aloadN K X 13 d11_12 rfl rfl rfl ?_
  refine g_iconst K X (0 : Int32) 14 d11_13 rfl rfl ?_
  refine g_baload K X eh B.1 0 rfl (by decide) (f 0) rfl 15 d11_14 rfl ?_
  refine g_iloadN K X 16 d11_15 rfl rfl ?_
  refine g_i2b K X 17 d11_16 rfl ?_
  refine g_icmpT K X 22 d11_17 rfl (show (f 0) = x2.toInt8.toInt32 from q0) ?_
  refine g_iloadN K X 23 d11_22 rfl rfl ?_
  refine g_iconst K X (1 : Int32) 24 d11_23 rfl rfl ?_
  refine g_icmpF K X 27 d11_24 rfl (show ¬ (¬ ((1 : Int32)) < (Int32.ofNat 3)) from (by decide)) ?_
  refine g_aloadN K X 28 d11_27 rfl rfl rfl ?_
  refine g_iconst K X (1 : Int32) 29 d11_28 rfl rfl ?_
  refine g_baload K X eh B.1 1 rfl (by decide) (f 1) rfl 30 d11_29 rfl ?_
  refine g_iloadN K X 31 d11_30 rfl rfl ?_
  refine g_i2b K X 32 d11_31 rfl ?_
  refine g_icmpT K X 37 d11_32 rfl (show (f 1) = x3.toInt8.toInt32 from q1) ?_
  refine g_iloadN K X 38 d11_37 rfl rfl ?_
  refine g_iconst K X (2 : Int32) 39 d11_38 rfl rfl ?_
  refine g_icmpF K X 42 d11_39 rfl (show ¬ (¬ ((2 : Int32)) < (Int32.ofNat 3)) from (by decide)) ?_
  refine g_aloadN K X 43 d11_42 rfl rfl rfl ?_
  refine g_iconst K X (2 : Int32) 44 d11_43 rfl rfl ?_
  refine g_baload K X eh B.1 2 rfl (by decide) (f 2) rfl 45 d11_44 rfl ?_
  refine g_iload K X 47 d11_45 rfl rfl ?_
  refine g_i2b K X 48 d11_47 rfl ?_
  refine g_icmpT K X 53 d11_48 rfl (show (f 2) = x4.toInt8.toInt32 from q2) ?_
  refine g_iloadN K X 54 d11_53 rfl rfl ?_
  refine g_iconst K X (3 : Int32) 55 d11_54 rfl rfl ?_
  refine g_icmpT K X 69 d11_55 rfl (show ¬ ((3 : Int32)) < (Int32.ofNat 3) from (by decide)) ?_
  refine g_iconst K X (1 : Int32) 70 d11_69 rfl rfl ?_
  exact g_retN K X eh rfl (t := .boolean) (by simp) ((1 : Int32)) rfl d11_70 (by decide) (by decide) ⟨rfl, rfl⟩
set_option maxRecDepth 65536 in
set_option maxHeartbeats 40000000 in
theorem met_ho4 (l : Launch) (Z : State) (a0 : Array Value) (hw : ∀ d ∈ tables_1, d.before a0 Z = true) (b : Addr) (f : Nat → Int32) (x2 x3 x4 x5 : Int32) (h0 : Heap) (n0 : Nat) (B : Ab Z h0 b 4 f) (q0 : f 0 = x2.toInt8.toInt32) (q1 : f 1 = x3.toInt8.toInt32) (q2 : f 2 = x4.toInt8.toInt32) (q3 : f 3 = x5.toInt8.toInt32) :
    Met l Z (⟨"com/example/millrace/millrace/GrowingBytesCopyPinLaw", "holds", "([BIIIII)Z"⟩ : MethodName) method_2_code 6 (some .boolean) [] rm0 #[.ref b, .int (Int32.ofNat 4), .int x2, .int x3, .int x4, .int x5] h0 n0 (fun v h' => v = some (.int 1) ∧ h0 = h') := by
  refine Met.of (plainFor_of_name (by first | (simp [plainName, overriddenIn]; done) | decide +kernel)) #[.val (.ref b), .val (.int (Int32.ofNat 4)), .val (.int x2), .val (.int x3), .val (.int x4), .val (.int x5)] (fun m => by first | (simp [entryFrame, mkF, argsToLocals, Value.category]; done) | rfl) ?_
  intro p e s m below meth c T K X eh
  refine g_aloadN K X 1 d11_0 rfl rfl rfl ?_
  refine g_len K X eh B.1 (Int32.ofNat 4) rfl 2 d11_1 rfl ?_
  refine g_iloadN K X 3 d11_2 rfl rfl ?_
  refine g_icmpT K X 8 d11_3 rfl (show (Int32.ofNat 4) = (Int32.ofNat 4) from rfl) ?_
  refine g_iloadN K X 9 d11_8 rfl rfl ?_
  refine g_ifF K X 12 d11_9 rfl (show ¬ (¬ 0 < (Int32.ofNat 4)) from (by decide)) ?_
  refine g_aloadN K X 13 d11_12 rfl rfl rfl ?_
  refine g_iconst K X (0 : Int32) 14 d11_13 rfl rfl ?_
  refine g_baload K X eh B.1 0 rfl (by decide) (f 0) rfl 15 d11_14 rfl ?_
  refine g_iloadN K X 16 d11_15 rfl rfl ?_
  refine g_i2b K X 17 d11_16 rfl ?_
  refine g_icmpT K X 22 d11_17 rfl (show (f 0) = x2.toInt8.toInt32 from q0) ?_
  refine g_iloadN K X 23 d11_22 rfl rfl ?_
  refine g_iconst K X (1 : Int32) 24 d11_23 rfl rfl ?_
  refine g_icmpF K X 27 d11_24 rfl (show ¬ (¬ ((1 : Int32)) < (Int32.ofNat 4)) from (by decide)) ?_
  refine g_aloadN K X 28 d11_27 rfl rfl rfl ?_
  refine g_iconst K X (1 : Int32) 29 d11_28 rfl rfl ?_
  refine g_baload K X eh B.1 1 rfl (by decide) (f 1) rfl 30 d11_29 rfl ?_
  refine g_iloadN K X 31 d11_30 rfl rfl ?_
  refine g_i2b K X 32 d11_31 rfl ?_
  refine g_icmpT K X 37 d11_32 rfl (show (f 1) = x3.toInt8.toInt32 from q1) ?_
  refine g_iloadN K X 38 d11_37 rfl rfl ?_
  refine g_iconst K X (2 : Int32) 39 d11_38 rfl rfl ?_
  refine g_icmpF K X 42 d11_39 rfl (show ¬ (¬ ((2 : Int32)) < (Int32.ofNat 4)) from (by decide)) ?_
  refine g_aloadN K X 43 d11_42 rfl rfl rfl ?_
  refine g_iconst K X (2 : Int32) 44 d11_43 rfl rfl ?_
  refine g_baload K X eh B.1 2 rfl (by decide) (f 2) rfl 45 d11_44 rfl ?_
  refine g_iload K X 47 d11_45 rfl rfl ?_
  refine g_i2b K X 48 d11_47 rfl ?_
  refine g_icmpT K X 53 d11_48 rfl (show (f 2) = x4.toInt8.toInt32 from q2) ?_
  refine g_iloadN K X 54 d11_53 rfl rfl ?_
  refine g_iconst K X (3 : Int32) 55 d11_54 rfl rfl ?_
  refine g_icmpF K X 58 d11_55 rfl (show ¬ (¬ ((3 : Int32)) < (Int32.ofNat 4)) from (by decide)) ?_
  refine g_aloadN K X 59 d11_58 rfl rfl rfl ?_
  refine g_iconst K X (3 : Int32) 60 d11_59 rfl rfl ?_
  refine g_baload K X eh B.1 3 rfl (by decide) (f 3) rfl 61 d11_60 rfl ?_
  refine g_iload K X 63 d11_61 rfl rfl ?_
  refine g_i2b K X 64 d11_63 rfl ?_
  refine g_icmpT K X 69 d11_64 rfl (show (f 3) = x5.toInt8.toInt32 from q3) ?_
  refine g_iconst K X (1 : Int32) 70 d11_69 rfl rfl ?_
  exact g_retN K X eh rfl (t := .boolean) (by simp) ((1 : Int32)) rfl d11_70 (by decide) (by decide) ⟨rfl, rfl⟩
set_option maxRecDepth 65536 in
set_option maxHeartbeats 40000000 in
theorem met_law (l : Launch) (Z : State) (a0 : Array Value) (hw : ∀ d ∈ tables_1, d.before a0 Z = true) (x0 x1 x2 x3 x4 x5 : Int32) (h0 : Heap) (n0 : Nat) (Z0 : n0 ≤ h0.size) :
    Met l Z x code maxLocals ret tables_1 room_1 #[.int x0, .int x1, .int x2, .int x3, .int x4, .int x5] h0 n0 (fun v h' => v = some (.int 1)) := by
  refine Met.of (plainFor_of_name (by first | (simp [plainName, overriddenIn]; done) | decide +kernel)) #[.val (.int x0), .val (.int x1), .val (.int x2), .val (.int x3), .val (.int x4), .val (.int x5), .unset, .unset, .unset, .unset, .unset] (fun m => by first | (simp [entryFrame, mkF, argsToLocals, Value.category, maxLocals]; done) | rfl) ?_
  intro p e s m below meth c T K X eh
  obtain ⟨cap, hcap, ec⟩ := own_and7 x0
  obtain ⟨kk, hkk, ek⟩ := own_rem x1 5 5 rfl (by decide) (by decide)
  refine g_iloadN K X 1 at_0 rfl rfl ?_
  refine g_bipush K X (7 : Int32) 3 at_1 rfl rfl ?_
  refine g_iand K X 4 at_3 rfl ?_
  refine g_eqI (y := Int32.ofNat cap) (ec) ?_
  refine g_istore K X 6 #[.val (.int x0), .val (.int x1), .val (.int x2), .val (.int x3), .val (.int x4), .val (.int x5), .val (.int (Int32.ofNat cap)), .unset, .unset, .unset, .unset] at_4 rfl rfl ?_
  refine g_iloadN K X 7 at_6 rfl rfl ?_
  refine g_ldcI K X (hw _ (List.mem_of_getElem? (i := 0) rfl)) 9 at_7 rfl ?_
  refine g_iand K X 10 at_9 rfl ?_
  refine g_iconst K X (5 : Int32) 11 at_10 rfl rfl ?_
  refine g_irem K X 12 at_11 rfl (by decide) ?_
  refine g_eqI (y := Int32.ofNat kk) (ek) ?_
  refine g_istore K X 14 #[.val (.int x0), .val (.int x1), .val (.int x2), .val (.int x3), .val (.int x4), .val (.int x5), .val (.int (Int32.ofNat cap)), .val (.int (Int32.ofNat kk)), .unset, .unset, .unset] at_12 rfl rfl ?_
  refine g_new K X eh (hw _ (List.mem_of_getElem? (i := 1) rfl)) (hw _ (List.mem_of_getElem? (i := 2) rfl)) (hw _ (List.mem_of_getElem? (i := 3) rfl)) 17 at_14 rfl (by decide) (by decide) fun T h1 g gg0 X eh E1 Eg D => ?_
  have gg : n0 ≤ g := gg0 ▸ Z0
  refine g_dup K X 18 at_17 rfl rfl ?_
  refine g_iload K X 20 at_18 rfl rfl ?_
  refine g_special K X eh rfl rfl (met_init l Z a0 hw g cap hcap h1 n0 (Nat.le_trans Z0 E1.1) gg Eg (D (Or.inl (hw _ (List.mem_of_getElem? (i := 17) rfl))) (ty := .array .byte) (by decide)) (D (Or.inl (hw _ (List.mem_of_getElem? (i := 28) rfl))) (ty := .int) (by decide))) (hw _ (List.mem_of_getElem? (i := 4) rfl)) (hw _ (List.mem_of_getElem? (i := 5) rfl)) (hw _ (List.mem_of_getElem? (i := 6) rfl)) (hw _ (List.mem_of_getElem? (i := 3) rfl)) (by decide) (a := g) [.int (Int32.ofNat cap)] rfl rfl (lenOf pd_3 rfl) 23 at_20 rfl 1 (Nat.le_of_eq rfl) (by decide) (by decide) (by decide) (by decide) fun T v h2 X eh hv => ?_
  obtain ⟨rfl, ar, U, ga0, K2⟩ := hv
  have Z1 : n0 ≤ h1.size := Nat.le_trans Z0 E1.1
  have ga : n0 ≤ ar := Nat.le_trans Z1 ga0
  have Z2 : n0 ≤ h2.size := Nat.le_trans Z1 K2.1
  have hcap0 : 0 ≤ cap := Nat.zero_le _
  refine g_astore K X 25 #[.val (.int x0), .val (.int x1), .val (.int x2), .val (.int x3), .val (.int x4), .val (.int x5), .val (.int (Int32.ofNat cap)), .val (.int (Int32.ofNat kk)), .val (.ref g), .unset, .unset] at_23 rfl rfl rfl ?_
  refine g_iload K X 27 at_25 rfl rfl ?_
  match kk, hkk with
  | 0, _ =>
    refine g_ifT K X 36 at_27 rfl (show ¬ 0 < (Int32.ofNat 0) from (by decide)) ?_
    refine g_iload K X 38 at_36 rfl rfl ?_
    refine g_iconst K X (1 : Int32) 39 at_38 rfl rfl ?_
    refine g_icmpT K X 48 at_39 rfl (show ¬ ((1 : Int32)) < (Int32.ofNat 0) from (by decide)) ?_
    refine g_iload K X 50 at_48 rfl rfl ?_
    refine g_iconst K X (2 : Int32) 51 at_50 rfl rfl ?_
    refine g_icmpT K X 61 at_51 rfl (show ¬ ((2 : Int32)) < (Int32.ofNat 0) from (by decide)) ?_
    refine g_iload K X 63 at_61 rfl rfl ?_
    refine g_iconst K X (3 : Int32) 64 at_63 rfl rfl ?_
    refine g_icmpT K X 74 at_64 rfl (show ¬ ((3 : Int32)) < (Int32.ofNat 0) from (by decide)) ?_
    refine g_aload K X 76 at_74 rfl rfl rfl ?_
    refine g_virtual K X eh rfl (met_cp l Z a0 hw g ar cap 0 (fun _ => 0) hcap (Nat.zero_le _) h2 n0 Z2 U) (hw _ (List.mem_of_getElem? (i := 47) rfl)) (hw _ (List.mem_of_getElem? (i := 48) rfl)) (hw _ (List.mem_of_getElem? (i := 50) rfl)) (hw _ (List.mem_of_getElem? (i := 49) rfl)) (hw _ (List.mem_of_getElem? (i := 51) rfl)) (hw _ (List.mem_of_getElem? (i := 3) rfl)) (by decide) U.1 [] rfl rfl (lenOf pd_4 rfl) 79 at_76 rfl 0 (Nat.le_of_eq rfl) (by decide) (by decide) (by decide) (by decide) fun T v h7 X eh hv => ?_
    obtain ⟨r, rfl, gr, B, EB, K7⟩ := hv
    have ner : g ≠ r := ne_of_new U.lg gr
    have nea : ar ≠ r := ne_of_new U.la gr
    replace U := U.keep K7 nin0 nin0
    have Z7 : n0 ≤ h7.size := Nat.le_trans Z2 K7.1
    have gr0 : n0 ≤ r := Nat.le_trans Z2 gr
    refine g_astore K X 81 #[.val (.int x0), .val (.int x1), .val (.int x2), .val (.int x3), .val (.int x4), .val (.int x5), .val (.int (Int32.ofNat cap)), .val (.int (Int32.ofNat 0)), .val (.ref g), .val (.ref r), .unset] at_79 rfl rfl rfl ?_
    refine g_aload K X 83 at_81 rfl rfl rfl ?_
    refine g_iload K X 85 at_83 rfl rfl ?_
    refine g_iloadN K X 86 at_85 rfl rfl ?_
    refine g_iloadN K X 87 at_86 rfl rfl ?_
    refine g_iload K X 89 at_87 rfl rfl ?_
    refine g_iload K X 91 at_89 rfl rfl ?_
    refine g_static K X eh rfl (met_ho0 l Z a0 hw r (fun _ => 0) x2 x3 x4 x5 h7 n0 B ) (hw _ (List.mem_of_getElem? (i := 52) rfl)) (hw _ (List.mem_of_getElem? (i := 53) rfl)) (hw _ (List.mem_of_getElem? (i := 55) rfl)) (hw _ (List.mem_of_getElem? (i := 54) rfl)) (by decide) [.ref r, .int (Int32.ofNat 0), .int x2, .int x3, .int x4, .int x5] rfl rfl (lenOf pd_5 rfl) 94 at_91 rfl 0 (Nat.le_of_eq rfl) (by decide) (by decide) (by decide) (by decide) fun T v h' X eh hv => ?_
    obtain ⟨rfl, rfl⟩ := hv
    refine g_ifT K X 99 at_94 rfl (show ¬ ((1 : Int32)) = 0 from (by decide)) ?_
    refine g_iload K X 101 at_99 rfl rfl ?_
    refine g_ifT K X 115 at_101 rfl (show ¬ 0 < (Int32.ofNat 0) from (by decide)) ?_
    have lr : r < h7.size := B.1.lt
    refine g_aload K X 117 at_115 rfl rfl rfl ?_
    refine g_virtual K X eh rfl (met_cp l Z a0 hw g ar cap 0 (fun _ => 0) hcap (Nat.zero_le _) h7 n0 Z7 U) (hw _ (List.mem_of_getElem? (i := 47) rfl)) (hw _ (List.mem_of_getElem? (i := 48) rfl)) (hw _ (List.mem_of_getElem? (i := 50) rfl)) (hw _ (List.mem_of_getElem? (i := 49) rfl)) (hw _ (List.mem_of_getElem? (i := 51) rfl)) (hw _ (List.mem_of_getElem? (i := 3) rfl)) (by decide) U.1 [] rfl rfl (lenOf pd_4 rfl) 120 at_117 rfl 0 (Nat.le_of_eq rfl) (by decide) (by decide) (by decide) (by decide) fun T v h9 X eh hv => ?_
    obtain ⟨t, rfl, gt, B9, EB9, K9⟩ := hv
    replace U := U.keep K9 nin0 nin0
    have htr : t ≠ r := fun q => absurd lr (by rw [← q]; exact Nat.not_lt.mpr gt)
    refine g_astore K X 122 #[.val (.int x0), .val (.int x1), .val (.int x2), .val (.int x3), .val (.int x4), .val (.int x5), .val (.int (Int32.ofNat cap)), .val (.int (Int32.ofNat 0)), .val (.ref g), .val (.ref r), .val (.ref t)] at_120 rfl rfl rfl ?_
    refine g_aload K X 124 at_122 rfl rfl rfl ?_
    refine g_aload K X 126 at_124 rfl rfl rfl ?_
    refine g_acmpT K X 131 at_126 rfl rfl rfl (by simp [acV, htr]) ?_
    refine g_aload K X 133 at_131 rfl rfl rfl ?_
    refine g_iload K X 135 at_133 rfl rfl ?_
    refine g_iloadN K X 136 at_135 rfl rfl ?_
    refine g_iloadN K X 137 at_136 rfl rfl ?_
    refine g_iload K X 139 at_137 rfl rfl ?_
    refine g_iload K X 141 at_139 rfl rfl ?_
    refine g_static K X eh rfl (met_ho0 l Z a0 hw t (fun _ => 0) x2 x3 x4 x5 h9 n0 B9 ) (hw _ (List.mem_of_getElem? (i := 52) rfl)) (hw _ (List.mem_of_getElem? (i := 53) rfl)) (hw _ (List.mem_of_getElem? (i := 55) rfl)) (hw _ (List.mem_of_getElem? (i := 54) rfl)) (by decide) [.ref t, .int (Int32.ofNat 0), .int x2, .int x3, .int x4, .int x5] rfl rfl (lenOf pd_5 rfl) 144 at_141 rfl 0 (Nat.le_of_eq rfl) (by decide) (by decide) (by decide) (by decide) fun T v h' X eh hv => ?_
    obtain ⟨rfl, rfl⟩ := hv
    refine g_ifT K X 149 at_144 rfl (show ¬ ((1 : Int32)) = 0 from (by decide)) ?_
    refine g_aload K X 151 at_149 rfl rfl rfl ?_
    refine g_virtual K X eh rfl (met_sz l Z a0 hw g ar cap 0 (fun _ => 0) h9 n0 U) (hw _ (List.mem_of_getElem? (i := 56) rfl)) (hw _ (List.mem_of_getElem? (i := 57) rfl)) (hw _ (List.mem_of_getElem? (i := 59) rfl)) (hw _ (List.mem_of_getElem? (i := 58) rfl)) (hw _ (List.mem_of_getElem? (i := 60) rfl)) (hw _ (List.mem_of_getElem? (i := 3) rfl)) (by decide) U.1 [] rfl rfl (lenOf pd_6 rfl) 154 at_151 rfl 0 (Nat.le_of_eq rfl) (by decide) (by decide) (by decide) (by decide) fun T v h' X eh hv => ?_
    obtain ⟨rfl, rfl⟩ := hv
    refine g_iload K X 156 at_154 rfl rfl ?_
    refine g_icmpF K X 159 at_156 rfl (show ¬ (¬ (Int32.ofNat 0) = (Int32.ofNat 0)) from (fun q => q rfl)) ?_
    refine g_iconst K X (1 : Int32) 160 at_159 rfl rfl ?_
    refine g_goto K X 164 at_160 rfl ?_
    exact g_retN K X eh rfl (t := .boolean) (by simp) ((1 : Int32)) rfl at_164 (by decide) (by decide) rfl
  | 1, _ =>
    refine g_ifF K X 30 at_27 rfl (show ¬ (¬ 0 < (Int32.ofNat 1)) from (by decide)) ?_
    refine g_aload K X 32 at_30 rfl rfl rfl ?_
    refine g_iloadN K X 33 at_32 rfl rfl ?_
    refine g_virtual K X eh rfl (met_wr l Z a0 hw g ar cap 0 (fun _ => 0) x2 hcap (Nat.zero_le _) (by decide) h2 n0 Z2 gg ga U) (hw _ (List.mem_of_getElem? (i := 18) rfl)) (hw _ (List.mem_of_getElem? (i := 19) rfl)) (hw _ (List.mem_of_getElem? (i := 21) rfl)) (hw _ (List.mem_of_getElem? (i := 20) rfl)) (hw _ (List.mem_of_getElem? (i := 22) rfl)) (hw _ (List.mem_of_getElem? (i := 3) rfl)) (by decide) U.1 [.int x2] rfl rfl (lenOf pd_3 rfl) 36 at_33 rfl 0 (Nat.le_of_eq rfl) (by decide) (by decide) (by decide) (by decide) fun T v h3 X eh hv => ?_
    clear U
    obtain ⟨rfl, ar0, cap0, f0, U, Gr, hf, q00, Kp⟩ := hv
    have hs0 : 0 + 1 ≤ cap0 := by rcases Gr with ⟨q1, -, q2⟩ | ⟨q1, -, q2⟩ <;> omega
    have hc0 : cap0 ≤ 7 := by rcases Gr with ⟨-, -, q2⟩ | ⟨q1, -, q2⟩ <;> omega
    have ga0 : n0 ≤ ar0 := by rcases Gr with ⟨-, q1, -⟩ | ⟨-, q1, -⟩ <;> omega
    have Z3 : n0 ≤ h3.size := Nat.le_trans Z2 Kp.1
    refine g_iload K X 38 at_36 rfl rfl ?_
    refine g_iconst K X (1 : Int32) 39 at_38 rfl rfl ?_
    refine g_icmpT K X 48 at_39 rfl (show ¬ ((1 : Int32)) < (Int32.ofNat 1) from (by decide)) ?_
    refine g_iload K X 50 at_48 rfl rfl ?_
    refine g_iconst K X (2 : Int32) 51 at_50 rfl rfl ?_
    refine g_icmpT K X 61 at_51 rfl (show ¬ ((2 : Int32)) < (Int32.ofNat 1) from (by decide)) ?_
    refine g_iload K X 63 at_61 rfl rfl ?_
    refine g_iconst K X (3 : Int32) 64 at_63 rfl rfl ?_
    refine g_icmpT K X 74 at_64 rfl (show ¬ ((3 : Int32)) < (Int32.ofNat 1) from (by decide)) ?_
    refine g_aload K X 76 at_74 rfl rfl rfl ?_
    refine g_virtual K X eh rfl (met_cp l Z a0 hw g ar0 cap0 1 f0 hc0 hs0 h3 n0 Z3 U) (hw _ (List.mem_of_getElem? (i := 47) rfl)) (hw _ (List.mem_of_getElem? (i := 48) rfl)) (hw _ (List.mem_of_getElem? (i := 50) rfl)) (hw _ (List.mem_of_getElem? (i := 49) rfl)) (hw _ (List.mem_of_getElem? (i := 51) rfl)) (hw _ (List.mem_of_getElem? (i := 3) rfl)) (by decide) U.1 [] rfl rfl (lenOf pd_4 rfl) 79 at_76 rfl 0 (Nat.le_of_eq rfl) (by decide) (by decide) (by decide) (by decide) fun T v h7 X eh hv => ?_
    obtain ⟨r, rfl, gr, B, EB, K7⟩ := hv
    have ner : g ≠ r := ne_of_new U.lg gr
    have nea : ar0 ≠ r := ne_of_new U.la gr
    replace U := U.keep K7 nin0 nin0
    have Z7 : n0 ≤ h7.size := Nat.le_trans Z3 K7.1
    have gr0 : n0 ≤ r := Nat.le_trans Z3 gr
    refine g_astore K X 81 #[.val (.int x0), .val (.int x1), .val (.int x2), .val (.int x3), .val (.int x4), .val (.int x5), .val (.int (Int32.ofNat cap)), .val (.int (Int32.ofNat 1)), .val (.ref g), .val (.ref r), .unset] at_79 rfl rfl rfl ?_
    refine g_aload K X 83 at_81 rfl rfl rfl ?_
    refine g_iload K X 85 at_83 rfl rfl ?_
    refine g_iloadN K X 86 at_85 rfl rfl ?_
    refine g_iloadN K X 87 at_86 rfl rfl ?_
    refine g_iload K X 89 at_87 rfl rfl ?_
    refine g_iload K X 91 at_89 rfl rfl ?_
    refine g_static K X eh rfl (met_ho1 l Z a0 hw r f0 x2 x3 x4 x5 h7 n0 B q00) (hw _ (List.mem_of_getElem? (i := 52) rfl)) (hw _ (List.mem_of_getElem? (i := 53) rfl)) (hw _ (List.mem_of_getElem? (i := 55) rfl)) (hw _ (List.mem_of_getElem? (i := 54) rfl)) (by decide) [.ref r, .int (Int32.ofNat 1), .int x2, .int x3, .int x4, .int x5] rfl rfl (lenOf pd_5 rfl) 94 at_91 rfl 0 (Nat.le_of_eq rfl) (by decide) (by decide) (by decide) (by decide) fun T v h' X eh hv => ?_
    obtain ⟨rfl, rfl⟩ := hv
    refine g_ifT K X 99 at_94 rfl (show ¬ ((1 : Int32)) = 0 from (by decide)) ?_
    refine g_iload K X 101 at_99 rfl rfl ?_
    refine g_ifF K X 104 at_101 rfl (show ¬ (¬ 0 < (Int32.ofNat 1)) from (by decide)) ?_
    refine g_aload K X 106 at_104 rfl rfl rfl ?_
    refine g_iconst K X (0 : Int32) 107 at_106 rfl rfl ?_
    refine g_aload K X 109 at_107 rfl rfl rfl ?_
    refine g_iconst K X (0 : Int32) 110 at_109 rfl rfl ?_
    refine g_baload K X eh B.1 0 rfl (by decide) (f0 0) rfl 111 at_110 rfl ?_
    refine g_iconst K X (1 : Int32) 112 at_111 rfl rfl ?_
    refine g_ixor K X 113 at_112 rfl ?_
    refine g_i2b K X 114 at_113 rfl ?_
    refine g_bastore K X eh B.1 0 rfl (by decide) (((f0 0) ^^^ ((1 : Int32))).toInt8.toInt32) (own_bb _) gr0 115 at_114 rfl fun T h8 X eh W8 A8 => ?_
    replace U := U.other W8 ner nea
    have lr : r < h8.size := A8.lt
    have Z8 : n0 ≤ h8.size := by rw [W8.size]; exact Z7
    refine g_aload K X 117 at_115 rfl rfl rfl ?_
    refine g_virtual K X eh rfl (met_cp l Z a0 hw g ar0 cap0 1 f0 hc0 hs0 h8 n0 Z8 U) (hw _ (List.mem_of_getElem? (i := 47) rfl)) (hw _ (List.mem_of_getElem? (i := 48) rfl)) (hw _ (List.mem_of_getElem? (i := 50) rfl)) (hw _ (List.mem_of_getElem? (i := 49) rfl)) (hw _ (List.mem_of_getElem? (i := 51) rfl)) (hw _ (List.mem_of_getElem? (i := 3) rfl)) (by decide) U.1 [] rfl rfl (lenOf pd_4 rfl) 120 at_117 rfl 0 (Nat.le_of_eq rfl) (by decide) (by decide) (by decide) (by decide) fun T v h9 X eh hv => ?_
    obtain ⟨t, rfl, gt, B9, EB9, K9⟩ := hv
    replace U := U.keep K9 nin0 nin0
    have htr : t ≠ r := fun q => absurd lr (by rw [← q]; exact Nat.not_lt.mpr gt)
    refine g_astore K X 122 #[.val (.int x0), .val (.int x1), .val (.int x2), .val (.int x3), .val (.int x4), .val (.int x5), .val (.int (Int32.ofNat cap)), .val (.int (Int32.ofNat 1)), .val (.ref g), .val (.ref r), .val (.ref t)] at_120 rfl rfl rfl ?_
    refine g_aload K X 124 at_122 rfl rfl rfl ?_
    refine g_aload K X 126 at_124 rfl rfl rfl ?_
    refine g_acmpT K X 131 at_126 rfl rfl rfl (by simp [acV, htr]) ?_
    refine g_aload K X 133 at_131 rfl rfl rfl ?_
    refine g_iload K X 135 at_133 rfl rfl ?_
    refine g_iloadN K X 136 at_135 rfl rfl ?_
    refine g_iloadN K X 137 at_136 rfl rfl ?_
    refine g_iload K X 139 at_137 rfl rfl ?_
    refine g_iload K X 141 at_139 rfl rfl ?_
    refine g_static K X eh rfl (met_ho1 l Z a0 hw t f0 x2 x3 x4 x5 h9 n0 B9 q00) (hw _ (List.mem_of_getElem? (i := 52) rfl)) (hw _ (List.mem_of_getElem? (i := 53) rfl)) (hw _ (List.mem_of_getElem? (i := 55) rfl)) (hw _ (List.mem_of_getElem? (i := 54) rfl)) (by decide) [.ref t, .int (Int32.ofNat 1), .int x2, .int x3, .int x4, .int x5] rfl rfl (lenOf pd_5 rfl) 144 at_141 rfl 0 (Nat.le_of_eq rfl) (by decide) (by decide) (by decide) (by decide) fun T v h' X eh hv => ?_
    obtain ⟨rfl, rfl⟩ := hv
    refine g_ifT K X 149 at_144 rfl (show ¬ ((1 : Int32)) = 0 from (by decide)) ?_
    refine g_aload K X 151 at_149 rfl rfl rfl ?_
    refine g_virtual K X eh rfl (met_sz l Z a0 hw g ar0 cap0 1 f0 h9 n0 U) (hw _ (List.mem_of_getElem? (i := 56) rfl)) (hw _ (List.mem_of_getElem? (i := 57) rfl)) (hw _ (List.mem_of_getElem? (i := 59) rfl)) (hw _ (List.mem_of_getElem? (i := 58) rfl)) (hw _ (List.mem_of_getElem? (i := 60) rfl)) (hw _ (List.mem_of_getElem? (i := 3) rfl)) (by decide) U.1 [] rfl rfl (lenOf pd_6 rfl) 154 at_151 rfl 0 (Nat.le_of_eq rfl) (by decide) (by decide) (by decide) (by decide) fun T v h' X eh hv => ?_
    obtain ⟨rfl, rfl⟩ := hv
    refine g_iload K X 156 at_154 rfl rfl ?_
    refine g_icmpF K X 159 at_156 rfl (show ¬ (¬ (Int32.ofNat 1) = (Int32.ofNat 1)) from (fun q => q rfl)) ?_
    refine g_iconst K X (1 : Int32) 160 at_159 rfl rfl ?_
    refine g_goto K X 164 at_160 rfl ?_
    exact g_retN K X eh rfl (t := .boolean) (by simp) ((1 : Int32)) rfl at_164 (by decide) (by decide) rfl
  | 2, _ =>
    refine g_ifF K X 30 at_27 rfl (show ¬ (¬ 0 < (Int32.ofNat 2)) from (by decide)) ?_
    refine g_aload K X 32 at_30 rfl rfl rfl ?_
    refine g_iloadN K X 33 at_32 rfl rfl ?_
    refine g_virtual K X eh rfl (met_wr l Z a0 hw g ar cap 0 (fun _ => 0) x2 hcap (Nat.zero_le _) (by decide) h2 n0 Z2 gg ga U) (hw _ (List.mem_of_getElem? (i := 18) rfl)) (hw _ (List.mem_of_getElem? (i := 19) rfl)) (hw _ (List.mem_of_getElem? (i := 21) rfl)) (hw _ (List.mem_of_getElem? (i := 20) rfl)) (hw _ (List.mem_of_getElem? (i := 22) rfl)) (hw _ (List.mem_of_getElem? (i := 3) rfl)) (by decide) U.1 [.int x2] rfl rfl (lenOf pd_3 rfl) 36 at_33 rfl 0 (Nat.le_of_eq rfl) (by decide) (by decide) (by decide) (by decide) fun T v h3 X eh hv => ?_
    clear U
    obtain ⟨rfl, ar0, cap0, f0, U, Gr, hf, q00, Kp⟩ := hv
    have hs0 : 0 + 1 ≤ cap0 := by rcases Gr with ⟨q1, -, q2⟩ | ⟨q1, -, q2⟩ <;> omega
    have hc0 : cap0 ≤ 7 := by rcases Gr with ⟨-, -, q2⟩ | ⟨q1, -, q2⟩ <;> omega
    have ga0 : n0 ≤ ar0 := by rcases Gr with ⟨-, q1, -⟩ | ⟨-, q1, -⟩ <;> omega
    have Z3 : n0 ≤ h3.size := Nat.le_trans Z2 Kp.1
    refine g_iload K X 38 at_36 rfl rfl ?_
    refine g_iconst K X (1 : Int32) 39 at_38 rfl rfl ?_
    refine g_icmpF K X 42 at_39 rfl (show ¬ (¬ ((1 : Int32)) < (Int32.ofNat 2)) from (by decide)) ?_
    refine g_aload K X 44 at_42 rfl rfl rfl ?_
    refine g_iloadN K X 45 at_44 rfl rfl ?_
    refine g_virtual K X eh rfl (met_wr l Z a0 hw g ar0 cap0 1 f0 x3 hc0 hs0 (by decide) h3 n0 Z3 gg ga0 U) (hw _ (List.mem_of_getElem? (i := 18) rfl)) (hw _ (List.mem_of_getElem? (i := 19) rfl)) (hw _ (List.mem_of_getElem? (i := 21) rfl)) (hw _ (List.mem_of_getElem? (i := 20) rfl)) (hw _ (List.mem_of_getElem? (i := 22) rfl)) (hw _ (List.mem_of_getElem? (i := 3) rfl)) (by decide) U.1 [.int x3] rfl rfl (lenOf pd_3 rfl) 48 at_45 rfl 0 (Nat.le_of_eq rfl) (by decide) (by decide) (by decide) (by decide) fun T v h4 X eh hv => ?_
    clear U
    obtain ⟨rfl, ar1, cap1, f1, U, Gr, hf, q11, Kp⟩ := hv
    have hs1 : 1 + 1 ≤ cap1 := by rcases Gr with ⟨q1, -, q2⟩ | ⟨q1, -, q2⟩ <;> omega
    have hc1 : cap1 ≤ 7 := by rcases Gr with ⟨-, -, q2⟩ | ⟨q1, -, q2⟩ <;> omega
    have ga1 : n0 ≤ ar1 := by rcases Gr with ⟨-, q1, -⟩ | ⟨-, q1, -⟩ <;> omega
    have Z4 : n0 ≤ h4.size := Nat.le_trans Z3 Kp.1
    have q10 : f1 0 = x2.toInt8.toInt32 := (hf 0 (by decide)).trans q00
    refine g_iload K X 50 at_48 rfl rfl ?_
    refine g_iconst K X (2 : Int32) 51 at_50 rfl rfl ?_
    refine g_icmpT K X 61 at_51 rfl (show ¬ ((2 : Int32)) < (Int32.ofNat 2) from (by decide)) ?_
    refine g_iload K X 63 at_61 rfl rfl ?_
    refine g_iconst K X (3 : Int32) 64 at_63 rfl rfl ?_
    refine g_icmpT K X 74 at_64 rfl (show ¬ ((3 : Int32)) < (Int32.ofNat 2) from (by decide)) ?_
    refine g_aload K X 76 at_74 rfl rfl rfl ?_
    refine g_virtual K X eh rfl (met_cp l Z a0 hw g ar1 cap1 2 f1 hc1 hs1 h4 n0 Z4 U) (hw _ (List.mem_of_getElem? (i := 47) rfl)) (hw _ (List.mem_of_getElem? (i := 48) rfl)) (hw _ (List.mem_of_getElem? (i := 50) rfl)) (hw _ (List.mem_of_getElem? (i := 49) rfl)) (hw _ (List.mem_of_getElem? (i := 51) rfl)) (hw _ (List.mem_of_getElem? (i := 3) rfl)) (by decide) U.1 [] rfl rfl (lenOf pd_4 rfl) 79 at_76 rfl 0 (Nat.le_of_eq rfl) (by decide) (by decide) (by decide) (by decide) fun T v h7 X eh hv => ?_
    obtain ⟨r, rfl, gr, B, EB, K7⟩ := hv
    have ner : g ≠ r := ne_of_new U.lg gr
    have nea : ar1 ≠ r := ne_of_new U.la gr
    replace U := U.keep K7 nin0 nin0
    have Z7 : n0 ≤ h7.size := Nat.le_trans Z4 K7.1
    have gr0 : n0 ≤ r := Nat.le_trans Z4 gr
    refine g_astore K X 81 #[.val (.int x0), .val (.int x1), .val (.int x2), .val (.int x3), .val (.int x4), .val (.int x5), .val (.int (Int32.ofNat cap)), .val (.int (Int32.ofNat 2)), .val (.ref g), .val (.ref r), .unset] at_79 rfl rfl rfl ?_
    refine g_aload K X 83 at_81 rfl rfl rfl ?_
    refine g_iload K X 85 at_83 rfl rfl ?_
    refine g_iloadN K X 86 at_85 rfl rfl ?_
    refine g_iloadN K X 87 at_86 rfl rfl ?_
    refine g_iload K X 89 at_87 rfl rfl ?_
    refine g_iload K X 91 at_89 rfl rfl ?_
    refine g_static K X eh rfl (met_ho2 l Z a0 hw r f1 x2 x3 x4 x5 h7 n0 B q10 q11) (hw _ (List.mem_of_getElem? (i := 52) rfl)) (hw _ (List.mem_of_getElem? (i := 53) rfl)) (hw _ (List.mem_of_getElem? (i := 55) rfl)) (hw _ (List.mem_of_getElem? (i := 54) rfl)) (by decide) [.ref r, .int (Int32.ofNat 2), .int x2, .int x3, .int x4, .int x5] rfl rfl (lenOf pd_5 rfl) 94 at_91 rfl 0 (Nat.le_of_eq rfl) (by decide) (by decide) (by decide) (by decide) fun T v h' X eh hv => ?_
    obtain ⟨rfl, rfl⟩ := hv
    refine g_ifT K X 99 at_94 rfl (show ¬ ((1 : Int32)) = 0 from (by decide)) ?_
    refine g_iload K X 101 at_99 rfl rfl ?_
    refine g_ifF K X 104 at_101 rfl (show ¬ (¬ 0 < (Int32.ofNat 2)) from (by decide)) ?_
    refine g_aload K X 106 at_104 rfl rfl rfl ?_
    refine g_iconst K X (0 : Int32) 107 at_106 rfl rfl ?_
    refine g_aload K X 109 at_107 rfl rfl rfl ?_
    refine g_iconst K X (0 : Int32) 110 at_109 rfl rfl ?_
    refine g_baload K X eh B.1 0 rfl (by decide) (f1 0) rfl 111 at_110 rfl ?_
    refine g_iconst K X (1 : Int32) 112 at_111 rfl rfl ?_
    refine g_ixor K X 113 at_112 rfl ?_
    refine g_i2b K X 114 at_113 rfl ?_
    refine g_bastore K X eh B.1 0 rfl (by decide) (((f1 0) ^^^ ((1 : Int32))).toInt8.toInt32) (own_bb _) gr0 115 at_114 rfl fun T h8 X eh W8 A8 => ?_
    replace U := U.other W8 ner nea
    have lr : r < h8.size := A8.lt
    have Z8 : n0 ≤ h8.size := by rw [W8.size]; exact Z7
    refine g_aload K X 117 at_115 rfl rfl rfl ?_
    refine g_virtual K X eh rfl (met_cp l Z a0 hw g ar1 cap1 2 f1 hc1 hs1 h8 n0 Z8 U) (hw _ (List.mem_of_getElem? (i := 47) rfl)) (hw _ (List.mem_of_getElem? (i := 48) rfl)) (hw _ (List.mem_of_getElem? (i := 50) rfl)) (hw _ (List.mem_of_getElem? (i := 49) rfl)) (hw _ (List.mem_of_getElem? (i := 51) rfl)) (hw _ (List.mem_of_getElem? (i := 3) rfl)) (by decide) U.1 [] rfl rfl (lenOf pd_4 rfl) 120 at_117 rfl 0 (Nat.le_of_eq rfl) (by decide) (by decide) (by decide) (by decide) fun T v h9 X eh hv => ?_
    obtain ⟨t, rfl, gt, B9, EB9, K9⟩ := hv
    replace U := U.keep K9 nin0 nin0
    have htr : t ≠ r := fun q => absurd lr (by rw [← q]; exact Nat.not_lt.mpr gt)
    refine g_astore K X 122 #[.val (.int x0), .val (.int x1), .val (.int x2), .val (.int x3), .val (.int x4), .val (.int x5), .val (.int (Int32.ofNat cap)), .val (.int (Int32.ofNat 2)), .val (.ref g), .val (.ref r), .val (.ref t)] at_120 rfl rfl rfl ?_
    refine g_aload K X 124 at_122 rfl rfl rfl ?_
    refine g_aload K X 126 at_124 rfl rfl rfl ?_
    refine g_acmpT K X 131 at_126 rfl rfl rfl (by simp [acV, htr]) ?_
    refine g_aload K X 133 at_131 rfl rfl rfl ?_
    refine g_iload K X 135 at_133 rfl rfl ?_
    refine g_iloadN K X 136 at_135 rfl rfl ?_
    refine g_iloadN K X 137 at_136 rfl rfl ?_
    refine g_iload K X 139 at_137 rfl rfl ?_
    refine g_iload K X 141 at_139 rfl rfl ?_
    refine g_static K X eh rfl (met_ho2 l Z a0 hw t f1 x2 x3 x4 x5 h9 n0 B9 q10 q11) (hw _ (List.mem_of_getElem? (i := 52) rfl)) (hw _ (List.mem_of_getElem? (i := 53) rfl)) (hw _ (List.mem_of_getElem? (i := 55) rfl)) (hw _ (List.mem_of_getElem? (i := 54) rfl)) (by decide) [.ref t, .int (Int32.ofNat 2), .int x2, .int x3, .int x4, .int x5] rfl rfl (lenOf pd_5 rfl) 144 at_141 rfl 0 (Nat.le_of_eq rfl) (by decide) (by decide) (by decide) (by decide) fun T v h' X eh hv => ?_
    obtain ⟨rfl, rfl⟩ := hv
    refine g_ifT K X 149 at_144 rfl (show ¬ ((1 : Int32)) = 0 from (by decide)) ?_
    refine g_aload K X 151 at_149 rfl rfl rfl ?_
    refine g_virtual K X eh rfl (met_sz l Z a0 hw g ar1 cap1 2 f1 h9 n0 U) (hw _ (List.mem_of_getElem? (i := 56) rfl)) (hw _ (List.mem_of_getElem? (i := 57) rfl)) (hw _ (List.mem_of_getElem? (i := 59) rfl)) (hw _ (List.mem_of_getElem? (i := 58) rfl)) (hw _ (List.mem_of_getElem? (i := 60) rfl)) (hw _ (List.mem_of_getElem? (i := 3) rfl)) (by decide) U.1 [] rfl rfl (lenOf pd_6 rfl) 154 at_151 rfl 0 (Nat.le_of_eq rfl) (by decide) (by decide) (by decide) (by decide) fun T v h' X eh hv => ?_
    obtain ⟨rfl, rfl⟩ := hv
    refine g_iload K X 156 at_154 rfl rfl ?_
    refine g_icmpF K X 159 at_156 rfl (show ¬ (¬ (Int32.ofNat 2) = (Int32.ofNat 2)) from (fun q => q rfl)) ?_
    refine g_iconst K X (1 : Int32) 160 at_159 rfl rfl ?_
    refine g_goto K X 164 at_160 rfl ?_
    exact g_retN K X eh rfl (t := .boolean) (by simp) ((1 : Int32)) rfl at_164 (by decide) (by decide) rfl
  | 3, _ =>
    refine g_ifF K X 30 at_27 rfl (show ¬ (¬ 0 < (Int32.ofNat 3)) from (by decide)) ?_
    refine g_aload K X 32 at_30 rfl rfl rfl ?_
    refine g_iloadN K X 33 at_32 rfl rfl ?_
    refine g_virtual K X eh rfl (met_wr l Z a0 hw g ar cap 0 (fun _ => 0) x2 hcap (Nat.zero_le _) (by decide) h2 n0 Z2 gg ga U) (hw _ (List.mem_of_getElem? (i := 18) rfl)) (hw _ (List.mem_of_getElem? (i := 19) rfl)) (hw _ (List.mem_of_getElem? (i := 21) rfl)) (hw _ (List.mem_of_getElem? (i := 20) rfl)) (hw _ (List.mem_of_getElem? (i := 22) rfl)) (hw _ (List.mem_of_getElem? (i := 3) rfl)) (by decide) U.1 [.int x2] rfl rfl (lenOf pd_3 rfl) 36 at_33 rfl 0 (Nat.le_of_eq rfl) (by decide) (by decide) (by decide) (by decide) fun T v h3 X eh hv => ?_
    clear U
    obtain ⟨rfl, ar0, cap0, f0, U, Gr, hf, q00, Kp⟩ := hv
    have hs0 : 0 + 1 ≤ cap0 := by rcases Gr with ⟨q1, -, q2⟩ | ⟨q1, -, q2⟩ <;> omega
    have hc0 : cap0 ≤ 7 := by rcases Gr with ⟨-, -, q2⟩ | ⟨q1, -, q2⟩ <;> omega
    have ga0 : n0 ≤ ar0 := by rcases Gr with ⟨-, q1, -⟩ | ⟨-, q1, -⟩ <;> omega
    have Z3 : n0 ≤ h3.size := Nat.le_trans Z2 Kp.1
    refine g_iload K X 38 at_36 rfl rfl ?_
    refine g_iconst K X (1 : Int32) 39 at_38 rfl rfl ?_
    refine g_icmpF K X 42 at_39 rfl (show ¬ (¬ ((1 : Int32)) < (Int32.ofNat 3)) from (by decide)) ?_
    refine g_aload K X 44 at_42 rfl rfl rfl ?_
    refine g_iloadN K X 45 at_44 rfl rfl ?_
    refine g_virtual K X eh rfl (met_wr l Z a0 hw g ar0 cap0 1 f0 x3 hc0 hs0 (by decide) h3 n0 Z3 gg ga0 U) (hw _ (List.mem_of_getElem? (i := 18) rfl)) (hw _ (List.mem_of_getElem? (i := 19) rfl)) (hw _ (List.mem_of_getElem? (i := 21) rfl)) (hw _ (List.mem_of_getElem? (i := 20) rfl)) (hw _ (List.mem_of_getElem? (i := 22) rfl)) (hw _ (List.mem_of_getElem? (i := 3) rfl)) (by decide) U.1 [.int x3] rfl rfl (lenOf pd_3 rfl) 48 at_45 rfl 0 (Nat.le_of_eq rfl) (by decide) (by decide) (by decide) (by decide) fun T v h4 X eh hv => ?_
    clear U
    obtain ⟨rfl, ar1, cap1, f1, U, Gr, hf, q11, Kp⟩ := hv
    have hs1 : 1 + 1 ≤ cap1 := by rcases Gr with ⟨q1, -, q2⟩ | ⟨q1, -, q2⟩ <;> omega
    have hc1 : cap1 ≤ 7 := by rcases Gr with ⟨-, -, q2⟩ | ⟨q1, -, q2⟩ <;> omega
    have ga1 : n0 ≤ ar1 := by rcases Gr with ⟨-, q1, -⟩ | ⟨-, q1, -⟩ <;> omega
    have Z4 : n0 ≤ h4.size := Nat.le_trans Z3 Kp.1
    have q10 : f1 0 = x2.toInt8.toInt32 := (hf 0 (by decide)).trans q00
    refine g_iload K X 50 at_48 rfl rfl ?_
    refine g_iconst K X (2 : Int32) 51 at_50 rfl rfl ?_
    refine g_icmpF K X 54 at_51 rfl (show ¬ (¬ ((2 : Int32)) < (Int32.ofNat 3)) from (by decide)) ?_
    refine g_aload K X 56 at_54 rfl rfl rfl ?_
    refine g_iload K X 58 at_56 rfl rfl ?_
    refine g_virtual K X eh rfl (met_wr l Z a0 hw g ar1 cap1 2 f1 x4 hc1 hs1 (by decide) h4 n0 Z4 gg ga1 U) (hw _ (List.mem_of_getElem? (i := 18) rfl)) (hw _ (List.mem_of_getElem? (i := 19) rfl)) (hw _ (List.mem_of_getElem? (i := 21) rfl)) (hw _ (List.mem_of_getElem? (i := 20) rfl)) (hw _ (List.mem_of_getElem? (i := 22) rfl)) (hw _ (List.mem_of_getElem? (i := 3) rfl)) (by decide) U.1 [.int x4] rfl rfl (lenOf pd_3 rfl) 61 at_58 rfl 0 (Nat.le_of_eq rfl) (by decide) (by decide) (by decide) (by decide) fun T v h5 X eh hv => ?_
    clear U
    obtain ⟨rfl, ar2, cap2, f2, U, Gr, hf, q22, Kp⟩ := hv
    have hs2 : 2 + 1 ≤ cap2 := by rcases Gr with ⟨q1, -, q2⟩ | ⟨q1, -, q2⟩ <;> omega
    have hc2 : cap2 ≤ 7 := by rcases Gr with ⟨-, -, q2⟩ | ⟨q1, -, q2⟩ <;> omega
    have ga2 : n0 ≤ ar2 := by rcases Gr with ⟨-, q1, -⟩ | ⟨-, q1, -⟩ <;> omega
    have Z5 : n0 ≤ h5.size := Nat.le_trans Z4 Kp.1
    have q20 : f2 0 = x2.toInt8.toInt32 := (hf 0 (by decide)).trans q10
    have q21 : f2 1 = x3.toInt8.toInt32 := (hf 1 (by decide)).trans q11
    refine g_iload K X 63 at_61 rfl rfl ?_
    refine g_iconst K X (3 : Int32) 64 at_63 rfl rfl ?_
    refine g_icmpT K X 74 at_64 rfl (show ¬ ((3 : Int32)) < (Int32.ofNat 3) from (by decide)) ?_
    refine g_aload K X 76 at_74 rfl rfl rfl ?_
    refine g_virtual K X eh rfl (met_cp l Z a0 hw g ar2 cap2 3 f2 hc2 hs2 h5 n0 Z5 U) (hw _ (List.mem_of_getElem? (i := 47) rfl)) (hw _ (List.mem_of_getElem? (i := 48) rfl)) (hw _ (List.mem_of_getElem? (i := 50) rfl)) (hw _ (List.mem_of_getElem? (i := 49) rfl)) (hw _ (List.mem_of_getElem? (i := 51) rfl)) (hw _ (List.mem_of_getElem? (i := 3) rfl)) (by decide) U.1 [] rfl rfl (lenOf pd_4 rfl) 79 at_76 rfl 0 (Nat.le_of_eq rfl) (by decide) (by decide) (by decide) (by decide) fun T v h7 X eh hv => ?_
    obtain ⟨r, rfl, gr, B, EB, K7⟩ := hv
    have ner : g ≠ r := ne_of_new U.lg gr
    have nea : ar2 ≠ r := ne_of_new U.la gr
    replace U := U.keep K7 nin0 nin0
    have Z7 : n0 ≤ h7.size := Nat.le_trans Z5 K7.1
    have gr0 : n0 ≤ r := Nat.le_trans Z5 gr
    refine g_astore K X 81 #[.val (.int x0), .val (.int x1), .val (.int x2), .val (.int x3), .val (.int x4), .val (.int x5), .val (.int (Int32.ofNat cap)), .val (.int (Int32.ofNat 3)), .val (.ref g), .val (.ref r), .unset] at_79 rfl rfl rfl ?_
    refine g_aload K X 83 at_81 rfl rfl rfl ?_
    refine g_iload K X 85 at_83 rfl rfl ?_
    refine g_iloadN K X 86 at_85 rfl rfl ?_
    refine g_iloadN K X 87 at_86 rfl rfl ?_
    refine g_iload K X 89 at_87 rfl rfl ?_
    refine g_iload K X 91 at_89 rfl rfl ?_
    refine g_static K X eh rfl (met_ho3 l Z a0 hw r f2 x2 x3 x4 x5 h7 n0 B q20 q21 q22) (hw _ (List.mem_of_getElem? (i := 52) rfl)) (hw _ (List.mem_of_getElem? (i := 53) rfl)) (hw _ (List.mem_of_getElem? (i := 55) rfl)) (hw _ (List.mem_of_getElem? (i := 54) rfl)) (by decide) [.ref r, .int (Int32.ofNat 3), .int x2, .int x3, .int x4, .int x5] rfl rfl (lenOf pd_5 rfl) 94 at_91 rfl 0 (Nat.le_of_eq rfl) (by decide) (by decide) (by decide) (by decide) fun T v h' X eh hv => ?_
    obtain ⟨rfl, rfl⟩ := hv
    refine g_ifT K X 99 at_94 rfl (show ¬ ((1 : Int32)) = 0 from (by decide)) ?_
    refine g_iload K X 101 at_99 rfl rfl ?_
    refine g_ifF K X 104 at_101 rfl (show ¬ (¬ 0 < (Int32.ofNat 3)) from (by decide)) ?_
    refine g_aload K X 106 at_104 rfl rfl rfl ?_
    refine g_iconst K X (0 : Int32) 107 at_106 rfl rfl ?_
    refine g_aload K X 109 at_107 rfl rfl rfl ?_
    refine g_iconst K X (0 : Int32) 110 at_109 rfl rfl ?_
    refine g_baload K X eh B.1 0 rfl (by decide) (f2 0) rfl 111 at_110 rfl ?_
    refine g_iconst K X (1 : Int32) 112 at_111 rfl rfl ?_
    refine g_ixor K X 113 at_112 rfl ?_
    refine g_i2b K X 114 at_113 rfl ?_
    refine g_bastore K X eh B.1 0 rfl (by decide) (((f2 0) ^^^ ((1 : Int32))).toInt8.toInt32) (own_bb _) gr0 115 at_114 rfl fun T h8 X eh W8 A8 => ?_
    replace U := U.other W8 ner nea
    have lr : r < h8.size := A8.lt
    have Z8 : n0 ≤ h8.size := by rw [W8.size]; exact Z7
    refine g_aload K X 117 at_115 rfl rfl rfl ?_
    refine g_virtual K X eh rfl (met_cp l Z a0 hw g ar2 cap2 3 f2 hc2 hs2 h8 n0 Z8 U) (hw _ (List.mem_of_getElem? (i := 47) rfl)) (hw _ (List.mem_of_getElem? (i := 48) rfl)) (hw _ (List.mem_of_getElem? (i := 50) rfl)) (hw _ (List.mem_of_getElem? (i := 49) rfl)) (hw _ (List.mem_of_getElem? (i := 51) rfl)) (hw _ (List.mem_of_getElem? (i := 3) rfl)) (by decide) U.1 [] rfl rfl (lenOf pd_4 rfl) 120 at_117 rfl 0 (Nat.le_of_eq rfl) (by decide) (by decide) (by decide) (by decide) fun T v h9 X eh hv => ?_
    obtain ⟨t, rfl, gt, B9, EB9, K9⟩ := hv
    replace U := U.keep K9 nin0 nin0
    have htr : t ≠ r := fun q => absurd lr (by rw [← q]; exact Nat.not_lt.mpr gt)
    refine g_astore K X 122 #[.val (.int x0), .val (.int x1), .val (.int x2), .val (.int x3), .val (.int x4), .val (.int x5), .val (.int (Int32.ofNat cap)), .val (.int (Int32.ofNat 3)), .val (.ref g), .val (.ref r), .val (.ref t)] at_120 rfl rfl rfl ?_
    refine g_aload K X 124 at_122 rfl rfl rfl ?_
    refine g_aload K X 126 at_124 rfl rfl rfl ?_
    refine g_acmpT K X 131 at_126 rfl rfl rfl (by simp [acV, htr]) ?_
    refine g_aload K X 133 at_131 rfl rfl rfl ?_
    refine g_iload K X 135 at_133 rfl rfl ?_
    refine g_iloadN K X 136 at_135 rfl rfl ?_
    refine g_iloadN K X 137 at_136 rfl rfl ?_
    refine g_iload K X 139 at_137 rfl rfl ?_
    refine g_iload K X 141 at_139 rfl rfl ?_
    refine g_static K X eh rfl (met_ho3 l Z a0 hw t f2 x2 x3 x4 x5 h9 n0 B9 q20 q21 q22) (hw _ (List.mem_of_getElem? (i := 52) rfl)) (hw _ (List.mem_of_getElem? (i := 53) rfl)) (hw _ (List.mem_of_getElem? (i := 55) rfl)) (hw _ (List.mem_of_getElem? (i := 54) rfl)) (by decide) [.ref t, .int (Int32.ofNat 3), .int x2, .int x3, .int x4, .int x5] rfl rfl (lenOf pd_5 rfl) 144 at_141 rfl 0 (Nat.le_of_eq rfl) (by decide) (by decide) (by decide) (by decide) fun T v h' X eh hv => ?_
    obtain ⟨rfl, rfl⟩ := hv
    refine g_ifT K X 149 at_144 rfl (show ¬ ((1 : Int32)) = 0 from (by decide)) ?_
    refine g_aload K X 151 at_149 rfl rfl rfl ?_
    refine g_virtual K X eh rfl (met_sz l Z a0 hw g ar2 cap2 3 f2 h9 n0 U) (hw _ (List.mem_of_getElem? (i := 56) rfl)) (hw _ (List.mem_of_getElem? (i := 57) rfl)) (hw _ (List.mem_of_getElem? (i := 59) rfl)) (hw _ (List.mem_of_getElem? (i := 58) rfl)) (hw _ (List.mem_of_getElem? (i := 60) rfl)) (hw _ (List.mem_of_getElem? (i := 3) rfl)) (by decide) U.1 [] rfl rfl (lenOf pd_6 rfl) 154 at_151 rfl 0 (Nat.le_of_eq rfl) (by decide) (by decide) (by decide) (by decide) fun T v h' X eh hv => ?_
    obtain ⟨rfl, rfl⟩ := hv
    refine g_iload K X 156 at_154 rfl rfl ?_
    refine g_icmpF K X 159 at_156 rfl (show ¬ (¬ (Int32.ofNat 3) = (Int32.ofNat 3)) from (fun q => q rfl)) ?_
    refine g_iconst K X (1 : Int32) 160 at_159 rfl rfl ?_
    refine g_goto K X 164 at_160 rfl ?_
    exact g_retN K X eh rfl (t := .boolean) (by simp) ((1 : Int32)) rfl at_164 (by decide) (by decide) rfl
  | 4, _ =>
    refine g_ifF K X 30 at_27 rfl (show ¬ (¬ 0 < (Int32.ofNat 4)) from (by decide)) ?_
    refine g_aload K X 32 at_30 rfl rfl rfl ?_
    refine g_iloadN K X 33 at_32 rfl rfl ?_
    refine g_virtual K X eh rfl (met_wr l Z a0 hw g ar cap 0 (fun _ => 0) x2 hcap (Nat.zero_le _) (by decide) h2 n0 Z2 gg ga U) (hw _ (List.mem_of_getElem? (i := 18) rfl)) (hw _ (List.mem_of_getElem? (i := 19) rfl)) (hw _ (List.mem_of_getElem? (i := 21) rfl)) (hw _ (List.mem_of_getElem? (i := 20) rfl)) (hw _ (List.mem_of_getElem? (i := 22) rfl)) (hw _ (List.mem_of_getElem? (i := 3) rfl)) (by decide) U.1 [.int x2] rfl rfl (lenOf pd_3 rfl) 36 at_33 rfl 0 (Nat.le_of_eq rfl) (by decide) (by decide) (by decide) (by decide) fun T v h3 X eh hv => ?_
    clear U
    obtain ⟨rfl, ar0, cap0, f0, U, Gr, hf, q00, Kp⟩ := hv
    have hs0 : 0 + 1 ≤ cap0 := by rcases Gr with ⟨q1, -, q2⟩ | ⟨q1, -, q2⟩ <;> omega
    have hc0 : cap0 ≤ 7 := by rcases Gr with ⟨-, -, q2⟩ | ⟨q1, -, q2⟩ <;> omega
    have ga0 : n0 ≤ ar0 := by rcases Gr with ⟨-, q1, -⟩ | ⟨-, q1, -⟩ <;> omega
    have Z3 : n0 ≤ h3.size := Nat.le_trans Z2 Kp.1
    refine g_iload K X 38 at_36 rfl rfl ?_
    refine g_iconst K X (1 : Int32) 39 at_38 rfl rfl ?_
    refine g_icmpF K X 42 at_39 rfl (show ¬ (¬ ((1 : Int32)) < (Int32.ofNat 4)) from (by decide)) ?_
    refine g_aload K X 44 at_42 rfl rfl rfl ?_
    refine g_iloadN K X 45 at_44 rfl rfl ?_
    refine g_virtual K X eh rfl (met_wr l Z a0 hw g ar0 cap0 1 f0 x3 hc0 hs0 (by decide) h3 n0 Z3 gg ga0 U) (hw _ (List.mem_of_getElem? (i := 18) rfl)) (hw _ (List.mem_of_getElem? (i := 19) rfl)) (hw _ (List.mem_of_getElem? (i := 21) rfl)) (hw _ (List.mem_of_getElem? (i := 20) rfl)) (hw _ (List.mem_of_getElem? (i := 22) rfl)) (hw _ (List.mem_of_getElem? (i := 3) rfl)) (by decide) U.1 [.int x3] rfl rfl (lenOf pd_3 rfl) 48 at_45 rfl 0 (Nat.le_of_eq rfl) (by decide) (by decide) (by decide) (by decide) fun T v h4 X eh hv => ?_
    clear U
    obtain ⟨rfl, ar1, cap1, f1, U, Gr, hf, q11, Kp⟩ := hv
    have hs1 : 1 + 1 ≤ cap1 := by rcases Gr with ⟨q1, -, q2⟩ | ⟨q1, -, q2⟩ <;> omega
    have hc1 : cap1 ≤ 7 := by rcases Gr with ⟨-, -, q2⟩ | ⟨q1, -, q2⟩ <;> omega
    have ga1 : n0 ≤ ar1 := by rcases Gr with ⟨-, q1, -⟩ | ⟨-, q1, -⟩ <;> omega
    have Z4 : n0 ≤ h4.size := Nat.le_trans Z3 Kp.1
    have q10 : f1 0 = x2.toInt8.toInt32 := (hf 0 (by decide)).trans q00
    refine g_iload K X 50 at_48 rfl rfl ?_
    refine g_iconst K X (2 : Int32) 51 at_50 rfl rfl ?_
    refine g_icmpF K X 54 at_51 rfl (show ¬ (¬ ((2 : Int32)) < (Int32.ofNat 4)) from (by decide)) ?_
    refine g_aload K X 56 at_54 rfl rfl rfl ?_
    refine g_iload K X 58 at_56 rfl rfl ?_
    refine g_virtual K X eh rfl (met_wr l Z a0 hw g ar1 cap1 2 f1 x4 hc1 hs1 (by decide) h4 n0 Z4 gg ga1 U) (hw _ (List.mem_of_getElem? (i := 18) rfl)) (hw _ (List.mem_of_getElem? (i := 19) rfl)) (hw _ (List.mem_of_getElem? (i := 21) rfl)) (hw _ (List.mem_of_getElem? (i := 20) rfl)) (hw _ (List.mem_of_getElem? (i := 22) rfl)) (hw _ (List.mem_of_getElem? (i := 3) rfl)) (by decide) U.1 [.int x4] rfl rfl (lenOf pd_3 rfl) 61 at_58 rfl 0 (Nat.le_of_eq rfl) (by decide) (by decide) (by decide) (by decide) fun T v h5 X eh hv => ?_
    clear U
    obtain ⟨rfl, ar2, cap2, f2, U, Gr, hf, q22, Kp⟩ := hv
    have hs2 : 2 + 1 ≤ cap2 := by rcases Gr with ⟨q1, -, q2⟩ | ⟨q1, -, q2⟩ <;> omega
    have hc2 : cap2 ≤ 7 := by rcases Gr with ⟨-, -, q2⟩ | ⟨q1, -, q2⟩ <;> omega
    have ga2 : n0 ≤ ar2 := by rcases Gr with ⟨-, q1, -⟩ | ⟨-, q1, -⟩ <;> omega
    have Z5 : n0 ≤ h5.size := Nat.le_trans Z4 Kp.1
    have q20 : f2 0 = x2.toInt8.toInt32 := (hf 0 (by decide)).trans q10
    have q21 : f2 1 = x3.toInt8.toInt32 := (hf 1 (by decide)).trans q11
    refine g_iload K X 63 at_61 rfl rfl ?_
    refine g_iconst K X (3 : Int32) 64 at_63 rfl rfl ?_
    refine g_icmpF K X 67 at_64 rfl (show ¬ (¬ ((3 : Int32)) < (Int32.ofNat 4)) from (by decide)) ?_
    refine g_aload K X 69 at_67 rfl rfl rfl ?_
    refine g_iload K X 71 at_69 rfl rfl ?_
    refine g_virtual K X eh rfl (met_wr l Z a0 hw g ar2 cap2 3 f2 x5 hc2 hs2 (by decide) h5 n0 Z5 gg ga2 U) (hw _ (List.mem_of_getElem? (i := 18) rfl)) (hw _ (List.mem_of_getElem? (i := 19) rfl)) (hw _ (List.mem_of_getElem? (i := 21) rfl)) (hw _ (List.mem_of_getElem? (i := 20) rfl)) (hw _ (List.mem_of_getElem? (i := 22) rfl)) (hw _ (List.mem_of_getElem? (i := 3) rfl)) (by decide) U.1 [.int x5] rfl rfl (lenOf pd_3 rfl) 74 at_71 rfl 0 (Nat.le_of_eq rfl) (by decide) (by decide) (by decide) (by decide) fun T v h6 X eh hv => ?_
    clear U
    obtain ⟨rfl, ar3, cap3, f3, U, Gr, hf, q33, Kp⟩ := hv
    have hs3 : 3 + 1 ≤ cap3 := by rcases Gr with ⟨q1, -, q2⟩ | ⟨q1, -, q2⟩ <;> omega
    have hc3 : cap3 ≤ 7 := by rcases Gr with ⟨-, -, q2⟩ | ⟨q1, -, q2⟩ <;> omega
    have ga3 : n0 ≤ ar3 := by rcases Gr with ⟨-, q1, -⟩ | ⟨-, q1, -⟩ <;> omega
    have Z6 : n0 ≤ h6.size := Nat.le_trans Z5 Kp.1
    have q30 : f3 0 = x2.toInt8.toInt32 := (hf 0 (by decide)).trans q20
    have q31 : f3 1 = x3.toInt8.toInt32 := (hf 1 (by decide)).trans q21
    have q32 : f3 2 = x4.toInt8.toInt32 := (hf 2 (by decide)).trans q22
    refine g_aload K X 76 at_74 rfl rfl rfl ?_
    refine g_virtual K X eh rfl (met_cp l Z a0 hw g ar3 cap3 4 f3 hc3 hs3 h6 n0 Z6 U) (hw _ (List.mem_of_getElem? (i := 47) rfl)) (hw _ (List.mem_of_getElem? (i := 48) rfl)) (hw _ (List.mem_of_getElem? (i := 50) rfl)) (hw _ (List.mem_of_getElem? (i := 49) rfl)) (hw _ (List.mem_of_getElem? (i := 51) rfl)) (hw _ (List.mem_of_getElem? (i := 3) rfl)) (by decide) U.1 [] rfl rfl (lenOf pd_4 rfl) 79 at_76 rfl 0 (Nat.le_of_eq rfl) (by decide) (by decide) (by decide) (by decide) fun T v h7 X eh hv => ?_
    obtain ⟨r, rfl, gr, B, EB, K7⟩ := hv
    have ner : g ≠ r := ne_of_new U.lg gr
    have nea : ar3 ≠ r := ne_of_new U.la gr
    replace U := U.keep K7 nin0 nin0
    have Z7 : n0 ≤ h7.size := Nat.le_trans Z6 K7.1
    have gr0 : n0 ≤ r := Nat.le_trans Z6 gr
    refine g_astore K X 81 #[.val (.int x0), .val (.int x1), .val (.int x2), .val (.int x3), .val (.int x4), .val (.int x5), .val (.int (Int32.ofNat cap)), .val (.int (Int32.ofNat 4)), .val (.ref g), .val (.ref r), .unset] at_79 rfl rfl rfl ?_
    refine g_aload K X 83 at_81 rfl rfl rfl ?_
    refine g_iload K X 85 at_83 rfl rfl ?_
    refine g_iloadN K X 86 at_85 rfl rfl ?_
    refine g_iloadN K X 87 at_86 rfl rfl ?_
    refine g_iload K X 89 at_87 rfl rfl ?_
    refine g_iload K X 91 at_89 rfl rfl ?_
    refine g_static K X eh rfl (met_ho4 l Z a0 hw r f3 x2 x3 x4 x5 h7 n0 B q30 q31 q32 q33) (hw _ (List.mem_of_getElem? (i := 52) rfl)) (hw _ (List.mem_of_getElem? (i := 53) rfl)) (hw _ (List.mem_of_getElem? (i := 55) rfl)) (hw _ (List.mem_of_getElem? (i := 54) rfl)) (by decide) [.ref r, .int (Int32.ofNat 4), .int x2, .int x3, .int x4, .int x5] rfl rfl (lenOf pd_5 rfl) 94 at_91 rfl 0 (Nat.le_of_eq rfl) (by decide) (by decide) (by decide) (by decide) fun T v h' X eh hv => ?_
    obtain ⟨rfl, rfl⟩ := hv
    refine g_ifT K X 99 at_94 rfl (show ¬ ((1 : Int32)) = 0 from (by decide)) ?_
    refine g_iload K X 101 at_99 rfl rfl ?_
    refine g_ifF K X 104 at_101 rfl (show ¬ (¬ 0 < (Int32.ofNat 4)) from (by decide)) ?_
    refine g_aload K X 106 at_104 rfl rfl rfl ?_
    refine g_iconst K X (0 : Int32) 107 at_106 rfl rfl ?_
    refine g_aload K X 109 at_107 rfl rfl rfl ?_
    refine g_iconst K X (0 : Int32) 110 at_109 rfl rfl ?_
    refine g_baload K X eh B.1 0 rfl (by decide) (f3 0) rfl 111 at_110 rfl ?_
    refine g_iconst K X (1 : Int32) 112 at_111 rfl rfl ?_
    refine g_ixor K X 113 at_112 rfl ?_
    refine g_i2b K X 114 at_113 rfl ?_
    refine g_bastore K X eh B.1 0 rfl (by decide) (((f3 0) ^^^ ((1 : Int32))).toInt8.toInt32) (own_bb _) gr0 115 at_114 rfl fun T h8 X eh W8 A8 => ?_
    replace U := U.other W8 ner nea
    have lr : r < h8.size := A8.lt
    have Z8 : n0 ≤ h8.size := by rw [W8.size]; exact Z7
    refine g_aload K X 117 at_115 rfl rfl rfl ?_
    refine g_virtual K X eh rfl (met_cp l Z a0 hw g ar3 cap3 4 f3 hc3 hs3 h8 n0 Z8 U) (hw _ (List.mem_of_getElem? (i := 47) rfl)) (hw _ (List.mem_of_getElem? (i := 48) rfl)) (hw _ (List.mem_of_getElem? (i := 50) rfl)) (hw _ (List.mem_of_getElem? (i := 49) rfl)) (hw _ (List.mem_of_getElem? (i := 51) rfl)) (hw _ (List.mem_of_getElem? (i := 3) rfl)) (by decide) U.1 [] rfl rfl (lenOf pd_4 rfl) 120 at_117 rfl 0 (Nat.le_of_eq rfl) (by decide) (by decide) (by decide) (by decide) fun T v h9 X eh hv => ?_
    obtain ⟨t, rfl, gt, B9, EB9, K9⟩ := hv
    replace U := U.keep K9 nin0 nin0
    have htr : t ≠ r := fun q => absurd lr (by rw [← q]; exact Nat.not_lt.mpr gt)
    refine g_astore K X 122 #[.val (.int x0), .val (.int x1), .val (.int x2), .val (.int x3), .val (.int x4), .val (.int x5), .val (.int (Int32.ofNat cap)), .val (.int (Int32.ofNat 4)), .val (.ref g), .val (.ref r), .val (.ref t)] at_120 rfl rfl rfl ?_
    refine g_aload K X 124 at_122 rfl rfl rfl ?_
    refine g_aload K X 126 at_124 rfl rfl rfl ?_
    refine g_acmpT K X 131 at_126 rfl rfl rfl (by simp [acV, htr]) ?_
    refine g_aload K X 133 at_131 rfl rfl rfl ?_
    refine g_iload K X 135 at_133 rfl rfl ?_
    refine g_iloadN K X 136 at_135 rfl rfl ?_
    refine g_iloadN K X 137 at_136 rfl rfl ?_
    refine g_iload K X 139 at_137 rfl rfl ?_
    refine g_iload K X 141 at_139 rfl rfl ?_
    refine g_static K X eh rfl (met_ho4 l Z a0 hw t f3 x2 x3 x4 x5 h9 n0 B9 q30 q31 q32 q33) (hw _ (List.mem_of_getElem? (i := 52) rfl)) (hw _ (List.mem_of_getElem? (i := 53) rfl)) (hw _ (List.mem_of_getElem? (i := 55) rfl)) (hw _ (List.mem_of_getElem? (i := 54) rfl)) (by decide) [.ref t, .int (Int32.ofNat 4), .int x2, .int x3, .int x4, .int x5] rfl rfl (lenOf pd_5 rfl) 144 at_141 rfl 0 (Nat.le_of_eq rfl) (by decide) (by decide) (by decide) (by decide) fun T v h' X eh hv => ?_
    obtain ⟨rfl, rfl⟩ := hv
    refine g_ifT K X 149 at_144 rfl (show ¬ ((1 : Int32)) = 0 from (by decide)) ?_
    refine g_aload K X 151 at_149 rfl rfl rfl ?_
    refine g_virtual K X eh rfl (met_sz l Z a0 hw g ar3 cap3 4 f3 h9 n0 U) (hw _ (List.mem_of_getElem? (i := 56) rfl)) (hw _ (List.mem_of_getElem? (i := 57) rfl)) (hw _ (List.mem_of_getElem? (i := 59) rfl)) (hw _ (List.mem_of_getElem? (i := 58) rfl)) (hw _ (List.mem_of_getElem? (i := 60) rfl)) (hw _ (List.mem_of_getElem? (i := 3) rfl)) (by decide) U.1 [] rfl rfl (lenOf pd_6 rfl) 154 at_151 rfl 0 (Nat.le_of_eq rfl) (by decide) (by decide) (by decide) (by decide) fun T v h' X eh hv => ?_
    obtain ⟨rfl, rfl⟩ := hv
    refine g_iload K X 156 at_154 rfl rfl ?_
    refine g_icmpF K X 159 at_156 rfl (show ¬ (¬ (Int32.ofNat 4) = (Int32.ofNat 4)) from (fun q => q rfl)) ?_
    refine g_iconst K X (1 : Int32) 160 at_159 rfl rfl ?_
    refine g_goto K X 164 at_160 rfl ?_
    exact g_retN K X eh rfl (t := .boolean) (by simp) ((1 : Int32)) rfl at_164 (by decide) (by decide) rfl
set_option maxRecDepth 65536 in
set_option maxHeartbeats 40000000 in
theorem comes_1 {Post : Tables → Env → Array Value → State → Outcome → State → Prop} (hpost : ∀ tb e args s v u, (limb_1_1.after args s (.returned v) u = true ∧ limb_1_2.after args s (.returned v) u = true ∧ True) → FrameEnd s (.returned v) u (Jvm.fieldLocs frame_1_writes args s ++ Jvm.arrayLocs frame_1_arrays args s ++ Jvm.staticLocs frame_1_statics s) 24 128 → Post tb e args s (.returned v) u) :
    ArmFor flags0 classFile x code maxLocals ret World_1 tables_1 room_1 Calls_1 rest_1 Pre_1 Post := by
  intro l hfl _ _ p e ha hc hk s m args below hf hA hF happ hP
  obtain ⟨hcalls, hrest, hpre⟩ := hP
  obtain ⟨-, -, -, hnamed, -, -, -, hat⟩ := (Spec.applies_iff hf).mp happ
  obtain ⟨hg, hn⟩ := and_e (Cond.before_iff.mp (show (Jvm.Cond.and given_1 narrow_1).before args s = true from hpre))
  obtain ⟨h1, h2⟩ := and_e hg
  obtain ⟨w0, w1, w2, w3, w4, w5, rfl⟩ : ∃ w0 w1 w2 w3 w4 w5 : Value, args = #[w0, w1, w2, w3, w4, w5] := by
    have hs : args.size = 6 := by simpa [Cond.value, given_1] using h1
    obtain ⟨L⟩ := args
    match L, hs with
    | [w0, w1, w2, w3, w4, w5], _ => exact ⟨w0, w1, w2, w3, w4, w5, rfl⟩
  have hw := fun d (hd : d ∈ tables_1) => atoms_spec (ws := Jvm.Cond.code x code maxLocals ret :: tables_1) hat d (List.mem_cons_of_mem _ hd)
  obtain ⟨g0, r0⟩ := and_e h2
  obtain ⟨i0, e0⟩ := is_v g0
  obtain rfl : w0 = (.int i0) := Option.some.inj e0
  obtain ⟨g1, r1⟩ := and_e r0
  obtain ⟨i1, e1⟩ := is_v g1
  obtain rfl : w1 = (.int i1) := Option.some.inj e1
  obtain ⟨g2, r2⟩ := and_e r1
  obtain ⟨i2, e2⟩ := is_v g2
  obtain rfl : w2 = (.int i2) := Option.some.inj e2
  obtain ⟨g3, r3⟩ := and_e r2
  obtain ⟨i3, e3⟩ := is_v g3
  obtain rfl : w3 = (.int i3) := Option.some.inj e3
  obtain ⟨g4, r4⟩ := and_e r3
  obtain ⟨i4, e4⟩ := is_v g4
  obtain rfl : w4 = (.int i4) := Option.some.inj e4
  obtain ⟨i5, e5⟩ := is_v r4
  obtain rfl : w5 = (.int i5) := Option.some.inj e5
  obtain ⟨n, o, h1, h2, h3, _, L, rfl, ⟨rfl, N⟩, hq⟩ := met_law l s _ hw i0 i1 i2 i3 i4 i5 s.heap s.heap.size (Nat.le_refl _) p e ha hc hk s m _ below hf ((Spec.applies_iff_loose hf).mp happ).1 ⟨rfl, State.Warmed39.refl s, rfl⟩ trivial
  refine ⟨n, _, h1, h2, h3, hpost _ _ _ _ _ _ ⟨Cond.after_iff.mpr rfl, Cond.after_iff.mpr (eq_i res_at (Term.int_eval (1)) rfl), trivial⟩ ⟨hq.1, hq.2.1, (hq.2.2.sift fun y hy => Or.inr (N y hy)).mono (by decide) (by decide)⟩⟩
theorem main_1_1 : Claimed_1_1 := comes_1 fun _ _ _ _ _ _ h hF => ⟨h.1, hF⟩
theorem main_1_2 : Claimed_1_2 := comes_1 fun _ _ _ _ _ _ h hF => ⟨h.2.1, hF⟩
end Jvm.Pilot.@@N@@
namespace Jvm.Pilot.@@N@@
open Jvm Jvm.ClassFile Sem Op Lib Jvm.Free Jvm.Stand Jvm.Pilot.@@N@@.Jvm.D
/-! MADE BY PROGRAM (witnessworld.py) out of the Statement's table words and the real class files: 16 classes; the members and pool entries that the words name. The judged class is class 1, her method 2. -/
namespace start1
open Jvm.ClassFile
def u (s : String) : CpInfo := .utf8 (stringToUtf16 s)
/-- a pool by its gaps: so many unusable entries, then the entry; so many at the end -/
def gap : Nat → List CpInfo → List CpInfo
  | 0, r => r
  | n + 1, r => .unusable :: gap n r
def poolList (es : List (Nat × CpInfo)) (last : Nat) : List CpInfo := es.foldr (fun e r => gap e.1 (e.2 :: r)) (gap last [])
def pool (es : List (Nat × CpInfo)) (last : Nat) : Array CpInfo := ⟨poolList es last⟩
def fileOf (pool : Array CpInfo) (this : Nat) (attrs : Array Attribute := #[]) (ms : Array MethodInfo := #[]) (fl : Nat := 33) (sup : Nat := 0) (ifs : Array Nat := #[]) (fds : Array FieldInfo := #[]) : ClassFile where
  minorVersion := 0
  majorVersion := 65
  constantPool := pool
  accessFlags := fl
  thisClass := this
  superClass := sup
  interfaces := ifs
  fields := fds
  methods := ms
  attributes := attrs
def plain (name : String) (sup : Option ClassId) : Class where
  name := name
  kind := .ordinary
  loader := none
  accessFlags := 33
  super := sup
  interfaces := #[]
  cf := none
  fields := #[]
  methods := #[]
  instanceTypes := #[]
  staticTypes := #[]
  resolved := #[]
  callSites := []
  init := .initialized
  statics := none
  mirror := none

def pool0 : Array CpInfo := pool [(5, u "<init>"), (0, u "()V"), (1, .class_ 10), (1, u "java/lang/Object"), (85, u "clone"), (0, u "()Ljava/lang/Object;")] 26

def k0c0 : Code := { maxStack := 0, maxLocals := 1, code := object_method_1_code, exceptionTable := #[], attributes := #[] }
def k0m0 : Method := { name := "<init>", desc := "()V", sig := { parameters := [], returnType := none }, accessFlags := 1, code := some k0c0 }
def k0m1 : Method := { name := "clone", desc := "()Ljava/lang/Object;", sig := { parameters := [], returnType := some (.object "java/lang/Object") }, accessFlags := 260, code := none }
/-- java/lang/Object -/
def k0 : Class := { plain "java/lang/Object" none with
  accessFlags := 33
  interfaces := #[]
  cf := some (fileOf pool0 8 #[] #[{ accessFlags := 1, nameIndex := 5, descriptorIndex := 6, attributes := #[] }, { accessFlags := 260, nameIndex := 96, descriptorIndex := 97, attributes := #[] }] 33 0 #[] #[])
  fields := #[]
  methods := #[k0m0, k0m1]
  instanceTypes := #[]
  staticTypes := #[]
  resolved := Array.replicate 124 none
  statics := none }

def pool1 : Array CpInfo := pool [(2, .class_ 4), (1, u "java/lang/Object"), (0, u "<init>"), (0, u "()V"), (0, .integer 2147483647), (0, .class_ 9), (0, u "com/example/millrace/millrace/GrowingBytes"), (0, .methodref 8 11), (0, .nameAndType 5 12), (0, u "(I)V"), (0, .methodref 8 14), (0, .nameAndType 15 12), (0, u "write"), (0, .methodref 8 17), (0, .nameAndType 18 19), (0, u "copy"), (0, u "()[B"), (0, .methodref 21 22), (0, .class_ 23), (0, .nameAndType 24 25), (0, u "com/example/millrace/millrace/GrowingBytesCopyPinLaw"), (0, u "holds"), (0, u "([BIIIII)Z"), (0, .methodref 8 27), (0, .nameAndType 28 29), (0, u "size"), (0, u "()I"), (3, u "law"), (0, u "(IIIIII)Z")] 4

def k1m0 : Method := { name := "<init>", desc := "()V", sig := { parameters := [], returnType := none }, accessFlags := 2, code := none }
def k1c1 : Code := { maxStack := 2, maxLocals := 6, code := method_2_code, exceptionTable := #[], attributes := #[] }
def k1m1 : Method := { name := "holds", desc := "([BIIIII)Z", sig := { parameters := [(.array .byte), .int, .int, .int, .int, .int], returnType := some .boolean }, accessFlags := 10, code := some k1c1 }
def k1c2 : Code := { maxStack := 6, maxLocals := 11, code := code, exceptionTable := #[], attributes := #[] }
def k1m2 : Method := { name := "law", desc := "(IIIIII)Z", sig := { parameters := [.int, .int, .int, .int, .int, .int], returnType := some .boolean }, accessFlags := 9, code := some k1c2 }
/-- com/example/millrace/millrace/GrowingBytesCopyPinLaw -/
def k1 : Class := { plain "com/example/millrace/millrace/GrowingBytesCopyPinLaw" (some 0) with
  accessFlags := 49
  interfaces := #[]
  cf := some (fileOf pool1 21 #[] #[{ accessFlags := 2, nameIndex := 5, descriptorIndex := 6, attributes := #[] }, { accessFlags := 10, nameIndex := 24, descriptorIndex := 25, attributes := #[] }, { accessFlags := 9, nameIndex := 33, descriptorIndex := 34, attributes := #[] }] 49 2 #[] #[])
  fields := #[]
  methods := #[k1m0, k1m1, k1m2]
  instanceTypes := #[]
  staticTypes := #[]
  resolved := Array.replicate 39 none
  statics := none }

def pool2 : Array CpInfo := pool [(1, .class_ 2), (0, u "java/lang/AutoCloseable"), (0, .class_ 4), (0, u "java/lang/Object")] 7

/-- java/lang/AutoCloseable -/
def k2 : Class := { plain "java/lang/AutoCloseable" (some 0) with
  accessFlags := 1537
  interfaces := #[]
  cf := some (fileOf pool2 1 #[] #[] 1537 3 #[] #[])
  fields := #[]
  methods := #[]
  instanceTypes := #[]
  staticTypes := #[]
  resolved := Array.replicate 12 none
  statics := none }

def pool3 : Array CpInfo := pool [(1, .class_ 2), (0, u "java/io/Closeable"), (0, .class_ 4), (0, u "java/lang/Object"), (0, .class_ 6), (0, u "java/lang/AutoCloseable")] 7

/-- java/io/Closeable -/
def k3 : Class := { plain "java/io/Closeable" (some 0) with
  accessFlags := 1537
  interfaces := #[2]
  cf := some (fileOf pool3 1 #[] #[] 1537 3 #[5] #[])
  fields := #[]
  methods := #[]
  instanceTypes := #[]
  staticTypes := #[]
  resolved := Array.replicate 14 none
  statics := none }

def pool4 : Array CpInfo := pool [(1, .class_ 2), (0, u "java/io/Flushable"), (0, .class_ 4), (0, u "java/lang/Object")] 7

/-- java/io/Flushable -/
def k4 : Class := { plain "java/io/Flushable" (some 0) with
  accessFlags := 1537
  interfaces := #[]
  cf := some (fileOf pool4 1 #[] #[] 1537 3 #[] #[])
  fields := #[]
  methods := #[]
  instanceTypes := #[]
  staticTypes := #[]
  resolved := Array.replicate 12 none
  statics := none }

def pool5 : Array CpInfo := pool [(1, .methodref 2 3), (0, .class_ 4), (0, .nameAndType 5 6), (0, u "java/lang/Object"), (0, u "<init>"), (0, u "()V"), (0, .class_ 8), (0, u "java/io/OutputStream$1"), (2, .class_ 13), (1, u "java/io/OutputStream"), (11, .class_ 26), (0, u "java/io/Closeable"), (0, .class_ 28), (0, u "java/io/Flushable")] 24

def k5c0 : Code := { maxStack := 1, maxLocals := 1, code := jdk_2038_method_1_code, exceptionTable := #[], attributes := #[] }
def k5m0 : Method := { name := "<init>", desc := "()V", sig := { parameters := [], returnType := none }, accessFlags := 1, code := some k5c0 }
/-- java/io/OutputStream -/
def k5 : Class := { plain "java/io/OutputStream" (some 0) with
  accessFlags := 1057
  interfaces := #[3, 4]
  cf := some (fileOf pool5 11 #[.nestMembers #[7]] #[{ accessFlags := 1, nameIndex := 5, descriptorIndex := 6, attributes := #[] }] 1057 2 #[25, 27] #[])
  fields := #[]
  methods := #[k5m0]
  instanceTypes := #[]
  staticTypes := #[]
  resolved := Array.replicate 53 none
  statics := none }

def pool6 : Array CpInfo := pool [(1, .methodref 2 3), (0, .class_ 4), (0, .nameAndType 5 6), (0, u "java/io/OutputStream"), (0, u "<init>"), (0, u "()V"), (0, .fieldref 8 9), (0, .class_ 10), (0, .nameAndType 11 12), (0, u "com/example/millrace/millrace/GrowingBytes"), (0, u "bytes"), (0, u "[B"), (0, .methodref 8 14), (0, .nameAndType 15 16), (0, u "makeRoom"), (0, u "(I)V"), (0, .fieldref 8 18), (0, .nameAndType 19 20), (0, u "size"), (0, u "I"), (10, u "INT"), (0, u "Ljava/lang/invoke/VarHandle;"), (10, u "LONG"), (8, u "()I"), (16, u "write"), (0, .methodref 71 72), (0, .class_ 73), (0, .nameAndType 74 75), (0, u "java/util/Arrays"), (0, u "copyOf"), (0, u "([BI)[B"), (0, .methodref 77 78), (0, .class_ 79), (0, .nameAndType 80 81), (0, u "java/lang/Math"), (0, u "addExact"), (0, u "(II)I"), (0, .methodref 77 83), (0, .nameAndType 84 81), (0, u "max"), (28, u "copy"), (0, u "()[B")] 5

def k6c0 : Code := { maxStack := 2, maxLocals := 2, code := prog_28_method_1_code, exceptionTable := #[], attributes := #[] }
def k6m0 : Method := { name := "<init>", desc := "(I)V", sig := { parameters := [.int], returnType := none }, accessFlags := 0, code := some k6c0 }
def k6c1 : Code := { maxStack := 5, maxLocals := 2, code := prog_28_method_2_code, exceptionTable := #[], attributes := #[] }
def k6m1 : Method := { name := "write", desc := "(I)V", sig := { parameters := [.int], returnType := none }, accessFlags := 1, code := some k6c1 }
def k6c2 : Code := { maxStack := 1, maxLocals := 1, code := prog_28_method_8_code, exceptionTable := #[], attributes := #[] }
def k6m2 : Method := { name := "size", desc := "()I", sig := { parameters := [], returnType := some .int }, accessFlags := 0, code := some k6c2 }
def k6c3 : Code := { maxStack := 2, maxLocals := 1, code := prog_28_method_11_code, exceptionTable := #[], attributes := #[] }
def k6m3 : Method := { name := "copy", desc := "()[B", sig := { parameters := [], returnType := some (.array .byte) }, accessFlags := 0, code := some k6c3 }
def k6c4 : Code := { maxStack := 5, maxLocals := 2, code := prog_28_method_13_code, exceptionTable := #[], attributes := #[] }
def k6m4 : Method := { name := "makeRoom", desc := "(I)V", sig := { parameters := [.int], returnType := none }, accessFlags := 2, code := some k6c4 }
/-- com/example/millrace/millrace/GrowingBytes -/
def k6 : Class := { plain "com/example/millrace/millrace/GrowingBytes" (some 5) with
  accessFlags := 48
  interfaces := #[]
  cf := some (fileOf pool6 8 #[] #[{ accessFlags := 0, nameIndex := 5, descriptorIndex := 16, attributes := #[] }, { accessFlags := 1, nameIndex := 69, descriptorIndex := 16, attributes := #[] }, { accessFlags := 0, nameIndex := 19, descriptorIndex := 52, attributes := #[] }, { accessFlags := 0, nameIndex := 113, descriptorIndex := 114, attributes := #[] }, { accessFlags := 2, nameIndex := 15, descriptorIndex := 16, attributes := #[] }] 48 2 #[] #[{ accessFlags := 26, nameIndex := 31, descriptorIndex := 32, attributes := #[] }, { accessFlags := 26, nameIndex := 43, descriptorIndex := 32, attributes := #[] }, { accessFlags := 2, nameIndex := 11, descriptorIndex := 12, attributes := #[] }, { accessFlags := 2, nameIndex := 19, descriptorIndex := 20, attributes := #[] }])
  fields := #[{ name := "INT", type := (.object "java/lang/invoke/VarHandle"), accessFlags := 26, slot := 0, constantValue := 0 }, { name := "LONG", type := (.object "java/lang/invoke/VarHandle"), accessFlags := 26, slot := 1, constantValue := 0 }, { name := "bytes", type := (.array .byte), accessFlags := 2, slot := 0, constantValue := 0 }, { name := "size", type := .int, accessFlags := 2, slot := 1, constantValue := 0 }]
  methods := #[k6m0, k6m1, k6m2, k6m3, k6m4]
  instanceTypes := #[(.array .byte), .int]
  staticTypes := #[(.object "java/lang/invoke/VarHandle"), (.object "java/lang/invoke/VarHandle")]
  resolved := Array.replicate 120 none
  statics := none }

def pool7 : Array CpInfo := pool [(1, .class_ 2), (0, u "java/lang/Math"), (1, .class_ 6), (1, u "java/lang/Object"), (0, u "<init>"), (0, u "()V"), (89, .class_ 100), (1, u "java/lang/Math$RandomNumberGeneratorHolder"), (71, u "negativeZeroFloatBits"), (0, u "J"), (2, u "negativeZeroDoubleBits"), (21, u "max"), (2, u "min"), (43, u "$assertionsDisabled"), (0, u "Z"), (88, u "(II)I"), (2, u "twoToTheDoubleScaleDown"), (0, u "D"), (4, u "twoToTheDoubleScaleUp"), (9, u "E"), (3, u "PI"), (2, u "TAU"), (2, u "DEGREES_TO_RADIANS"), (0, u "RADIANS_TO_DEGREES"), (27, u "addExact")] 66

def k7m0 : Method := { name := "<init>", desc := "()V", sig := { parameters := [], returnType := none }, accessFlags := 2, code := none }
def k7c1 : Code := { maxStack := 3, maxLocals := 3, code := jdk_29_method_24_code, exceptionTable := #[], attributes := #[] }
def k7m1 : Method := { name := "addExact", desc := "(II)I", sig := { parameters := [.int, .int], returnType := some .int }, accessFlags := 9, code := some k7c1 }
def k7c2 : Code := { maxStack := 2, maxLocals := 2, code := jdk_29_method_65_code, exceptionTable := #[], attributes := #[] }
def k7m2 : Method := { name := "max", desc := "(II)I", sig := { parameters := [.int, .int], returnType := some .int }, accessFlags := 9, code := some k7c2 }
def k7c3 : Code := { maxStack := 2, maxLocals := 2, code := jdk_29_method_69_code, exceptionTable := #[], attributes := #[] }
def k7m3 : Method := { name := "min", desc := "(II)I", sig := { parameters := [.int, .int], returnType := some .int }, accessFlags := 9, code := some k7c3 }
/-- java/lang/Math -/
def k7 : Class := { plain "java/lang/Math" (some 0) with
  accessFlags := 49
  interfaces := #[]
  cf := some (fileOf pool7 1 #[.nestMembers #[98]] #[{ accessFlags := 2, nameIndex := 7, descriptorIndex := 8, attributes := #[] }, { accessFlags := 9, nameIndex := 393, descriptorIndex := 335, attributes := #[] }, { accessFlags := 9, nameIndex := 198, descriptorIndex := 335, attributes := #[] }, { accessFlags := 9, nameIndex := 201, descriptorIndex := 335, attributes := #[] }] 49 4 #[] #[{ accessFlags := 25, nameIndex := 354, descriptorIndex := 339, attributes := #[] }, { accessFlags := 25, nameIndex := 358, descriptorIndex := 339, attributes := #[] }, { accessFlags := 25, nameIndex := 361, descriptorIndex := 339, attributes := #[] }, { accessFlags := 26, nameIndex := 364, descriptorIndex := 339, attributes := #[] }, { accessFlags := 26, nameIndex := 365, descriptorIndex := 339, attributes := #[] }, { accessFlags := 26, nameIndex := 172, descriptorIndex := 173, attributes := #[] }, { accessFlags := 26, nameIndex := 176, descriptorIndex := 173, attributes := #[] }, { accessFlags := 8, nameIndex := 344, descriptorIndex := 339, attributes := #[] }, { accessFlags := 8, nameIndex := 338, descriptorIndex := 339, attributes := #[] }, { accessFlags := 4120, nameIndex := 245, descriptorIndex := 246, attributes := #[] }])
  fields := #[{ name := "E", type := .double, accessFlags := 25, slot := 0, constantValue := 0 }, { name := "PI", type := .double, accessFlags := 25, slot := 1, constantValue := 0 }, { name := "TAU", type := .double, accessFlags := 25, slot := 2, constantValue := 0 }, { name := "DEGREES_TO_RADIANS", type := .double, accessFlags := 26, slot := 3, constantValue := 0 }, { name := "RADIANS_TO_DEGREES", type := .double, accessFlags := 26, slot := 4, constantValue := 0 }, { name := "negativeZeroFloatBits", type := .long, accessFlags := 26, slot := 5, constantValue := 0 }, { name := "negativeZeroDoubleBits", type := .long, accessFlags := 26, slot := 6, constantValue := 0 }, { name := "twoToTheDoubleScaleUp", type := .double, accessFlags := 8, slot := 7, constantValue := 0 }, { name := "twoToTheDoubleScaleDown", type := .double, accessFlags := 8, slot := 8, constantValue := 0 }, { name := "$assertionsDisabled", type := .boolean, accessFlags := 4120, slot := 9, constantValue := 0 }]
  methods := #[k7m0, k7m1, k7m2, k7m3]
  instanceTypes := #[]
  staticTypes := #[.double, .double, .double, .double, .double, .long, .long, .double, .double, .boolean]
  resolved := Array.replicate 460 none
  statics := none }

def pool8 : Array CpInfo := pool [(2, .class_ 4), (1, u "java/lang/Object"), (0, u "<init>"), (0, u "()V"), (7, .class_ 16), (1, u "java/util/Arrays"), (57, .class_ 76), (1, u "java/util/Arrays$NaturalOrder"), (32, u "()Ljava/lang/Object;"), (3, .class_ 115), (1, u "java/util/Arrays$LegacyMergeSort"), (1, u "Z"), (10, .nameAndType 129 109), (0, u "clone"), (20, .methodref 151 152), (0, .class_ 153), (0, .nameAndType 154 155), (0, u "java/lang/System"), (0, u "arraycopy"), (0, u "(Ljava/lang/Object;ILjava/lang/Object;II)V"), (146, u "copyOf"), (1, .methodref 305 306), (0, .class_ 307), (0, .nameAndType 308 309), (0, u "java/lang/Math"), (0, u "min"), (0, u "(II)I"), (0, .methodref 311 128), (0, .class_ 312), (0, u "[B"), (62, .class_ 376), (0, u "java/util/Arrays$ArrayList"), (68, u "$assertionsDisabled"), (269, u "MIN_ARRAY_SORT_GRAN"), (0, u "I"), (2, u "INSERTIONSORT_THRESHOLD"), (149, u "([BI)[B"), (105, .class_ 976), (0, u "java/util/Arrays$ArrayItr")] 52

def k8m0 : Method := { name := "<init>", desc := "()V", sig := { parameters := [], returnType := none }, accessFlags := 2, code := none }
def k8c1 : Code := { maxStack := 6, maxLocals := 3, code := jdk_65_method_121_code, exceptionTable := #[], attributes := #[] }
def k8m1 : Method := { name := "copyOf", desc := "([BI)[B", sig := { parameters := [(.array .byte), .int], returnType := some (.array .byte) }, accessFlags := 9, code := some k8c1 }
/-- java/util/Arrays -/
def k8 : Class := { plain "java/util/Arrays" (some 0) with
  accessFlags := 49
  interfaces := #[]
  cf := some (fileOf pool8 14 #[.nestMembers #[975, 375, 113, 74]] #[{ accessFlags := 2, nameIndex := 5, descriptorIndex := 6, attributes := #[] }, { accessFlags := 9, nameIndex := 302, descriptorIndex := 869, attributes := #[] }] 49 2 #[] #[{ accessFlags := 26, nameIndex := 715, descriptorIndex := 716, attributes := #[] }, { accessFlags := 26, nameIndex := 719, descriptorIndex := 716, attributes := #[] }, { accessFlags := 4120, nameIndex := 445, descriptorIndex := 117, attributes := #[] }])
  fields := #[{ name := "MIN_ARRAY_SORT_GRAN", type := .int, accessFlags := 26, slot := 0, constantValue := 0 }, { name := "INSERTIONSORT_THRESHOLD", type := .int, accessFlags := 26, slot := 1, constantValue := 0 }, { name := "$assertionsDisabled", type := .boolean, accessFlags := 4120, slot := 2, constantValue := 0 }]
  methods := #[k8m0, k8m1]
  instanceTypes := #[]
  staticTypes := #[.int, .int, .boolean]
  resolved := Array.replicate 1029 none
  statics := none }

def pool9 : Array CpInfo := pool [(2, .class_ 4), (1, u "java/lang/Object"), (0, u "<init>"), (0, u "()V"), (1, .class_ 10), (1, u "java/lang/System"), (0, u "allowSecurityManager"), (0, u "I"), (16, u "cons"), (0, u "Ljava/io/Console;"), (77, .class_ 110), (1, u "java/lang/System$CallersHolder"), (43, u "initialErrStream"), (0, u "Ljava/io/PrintStream;"), (19, u "security"), (0, u "Ljava/lang/SecurityManager;"), (31, .class_ 209), (0, u "java/lang/System$1"), (7, u "props"), (0, u "Ljava/util/Properties;"), (2, u "lineSeparator"), (0, u "Ljava/lang/String;"), (96, .class_ 321), (1, u "java/lang/System$LoggerFinder"), (5, .class_ 328), (0, u "java/lang/System$Logger"), (67, u "err"), (2, u "out"), (91, u "notSupportedJnuEncoding"), (15, u "in"), (17, u "initialIn"), (0, u "Ljava/io/InputStream;"), (35, u "bootLayer"), (0, u "Ljava/lang/ModuleLayer;"), (99, .class_ 664), (0, u "java/lang/System$2"), (9, u "NEVER"), (2, u "MAYBE"), (49, u "arraycopy"), (0, u "(Ljava/lang/Object;ILjava/lang/Object;II)V"), (72, .class_ 802), (0, u "java/lang/System$Logger$Level")] 31

def k9m0 : Method := { name := "<init>", desc := "()V", sig := { parameters := [], returnType := none }, accessFlags := 2, code := none }
def k9m1 : Method := { name := "arraycopy", desc := "(Ljava/lang/Object;ILjava/lang/Object;II)V", sig := { parameters := [(.object "java/lang/Object"), .int, (.object "java/lang/Object"), .int, .int], returnType := none }, accessFlags := 265, code := none }
/-- java/lang/System -/
def k9 : Class := { plain "java/lang/System" (some 0) with
  accessFlags := 49
  interfaces := #[]
  cf := some (fileOf pool9 8 #[.nestMembers #[319, 327, 801, 108, 663, 208]] #[{ accessFlags := 2, nameIndex := 5, descriptorIndex := 6, attributes := #[] }, { accessFlags := 265, nameIndex := 727, descriptorIndex := 728, attributes := #[] }] 49 2 #[] #[{ accessFlags := 25, nameIndex := 507, descriptorIndex := 526, attributes := #[] }, { accessFlags := 25, nameIndex := 399, descriptorIndex := 155, attributes := #[] }, { accessFlags := 25, nameIndex := 396, descriptorIndex := 155, attributes := #[] }, { accessFlags := 10, nameIndex := 525, descriptorIndex := 526, attributes := #[] }, { accessFlags := 26, nameIndex := 674, descriptorIndex := 12, attributes := #[] }, { accessFlags := 26, nameIndex := 677, descriptorIndex := 12, attributes := #[] }, { accessFlags := 10, nameIndex := 11, descriptorIndex := 12, attributes := #[] }, { accessFlags := 74, nameIndex := 175, descriptorIndex := 176, attributes := #[] }, { accessFlags := 10, nameIndex := 491, descriptorIndex := 222, attributes := #[] }, { accessFlags := 74, nameIndex := 29, descriptorIndex := 30, attributes := #[] }, { accessFlags := 74, nameIndex := 154, descriptorIndex := 155, attributes := #[] }, { accessFlags := 10, nameIndex := 217, descriptorIndex := 218, attributes := #[] }, { accessFlags := 10, nameIndex := 221, descriptorIndex := 222, attributes := #[] }, { accessFlags := 8, nameIndex := 562, descriptorIndex := 563, attributes := #[] }])
  fields := #[{ name := "in", type := (.object "java/io/InputStream"), accessFlags := 25, slot := 0, constantValue := 0 }, { name := "out", type := (.object "java/io/PrintStream"), accessFlags := 25, slot := 1, constantValue := 0 }, { name := "err", type := (.object "java/io/PrintStream"), accessFlags := 25, slot := 2, constantValue := 0 }, { name := "initialIn", type := (.object "java/io/InputStream"), accessFlags := 10, slot := 3, constantValue := 0 }, { name := "NEVER", type := .int, accessFlags := 26, slot := 4, constantValue := 0 }, { name := "MAYBE", type := .int, accessFlags := 26, slot := 5, constantValue := 0 }, { name := "allowSecurityManager", type := .int, accessFlags := 10, slot := 6, constantValue := 0 }, { name := "security", type := (.object "java/lang/SecurityManager"), accessFlags := 74, slot := 7, constantValue := 0 }, { name := "notSupportedJnuEncoding", type := (.object "java/lang/String"), accessFlags := 10, slot := 8, constantValue := 0 }, { name := "cons", type := (.object "java/io/Console"), accessFlags := 74, slot := 9, constantValue := 0 }, { name := "initialErrStream", type := (.object "java/io/PrintStream"), accessFlags := 74, slot := 10, constantValue := 0 }, { name := "props", type := (.object "java/util/Properties"), accessFlags := 10, slot := 11, constantValue := 0 }, { name := "lineSeparator", type := (.object "java/lang/String"), accessFlags := 10, slot := 12, constantValue := 0 }, { name := "bootLayer", type := (.object "java/lang/ModuleLayer"), accessFlags := 8, slot := 13, constantValue := 0 }]
  methods := #[k9m0, k9m1]
  instanceTypes := #[]
  staticTypes := #[(.object "java/io/InputStream"), (.object "java/io/PrintStream"), (.object "java/io/PrintStream"), (.object "java/io/InputStream"), .int, .int, .int, (.object "java/lang/SecurityManager"), (.object "java/lang/String"), (.object "java/io/Console"), (.object "java/io/PrintStream"), (.object "java/util/Properties"), (.object "java/lang/String"), (.object "java/lang/ModuleLayer")]
  resolved := Array.replicate 834 none
  statics := none }

def pool10 : Array CpInfo := pool [(1, .class_ 2), (0, u "java/lang/Cloneable"), (0, .class_ 4), (0, u "java/lang/Object")] 2

/-- java/lang/Cloneable -/
def k10 : Class := { plain "java/lang/Cloneable" (some 0) with
  accessFlags := 1537
  interfaces := #[]
  cf := some (fileOf pool10 1 #[] #[] 1537 3 #[] #[])
  fields := #[]
  methods := #[]
  instanceTypes := #[]
  staticTypes := #[]
  resolved := Array.replicate 7 none
  statics := none }

def pool11 : Array CpInfo := pool [(1, u "java/io/Serializable"), (0, .class_ 1), (0, u "java/lang/Object"), (0, .class_ 3)] 3

/-- java/io/Serializable -/
def k11 : Class := { plain "java/io/Serializable" (some 0) with
  accessFlags := 1537
  interfaces := #[]
  cf := some (fileOf pool11 2 #[] #[] 1537 4 #[] #[])
  fields := #[]
  methods := #[]
  instanceTypes := #[]
  staticTypes := #[]
  resolved := Array.replicate 8 none
  statics := none }

/-- the primitive byte -/
def k12 : Class := { plain "byte" none with kind := .primitive 'B', accessFlags := 0x411 }
/-- [B -/
def k13 : Class := { plain "[B" (some 0) with kind := .array 12 .byte, interfaces := #[10, 11], accessFlags := 1041 }

/-- the primitive int -/
def k14 : Class := { plain "int" none with kind := .primitive 'I', accessFlags := 0x411 }
/-- [I -/
def k15 : Class := { plain "[I" (some 0) with kind := .array 14 .int, interfaces := #[10, 11], accessFlags := 1041 }

def heap : Heap := #[]
def classes : Array Class := #[k0, k1, k2, k3, k4, k5, k6, k7, k8, k9, k10, k11, k12, k13, k14, k15]
def interned : List (Array UInt16 × Addr) := []
def slotsUsed : Nat := 0
def theMethod : MethodId := ⟨1, 2⟩
def args0 : Array Value := #[.int 3, .int 2, .int 5, .int 6, .int 7, .int 8]
def aboutOver (below : List Frame) : State where
  vm := { classes := classes, interned := interned.toArray }
  heap := heap
  slotsUsed := slotsUsed
  threads := #[{ frames := .invoking theMethod args0 :: below }]
def below0 : List Frame := [.native { method := ⟨0, 0⟩, args := #[] }]
def about1 : State := aboutOver below0
def p0 : Program := .bare "" "" ""
def e0 : Env := launch0.env 0 0 0
theorem w_frames : about1.frames = Frame.invoking theMethod args0 :: below0 := rfl
set_option maxRecDepth 65536 in
theorem w_args : argsFit about1.vm theMethod args0 = true := by decide +kernel
set_option maxRecDepth 65536 in
theorem w_heap : heapFits about1 = true := by decide +kernel
set_option maxRecDepth 65536 in
theorem w_runnable : about1.curStatus? = some .runnable := by decide +kernel
set_option maxRecDepth 65536 in
theorem w_alone : about1.alone = true := by decide +kernel
set_option maxRecDepth 65536 in
theorem w_named : about1.methodNamed? x = some theMethod := by decide +kernel
set_option maxRecDepth 65536 in
theorem w_hears : about1.hears theMethod below0 = true := by decide +kernel
set_option maxRecDepth 65536 in
theorem w_ripe : about1.ripe theMethod args0 below0 = true := by decide +kernel
theorem w_running : about1.status = .running := rfl
set_option maxRecDepth 65536 in
theorem w_room : about1.hasRoom e0.platform room_1 = true :=
  launch0.hasRoom_least _ room_1 (by decide +kernel) (by decide +kernel) (by decide +kernel) (by decide +kernel) (by decide +kernel) (by decide +kernel)
theorem allAtoms_all (ts : List Jvm.Cond) (a : Array Jvm.Value) (st : Jvm.State) : (allAtoms ts).before a st = ts.all (fun c => c.before a st) := by
  induction ts with
  | nil => rfl
  | cons c t ih =>
    show (Jvm.Cond.and c (allAtoms t)).before a st = _
    rw [Jvm.Cond.before_and, ih, List.all_cons]
def words1 : List Jvm.Cond := Jvm.Cond.code x code maxLocals ret :: tables_1
/-- a 'code' word, met by the world's own term for the bytes: nothing is compared byte by byte -/
theorem code_word {y : MethodName} {bytes : ByteArray} {mx : Nat} {rt : Option FieldType} {a : Array Value} {s : State} {m : MethodId} {meth : Method} {c : Code} (h1 : s.methodNamed? y = some m) (h2 : s.vm.method? m = some meth) (h3 : meth.code = some c) (h4 : c.code = bytes)
    (h5 : (c.maxLocals == mx && c.exceptionTable.isEmpty && decide (c.maxStack ≤ mostOperands) && decide (meth.sig.returnType = rt) && !meth.locks && decide (parseMethodDescriptor y.desc = some meth.sig)) = true) : (Jvm.Cond.code y bytes mx rt).before a s = true := by
  simp only [Bool.and_eq_true, beq_iff_eq, Bool.not_eq_true', decide_eq_true_eq] at h5
  obtain ⟨⟨⟨⟨⟨g1, g2⟩, g3⟩, g4⟩, g5⟩, g6⟩ := h5
  simp [Cond.before, Cond.holds, Cond.value, h1, h2, h3, h4, g1, g2, g3, g4, g5, g6]
def isCode : Jvm.Cond → Bool
  | .code _ _ _ _ => true
  | _ => false
theorem all_split {L : List Jvm.Cond} {P : Jvm.Cond → Bool} (h1 : L.all (fun c => isCode c || P c) = true) (h2 : ∀ c ∈ L.filter isCode, P c = true) : L.all P = true := by
  refine List.all_eq_true.mpr fun c hc => ?_
  have h := List.all_eq_true.mp h1 c hc
  rcases Bool.eq_false_or_eq_true (isCode c) with hi | hi
  · exact h2 c (List.mem_filter.mpr ⟨hc, hi⟩)
  · simpa [hi] using h
set_option maxRecDepth 65536 in
theorem w_c0 : (Jvm.Cond.code x code maxLocals ret).before args0 about1 = true := code_word (m := ⟨1, 2⟩) (meth := k1m2) (c := k1c2) (by decide +kernel) rfl rfl rfl (by decide +kernel)
set_option maxRecDepth 65536 in
theorem w_c1 : (Jvm.Cond.code ({ cls := "com/example/millrace/millrace/GrowingBytes", name := "<init>", desc := "(I)V" } : Jvm.MethodName) prog_28_method_1_code (2 : Nat) (Option.none : Option Jvm.ClassFile.FieldType)).before args0 about1 = true := code_word (m := ⟨6, 0⟩) (meth := k6m0) (c := k6c0) (by decide +kernel) rfl rfl rfl (by decide +kernel)
set_option maxRecDepth 65536 in
theorem w_c2 : (Jvm.Cond.code ({ cls := "java/io/OutputStream", name := "<init>", desc := "()V" } : Jvm.MethodName) jdk_2038_method_1_code (1 : Nat) (Option.none : Option Jvm.ClassFile.FieldType)).before args0 about1 = true := code_word (m := ⟨5, 0⟩) (meth := k5m0) (c := k5c0) (by decide +kernel) rfl rfl rfl (by decide +kernel)
set_option maxRecDepth 65536 in
theorem w_c3 : (Jvm.Cond.code ({ cls := "java/lang/Object", name := "<init>", desc := "()V" } : Jvm.MethodName) object_method_1_code (1 : Nat) (Option.none : Option Jvm.ClassFile.FieldType)).before args0 about1 = true := code_word (m := ⟨0, 0⟩) (meth := k0m0) (c := k0c0) (by decide +kernel) rfl rfl rfl (by decide +kernel)
set_option maxRecDepth 65536 in
theorem w_c4 : (Jvm.Cond.code ({ cls := "com/example/millrace/millrace/GrowingBytes", name := "write", desc := "(I)V" } : Jvm.MethodName) prog_28_method_2_code (2 : Nat) (Option.none : Option Jvm.ClassFile.FieldType)).before args0 about1 = true := code_word (m := ⟨6, 1⟩) (meth := k6m1) (c := k6c1) (by decide +kernel) rfl rfl rfl (by decide +kernel)
set_option maxRecDepth 65536 in
theorem w_c5 : (Jvm.Cond.code ({ cls := "com/example/millrace/millrace/GrowingBytes", name := "makeRoom", desc := "(I)V" } : Jvm.MethodName) prog_28_method_13_code (2 : Nat) (Option.none : Option Jvm.ClassFile.FieldType)).before args0 about1 = true := code_word (m := ⟨6, 4⟩) (meth := k6m4) (c := k6c4) (by decide +kernel) rfl rfl rfl (by decide +kernel)
set_option maxRecDepth 65536 in
theorem w_c6 : (Jvm.Cond.code ({ cls := "java/lang/Math", name := "addExact", desc := "(II)I" } : Jvm.MethodName) jdk_29_method_24_code (3 : Nat) (Option.some Jvm.ClassFile.FieldType.int)).before args0 about1 = true := code_word (m := ⟨7, 1⟩) (meth := k7m1) (c := k7c1) (by decide +kernel) rfl rfl rfl (by decide +kernel)
set_option maxRecDepth 65536 in
theorem w_c7 : (Jvm.Cond.code ({ cls := "java/lang/Math", name := "max", desc := "(II)I" } : Jvm.MethodName) jdk_29_method_65_code (2 : Nat) (Option.some Jvm.ClassFile.FieldType.int)).before args0 about1 = true := code_word (m := ⟨7, 2⟩) (meth := k7m2) (c := k7c2) (by decide +kernel) rfl rfl rfl (by decide +kernel)
set_option maxRecDepth 65536 in
theorem w_c8 : (Jvm.Cond.code ({ cls := "java/util/Arrays", name := "copyOf", desc := "([BI)[B" } : Jvm.MethodName) jdk_65_method_121_code (3 : Nat) (Option.some (Jvm.ClassFile.FieldType.array Jvm.ClassFile.FieldType.byte))).before args0 about1 = true := code_word (m := ⟨8, 1⟩) (meth := k8m1) (c := k8c1) (by decide +kernel) rfl rfl rfl (by decide +kernel)
set_option maxRecDepth 65536 in
theorem w_c9 : (Jvm.Cond.code ({ cls := "java/lang/Math", name := "min", desc := "(II)I" } : Jvm.MethodName) jdk_29_method_69_code (2 : Nat) (Option.some Jvm.ClassFile.FieldType.int)).before args0 about1 = true := code_word (m := ⟨7, 3⟩) (meth := k7m3) (c := k7c3) (by decide +kernel) rfl rfl rfl (by decide +kernel)
set_option maxRecDepth 65536 in
theorem w_c10 : (Jvm.Cond.code ({ cls := "com/example/millrace/millrace/GrowingBytes", name := "copy", desc := "()[B" } : Jvm.MethodName) prog_28_method_11_code (1 : Nat) (Option.some (Jvm.ClassFile.FieldType.array Jvm.ClassFile.FieldType.byte))).before args0 about1 = true := code_word (m := ⟨6, 3⟩) (meth := k6m3) (c := k6c3) (by decide +kernel) rfl rfl rfl (by decide +kernel)
set_option maxRecDepth 65536 in
theorem w_c11 : (Jvm.Cond.code ({ cls := "com/example/millrace/millrace/GrowingBytesCopyPinLaw", name := "holds", desc := "([BIIIII)Z" } : Jvm.MethodName) method_2_code (6 : Nat) (Option.some Jvm.ClassFile.FieldType.boolean)).before args0 about1 = true := code_word (m := ⟨1, 1⟩) (meth := k1m1) (c := k1c1) (by decide +kernel) rfl rfl rfl (by decide +kernel)
set_option maxRecDepth 65536 in
theorem w_c12 : (Jvm.Cond.code ({ cls := "com/example/millrace/millrace/GrowingBytes", name := "size", desc := "()I" } : Jvm.MethodName) prog_28_method_8_code (1 : Nat) (Option.some Jvm.ClassFile.FieldType.int)).before args0 about1 = true := code_word (m := ⟨6, 2⟩) (meth := k6m2) (c := k6c2) (by decide +kernel) rfl rfl rfl (by decide +kernel)
def codes1 : List Jvm.Cond := [Jvm.Cond.code x code maxLocals ret, Jvm.Cond.code ({ cls := "com/example/millrace/millrace/GrowingBytes", name := "<init>", desc := "(I)V" } : Jvm.MethodName) prog_28_method_1_code (2 : Nat) (Option.none : Option Jvm.ClassFile.FieldType), Jvm.Cond.code ({ cls := "java/io/OutputStream", name := "<init>", desc := "()V" } : Jvm.MethodName) jdk_2038_method_1_code (1 : Nat) (Option.none : Option Jvm.ClassFile.FieldType), Jvm.Cond.code ({ cls := "java/lang/Object", name := "<init>", desc := "()V" } : Jvm.MethodName) object_method_1_code (1 : Nat) (Option.none : Option Jvm.ClassFile.FieldType), Jvm.Cond.code ({ cls := "com/example/millrace/millrace/GrowingBytes", name := "write", desc := "(I)V" } : Jvm.MethodName) prog_28_method_2_code (2 : Nat) (Option.none : Option Jvm.ClassFile.FieldType), Jvm.Cond.code ({ cls := "com/example/millrace/millrace/GrowingBytes", name := "makeRoom", desc := "(I)V" } : Jvm.MethodName) prog_28_method_13_code (2 : Nat) (Option.none : Option Jvm.ClassFile.FieldType), Jvm.Cond.code ({ cls := "java/lang/Math", name := "addExact", desc := "(II)I" } : Jvm.MethodName) jdk_29_method_24_code (3 : Nat) (Option.some Jvm.ClassFile.FieldType.int), Jvm.Cond.code ({ cls := "java/lang/Math", name := "max", desc := "(II)I" } : Jvm.MethodName) jdk_29_method_65_code (2 : Nat) (Option.some Jvm.ClassFile.FieldType.int), Jvm.Cond.code ({ cls := "java/util/Arrays", name := "copyOf", desc := "([BI)[B" } : Jvm.MethodName) jdk_65_method_121_code (3 : Nat) (Option.some (Jvm.ClassFile.FieldType.array Jvm.ClassFile.FieldType.byte)), Jvm.Cond.code ({ cls := "java/lang/Math", name := "min", desc := "(II)I" } : Jvm.MethodName) jdk_29_method_69_code (2 : Nat) (Option.some Jvm.ClassFile.FieldType.int), Jvm.Cond.code ({ cls := "com/example/millrace/millrace/GrowingBytes", name := "copy", desc := "()[B" } : Jvm.MethodName) prog_28_method_11_code (1 : Nat) (Option.some (Jvm.ClassFile.FieldType.array Jvm.ClassFile.FieldType.byte)), Jvm.Cond.code ({ cls := "com/example/millrace/millrace/GrowingBytesCopyPinLaw", name := "holds", desc := "([BIIIII)Z" } : Jvm.MethodName) method_2_code (6 : Nat) (Option.some Jvm.ClassFile.FieldType.boolean), Jvm.Cond.code ({ cls := "com/example/millrace/millrace/GrowingBytes", name := "size", desc := "()I" } : Jvm.MethodName) prog_28_method_8_code (1 : Nat) (Option.some Jvm.ClassFile.FieldType.int)]
set_option maxRecDepth 65536 in
theorem codes_eq : words1.filter isCode = codes1 := rfl
theorem w_codes : ∀ c ∈ words1.filter isCode, c.before args0 about1 = true := by
  rw [codes_eq]
  intro c hc
  simp only [codes1, List.mem_cons, List.not_mem_nil, or_false] at hc
  rcases hc with rfl | rfl | rfl | rfl | rfl | rfl | rfl | rfl | rfl | rfl | rfl | rfl | rfl
  · exact w_c0
  · exact w_c1
  · exact w_c2
  · exact w_c3
  · exact w_c4
  · exact w_c5
  · exact w_c6
  · exact w_c7
  · exact w_c8
  · exact w_c9
  · exact w_c10
  · exact w_c11
  · exact w_c12
set_option maxRecDepth 65536 in
theorem w_t1 : (words1.take 24).all (fun c => isCode c || c.before args0 about1) = true := by decide +kernel
set_option maxRecDepth 65536 in
theorem w_t2 : ((words1.drop 24).take 24).all (fun c => isCode c || c.before args0 about1) = true := by decide +kernel
set_option maxRecDepth 65536 in
theorem w_t3 : ((words1.drop 24).drop 24).all (fun c => isCode c || c.before args0 about1) = true := by decide +kernel
theorem w_tables : (allAtoms (Jvm.Cond.code x code maxLocals ret :: tables_1)).before args0 about1 = true := by
  rw [allAtoms_all]
  show words1.all (fun c => c.before args0 about1) = true
  refine all_split ?_ w_codes
  rw [← List.take_append_drop 24 words1, List.all_append, w_t1, ← List.take_append_drop 24 (words1.drop 24), List.all_append, w_t2, w_t3]
  rfl
set_option maxRecDepth 65536 in
theorem w_case : (Jvm.Cond.and given_1 narrow_1).before args0 about1 = true := by decide +kernel
theorem w_applies : (headSpec (Jvm.Cond.code x code maxLocals ret :: tables_1) room_1).applies x e0.platform about1 = true :=
  (Spec.applies_iff w_frames).mpr ⟨w_running, w_runnable, w_alone, w_named, w_hears, w_ripe, w_room, w_tables⟩
theorem atStart : AtStart classFile x code maxLocals ret World_1 tables_1 room_1 Calls_1 rest_1 Pre_1 launch0 p0 e0 about1 theMethod args0 below0 :=
  ⟨lists_1, trivial, launch0.admits_env _ _ _, launch0.least_env, fairChoices_fair.cas, fairChoices_fair.clock, w_frames, w_args, w_heap, w_applies, trivial, trivial, w_case⟩
end start1
theorem witness_1 : WitnessClaimed_1 := ⟨start1.p0, start1.e0, start1.about1, start1.theMethod, start1.args0, start1.below0, start1.atStart⟩
end Jvm.Pilot.@@N@@
