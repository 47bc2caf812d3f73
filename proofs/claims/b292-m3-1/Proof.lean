import JvmDerived
import JvmDerived.Pilot.@@N@@Statement
import JvmDerived.Pilot.@@N@@Code
set_option linter.unusedVariables false
set_option linter.unusedSimpArgs false
namespace Jvm.OwnGoW
open Sem ClassFile Op Lib Jvm.Stand Jvm.Free Jvm.LawKit Jvm.RoadKit
/-- what is known of the body that is walked -/
def Cx (p : Program) (meth : Method) (c : Code) (nm : String) (bs : ByteArray) (ml : Nat) (rt : Option FieldType) : Prop :=
  p.tables.exec = Jvm.exec ∧ c.code = bs ∧ c.maxLocals = ml ∧ meth.name = nm ∧ meth.sig.returnType = rt ∧ meth.locks = false
/-- where the walk stands: its tables may have come to hold more strings since the start s -/
def Sd (p : Program) (l : Launch) (e : Env) (R : Room) (s : State) (m : MethodId) (args : Array Value) (below : List Frame) (meth : Method) (c : Code) (n0 : Nat) (Z : State) (own : String) (T : State) (cells slots : Nat) : Prop :=
  ∃ (vm0 : Vm) (locs : List Loc) (k0 : Nat), Stand p l e R (s.setVm vm0) m args below meth c T locs cells slots ∧ Fr n0 locs ∧ s.Since vm0 k0 ∧ k0 ≤ T.heap.size ∧ Z.Warmed39 (s.setVm vm0).vm ∧ (s.setVm vm0).vm.findClass own = some m.cls
def Go (p : Program) (e : Env) (below : List Frame) (s : State) (n0 : Nat) (Q : Option Value → Heap → Prop) (C N : Nat) (t : State) : Prop :=
  ∃ s₂ o, Steps p.tables e below t s₂ ∧ s₂.status = .running ∧ Ended s₂ below o ∧ ∃ v L, o = .returned v ∧ (Q v s₂.heap ∧ Fr n0 L) ∧ ReturnedEndW s o s₂ L C N
def Met (l : Launch) (Z : State) (y : MethodName) (bytes : ByteArray) (maxL : Nat) (ret : Option FieldType) (ws : List Jvm.Cond) (rm : Room) (as' : Array Value) (h : Heap) (n0 : Nat) (Q : Option Value → Heap → Prop) : Prop :=
  MetFree l y (head1 (Cond.code y bytes maxL ret :: ws) rm) (fun a U => a = as' ∧ Z.Warmed39 U.vm ∧ U.heap = h) (fun _ _ _ _ _ => True) (fun _ U o U' => ∃ v L, o = .returned v ∧ (Q v U'.heap ∧ Fr n0 L) ∧ ReturnedEndW U o U' L rm.cells rm.slots)
theorem Met.of {l : Launch} {Z : State} {y : MethodName} {bytes : ByteArray} {maxL : Nat} {ret : Option FieldType} {ws : List Jvm.Cond} {rm : Room} {as' : Array Value} {h : Heap} {n0 : Nat} {Q : Option Value → Heap → Prop} (hpn : plainFor y = true) (Ls : Array Slot) (hef : ∀ m, entryFrame m as' maxL = mkF m 0 Ls [])
    (body : ∀ p e s m below meth c T, Cx p meth c y.name bytes maxL ret → Sd p l e rm s m as' below meth c n0 Z y.cls T 0 0 → T.heap = h → Go p e below s n0 Q rm.cells rm.slots (T.setTop (mkF m 0 Ls []))) : Met l Z y bytes maxL ret ws rm as' h n0 Q := by
  refine MetFree.of_bodySF hpn hisR ?_
  intro p e s m args below meth c s₁ Bd hml0 hP hK
  obtain ⟨rfl, hZ, hh⟩ := hP
  obtain ⟨s₂, o, h1, h2, h3, h4⟩ := body p e s m below meth c s₁ ⟨Bd.exec, Bd.bytes, hml0, (name_of_methodNamed Bd.named Bd.method).1, Bd.returns, Bd.notSynchronized⟩ ⟨s.vm, [], s₁.heap.size, Stand.of_body Bd, Fr.nil n0, (State.WarmedH.refl s).since _, Nat.le_refl _, hZ, findClass_of_methodNamed Bd.named⟩ (by rw [← hh, Bd.state]; rfl)
  exact ⟨s₂, o, castTop (hef m) h1, h2, h3, h4⟩
/-- what a branch asks -/
def cdP : ClassFile.Cond → Int32 → Int32 → Prop
  | .eq, x, y => x = y
  | .ne, x, y => ¬ x = y
  | .lt, x, y => x < y
  | .ge, x, y => ¬ x < y
  | .gt, x, y => y < x
  | .le, x, y => ¬ y < x
theorem cdT {cd : ClassFile.Cond} {x y : Int32} (h : cdP cd x y) : if_icmp.holds cd x y = true := by
  cases cd <;> simp only [cdP] at h
  · exact (teq h).1
  · exact (feq h).2
  · exact (tlt h).1
  · exact (flt h).2.1
  · exact (tlt h).2.2.1
  · exact (flt h).2.2.2
theorem cdF {cd : ClassFile.Cond} {x y : Int32} (h : ¬ cdP cd x y) : if_icmp.holds cd x y = false := by
  cases cd <;> simp only [cdP, Classical.not_not] at h
  · exact (feq h).1
  · exact (teq h).2
  · exact (flt h).1
  · exact (tlt h).2.1
  · exact (flt h).2.2.1
  · exact (tlt h).2.2.2
/-- an array of ints (or bytes, booleans, chars, shorts): n places, place j holds f j -/
def Ai (Z : State) (h : Heap) (a : Addr) (ty : FieldType) (n : Nat) (f : Nat → Int32) : Prop :=
  ∃ c : Cell, Arr Z h a c ty ∧ c.slots.size = n ∧ n < 2 ^ 31 ∧ ∀ j, j < n → c.slots[j]? = some (.int (f j))
def upA (f : Nat → Int32) (k : Nat) (x : Int32) : Nat → Int32 := fun j => if j = k then x else f j
theorem upA_same (f : Nat → Int32) (k : Nat) (x : Int32) : upA f k x k = x := if_pos rfl
theorem upA_other {f : Nat → Int32} {k j : Nat} {x : Int32} (h : j ≠ k) : upA f k x j = f j := if_neg h
theorem idx_ok {j : Int32} {k n : Nat} (hj : j.toInt = (k : Int)) (hk : k < n) : ¬ (j < 0 ∨ n ≤ j.toNatClampNeg) ∧ j.toNatClampNeg = k := by
  have e : j.toNatClampNeg = k := by rw [Int32.toNatClampNeg, hj]; rfl
  refine ⟨fun q => q.elim (fun q => ?_) (fun q => by omega), e⟩
  rw [Int32.lt_iff_toInt_lt, hj, show (0 : Int32).toInt = 0 from rfl] at q
  omega
section Facts
variable {Z : State} {h h' : Heap} {a b : Addr} {ty : FieldType} {n sl : Nat} {f : Nat → Int32} {v : Value} {ws : List Addr}
theorem Ai.lt (F : Ai Z h a ty n f) : a < h.size := by obtain ⟨c, A, -⟩ := F; exact A.lt
theorem Ai.ext (F : Ai Z h a ty n f) (E : Ext h h') : Ai Z h' a ty n f := by obtain ⟨c, A, r⟩ := F; exact ⟨c, A.ext E, r⟩
theorem Ai.other (F : Ai Z h b ty n f) (W : Wr h h' a sl v) (q : b ≠ a) : Ai Z h' b ty n f := by obtain ⟨c, A, r⟩ := F; exact ⟨c, A.other W q, r⟩
theorem Ai.keep (F : Ai Z h a ty n f) (K : Keep h h' ws) (q : a ∉ ws) : Ai Z h' a ty n f := by obtain ⟨c, A, r⟩ := F; exact ⟨c, ⟨K.2.1 a c A.1 q, A.2⟩, r⟩
theorem keepMore {ws' : List Addr} (K : Keep h h' ws) (q : ∀ x ∈ ws, x ∈ ws') : Keep h h' ws' := ⟨K.1, fun x c h1 h2 => K.2.1 x c h1 (fun h3 => h2 (q x h3)), K.2.2⟩
theorem Ai.set {k : Nat} {x : Int32} (F : Ai Z h a ty n f) (W : Wr h h' a k (.int x)) : Ai Z h' a ty n (upA f k x) := by
  obtain ⟨c, A, S, B, H⟩ := F
  refine ⟨_, A.same W, by rw [sz_set]; exact S, B, fun j hj => ?_⟩
  by_cases q : j = k
  · subst q
    rw [upA_same]
    simp [Cell.setSlot, S, hj]
  · rw [upA_other q, ← H j hj]
    exact Array.getElem?_setIfInBounds_ne (fun e => q e.symm)
theorem Ai.congr {g : Nat → Int32} (F : Ai Z h a ty n f) (q : ∀ j, j < n → f j = g j) : Ai Z h a ty n g := by
  obtain ⟨c, A, S, B, H⟩ := F
  exact ⟨c, A, S, B, fun j hj => by rw [H j hj, q j hj]⟩
theorem Ai.new {k : ClassId} {z : Int32} {n : Nat} (A : Arr Z h a (newA k ty z) ty) (hz : z.toInt = (n : Int)) (hn : n < 2 ^ 31) (hd : defaultValue ty = .int 0) : Ai Z h a ty n (fun _ => 0) := by
  have e : z.toNatClampNeg = n := by rw [Int32.toNatClampNeg, hz]; rfl
  exact ⟨_, A, by rw [sz_new, e], hn, fun j hj => by simp [newA, e, hj, hd]⟩
end Facts
section Go
variable {p : Program} {l : Launch} {e : Env} {R : Room} {s : State} {m : MethodId} {args : Array Value} {below : List Frame} {meth : Method} {c : Code} {T : State} {cells slots : Nat} {Z : State} {a0 : Array Value} {h : Heap} {own nm : String} {bs : ByteArray} {ml : Nat} {rt : Option FieldType} {n0 : Nat} {Q : Option Value → Heap → Prop} {C N : Nat} {pc : Nat} {Ls : Array Slot} {st : List Value}
theorem Go.step {t t' : State} (hs : ∀ target, Steps p.tables e below t' target → Steps p.tables e below t target) (g : Go p e below s n0 Q C N t') : Go p e below s n0 Q C N t := by
  obtain ⟨s₂, o, h1, r⟩ := g
  exact ⟨s₂, o, hs _ h1, r⟩
theorem Go.trans {t t' : State} (hs : Steps p.tables e below t t') (g : Go p e below s n0 Q C N t') : Go p e below s n0 Q C N t := by
  obtain ⟨s₂, o, h1, r⟩ := g
  exact ⟨s₂, o, hs.trans h1, r⟩
theorem Go.mono {Q' : Option Value → Heap → Prop} {t : State} (g : Go p e below s n0 Q C N t) (hQ : ∀ v k, Q v k → Q' v k) : Go p e below s n0 Q' C N t := by
  obtain ⟨s₂, o, h1, h2, h3, v, L, h4, h5, h6⟩ := g
  exact ⟨s₂, o, h1, h2, h3, v, L, h4, ⟨hQ _ _ h5.1, h5.2⟩, h6⟩
theorem g_eqI {x y : Int32} (q : x = y) (hr : Go p e below s n0 Q C N (T.setTop (mkF m pc Ls (.int y :: st)))) : Go p e below s n0 Q C N (T.setTop (mkF m pc Ls (.int x :: st))) := q ▸ hr
theorem g_eqJ {x y : Int64} (q : x = y) (hr : Go p e below s n0 Q C N (T.setTop (mkF m pc Ls (.long y :: st)))) : Go p e below s n0 Q C N (T.setTop (mkF m pc Ls (.long x :: st))) := q ▸ hr
theorem g_aloadN (K : Cx p meth c nm bs ml rt) (X : Sd p l e R s m args below meth c n0 Z own T cells slots) {k : Fin 4} {v : Value} (pc' : Nat) (hd : decode bs pc = .ok (.aload_n k, 1)) (hp : pc + 1 = pc') (hl : Ls[k.val]? = some (.val v)) (hv : v.isRef = true)
    (hr : Go p e below s n0 Q C N (T.setTop (mkF m pc' Ls (v :: st)))) : Go p e below s n0 Q C N (T.setTop (mkF m pc Ls (st))) := by
  obtain ⟨vm0, locs, k0, Y, -, hS, hk0, hZ, hown⟩ := X
  obtain ⟨hx, hby, -⟩ := K
  subst hp
  exact Go.step (fun _ k => XS.aloadN Y.here hx (g := mkF m pc Ls (st)) rfl (hb hby hd) hl hv k) hr
theorem g_aload (K : Cx p meth c nm bs ml rt) (X : Sd p l e R s m args below meth c n0 Z own T cells slots) {k : Nat} {v : Value} (pc' : Nat) (hd : decode bs pc = .ok (.aload k, 2)) (hp : pc + 2 = pc') (hl : Ls[k]? = some (.val v)) (hv : v.isRef = true)
    (hr : Go p e below s n0 Q C N (T.setTop (mkF m pc' Ls (v :: st)))) : Go p e below s n0 Q C N (T.setTop (mkF m pc Ls (st))) := by
  obtain ⟨vm0, locs, k0, Y, -, hS, hk0, hZ, hown⟩ := X
  obtain ⟨hx, hby, -⟩ := K
  subst hp
  exact Go.step (fun _ k => XS.aload Y.here hx (g := mkF m pc Ls (st)) rfl (hb hby hd) hl hv k) hr
theorem g_iloadN (K : Cx p meth c nm bs ml rt) (X : Sd p l e R s m args below meth c n0 Z own T cells slots) {k : Fin 4} {v : Int32} (pc' : Nat) (hd : decode bs pc = .ok (.iload_n k, 1)) (hp : pc + 1 = pc') (hl : Ls[k.val]? = some (.val (.int v)))
    (hr : Go p e below s n0 Q C N (T.setTop (mkF m pc' Ls (.int v :: st)))) : Go p e below s n0 Q C N (T.setTop (mkF m pc Ls (st))) := by
  obtain ⟨vm0, locs, k0, Y, -, hS, hk0, hZ, hown⟩ := X
  obtain ⟨hx, hby, -⟩ := K
  subst hp
  exact Go.step (fun _ k => XS.iloadN Y.here hx (g := mkF m pc Ls (st)) rfl (hb hby hd) hl k) hr
theorem g_iload (K : Cx p meth c nm bs ml rt) (X : Sd p l e R s m args below meth c n0 Z own T cells slots) {k : Nat} {v : Int32} (pc' : Nat) (hd : decode bs pc = .ok (.iload k, 2)) (hp : pc + 2 = pc') (hl : Ls[k]? = some (.val (.int v)))
    (hr : Go p e below s n0 Q C N (T.setTop (mkF m pc' Ls (.int v :: st)))) : Go p e below s n0 Q C N (T.setTop (mkF m pc Ls (st))) := by
  obtain ⟨vm0, locs, k0, Y, -, hS, hk0, hZ, hown⟩ := X
  obtain ⟨hx, hby, -⟩ := K
  subst hp
  exact Go.step (fun _ k => XS.iload Y.here hx (g := mkF m pc Ls (st)) rfl (hb hby hd) hl k) hr
theorem g_lloadN (K : Cx p meth c nm bs ml rt) (X : Sd p l e R s m args below meth c n0 Z own T cells slots) {k : Fin 4} {v : Int64} (pc' : Nat) (hd : decode bs pc = .ok (.lload_n k, 1)) (hp : pc + 1 = pc') (hl : Ls[k.val]? = some (.val (.long v)))
    (hr : Go p e below s n0 Q C N (T.setTop (mkF m pc' Ls (.long v :: st)))) : Go p e below s n0 Q C N (T.setTop (mkF m pc Ls (st))) := by
  obtain ⟨vm0, locs, k0, Y, -, hS, hk0, hZ, hown⟩ := X
  obtain ⟨hx, hby, -⟩ := K
  subst hp
  exact Go.step (fun _ k => XT.lloadN Y.here hx (g := mkF m pc Ls (st)) rfl (hb hby hd) hl k) hr
theorem g_lload (K : Cx p meth c nm bs ml rt) (X : Sd p l e R s m args below meth c n0 Z own T cells slots) {k : Nat} {v : Int64} (pc' : Nat) (hd : decode bs pc = .ok (.lload k, 2)) (hp : pc + 2 = pc') (hl : Ls[k]? = some (.val (.long v)))
    (hr : Go p e below s n0 Q C N (T.setTop (mkF m pc' Ls (.long v :: st)))) : Go p e below s n0 Q C N (T.setTop (mkF m pc Ls (st))) := by
  obtain ⟨vm0, locs, k0, Y, -, hS, hk0, hZ, hown⟩ := X
  obtain ⟨hx, hby, -⟩ := K
  subst hp
  exact Go.step (fun _ k => XT.lload Y.here hx (g := mkF m pc Ls (st)) rfl (hb hby hd) hl k) hr
theorem g_iconst (K : Cx p meth c nm bs ml rt) (X : Sd p l e R s m args below meth c n0 Z own T cells slots) {i : Int} (v : Int32) (pc' : Nat) (hd : decode bs pc = .ok (.iconst i, 1)) (hp : pc + 1 = pc') (hv : Int32.ofInt i = v)
    (hr : Go p e below s n0 Q C N (T.setTop (mkF m pc' Ls (.int v :: st)))) : Go p e below s n0 Q C N (T.setTop (mkF m pc Ls (st))) := by
  obtain ⟨vm0, locs, k0, Y, -, hS, hk0, hZ, hown⟩ := X
  obtain ⟨hx, hby, -⟩ := K
  subst hp
  exact Go.step (fun _ k => XT.iconstV Y.here hx (g := mkF m pc Ls (st)) rfl v (hb hby hd) hv k) hr
theorem g_bipush (K : Cx p meth c nm bs ml rt) (X : Sd p l e R s m args below meth c n0 Z own T cells slots) {i : Int} (v : Int32) (pc' : Nat) (hd : decode bs pc = .ok (.bipush i, 2)) (hp : pc + 2 = pc') (hv : (Int8.ofInt i).toInt32 = v)
    (hr : Go p e below s n0 Q C N (T.setTop (mkF m pc' Ls (.int v :: st)))) : Go p e below s n0 Q C N (T.setTop (mkF m pc Ls (st))) := by
  obtain ⟨vm0, locs, k0, Y, -, hS, hk0, hZ, hown⟩ := X
  obtain ⟨hx, hby, -⟩ := K
  subst hp
  exact Go.step (fun _ k => XT.bipushV Y.here hx (g := mkF m pc Ls (st)) rfl v (hb hby hd) hv k) hr
theorem g_sipush (K : Cx p meth c nm bs ml rt) (X : Sd p l e R s m args below meth c n0 Z own T cells slots) {i : Int} (v : Int32) (pc' : Nat) (hd : decode bs pc = .ok (.sipush i, 3)) (hp : pc + 3 = pc') (hv : (Int16.ofInt i).toInt32 = v)
    (hr : Go p e below s n0 Q C N (T.setTop (mkF m pc' Ls (.int v :: st)))) : Go p e below s n0 Q C N (T.setTop (mkF m pc Ls (st))) := by
  obtain ⟨vm0, locs, k0, Y, -, hS, hk0, hZ, hown⟩ := X
  obtain ⟨hx, hby, -⟩ := K
  subst hp
  exact Go.step (fun _ k => XT.sipushV Y.here hx (g := mkF m pc Ls (st)) rfl v (hb hby hd) hv k) hr
theorem g_lconst (K : Cx p meth c nm bs ml rt) (X : Sd p l e R s m args below meth c n0 Z own T cells slots) {k : Fin 2} (v : Int64) (pc' : Nat) (hd : decode bs pc = .ok (.lconst k, 1)) (hp : pc + 1 = pc') (hv : Int64.ofNat k = v)
    (hr : Go p e below s n0 Q C N (T.setTop (mkF m pc' Ls (.long v :: st)))) : Go p e below s n0 Q C N (T.setTop (mkF m pc Ls (st))) := by
  obtain ⟨vm0, locs, k0, Y, -, hS, hk0, hZ, hown⟩ := X
  obtain ⟨hx, hby, -⟩ := K
  subst hp
  exact Go.step (fun _ k => XT.lconstV Y.here hx (g := mkF m pc Ls (st)) rfl v (hb hby hd) hv k) hr
theorem g_anull (K : Cx p meth c nm bs ml rt) (X : Sd p l e R s m args below meth c n0 Z own T cells slots) (pc' : Nat) (hd : decode bs pc = .ok (.aconst_null, 1)) (hp : pc + 1 = pc') 
    (hr : Go p e below s n0 Q C N (T.setTop (mkF m pc' Ls (.null :: st)))) : Go p e below s n0 Q C N (T.setTop (mkF m pc Ls (st))) := by
  obtain ⟨vm0, locs, k0, Y, -, hS, hk0, hZ, hown⟩ := X
  obtain ⟨hx, hby, -⟩ := K
  subst hp
  exact Go.step (fun _ k => XS.aconstNull Y.here hx (g := mkF m pc Ls (st)) rfl (hb hby hd) k) hr
theorem g_istoreN (K : Cx p meth c nm bs ml rt) (X : Sd p l e R s m args below meth c n0 Z own T cells slots) {k : Fin 4} {x : Int32} (pc' : Nat) (l' : Array Slot) (hd : decode bs pc = .ok (.istore_n k, 1)) (hp : pc + 1 = pc') (hl : storeLocals Ls k.val (.int x) = some l')
    (hr : Go p e below s n0 Q C N (T.setTop (mkF m pc' l' (st)))) : Go p e below s n0 Q C N (T.setTop (mkF m pc Ls (.int x :: st))) := by
  obtain ⟨vm0, locs, k0, Y, -, hS, hk0, hZ, hown⟩ := X
  obtain ⟨hx, hby, -⟩ := K
  subst hp
  exact Go.step (fun _ k => XS.istoreN Y.here hx (g := mkF m pc Ls (.int x :: st)) rfl (hb hby hd) rfl hl k) hr
theorem g_istore (K : Cx p meth c nm bs ml rt) (X : Sd p l e R s m args below meth c n0 Z own T cells slots) {k : Nat} {x : Int32} (pc' : Nat) (l' : Array Slot) (hd : decode bs pc = .ok (.istore k, 2)) (hp : pc + 2 = pc') (hl : storeLocals Ls k (.int x) = some l')
    (hr : Go p e below s n0 Q C N (T.setTop (mkF m pc' l' (st)))) : Go p e below s n0 Q C N (T.setTop (mkF m pc Ls (.int x :: st))) := by
  obtain ⟨vm0, locs, k0, Y, -, hS, hk0, hZ, hown⟩ := X
  obtain ⟨hx, hby, -⟩ := K
  subst hp
  exact Go.step (fun _ k => XS.istore Y.here hx (g := mkF m pc Ls (.int x :: st)) rfl (hb hby hd) rfl hl k) hr
theorem g_lstoreN (K : Cx p meth c nm bs ml rt) (X : Sd p l e R s m args below meth c n0 Z own T cells slots) {k : Fin 4} {x : Int64} (pc' : Nat) (l' : Array Slot) (hd : decode bs pc = .ok (.lstore_n k, 1)) (hp : pc + 1 = pc') (hl : storeLocals Ls k.val (.long x) = some l')
    (hr : Go p e below s n0 Q C N (T.setTop (mkF m pc' l' (st)))) : Go p e below s n0 Q C N (T.setTop (mkF m pc Ls (.long x :: st))) := by
  obtain ⟨vm0, locs, k0, Y, -, hS, hk0, hZ, hown⟩ := X
  obtain ⟨hx, hby, -⟩ := K
  subst hp
  exact Go.step (fun _ k => XT.lstoreN Y.here hx (g := mkF m pc Ls (.long x :: st)) rfl (hb hby hd) rfl hl k) hr
theorem g_lstore (K : Cx p meth c nm bs ml rt) (X : Sd p l e R s m args below meth c n0 Z own T cells slots) {k : Nat} {x : Int64} (pc' : Nat) (l' : Array Slot) (hd : decode bs pc = .ok (.lstore k, 2)) (hp : pc + 2 = pc') (hl : storeLocals Ls k (.long x) = some l')
    (hr : Go p e below s n0 Q C N (T.setTop (mkF m pc' l' (st)))) : Go p e below s n0 Q C N (T.setTop (mkF m pc Ls (.long x :: st))) := by
  obtain ⟨vm0, locs, k0, Y, -, hS, hk0, hZ, hown⟩ := X
  obtain ⟨hx, hby, -⟩ := K
  subst hp
  exact Go.step (fun _ k => XT.lstore Y.here hx (g := mkF m pc Ls (.long x :: st)) rfl (hb hby hd) rfl hl k) hr
theorem g_astoreN (K : Cx p meth c nm bs ml rt) (X : Sd p l e R s m args below meth c n0 Z own T cells slots) {k : Fin 4} {x : Value} (pc' : Nat) (l' : Array Slot) (hd : decode bs pc = .ok (.astore_n k, 1)) (hp : pc + 1 = pc') (hv : x.isRef = true) (hl : storeLocals Ls k.val x = some l')
    (hr : Go p e below s n0 Q C N (T.setTop (mkF m pc' l' (st)))) : Go p e below s n0 Q C N (T.setTop (mkF m pc Ls (x :: st))) := by
  obtain ⟨vm0, locs, k0, Y, -, hS, hk0, hZ, hown⟩ := X
  obtain ⟨hx, hby, -⟩ := K
  subst hp
  exact Go.step (fun _ k => XS.astoreN Y.here hx (g := mkF m pc Ls (x :: st)) rfl (hb hby hd) rfl hv hl k) hr
theorem g_astore (K : Cx p meth c nm bs ml rt) (X : Sd p l e R s m args below meth c n0 Z own T cells slots) {k : Nat} {x : Value} (pc' : Nat) (l' : Array Slot) (hd : decode bs pc = .ok (.astore k, 2)) (hp : pc + 2 = pc') (hv : x.isRef = true) (hl : storeLocals Ls k x = some l')
    (hr : Go p e below s n0 Q C N (T.setTop (mkF m pc' l' (st)))) : Go p e below s n0 Q C N (T.setTop (mkF m pc Ls (x :: st))) := by
  obtain ⟨vm0, locs, k0, Y, -, hS, hk0, hZ, hown⟩ := X
  obtain ⟨hx, hby, -⟩ := K
  subst hp
  exact Go.step (fun _ k => XS.astore Y.here hx (g := mkF m pc Ls (x :: st)) rfl (hb hby hd) rfl hv hl k) hr
theorem g_iinc (K : Cx p meth c nm bs ml rt) (X : Sd p l e R s m args below meth c n0 Z own T cells slots) {k : Nat} {cst : Int} {x : Int32} (v : Int32) (pc' : Nat) (l' : Array Slot) (hd : decode bs pc = .ok (.iinc k cst, 3)) (hp : pc + 3 = pc') (hv : Int32.ofInt cst = v) (hl : Ls[k]? = some (.val (.int x))) (hl' : storeLocals Ls k (.int (x + v)) = some l')
    (hr : Go p e below s n0 Q C N (T.setTop (mkF m pc' l' (st)))) : Go p e below s n0 Q C N (T.setTop (mkF m pc Ls (st))) := by
  obtain ⟨vm0, locs, k0, Y, -, hS, hk0, hZ, hown⟩ := X
  obtain ⟨hx, hby, -⟩ := K
  subst hp
  exact Go.step (fun _ k => XT.iincV Y.here hx (g := mkF m pc Ls (st)) rfl v (hb hby hd) hv hl hl' k) hr
theorem g_iadd (K : Cx p meth c nm bs ml rt) (X : Sd p l e R s m args below meth c n0 Z own T cells slots) {x y : Int32} (pc' : Nat) (hd : decode bs pc = .ok (.iadd, 1)) (hp : pc + 1 = pc') 
    (hr : Go p e below s n0 Q C N (T.setTop (mkF m pc' Ls (.int (x + y) :: st)))) : Go p e below s n0 Q C N (T.setTop (mkF m pc Ls (.int y :: .int x :: st))) := by
  obtain ⟨vm0, locs, k0, Y, -, hS, hk0, hZ, hown⟩ := X
  obtain ⟨hx, hby, -⟩ := K
  subst hp
  exact Go.step (fun _ k => XS.iadd Y.here hx (g := mkF m pc Ls (.int y :: .int x :: st)) rfl (hb hby hd) rfl k) hr
theorem g_isub (K : Cx p meth c nm bs ml rt) (X : Sd p l e R s m args below meth c n0 Z own T cells slots) {x y : Int32} (pc' : Nat) (hd : decode bs pc = .ok (.isub, 1)) (hp : pc + 1 = pc') 
    (hr : Go p e below s n0 Q C N (T.setTop (mkF m pc' Ls (.int (x - y) :: st)))) : Go p e below s n0 Q C N (T.setTop (mkF m pc Ls (.int y :: .int x :: st))) := by
  obtain ⟨vm0, locs, k0, Y, -, hS, hk0, hZ, hown⟩ := X
  obtain ⟨hx, hby, -⟩ := K
  subst hp
  exact Go.step (fun _ k => XS.isub Y.here hx (g := mkF m pc Ls (.int y :: .int x :: st)) rfl (hb hby hd) rfl k) hr
theorem g_imul (K : Cx p meth c nm bs ml rt) (X : Sd p l e R s m args below meth c n0 Z own T cells slots) {x y : Int32} (pc' : Nat) (hd : decode bs pc = .ok (.imul, 1)) (hp : pc + 1 = pc') 
    (hr : Go p e below s n0 Q C N (T.setTop (mkF m pc' Ls (.int (x * y) :: st)))) : Go p e below s n0 Q C N (T.setTop (mkF m pc Ls (.int y :: .int x :: st))) := by
  obtain ⟨vm0, locs, k0, Y, -, hS, hk0, hZ, hown⟩ := X
  obtain ⟨hx, hby, -⟩ := K
  subst hp
  exact Go.step (fun _ k => XS.imul Y.here hx (g := mkF m pc Ls (.int y :: .int x :: st)) rfl (hb hby hd) rfl k) hr
theorem g_iand (K : Cx p meth c nm bs ml rt) (X : Sd p l e R s m args below meth c n0 Z own T cells slots) {x y : Int32} (pc' : Nat) (hd : decode bs pc = .ok (.iand, 1)) (hp : pc + 1 = pc') 
    (hr : Go p e below s n0 Q C N (T.setTop (mkF m pc' Ls (.int (x &&& y) :: st)))) : Go p e below s n0 Q C N (T.setTop (mkF m pc Ls (.int y :: .int x :: st))) := by
  obtain ⟨vm0, locs, k0, Y, -, hS, hk0, hZ, hown⟩ := X
  obtain ⟨hx, hby, -⟩ := K
  subst hp
  exact Go.step (fun _ k => XS.iand Y.here hx (g := mkF m pc Ls (.int y :: .int x :: st)) rfl (hb hby hd) rfl k) hr
theorem g_ior (K : Cx p meth c nm bs ml rt) (X : Sd p l e R s m args below meth c n0 Z own T cells slots) {x y : Int32} (pc' : Nat) (hd : decode bs pc = .ok (.ior, 1)) (hp : pc + 1 = pc') 
    (hr : Go p e below s n0 Q C N (T.setTop (mkF m pc' Ls (.int (x ||| y) :: st)))) : Go p e below s n0 Q C N (T.setTop (mkF m pc Ls (.int y :: .int x :: st))) := by
  obtain ⟨vm0, locs, k0, Y, -, hS, hk0, hZ, hown⟩ := X
  obtain ⟨hx, hby, -⟩ := K
  subst hp
  exact Go.step (fun _ k => XT.ior Y.here hx (g := mkF m pc Ls (.int y :: .int x :: st)) rfl (hb hby hd) rfl k) hr
theorem g_ixor (K : Cx p meth c nm bs ml rt) (X : Sd p l e R s m args below meth c n0 Z own T cells slots) {x y : Int32} (pc' : Nat) (hd : decode bs pc = .ok (.ixor, 1)) (hp : pc + 1 = pc') 
    (hr : Go p e below s n0 Q C N (T.setTop (mkF m pc' Ls (.int (x ^^^ y) :: st)))) : Go p e below s n0 Q C N (T.setTop (mkF m pc Ls (.int y :: .int x :: st))) := by
  obtain ⟨vm0, locs, k0, Y, -, hS, hk0, hZ, hown⟩ := X
  obtain ⟨hx, hby, -⟩ := K
  subst hp
  exact Go.step (fun _ k => XT.ixor Y.here hx (g := mkF m pc Ls (.int y :: .int x :: st)) rfl (hb hby hd) rfl k) hr
theorem g_ishl (K : Cx p meth c nm bs ml rt) (X : Sd p l e R s m args below meth c n0 Z own T cells slots) {x y : Int32} (pc' : Nat) (hd : decode bs pc = .ok (.ishl, 1)) (hp : pc + 1 = pc') 
    (hr : Go p e below s n0 Q C N (T.setTop (mkF m pc' Ls (.int (x <<< (y &&& 31)) :: st)))) : Go p e below s n0 Q C N (T.setTop (mkF m pc Ls (.int y :: .int x :: st))) := by
  obtain ⟨vm0, locs, k0, Y, -, hS, hk0, hZ, hown⟩ := X
  obtain ⟨hx, hby, -⟩ := K
  subst hp
  exact Go.step (fun _ k => XT.ishl Y.here hx (g := mkF m pc Ls (.int y :: .int x :: st)) rfl (hb hby hd) rfl k) hr
theorem g_ishr (K : Cx p meth c nm bs ml rt) (X : Sd p l e R s m args below meth c n0 Z own T cells slots) {x y : Int32} (pc' : Nat) (hd : decode bs pc = .ok (.ishr, 1)) (hp : pc + 1 = pc') 
    (hr : Go p e below s n0 Q C N (T.setTop (mkF m pc' Ls (.int (x >>> (y &&& 31)) :: st)))) : Go p e below s n0 Q C N (T.setTop (mkF m pc Ls (.int y :: .int x :: st))) := by
  obtain ⟨vm0, locs, k0, Y, -, hS, hk0, hZ, hown⟩ := X
  obtain ⟨hx, hby, -⟩ := K
  subst hp
  exact Go.step (fun _ k => XT.ishr Y.here hx (g := mkF m pc Ls (.int y :: .int x :: st)) rfl (hb hby hd) rfl k) hr
theorem g_iushr (K : Cx p meth c nm bs ml rt) (X : Sd p l e R s m args below meth c n0 Z own T cells slots) {x y : Int32} (pc' : Nat) (hd : decode bs pc = .ok (.iushr, 1)) (hp : pc + 1 = pc') 
    (hr : Go p e below s n0 Q C N (T.setTop (mkF m pc' Ls (.int (XT.ushr x y) :: st)))) : Go p e below s n0 Q C N (T.setTop (mkF m pc Ls (.int y :: .int x :: st))) := by
  obtain ⟨vm0, locs, k0, Y, -, hS, hk0, hZ, hown⟩ := X
  obtain ⟨hx, hby, -⟩ := K
  subst hp
  exact Go.step (fun _ k => XT.iushr Y.here hx (g := mkF m pc Ls (.int y :: .int x :: st)) rfl (hb hby hd) rfl k) hr
theorem g_irem (K : Cx p meth c nm bs ml rt) (X : Sd p l e R s m args below meth c n0 Z own T cells slots) {x y : Int32} (pc' : Nat) (hd : decode bs pc = .ok (.irem, 1)) (hp : pc + 1 = pc') (hy : y ≠ 0)
    (hr : Go p e below s n0 Q C N (T.setTop (mkF m pc' Ls (.int (x % y) :: st)))) : Go p e below s n0 Q C N (T.setTop (mkF m pc Ls (.int y :: .int x :: st))) := by
  obtain ⟨vm0, locs, k0, Y, -, hS, hk0, hZ, hown⟩ := X
  obtain ⟨hx, hby, -⟩ := K
  subst hp
  exact Go.step (fun _ k => iremM Y hx (g := mkF m pc Ls (.int y :: .int x :: st)) rfl (hb hby hd) rfl hy k) hr
theorem g_ladd (K : Cx p meth c nm bs ml rt) (X : Sd p l e R s m args below meth c n0 Z own T cells slots) {x y : Int64} (pc' : Nat) (hd : decode bs pc = .ok (.ladd, 1)) (hp : pc + 1 = pc') 
    (hr : Go p e below s n0 Q C N (T.setTop (mkF m pc' Ls (.long (x + y) :: st)))) : Go p e below s n0 Q C N (T.setTop (mkF m pc Ls (.long y :: .long x :: st))) := by
  obtain ⟨vm0, locs, k0, Y, -, hS, hk0, hZ, hown⟩ := X
  obtain ⟨hx, hby, -⟩ := K
  subst hp
  exact Go.step (fun _ k => XT.ladd Y.here hx (g := mkF m pc Ls (.long y :: .long x :: st)) rfl (hb hby hd) rfl k) hr
theorem g_lsub (K : Cx p meth c nm bs ml rt) (X : Sd p l e R s m args below meth c n0 Z own T cells slots) {x y : Int64} (pc' : Nat) (hd : decode bs pc = .ok (.lsub, 1)) (hp : pc + 1 = pc') 
    (hr : Go p e below s n0 Q C N (T.setTop (mkF m pc' Ls (.long (x - y) :: st)))) : Go p e below s n0 Q C N (T.setTop (mkF m pc Ls (.long y :: .long x :: st))) := by
  obtain ⟨vm0, locs, k0, Y, -, hS, hk0, hZ, hown⟩ := X
  obtain ⟨hx, hby, -⟩ := K
  subst hp
  exact Go.step (fun _ k => XT.lsub Y.here hx (g := mkF m pc Ls (.long y :: .long x :: st)) rfl (hb hby hd) rfl k) hr
theorem g_land (K : Cx p meth c nm bs ml rt) (X : Sd p l e R s m args below meth c n0 Z own T cells slots) {x y : Int64} (pc' : Nat) (hd : decode bs pc = .ok (.land, 1)) (hp : pc + 1 = pc') 
    (hr : Go p e below s n0 Q C N (T.setTop (mkF m pc' Ls (.long (x &&& y) :: st)))) : Go p e below s n0 Q C N (T.setTop (mkF m pc Ls (.long y :: .long x :: st))) := by
  obtain ⟨vm0, locs, k0, Y, -, hS, hk0, hZ, hown⟩ := X
  obtain ⟨hx, hby, -⟩ := K
  subst hp
  exact Go.step (fun _ k => XT.land Y.here hx (g := mkF m pc Ls (.long y :: .long x :: st)) rfl (hb hby hd) rfl k) hr
theorem g_lor (K : Cx p meth c nm bs ml rt) (X : Sd p l e R s m args below meth c n0 Z own T cells slots) {x y : Int64} (pc' : Nat) (hd : decode bs pc = .ok (.lor, 1)) (hp : pc + 1 = pc') 
    (hr : Go p e below s n0 Q C N (T.setTop (mkF m pc' Ls (.long (x ||| y) :: st)))) : Go p e below s n0 Q C N (T.setTop (mkF m pc Ls (.long y :: .long x :: st))) := by
  obtain ⟨vm0, locs, k0, Y, -, hS, hk0, hZ, hown⟩ := X
  obtain ⟨hx, hby, -⟩ := K
  subst hp
  exact Go.step (fun _ k => XT.lor Y.here hx (g := mkF m pc Ls (.long y :: .long x :: st)) rfl (hb hby hd) rfl k) hr
theorem g_lxor (K : Cx p meth c nm bs ml rt) (X : Sd p l e R s m args below meth c n0 Z own T cells slots) {x y : Int64} (pc' : Nat) (hd : decode bs pc = .ok (.lxor, 1)) (hp : pc + 1 = pc') 
    (hr : Go p e below s n0 Q C N (T.setTop (mkF m pc' Ls (.long (x ^^^ y) :: st)))) : Go p e below s n0 Q C N (T.setTop (mkF m pc Ls (.long y :: .long x :: st))) := by
  obtain ⟨vm0, locs, k0, Y, -, hS, hk0, hZ, hown⟩ := X
  obtain ⟨hx, hby, -⟩ := K
  subst hp
  exact Go.step (fun _ k => XT.lxor Y.here hx (g := mkF m pc Ls (.long y :: .long x :: st)) rfl (hb hby hd) rfl k) hr
theorem g_lshl (K : Cx p meth c nm bs ml rt) (X : Sd p l e R s m args below meth c n0 Z own T cells slots) {x : Int64} {y : Int32} (pc' : Nat) (hd : decode bs pc = .ok (.lshl, 1)) (hp : pc + 1 = pc') 
    (hr : Go p e below s n0 Q C N (T.setTop (mkF m pc' Ls (.long (x <<< (y.toInt64 &&& 63)) :: st)))) : Go p e below s n0 Q C N (T.setTop (mkF m pc Ls (.int y :: .long x :: st))) := by
  obtain ⟨vm0, locs, k0, Y, -, hS, hk0, hZ, hown⟩ := X
  obtain ⟨hx, hby, -⟩ := K
  subst hp
  exact Go.step (fun _ k => XT.lshl Y.here hx (g := mkF m pc Ls (.int y :: .long x :: st)) rfl (hb hby hd) rfl k) hr
theorem g_lushr (K : Cx p meth c nm bs ml rt) (X : Sd p l e R s m args below meth c n0 Z own T cells slots) {x : Int64} {y : Int32} (pc' : Nat) (hd : decode bs pc = .ok (.lushr, 1)) (hp : pc + 1 = pc') 
    (hr : Go p e below s n0 Q C N (T.setTop (mkF m pc' Ls (.long (XT.ushrL x y) :: st)))) : Go p e below s n0 Q C N (T.setTop (mkF m pc Ls (.int y :: .long x :: st))) := by
  obtain ⟨vm0, locs, k0, Y, -, hS, hk0, hZ, hown⟩ := X
  obtain ⟨hx, hby, -⟩ := K
  subst hp
  exact Go.step (fun _ k => XT.lushr Y.here hx (g := mkF m pc Ls (.int y :: .long x :: st)) rfl (hb hby hd) rfl k) hr
theorem g_lcmp (K : Cx p meth c nm bs ml rt) (X : Sd p l e R s m args below meth c n0 Z own T cells slots) {x y : Int64} (pc' : Nat) (hd : decode bs pc = .ok (.lcmp, 1)) (hp : pc + 1 = pc') 
    (hr : Go p e below s n0 Q C N (T.setTop (mkF m pc' Ls (.int (XT.cmpL x y) :: st)))) : Go p e below s n0 Q C N (T.setTop (mkF m pc Ls (.long y :: .long x :: st))) := by
  obtain ⟨vm0, locs, k0, Y, -, hS, hk0, hZ, hown⟩ := X
  obtain ⟨hx, hby, -⟩ := K
  subst hp
  exact Go.step (fun _ k => XT.lcmp Y.here hx (g := mkF m pc Ls (.long y :: .long x :: st)) rfl (hb hby hd) rfl k) hr
theorem g_i2l (K : Cx p meth c nm bs ml rt) (X : Sd p l e R s m args below meth c n0 Z own T cells slots) {x : Int32} (pc' : Nat) (hd : decode bs pc = .ok (.i2l, 1)) (hp : pc + 1 = pc') 
    (hr : Go p e below s n0 Q C N (T.setTop (mkF m pc' Ls (.long x.toInt64 :: st)))) : Go p e below s n0 Q C N (T.setTop (mkF m pc Ls (.int x :: st))) := by
  obtain ⟨vm0, locs, k0, Y, -, hS, hk0, hZ, hown⟩ := X
  obtain ⟨hx, hby, -⟩ := K
  subst hp
  exact Go.step (fun _ k => XT.i2l Y.here hx (g := mkF m pc Ls (.int x :: st)) rfl (hb hby hd) rfl k) hr
theorem g_l2i (K : Cx p meth c nm bs ml rt) (X : Sd p l e R s m args below meth c n0 Z own T cells slots) {x : Int64} (pc' : Nat) (hd : decode bs pc = .ok (.l2i, 1)) (hp : pc + 1 = pc') 
    (hr : Go p e below s n0 Q C N (T.setTop (mkF m pc' Ls (.int x.toInt32 :: st)))) : Go p e below s n0 Q C N (T.setTop (mkF m pc Ls (.long x :: st))) := by
  obtain ⟨vm0, locs, k0, Y, -, hS, hk0, hZ, hown⟩ := X
  obtain ⟨hx, hby, -⟩ := K
  subst hp
  exact Go.step (fun _ k => XT.l2i Y.here hx (g := mkF m pc Ls (.long x :: st)) rfl (hb hby hd) rfl k) hr
theorem g_i2b (K : Cx p meth c nm bs ml rt) (X : Sd p l e R s m args below meth c n0 Z own T cells slots) {x : Int32} (pc' : Nat) (hd : decode bs pc = .ok (.i2b, 1)) (hp : pc + 1 = pc') 
    (hr : Go p e below s n0 Q C N (T.setTop (mkF m pc' Ls (.int x.toInt8.toInt32 :: st)))) : Go p e below s n0 Q C N (T.setTop (mkF m pc Ls (.int x :: st))) := by
  obtain ⟨vm0, locs, k0, Y, -, hS, hk0, hZ, hown⟩ := X
  obtain ⟨hx, hby, -⟩ := K
  subst hp
  exact Go.step (fun _ k => XT.i2b Y.here hx (g := mkF m pc Ls (.int x :: st)) rfl (hb hby hd) rfl k) hr
theorem g_dup (K : Cx p meth c nm bs ml rt) (X : Sd p l e R s m args below meth c n0 Z own T cells slots) {x : Value} (pc' : Nat) (hd : decode bs pc = .ok (.dup, 1)) (hp : pc + 1 = pc') (hc : x.category = 1)
    (hr : Go p e below s n0 Q C N (T.setTop (mkF m pc' Ls (x :: x :: st)))) : Go p e below s n0 Q C N (T.setTop (mkF m pc Ls (x :: st))) := by
  obtain ⟨vm0, locs, k0, Y, -, hS, hk0, hZ, hown⟩ := X
  obtain ⟨hx, hby, -⟩ := K
  subst hp
  exact Go.step (fun _ k => XS.dup Y.here hx (g := mkF m pc Ls (x :: st)) rfl (hb hby hd) rfl hc k) hr
theorem g_dup_x1 (K : Cx p meth c nm bs ml rt) (X : Sd p l e R s m args below meth c n0 Z own T cells slots) {x y : Value} (pc' : Nat) (hd : decode bs pc = .ok (.dup_x1, 1)) (hp : pc + 1 = pc') (hc : x.category = 1) (hc' : y.category = 1)
    (hr : Go p e below s n0 Q C N (T.setTop (mkF m pc' Ls (x :: y :: x :: st)))) : Go p e below s n0 Q C N (T.setTop (mkF m pc Ls (x :: y :: st))) := by
  obtain ⟨vm0, locs, k0, Y, -, hS, hk0, hZ, hown⟩ := X
  obtain ⟨hx, hby, -⟩ := K
  subst hp
  exact Go.step (fun _ k => XT.dupX1 Y.here hx (g := mkF m pc Ls (x :: y :: st)) rfl (hb hby hd) rfl hc hc' k) hr
theorem g_dup2 (K : Cx p meth c nm bs ml rt) (X : Sd p l e R s m args below meth c n0 Z own T cells slots) {x y : Value} (pc' : Nat) (hd : decode bs pc = .ok (.dup2, 1)) (hp : pc + 1 = pc') (hc : x.category = 1) (hc' : y.category = 1)
    (hr : Go p e below s n0 Q C N (T.setTop (mkF m pc' Ls (x :: y :: x :: y :: st)))) : Go p e below s n0 Q C N (T.setTop (mkF m pc Ls (x :: y :: st))) := by
  obtain ⟨vm0, locs, k0, Y, -, hS, hk0, hZ, hown⟩ := X
  obtain ⟨hx, hby, -⟩ := K
  subst hp
  exact Go.step (fun _ k => XT.dup2 Y.here hx (g := mkF m pc Ls (x :: y :: st)) rfl (hb hby hd) rfl hc hc' k) hr
theorem g_pop (K : Cx p meth c nm bs ml rt) (X : Sd p l e R s m args below meth c n0 Z own T cells slots) {x : Value} (pc' : Nat) (hd : decode bs pc = .ok (.pop, 1)) (hp : pc + 1 = pc') (hc : x.category = 1)
    (hr : Go p e below s n0 Q C N (T.setTop (mkF m pc' Ls (st)))) : Go p e below s n0 Q C N (T.setTop (mkF m pc Ls (x :: st))) := by
  obtain ⟨vm0, locs, k0, Y, -, hS, hk0, hZ, hown⟩ := X
  obtain ⟨hx, hby, -⟩ := K
  subst hp
  exact Go.step (fun _ k => XT.pop Y.here hx (g := mkF m pc Ls (x :: st)) rfl (hb hby hd) rfl hc k) hr
theorem g_goto (K : Cx p meth c nm bs ml rt) (X : Sd p l e R s m args below meth c n0 Z own T cells slots) {o : Int} (pc' : Nat) (hd : decode bs pc = .ok (.goto o, 3)) (hp : (pc : Int) + o = (pc' : Int))
    (hr : Go p e below s n0 Q C N (T.setTop (mkF m pc' Ls st))) : Go p e below s n0 Q C N (T.setTop (mkF m pc Ls st)) := by
  obtain ⟨vm0, locs, k0, Y, -, hS, hk0, hZ, hown⟩ := X
  obtain ⟨hx, hby, -⟩ := K
  exact Go.step (fun _ k => XS.goto Y.here hx (g := mkF m pc Ls st) rfl (pc0 := pc) (pc' := pc') rfl (hb hby hd) (by omega) (by omega) k) hr
theorem g_icmpT (K : Cx p meth c nm bs ml rt) (X : Sd p l e R s m args below meth c n0 Z own T cells slots) {cd : ClassFile.Cond} {x y : Int32} {o : Int} (pc' : Nat) (hd : decode bs pc = .ok (.if_icmp cd o, 3)) (hp : (pc : Int) + o = (pc' : Int)) (hc : cdP cd x y)
    (hr : Go p e below s n0 Q C N (T.setTop (mkF m pc' Ls st))) : Go p e below s n0 Q C N (T.setTop (mkF m pc Ls (.int y :: .int x :: st))) := by
  obtain ⟨vm0, locs, k0, Y, -, hS, hk0, hZ, hown⟩ := X
  obtain ⟨hx, hby, -⟩ := K
  exact Go.step (fun _ k => XS.icmpYes Y.here hx (g := mkF m pc Ls (.int y :: .int x :: st)) rfl (pc0 := pc) (pc' := pc') rfl (hb hby hd) rfl (cdT hc) (by omega) (by omega) k) hr
theorem g_icmpF (K : Cx p meth c nm bs ml rt) (X : Sd p l e R s m args below meth c n0 Z own T cells slots) {cd : ClassFile.Cond} {x y : Int32} {o : Int} (pc' : Nat) (hd : decode bs pc = .ok (.if_icmp cd o, 3)) (hp : pc + 3 = pc') (hc : ¬ cdP cd x y)
    (hr : Go p e below s n0 Q C N (T.setTop (mkF m pc' Ls st))) : Go p e below s n0 Q C N (T.setTop (mkF m pc Ls (.int y :: .int x :: st))) := by
  obtain ⟨vm0, locs, k0, Y, -, hS, hk0, hZ, hown⟩ := X
  obtain ⟨hx, hby, -⟩ := K
  subst hp
  exact Go.step (fun _ k => XS.icmpNo Y.here hx (g := mkF m pc Ls (.int y :: .int x :: st)) rfl (hb hby hd) rfl (cdF hc) k) hr
theorem g_ifT (K : Cx p meth c nm bs ml rt) (X : Sd p l e R s m args below meth c n0 Z own T cells slots) {cd : ClassFile.Cond} {x : Int32} {o : Int} (pc' : Nat) (hd : decode bs pc = .ok (.ifCond cd o, 3)) (hp : (pc : Int) + o = (pc' : Int)) (hc : cdP cd x 0)
    (hr : Go p e below s n0 Q C N (T.setTop (mkF m pc' Ls st))) : Go p e below s n0 Q C N (T.setTop (mkF m pc Ls (.int x :: st))) := by
  obtain ⟨vm0, locs, k0, Y, -, hS, hk0, hZ, hown⟩ := X
  obtain ⟨hx, hby, -⟩ := K
  exact Go.step (fun _ k => XS.ifYes Y.here hx (g := mkF m pc Ls (.int x :: st)) rfl (pc0 := pc) (pc' := pc') rfl (hb hby hd) rfl ((if0 _ _).trans (cdT hc)) (by omega) (by omega) k) hr
theorem g_ifF (K : Cx p meth c nm bs ml rt) (X : Sd p l e R s m args below meth c n0 Z own T cells slots) {cd : ClassFile.Cond} {x : Int32} {o : Int} (pc' : Nat) (hd : decode bs pc = .ok (.ifCond cd o, 3)) (hp : pc + 3 = pc') (hc : ¬ cdP cd x 0)
    (hr : Go p e below s n0 Q C N (T.setTop (mkF m pc' Ls st))) : Go p e below s n0 Q C N (T.setTop (mkF m pc Ls (.int x :: st))) := by
  obtain ⟨vm0, locs, k0, Y, -, hS, hk0, hZ, hown⟩ := X
  obtain ⟨hx, hby, -⟩ := K
  subst hp
  exact Go.step (fun _ k => XS.ifNo Y.here hx (g := mkF m pc Ls (.int x :: st)) rfl (hb hby hd) rfl ((if0 _ _).trans (cdF hc)) k) hr
theorem g_icmp (K : Cx p meth c nm bs ml rt) (X : Sd p l e R s m args below meth c n0 Z own T cells slots) {cd : ClassFile.Cond} {x y : Int32} {o : Int} (pT pF : Nat) (hd : decode bs pc = .ok (.if_icmp cd o, 3)) (hp : (pc : Int) + o = (pT : Int)) (hq : pc + 3 = pF)
    (ht : cdP cd x y → Go p e below s n0 Q C N (T.setTop (mkF m pT Ls st))) (hf : ¬ cdP cd x y → Go p e below s n0 Q C N (T.setTop (mkF m pF Ls st))) : Go p e below s n0 Q C N (T.setTop (mkF m pc Ls (.int y :: .int x :: st))) :=
  (Classical.em (cdP cd x y)).elim (fun q => g_icmpT K X pT hd hp q (ht q)) (fun q => g_icmpF K X pF hd hq q (hf q))
theorem g_if (K : Cx p meth c nm bs ml rt) (X : Sd p l e R s m args below meth c n0 Z own T cells slots) {cd : ClassFile.Cond} {x : Int32} {o : Int} (pT pF : Nat) (hd : decode bs pc = .ok (.ifCond cd o, 3)) (hp : (pc : Int) + o = (pT : Int)) (hq : pc + 3 = pF)
    (ht : cdP cd x 0 → Go p e below s n0 Q C N (T.setTop (mkF m pT Ls st))) (hf : ¬ cdP cd x 0 → Go p e below s n0 Q C N (T.setTop (mkF m pF Ls st))) : Go p e below s n0 Q C N (T.setTop (mkF m pc Ls (.int x :: st))) :=
  (Classical.em (cdP cd x 0)).elim (fun q => g_ifT K X pT hd hp q (ht q)) (fun q => g_ifF K X pF hd hq q (hf q))
theorem g_acmpT (K : Cx p meth c nm bs ml rt) (X : Sd p l e R s m args below meth c n0 Z own T cells slots) {cd : ACond} {x y : Value} {o : Int} (pc' : Nat) (hd : decode bs pc = .ok (.if_acmp cd o, 3)) (hp : (pc : Int) + o = (pc' : Int)) (h1 : x.isRef = true) (h2 : y.isRef = true) (hc : acV cd (decide (x = y)) = true)
    (hr : Go p e below s n0 Q C N (T.setTop (mkF m pc' Ls st))) : Go p e below s n0 Q C N (T.setTop (mkF m pc Ls (y :: x :: st))) := by
  obtain ⟨vm0, locs, k0, Y, -, hS, hk0, hZ, hown⟩ := X
  obtain ⟨hx, hby, -⟩ := K
  exact Go.step (fun _ k => acmp Y hx (g := mkF m pc Ls (y :: x :: st)) rfl h1 h2 (pc0 := pc) (pc' := pc') rfl (hb hby hd) rfl rfl (by omega) (by rw [if_pos hc]; omega) k) hr
theorem g_acmpF (K : Cx p meth c nm bs ml rt) (X : Sd p l e R s m args below meth c n0 Z own T cells slots) {cd : ACond} {x y : Value} {o : Int} (pc' : Nat) (hd : decode bs pc = .ok (.if_acmp cd o, 3)) (hp : pc + 3 = pc') (ho : 0 ≤ (pc : Int) + o) (h1 : x.isRef = true) (h2 : y.isRef = true) (hc : acV cd (decide (x = y)) = false)
    (hr : Go p e below s n0 Q C N (T.setTop (mkF m pc' Ls st))) : Go p e below s n0 Q C N (T.setTop (mkF m pc Ls (y :: x :: st))) := by
  obtain ⟨vm0, locs, k0, Y, -, hS, hk0, hZ, hown⟩ := X
  obtain ⟨hx, hby, -⟩ := K
  exact Go.step (fun _ k => acmp Y hx (g := mkF m pc Ls (y :: x :: st)) rfl h1 h2 (pc0 := pc) (pc' := pc') rfl (hb hby hd) rfl rfl ho (by rw [if_neg (by rw [hc]; exact Bool.false_ne_true)]; exact hp.symm) k) hr
theorem g_ldcI (K : Cx p meth c nm bs ml rt) (X : Sd p l e R s m args below meth c n0 Z own T cells slots) {index : Nat} {v : Int32} (w : (Jvm.Cond.constant own index v).before a0 Z = true) (pc' : Nat) (hd : decode bs pc = .ok (.ldc index, 2)) (hp : pc + 2 = pc')
    (hr : Go p e below s n0 Q C N (T.setTop (mkF m pc' Ls (.int v :: st)))) : Go p e below s n0 Q C N (T.setTop (mkF m pc Ls st)) := by
  obtain ⟨vm0, locs, k0, Y, -, hS, hk0, hZ, hown⟩ := X
  obtain ⟨hx, hby, -⟩ := K
  subst hp
  exact Go.step (fun _ k => Y.ldcI hx hown (mvT hZ w) (g := mkF m pc Ls st) rfl (hb hby hd) k) hr
theorem g_ldc2J (K : Cx p meth c nm bs ml rt) (X : Sd p l e R s m args below meth c n0 Z own T cells slots) {index : Nat} {v : Int64} (w : (Jvm.Cond.constantLong own index v).before a0 Z = true) (pc' : Nat) (hd : decode bs pc = .ok (.ldc2_w index, 3)) (hp : pc + 3 = pc')
    (hr : Go p e below s n0 Q C N (T.setTop (mkF m pc' Ls (.long v :: st)))) : Go p e below s n0 Q C N (T.setTop (mkF m pc Ls st)) := by
  obtain ⟨vm0, locs, k0, Y, -, hS, hk0, hZ, hown⟩ := X
  obtain ⟨hx, hby, -⟩ := K
  subst hp
  exact Go.step (fun _ k => Y.ldc2J hx hown (mvT hZ w) (g := mkF m pc Ls st) rfl (hb hby hd) k) hr
theorem g_getF (K : Cx p meth c nm bs ml rt) (X : Sd p l e R s m args below meth c n0 Z own T cells slots) (eh : T.heap = h) {O n d : String} {index : Nat} (w : (Jvm.Cond.fieldLink own index O n d).before a0 Z = true) {a : Addr} {v : Value} (F : Fld Z h a O n d v) (pc' : Nat) (hd : decode bs pc = .ok (.getfield index, 3)) (hp : pc + 3 = pc')
    (hr : ∀ T', Sd p l e R s m args below meth c n0 Z own T' cells slots → T'.heap = h → Go p e below s n0 Q C N (T'.setTop (mkF m pc' Ls (v :: st)))) : Go p e below s n0 Q C N (T.setTop (mkF m pc Ls (.ref a :: st))) := by
  obtain ⟨vm0, locs, k0, Y, hN, hS, hk0, hZ, hown⟩ := X
  obtain ⟨hx, hby, -⟩ := K
  subst hp
  obtain ⟨T', X', e', k⟩ := getF Y hx hZ hown (host := "") (Or.inl w) Via.refl eh F (g := mkF m pc Ls (.ref a :: st)) rfl rfl (hb hby hd)
  exact Go.step k (hr T' ⟨vm0, locs, k0, X', hN, hS, by rw [e', ← eh]; exact hk0, hZ, hown⟩ e')
theorem g_putF (K : Cx p meth c nm bs ml rt) (X : Sd p l e R s m args below meth c n0 Z own T cells slots) (eh : T.heap = h) {O n d D : String} {index kk : Nat} {ty : FieldType} (w : (Jvm.Cond.fieldLink own index O n d).before a0 Z = true) {a : Addr} {v old : Value} (F : Fld Z h a O n d old) (E : Exa Z h a D) (L : (Jvm.Cond.lays D O n d).before a0 Z = true ∨ ((Jvm.Cond.laysFinal D O n d).before a0 Z = true ∧ own = O ∧ nm = "<init>")) (wi : (Jvm.Cond.instantiable D kk).before a0 Z = true)
    (hty : parseFieldDescriptor d = some ty) (hn : narrow ty v = v) (hf : fits ty v = true) (ge : n0 ≤ a) (pc' : Nat) (hd : decode bs pc = .ok (.putfield index, 3)) (hp : pc + 3 = pc')
    (hr : ∀ T' h', Sd p l e R s m args below meth c n0 Z own T' cells slots → T'.heap = h' → Wr h h' a (Jvm.RoadKit.slotOf Z O n d) v → Go p e below s n0 Q C N (T'.setTop (mkF m pc' Ls st))) : Go p e below s n0 Q C N (T.setTop (mkF m pc Ls (v :: .ref a :: st))) := by
  obtain ⟨vm0, locs, k0, Y, hN, hS, hk0, hZ, hown⟩ := X
  obtain ⟨hx, hby, -, hnm, -⟩ := K
  subst hp
  obtain ⟨T', h', X', e', W, k⟩ := putF Y hx hZ hown (host := "") (Or.inl w) Via.refl eh F E (L.imp id fun q => ⟨q.1, q.2.1, hnm.trans q.2.2⟩) wi hty hn hf (g := mkF m pc Ls (v :: .ref a :: st)) rfl rfl (hb hby hd)
  exact Go.step k (hr T' h' ⟨vm0, _, k0, X', Fr.snoc X' hN ge, hS, by rw [e', W.size, ← eh]; exact hk0, hZ, hown⟩ e' W)
theorem g_new (K : Cx p meth c nm bs ml rt) (X : Sd p l e R s m args below meth c n0 Z own T cells slots) (eh : T.heap = h) {D : String} {index n : Nat} (w : (Jvm.Cond.classLink own index D).before a0 Z = true) (wi : (Jvm.Cond.instantiable D n).before a0 Z = true) (wz : (Jvm.Cond.initialized D).before a0 Z = true) (pc' : Nat) (hd : decode bs pc = .ok (.new index, 3)) (hp : pc + 3 = pc') (hc : cells + 1 ≤ R.cells) (hl : slots + n ≤ R.slots)
    (hr : ∀ T' h' a, a = h.size → Sd p l e R s m args below meth c n0 Z own T' (cells + 1) (slots + n) → T'.heap = h' → Ext h h' → Exa Z h' a D → (∀ {O nm d : String} {ty : FieldType}, Laid Z a0 D O nm d → parseFieldDescriptor d = some ty → Fld Z h' a O nm d (defaultValue ty)) → Go p e below s n0 Q C N (T'.setTop (mkF m pc' Ls (.ref a :: st)))) : Go p e below s n0 Q C N (T.setTop (mkF m pc Ls st)) := by
  obtain ⟨vm0, locs, k0, Y, hN, hS, hk0, hZ, hown⟩ := X
  obtain ⟨hx, hby, -⟩ := K
  subst hp
  obtain ⟨T', h', X', e', E, A, D', -, k⟩ := newO Y hx hZ hown w wi wz eh (g := mkF m pc Ls st) rfl (hb hby hd) hc hl
  exact Go.step k (hr T' h' h.size rfl ⟨vm0, locs, k0, X', hN, hS, by rw [e']; exact Nat.le_trans (by rw [← eh]; exact hk0) E.1, hZ, hown⟩ e' E A D')
theorem g_newA (K : Cx p meth c nm bs ml rt) (X : Sd p l e R s m args below meth c n0 Z own T cells slots) (eh : T.heap = h) {aty : ArrayType} (w : (Jvm.Cond.arrayClass (newarray.typeOf aty)).before a0 Z = true) (pc' : Nat) (hd : decode bs pc = .ok (.newarray aty, 2)) (hp : pc + 2 = pc') {z : Int32} {n cap : Nat} (hz : z.toInt = (n : Int)) (hcap : n ≤ cap) (hb' : cap * 8 ≤ 536870912) (hdv : defaultValue (newarray.typeOf aty) = .int 0) (hc : cells + 1 ≤ R.cells) (hl : slots + cap ≤ R.slots)
    (hr : ∀ T' h' a, a = h.size → Sd p l e R s m args below meth c n0 Z own T' (cells + 1) (slots + cap) → T'.heap = h' → Ext h h' → Ai Z h' a (newarray.typeOf aty) n (fun _ => 0) → Exa Z h' a ("[" ++ (newarray.typeOf aty).toString) → Go p e below s n0 Q C N (T'.setTop (mkF m pc' Ls (.ref a :: st)))) : Go p e below s n0 Q C N (T.setTop (mkF m pc Ls (.int z :: st))) := by
  obtain ⟨vm0, locs, k0, Y, hN, hS, hk0, hZ, hown⟩ := X
  obtain ⟨hx, hby, -⟩ := K
  subst hp
  have ez : z.toNatClampNeg = n := by rw [Int32.toNatClampNeg, hz]; rfl
  have hz0 : ¬ z < 0 := by
    rw [Int32.lt_iff_toInt_lt, hz, show (0 : Int32).toInt = 0 from rfl]; omega
  obtain ⟨T', h', cA, X', e', E, A, B, k⟩ := newPE Y hx hZ w eh (g := mkF m pc Ls (.int z :: st)) rfl (hb hby hd) (n := z) rfl hz0 (cap := cap) (by rw [ez]; exact hcap) hb' hc hl rfl
  exact Go.step k (hr T' h' h.size rfl ⟨vm0, locs, k0, X', hN, hS, by rw [e']; exact Nat.le_trans (by rw [← eh]; exact hk0) E.1, hZ, hown⟩ e' E (Ai.new A hz (by omega) hdv) B)
theorem g_len (K : Cx p meth c nm bs ml rt) (X : Sd p l e R s m args below meth c n0 Z own T cells slots) (eh : T.heap = h) {a : Addr} {ty : FieldType} {n : Nat} {f : Nat → Int32} (A : Ai Z h a ty n f) (v : Int32) (hv : Int32.ofNat n = v) (pc' : Nat) (hd : decode bs pc = .ok (.arraylength, 1)) (hp : pc + 1 = pc')
    (hr : Go p e below s n0 Q C N (T.setTop (mkF m pc' Ls (.int v :: st)))) : Go p e below s n0 Q C N (T.setTop (mkF m pc Ls (.ref a :: st))) := by
  obtain ⟨vm0, locs, k0, Y, -, hS, hk0, hZ, hown⟩ := X
  obtain ⟨hx, hby, -⟩ := K
  obtain ⟨cl, A, S, -⟩ := A
  subst hp hv
  refine Go.step (fun target k => Y.arraylength hx (cell := cl) (by rw [eh]; exact A.1) (State.isArrayOf_alike hZ.alike A.2.1) (g := mkF m pc Ls (.ref a :: st)) rfl (rest := st) rfl (hb hby hd) target ?_) hr
  rw [S]
  exact k
theorem g_iaload (K : Cx p meth c nm bs ml rt) (X : Sd p l e R s m args below meth c n0 Z own T cells slots) (eh : T.heap = h) {a : Addr} {n : Nat} {f : Nat → Int32} (A : Ai Z h a .int n f) {j : Int32} (k : Nat) (hj : j.toInt = (k : Int)) (hk : k < n) (v : Int32) (hv : f k = v) (pc' : Nat) (hd : decode bs pc = .ok (.iaload, 1)) (hp : pc + 1 = pc')
    (hr : Go p e below s n0 Q C N (T.setTop (mkF m pc' Ls (.int v :: st)))) : Go p e below s n0 Q C N (T.setTop (mkF m pc Ls (.int j :: .ref a :: st))) := by
  obtain ⟨vm0, locs, k0, Y, -, hS, hk0, hZ, hown⟩ := X
  obtain ⟨hx, hby, -⟩ := K
  obtain ⟨cl, A, S, -, H⟩ := A
  subst hp hv
  obtain ⟨i1, i2⟩ := idx_ok hj hk
  exact Go.step (fun target kk => Y.iaload hx (j := j) (v := .int (f k)) (by rw [eh]; exact A.1) (State.isArrayOf_alike hZ.alike A.2.1) A.2.2 (by rw [S]; exact i1) (by rw [i2]; exact H k hk) (g := mkF m pc Ls (.int j :: .ref a :: st)) rfl rfl (hb hby hd) target kk) hr
theorem g_baload (K : Cx p meth c nm bs ml rt) (X : Sd p l e R s m args below meth c n0 Z own T cells slots) (eh : T.heap = h) {a : Addr} {n : Nat} {f : Nat → Int32} (A : Ai Z h a .byte n f) {j : Int32} (k : Nat) (hj : j.toInt = (k : Int)) (hk : k < n) (v : Int32) (hv : f k = v) (pc' : Nat) (hd : decode bs pc = .ok (.baload, 1)) (hp : pc + 1 = pc')
    (hr : Go p e below s n0 Q C N (T.setTop (mkF m pc' Ls (.int v :: st)))) : Go p e below s n0 Q C N (T.setTop (mkF m pc Ls (.int j :: .ref a :: st))) := by
  obtain ⟨vm0, locs, k0, Y, -, hS, hk0, hZ, hown⟩ := X
  obtain ⟨hx, hby, -⟩ := K
  obtain ⟨cl, A, S, -, H⟩ := A
  subst hp hv
  obtain ⟨i1, i2⟩ := idx_ok hj hk
  exact Go.step (fun target kk => Y.baloadBytes hx (j := j) (v := .int (f k)) (by rw [eh]; exact A.1) (State.isArrayOf_alike hZ.alike A.2.1) A.2.2 (by rw [S]; exact i1) (by rw [i2]; exact H k hk) (g := mkF m pc Ls (.int j :: .ref a :: st)) rfl rfl (hb hby hd) target kk) hr
theorem g_iastore (K : Cx p meth c nm bs ml rt) (X : Sd p l e R s m args below meth c n0 Z own T cells slots) (eh : T.heap = h) {a : Addr} {n : Nat} {f : Nat → Int32} (A : Ai Z h a .int n f) {j x : Int32} (k : Nat) (hj : j.toInt = (k : Int)) (hk : k < n) (v : Int32) (hv : x = v) (ge : n0 ≤ a) (pc' : Nat) (hd : decode bs pc = .ok (.iastore, 1)) (hp : pc + 1 = pc')
    (hr : ∀ T' h', Sd p l e R s m args below meth c n0 Z own T' cells slots → T'.heap = h' → Wr h h' a k (.int v) → Ai Z h' a .int n (upA f k v) → Go p e below s n0 Q C N (T'.setTop (mkF m pc' Ls st))) : Go p e below s n0 Q C N (T.setTop (mkF m pc Ls (.int x :: .int j :: .ref a :: st))) := by
  obtain ⟨vm0, locs, k0, Y, hN, hS, hk0, hZ, hown⟩ := X
  obtain ⟨hx, hby, -⟩ := K
  have A' := A
  obtain ⟨cl, B, S, -, H⟩ := A
  subst hp hv
  obtain ⟨i1, i2⟩ := idx_ok hj hk
  obtain ⟨T', h', X', e', W, kk⟩ := stI Y hx hZ eh B (j := j) (x := x) (by rw [S]; exact i1) (g := mkF m pc Ls (.int x :: .int j :: .ref a :: st)) rfl (rest := st) rfl (hb hby hd)
  rw [i2] at W
  exact Go.step kk (hr T' h' ⟨vm0, _, k0, X', Fr.snoc X' hN ge, hS, by rw [e', W.size, ← eh]; exact hk0, hZ, hown⟩ e' W (A'.set W))
theorem g_bastore (K : Cx p meth c nm bs ml rt) (X : Sd p l e R s m args below meth c n0 Z own T cells slots) (eh : T.heap = h) {a : Addr} {n : Nat} {f : Nat → Int32} (A : Ai Z h a .byte n f) {j x : Int32} (k : Nat) (hj : j.toInt = (k : Int)) (hk : k < n) (v : Int32) (hv : x.toInt8.toInt32 = v) (ge : n0 ≤ a) (pc' : Nat) (hd : decode bs pc = .ok (.bastore, 1)) (hp : pc + 1 = pc')
    (hr : ∀ T' h', Sd p l e R s m args below meth c n0 Z own T' cells slots → T'.heap = h' → Wr h h' a k (.int v) → Ai Z h' a .byte n (upA f k v) → Go p e below s n0 Q C N (T'.setTop (mkF m pc' Ls st))) : Go p e below s n0 Q C N (T.setTop (mkF m pc Ls (.int x :: .int j :: .ref a :: st))) := by
  obtain ⟨vm0, locs, k0, Y, hN, hS, hk0, hZ, hown⟩ := X
  obtain ⟨hx, hby, -⟩ := K
  have A' := A
  obtain ⟨cl, B, S, -, H⟩ := A
  subst hp hv
  obtain ⟨i1, i2⟩ := idx_ok hj hk
  obtain ⟨T', h', X', e', W, kk⟩ := stB Y hx hZ eh B (j := j) (x := x) (by rw [S]; exact i1) (g := mkF m pc Ls (.int x :: .int j :: .ref a :: st)) rfl (rest := st) rfl (hb hby hd)
  rw [i2] at W
  exact Go.step kk (hr T' h' ⟨vm0, _, k0, X', Fr.snoc X' hN ge, hS, by rw [e', W.size, ← eh]; exact hk0, hZ, hown⟩ e' W (A'.set W))
theorem g_initO (K : Cx p meth c nm bs ml rt) (X : Sd p l e R s m args below meth c n0 Z own T cells slots) (eh : T.heap = h) (hsz : Ls.size = ml) {idx : Nat} (w1 : (Jvm.Cond.methodLink own idx Lib.objectInit).before a0 Z = true) (w2 : (Jvm.Cond.instanceMethod Lib.objectInit).before a0 Z = true) (w3 : (Jvm.Cond.code Lib.objectInit ⟨#[0xb1]⟩ 1 none).before a0 Z = true) {a : Addr} (pc' : Nat) (hd : decode bs pc = .ok (.invokespecial idx, 3)) (hp : pc + 3 = pc') (hf : 1 ≤ R.frames) (W : Nat) (hW : (st.map fun v => v.category).sum ≤ W) (hl : W + 12 ≤ R.locals)
    (hr : ∀ T', Sd p l e R s m args below meth c n0 Z own T' cells slots → T'.heap = h → Go p e below s n0 Q C N (T'.setTop (mkF m pc' Ls st))) : Go p e below s n0 Q C N (T.setTop (mkF m pc Ls (.ref a :: st))) := by
  obtain ⟨vm0, locs, k0, Y, hN, hS, hk0, hZ, hown⟩ := X
  obtain ⟨hx, hby, hml, -⟩ := K
  subst hp
  obtain ⟨T', X', e', k⟩ := initO Y hx hZ hown w1 w2 w3 eh (g := mkF m pc Ls (.ref a :: st)) rfl (by rw [hml]; exact hsz) (a := a) (rest := st) rfl (hb hby hd) hf (W := W) (by show 2 * 0 + _ ≤ _; rw [Nat.mul_zero, Nat.zero_add]; exact hW) hl
  exact Go.step k (hr T' ⟨vm0, locs, k0, X', hN, hS, by rw [e', ← eh]; exact hk0, hZ, hown⟩ e')
theorem g_special (K : Cx p meth c nm bs ml rt) (X : Sd p l e R s m args below meth c n0 Z own T cells slots) (eh : T.heap = h) (hsz : Ls.size = ml) {index : Nat} {y : MethodName} (hy1 : y.name = "<init>") {bytes : ByteArray} {maxL : Nat} {rm : Room} {as' : Array Value} {Q' : Option Value → Heap → Prop} (hM : Met l Z y bytes maxL none [] rm as' h n0 Q')
    (w1 : (Jvm.Cond.methodLink own index y).before a0 Z = true) (w2 : (Jvm.Cond.instanceMethod y).before a0 Z = true) (w3 : (Jvm.Cond.code y bytes maxL none).before a0 Z = true) (w4 : (Jvm.Cond.initialized y.cls).before a0 Z = true) (hy : y.cls ≠ "java/lang/invoke/MethodHandle" ∧ y.cls ≠ "java/lang/invoke/VarHandle")
    {a : Addr} (argsL : List Value) {S : List Value} (hS : argsL.reverse ++ .ref a :: st = S) (has : (.ref a :: argsL).toArray = as') (hlen : ∀ sig, parseMethodDescriptor y.desc = some sig → argsL.length = sig.parameters.length) (pc' : Nat) (hd : decode bs pc = .ok (.invokespecial index, 3)) (hp : pc + 3 = pc') (W : Nat) (hW : (st.map fun v => v.category).sum ≤ W) (hf : rm.frames + 1 ≤ R.frames) (hl : W + (maxL + 11) + rm.locals ≤ R.locals) (hc : cells + rm.cells ≤ R.cells) (hs : slots + rm.slots ≤ R.slots)
    (hr : ∀ T' v h', Sd p l e R s m args below meth c n0 Z own T' (cells + rm.cells) (slots + rm.slots) → T'.heap = h' → Q' v h' → Go p e below s n0 Q C N (T'.setTop (mkF m pc' Ls (v.toList ++ st)))) : Go p e below s n0 Q C N (T.setTop (mkF m pc Ls S)) := by
  obtain ⟨vm0, locs, k0, Y, hN, hSi, hk0, hZ, hown⟩ := X
  obtain ⟨hx, hby, hml, -⟩ := K
  subst hp hS has
  obtain ⟨v, vm1, ⟨T', L', k', n'⟩, -, X', h2, hg, ⟨Lc, ⟨hQ, hF⟩, l1, l2, l3⟩, k⟩ := Y.specialBackS hx hy1 hown (mvT hZ w1) (mvT hZ w2) (mvT hZ w3) hy (backOfS (W := W) (Q := fun v h L => Q' v h ∧ Fr n0 L) hM hZ w3 w4 hf hl) (g := mkF m pc Ls (argsL.reverse ++ .ref a :: st)) rfl (by rw [hml]; exact hsz) (Steps.refl _) (a := a) (argsL := argsL) (rest := st) hlen rfl (by show 2 * 0 + _ ≤ _; rw [Nat.mul_zero, Nat.zero_add]; exact hW) (hb hby hd) (fun _ _ => ⟨rfl, eh, hc, hs⟩)
  dsimp only [Pt.U, Pt.locs, Pt.cells, Pt.slots] at X' l1 l2 l3 k hQ h2 hg
  subst l1 l2 l3
  obtain ⟨X2, S2, Z2, O2⟩ := rebS hSi hk0 X' h2 hg hZ hown
  exact Go.trans k (hr T' v T'.heap ⟨T'.vm, _, _, X2, hN.app hF, S2, Nat.le_refl _, Z2, O2⟩ rfl hQ)
theorem g_static (K : Cx p meth c nm bs ml rt) (X : Sd p l e R s m args below meth c n0 Z own T cells slots) (eh : T.heap = h) (hsz : Ls.size = ml) {index : Nat} {y : MethodName} {bytes : ByteArray} {maxL : Nat} {ret : Option FieldType} {rm : Room} {as' : Array Value} {Q' : Option Value → Heap → Prop} (hM : Met l Z y bytes maxL ret [] rm as' h n0 Q')
    (w1 : (Jvm.Cond.methodLink own index y).before a0 Z = true) (w2 : (Jvm.Cond.static y).before a0 Z = true) (w3 : (Jvm.Cond.code y bytes maxL ret).before a0 Z = true) (w4 : (Jvm.Cond.initialized y.cls).before a0 Z = true) (hy : y.cls ≠ "java/lang/invoke/MethodHandle" ∧ y.cls ≠ "java/lang/invoke/VarHandle")
    (argsL : List Value) {S : List Value} (hS : argsL.reverse ++ st = S) (has : argsL.toArray = as') (hlen : ∀ sig, parseMethodDescriptor y.desc = some sig → argsL.length = sig.parameters.length) (pc' : Nat) (hd : decode bs pc = .ok (.invokestatic index, 3)) (hp : pc + 3 = pc') (W : Nat) (hW : (st.map fun v => v.category).sum ≤ W) (hf : rm.frames + 1 ≤ R.frames) (hl : W + (maxL + 11) + rm.locals ≤ R.locals) (hc : cells + rm.cells ≤ R.cells) (hs : slots + rm.slots ≤ R.slots)
    (hr : ∀ T' v h', Sd p l e R s m args below meth c n0 Z own T' (cells + rm.cells) (slots + rm.slots) → T'.heap = h' → Q' v h' → Go p e below s n0 Q C N (T'.setTop (mkF m pc' Ls (v.toList ++ st)))) : Go p e below s n0 Q C N (T.setTop (mkF m pc Ls S)) := by
  obtain ⟨vm0, locs, k0, Y, hN, hSi, hk0, hZ, hown⟩ := X
  obtain ⟨hx, hby, hml, -⟩ := K
  subst hp hS has
  obtain ⟨v, vm1, ⟨T', L', k', n'⟩, -, X', h2, hg, ⟨Lc, ⟨hQ, hF⟩, l1, l2, l3⟩, k⟩ := callSS Y hx hown (mvT hZ w1) (mvT hZ w2) (mvT hZ w4) (mvT hZ w3) hy (backOfS (W := W) (Q := fun v h L => Q' v h ∧ Fr n0 L) hM hZ w3 w4 hf hl) (g := mkF m pc Ls (argsL.reverse ++ st)) rfl (by rw [hml]; exact hsz) (argsL := argsL) (rest := st) hlen rfl (by show 2 * 0 + _ ≤ _; rw [Nat.mul_zero, Nat.zero_add]; exact hW) (hb hby hd) (fun _ _ => ⟨rfl, eh, hc, hs⟩)
  dsimp only [Pt.U, Pt.locs, Pt.cells, Pt.slots] at X' l1 l2 l3 k hQ h2 hg
  subst l1 l2 l3
  obtain ⟨X2, S2, Z2, O2⟩ := rebS hSi hk0 X' h2 hg hZ hown
  exact Go.trans k (hr T' v T'.heap ⟨T'.vm, _, _, X2, hN.app hF, S2, Nat.le_refl _, Z2, O2⟩ rfl hQ)
theorem g_virtual (K : Cx p meth c nm bs ml rt) (X : Sd p l e R s m args below meth c n0 Z own T cells slots) (eh : T.heap = h) (hsz : Ls.size = ml) {index : Nat} {D : String} {y : MethodName} {bytes : ByteArray} {maxL : Nat} {ret : Option FieldType} {rm : Room} {as' : Array Value} {Q' : Option Value → Heap → Prop} (hM : Met l Z y bytes maxL ret [] rm as' h n0 Q')
    (w1 : (Jvm.Cond.methodLink own index y).before a0 Z = true) (w2 : (Jvm.Cond.declares y).before a0 Z = true) (w5 : (Jvm.Cond.selects D y y).before a0 Z = true) (w6 : (Jvm.Cond.instanceMethod y).before a0 Z = true) (w3 : (Jvm.Cond.code y bytes maxL ret).before a0 Z = true) (w4 : (Jvm.Cond.initialized y.cls).before a0 Z = true) (hy : y.cls ≠ "java/lang/invoke/MethodHandle" ∧ y.cls ≠ "java/lang/invoke/VarHandle")
    {a : Addr} (E : Exa Z h a D) (argsL : List Value) {S : List Value} (hS : argsL.reverse ++ .ref a :: st = S) (has : (.ref a :: argsL).toArray = as') (hlen : ∀ sig, parseMethodDescriptor y.desc = some sig → argsL.length = sig.parameters.length) (pc' : Nat) (hd : decode bs pc = .ok (.invokevirtual index, 3)) (hp : pc + 3 = pc') (W : Nat) (hW : (st.map fun v => v.category).sum ≤ W) (hf : rm.frames + 1 ≤ R.frames) (hl : W + (maxL + 11) + rm.locals ≤ R.locals) (hc : cells + rm.cells ≤ R.cells) (hs : slots + rm.slots ≤ R.slots)
    (hr : ∀ T' v h', Sd p l e R s m args below meth c n0 Z own T' (cells + rm.cells) (slots + rm.slots) → T'.heap = h' → Q' v h' → Go p e below s n0 Q C N (T'.setTop (mkF m pc' Ls (v.toList ++ st)))) : Go p e below s n0 Q C N (T.setTop (mkF m pc Ls S)) := by
  obtain ⟨vm0, locs, k0, Y, hN, hSi, hk0, hZ, hown⟩ := X
  obtain ⟨hx, hby, hml, -⟩ := K
  subst hp hS has
  obtain ⟨cq, kq, qa, qb, qc⟩ := isOf hZ eh E
  obtain ⟨v, vm1, ⟨T', L', k', n'⟩, -, X', h2, hg, ⟨Lc, ⟨hQ, hF⟩, l1, l2, l3⟩, k⟩ := Y.virtualBackS hx (y := y) (z := y) hown (mvT hZ w1) (mvT hZ w2) (notFace_of_selects (args := #[]) (mvT hZ w5)) (mvT hZ w5) (mvT hZ w6) hy (backOfS (W := W) (Q := fun v h L => Q' v h ∧ Fr n0 L) hM hZ w3 w4 hf hl) qa qc (g := mkF m pc Ls (argsL.reverse ++ .ref a :: st)) rfl (by rw [hml]; exact hsz) (Steps.refl _) (argsL := argsL) (rest := st) hlen rfl (by show 2 * 0 + _ ≤ _; rw [Nat.mul_zero, Nat.zero_add]; exact hW) (hb hby hd) (fun _ _ => ⟨rfl, eh, hc, hs⟩)
  dsimp only [Pt.U, Pt.locs, Pt.cells, Pt.slots] at X' l1 l2 l3 k hQ h2 hg
  subst l1 l2 l3
  obtain ⟨X2, S2, Z2, O2⟩ := rebS hSi hk0 X' h2 hg hZ hown
  exact Go.trans k (hr T' v T'.heap ⟨T'.vm, _, _, X2, hN.app hF, S2, Nat.le_refl _, Z2, O2⟩ rfl hQ)
theorem g_ldcS (K : Cx p meth c nm bs ml rt) (X : Sd p l e R s m args below meth c n0 Z own T cells slots) (eh : T.heap = h) {index : Nat} {text : String} (w : (Jvm.Cond.stringLink own index text).before a0 Z = true) (wS : ∀ a ∈ Bundle.stringAtoms, a.before a0 Z = true) (n : Nat) (hn : 4 * text.toList.length ≤ n) (hbig : n ≤ 536870912) (pc' : Nat) (hd : decode bs pc = .ok (.ldc index, 2)) (hp : pc + 2 = pc') (hc : cells + 2 ≤ R.cells) (hl : slots + (n + 4) ≤ R.slots)
    (hr : ∀ T' h' a, Sd p l e R s m args below meth c n0 Z own T' (cells + 2) (slots + (n + 4)) → T'.heap = h' → Ext h h' → Go p e below s n0 Q C N (T'.setTop (mkF m pc' Ls (.ref a :: st)))) : Go p e below s n0 Q C N (T.setTop (mkF m pc Ls st)) := by
  obtain ⟨vm0, locs, k0, Y, hN, hSi, hk0, hZ, hown⟩ := X
  obtain ⟨hx, hby, -⟩ := K
  subst hp
  obtain ⟨a, T', h', k1, X', e', E, S', hk1, Z', O', k⟩ := ldcS Y hx hZ hown w wS eh hSi (by rw [← eh]; exact hk0) (g := mkF m pc Ls st) rfl (hb hby hd) hn hbig hc hl
  exact Go.step k (hr T' h' a ⟨T'.vm, locs, k1, X', hN, S', by rw [e']; exact hk1, Z', O'⟩ e' E)
theorem g_ldcSW (K : Cx p meth c nm bs ml rt) (X : Sd p l e R s m args below meth c n0 Z own T cells slots) (eh : T.heap = h) {index : Nat} {text : String} (w : (Jvm.Cond.stringLink own index text).before a0 Z = true) (wS : ∀ a ∈ Bundle.stringAtoms, a.before a0 Z = true) (n : Nat) (hn : 4 * text.toList.length ≤ n) (hbig : n ≤ 536870912) (pc' : Nat) (hd : decode bs pc = .ok (.ldc_w index, 3)) (hp : pc + 3 = pc') (hc : cells + 2 ≤ R.cells) (hl : slots + (n + 4) ≤ R.slots)
    (hr : ∀ T' h' a, Sd p l e R s m args below meth c n0 Z own T' (cells + 2) (slots + (n + 4)) → T'.heap = h' → Ext h h' → Go p e below s n0 Q C N (T'.setTop (mkF m pc' Ls (.ref a :: st)))) : Go p e below s n0 Q C N (T.setTop (mkF m pc Ls st)) := by
  obtain ⟨vm0, locs, k0, Y, hN, hSi, hk0, hZ, hown⟩ := X
  obtain ⟨hx, hby, -⟩ := K
  subst hp
  obtain ⟨a, T', h', k1, X', e', E, S', hk1, Z', O', k⟩ := ldcSW Y hx hZ hown w wS eh hSi (by rw [← eh]; exact hk0) (g := mkF m pc Ls st) rfl (hb hby hd) hn hbig hc hl
  exact Go.step k (hr T' h' a ⟨T'.vm, locs, k1, X', hN, S', by rw [e']; exact hk1, Z', O'⟩ e' E)
theorem g_retN (K : Cx p meth c nm bs ml rt) (X : Sd p l e R s m args below meth c n0 Z own T cells slots) (eh : T.heap = h) {t : FieldType} (hret : rt = some t) (ht : t = .boolean ∨ t = .byte ∨ t = .char ∨ t = .short) {x : Int32} (v : Int32) (hv : nar t x = v) (hd : decode bs pc = .ok (.ireturn, 1)) (hC : cells ≤ C) (hS : slots ≤ N) (hq : Q (some (.int v)) h) : Go p e below s n0 Q C N (T.setTop (mkF m pc Ls (.int x :: st))) := by
  obtain ⟨vm0, locs, k0, Y, hN, hSi, hk0, hZ, hown⟩ := X
  obtain ⟨hx, hby, hml, -, hrt, hlk⟩ := K
  subst hv hret
  obtain ⟨fs, hr, hrun, hended, q1, q2, q3, q4⟩ := Y.leaveW hSi hk0 (v := some (.int (nar t x))) (fun h => by rw [hrt] at h; cases h) hlk
  exact ⟨_, _, retN Y hx hrt ht (hb hby hd) hr, hrun, hended, _, _, rfl, ⟨by rw [← eh] at hq; exact hq, hN⟩, q1, q2, q3, q4.mono hC hS⟩
theorem g_retV (K : Cx p meth c nm bs ml rt) (X : Sd p l e R s m args below meth c n0 Z own T cells slots) (eh : T.heap = h) {t : FieldType} (hret : rt = some t) {w : Value} {i : Instr} (hn : narrow t w = w)
    (hi : (i = .ireturn ∧ (t = .int ∨ t = .boolean ∨ t = .byte ∨ t = .char ∨ t = .short) ∧ ∃ z, w = .int z) ∨ (i = .lreturn ∧ t = .long ∧ ∃ z, w = .long z) ∨ (i = .dreturn ∧ t = .double ∧ ∃ z, w = .double z) ∨ (i = .freturn ∧ t = .float ∧ ∃ z, w = .float z) ∨ (i = .areturn ∧ t.isReference = true ∧ w.isRef = true))
    (hd : decode bs pc = .ok (i, 1)) (hC : cells ≤ C) (hS : slots ≤ N) (hq : Q (some w) h) : Go p e below s n0 Q C N (T.setTop (mkF m pc Ls (w :: st))) := by
  obtain ⟨vm0, locs, k0, Y, hN, hSi, hk0, hZ, hown⟩ := X
  obtain ⟨hx, hby, hml, -, hrt, hlk⟩ := K
  subst hret
  obtain ⟨fs, hr, hrun, hended, q1, q2, q3, q4⟩ := Y.leaveW hSi hk0 (v := some w) (fun h => by rw [hrt] at h; cases h) hlk
  exact ⟨_, _, retOut Y hx hrt hn hi (hb hby hd) hr, hrun, hended, _, _, rfl, ⟨by rw [← eh] at hq; exact hq, hN⟩, q1, q2, q3, q4.mono hC hS⟩
theorem g_retI (K : Cx p meth c nm bs ml rt) (X : Sd p l e R s m args below meth c n0 Z own T cells slots) (eh : T.heap = h) (hret : rt = some .int) {x : Int32} (hd : decode bs pc = .ok (.ireturn, 1)) (hC : cells ≤ C) (hS : slots ≤ N) (hq : Q (some (.int x)) h) : Go p e below s n0 Q C N (T.setTop (mkF m pc Ls (.int x :: st))) :=
  g_retV K X eh hret rfl (Or.inl ⟨rfl, Or.inl rfl, _, rfl⟩) hd hC hS hq
theorem g_retJ (K : Cx p meth c nm bs ml rt) (X : Sd p l e R s m args below meth c n0 Z own T cells slots) (eh : T.heap = h) (hret : rt = some .long) {x : Int64} (hd : decode bs pc = .ok (.lreturn, 1)) (hC : cells ≤ C) (hS : slots ≤ N) (hq : Q (some (.long x)) h) : Go p e below s n0 Q C N (T.setTop (mkF m pc Ls (.long x :: st))) :=
  g_retV K X eh hret rfl (Or.inr (Or.inl ⟨rfl, rfl, _, rfl⟩)) hd hC hS hq
theorem g_ret (K : Cx p meth c nm bs ml rt) (X : Sd p l e R s m args below meth c n0 Z own T cells slots) (eh : T.heap = h) (hret : rt = none) (hd : decode bs pc = .ok (.return_, 1)) (hC : cells ≤ C) (hS : slots ≤ N) (hq : Q none h) : Go p e below s n0 Q C N (T.setTop (mkF m pc Ls [])) := by
  obtain ⟨vm0, locs, k0, Y, hN, hSi, hk0, hZ, hown⟩ := X
  obtain ⟨hx, hby, hml, -, hrt, hlk⟩ := K
  subst hret
  obtain ⟨fs, hr, hrun, hended, q1, q2, q3, q4⟩ := Y.leaveW hSi hk0 (v := none) (fun _ => rfl) hlk
  exact ⟨_, _, Y.returnOut hx hrt (hb hby hd) hr, hrun, hended, _, _, rfl, ⟨by rw [← eh] at hq; exact hq, hN⟩, q1, q2, q3, q4.mono hC hS⟩
end Go
end Jvm.OwnGoW
namespace Jvm.Pilot.@@N@@
open Jvm Jvm.ClassFile Sem Op Lib Jvm.Free Jvm.Stand Jvm.LawKit Jvm.RoadKit Jvm.OwnGoW Bundle Jvm.Pilot.@@N@@.Jvm.D
theorem own_cmp (x y : Int64) : XT.cmpL x y = 0 ↔ x = y := by
  unfold XT.cmpL
  by_cases h : y < x
  · simp only [h, if_true]
    refine ⟨fun q => absurd q (by decide), fun q => ?_⟩
    subst q; exact absurd h (Int64.lt_irrefl)
  · by_cases h2 : x = y
    · simp [h, h2]
    · simp only [h, h2, if_false]
      exact ⟨fun q => absurd q (by decide), fun q => q.elim⟩
theorem own_cmpge {x y : Int64} (h : ¬ x < y) : ¬ XT.cmpL x y < 0 := by
  unfold XT.cmpL
  by_cases h1 : y < x
  · simp only [h1, if_true]; decide
  · have : x = y := by
      apply Int64.toInt_inj.mp
      rw [Int64.lt_iff_toInt_lt] at h h1
      omega
    simp [h1, this, Int64.lt_irrefl]
def rm0 : Room := { frames := 0, cells := 0, slots := 0, locals := 0 }
theorem pd_0 : parseMethodDescriptor "()V" = some ⟨[], none⟩ := by decide +kernel
theorem pd_1 : parseMethodDescriptor "(Ljava/lang/String;JJ)V" = some ⟨[(.object "java/lang/String"), .long, .long], none⟩ := by decide +kernel
theorem pd_2 : parseMethodDescriptor "(J)J" = some ⟨[.long], some .long⟩ := by decide +kernel
theorem pd_3 : parseMethodDescriptor "(J)V" = some ⟨[.long], none⟩ := by decide +kernel
theorem pd_4 : parseMethodDescriptor "()J" = some ⟨[], some .long⟩ := by decide +kernel
def CFs (Z : State) (h : Heap) (g : Addr) (v0 : Int64) (v1 : Int64) (v2 : Int64) (v3 : Int64) : Prop := Exa Z h g "com/example/cistern/cistern/CisternConfig" ∧ Fld Z h g "com/example/cistern/cistern/CisternConfig" "connectionTimeoutMs" "J" (.long v0) ∧ Fld Z h g "com/example/cistern/cistern/CisternConfig" "validationTimeoutMs" "J" (.long v1) ∧ Fld Z h g "com/example/cistern/cistern/CisternConfig" "idleTimeoutMs" "J" (.long v2) ∧ Fld Z h g "com/example/cistern/cistern/CisternConfig" "maxLifetimeMs" "J" (.long v3)
theorem own_str {Z : State} {a0 : Array Value} (hw : ∀ d ∈ tables_1, d.before a0 Z = true) : ∀ a ∈ Bundle.stringAtoms, a.before a0 Z = true := fun a ha => by
  simp only [Bundle.stringAtoms, List.mem_cons, List.not_mem_nil, or_false] at ha
  rcases ha with rfl | rfl | rfl | rfl | rfl | rfl | rfl
  · exact (hw _ (List.mem_of_getElem? (i := 60) rfl))
  · exact (hw _ (List.mem_of_getElem? (i := 61) rfl))
  · exact (hw _ (List.mem_of_getElem? (i := 62) rfl))
  · exact (hw _ (List.mem_of_getElem? (i := 63) rfl))
  · exact (hw _ (List.mem_of_getElem? (i := 64) rfl))
  · exact (hw _ (List.mem_of_getElem? (i := 65) rfl))
  · exact (hw _ (List.mem_of_getElem? (i := 66) rfl))
theorem d5_0 : decode jdk_71_method_1_code 0 = .ok (.aload_n 0, 1) := by decide +kernel
theorem d5_1 : decode jdk_71_method_1_code 1 = .ok (.invokespecial 1, 3) := by decide +kernel
theorem d5_4 : decode jdk_71_method_1_code 4 = .ok (.return_, 1) := by decide +kernel
def rmA : Room := { frames := 1, cells := 0, slots := 0, locals := 12 }
set_option maxRecDepth 65536 in
set_option maxHeartbeats 40000000 in
theorem met_am (l : Launch) (Z : State) (a0 : Array Value) (hw : ∀ d ∈ tables_1, d.before a0 Z = true) (u : Addr) (h0 : Heap) (n0 : Nat) :
    Met l Z (⟨"java/util/AbstractMap", "<init>", "()V"⟩ : MethodName) jdk_71_method_1_code 1 none [] rmA #[.ref u] h0 n0 (fun v h' => v = none ∧ h0 = h') := by
  refine Met.of (plainFor_of_name (by first | (simp [plainName, overriddenIn]; done) | decide +kernel)) #[.val (.ref u)] (fun m => by first | (simp [entryFrame, mkF, argsToLocals, Value.category]; done) | rfl) ?_
  intro p e s m below meth c T K X eh
  refine g_aloadN K X 1 d5_0 rfl rfl rfl ?_
  refine g_initO K X eh rfl (hw _ (List.mem_of_getElem? (i := 26) rfl)) (hw _ (List.mem_of_getElem? (i := 12) rfl)) (hw _ (List.mem_of_getElem? (i := 13) rfl)) 4 d5_1 rfl (by decide) 0 (Nat.le_of_eq rfl) (by decide) fun T X eh => ?_
  exact g_ret K X eh rfl d5_4 (by decide) (by decide) ⟨rfl, rfl⟩
theorem d4_0 : decode jdk_2729_method_1_code 0 = .ok (.aload_n 0, 1) := by decide +kernel
theorem d4_1 : decode jdk_2729_method_1_code 1 = .ok (.invokespecial 1, 3) := by decide +kernel
theorem d4_4 : decode jdk_2729_method_1_code 4 = .ok (.aload_n 0, 1) := by decide +kernel
theorem d4_5 : decode jdk_2729_method_1_code 5 = .ok (.iconst 0, 1) := by decide +kernel
theorem d4_6 : decode jdk_2729_method_1_code 6 = .ok (.putfield 7, 3) := by decide +kernel
theorem d4_9 : decode jdk_2729_method_1_code 9 = .ok (.aload_n 0, 1) := by decide +kernel
theorem d4_10 : decode jdk_2729_method_1_code 10 = .ok (.iconst 0, 1) := by decide +kernel
theorem d4_11 : decode jdk_2729_method_1_code 11 = .ok (.putfield 13, 3) := by decide +kernel
theorem d4_14 : decode jdk_2729_method_1_code 14 = .ok (.aload_n 0, 1) := by decide +kernel
theorem d4_15 : decode jdk_2729_method_1_code 15 = .ok (.aconst_null, 1) := by decide +kernel
theorem d4_16 : decode jdk_2729_method_1_code 16 = .ok (.putfield 16, 3) := by decide +kernel
theorem d4_19 : decode jdk_2729_method_1_code 19 = .ok (.return_, 1) := by decide +kernel
def rmT : Room := { frames := 2, cells := 0, slots := 0, locals := 24 }
set_option maxRecDepth 65536 in
set_option maxHeartbeats 40000000 in
theorem met_tm (l : Launch) (Z : State) (a0 : Array Value) (hw : ∀ d ∈ tables_1, d.before a0 Z = true) (u : Addr) (h0 : Heap) (n0 : Nat) (gu : n0 ≤ u) (E : Exa Z h0 u "java/util/TreeMap") (F1 : Fld Z h0 u "java/util/TreeMap" "size" "I" (.int 0)) (F2 : Fld Z h0 u "java/util/TreeMap" "modCount" "I" (.int 0)) (F3 : Fld Z h0 u "java/util/TreeMap" "comparator" "Ljava/util/Comparator;" .null) :
    Met l Z (⟨"java/util/TreeMap", "<init>", "()V"⟩ : MethodName) jdk_2729_method_1_code 1 none [] rmT #[.ref u] h0 n0 (fun v h' => v = none ∧ Keep h0 h' [u]) := by
  refine Met.of (plainFor_of_name (by first | (simp [plainName, overriddenIn]; done) | decide +kernel)) #[.val (.ref u)] (fun m => by first | (simp [entryFrame, mkF, argsToLocals, Value.category]; done) | rfl) ?_
  intro p e s m below meth c T K X eh
  refine g_aloadN K X 1 d4_0 rfl rfl rfl ?_
  refine g_special K X eh rfl rfl (met_am l Z a0 hw u h0 n0) (hw _ (List.mem_of_getElem? (i := 20) rfl)) (hw _ (List.mem_of_getElem? (i := 21) rfl)) (hw _ (List.mem_of_getElem? (i := 25) rfl)) (hw _ (List.mem_of_getElem? (i := 24) rfl)) (by decide) (a := u) [] rfl rfl (lenOf pd_0 rfl) 4 d4_1 rfl 0 (Nat.le_of_eq rfl) (by decide) (by decide) (by decide) (by decide) fun T v h' X eh hv => ?_
  obtain ⟨rfl, rfl⟩ := hv
  refine g_aloadN K X 5 d4_4 rfl rfl rfl ?_
  refine g_iconst K X (0 : Int32) 6 d4_5 rfl rfl ?_
  refine g_putF K X eh (hw _ (List.mem_of_getElem? (i := 27) rfl)) F1 E (Or.inl (hw _ (List.mem_of_getElem? (i := 28) rfl))) (hw _ (List.mem_of_getElem? (i := 15) rfl)) (ty := .int) (by decide) rfl rfl gu 9 d4_6 rfl fun T h1 X eh W1 => ?_
  have F21 := F2.other W1 (Or.inr (slot_ne (C := "java/util/TreeMap") (a0 := a0) (Or.inl (hw _ (List.mem_of_getElem? (i := 30) rfl))) (Or.inl (hw _ (List.mem_of_getElem? (i := 28) rfl))) (by decide) (t := .int) (t' := .int) (by decide) (by decide)))
  have F31 := F3.other W1 (Or.inr (slot_ne (C := "java/util/TreeMap") (a0 := a0) (Or.inr (hw _ (List.mem_of_getElem? (i := 32) rfl))) (Or.inl (hw _ (List.mem_of_getElem? (i := 28) rfl))) (by decide) (t := .object "java/util/Comparator") (t' := .int) (by decide) (by decide)))
  have E1 := E.wr W1
  refine g_aloadN K X 10 d4_9 rfl rfl rfl ?_
  refine g_iconst K X (0 : Int32) 11 d4_10 rfl rfl ?_
  refine g_putF K X eh (hw _ (List.mem_of_getElem? (i := 29) rfl)) F21 E1 (Or.inl (hw _ (List.mem_of_getElem? (i := 30) rfl))) (hw _ (List.mem_of_getElem? (i := 15) rfl)) (ty := .int) (by decide) rfl rfl gu 14 d4_11 rfl fun T h2 X eh W2 => ?_
  have F32 := F31.other W2 (Or.inr (slot_ne (C := "java/util/TreeMap") (a0 := a0) (Or.inr (hw _ (List.mem_of_getElem? (i := 32) rfl))) (Or.inl (hw _ (List.mem_of_getElem? (i := 30) rfl))) (by decide) (t := .object "java/util/Comparator") (t' := .int) (by decide) (by decide)))
  have E2 := E1.wr W2
  refine g_aloadN K X 15 d4_14 rfl rfl rfl ?_
  refine g_anull K X 16 d4_15 rfl ?_
  refine g_putF K X eh (hw _ (List.mem_of_getElem? (i := 31) rfl)) F32 E2 (Or.inr ⟨(hw _ (List.mem_of_getElem? (i := 32) rfl)), rfl, rfl⟩) (hw _ (List.mem_of_getElem? (i := 15) rfl)) (ty := (.object "java/util/Comparator")) (by decide) rfl rfl gu 19 d4_16 rfl fun T h3 X eh W3 => ?_
  exact g_ret K X eh rfl d4_19 (by decide) (by decide) ⟨rfl, (((Keep.refl _ _).wr W1 (Or.inl (List.mem_singleton.mpr rfl))).wr W2 (Or.inl (List.mem_singleton.mpr rfl))).wr W3 (Or.inl (List.mem_singleton.mpr rfl))⟩
theorem d7_0 : decode prog_10_method_46_code 0 = .ok (.lload_n 1, 1) := by decide +kernel
theorem d7_1 : decode prog_10_method_46_code 1 = .ok (.lload_n 3, 1) := by decide +kernel
theorem d7_2 : decode prog_10_method_46_code 2 = .ok (.lcmp, 1) := by decide +kernel
theorem d7_3 : decode prog_10_method_46_code 3 = .ok (.ifCond .ge 18, 3) := by decide +kernel
theorem d7_6 : decode prog_10_method_46_code 6 = .ok (.aload_n 0, 1) := by decide +kernel
theorem d7_7 : decode prog_10_method_46_code 7 = .ok (.lload_n 1, 1) := by decide +kernel
theorem d7_8 : decode prog_10_method_46_code 8 = .ok (.invokestatic 294, 3) := by decide +kernel
theorem d7_11 : decode prog_10_method_46_code 11 = .ok (.lload_n 3, 1) := by decide +kernel
theorem d7_12 : decode prog_10_method_46_code 12 = .ok (.invokedynamic 299, 5) := by decide +kernel
theorem d7_17 : decode prog_10_method_46_code 17 = .ok (.invokestatic 192, 3) := by decide +kernel
theorem d7_20 : decode prog_10_method_46_code 20 = .ok (.athrow, 1) := by decide +kernel
theorem d7_21 : decode prog_10_method_46_code 21 = .ok (.return_, 1) := by decide +kernel
set_option maxRecDepth 65536 in
set_option maxHeartbeats 40000000 in
theorem met_rq (l : Launch) (Z : State) (a0 : Array Value) (hw : ∀ d ∈ tables_1, d.before a0 Z = true) (t : Addr) (x y : Int64) (hxy : ¬ x < y) (h0 : Heap) (n0 : Nat) :
    Met l Z (⟨"com/example/cistern/cistern/CisternConfig", "requireAtLeast", "(Ljava/lang/String;JJ)V"⟩ : MethodName) prog_10_method_46_code 5 none [] rm0 #[.ref t, .long x, .long y] h0 n0 (fun v h' => v = none ∧ h0 = h') := by
  refine Met.of (plainFor_of_name (by first | (simp [plainName, overriddenIn]; done) | decide +kernel)) #[.val (.ref t), .val (.long x), .second, .val (.long y), .second] (fun m => by first | (simp [entryFrame, mkF, argsToLocals, Value.category]; done) | rfl) ?_
  intro p e s m below meth c T K X eh
  refine g_lloadN K X 1 d7_0 rfl rfl ?_
  refine g_lloadN K X 2 d7_1 rfl rfl ?_
  refine g_lcmp K X 3 d7_2 rfl ?_
  refine g_ifT K X 21 d7_3 rfl (show ¬ (XT.cmpL x y) < 0 from (own_cmpge hxy)) ?_
  exact g_ret K X eh rfl d7_21 (by decide) (by decide) ⟨rfl, rfl⟩
theorem d2_0 : decode prog_10_method_1_code 0 = .ok (.aload_n 0, 1) := by decide +kernel
theorem d2_1 : decode prog_10_method_1_code 1 = .ok (.invokespecial 1, 3) := by decide +kernel
theorem d2_4 : decode prog_10_method_1_code 4 = .ok (.aload_n 0, 1) := by decide +kernel
theorem d2_5 : decode prog_10_method_1_code 5 = .ok (.new 7, 3) := by decide +kernel
theorem d2_8 : decode prog_10_method_1_code 8 = .ok (.dup, 1) := by decide +kernel
theorem d2_9 : decode prog_10_method_1_code 9 = .ok (.invokespecial 9, 3) := by decide +kernel
theorem d2_12 : decode prog_10_method_1_code 12 = .ok (.putfield 10, 3) := by decide +kernel
theorem d2_15 : decode prog_10_method_1_code 15 = .ok (.aload_n 0, 1) := by decide +kernel
theorem d2_16 : decode prog_10_method_1_code 16 = .ok (.iconst 1, 1) := by decide +kernel
theorem d2_17 : decode prog_10_method_1_code 17 = .ok (.putfield 16, 3) := by decide +kernel
theorem d2_20 : decode prog_10_method_1_code 20 = .ok (.aload_n 0, 1) := by decide +kernel
theorem d2_21 : decode prog_10_method_1_code 21 = .ok (.bipush 10, 2) := by decide +kernel
theorem d2_23 : decode prog_10_method_1_code 23 = .ok (.putfield 20, 3) := by decide +kernel
theorem d2_26 : decode prog_10_method_1_code 26 = .ok (.aload_n 0, 1) := by decide +kernel
theorem d2_27 : decode prog_10_method_1_code 27 = .ok (.ldc2_w 24, 3) := by decide +kernel
theorem d2_30 : decode prog_10_method_1_code 30 = .ok (.putfield 26, 3) := by decide +kernel
theorem d2_33 : decode prog_10_method_1_code 33 = .ok (.aload_n 0, 1) := by decide +kernel
theorem d2_34 : decode prog_10_method_1_code 34 = .ok (.ldc2_w 30, 3) := by decide +kernel
theorem d2_37 : decode prog_10_method_1_code 37 = .ok (.putfield 32, 3) := by decide +kernel
theorem d2_40 : decode prog_10_method_1_code 40 = .ok (.aload_n 0, 1) := by decide +kernel
theorem d2_41 : decode prog_10_method_1_code 41 = .ok (.ldc2_w 35, 3) := by decide +kernel
theorem d2_44 : decode prog_10_method_1_code 44 = .ok (.putfield 37, 3) := by decide +kernel
theorem d2_47 : decode prog_10_method_1_code 47 = .ok (.aload_n 0, 1) := by decide +kernel
theorem d2_48 : decode prog_10_method_1_code 48 = .ok (.ldc2_w 40, 3) := by decide +kernel
theorem d2_51 : decode prog_10_method_1_code 51 = .ok (.putfield 42, 3) := by decide +kernel
theorem d2_54 : decode prog_10_method_1_code 54 = .ok (.aload_n 0, 1) := by decide +kernel
theorem d2_55 : decode prog_10_method_1_code 55 = .ok (.ldc2_w 45, 3) := by decide +kernel
theorem d2_58 : decode prog_10_method_1_code 58 = .ok (.putfield 47, 3) := by decide +kernel
theorem d2_61 : decode prog_10_method_1_code 61 = .ok (.return_, 1) := by decide +kernel
def rmI : Room := { frames := 3, cells := 1, slots := 9, locals := 40 }
set_option maxRecDepth 65536 in
set_option maxHeartbeats 40000000 in
theorem met_init (l : Launch) (Z : State) (a0 : Array Value) (hw : ∀ d ∈ tables_1, d.before a0 Z = true) (g : Addr) (h0 : Heap) (n0 : Nat) (Z0 : n0 ≤ h0.size) (gg : n0 ≤ g) (E : Exa Z h0 g "com/example/cistern/cistern/CisternConfig") (F_driverProperties : Fld Z h0 g "com/example/cistern/cistern/CisternConfig" "driverProperties" "Ljava/util/Map;" (.null)) (F_autoCommit : Fld Z h0 g "com/example/cistern/cistern/CisternConfig" "autoCommit" "Z" (.int 0)) (F_maxPoolSize : Fld Z h0 g "com/example/cistern/cistern/CisternConfig" "maxPoolSize" "I" (.int 0)) (F_connectionTimeoutMs : Fld Z h0 g "com/example/cistern/cistern/CisternConfig" "connectionTimeoutMs" "J" (.long 0)) (F_validationTimeoutMs : Fld Z h0 g "com/example/cistern/cistern/CisternConfig" "validationTimeoutMs" "J" (.long 0)) (F_validateAfterIdleMs : Fld Z h0 g "com/example/cistern/cistern/CisternConfig" "validateAfterIdleMs" "J" (.long 0)) (F_idleTimeoutMs : Fld Z h0 g "com/example/cistern/cistern/CisternConfig" "idleTimeoutMs" "J" (.long 0)) (F_maxLifetimeMs : Fld Z h0 g "com/example/cistern/cistern/CisternConfig" "maxLifetimeMs" "J" (.long 0)) :
    Met l Z (⟨"com/example/cistern/cistern/CisternConfig", "<init>", "()V"⟩ : MethodName) prog_10_method_1_code 1 none [] rmI #[.ref g] h0 n0 (fun v h' => v = none ∧ CFs Z h' g 20000 5000 600000 1800000 ∧ Keep h0 h' [g]) := by
  refine Met.of (plainFor_of_name (by first | (simp [plainName, overriddenIn]; done) | decide +kernel)) #[.val (.ref g)] (fun m => by first | (simp [entryFrame, mkF, argsToLocals, Value.category]; done) | rfl) ?_
  intro p e s m below meth c T K X eh
  refine g_aloadN K X 1 d2_0 rfl rfl rfl ?_
  refine g_initO K X eh rfl (hw _ (List.mem_of_getElem? (i := 11) rfl)) (hw _ (List.mem_of_getElem? (i := 12) rfl)) (hw _ (List.mem_of_getElem? (i := 13) rfl)) 4 d2_1 rfl (by decide) 0 (Nat.le_of_eq rfl) (by decide) fun T X eh => ?_
  refine g_aloadN K X 5 d2_4 rfl rfl rfl ?_
  refine g_new K X eh (hw _ (List.mem_of_getElem? (i := 14) rfl)) (hw _ (List.mem_of_getElem? (i := 15) rfl)) (hw _ (List.mem_of_getElem? (i := 16) rfl)) 8 d2_5 rfl (by decide) (by decide) fun T h1 tm gt X eh E1 Et D => ?_
  have ne : g ≠ tm := fun q => absurd E.lt (by rw [q, gt]; exact Nat.lt_irrefl _)
  refine g_dup K X 9 d2_8 rfl rfl ?_
  refine g_special K X eh rfl rfl (met_tm l Z a0 hw tm h1 n0 (gt ▸ Z0) Et (D (Or.inl (hw _ (List.mem_of_getElem? (i := 28) rfl))) (ty := .int) (by decide)) (D (Or.inl (hw _ (List.mem_of_getElem? (i := 30) rfl))) (ty := .int) (by decide)) (D (Or.inr (hw _ (List.mem_of_getElem? (i := 32) rfl))) (ty := .object "java/util/Comparator") (by decide))) (hw _ (List.mem_of_getElem? (i := 17) rfl)) (hw _ (List.mem_of_getElem? (i := 18) rfl)) (hw _ (List.mem_of_getElem? (i := 19) rfl)) (hw _ (List.mem_of_getElem? (i := 16) rfl)) (by decide) (a := tm) [] rfl rfl (lenOf pd_0 rfl) 12 d2_9 rfl 2 (Nat.le_of_eq rfl) (by decide) (by decide) (by decide) (by decide) fun T v h2 X eh hv => ?_
  obtain ⟨rfl, K2⟩ := hv
  have Kp : Keep h0 h2 [g] := (((Keep.refl h0 [g]).ext E1).trans K2 (fun x hx => Or.inr (by simp only [List.mem_cons, List.not_mem_nil, or_false] at hx; rw [hx, gt]; exact Nat.le_refl _)))
  replace F_driverProperties := (F_driverProperties.ext E1).keep K2 (ninS ne nin0)
  replace F_autoCommit := (F_autoCommit.ext E1).keep K2 (ninS ne nin0)
  replace F_maxPoolSize := (F_maxPoolSize.ext E1).keep K2 (ninS ne nin0)
  replace F_connectionTimeoutMs := (F_connectionTimeoutMs.ext E1).keep K2 (ninS ne nin0)
  replace F_validationTimeoutMs := (F_validationTimeoutMs.ext E1).keep K2 (ninS ne nin0)
  replace F_validateAfterIdleMs := (F_validateAfterIdleMs.ext E1).keep K2 (ninS ne nin0)
  replace F_idleTimeoutMs := (F_idleTimeoutMs.ext E1).keep K2 (ninS ne nin0)
  replace F_maxLifetimeMs := (F_maxLifetimeMs.ext E1).keep K2 (ninS ne nin0)
  replace E := (E.ext E1).keep K2
  refine g_putF K X eh (hw _ (List.mem_of_getElem? (i := 33) rfl)) F_driverProperties E (Or.inr ⟨(hw _ (List.mem_of_getElem? (i := 34) rfl)), rfl, rfl⟩) (hw _ (List.mem_of_getElem? (i := 6) rfl)) (ty := (.object "java/util/Map")) (by decide) rfl rfl gg 15 d2_12 rfl fun T h3 X eh W3 => ?_
  replace F_autoCommit := F_autoCommit.other W3 (Or.inr (slot_ne (C := "com/example/cistern/cistern/CisternConfig") (a0 := a0) (Or.inl (hw _ (List.mem_of_getElem? (i := 36) rfl))) (Or.inr (hw _ (List.mem_of_getElem? (i := 34) rfl))) (by decide) (t := .boolean) (t' := .object "java/util/Map") (by decide) (by decide)))
  replace F_maxPoolSize := F_maxPoolSize.other W3 (Or.inr (slot_ne (C := "com/example/cistern/cistern/CisternConfig") (a0 := a0) (Or.inl (hw _ (List.mem_of_getElem? (i := 38) rfl))) (Or.inr (hw _ (List.mem_of_getElem? (i := 34) rfl))) (by decide) (t := .int) (t' := .object "java/util/Map") (by decide) (by decide)))
  replace F_connectionTimeoutMs := F_connectionTimeoutMs.other W3 (Or.inr (slot_ne (C := "com/example/cistern/cistern/CisternConfig") (a0 := a0) (Or.inl (hw _ (List.mem_of_getElem? (i := 41) rfl))) (Or.inr (hw _ (List.mem_of_getElem? (i := 34) rfl))) (by decide) (t := .long) (t' := .object "java/util/Map") (by decide) (by decide)))
  replace F_validationTimeoutMs := F_validationTimeoutMs.other W3 (Or.inr (slot_ne (C := "com/example/cistern/cistern/CisternConfig") (a0 := a0) (Or.inl (hw _ (List.mem_of_getElem? (i := 44) rfl))) (Or.inr (hw _ (List.mem_of_getElem? (i := 34) rfl))) (by decide) (t := .long) (t' := .object "java/util/Map") (by decide) (by decide)))
  replace F_validateAfterIdleMs := F_validateAfterIdleMs.other W3 (Or.inr (slot_ne (C := "com/example/cistern/cistern/CisternConfig") (a0 := a0) (Or.inl (hw _ (List.mem_of_getElem? (i := 47) rfl))) (Or.inr (hw _ (List.mem_of_getElem? (i := 34) rfl))) (by decide) (t := .long) (t' := .object "java/util/Map") (by decide) (by decide)))
  replace F_idleTimeoutMs := F_idleTimeoutMs.other W3 (Or.inr (slot_ne (C := "com/example/cistern/cistern/CisternConfig") (a0 := a0) (Or.inl (hw _ (List.mem_of_getElem? (i := 50) rfl))) (Or.inr (hw _ (List.mem_of_getElem? (i := 34) rfl))) (by decide) (t := .long) (t' := .object "java/util/Map") (by decide) (by decide)))
  replace F_maxLifetimeMs := F_maxLifetimeMs.other W3 (Or.inr (slot_ne (C := "com/example/cistern/cistern/CisternConfig") (a0 := a0) (Or.inl (hw _ (List.mem_of_getElem? (i := 53) rfl))) (Or.inr (hw _ (List.mem_of_getElem? (i := 34) rfl))) (by decide) (t := .long) (t' := .object "java/util/Map") (by decide) (by decide)))
  replace E := E.wr W3
  replace Kp := Kp.wr W3 (Or.inl (List.mem_singleton.mpr rfl))
  refine g_aloadN K X 16 d2_15 rfl rfl rfl ?_
  refine g_iconst K X (1 : Int32) 17 d2_16 rfl rfl ?_
  refine g_putF K X eh (hw _ (List.mem_of_getElem? (i := 35) rfl)) F_autoCommit E (Or.inl (hw _ (List.mem_of_getElem? (i := 36) rfl))) (hw _ (List.mem_of_getElem? (i := 6) rfl)) (ty := .boolean) (by decide) rfl rfl gg 20 d2_17 rfl fun T h4 X eh W4 => ?_
  replace F_maxPoolSize := F_maxPoolSize.other W4 (Or.inr (slot_ne (C := "com/example/cistern/cistern/CisternConfig") (a0 := a0) (Or.inl (hw _ (List.mem_of_getElem? (i := 38) rfl))) (Or.inl (hw _ (List.mem_of_getElem? (i := 36) rfl))) (by decide) (t := .int) (t' := .boolean) (by decide) (by decide)))
  replace F_connectionTimeoutMs := F_connectionTimeoutMs.other W4 (Or.inr (slot_ne (C := "com/example/cistern/cistern/CisternConfig") (a0 := a0) (Or.inl (hw _ (List.mem_of_getElem? (i := 41) rfl))) (Or.inl (hw _ (List.mem_of_getElem? (i := 36) rfl))) (by decide) (t := .long) (t' := .boolean) (by decide) (by decide)))
  replace F_validationTimeoutMs := F_validationTimeoutMs.other W4 (Or.inr (slot_ne (C := "com/example/cistern/cistern/CisternConfig") (a0 := a0) (Or.inl (hw _ (List.mem_of_getElem? (i := 44) rfl))) (Or.inl (hw _ (List.mem_of_getElem? (i := 36) rfl))) (by decide) (t := .long) (t' := .boolean) (by decide) (by decide)))
  replace F_validateAfterIdleMs := F_validateAfterIdleMs.other W4 (Or.inr (slot_ne (C := "com/example/cistern/cistern/CisternConfig") (a0 := a0) (Or.inl (hw _ (List.mem_of_getElem? (i := 47) rfl))) (Or.inl (hw _ (List.mem_of_getElem? (i := 36) rfl))) (by decide) (t := .long) (t' := .boolean) (by decide) (by decide)))
  replace F_idleTimeoutMs := F_idleTimeoutMs.other W4 (Or.inr (slot_ne (C := "com/example/cistern/cistern/CisternConfig") (a0 := a0) (Or.inl (hw _ (List.mem_of_getElem? (i := 50) rfl))) (Or.inl (hw _ (List.mem_of_getElem? (i := 36) rfl))) (by decide) (t := .long) (t' := .boolean) (by decide) (by decide)))
  replace F_maxLifetimeMs := F_maxLifetimeMs.other W4 (Or.inr (slot_ne (C := "com/example/cistern/cistern/CisternConfig") (a0 := a0) (Or.inl (hw _ (List.mem_of_getElem? (i := 53) rfl))) (Or.inl (hw _ (List.mem_of_getElem? (i := 36) rfl))) (by decide) (t := .long) (t' := .boolean) (by decide) (by decide)))
  replace E := E.wr W4
  replace Kp := Kp.wr W4 (Or.inl (List.mem_singleton.mpr rfl))
  refine g_aloadN K X 21 d2_20 rfl rfl rfl ?_
  refine g_bipush K X (10 : Int32) 23 d2_21 rfl rfl ?_
  refine g_putF K X eh (hw _ (List.mem_of_getElem? (i := 37) rfl)) F_maxPoolSize E (Or.inl (hw _ (List.mem_of_getElem? (i := 38) rfl))) (hw _ (List.mem_of_getElem? (i := 6) rfl)) (ty := .int) (by decide) rfl rfl gg 26 d2_23 rfl fun T h5 X eh W5 => ?_
  replace F_connectionTimeoutMs := F_connectionTimeoutMs.other W5 (Or.inr (slot_ne (C := "com/example/cistern/cistern/CisternConfig") (a0 := a0) (Or.inl (hw _ (List.mem_of_getElem? (i := 41) rfl))) (Or.inl (hw _ (List.mem_of_getElem? (i := 38) rfl))) (by decide) (t := .long) (t' := .int) (by decide) (by decide)))
  replace F_validationTimeoutMs := F_validationTimeoutMs.other W5 (Or.inr (slot_ne (C := "com/example/cistern/cistern/CisternConfig") (a0 := a0) (Or.inl (hw _ (List.mem_of_getElem? (i := 44) rfl))) (Or.inl (hw _ (List.mem_of_getElem? (i := 38) rfl))) (by decide) (t := .long) (t' := .int) (by decide) (by decide)))
  replace F_validateAfterIdleMs := F_validateAfterIdleMs.other W5 (Or.inr (slot_ne (C := "com/example/cistern/cistern/CisternConfig") (a0 := a0) (Or.inl (hw _ (List.mem_of_getElem? (i := 47) rfl))) (Or.inl (hw _ (List.mem_of_getElem? (i := 38) rfl))) (by decide) (t := .long) (t' := .int) (by decide) (by decide)))
  replace F_idleTimeoutMs := F_idleTimeoutMs.other W5 (Or.inr (slot_ne (C := "com/example/cistern/cistern/CisternConfig") (a0 := a0) (Or.inl (hw _ (List.mem_of_getElem? (i := 50) rfl))) (Or.inl (hw _ (List.mem_of_getElem? (i := 38) rfl))) (by decide) (t := .long) (t' := .int) (by decide) (by decide)))
  replace F_maxLifetimeMs := F_maxLifetimeMs.other W5 (Or.inr (slot_ne (C := "com/example/cistern/cistern/CisternConfig") (a0 := a0) (Or.inl (hw _ (List.mem_of_getElem? (i := 53) rfl))) (Or.inl (hw _ (List.mem_of_getElem? (i := 38) rfl))) (by decide) (t := .long) (t' := .int) (by decide) (by decide)))
  replace E := E.wr W5
  replace Kp := Kp.wr W5 (Or.inl (List.mem_singleton.mpr rfl))
  refine g_aloadN K X 27 d2_26 rfl rfl rfl ?_
  refine g_ldc2J K X (hw _ (List.mem_of_getElem? (i := 39) rfl)) 30 d2_27 rfl ?_
  refine g_putF K X eh (hw _ (List.mem_of_getElem? (i := 40) rfl)) F_connectionTimeoutMs E (Or.inl (hw _ (List.mem_of_getElem? (i := 41) rfl))) (hw _ (List.mem_of_getElem? (i := 6) rfl)) (ty := .long) (by decide) rfl rfl gg 33 d2_30 rfl fun T h6 X eh W6 => ?_
  replace F_connectionTimeoutMs := F_connectionTimeoutMs.same W6
  replace F_validationTimeoutMs := F_validationTimeoutMs.other W6 (Or.inr (slot_ne (C := "com/example/cistern/cistern/CisternConfig") (a0 := a0) (Or.inl (hw _ (List.mem_of_getElem? (i := 44) rfl))) (Or.inl (hw _ (List.mem_of_getElem? (i := 41) rfl))) (by decide) (t := .long) (t' := .long) (by decide) (by decide)))
  replace F_validateAfterIdleMs := F_validateAfterIdleMs.other W6 (Or.inr (slot_ne (C := "com/example/cistern/cistern/CisternConfig") (a0 := a0) (Or.inl (hw _ (List.mem_of_getElem? (i := 47) rfl))) (Or.inl (hw _ (List.mem_of_getElem? (i := 41) rfl))) (by decide) (t := .long) (t' := .long) (by decide) (by decide)))
  replace F_idleTimeoutMs := F_idleTimeoutMs.other W6 (Or.inr (slot_ne (C := "com/example/cistern/cistern/CisternConfig") (a0 := a0) (Or.inl (hw _ (List.mem_of_getElem? (i := 50) rfl))) (Or.inl (hw _ (List.mem_of_getElem? (i := 41) rfl))) (by decide) (t := .long) (t' := .long) (by decide) (by decide)))
  replace F_maxLifetimeMs := F_maxLifetimeMs.other W6 (Or.inr (slot_ne (C := "com/example/cistern/cistern/CisternConfig") (a0 := a0) (Or.inl (hw _ (List.mem_of_getElem? (i := 53) rfl))) (Or.inl (hw _ (List.mem_of_getElem? (i := 41) rfl))) (by decide) (t := .long) (t' := .long) (by decide) (by decide)))
  replace E := E.wr W6
  replace Kp := Kp.wr W6 (Or.inl (List.mem_singleton.mpr rfl))
  refine g_aloadN K X 34 d2_33 rfl rfl rfl ?_
  refine g_ldc2J K X (hw _ (List.mem_of_getElem? (i := 42) rfl)) 37 d2_34 rfl ?_
  refine g_putF K X eh (hw _ (List.mem_of_getElem? (i := 43) rfl)) F_validationTimeoutMs E (Or.inl (hw _ (List.mem_of_getElem? (i := 44) rfl))) (hw _ (List.mem_of_getElem? (i := 6) rfl)) (ty := .long) (by decide) rfl rfl gg 40 d2_37 rfl fun T h7 X eh W7 => ?_
  replace F_connectionTimeoutMs := F_connectionTimeoutMs.other W7 (Or.inr (slot_ne (C := "com/example/cistern/cistern/CisternConfig") (a0 := a0) (Or.inl (hw _ (List.mem_of_getElem? (i := 41) rfl))) (Or.inl (hw _ (List.mem_of_getElem? (i := 44) rfl))) (by decide) (t := .long) (t' := .long) (by decide) (by decide)))
  replace F_validationTimeoutMs := F_validationTimeoutMs.same W7
  replace F_validateAfterIdleMs := F_validateAfterIdleMs.other W7 (Or.inr (slot_ne (C := "com/example/cistern/cistern/CisternConfig") (a0 := a0) (Or.inl (hw _ (List.mem_of_getElem? (i := 47) rfl))) (Or.inl (hw _ (List.mem_of_getElem? (i := 44) rfl))) (by decide) (t := .long) (t' := .long) (by decide) (by decide)))
  replace F_idleTimeoutMs := F_idleTimeoutMs.other W7 (Or.inr (slot_ne (C := "com/example/cistern/cistern/CisternConfig") (a0 := a0) (Or.inl (hw _ (List.mem_of_getElem? (i := 50) rfl))) (Or.inl (hw _ (List.mem_of_getElem? (i := 44) rfl))) (by decide) (t := .long) (t' := .long) (by decide) (by decide)))
  replace F_maxLifetimeMs := F_maxLifetimeMs.other W7 (Or.inr (slot_ne (C := "com/example/cistern/cistern/CisternConfig") (a0 := a0) (Or.inl (hw _ (List.mem_of_getElem? (i := 53) rfl))) (Or.inl (hw _ (List.mem_of_getElem? (i := 44) rfl))) (by decide) (t := .long) (t' := .long) (by decide) (by decide)))
  replace E := E.wr W7
  replace Kp := Kp.wr W7 (Or.inl (List.mem_singleton.mpr rfl))
  refine g_aloadN K X 41 d2_40 rfl rfl rfl ?_
  refine g_ldc2J K X (hw _ (List.mem_of_getElem? (i := 45) rfl)) 44 d2_41 rfl ?_
  refine g_putF K X eh (hw _ (List.mem_of_getElem? (i := 46) rfl)) F_validateAfterIdleMs E (Or.inl (hw _ (List.mem_of_getElem? (i := 47) rfl))) (hw _ (List.mem_of_getElem? (i := 6) rfl)) (ty := .long) (by decide) rfl rfl gg 47 d2_44 rfl fun T h8 X eh W8 => ?_
  replace F_connectionTimeoutMs := F_connectionTimeoutMs.other W8 (Or.inr (slot_ne (C := "com/example/cistern/cistern/CisternConfig") (a0 := a0) (Or.inl (hw _ (List.mem_of_getElem? (i := 41) rfl))) (Or.inl (hw _ (List.mem_of_getElem? (i := 47) rfl))) (by decide) (t := .long) (t' := .long) (by decide) (by decide)))
  replace F_validationTimeoutMs := F_validationTimeoutMs.other W8 (Or.inr (slot_ne (C := "com/example/cistern/cistern/CisternConfig") (a0 := a0) (Or.inl (hw _ (List.mem_of_getElem? (i := 44) rfl))) (Or.inl (hw _ (List.mem_of_getElem? (i := 47) rfl))) (by decide) (t := .long) (t' := .long) (by decide) (by decide)))
  replace F_idleTimeoutMs := F_idleTimeoutMs.other W8 (Or.inr (slot_ne (C := "com/example/cistern/cistern/CisternConfig") (a0 := a0) (Or.inl (hw _ (List.mem_of_getElem? (i := 50) rfl))) (Or.inl (hw _ (List.mem_of_getElem? (i := 47) rfl))) (by decide) (t := .long) (t' := .long) (by decide) (by decide)))
  replace F_maxLifetimeMs := F_maxLifetimeMs.other W8 (Or.inr (slot_ne (C := "com/example/cistern/cistern/CisternConfig") (a0 := a0) (Or.inl (hw _ (List.mem_of_getElem? (i := 53) rfl))) (Or.inl (hw _ (List.mem_of_getElem? (i := 47) rfl))) (by decide) (t := .long) (t' := .long) (by decide) (by decide)))
  replace E := E.wr W8
  replace Kp := Kp.wr W8 (Or.inl (List.mem_singleton.mpr rfl))
  refine g_aloadN K X 48 d2_47 rfl rfl rfl ?_
  refine g_ldc2J K X (hw _ (List.mem_of_getElem? (i := 48) rfl)) 51 d2_48 rfl ?_
  refine g_putF K X eh (hw _ (List.mem_of_getElem? (i := 49) rfl)) F_idleTimeoutMs E (Or.inl (hw _ (List.mem_of_getElem? (i := 50) rfl))) (hw _ (List.mem_of_getElem? (i := 6) rfl)) (ty := .long) (by decide) rfl rfl gg 54 d2_51 rfl fun T h9 X eh W9 => ?_
  replace F_connectionTimeoutMs := F_connectionTimeoutMs.other W9 (Or.inr (slot_ne (C := "com/example/cistern/cistern/CisternConfig") (a0 := a0) (Or.inl (hw _ (List.mem_of_getElem? (i := 41) rfl))) (Or.inl (hw _ (List.mem_of_getElem? (i := 50) rfl))) (by decide) (t := .long) (t' := .long) (by decide) (by decide)))
  replace F_validationTimeoutMs := F_validationTimeoutMs.other W9 (Or.inr (slot_ne (C := "com/example/cistern/cistern/CisternConfig") (a0 := a0) (Or.inl (hw _ (List.mem_of_getElem? (i := 44) rfl))) (Or.inl (hw _ (List.mem_of_getElem? (i := 50) rfl))) (by decide) (t := .long) (t' := .long) (by decide) (by decide)))
  replace F_idleTimeoutMs := F_idleTimeoutMs.same W9
  replace F_maxLifetimeMs := F_maxLifetimeMs.other W9 (Or.inr (slot_ne (C := "com/example/cistern/cistern/CisternConfig") (a0 := a0) (Or.inl (hw _ (List.mem_of_getElem? (i := 53) rfl))) (Or.inl (hw _ (List.mem_of_getElem? (i := 50) rfl))) (by decide) (t := .long) (t' := .long) (by decide) (by decide)))
  replace E := E.wr W9
  replace Kp := Kp.wr W9 (Or.inl (List.mem_singleton.mpr rfl))
  refine g_aloadN K X 55 d2_54 rfl rfl rfl ?_
  refine g_ldc2J K X (hw _ (List.mem_of_getElem? (i := 51) rfl)) 58 d2_55 rfl ?_
  refine g_putF K X eh (hw _ (List.mem_of_getElem? (i := 52) rfl)) F_maxLifetimeMs E (Or.inl (hw _ (List.mem_of_getElem? (i := 53) rfl))) (hw _ (List.mem_of_getElem? (i := 6) rfl)) (ty := .long) (by decide) rfl rfl gg 61 d2_58 rfl fun T h10 X eh W10 => ?_
  replace F_connectionTimeoutMs := F_connectionTimeoutMs.other W10 (Or.inr (slot_ne (C := "com/example/cistern/cistern/CisternConfig") (a0 := a0) (Or.inl (hw _ (List.mem_of_getElem? (i := 41) rfl))) (Or.inl (hw _ (List.mem_of_getElem? (i := 53) rfl))) (by decide) (t := .long) (t' := .long) (by decide) (by decide)))
  replace F_validationTimeoutMs := F_validationTimeoutMs.other W10 (Or.inr (slot_ne (C := "com/example/cistern/cistern/CisternConfig") (a0 := a0) (Or.inl (hw _ (List.mem_of_getElem? (i := 44) rfl))) (Or.inl (hw _ (List.mem_of_getElem? (i := 53) rfl))) (by decide) (t := .long) (t' := .long) (by decide) (by decide)))
  replace F_idleTimeoutMs := F_idleTimeoutMs.other W10 (Or.inr (slot_ne (C := "com/example/cistern/cistern/CisternConfig") (a0 := a0) (Or.inl (hw _ (List.mem_of_getElem? (i := 50) rfl))) (Or.inl (hw _ (List.mem_of_getElem? (i := 53) rfl))) (by decide) (t := .long) (t' := .long) (by decide) (by decide)))
  replace F_maxLifetimeMs := F_maxLifetimeMs.same W10
  replace E := E.wr W10
  replace Kp := Kp.wr W10 (Or.inl (List.mem_singleton.mpr rfl))
  exact g_ret K X eh rfl d2_61 (by decide) (by decide) ⟨rfl, ⟨E, F_connectionTimeoutMs, F_validationTimeoutMs, F_idleTimeoutMs, F_maxLifetimeMs⟩, Kp⟩
theorem d8_0 : decode prog_10_method_31_code 0 = .ok (.aload_n 0, 1) := by decide +kernel
theorem d8_1 : decode prog_10_method_31_code 1 = .ok (.getfield 26, 3) := by decide +kernel
theorem d8_4 : decode prog_10_method_31_code 4 = .ok (.lreturn, 1) := by decide +kernel
set_option maxRecDepth 65536 in
set_option maxHeartbeats 40000000 in
theorem met_g0 (l : Launch) (Z : State) (a0 : Array Value) (hw : ∀ d ∈ tables_1, d.before a0 Z = true) (g : Addr) (v0 : Int64) (v1 : Int64) (v2 : Int64) (v3 : Int64) (h0 : Heap) (n0 : Nat) (U : CFs Z h0 g v0 v1 v2 v3) :
    Met l Z (⟨"com/example/cistern/cistern/CisternConfig", "getConnectionTimeoutMs", "()J"⟩ : MethodName) prog_10_method_31_code 1 (some .long) [] rm0 #[.ref g] h0 n0 (fun v h' => v = some (.long v0) ∧ h0 = h') := by
  refine Met.of (plainFor_of_name (by first | (simp [plainName, overriddenIn]; done) | decide +kernel)) #[.val (.ref g)] (fun m => by first | (simp [entryFrame, mkF, argsToLocals, Value.category]; done) | rfl) ?_
  intro p e s m below meth c T K X eh
  refine g_aloadN K X 1 d8_0 rfl rfl rfl ?_
  refine g_getF K X eh (hw _ (List.mem_of_getElem? (i := 40) rfl)) U.2.1 4 d8_1 rfl fun T X eh => ?_
  exact g_retJ K X eh rfl d8_4 (by decide) (by decide) ⟨rfl, rfl⟩
theorem d9_0 : decode prog_10_method_33_code 0 = .ok (.aload_n 0, 1) := by decide +kernel
theorem d9_1 : decode prog_10_method_33_code 1 = .ok (.getfield 32, 3) := by decide +kernel
theorem d9_4 : decode prog_10_method_33_code 4 = .ok (.lreturn, 1) := by decide +kernel
set_option maxRecDepth 65536 in
set_option maxHeartbeats 40000000 in
theorem met_g1 (l : Launch) (Z : State) (a0 : Array Value) (hw : ∀ d ∈ tables_1, d.before a0 Z = true) (g : Addr) (v0 : Int64) (v1 : Int64) (v2 : Int64) (v3 : Int64) (h0 : Heap) (n0 : Nat) (U : CFs Z h0 g v0 v1 v2 v3) :
    Met l Z (⟨"com/example/cistern/cistern/CisternConfig", "getValidationTimeoutMs", "()J"⟩ : MethodName) prog_10_method_33_code 1 (some .long) [] rm0 #[.ref g] h0 n0 (fun v h' => v = some (.long v1) ∧ h0 = h') := by
  refine Met.of (plainFor_of_name (by first | (simp [plainName, overriddenIn]; done) | decide +kernel)) #[.val (.ref g)] (fun m => by first | (simp [entryFrame, mkF, argsToLocals, Value.category]; done) | rfl) ?_
  intro p e s m below meth c T K X eh
  refine g_aloadN K X 1 d9_0 rfl rfl rfl ?_
  refine g_getF K X eh (hw _ (List.mem_of_getElem? (i := 43) rfl)) U.2.2.1 4 d9_1 rfl fun T X eh => ?_
  exact g_retJ K X eh rfl d9_4 (by decide) (by decide) ⟨rfl, rfl⟩
theorem d10_0 : decode prog_10_method_39_code 0 = .ok (.aload_n 0, 1) := by decide +kernel
theorem d10_1 : decode prog_10_method_39_code 1 = .ok (.getfield 42, 3) := by decide +kernel
theorem d10_4 : decode prog_10_method_39_code 4 = .ok (.lreturn, 1) := by decide +kernel
set_option maxRecDepth 65536 in
set_option maxHeartbeats 40000000 in
theorem met_g2 (l : Launch) (Z : State) (a0 : Array Value) (hw : ∀ d ∈ tables_1, d.before a0 Z = true) (g : Addr) (v0 : Int64) (v1 : Int64) (v2 : Int64) (v3 : Int64) (h0 : Heap) (n0 : Nat) (U : CFs Z h0 g v0 v1 v2 v3) :
    Met l Z (⟨"com/example/cistern/cistern/CisternConfig", "getIdleTimeoutMs", "()J"⟩ : MethodName) prog_10_method_39_code 1 (some .long) [] rm0 #[.ref g] h0 n0 (fun v h' => v = some (.long v2) ∧ h0 = h') := by
  refine Met.of (plainFor_of_name (by first | (simp [plainName, overriddenIn]; done) | decide +kernel)) #[.val (.ref g)] (fun m => by first | (simp [entryFrame, mkF, argsToLocals, Value.category]; done) | rfl) ?_
  intro p e s m below meth c T K X eh
  refine g_aloadN K X 1 d10_0 rfl rfl rfl ?_
  refine g_getF K X eh (hw _ (List.mem_of_getElem? (i := 49) rfl)) U.2.2.2.1 4 d10_1 rfl fun T X eh => ?_
  exact g_retJ K X eh rfl d10_4 (by decide) (by decide) ⟨rfl, rfl⟩
theorem d11_0 : decode prog_10_method_41_code 0 = .ok (.aload_n 0, 1) := by decide +kernel
theorem d11_1 : decode prog_10_method_41_code 1 = .ok (.getfield 47, 3) := by decide +kernel
theorem d11_4 : decode prog_10_method_41_code 4 = .ok (.lreturn, 1) := by decide +kernel
set_option maxRecDepth 65536 in
set_option maxHeartbeats 40000000 in
theorem met_g3 (l : Launch) (Z : State) (a0 : Array Value) (hw : ∀ d ∈ tables_1, d.before a0 Z = true) (g : Addr) (v0 : Int64) (v1 : Int64) (v2 : Int64) (v3 : Int64) (h0 : Heap) (n0 : Nat) (U : CFs Z h0 g v0 v1 v2 v3) :
    Met l Z (⟨"com/example/cistern/cistern/CisternConfig", "getMaxLifetimeMs", "()J"⟩ : MethodName) prog_10_method_41_code 1 (some .long) [] rm0 #[.ref g] h0 n0 (fun v h' => v = some (.long v3) ∧ h0 = h') := by
  refine Met.of (plainFor_of_name (by first | (simp [plainName, overriddenIn]; done) | decide +kernel)) #[.val (.ref g)] (fun m => by first | (simp [entryFrame, mkF, argsToLocals, Value.category]; done) | rfl) ?_
  intro p e s m below meth c T K X eh
  refine g_aloadN K X 1 d11_0 rfl rfl rfl ?_
  refine g_getF K X eh (hw _ (List.mem_of_getElem? (i := 52) rfl)) U.2.2.2.2 4 d11_1 rfl fun T X eh => ?_
  exact g_retJ K X eh rfl d11_4 (by decide) (by decide) ⟨rfl, rfl⟩
def rmS : Room := { frames := 1, cells := 2, slots := 80, locals := 40 }
theorem d6_0 : decode prog_10_method_32_code 0 = .ok (.ldc_w 276, 3) := by decide +kernel
theorem d6_3 : decode prog_10_method_32_code 3 = .ok (.lload_n 1, 1) := by decide +kernel
theorem d6_4 : decode prog_10_method_32_code 4 = .ok (.lconst 1, 1) := by decide +kernel
theorem d6_5 : decode prog_10_method_32_code 5 = .ok (.invokestatic 272, 3) := by decide +kernel
theorem d6_8 : decode prog_10_method_32_code 8 = .ok (.aload_n 0, 1) := by decide +kernel
theorem d6_9 : decode prog_10_method_32_code 9 = .ok (.lload_n 1, 1) := by decide +kernel
theorem d6_10 : decode prog_10_method_32_code 10 = .ok (.putfield 26, 3) := by decide +kernel
theorem d6_13 : decode prog_10_method_32_code 13 = .ok (.return_, 1) := by decide +kernel
set_option maxRecDepth 65536 in
set_option maxHeartbeats 40000000 in
theorem met_set (l : Launch) (Z : State) (a0 : Array Value) (hw : ∀ d ∈ tables_1, d.before a0 Z = true) (g : Addr) (x0 : Int64) (v0 : Int64) (v1 : Int64) (v2 : Int64) (v3 : Int64) (hx0 : ¬ x0 < 1) (h0 : Heap) (n0 : Nat) (gg : n0 ≤ g) (U : CFs Z h0 g v0 v1 v2 v3) :
    Met l Z (⟨"com/example/cistern/cistern/CisternConfig", "setConnectionTimeoutMs", "(J)V"⟩ : MethodName) prog_10_method_32_code 3 none [] rmS #[.ref g, .long x0] h0 n0 (fun v h' => v = none ∧ CFs Z h' g x0 v1 v2 v3 ∧ h0.size ≤ h'.size) := by
  refine Met.of (plainFor_of_name (by first | (simp [plainName, overriddenIn]; done) | decide +kernel)) #[.val (.ref g), .val (.long x0), .second] (fun m => by first | (simp [entryFrame, mkF, argsToLocals, Value.category]; done) | rfl) ?_
  intro p e s m below meth c T K X eh
  refine g_ldcSW K X eh (hw _ (List.mem_of_getElem? (i := 59) rfl)) (own_str hw) 76 (by decide) (by decide) 3 d6_0 rfl (by decide) (by decide) fun T h1 t X eh E1 => ?_
  refine g_lloadN K X 4 d6_3 rfl rfl ?_
  refine g_lconst K X (1 : Int64) 5 d6_4 rfl rfl ?_
  refine g_static K X eh rfl (met_rq l Z a0 hw t x0 1 hx0 h1 n0) (hw _ (List.mem_of_getElem? (i := 67) rfl)) (hw _ (List.mem_of_getElem? (i := 68) rfl)) (hw _ (List.mem_of_getElem? (i := 69) rfl)) (hw _ (List.mem_of_getElem? (i := 7) rfl)) (by decide) [.ref t, .long x0, .long ((1 : Int64))] rfl rfl (lenOf pd_1 rfl) 8 d6_5 rfl 0 (Nat.le_of_eq rfl) (by decide) (by decide) (by decide) (by decide) fun T v h' X eh hv => ?_
  obtain ⟨rfl, rfl⟩ := hv
  refine g_aloadN K X 9 d6_8 rfl rfl rfl ?_
  refine g_lloadN K X 10 d6_9 rfl rfl ?_
  refine g_putF K X eh (hw _ (List.mem_of_getElem? (i := 40) rfl)) (U.2.1.ext E1) (U.1.ext E1) (Or.inl (hw _ (List.mem_of_getElem? (i := 41) rfl))) (hw _ (List.mem_of_getElem? (i := 6) rfl)) (ty := .long) (by decide) rfl rfl gg 13 d6_10 rfl fun T h2 X eh W2 => ?_
  exact g_ret K X eh rfl d6_13 (by decide) (by decide) ⟨rfl, ⟨(U.1.ext E1).wr W2, (U.2.1.ext E1).same W2, (U.2.2.1.ext E1).other W2 (Or.inr (slot_ne (C := "com/example/cistern/cistern/CisternConfig") (a0 := a0) (Or.inl (hw _ (List.mem_of_getElem? (i := 44) rfl))) (Or.inl (hw _ (List.mem_of_getElem? (i := 41) rfl))) (by decide) (t := .long) (t' := .long) (by decide) (by decide))), (U.2.2.2.1.ext E1).other W2 (Or.inr (slot_ne (C := "com/example/cistern/cistern/CisternConfig") (a0 := a0) (Or.inl (hw _ (List.mem_of_getElem? (i := 50) rfl))) (Or.inl (hw _ (List.mem_of_getElem? (i := 41) rfl))) (by decide) (t := .long) (t' := .long) (by decide) (by decide))), (U.2.2.2.2.ext E1).other W2 (Or.inr (slot_ne (C := "com/example/cistern/cistern/CisternConfig") (a0 := a0) (Or.inl (hw _ (List.mem_of_getElem? (i := 53) rfl))) (Or.inl (hw _ (List.mem_of_getElem? (i := 41) rfl))) (by decide) (t := .long) (t' := .long) (by decide) (by decide)))⟩, by rw [W2.size]; exact E1.1⟩
theorem d1_0 : decode method_2_code 0 = .ok (.lload_n 0, 1) := by decide +kernel
theorem d1_1 : decode method_2_code 1 = .ok (.ldc2_w 9, 3) := by decide +kernel
theorem d1_4 : decode method_2_code 4 = .ok (.land, 1) := by decide +kernel
theorem d1_5 : decode method_2_code 5 = .ok (.lstore_n 2, 1) := by decide +kernel
theorem d1_6 : decode method_2_code 6 = .ok (.lload_n 2, 1) := by decide +kernel
theorem d1_7 : decode method_2_code 7 = .ok (.lconst 0, 1) := by decide +kernel
theorem d1_8 : decode method_2_code 8 = .ok (.lcmp, 1) := by decide +kernel
theorem d1_9 : decode method_2_code 9 = .ok (.ifCond .ne 5, 3) := by decide +kernel
theorem d1_12 : decode method_2_code 12 = .ok (.lconst 1, 1) := by decide +kernel
theorem d1_13 : decode method_2_code 13 = .ok (.lstore_n 2, 1) := by decide +kernel
theorem d1_14 : decode method_2_code 14 = .ok (.lload_n 2, 1) := by decide +kernel
theorem d1_15 : decode method_2_code 15 = .ok (.lreturn, 1) := by decide +kernel
def VL (x : Int64) : Int64 := if x &&& 9223372036854775807 = 0 then 1 else x &&& 9223372036854775807
theorem own_vl (x : Int64) : ¬ VL x < 1 := by
  have h1 : (x &&& 9223372036854775807).toInt = (((x &&& 9223372036854775807).toBitVec.toNat : Nat) : Int) := by
    have : (x &&& 9223372036854775807).toBitVec.toNat < 2 ^ 63 := by
      simp only [Int64.toBitVec_and, BitVec.toNat_and]
      exact Nat.lt_of_le_of_lt Nat.and_le_right (by decide)
    show (x &&& 9223372036854775807).toBitVec.toInt = _
    rw [BitVec.toInt_eq_toNat_cond, if_pos (by omega)]
  rw [VL]
  split
  · decide
  · rename_i h
    rw [Int64.lt_iff_toInt_lt, show (1 : Int64).toInt = 1 from rfl]
    intro q
    apply h
    apply Int64.toInt_inj.mp
    rw [show (0 : Int64).toInt = 0 from rfl]
    omega
set_option maxRecDepth 65536 in
set_option maxHeartbeats 40000000 in
theorem met_va (l : Launch) (Z : State) (a0 : Array Value) (hw : ∀ d ∈ tables_1, d.before a0 Z = true) (x0 : Int64) (h0 : Heap) (n0 : Nat) :
    Met l Z (⟨"com/example/cistern/cistern/CisternConfigSetConnectionTimeoutMsPinLaw", "valid", "(J)J"⟩ : MethodName) method_2_code 4 (some .long) [] rm0 #[.long x0] h0 n0 (fun v h' => v = some (.long (VL x0)) ∧ h0 = h') := by
  refine Met.of (plainFor_of_name (by first | (simp [plainName, overriddenIn]; done) | decide +kernel)) #[.val (.long x0), .second, .unset, .unset] (fun m => by first | (simp [entryFrame, mkF, argsToLocals, Value.category]; done) | rfl) ?_
  intro p e s m below meth c T K X eh
  refine g_lloadN K X 1 d1_0 rfl rfl ?_
  refine g_ldc2J K X (hw _ (List.mem_of_getElem? (i := 4) rfl)) 4 d1_1 rfl ?_
  refine g_land K X 5 d1_4 rfl ?_
  refine g_lstoreN K X 6 #[.val (.long x0), .second, .val (.long (x0 &&& ((9223372036854775807 : Int64)))), .second] d1_5 rfl rfl ?_
  refine g_lloadN K X 7 d1_6 rfl rfl ?_
  refine g_lconst K X (0 : Int64) 8 d1_7 rfl rfl ?_
  refine g_lcmp K X 9 d1_8 rfl ?_
  by_cases hq : x0 &&& 9223372036854775807 = 0
  · refine g_ifF K X 12 d1_9 rfl (show ¬ (¬ (XT.cmpL (x0 &&& ((9223372036854775807 : Int64))) ((0 : Int64))) = 0) from (fun q => q ((own_cmp _ _).mpr hq))) ?_
    refine g_lconst K X (1 : Int64) 13 d1_12 rfl rfl ?_
    refine g_lstoreN K X 14 #[.val (.long x0), .second, .val (.long ((1 : Int64))), .second] d1_13 rfl rfl ?_
    refine g_lloadN K X 15 d1_14 rfl rfl ?_
    exact g_retJ K X eh rfl d1_15 (by decide) (by decide) ⟨by rw [VL, if_pos hq], rfl⟩
  · refine g_ifT K X 14 d1_9 rfl (show ¬ (XT.cmpL (x0 &&& ((9223372036854775807 : Int64))) ((0 : Int64))) = 0 from (fun q => hq ((own_cmp _ _).mp q))) ?_
    refine g_lloadN K X 15 d1_14 rfl rfl ?_
    exact g_retJ K X eh rfl d1_15 (by decide) (by decide) ⟨by rw [VL, if_neg hq], rfl⟩
set_option maxRecDepth 65536 in
set_option maxHeartbeats 40000000 in
theorem met_law (l : Launch) (Z : State) (a0 : Array Value) (hw : ∀ d ∈ tables_1, d.before a0 Z = true) (x0 x1 : Int64) (h0 : Heap) (n0 : Nat) (Z0 : n0 ≤ h0.size) :
    Met l Z x code maxLocals ret tables_1 room_1 #[.long x0, .long x1] h0 n0 (fun v h' => v = some (.int 1)) := by
  refine Met.of (plainFor_of_name (by first | (simp [plainName, overriddenIn]; done) | decide +kernel)) #[.val (.long x0), .second, .val (.long x1), .second, .unset, .unset, .unset, .unset, .unset, .unset] (fun m => by first | (simp [entryFrame, mkF, argsToLocals, Value.category, maxLocals]; done) | rfl) ?_
  intro p e s m below meth c T K X eh
  refine g_lloadN K X 1 at_0 rfl rfl ?_
  refine g_static K X eh rfl (met_va l Z a0 hw x0 h0 n0) (hw _ (List.mem_of_getElem? (i := 0) rfl)) (hw _ (List.mem_of_getElem? (i := 1) rfl)) (hw _ (List.mem_of_getElem? (i := 3) rfl)) (hw _ (List.mem_of_getElem? (i := 2) rfl)) (by decide) [.long x0] rfl rfl (lenOf pd_2 rfl) 4 at_1 rfl 0 (Nat.le_of_eq rfl) (by decide) (by decide) (by decide) (by decide) fun T v h' X eh hv => ?_
  obtain ⟨rfl, rfl⟩ := hv
  refine g_lstore K X 6 #[.val (.long x0), .second, .val (.long x1), .second, .val (.long (VL x0)), .second, .unset, .unset, .unset, .unset] at_4 rfl rfl ?_
  refine g_lloadN K X 7 at_6 rfl rfl ?_
  refine g_static K X eh rfl (met_va l Z a0 hw x1 _ n0) (hw _ (List.mem_of_getElem? (i := 0) rfl)) (hw _ (List.mem_of_getElem? (i := 1) rfl)) (hw _ (List.mem_of_getElem? (i := 3) rfl)) (hw _ (List.mem_of_getElem? (i := 2) rfl)) (by decide) [.long x1] rfl rfl (lenOf pd_2 rfl) 10 at_7 rfl 0 (Nat.le_of_eq rfl) (by decide) (by decide) (by decide) (by decide) fun T v h' X eh hv => ?_
  obtain ⟨rfl, rfl⟩ := hv
  refine g_lstore K X 12 #[.val (.long x0), .second, .val (.long x1), .second, .val (.long (VL x0)), .second, .val (.long (VL x1)), .second, .unset, .unset] at_10 rfl rfl ?_
  refine g_new K X eh (hw _ (List.mem_of_getElem? (i := 5) rfl)) (hw _ (List.mem_of_getElem? (i := 6) rfl)) (hw _ (List.mem_of_getElem? (i := 7) rfl)) 15 at_12 rfl (by decide) (by decide) fun T h1 g gg0 X eh E1 Eg D => ?_
  have gg : n0 ≤ g := gg0 ▸ Z0
  refine g_dup K X 16 at_15 rfl rfl ?_
  refine g_special K X eh rfl rfl (met_init l Z a0 hw g h1 n0 (Nat.le_trans Z0 E1.1) gg Eg (D (Or.inr (hw _ (List.mem_of_getElem? (i := 34) rfl))) (ty := .object "java/util/Map") (by decide)) (D (Or.inl (hw _ (List.mem_of_getElem? (i := 36) rfl))) (ty := .boolean) (by decide)) (D (Or.inl (hw _ (List.mem_of_getElem? (i := 38) rfl))) (ty := .int) (by decide)) (D (Or.inl (hw _ (List.mem_of_getElem? (i := 41) rfl))) (ty := .long) (by decide)) (D (Or.inl (hw _ (List.mem_of_getElem? (i := 44) rfl))) (ty := .long) (by decide)) (D (Or.inl (hw _ (List.mem_of_getElem? (i := 47) rfl))) (ty := .long) (by decide)) (D (Or.inl (hw _ (List.mem_of_getElem? (i := 50) rfl))) (ty := .long) (by decide)) (D (Or.inl (hw _ (List.mem_of_getElem? (i := 53) rfl))) (ty := .long) (by decide))) (hw _ (List.mem_of_getElem? (i := 8) rfl)) (hw _ (List.mem_of_getElem? (i := 9) rfl)) (hw _ (List.mem_of_getElem? (i := 10) rfl)) (hw _ (List.mem_of_getElem? (i := 7) rfl)) (by decide) (a := g) [] rfl rfl (lenOf pd_0 rfl) 19 at_16 rfl 1 (Nat.le_of_eq rfl) (by decide) (by decide) (by decide) (by decide) fun T v h2 X eh hv => ?_
  obtain ⟨rfl, U, K2⟩ := hv
  refine g_astore K X 21 #[.val (.long x0), .second, .val (.long x1), .second, .val (.long (VL x0)), .second, .val (.long (VL x1)), .second, .val (.ref g), .unset] at_19 rfl rfl rfl ?_
  refine g_aload K X 23 at_21 rfl rfl rfl ?_
  refine g_lload K X 25 at_23 rfl rfl ?_
  refine g_virtual K X eh rfl (met_set l Z a0 hw g (VL x0) 20000 5000 600000 1800000 (own_vl x0) h2 n0 gg U) (hw _ (List.mem_of_getElem? (i := 54) rfl)) (hw _ (List.mem_of_getElem? (i := 55) rfl)) (hw _ (List.mem_of_getElem? (i := 57) rfl)) (hw _ (List.mem_of_getElem? (i := 56) rfl)) (hw _ (List.mem_of_getElem? (i := 58) rfl)) (hw _ (List.mem_of_getElem? (i := 7) rfl)) (by decide) U.1 [.long (VL x0)] rfl rfl (lenOf pd_3 rfl) 28 at_25 rfl 0 (Nat.le_of_eq rfl) (by decide) (by decide) (by decide) (by decide) fun T v h3 X eh hv => ?_
  clear U
  obtain ⟨rfl, U, -⟩ := hv
  refine g_aload K X 30 at_28 rfl rfl rfl ?_
  refine g_virtual K X eh rfl (met_g0 l Z a0 hw g (VL x0) 5000 600000 1800000 h3 n0 U) (hw _ (List.mem_of_getElem? (i := 70) rfl)) (hw _ (List.mem_of_getElem? (i := 71) rfl)) (hw _ (List.mem_of_getElem? (i := 73) rfl)) (hw _ (List.mem_of_getElem? (i := 72) rfl)) (hw _ (List.mem_of_getElem? (i := 74) rfl)) (hw _ (List.mem_of_getElem? (i := 7) rfl)) (by decide) U.1 [] rfl rfl (lenOf pd_4 rfl) 33 at_30 rfl 0 (Nat.le_of_eq rfl) (by decide) (by decide) (by decide) (by decide) fun T v h' X eh hv => ?_
  obtain ⟨rfl, rfl⟩ := hv
  refine g_lload K X 35 at_33 rfl rfl ?_
  refine g_lcmp K X 36 at_35 rfl ?_
  refine g_ifF K X 39 at_36 rfl (show ¬ (¬ (XT.cmpL ((VL x0)) (VL x0)) = 0) from (fun q => q ((own_cmp _ _).mpr rfl))) ?_
  refine g_iconst K X (1 : Int32) 40 at_39 rfl rfl ?_
  refine g_goto K X 44 at_40 rfl ?_
  refine g_istore K X 46 #[.val (.long x0), .second, .val (.long x1), .second, .val (.long (VL x0)), .second, .val (.long (VL x1)), .second, .val (.ref g), .val (.int ((1 : Int32)))] at_44 rfl rfl ?_
  refine g_iload K X 48 at_46 rfl rfl ?_
  refine g_ifF K X 51 at_48 rfl (show ¬ (((1 : Int32)) = 0) from (by decide)) ?_
  refine g_aload K X 53 at_51 rfl rfl rfl ?_
  refine g_virtual K X eh rfl (met_g1 l Z a0 hw g (VL x0) 5000 600000 1800000 h3 n0 U) (hw _ (List.mem_of_getElem? (i := 75) rfl)) (hw _ (List.mem_of_getElem? (i := 76) rfl)) (hw _ (List.mem_of_getElem? (i := 78) rfl)) (hw _ (List.mem_of_getElem? (i := 77) rfl)) (hw _ (List.mem_of_getElem? (i := 79) rfl)) (hw _ (List.mem_of_getElem? (i := 7) rfl)) (by decide) U.1 [] rfl rfl (lenOf pd_4 rfl) 56 at_53 rfl 0 (Nat.le_of_eq rfl) (by decide) (by decide) (by decide) (by decide) fun T v h' X eh hv => ?_
  obtain ⟨rfl, rfl⟩ := hv
  refine g_ldc2J K X (hw _ (List.mem_of_getElem? (i := 80) rfl)) 59 at_56 rfl ?_
  refine g_lcmp K X 60 at_59 rfl ?_
  refine g_ifF K X 63 at_60 rfl (show ¬ (¬ (XT.cmpL ((5000 : Int64)) ((5000 : Int64))) = 0) from (fun q => q ((own_cmp _ _).mpr rfl))) ?_
  refine g_iconst K X (1 : Int32) 64 at_63 rfl rfl ?_
  refine g_goto K X 68 at_64 rfl ?_
  refine g_istore K X 70 #[.val (.long x0), .second, .val (.long x1), .second, .val (.long (VL x0)), .second, .val (.long (VL x1)), .second, .val (.ref g), .val (.int ((1 : Int32)))] at_68 rfl rfl ?_
  refine g_iload K X 72 at_70 rfl rfl ?_
  refine g_ifF K X 75 at_72 rfl (show ¬ (((1 : Int32)) = 0) from (by decide)) ?_
  refine g_aload K X 77 at_75 rfl rfl rfl ?_
  refine g_virtual K X eh rfl (met_g2 l Z a0 hw g (VL x0) 5000 600000 1800000 h3 n0 U) (hw _ (List.mem_of_getElem? (i := 81) rfl)) (hw _ (List.mem_of_getElem? (i := 82) rfl)) (hw _ (List.mem_of_getElem? (i := 84) rfl)) (hw _ (List.mem_of_getElem? (i := 83) rfl)) (hw _ (List.mem_of_getElem? (i := 85) rfl)) (hw _ (List.mem_of_getElem? (i := 7) rfl)) (by decide) U.1 [] rfl rfl (lenOf pd_4 rfl) 80 at_77 rfl 0 (Nat.le_of_eq rfl) (by decide) (by decide) (by decide) (by decide) fun T v h' X eh hv => ?_
  obtain ⟨rfl, rfl⟩ := hv
  refine g_ldc2J K X (hw _ (List.mem_of_getElem? (i := 86) rfl)) 83 at_80 rfl ?_
  refine g_lcmp K X 84 at_83 rfl ?_
  refine g_ifF K X 87 at_84 rfl (show ¬ (¬ (XT.cmpL ((600000 : Int64)) ((600000 : Int64))) = 0) from (fun q => q ((own_cmp _ _).mpr rfl))) ?_
  refine g_iconst K X (1 : Int32) 88 at_87 rfl rfl ?_
  refine g_goto K X 92 at_88 rfl ?_
  refine g_istore K X 94 #[.val (.long x0), .second, .val (.long x1), .second, .val (.long (VL x0)), .second, .val (.long (VL x1)), .second, .val (.ref g), .val (.int ((1 : Int32)))] at_92 rfl rfl ?_
  refine g_iload K X 96 at_94 rfl rfl ?_
  refine g_ifF K X 99 at_96 rfl (show ¬ (((1 : Int32)) = 0) from (by decide)) ?_
  refine g_aload K X 101 at_99 rfl rfl rfl ?_
  refine g_virtual K X eh rfl (met_g3 l Z a0 hw g (VL x0) 5000 600000 1800000 h3 n0 U) (hw _ (List.mem_of_getElem? (i := 87) rfl)) (hw _ (List.mem_of_getElem? (i := 88) rfl)) (hw _ (List.mem_of_getElem? (i := 90) rfl)) (hw _ (List.mem_of_getElem? (i := 89) rfl)) (hw _ (List.mem_of_getElem? (i := 91) rfl)) (hw _ (List.mem_of_getElem? (i := 7) rfl)) (by decide) U.1 [] rfl rfl (lenOf pd_4 rfl) 104 at_101 rfl 0 (Nat.le_of_eq rfl) (by decide) (by decide) (by decide) (by decide) fun T v h' X eh hv => ?_
  obtain ⟨rfl, rfl⟩ := hv
  refine g_ldc2J K X (hw _ (List.mem_of_getElem? (i := 92) rfl)) 107 at_104 rfl ?_
  refine g_lcmp K X 108 at_107 rfl ?_
  refine g_ifF K X 111 at_108 rfl (show ¬ (¬ (XT.cmpL ((1800000 : Int64)) ((1800000 : Int64))) = 0) from (fun q => q ((own_cmp _ _).mpr rfl))) ?_
  refine g_iconst K X (1 : Int32) 112 at_111 rfl rfl ?_
  refine g_goto K X 116 at_112 rfl ?_
  refine g_istore K X 118 #[.val (.long x0), .second, .val (.long x1), .second, .val (.long (VL x0)), .second, .val (.long (VL x1)), .second, .val (.ref g), .val (.int ((1 : Int32)))] at_116 rfl rfl ?_
  refine g_aload K X 120 at_118 rfl rfl rfl ?_
  refine g_lload K X 122 at_120 rfl rfl ?_
  refine g_virtual K X eh rfl (met_set l Z a0 hw g (VL x1) (VL x0) 5000 600000 1800000 (own_vl x1) h3 n0 gg U) (hw _ (List.mem_of_getElem? (i := 54) rfl)) (hw _ (List.mem_of_getElem? (i := 55) rfl)) (hw _ (List.mem_of_getElem? (i := 57) rfl)) (hw _ (List.mem_of_getElem? (i := 56) rfl)) (hw _ (List.mem_of_getElem? (i := 58) rfl)) (hw _ (List.mem_of_getElem? (i := 7) rfl)) (by decide) U.1 [.long (VL x1)] rfl rfl (lenOf pd_3 rfl) 125 at_122 rfl 0 (Nat.le_of_eq rfl) (by decide) (by decide) (by decide) (by decide) fun T v h4 X eh hv => ?_
  clear U
  obtain ⟨rfl, U, -⟩ := hv
  refine g_iload K X 127 at_125 rfl rfl ?_
  refine g_ifF K X 130 at_127 rfl (show ¬ (((1 : Int32)) = 0) from (by decide)) ?_
  refine g_aload K X 132 at_130 rfl rfl rfl ?_
  refine g_virtual K X eh rfl (met_g0 l Z a0 hw g (VL x1) 5000 600000 1800000 h4 n0 U) (hw _ (List.mem_of_getElem? (i := 70) rfl)) (hw _ (List.mem_of_getElem? (i := 71) rfl)) (hw _ (List.mem_of_getElem? (i := 73) rfl)) (hw _ (List.mem_of_getElem? (i := 72) rfl)) (hw _ (List.mem_of_getElem? (i := 74) rfl)) (hw _ (List.mem_of_getElem? (i := 7) rfl)) (by decide) U.1 [] rfl rfl (lenOf pd_4 rfl) 135 at_132 rfl 0 (Nat.le_of_eq rfl) (by decide) (by decide) (by decide) (by decide) fun T v h' X eh hv => ?_
  obtain ⟨rfl, rfl⟩ := hv
  refine g_lload K X 137 at_135 rfl rfl ?_
  refine g_lcmp K X 138 at_137 rfl ?_
  refine g_ifF K X 141 at_138 rfl (show ¬ (¬ (XT.cmpL ((VL x1)) (VL x1)) = 0) from (fun q => q ((own_cmp _ _).mpr rfl))) ?_
  refine g_iconst K X (1 : Int32) 142 at_141 rfl rfl ?_
  refine g_goto K X 146 at_142 rfl ?_
  refine g_istore K X 148 #[.val (.long x0), .second, .val (.long x1), .second, .val (.long (VL x0)), .second, .val (.long (VL x1)), .second, .val (.ref g), .val (.int ((1 : Int32)))] at_146 rfl rfl ?_
  refine g_iload K X 150 at_148 rfl rfl ?_
  refine g_ifF K X 153 at_150 rfl (show ¬ (((1 : Int32)) = 0) from (by decide)) ?_
  refine g_aload K X 155 at_153 rfl rfl rfl ?_
  refine g_virtual K X eh rfl (met_g1 l Z a0 hw g (VL x1) 5000 600000 1800000 h4 n0 U) (hw _ (List.mem_of_getElem? (i := 75) rfl)) (hw _ (List.mem_of_getElem? (i := 76) rfl)) (hw _ (List.mem_of_getElem? (i := 78) rfl)) (hw _ (List.mem_of_getElem? (i := 77) rfl)) (hw _ (List.mem_of_getElem? (i := 79) rfl)) (hw _ (List.mem_of_getElem? (i := 7) rfl)) (by decide) U.1 [] rfl rfl (lenOf pd_4 rfl) 158 at_155 rfl 0 (Nat.le_of_eq rfl) (by decide) (by decide) (by decide) (by decide) fun T v h' X eh hv => ?_
  obtain ⟨rfl, rfl⟩ := hv
  refine g_ldc2J K X (hw _ (List.mem_of_getElem? (i := 80) rfl)) 161 at_158 rfl ?_
  refine g_lcmp K X 162 at_161 rfl ?_
  refine g_ifF K X 165 at_162 rfl (show ¬ (¬ (XT.cmpL ((5000 : Int64)) ((5000 : Int64))) = 0) from (fun q => q ((own_cmp _ _).mpr rfl))) ?_
  refine g_iconst K X (1 : Int32) 166 at_165 rfl rfl ?_
  refine g_goto K X 170 at_166 rfl ?_
  refine g_istore K X 172 #[.val (.long x0), .second, .val (.long x1), .second, .val (.long (VL x0)), .second, .val (.long (VL x1)), .second, .val (.ref g), .val (.int ((1 : Int32)))] at_170 rfl rfl ?_
  refine g_iload K X 174 at_172 rfl rfl ?_
  exact g_retN K X eh rfl (t := .boolean) (by simp) ((1 : Int32)) rfl at_174 (by decide) (by decide) rfl
set_option maxRecDepth 65536 in
set_option maxHeartbeats 40000000 in
theorem comes_1 {Post : Tables → Env → Array Value → State → Outcome → State → Prop} (hpost : ∀ tb e args s v u, (limb_1_1.after args s (.returned v) u = true ∧ limb_1_2.after args s (.returned v) u = true ∧ True) → ReturnedEndW s (.returned v) u (Jvm.fieldLocs frame_1_writes args s ++ Jvm.arrayLocs frame_1_arrays args s ++ Jvm.staticLocs frame_1_statics s) 16 1152 → Post tb e args s (.returned v) u) :
    ArmFor flags0 classFile x code maxLocals ret World_1 tables_1 room_1 Calls_1 rest_1 Pre_1 Post := by
  intro l hfl _ _ p e ha hc hk s m args below hf hA hF happ hP
  obtain ⟨hcalls, hrest, hpre⟩ := hP
  obtain ⟨-, -, -, hnamed, -, -, -, hat⟩ := (Spec.applies_iff hf).mp happ
  obtain ⟨hg, hn⟩ := and_e (Cond.before_iff.mp (show (Jvm.Cond.and given_1 narrow_1).before args s = true from hpre))
  obtain ⟨h1, h2⟩ := and_e hg
  obtain ⟨w0, w1, rfl⟩ : ∃ w0 w1 : Value, args = #[w0, w1] := by
    have hs : args.size = 2 := by simpa [Cond.value, given_1] using h1
    obtain ⟨L⟩ := args
    match L, hs with
    | [w0, w1], _ => exact ⟨w0, w1, rfl⟩
  have hw := fun d (hd : d ∈ tables_1) => atoms_spec (ws := Jvm.Cond.code x code maxLocals ret :: tables_1) hat d (List.mem_cons_of_mem _ hd)
  obtain ⟨g0, r0⟩ := and_e h2
  obtain ⟨i0, e0⟩ := isL_v g0
  obtain rfl : w0 = (.long i0) := Option.some.inj e0
  obtain ⟨i1, e1⟩ := isL_v r0
  obtain rfl : w1 = (.long i1) := Option.some.inj e1
  obtain ⟨n, o, h1, h2, h3, _, L, rfl, ⟨rfl, N⟩, hq⟩ := met_law l s _ hw i0 i1 s.heap s.heap.size (Nat.le_refl _) p e ha hc hk s m _ below hf ((Spec.applies_iff_loose hf).mp happ).1 ⟨rfl, State.Warmed39.refl s, rfl⟩ trivial
  refine ⟨n, _, h1, h2, h3, hpost _ _ _ _ _ _ ⟨Cond.after_iff.mpr rfl, Cond.after_iff.mpr (eq_i res_at (Term.int_eval (1)) rfl), trivial⟩ ⟨hq.1, hq.2.1, hq.2.2.1, (hq.2.2.2.sift fun y hy => Or.inr (N y hy)).mono (by decide) (by decide)⟩⟩
theorem main_1_1 : Claimed_1_1 := comes_1 fun _ _ _ _ _ _ h hF => ⟨h.1, hF⟩
theorem main_1_2 : Claimed_1_2 := comes_1 fun _ _ _ _ _ _ h hF => ⟨h.2.1, hF⟩
end Jvm.Pilot.@@N@@
namespace Jvm.Pilot.@@N@@
open Jvm Jvm.ClassFile Sem Op Lib Jvm.Free Jvm.Stand Jvm.Pilot.@@N@@.Jvm.D
/-! MADE BY PROGRAM (witnessworld.py) out of the Statement's table words and the real class files: 20 classes; the members and pool entries that the words name. The judged class is class 1, her method 2. -/
namespace start1
open Jvm.ClassFile
def u (s : String) : CpInfo := .utf8 (stringToUtf16 s)
/-- a pool by its gaps: so many unusable entries, then the entry; so many at the end -/
def gap : Nat → List CpInfo → List CpInfo
  | 0, r => r
  | n + 1, r => .unusable :: gap n r
def poolList (es : List (Nat × CpInfo)) (last : Nat) : List CpInfo := es.foldr (fun e r => gap e.1 (e.2 :: r)) (gap last [])
def pool (es : List (Nat × CpInfo)) (last : Nat) : Array CpInfo := ⟨poolList es last⟩
def fileOf (pool : Array CpInfo) (this : Nat) (attrs : Array Attribute := #[]) (ms : Array MethodInfo := #[]) (fl : Nat := 33) (sup : Nat := 0) (ifs : Array Nat := #[]) (fds : Array FieldInfo := #[]) : ClassFile where
  minorVersion := 0
  majorVersion := 65
  constantPool := pool
  accessFlags := fl
  thisClass := this
  superClass := sup
  interfaces := ifs
  fields := fds
  methods := ms
  attributes := attrs
def plain (name : String) (sup : Option ClassId) : Class where
  name := name
  kind := .ordinary
  loader := none
  accessFlags := 33
  super := sup
  interfaces := #[]
  cf := none
  fields := #[]
  methods := #[]
  instanceTypes := #[]
  staticTypes := #[]
  resolved := #[]
  callSites := []
  init := .initialized
  statics := none
  mirror := none

def pool0 : Array CpInfo := pool [(5, u "<init>"), (0, u "()V"), (1, .class_ 10), (1, u "java/lang/Object")] 113

def k0c0 : Code := { maxStack := 0, maxLocals := 1, code := object_method_1_code, exceptionTable := #[], attributes := #[] }
def k0m0 : Method := { name := "<init>", desc := "()V", sig := { parameters := [], returnType := none }, accessFlags := 1, code := some k0c0 }
/-- java/lang/Object -/
def k0 : Class := { plain "java/lang/Object" none with
  accessFlags := 33
  interfaces := #[]
  cf := some (fileOf pool0 8 #[] #[{ accessFlags := 1, nameIndex := 5, descriptorIndex := 6, attributes := #[] }] 33 0 #[] #[])
  fields := #[]
  methods := #[k0m0]
  instanceTypes := #[]
  staticTypes := #[]
  resolved := Array.replicate 124 none
  statics := none }

def pool1 : Array CpInfo := pool [(2, .class_ 4), (0, .nameAndType 5 6), (0, u "java/lang/Object"), (0, u "<init>"), (0, u "()V"), (2, .long 9223372036854775807), (1, .methodref 12 13), (0, .class_ 14), (0, .nameAndType 15 16), (0, u "com/example/cistern/cistern/CisternConfigSetConnectionTimeoutMsPinLaw"), (0, u "valid"), (0, u "(J)J"), (0, .class_ 18), (0, u "com/example/cistern/cistern/CisternConfig"), (0, .methodref 17 3), (0, .methodref 17 21), (0, .nameAndType 22 23), (0, u "setConnectionTimeoutMs"), (0, u "(J)V"), (0, .methodref 17 25), (0, .nameAndType 26 27), (0, u "getConnectionTimeoutMs"), (0, u "()J"), (0, .methodref 17 29), (0, .nameAndType 30 27), (0, u "getValidationTimeoutMs"), (0, .long 5000), (1, .methodref 17 34), (0, .nameAndType 35 27), (0, u "getIdleTimeoutMs"), (0, .long 600000), (1, .methodref 17 39), (0, .nameAndType 40 27), (0, u "getMaxLifetimeMs"), (0, .long 1800000), (4, u "law"), (0, u "(JJ)Z")] 2

def k1m0 : Method := { name := "<init>", desc := "()V", sig := { parameters := [], returnType := none }, accessFlags := 1, code := none }
def k1c1 : Code := { maxStack := 4, maxLocals := 4, code := method_2_code, exceptionTable := #[], attributes := #[] }
def k1m1 : Method := { name := "valid", desc := "(J)J", sig := { parameters := [.long], returnType := some .long }, accessFlags := 10, code := some k1c1 }
def k1c2 : Code := { maxStack := 4, maxLocals := 10, code := code, exceptionTable := #[], attributes := #[] }
def k1m2 : Method := { name := "law", desc := "(JJ)Z", sig := { parameters := [.long, .long], returnType := some .boolean }, accessFlags := 9, code := some k1c2 }
/-- com/example/cistern/cistern/CisternConfigSetConnectionTimeoutMsPinLaw -/
def k1 : Class := { plain "com/example/cistern/cistern/CisternConfigSetConnectionTimeoutMsPinLaw" (some 0) with
  accessFlags := 49
  interfaces := #[]
  cf := some (fileOf pool1 12 #[] #[{ accessFlags := 1, nameIndex := 5, descriptorIndex := 6, attributes := #[] }, { accessFlags := 10, nameIndex := 15, descriptorIndex := 16, attributes := #[] }, { accessFlags := 9, nameIndex := 46, descriptorIndex := 47, attributes := #[] }] 49 2 #[] #[])
  fields := #[]
  methods := #[k1m0, k1m1, k1m2]
  instanceTypes := #[]
  staticTypes := #[]
  resolved := Array.replicate 50 none
  statics := none }

def pool2 : Array CpInfo := pool [(1, .methodref 2 3), (0, .class_ 4), (0, .nameAndType 5 6), (0, u "java/lang/Object"), (0, u "<init>"), (0, u "()V"), (0, .class_ 8), (0, u "java/util/TreeMap"), (0, .methodref 7 3), (0, .fieldref 11 12), (0, .class_ 13), (0, .nameAndType 14 15), (0, u "com/example/cistern/cistern/CisternConfig"), (0, u "driverProperties"), (0, u "Ljava/util/Map;"), (0, .fieldref 11 17), (0, .nameAndType 18 19), (0, u "autoCommit"), (0, u "Z"), (0, .fieldref 11 21), (0, .nameAndType 22 23), (0, u "maxPoolSize"), (0, u "I"), (0, .long 20000), (1, .fieldref 11 27), (0, .nameAndType 28 29), (0, u "connectionTimeoutMs"), (0, u "J"), (0, .long 5000), (1, .fieldref 11 33), (0, .nameAndType 34 29), (0, u "validationTimeoutMs"), (0, .long 500), (1, .fieldref 11 38), (0, .nameAndType 39 29), (0, u "validateAfterIdleMs"), (0, .long 600000), (1, .fieldref 11 43), (0, .nameAndType 44 29), (0, u "idleTimeoutMs"), (0, .long 1800000), (1, .fieldref 11 48), (0, .nameAndType 49 29), (0, u "maxLifetimeMs"), (97, u "KEY_PARSERS"), (29, u "url"), (0, u "Ljava/lang/String;"), (4, u "minIdle"), (13, u "username"), (9, u "password"), (18, u "driverClassName"), (21, u "transactionIsolation"), (0, u "Ljava/lang/Integer;"), (2, u "ISOLATION_LEVELS"), (8, u "readOnly"), (0, u "Ljava/lang/Boolean;"), (2, u "schema"), (3, u "poolName"), (2, .methodref 11 273), (0, .nameAndType 274 275), (0, u "requireAtLeast"), (0, u "(Ljava/lang/String;JJ)V"), (0, .string 28), (4, u "testQuery"), (5, u "leakDetectionThresholdMs"), (154, u "URL"), (1, u "USERNAME"), (0, u "PASSWORD"), (0, u "DRIVER_CLASS_NAME"), (0, u "AUTO_COMMIT"), (0, u "TRANSACTION_ISOLATION"), (0, u "READ_ONLY"), (0, u "SCHEMA"), (0, u "POOL_NAME"), (0, u "MAX_POOL_SIZE"), (0, u "MIN_IDLE"), (0, u "CONNECTION_TIMEOUT_MS"), (0, u "VALIDATION_TIMEOUT_MS"), (0, u "VALIDATE_AFTER_IDLE_MS"), (0, u "TEST_QUERY"), (0, u "IDLE_TIMEOUT_MS"), (0, u "MAX_LIFETIME_MS"), (0, u "LEAK_DETECTION_THRESHOLD_MS"), (0, u "DRIVER_PREFIX"), (0, u "DRIVER_USER"), (0, u "DRIVER_PASSWORD"), (34, u "getConnectionTimeoutMs"), (0, u "()J"), (0, u "setConnectionTimeoutMs"), (0, u "(J)V"), (0, u "getValidationTimeoutMs"), (5, u "getIdleTimeoutMs"), (1, u "getMaxLifetimeMs")] 123

def k2c0 : Code := { maxStack := 3, maxLocals := 1, code := prog_10_method_1_code, exceptionTable := #[], attributes := #[] }
def k2m0 : Method := { name := "<init>", desc := "()V", sig := { parameters := [], returnType := none }, accessFlags := 1, code := some k2c0 }
def k2c1 : Code := { maxStack := 2, maxLocals := 1, code := prog_10_method_31_code, exceptionTable := #[], attributes := #[] }
def k2m1 : Method := { name := "getConnectionTimeoutMs", desc := "()J", sig := { parameters := [], returnType := some .long }, accessFlags := 1, code := some k2c1 }
def k2c2 : Code := { maxStack := 5, maxLocals := 3, code := prog_10_method_32_code, exceptionTable := #[], attributes := #[] }
def k2m2 : Method := { name := "setConnectionTimeoutMs", desc := "(J)V", sig := { parameters := [.long], returnType := none }, accessFlags := 1, code := some k2c2 }
def k2c3 : Code := { maxStack := 2, maxLocals := 1, code := prog_10_method_33_code, exceptionTable := #[], attributes := #[] }
def k2m3 : Method := { name := "getValidationTimeoutMs", desc := "()J", sig := { parameters := [], returnType := some .long }, accessFlags := 1, code := some k2c3 }
def k2c4 : Code := { maxStack := 2, maxLocals := 1, code := prog_10_method_39_code, exceptionTable := #[], attributes := #[] }
def k2m4 : Method := { name := "getIdleTimeoutMs", desc := "()J", sig := { parameters := [], returnType := some .long }, accessFlags := 1, code := some k2c4 }
def k2c5 : Code := { maxStack := 2, maxLocals := 1, code := prog_10_method_41_code, exceptionTable := #[], attributes := #[] }
def k2m5 : Method := { name := "getMaxLifetimeMs", desc := "()J", sig := { parameters := [], returnType := some .long }, accessFlags := 1, code := some k2c5 }
def k2c6 : Code := { maxStack := 4, maxLocals := 5, code := prog_10_method_46_code, exceptionTable := #[], attributes := #[] }
def k2m6 : Method := { name := "requireAtLeast", desc := "(Ljava/lang/String;JJ)V", sig := { parameters := [(.object "java/lang/String"), .long, .long], returnType := none }, accessFlags := 10, code := some k2c6 }
/-- com/example/cistern/cistern/CisternConfig -/
def k2 : Class := { plain "com/example/cistern/cistern/CisternConfig" (some 0) with
  accessFlags := 49
  interfaces := #[]
  cf := some (fileOf pool2 11 #[] #[{ accessFlags := 1, nameIndex := 5, descriptorIndex := 6, attributes := #[] }, { accessFlags := 1, nameIndex := 498, descriptorIndex := 499, attributes := #[] }, { accessFlags := 1, nameIndex := 500, descriptorIndex := 501, attributes := #[] }, { accessFlags := 1, nameIndex := 502, descriptorIndex := 499, attributes := #[] }, { accessFlags := 1, nameIndex := 508, descriptorIndex := 499, attributes := #[] }, { accessFlags := 1, nameIndex := 510, descriptorIndex := 499, attributes := #[] }, { accessFlags := 10, nameIndex := 274, descriptorIndex := 275, attributes := #[] }] 49 2 #[] #[{ accessFlags := 24, nameIndex := 442, descriptorIndex := 178, attributes := #[] }, { accessFlags := 24, nameIndex := 444, descriptorIndex := 178, attributes := #[] }, { accessFlags := 24, nameIndex := 445, descriptorIndex := 178, attributes := #[] }, { accessFlags := 24, nameIndex := 446, descriptorIndex := 178, attributes := #[] }, { accessFlags := 24, nameIndex := 447, descriptorIndex := 178, attributes := #[] }, { accessFlags := 24, nameIndex := 448, descriptorIndex := 178, attributes := #[] }, { accessFlags := 24, nameIndex := 449, descriptorIndex := 178, attributes := #[] }, { accessFlags := 24, nameIndex := 450, descriptorIndex := 178, attributes := #[] }, { accessFlags := 24, nameIndex := 451, descriptorIndex := 178, attributes := #[] }, { accessFlags := 24, nameIndex := 452, descriptorIndex := 178, attributes := #[] }, { accessFlags := 24, nameIndex := 453, descriptorIndex := 178, attributes := #[] }, { accessFlags := 24, nameIndex := 454, descriptorIndex := 178, attributes := #[] }, { accessFlags := 24, nameIndex := 455, descriptorIndex := 178, attributes := #[] }, { accessFlags := 24, nameIndex := 456, descriptorIndex := 178, attributes := #[] }, { accessFlags := 24, nameIndex := 457, descriptorIndex := 178, attributes := #[] }, { accessFlags := 24, nameIndex := 458, descriptorIndex := 178, attributes := #[] }, { accessFlags := 24, nameIndex := 459, descriptorIndex := 178, attributes := #[] }, { accessFlags := 24, nameIndex := 460, descriptorIndex := 178, attributes := #[] }, { accessFlags := 26, nameIndex := 461, descriptorIndex := 178, attributes := #[] }, { accessFlags := 24, nameIndex := 462, descriptorIndex := 178, attributes := #[] }, { accessFlags := 24, nameIndex := 463, descriptorIndex := 178, attributes := #[] }, { accessFlags := 26, nameIndex := 252, descriptorIndex := 15, attributes := #[] }, { accessFlags := 26, nameIndex := 147, descriptorIndex := 15, attributes := #[] }, { accessFlags := 2, nameIndex := 177, descriptorIndex := 178, attributes := #[] }, { accessFlags := 2, nameIndex := 197, descriptorIndex := 178, attributes := #[] }, { accessFlags := 2, nameIndex := 207, descriptorIndex := 178, attributes := #[] }, { accessFlags := 2, nameIndex := 226, descriptorIndex := 178, attributes := #[] }, { accessFlags := 18, nameIndex := 14, descriptorIndex := 15, attributes := #[] }, { accessFlags := 2, nameIndex := 18, descriptorIndex := 19, attributes := #[] }, { accessFlags := 2, nameIndex := 248, descriptorIndex := 249, attributes := #[] }, { accessFlags := 2, nameIndex := 261, descriptorIndex := 262, attributes := #[] }, { accessFlags := 2, nameIndex := 265, descriptorIndex := 178, attributes := #[] }, { accessFlags := 2, nameIndex := 269, descriptorIndex := 178, attributes := #[] }, { accessFlags := 2, nameIndex := 22, descriptorIndex := 23, attributes := #[] }, { accessFlags := 2, nameIndex := 183, descriptorIndex := 23, attributes := #[] }, { accessFlags := 2, nameIndex := 28, descriptorIndex := 29, attributes := #[] }, { accessFlags := 2, nameIndex := 34, descriptorIndex := 29, attributes := #[] }, { accessFlags := 2, nameIndex := 39, descriptorIndex := 29, attributes := #[] }, { accessFlags := 2, nameIndex := 281, descriptorIndex := 178, attributes := #[] }, { accessFlags := 2, nameIndex := 44, descriptorIndex := 29, attributes := #[] }, { accessFlags := 2, nameIndex := 49, descriptorIndex := 29, attributes := #[] }, { accessFlags := 2, nameIndex := 287, descriptorIndex := 29, attributes := #[] }])
  fields := #[{ name := "URL", type := (.object "java/lang/String"), accessFlags := 24, slot := 0, constantValue := 0 }, { name := "USERNAME", type := (.object "java/lang/String"), accessFlags := 24, slot := 1, constantValue := 0 }, { name := "PASSWORD", type := (.object "java/lang/String"), accessFlags := 24, slot := 2, constantValue := 0 }, { name := "DRIVER_CLASS_NAME", type := (.object "java/lang/String"), accessFlags := 24, slot := 3, constantValue := 0 }, { name := "AUTO_COMMIT", type := (.object "java/lang/String"), accessFlags := 24, slot := 4, constantValue := 0 }, { name := "TRANSACTION_ISOLATION", type := (.object "java/lang/String"), accessFlags := 24, slot := 5, constantValue := 0 }, { name := "READ_ONLY", type := (.object "java/lang/String"), accessFlags := 24, slot := 6, constantValue := 0 }, { name := "SCHEMA", type := (.object "java/lang/String"), accessFlags := 24, slot := 7, constantValue := 0 }, { name := "POOL_NAME", type := (.object "java/lang/String"), accessFlags := 24, slot := 8, constantValue := 0 }, { name := "MAX_POOL_SIZE", type := (.object "java/lang/String"), accessFlags := 24, slot := 9, constantValue := 0 }, { name := "MIN_IDLE", type := (.object "java/lang/String"), accessFlags := 24, slot := 10, constantValue := 0 }, { name := "CONNECTION_TIMEOUT_MS", type := (.object "java/lang/String"), accessFlags := 24, slot := 11, constantValue := 0 }, { name := "VALIDATION_TIMEOUT_MS", type := (.object "java/lang/String"), accessFlags := 24, slot := 12, constantValue := 0 }, { name := "VALIDATE_AFTER_IDLE_MS", type := (.object "java/lang/String"), accessFlags := 24, slot := 13, constantValue := 0 }, { name := "TEST_QUERY", type := (.object "java/lang/String"), accessFlags := 24, slot := 14, constantValue := 0 }, { name := "IDLE_TIMEOUT_MS", type := (.object "java/lang/String"), accessFlags := 24, slot := 15, constantValue := 0 }, { name := "MAX_LIFETIME_MS", type := (.object "java/lang/String"), accessFlags := 24, slot := 16, constantValue := 0 }, { name := "LEAK_DETECTION_THRESHOLD_MS", type := (.object "java/lang/String"), accessFlags := 24, slot := 17, constantValue := 0 }, { name := "DRIVER_PREFIX", type := (.object "java/lang/String"), accessFlags := 26, slot := 18, constantValue := 0 }, { name := "DRIVER_USER", type := (.object "java/lang/String"), accessFlags := 24, slot := 19, constantValue := 0 }, { name := "DRIVER_PASSWORD", type := (.object "java/lang/String"), accessFlags := 24, slot := 20, constantValue := 0 }, { name := "ISOLATION_LEVELS", type := (.object "java/util/Map"), accessFlags := 26, slot := 21, constantValue := 0 }, { name := "KEY_PARSERS", type := (.object "java/util/Map"), accessFlags := 26, slot := 22, constantValue := 0 }, { name := "url", type := (.object "java/lang/String"), accessFlags := 2, slot := 0, constantValue := 0 }, { name := "username", type := (.object "java/lang/String"), accessFlags := 2, slot := 1, constantValue := 0 }, { name := "password", type := (.object "java/lang/String"), accessFlags := 2, slot := 2, constantValue := 0 }, { name := "driverClassName", type := (.object "java/lang/String"), accessFlags := 2, slot := 3, constantValue := 0 }, { name := "driverProperties", type := (.object "java/util/Map"), accessFlags := 18, slot := 4, constantValue := 0 }, { name := "autoCommit", type := .boolean, accessFlags := 2, slot := 5, constantValue := 0 }, { name := "transactionIsolation", type := (.object "java/lang/Integer"), accessFlags := 2, slot := 6, constantValue := 0 }, { name := "readOnly", type := (.object "java/lang/Boolean"), accessFlags := 2, slot := 7, constantValue := 0 }, { name := "schema", type := (.object "java/lang/String"), accessFlags := 2, slot := 8, constantValue := 0 }, { name := "poolName", type := (.object "java/lang/String"), accessFlags := 2, slot := 9, constantValue := 0 }, { name := "maxPoolSize", type := .int, accessFlags := 2, slot := 10, constantValue := 0 }, { name := "minIdle", type := .int, accessFlags := 2, slot := 11, constantValue := 0 }, { name := "connectionTimeoutMs", type := .long, accessFlags := 2, slot := 12, constantValue := 0 }, { name := "validationTimeoutMs", type := .long, accessFlags := 2, slot := 13, constantValue := 0 }, { name := "validateAfterIdleMs", type := .long, accessFlags := 2, slot := 14, constantValue := 0 }, { name := "testQuery", type := (.object "java/lang/String"), accessFlags := 2, slot := 15, constantValue := 0 }, { name := "idleTimeoutMs", type := .long, accessFlags := 2, slot := 16, constantValue := 0 }, { name := "maxLifetimeMs", type := .long, accessFlags := 2, slot := 17, constantValue := 0 }, { name := "leakDetectionThresholdMs", type := .long, accessFlags := 2, slot := 18, constantValue := 0 }]
  methods := #[k2m0, k2m1, k2m2, k2m3, k2m4, k2m5, k2m6]
  instanceTypes := #[(.object "java/lang/String"), (.object "java/lang/String"), (.object "java/lang/String"), (.object "java/lang/String"), (.object "java/util/Map"), .boolean, (.object "java/lang/Integer"), (.object "java/lang/Boolean"), (.object "java/lang/String"), (.object "java/lang/String"), .int, .int, .long, .long, .long, (.object "java/lang/String"), .long, .long, .long]
  staticTypes := #[(.object "java/lang/String"), (.object "java/lang/String"), (.object "java/lang/String"), (.object "java/lang/String"), (.object "java/lang/String"), (.object "java/lang/String"), (.object "java/lang/String"), (.object "java/lang/String"), (.object "java/lang/String"), (.object "java/lang/String"), (.object "java/lang/String"), (.object "java/lang/String"), (.object "java/lang/String"), (.object "java/lang/String"), (.object "java/lang/String"), (.object "java/lang/String"), (.object "java/lang/String"), (.object "java/lang/String"), (.object "java/lang/String"), (.object "java/lang/String"), (.object "java/lang/String"), (.object "java/util/Map"), (.object "java/util/Map")]
  resolved := Array.replicate 634 none
  statics := none }

def pool3 : Array CpInfo := pool [(2, .class_ 4), (1, u "java/util/Map"), (31, .class_ 37), (0, u "java/util/Map$Entry"), (55, .class_ 94), (0, u "java/lang/Object")] 168

/-- java/util/Map -/
def k3 : Class := { plain "java/util/Map" (some 0) with
  accessFlags := 1537
  interfaces := #[]
  cf := some (fileOf pool3 2 #[.nestMembers #[36]] #[] 1537 93 #[] #[])
  fields := #[]
  methods := #[]
  instanceTypes := #[]
  staticTypes := #[]
  resolved := Array.replicate 263 none
  statics := none }

def pool4 : Array CpInfo := pool [(1, .methodref 2 3), (0, .class_ 4), (0, .nameAndType 5 6), (0, u "java/lang/Object"), (0, u "<init>"), (0, u "()V"), (1, .class_ 10), (1, u "java/util/AbstractMap"), (42, .class_ 54), (0, u "java/util/Map"), (9, u "keySet"), (0, u "Ljava/util/Set;"), (0, .class_ 67), (0, u "java/util/AbstractMap$1"), (5, u "values"), (0, u "Ljava/util/Collection;"), (0, .class_ 76), (0, u "java/util/AbstractMap$2"), (104, .class_ 182), (0, u "java/util/AbstractMap$ViewCollection"), (0, .class_ 184), (0, u "java/util/AbstractMap$SimpleImmutableEntry"), (0, .class_ 186), (0, u "java/util/AbstractMap$SimpleEntry"), (0, .class_ 188), (0, u "java/util/AbstractMap$2$1"), (0, .class_ 190), (0, u "java/util/AbstractMap$1$1")] 5

def k4c0 : Code := { maxStack := 1, maxLocals := 1, code := jdk_71_method_1_code, exceptionTable := #[], attributes := #[] }
def k4m0 : Method := { name := "<init>", desc := "()V", sig := { parameters := [], returnType := none }, accessFlags := 4, code := some k4c0 }
/-- java/util/AbstractMap -/
def k4 : Class := { plain "java/util/AbstractMap" (some 0) with
  accessFlags := 1057
  interfaces := #[3]
  cf := some (fileOf pool4 8 #[.nestMembers #[181, 183, 185, 75, 187, 66, 189]] #[{ accessFlags := 4, nameIndex := 5, descriptorIndex := 6, attributes := #[] }] 1057 2 #[53] #[{ accessFlags := 128, nameIndex := 64, descriptorIndex := 65, attributes := #[] }, { accessFlags := 128, nameIndex := 73, descriptorIndex := 74, attributes := #[] }])
  fields := #[{ name := "keySet", type := (.object "java/util/Set"), accessFlags := 128, slot := 0, constantValue := 0 }, { name := "values", type := (.object "java/util/Collection"), accessFlags := 128, slot := 1, constantValue := 0 }]
  methods := #[k4m0]
  instanceTypes := #[(.object "java/util/Set"), (.object "java/util/Collection")]
  staticTypes := #[]
  resolved := Array.replicate 196 none
  statics := none }

def pool5 : Array CpInfo := pool [(2, .class_ 4), (1, u "java/util/SequencedMap"), (38, .class_ 44), (0, u "java/util/SequencedMap$1SeqKeySet"), (3, .class_ 49), (0, u "java/util/SequencedMap$1SeqValues"), (1, .class_ 52), (0, u "java/util/SequencedMap$1SeqEntrySet"), (1, .class_ 55), (0, u "java/lang/Object"), (0, .class_ 57), (0, u "java/util/Map")] 48

/-- java/util/SequencedMap -/
def k5 : Class := { plain "java/util/SequencedMap" (some 0) with
  accessFlags := 1537
  interfaces := #[3]
  cf := some (fileOf pool5 2 #[.nestMembers #[51, 48, 43]] #[] 1537 54 #[56] #[])
  fields := #[]
  methods := #[]
  instanceTypes := #[]
  staticTypes := #[]
  resolved := Array.replicate 106 none
  statics := none }

def pool6 : Array CpInfo := pool [(14, .class_ 16), (1, u "java/util/SortedMap"), (2, .class_ 20), (0, u "java/lang/Object"), (0, .class_ 22), (0, u "java/util/SequencedMap")] 50

/-- java/util/SortedMap -/
def k6 : Class := { plain "java/util/SortedMap" (some 0) with
  accessFlags := 1537
  interfaces := #[5]
  cf := some (fileOf pool6 14 #[] #[] 1537 19 #[21] #[])
  fields := #[]
  methods := #[]
  instanceTypes := #[]
  staticTypes := #[]
  resolved := Array.replicate 73 none
  statics := none }

def pool7 : Array CpInfo := pool [(2, .class_ 4), (1, u "java/util/NavigableMap"), (5, .class_ 11), (0, u "java/lang/Object"), (0, .class_ 13), (0, u "java/util/SortedMap")] 53

/-- java/util/NavigableMap -/
def k7 : Class := { plain "java/util/NavigableMap" (some 0) with
  accessFlags := 1537
  interfaces := #[6]
  cf := some (fileOf pool7 2 #[] #[] 1537 10 #[12] #[])
  fields := #[]
  methods := #[]
  instanceTypes := #[]
  staticTypes := #[]
  resolved := Array.replicate 67 none
  statics := none }

def pool8 : Array CpInfo := pool [(1, .class_ 2), (0, u "java/lang/Cloneable"), (0, .class_ 4), (0, u "java/lang/Object")] 2

/-- java/lang/Cloneable -/
def k8 : Class := { plain "java/lang/Cloneable" (some 0) with
  accessFlags := 1537
  interfaces := #[]
  cf := some (fileOf pool8 1 #[] #[] 1537 3 #[] #[])
  fields := #[]
  methods := #[]
  instanceTypes := #[]
  staticTypes := #[]
  resolved := Array.replicate 7 none
  statics := none }

def pool9 : Array CpInfo := pool [(1, .class_ 2), (0, u "java/io/Serializable"), (0, .class_ 4), (0, u "java/lang/Object")] 2

/-- java/io/Serializable -/
def k9 : Class := { plain "java/io/Serializable" (some 0) with
  accessFlags := 1537
  interfaces := #[]
  cf := some (fileOf pool9 1 #[] #[] 1537 3 #[] #[])
  fields := #[]
  methods := #[]
  instanceTypes := #[]
  staticTypes := #[]
  resolved := Array.replicate 7 none
  statics := none }

def pool10 : Array CpInfo := pool [(1, .methodref 2 3), (0, .class_ 4), (0, .nameAndType 5 6), (0, u "java/util/AbstractMap"), (0, u "<init>"), (0, u "()V"), (0, .fieldref 8 9), (0, .class_ 10), (0, .nameAndType 11 12), (0, u "java/util/TreeMap"), (0, u "size"), (0, u "I"), (0, .fieldref 8 14), (0, .nameAndType 15 12), (0, u "modCount"), (0, .fieldref 8 17), (0, .nameAndType 18 19), (0, u "comparator"), (0, u "Ljava/util/Comparator;"), (14, u "entrySet"), (24, .class_ 61), (1, u "java/util/TreeMap$Entry"), (1, u "Ljava/lang/Object;"), (39, u "root"), (0, u "Ljava/util/TreeMap$Entry;"), (85, u "Ljava/util/TreeMap$EntrySet;"), (2, u "navigableKeySet"), (0, u "Ljava/util/TreeMap$KeySet;"), (2, u "descendingMap"), (0, u "Ljava/util/NavigableMap;"), (23, .class_ 223), (0, u "java/util/TreeMap$KeySet"), (7, .class_ 232), (0, u "java/util/NavigableMap"), (4, .class_ 238), (0, u "java/util/TreeMap$Values"), (3, .class_ 243), (0, u "java/util/TreeMap$EntrySet"), (1, .class_ 246), (0, u "java/util/TreeMap$DescendingSubMap"), (3, .class_ 251), (0, u "java/util/TreeMap$AscendingSubMap"), (17, .class_ 270), (0, u "java/util/TreeMap$KeyIterator"), (3, .class_ 275), (0, u "java/util/TreeMap$DescendingKeyIterator"), (17, u "Z"), (94, .class_ 389), (0, u "java/util/TreeMap$NavigableSubMap"), (1, .class_ 392), (0, u "java/util/TreeMap$KeySpliterator"), (3, .class_ 397), (0, u "java/util/TreeMap$DescendingKeySpliterator"), (4, u "UNBOUNDED"), (0, .class_ 404), (0, u "java/lang/Cloneable"), (0, .class_ 406), (0, u "java/io/Serializable"), (6, u "RED"), (2, u "BLACK"), (1, u "serialVersionUID"), (0, u "J"), (214, .class_ 635), (0, u "java/util/TreeMap$EntrySpliterator"), (0, .class_ 637), (0, u "java/util/TreeMap$ValueSpliterator"), (0, .class_ 639), (0, u "java/util/TreeMap$TreeMapSpliterator"), (0, .class_ 641), (0, u "java/util/TreeMap$SubMap"), (0, .class_ 643), (0, u "java/util/TreeMap$DescendingSubMap$DescendingEntrySetView"), (0, .class_ 645), (0, u "java/util/TreeMap$AscendingSubMap$AscendingEntrySetView"), (0, .class_ 647), (0, u "java/util/TreeMap$NavigableSubMap$DescendingSubMapKeyIterator"), (0, .class_ 649), (0, u "java/util/TreeMap$NavigableSubMap$SubMapKeyIterator"), (0, .class_ 651), (0, u "java/util/TreeMap$NavigableSubMap$DescendingSubMapEntryIterator"), (0, .class_ 653), (0, u "java/util/TreeMap$NavigableSubMap$SubMapEntryIterator"), (0, .class_ 655), (0, u "java/util/TreeMap$NavigableSubMap$SubMapIterator"), (0, .class_ 657), (0, u "java/util/TreeMap$NavigableSubMap$EntrySetView"), (0, .class_ 659), (0, u "java/util/TreeMap$ValueIterator"), (0, .class_ 661), (0, u "java/util/TreeMap$EntryIterator"), (0, .class_ 663), (0, u "java/util/TreeMap$PrivateEntryIterator")] 28

def k10c0 : Code := { maxStack := 2, maxLocals := 1, code := jdk_2729_method_1_code, exceptionTable := #[], attributes := #[] }
def k10m0 : Method := { name := "<init>", desc := "()V", sig := { parameters := [], returnType := none }, accessFlags := 1, code := some k10c0 }
/-- java/util/TreeMap -/
def k10 : Class := { plain "java/util/TreeMap" (some 4) with
  accessFlags := 33
  interfaces := #[7, 8, 9]
  cf := some (fileOf pool10 8 #[.nestMembers #[634, 636, 396, 391, 638, 59, 640, 245, 642, 250, 644, 388, 646, 648, 650, 652, 654, 656, 274, 269, 658, 660, 662, 222, 242, 237]] #[{ accessFlags := 1, nameIndex := 5, descriptorIndex := 6, attributes := #[] }] 33 2 #[231, 403, 405] #[{ accessFlags := 18, nameIndex := 18, descriptorIndex := 19, attributes := #[] }, { accessFlags := 130, nameIndex := 103, descriptorIndex := 104, attributes := #[] }, { accessFlags := 130, nameIndex := 11, descriptorIndex := 12, attributes := #[] }, { accessFlags := 130, nameIndex := 15, descriptorIndex := 12, attributes := #[] }, { accessFlags := 130, nameIndex := 34, descriptorIndex := 190, attributes := #[] }, { accessFlags := 130, nameIndex := 193, descriptorIndex := 194, attributes := #[] }, { accessFlags := 130, nameIndex := 197, descriptorIndex := 198, attributes := #[] }, { accessFlags := 26, nameIndex := 402, descriptorIndex := 63, attributes := #[] }, { accessFlags := 26, nameIndex := 413, descriptorIndex := 293, attributes := #[] }, { accessFlags := 26, nameIndex := 416, descriptorIndex := 293, attributes := #[] }, { accessFlags := 26, nameIndex := 418, descriptorIndex := 419, attributes := #[] }])
  fields := #[{ name := "comparator", type := (.object "java/util/Comparator"), accessFlags := 18, slot := 2, constantValue := 0 }, { name := "root", type := (.object "java/util/TreeMap$Entry"), accessFlags := 130, slot := 3, constantValue := 0 }, { name := "size", type := .int, accessFlags := 130, slot := 4, constantValue := 0 }, { name := "modCount", type := .int, accessFlags := 130, slot := 5, constantValue := 0 }, { name := "entrySet", type := (.object "java/util/TreeMap$EntrySet"), accessFlags := 130, slot := 6, constantValue := 0 }, { name := "navigableKeySet", type := (.object "java/util/TreeMap$KeySet"), accessFlags := 130, slot := 7, constantValue := 0 }, { name := "descendingMap", type := (.object "java/util/NavigableMap"), accessFlags := 130, slot := 8, constantValue := 0 }, { name := "UNBOUNDED", type := (.object "java/lang/Object"), accessFlags := 26, slot := 0, constantValue := 0 }, { name := "RED", type := .boolean, accessFlags := 26, slot := 1, constantValue := 0 }, { name := "BLACK", type := .boolean, accessFlags := 26, slot := 2, constantValue := 0 }, { name := "serialVersionUID", type := .long, accessFlags := 26, slot := 3, constantValue := 0 }]
  methods := #[k10m0]
  instanceTypes := #[(.object "java/util/Set"), (.object "java/util/Collection"), (.object "java/util/Comparator"), (.object "java/util/TreeMap$Entry"), .int, .int, (.object "java/util/TreeMap$EntrySet"), (.object "java/util/TreeMap$KeySet"), (.object "java/util/NavigableMap")]
  staticTypes := #[(.object "java/lang/Object"), .boolean, .boolean, .long]
  resolved := Array.replicate 692 none
  statics := none }

def pool11 : Array CpInfo := pool [(1, .class_ 2), (0, u "java/lang/Comparable"), (0, .class_ 4), (0, u "java/lang/Object")] 7

/-- java/lang/Comparable -/
def k11 : Class := { plain "java/lang/Comparable" (some 0) with
  accessFlags := 1537
  interfaces := #[]
  cf := some (fileOf pool11 1 #[] #[] 1537 3 #[] #[])
  fields := #[]
  methods := #[]
  instanceTypes := #[]
  staticTypes := #[]
  resolved := Array.replicate 12 none
  statics := none }

def pool12 : Array CpInfo := pool [(2, .class_ 4), (1, u "java/lang/CharSequence"), (42, .class_ 48), (0, u "java/lang/CharSequence$1CodePointIterator"), (10, .class_ 60), (0, u "java/lang/CharSequence$1CharIterator"), (5, .class_ 67), (0, u "java/lang/Object")] 63

/-- java/lang/CharSequence -/
def k12 : Class := { plain "java/lang/CharSequence" (some 0) with
  accessFlags := 1537
  interfaces := #[]
  cf := some (fileOf pool12 2 #[.nestMembers #[47, 59]] #[] 1537 66 #[] #[])
  fields := #[]
  methods := #[]
  instanceTypes := #[]
  staticTypes := #[]
  resolved := Array.replicate 131 none
  statics := none }

def pool13 : Array CpInfo := pool [(1, .class_ 2), (0, u "java/lang/constant/Constable"), (0, .class_ 4), (0, u "java/lang/Object")] 6

/-- java/lang/constant/Constable -/
def k13 : Class := { plain "java/lang/constant/Constable" (some 0) with
  accessFlags := 1537
  interfaces := #[]
  cf := some (fileOf pool13 1 #[] #[] 1537 3 #[] #[])
  fields := #[]
  methods := #[]
  instanceTypes := #[]
  staticTypes := #[]
  resolved := Array.replicate 11 none
  statics := none }

def pool14 : Array CpInfo := pool [(1, .class_ 2), (0, u "java/lang/constant/ConstantDesc"), (0, .class_ 4), (0, u "java/lang/Object")] 32

/-- java/lang/constant/ConstantDesc -/
def k14 : Class := { plain "java/lang/constant/ConstantDesc" (some 0) with
  accessFlags := 1537
  interfaces := #[]
  cf := some (fileOf pool14 1 #[] #[] 1537 3 #[] #[])
  fields := #[]
  methods := #[]
  instanceTypes := #[]
  staticTypes := #[]
  resolved := Array.replicate 37 none
  statics := none }

def pool15 : Array CpInfo := pool [(2, .class_ 4), (1, u "java/lang/Object"), (0, u "<init>"), (0, u "()V"), (3, .class_ 12), (1, u "java/lang/String"), (0, u "value"), (0, u "[B"), (2, u "coder"), (0, u "B"), (2, u "hash"), (0, u "I"), (2, u "hashIsZero"), (0, u "Z"), (13, u "COMPACT_STRINGS"), (534, .class_ 576), (0, u "java/lang/CharSequence"), (22, u "CASE_INSENSITIVE_ORDER"), (0, u "Ljava/util/Comparator;"), (500, u "serialPersistentFields"), (0, u "[Ljava/io/ObjectStreamField;"), (0, .class_ 1104), (0, u "java/lang/String$CaseInsensitiveComparator"), (1, .class_ 1107), (0, u "java/io/Serializable"), (0, .class_ 1109), (0, u "java/lang/Comparable"), (0, .class_ 1111), (0, u "java/lang/constant/Constable"), (0, .class_ 1113), (0, u "java/lang/constant/ConstantDesc"), (2, u "serialVersionUID"), (0, u "J"), (3, u "REPL"), (0, u "C"), (2, u "LATIN1"), (1, u "UTF16")] 323

def k15m0 : Method := { name := "<init>", desc := "()V", sig := { parameters := [], returnType := none }, accessFlags := 1, code := none }
/-- java/lang/String -/
def k15 : Class := { plain "java/lang/String" (some 0) with
  accessFlags := 49
  interfaces := #[9, 11, 12, 13, 14]
  cf := some (fileOf pool15 10 #[.nestMembers #[1103]] #[{ accessFlags := 1, nameIndex := 5, descriptorIndex := 6, attributes := #[] }] 49 2 #[1106, 1108, 575, 1110, 1112] #[{ accessFlags := 18, nameIndex := 13, descriptorIndex := 14, attributes := #[] }, { accessFlags := 18, nameIndex := 17, descriptorIndex := 18, attributes := #[] }, { accessFlags := 2, nameIndex := 21, descriptorIndex := 22, attributes := #[] }, { accessFlags := 2, nameIndex := 25, descriptorIndex := 26, attributes := #[] }, { accessFlags := 26, nameIndex := 1116, descriptorIndex := 1117, attributes := #[] }, { accessFlags := 24, nameIndex := 40, descriptorIndex := 26, attributes := #[] }, { accessFlags := 26, nameIndex := 1101, descriptorIndex := 1102, attributes := #[] }, { accessFlags := 26, nameIndex := 1121, descriptorIndex := 1122, attributes := #[] }, { accessFlags := 25, nameIndex := 599, descriptorIndex := 600, attributes := #[] }, { accessFlags := 24, nameIndex := 1125, descriptorIndex := 18, attributes := #[] }, { accessFlags := 24, nameIndex := 1127, descriptorIndex := 18, attributes := #[] }])
  fields := #[{ name := "value", type := (.array .byte), accessFlags := 18, slot := 0, constantValue := 0 }, { name := "coder", type := .byte, accessFlags := 18, slot := 1, constantValue := 0 }, { name := "hash", type := .int, accessFlags := 2, slot := 2, constantValue := 0 }, { name := "hashIsZero", type := .boolean, accessFlags := 2, slot := 3, constantValue := 0 }, { name := "serialVersionUID", type := .long, accessFlags := 26, slot := 0, constantValue := 0 }, { name := "COMPACT_STRINGS", type := .boolean, accessFlags := 24, slot := 1, constantValue := 0 }, { name := "serialPersistentFields", type := (.array (.object "java/io/ObjectStreamField")), accessFlags := 26, slot := 2, constantValue := 0 }, { name := "REPL", type := .char, accessFlags := 26, slot := 3, constantValue := 0 }, { name := "CASE_INSENSITIVE_ORDER", type := (.object "java/util/Comparator"), accessFlags := 25, slot := 4, constantValue := 0 }, { name := "LATIN1", type := .byte, accessFlags := 24, slot := 5, constantValue := 0 }, { name := "UTF16", type := .byte, accessFlags := 24, slot := 6, constantValue := 0 }]
  methods := #[k15m0]
  instanceTypes := #[(.array .byte), .byte, .int, .boolean]
  staticTypes := #[.long, .boolean, (.array (.object "java/io/ObjectStreamField")), .char, (.object "java/util/Comparator"), .byte, .byte]
  resolved := Array.replicate 1451 none
  statics := none }

/-- the primitive byte -/
def k16 : Class := { plain "byte" none with kind := .primitive 'B', accessFlags := 0x411 }
/-- [B -/
def k17 : Class := { plain "[B" (some 0) with kind := .array 16 .byte, interfaces := #[8, 9], accessFlags := 1041 }

/-- the primitive int -/
def k18 : Class := { plain "int" none with kind := .primitive 'I', accessFlags := 0x411 }
/-- [I -/
def k19 : Class := { plain "[I" (some 0) with kind := .array 18 .int, interfaces := #[8, 9], accessFlags := 1041 }

def heap : Heap := #[]
def classes : Array Class := #[k0, k1, k2, k3, k4, k5, k6, k7, k8, k9, k10, k11, k12, k13, k14, k15, k16, k17, k18, k19]
def interned : List (Array UInt16 × Addr) := []
def slotsUsed : Nat := 0
def theMethod : MethodId := ⟨1, 2⟩
def args0 : Array Value := #[.long 5, .long 7]
def aboutOver (below : List Frame) : State where
  vm := { classes := classes, interned := interned.toArray }
  heap := heap
  slotsUsed := slotsUsed
  threads := #[{ frames := .invoking theMethod args0 :: below }]
def below0 : List Frame := [.native { method := ⟨0, 0⟩, args := #[] }]
def about1 : State := aboutOver below0
def p0 : Program := .bare "" "" ""
def e0 : Env := launch0.env 0 0 0
theorem w_frames : about1.frames = Frame.invoking theMethod args0 :: below0 := rfl
set_option maxRecDepth 65536 in
theorem w_args : argsFit about1.vm theMethod args0 = true := by decide +kernel
set_option maxRecDepth 65536 in
theorem w_heap : heapFits about1 = true := by decide +kernel
set_option maxRecDepth 65536 in
theorem w_runnable : about1.curStatus? = some .runnable := by decide +kernel
set_option maxRecDepth 65536 in
theorem w_alone : about1.alone = true := by decide +kernel
set_option maxRecDepth 65536 in
theorem w_named : about1.methodNamed? x = some theMethod := by decide +kernel
set_option maxRecDepth 65536 in
theorem w_hears : about1.hears theMethod below0 = true := by decide +kernel
set_option maxRecDepth 65536 in
theorem w_ripe : about1.ripe theMethod args0 below0 = true := by decide +kernel
theorem w_running : about1.status = .running := rfl
set_option maxRecDepth 65536 in
theorem w_room : about1.hasRoom e0.platform room_1 = true :=
  launch0.hasRoom_least _ room_1 (by decide +kernel) (by decide +kernel) (by decide +kernel) (by decide +kernel) (by decide +kernel) (by decide +kernel)
theorem allAtoms_all (ts : List Jvm.Cond) (a : Array Jvm.Value) (st : Jvm.State) : (allAtoms ts).before a st = ts.all (fun c => c.before a st) := by
  induction ts with
  | nil => rfl
  | cons c t ih =>
    show (Jvm.Cond.and c (allAtoms t)).before a st = _
    rw [Jvm.Cond.before_and, ih, List.all_cons]
def words1 : List Jvm.Cond := Jvm.Cond.code x code maxLocals ret :: tables_1
/-- a 'code' word, met by the world's own term for the bytes: nothing is compared byte by byte -/
theorem code_word {y : MethodName} {bytes : ByteArray} {mx : Nat} {rt : Option FieldType} {a : Array Value} {s : State} {m : MethodId} {meth : Method} {c : Code} (h1 : s.methodNamed? y = some m) (h2 : s.vm.method? m = some meth) (h3 : meth.code = some c) (h4 : c.code = bytes)
    (h5 : (c.maxLocals == mx && c.exceptionTable.isEmpty && decide (c.maxStack ≤ mostOperands) && decide (meth.sig.returnType = rt) && !meth.locks && decide (parseMethodDescriptor y.desc = some meth.sig)) = true) : (Jvm.Cond.code y bytes mx rt).before a s = true := by
  simp only [Bool.and_eq_true, beq_iff_eq, Bool.not_eq_true', decide_eq_true_eq] at h5
  obtain ⟨⟨⟨⟨⟨g1, g2⟩, g3⟩, g4⟩, g5⟩, g6⟩ := h5
  simp [Cond.before, Cond.holds, Cond.value, h1, h2, h3, h4, g1, g2, g3, g4, g5, g6]
def isCode : Jvm.Cond → Bool
  | .code _ _ _ _ => true
  | _ => false
theorem all_split {L : List Jvm.Cond} {P : Jvm.Cond → Bool} (h1 : L.all (fun c => isCode c || P c) = true) (h2 : ∀ c ∈ L.filter isCode, P c = true) : L.all P = true := by
  refine List.all_eq_true.mpr fun c hc => ?_
  have h := List.all_eq_true.mp h1 c hc
  rcases Bool.eq_false_or_eq_true (isCode c) with hi | hi
  · exact h2 c (List.mem_filter.mpr ⟨hc, hi⟩)
  · simpa [hi] using h
set_option maxRecDepth 65536 in
theorem w_c0 : (Jvm.Cond.code x code maxLocals ret).before args0 about1 = true := code_word (m := ⟨1, 2⟩) (meth := k1m2) (c := k1c2) (by decide +kernel) rfl rfl rfl (by decide +kernel)
set_option maxRecDepth 65536 in
theorem w_c1 : (Jvm.Cond.code ({ cls := "com/example/cistern/cistern/CisternConfigSetConnectionTimeoutMsPinLaw", name := "valid", desc := "(J)J" } : Jvm.MethodName) method_2_code (4 : Nat) (Option.some Jvm.ClassFile.FieldType.long)).before args0 about1 = true := code_word (m := ⟨1, 1⟩) (meth := k1m1) (c := k1c1) (by decide +kernel) rfl rfl rfl (by decide +kernel)
set_option maxRecDepth 65536 in
theorem w_c2 : (Jvm.Cond.code ({ cls := "com/example/cistern/cistern/CisternConfig", name := "<init>", desc := "()V" } : Jvm.MethodName) prog_10_method_1_code (1 : Nat) (Option.none : Option Jvm.ClassFile.FieldType)).before args0 about1 = true := code_word (m := ⟨2, 0⟩) (meth := k2m0) (c := k2c0) (by decide +kernel) rfl rfl rfl (by decide +kernel)
set_option maxRecDepth 65536 in
theorem w_c3 : (Jvm.Cond.code ({ cls := "java/lang/Object", name := "<init>", desc := "()V" } : Jvm.MethodName) object_method_1_code (1 : Nat) (Option.none : Option Jvm.ClassFile.FieldType)).before args0 about1 = true := code_word (m := ⟨0, 0⟩) (meth := k0m0) (c := k0c0) (by decide +kernel) rfl rfl rfl (by decide +kernel)
set_option maxRecDepth 65536 in
theorem w_c4 : (Jvm.Cond.code ({ cls := "java/util/TreeMap", name := "<init>", desc := "()V" } : Jvm.MethodName) jdk_2729_method_1_code (1 : Nat) (Option.none : Option Jvm.ClassFile.FieldType)).before args0 about1 = true := code_word (m := ⟨10, 0⟩) (meth := k10m0) (c := k10c0) (by decide +kernel) rfl rfl rfl (by decide +kernel)
set_option maxRecDepth 65536 in
theorem w_c5 : (Jvm.Cond.code ({ cls := "java/util/AbstractMap", name := "<init>", desc := "()V" } : Jvm.MethodName) jdk_71_method_1_code (1 : Nat) (Option.none : Option Jvm.ClassFile.FieldType)).before args0 about1 = true := code_word (m := ⟨4, 0⟩) (meth := k4m0) (c := k4c0) (by decide +kernel) rfl rfl rfl (by decide +kernel)
set_option maxRecDepth 65536 in
theorem w_c6 : (Jvm.Cond.code ({ cls := "com/example/cistern/cistern/CisternConfig", name := "setConnectionTimeoutMs", desc := "(J)V" } : Jvm.MethodName) prog_10_method_32_code (3 : Nat) (Option.none : Option Jvm.ClassFile.FieldType)).before args0 about1 = true := code_word (m := ⟨2, 2⟩) (meth := k2m2) (c := k2c2) (by decide +kernel) rfl rfl rfl (by decide +kernel)
set_option maxRecDepth 65536 in
theorem w_c7 : (Jvm.Cond.code ({ cls := "com/example/cistern/cistern/CisternConfig", name := "requireAtLeast", desc := "(Ljava/lang/String;JJ)V" } : Jvm.MethodName) prog_10_method_46_code (5 : Nat) (Option.none : Option Jvm.ClassFile.FieldType)).before args0 about1 = true := code_word (m := ⟨2, 6⟩) (meth := k2m6) (c := k2c6) (by decide +kernel) rfl rfl rfl (by decide +kernel)
set_option maxRecDepth 65536 in
theorem w_c8 : (Jvm.Cond.code ({ cls := "com/example/cistern/cistern/CisternConfig", name := "getConnectionTimeoutMs", desc := "()J" } : Jvm.MethodName) prog_10_method_31_code (1 : Nat) (Option.some Jvm.ClassFile.FieldType.long)).before args0 about1 = true := code_word (m := ⟨2, 1⟩) (meth := k2m1) (c := k2c1) (by decide +kernel) rfl rfl rfl (by decide +kernel)
set_option maxRecDepth 65536 in
theorem w_c9 : (Jvm.Cond.code ({ cls := "com/example/cistern/cistern/CisternConfig", name := "getValidationTimeoutMs", desc := "()J" } : Jvm.MethodName) prog_10_method_33_code (1 : Nat) (Option.some Jvm.ClassFile.FieldType.long)).before args0 about1 = true := code_word (m := ⟨2, 3⟩) (meth := k2m3) (c := k2c3) (by decide +kernel) rfl rfl rfl (by decide +kernel)
set_option maxRecDepth 65536 in
theorem w_c10 : (Jvm.Cond.code ({ cls := "com/example/cistern/cistern/CisternConfig", name := "getIdleTimeoutMs", desc := "()J" } : Jvm.MethodName) prog_10_method_39_code (1 : Nat) (Option.some Jvm.ClassFile.FieldType.long)).before args0 about1 = true := code_word (m := ⟨2, 4⟩) (meth := k2m4) (c := k2c4) (by decide +kernel) rfl rfl rfl (by decide +kernel)
set_option maxRecDepth 65536 in
theorem w_c11 : (Jvm.Cond.code ({ cls := "com/example/cistern/cistern/CisternConfig", name := "getMaxLifetimeMs", desc := "()J" } : Jvm.MethodName) prog_10_method_41_code (1 : Nat) (Option.some Jvm.ClassFile.FieldType.long)).before args0 about1 = true := code_word (m := ⟨2, 5⟩) (meth := k2m5) (c := k2c5) (by decide +kernel) rfl rfl rfl (by decide +kernel)
def codes1 : List Jvm.Cond := [Jvm.Cond.code x code maxLocals ret, Jvm.Cond.code ({ cls := "com/example/cistern/cistern/CisternConfigSetConnectionTimeoutMsPinLaw", name := "valid", desc := "(J)J" } : Jvm.MethodName) method_2_code (4 : Nat) (Option.some Jvm.ClassFile.FieldType.long), Jvm.Cond.code ({ cls := "com/example/cistern/cistern/CisternConfig", name := "<init>", desc := "()V" } : Jvm.MethodName) prog_10_method_1_code (1 : Nat) (Option.none : Option Jvm.ClassFile.FieldType), Jvm.Cond.code ({ cls := "java/lang/Object", name := "<init>", desc := "()V" } : Jvm.MethodName) object_method_1_code (1 : Nat) (Option.none : Option Jvm.ClassFile.FieldType), Jvm.Cond.code ({ cls := "java/util/TreeMap", name := "<init>", desc := "()V" } : Jvm.MethodName) jdk_2729_method_1_code (1 : Nat) (Option.none : Option Jvm.ClassFile.FieldType), Jvm.Cond.code ({ cls := "java/util/AbstractMap", name := "<init>", desc := "()V" } : Jvm.MethodName) jdk_71_method_1_code (1 : Nat) (Option.none : Option Jvm.ClassFile.FieldType), Jvm.Cond.code ({ cls := "com/example/cistern/cistern/CisternConfig", name := "setConnectionTimeoutMs", desc := "(J)V" } : Jvm.MethodName) prog_10_method_32_code (3 : Nat) (Option.none : Option Jvm.ClassFile.FieldType), Jvm.Cond.code ({ cls := "com/example/cistern/cistern/CisternConfig", name := "requireAtLeast", desc := "(Ljava/lang/String;JJ)V" } : Jvm.MethodName) prog_10_method_46_code (5 : Nat) (Option.none : Option Jvm.ClassFile.FieldType), Jvm.Cond.code ({ cls := "com/example/cistern/cistern/CisternConfig", name := "getConnectionTimeoutMs", desc := "()J" } : Jvm.MethodName) prog_10_method_31_code (1 : Nat) (Option.some Jvm.ClassFile.FieldType.long), Jvm.Cond.code ({ cls := "com/example/cistern/cistern/CisternConfig", name := "getValidationTimeoutMs", desc := "()J" } : Jvm.MethodName) prog_10_method_33_code (1 : Nat) (Option.some Jvm.ClassFile.FieldType.long), Jvm.Cond.code ({ cls := "com/example/cistern/cistern/CisternConfig", name := "getIdleTimeoutMs", desc := "()J" } : Jvm.MethodName) prog_10_method_39_code (1 : Nat) (Option.some Jvm.ClassFile.FieldType.long), Jvm.Cond.code ({ cls := "com/example/cistern/cistern/CisternConfig", name := "getMaxLifetimeMs", desc := "()J" } : Jvm.MethodName) prog_10_method_41_code (1 : Nat) (Option.some Jvm.ClassFile.FieldType.long)]
set_option maxRecDepth 65536 in
theorem codes_eq : words1.filter isCode = codes1 := rfl
theorem w_codes : ∀ c ∈ words1.filter isCode, c.before args0 about1 = true := by
  rw [codes_eq]
  intro c hc
  simp only [codes1, List.mem_cons, List.not_mem_nil, or_false] at hc
  rcases hc with rfl | rfl | rfl | rfl | rfl | rfl | rfl | rfl | rfl | rfl | rfl | rfl
  · exact w_c0
  · exact w_c1
  · exact w_c2
  · exact w_c3
  · exact w_c4
  · exact w_c5
  · exact w_c6
  · exact w_c7
  · exact w_c8
  · exact w_c9
  · exact w_c10
  · exact w_c11
set_option maxRecDepth 65536 in
theorem w_t1 : (words1.take 24).all (fun c => isCode c || c.before args0 about1) = true := by decide +kernel
set_option maxRecDepth 65536 in
theorem w_t2 : ((words1.drop 24).take 24).all (fun c => isCode c || c.before args0 about1) = true := by decide +kernel
set_option maxRecDepth 65536 in
theorem w_t3 : (((words1.drop 24).drop 24).take 24).all (fun c => isCode c || c.before args0 about1) = true := by decide +kernel
set_option maxRecDepth 65536 in
theorem w_t4 : (((words1.drop 24).drop 24).drop 24).all (fun c => isCode c || c.before args0 about1) = true := by decide +kernel
theorem w_tables : (allAtoms (Jvm.Cond.code x code maxLocals ret :: tables_1)).before args0 about1 = true := by
  rw [allAtoms_all]
  show words1.all (fun c => c.before args0 about1) = true
  refine all_split ?_ w_codes
  rw [← List.take_append_drop 24 words1, List.all_append, w_t1, ← List.take_append_drop 24 (words1.drop 24), List.all_append, w_t2, ← List.take_append_drop 24 ((words1.drop 24).drop 24), List.all_append, w_t3, w_t4]
  rfl
set_option maxRecDepth 65536 in
theorem w_case : (Jvm.Cond.and given_1 narrow_1).before args0 about1 = true := by decide +kernel
theorem w_applies : (headSpec (Jvm.Cond.code x code maxLocals ret :: tables_1) room_1).applies x e0.platform about1 = true :=
  (Spec.applies_iff w_frames).mpr ⟨w_running, w_runnable, w_alone, w_named, w_hears, w_ripe, w_room, w_tables⟩
theorem atStart : AtStart classFile x code maxLocals ret World_1 tables_1 room_1 Calls_1 rest_1 Pre_1 launch0 p0 e0 about1 theMethod args0 below0 :=
  ⟨lists_1, trivial, launch0.admits_env _ _ _, launch0.least_env, fairChoices_fair.cas, fairChoices_fair.clock, w_frames, w_args, w_heap, w_applies, trivial, trivial, w_case⟩
end start1
theorem witness_1 : WitnessClaimed_1 := ⟨start1.p0, start1.e0, start1.about1, start1.theMethod, start1.args0, start1.below0, start1.atStart⟩
end Jvm.Pilot.@@N@@
