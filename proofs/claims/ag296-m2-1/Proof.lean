import JvmDerived
import JvmDerived.Pilot.@@N@@Statement
import JvmDerived.Pilot.@@N@@Code
set_option linter.unusedVariables false
set_option linter.unusedSimpArgs false
@@BLOCK:NumsL.lean.txt@@
namespace Jvm.Pilot.@@N@@
open Jvm Jvm.ClassFile Sem Op Lib Jvm.Free Jvm.Stand Jvm.LawKit Jvm.RoadKit Bundle Jvm.Pilot.@@N@@.Jvm.D
section GoKit
variable {p : Program} {l : Launch} {e : Env} {R : Room} {s : State} {m : MethodId} {args : Array Value} {below : List Frame} {meth : Method} {c : Code} {T : State} {Z : State} {own nm : String} {bytes : ByteArray} {mx : Nat} {rt : Option FieldType} {n0 k n : Nat} {h : Heap} {Q : Option Value → Heap → Prop} {CC NN : Nat} {a0 : Array Value} {Ls Ls' : Array Slot} {rest : List Value} {pc pc' : Nat}
/-- where a walk stands -/
def W (Z : State) (own nm : String) (bytes : ByteArray) (mx : Nat) (rt : Option FieldType) (n0 : Nat) (p : Program) (l : Launch) (e : Env) (R : Room) (s : State) (m : MethodId) (args : Array Value) (below : List Frame) (meth : Method) (c : Code) (k n : Nat) (T : State) (h : Heap) : Prop :=
  ∃ vm0, (∃ k0, s.Since vm0 k0 ∧ k0 ≤ h.size) ∧ p.tables.exec = Jvm.exec ∧ c.code = bytes ∧ (s.setVm vm0).vm.findClass own = some m.cls ∧ Z.Warmed39 (s.setVm vm0).vm ∧ c.maxLocals = mx ∧ meth.name = nm ∧ meth.sig.returnType = rt ∧ meth.locks = false ∧ (∃ L, Stand p l e R (s.setVm vm0) m args below meth c T L k n ∧ Fr n0 L) ∧ T.heap = h
theorem reb {s : State} {vm0 : Vm} {h h' : Heap} (q : ∃ k0, s.Since vm0 k0 ∧ k0 ≤ h.size) (r : h.size ≤ h'.size) : ∃ k0, s.Since vm0 k0 ∧ k0 ≤ h'.size := by
  obtain ⟨k0, a, b⟩ := q
  exact ⟨k0, a, Nat.le_trans b r⟩
/-- from this frame the method ends well -/
def Go (n0 : Nat) (p : Program) (e : Env) (below : List Frame) (s : State) (Q : Option Value → Heap → Prop) (CC NN : Nat) (T : State) (g : JFrame) : Prop :=
  ∃ s₂ o, Steps p.tables e below (T.setTop g) s₂ ∧ s₂.status = .running ∧ Ended s₂ below o ∧ ∃ v L, o = .returned v ∧ (Fr n0 L ∧ Q v s₂.heap) ∧ ReturnedEndW s o s₂ L CC NN
/-- a body's contract: of these arguments, at this heap -/
def Ctr (l : Launch) (y : MethodName) (yb : ByteArray) (ymx : Nat) (yr : Option FieldType) (rm : Room) (Z : State) (as : Array Value) (h0 : Heap) (n0 : Nat) (Q : Option Value → Heap → Prop) (ws : List Jvm.Cond) : Prop :=
  MetFree l y (head1 (Jvm.Cond.code y yb ymx yr :: ws) rm) (fun a U => a = as ∧ Z.Warmed39 U.vm ∧ U.heap = h0) (fun _ _ _ _ _ => True) (fun _ U o U' => ∃ v L, o = .returned v ∧ (Fr n0 L ∧ Q v U'.heap) ∧ ReturnedEndW U o U' L rm.cells rm.slots)
theorem metGo {y : MethodName} {rm : Room} {as : Array Value} {ws : List Jvm.Cond} (hpn : plainFor y = true) (hef : ∀ m, entryFrame m as mx = mkF m 0 Ls [])
    (H : ∀ (p : Program) (e : Env) (s : State) (m : MethodId) (below : List Frame) (meth : Method) (c : Code) (T : State), W Z y.cls y.name bytes mx rt n0 p l e rm s m as below meth c 0 0 T h → Go n0 p e below s Q rm.cells rm.slots T (mkF m 0 Ls [])) : Ctr l y bytes mx rt rm Z as h n0 Q ws := by
  refine MetFree.of_bodySF hpn hisR ?_
  intro p e s m args below meth c s₁ Bd hml0 hP hK
  obtain ⟨rfl, hZ, hh⟩ := hP
  have e0 : s₁.heap = h := by rw [← hh, Bd.state]; rfl
  obtain ⟨s₂, o, st, r⟩ := H p e s m below meth c s₁ ⟨s.vm, ⟨0, (State.WarmedH.refl s).since 0, Nat.zero_le _⟩, Bd.exec, Bd.bytes, findClass_of_methodNamed Bd.named, hZ, hml0, (name_of_methodNamed Bd.named Bd.method).1, Bd.returns, Bd.notSynchronized, ⟨[], Stand.of_body Bd, Fr.nil n0⟩, e0⟩
  exact ⟨s₂, o, castTop (hef m) st, r⟩
def cY : ClassFile.Cond → Int32 → Int32 → Prop
  | .eq, x, y => x = y
  | .ne, x, y => ¬ x = y
  | .lt, x, y => x < y
  | .ge, x, y => ¬ x < y
  | .gt, x, y => y < x
  | .le, x, y => ¬ y < x
def cN : ClassFile.Cond → Int32 → Int32 → Prop
  | .eq, x, y => ¬ x = y
  | .ne, x, y => x = y
  | .lt, x, y => ¬ x < y
  | .ge, x, y => x < y
  | .gt, x, y => ¬ y < x
  | .le, x, y => y < x
def lY : ClassFile.Cond → Int64 → Int64 → Prop
  | .eq, x, y => x = y
  | .ne, x, y => ¬ x = y
  | .lt, x, y => x < y
  | .ge, x, y => ¬ x < y
  | .gt, x, y => y < x
  | .le, x, y => ¬ y < x
def lN : ClassFile.Cond → Int64 → Int64 → Prop
  | .eq, x, y => ¬ x = y
  | .ne, x, y => x = y
  | .lt, x, y => ¬ x < y
  | .ge, x, y => x < y
  | .gt, x, y => ¬ y < x
  | .le, x, y => y < x
theorem c_or (cd : ClassFile.Cond) (x y : Int32) : (cY cd x y ∧ if_icmp.holds cd x y = true) ∨ (cN cd x y ∧ if_icmp.holds cd x y = false) := by
  cases cd
  · by_cases q : x = y
    · exact Or.inl ⟨q, (teq q).1⟩
    · exact Or.inr ⟨q, (feq q).1⟩
  · by_cases q : x = y
    · exact Or.inr ⟨q, (teq q).2⟩
    · exact Or.inl ⟨q, (feq q).2⟩
  · by_cases q : x < y
    · exact Or.inl ⟨q, (tlt q).1⟩
    · exact Or.inr ⟨q, (flt q).1⟩
  · by_cases q : x < y
    · exact Or.inr ⟨q, (tlt q).2.1⟩
    · exact Or.inl ⟨q, (flt q).2.1⟩
  · by_cases q : y < x
    · exact Or.inl ⟨q, (tlt q).2.2.1⟩
    · exact Or.inr ⟨q, (flt q).2.2.1⟩
  · by_cases q : y < x
    · exact Or.inr ⟨q, (tlt q).2.2.2⟩
    · exact Or.inl ⟨q, (flt q).2.2.2⟩
theorem lY_of (cd : ClassFile.Cond) (x y : Int64) (q : cY cd (lcmpW x y) 0) : lY cd x y := by
  cases cd
  · exact (lw_eq x y).mp q
  · exact fun r => q ((lw_eq x y).mpr r)
  · exact (lw_lt x y).mp q
  · exact fun r => q ((lw_lt x y).mpr r)
  · exact (lw_gt x y).mp q
  · exact fun r => q ((lw_gt x y).mpr r)
theorem lN_of (cd : ClassFile.Cond) (x y : Int64) (q : cN cd (lcmpW x y) 0) : lN cd x y := by
  cases cd
  · exact fun r => q ((lw_eq x y).mpr r)
  · exact (lw_eq x y).mp q
  · exact fun r => q ((lw_lt x y).mpr r)
  · exact (lw_lt x y).mp q
  · exact fun r => q ((lw_gt x y).mpr r)
  · exact (lw_gt x y).mp q

theorem giload (w : W Z own nm bytes mx rt n0 p l e R s m args below meth c k n T h) {j : Nat} {v : Int32} (hd : decode bytes pc = .ok (.iload j, 2)) (hl : Ls[j]? = some (.val (.int v))) (hp : pc + 2 = pc') (K : Go n0 p e below s Q CC NN T (mkF m pc' Ls (.int v :: rest))) : Go n0 p e below s Q CC NN T (mkF m pc Ls (rest)) := by
  obtain ⟨vm0, -, hx, hb, -, -, -, -, -, -, ⟨L, X, -⟩, -⟩ := w
  obtain ⟨s₂, o, st, r⟩ := K
  subst hp hb
  exact ⟨s₂, o, XS.iload X.here hx rfl hd hl st, r⟩
theorem giloadN (w : W Z own nm bytes mx rt n0 p l e R s m args below meth c k n T h) {j : Fin 4} {v : Int32} (hd : decode bytes pc = .ok (.iload_n j, 1)) (hl : Ls[j.val]? = some (.val (.int v))) (hp : pc + 1 = pc') (K : Go n0 p e below s Q CC NN T (mkF m pc' Ls (.int v :: rest))) : Go n0 p e below s Q CC NN T (mkF m pc Ls (rest)) := by
  obtain ⟨vm0, -, hx, hb, -, -, -, -, -, -, ⟨L, X, -⟩, -⟩ := w
  obtain ⟨s₂, o, st, r⟩ := K
  subst hp hb
  exact ⟨s₂, o, XS.iloadN X.here hx rfl hd hl st, r⟩
theorem glload (w : W Z own nm bytes mx rt n0 p l e R s m args below meth c k n T h) {j : Nat} {v : Int64} (hd : decode bytes pc = .ok (.lload j, 2)) (hl : Ls[j]? = some (.val (.long v))) (hp : pc + 2 = pc') (K : Go n0 p e below s Q CC NN T (mkF m pc' Ls (.long v :: rest))) : Go n0 p e below s Q CC NN T (mkF m pc Ls (rest)) := by
  obtain ⟨vm0, -, hx, hb, -, -, -, -, -, -, ⟨L, X, -⟩, -⟩ := w
  obtain ⟨s₂, o, st, r⟩ := K
  subst hp hb
  exact ⟨s₂, o, XS.lload X.here hx rfl hd hl st, r⟩
theorem glloadN (w : W Z own nm bytes mx rt n0 p l e R s m args below meth c k n T h) {j : Fin 4} {v : Int64} (hd : decode bytes pc = .ok (.lload_n j, 1)) (hl : Ls[j.val]? = some (.val (.long v))) (hp : pc + 1 = pc') (K : Go n0 p e below s Q CC NN T (mkF m pc' Ls (.long v :: rest))) : Go n0 p e below s Q CC NN T (mkF m pc Ls (rest)) := by
  obtain ⟨vm0, -, hx, hb, -, -, -, -, -, -, ⟨L, X, -⟩, -⟩ := w
  obtain ⟨s₂, o, st, r⟩ := K
  subst hp hb
  exact ⟨s₂, o, XS.lloadN X.here hx rfl hd hl st, r⟩
theorem gaload (w : W Z own nm bytes mx rt n0 p l e R s m args below meth c k n T h) {j : Nat} {v : Value} (hd : decode bytes pc = .ok (.aload j, 2)) (hl : Ls[j]? = some (.val v)) (hv : v.isRef = true) (hp : pc + 2 = pc') (K : Go n0 p e below s Q CC NN T (mkF m pc' Ls (v :: rest))) : Go n0 p e below s Q CC NN T (mkF m pc Ls (rest)) := by
  obtain ⟨vm0, -, hx, hb, -, -, -, -, -, -, ⟨L, X, -⟩, -⟩ := w
  obtain ⟨s₂, o, st, r⟩ := K
  subst hp hb
  exact ⟨s₂, o, XS.aload X.here hx rfl hd hl hv st, r⟩
theorem galoadN (w : W Z own nm bytes mx rt n0 p l e R s m args below meth c k n T h) {j : Fin 4} {v : Value} (hd : decode bytes pc = .ok (.aload_n j, 1)) (hl : Ls[j.val]? = some (.val v)) (hv : v.isRef = true) (hp : pc + 1 = pc') (K : Go n0 p e below s Q CC NN T (mkF m pc' Ls (v :: rest))) : Go n0 p e below s Q CC NN T (mkF m pc Ls (rest)) := by
  obtain ⟨vm0, -, hx, hb, -, -, -, -, -, -, ⟨L, X, -⟩, -⟩ := w
  obtain ⟨s₂, o, st, r⟩ := K
  subst hp hb
  exact ⟨s₂, o, XS.aloadN X.here hx rfl hd hl hv st, r⟩
theorem gistore (w : W Z own nm bytes mx rt n0 p l e R s m args below meth c k n T h) {j : Nat} {v : Int32} (hd : decode bytes pc = .ok (.istore j, 2)) (hl : storeLocals Ls j (.int v) = some Ls') (hp : pc + 2 = pc') (K : Go n0 p e below s Q CC NN T (mkF m pc' Ls' (rest))) : Go n0 p e below s Q CC NN T (mkF m pc Ls (.int v :: rest)) := by
  obtain ⟨vm0, -, hx, hb, -, -, -, -, -, -, ⟨L, X, -⟩, -⟩ := w
  obtain ⟨s₂, o, st, r⟩ := K
  subst hp hb
  exact ⟨s₂, o, XS.istore X.here hx rfl hd rfl hl st, r⟩
theorem gistoreN (w : W Z own nm bytes mx rt n0 p l e R s m args below meth c k n T h) {j : Fin 4} {v : Int32} (hd : decode bytes pc = .ok (.istore_n j, 1)) (hl : storeLocals Ls j.val (.int v) = some Ls') (hp : pc + 1 = pc') (K : Go n0 p e below s Q CC NN T (mkF m pc' Ls' (rest))) : Go n0 p e below s Q CC NN T (mkF m pc Ls (.int v :: rest)) := by
  obtain ⟨vm0, -, hx, hb, -, -, -, -, -, -, ⟨L, X, -⟩, -⟩ := w
  obtain ⟨s₂, o, st, r⟩ := K
  subst hp hb
  exact ⟨s₂, o, XS.istoreN X.here hx rfl hd rfl hl st, r⟩
theorem glstore (w : W Z own nm bytes mx rt n0 p l e R s m args below meth c k n T h) {j : Nat} {v : Int64} (hd : decode bytes pc = .ok (.lstore j, 2)) (hl : storeLocals Ls j (.long v) = some Ls') (hp : pc + 2 = pc') (K : Go n0 p e below s Q CC NN T (mkF m pc' Ls' (rest))) : Go n0 p e below s Q CC NN T (mkF m pc Ls (.long v :: rest)) := by
  obtain ⟨vm0, -, hx, hb, -, -, -, -, -, -, ⟨L, X, -⟩, -⟩ := w
  obtain ⟨s₂, o, st, r⟩ := K
  subst hp hb
  exact ⟨s₂, o, XS.lstore X.here hx rfl hd rfl hl st, r⟩
theorem glstoreN (w : W Z own nm bytes mx rt n0 p l e R s m args below meth c k n T h) {j : Fin 4} {v : Int64} (hd : decode bytes pc = .ok (.lstore_n j, 1)) (hl : storeLocals Ls j.val (.long v) = some Ls') (hp : pc + 1 = pc') (K : Go n0 p e below s Q CC NN T (mkF m pc' Ls' (rest))) : Go n0 p e below s Q CC NN T (mkF m pc Ls (.long v :: rest)) := by
  obtain ⟨vm0, -, hx, hb, -, -, -, -, -, -, ⟨L, X, -⟩, -⟩ := w
  obtain ⟨s₂, o, st, r⟩ := K
  subst hp hb
  exact ⟨s₂, o, XS.lstoreN X.here hx rfl hd rfl hl st, r⟩
theorem gastore (w : W Z own nm bytes mx rt n0 p l e R s m args below meth c k n T h) {j : Nat} {v : Value} (hd : decode bytes pc = .ok (.astore j, 2)) (hv : v.isRef = true) (hl : storeLocals Ls j v = some Ls') (hp : pc + 2 = pc') (K : Go n0 p e below s Q CC NN T (mkF m pc' Ls' (rest))) : Go n0 p e below s Q CC NN T (mkF m pc Ls (v :: rest)) := by
  obtain ⟨vm0, -, hx, hb, -, -, -, -, -, -, ⟨L, X, -⟩, -⟩ := w
  obtain ⟨s₂, o, st, r⟩ := K
  subst hp hb
  exact ⟨s₂, o, XS.astore X.here hx rfl hd rfl hv hl st, r⟩
theorem gastoreN (w : W Z own nm bytes mx rt n0 p l e R s m args below meth c k n T h) {j : Fin 4} {v : Value} (hd : decode bytes pc = .ok (.astore_n j, 1)) (hv : v.isRef = true) (hl : storeLocals Ls j.val v = some Ls') (hp : pc + 1 = pc') (K : Go n0 p e below s Q CC NN T (mkF m pc' Ls' (rest))) : Go n0 p e below s Q CC NN T (mkF m pc Ls (v :: rest)) := by
  obtain ⟨vm0, -, hx, hb, -, -, -, -, -, -, ⟨L, X, -⟩, -⟩ := w
  obtain ⟨s₂, o, st, r⟩ := K
  subst hp hb
  exact ⟨s₂, o, XS.astoreN X.here hx rfl hd rfl hv hl st, r⟩
theorem giinc (w : W Z own nm bytes mx rt n0 p l e R s m args below meth c k n T h) {j : Nat} {i : Int} {v : Int32} (hd : decode bytes pc = .ok (.iinc j i, 3)) (hl : Ls[j]? = some (.val (.int v))) (hl' : storeLocals Ls j (.int (v + Int32.ofInt i)) = some Ls') (hp : pc + 3 = pc') (K : Go n0 p e below s Q CC NN T (mkF m pc' Ls' (rest))) : Go n0 p e below s Q CC NN T (mkF m pc Ls (rest)) := by
  obtain ⟨vm0, -, hx, hb, -, -, -, -, -, -, ⟨L, X, -⟩, -⟩ := w
  obtain ⟨s₂, o, st, r⟩ := K
  subst hp hb
  exact ⟨s₂, o, XS.iinc X.here hx rfl hd hl hl' st, r⟩
theorem giconst (w : W Z own nm bytes mx rt n0 p l e R s m args below meth c k n T h) {i : Int} {v : Int32} (hd : decode bytes pc = .ok (.iconst i, 1)) (hv : Int32.ofInt i = v) (hp : pc + 1 = pc') (K : Go n0 p e below s Q CC NN T (mkF m pc' Ls (.int v :: rest))) : Go n0 p e below s Q CC NN T (mkF m pc Ls (rest)) := by
  obtain ⟨vm0, -, hx, hb, -, -, -, -, -, -, ⟨L, X, -⟩, -⟩ := w
  obtain ⟨s₂, o, st, r⟩ := K
  subst hp hb hv
  exact ⟨s₂, o, XS.iconst X.here hx rfl hd st, r⟩
theorem gbipush (w : W Z own nm bytes mx rt n0 p l e R s m args below meth c k n T h) {i : Int} {v : Int32} (hd : decode bytes pc = .ok (.bipush i, 2)) (hv : (Int8.ofInt i).toInt32 = v) (hp : pc + 2 = pc') (K : Go n0 p e below s Q CC NN T (mkF m pc' Ls (.int v :: rest))) : Go n0 p e below s Q CC NN T (mkF m pc Ls (rest)) := by
  obtain ⟨vm0, -, hx, hb, -, -, -, -, -, -, ⟨L, X, -⟩, -⟩ := w
  obtain ⟨s₂, o, st, r⟩ := K
  subst hp hb hv
  exact ⟨s₂, o, XS.bipush X.here hx rfl hd st, r⟩
theorem gsipush (w : W Z own nm bytes mx rt n0 p l e R s m args below meth c k n T h) {i : Int} {v : Int32} (hd : decode bytes pc = .ok (.sipush i, 3)) (hv : (Int16.ofInt i).toInt32 = v) (hp : pc + 3 = pc') (K : Go n0 p e below s Q CC NN T (mkF m pc' Ls (.int v :: rest))) : Go n0 p e below s Q CC NN T (mkF m pc Ls (rest)) := by
  obtain ⟨vm0, -, hx, hb, -, -, -, -, -, -, ⟨L, X, -⟩, -⟩ := w
  obtain ⟨s₂, o, st, r⟩ := K
  subst hp hb hv
  exact ⟨s₂, o, XS.sipush X.here hx rfl hd st, r⟩
theorem glconst (w : W Z own nm bytes mx rt n0 p l e R s m args below meth c k n T h) {i : Fin 2} {v : Int64} (hd : decode bytes pc = .ok (.lconst i, 1)) (hv : Int64.ofNat i = v) (hp : pc + 1 = pc') (K : Go n0 p e below s Q CC NN T (mkF m pc' Ls (.long v :: rest))) : Go n0 p e below s Q CC NN T (mkF m pc Ls (rest)) := by
  obtain ⟨vm0, -, hx, hb, -, -, -, -, -, -, ⟨L, X, -⟩, -⟩ := w
  obtain ⟨s₂, o, st, r⟩ := K
  subst hp hb hv
  exact ⟨s₂, o, XS.lconst X.here hx rfl hd st, r⟩
theorem gnull (w : W Z own nm bytes mx rt n0 p l e R s m args below meth c k n T h) (hd : decode bytes pc = .ok (.aconst_null, 1)) (hp : pc + 1 = pc') (K : Go n0 p e below s Q CC NN T (mkF m pc' Ls (.null :: rest))) : Go n0 p e below s Q CC NN T (mkF m pc Ls (rest)) := by
  obtain ⟨vm0, -, hx, hb, -, -, -, -, -, -, ⟨L, X, -⟩, -⟩ := w
  obtain ⟨s₂, o, st, r⟩ := K
  subst hp hb
  exact ⟨s₂, o, XS.aconstNull X.here hx rfl hd  st, r⟩
theorem giadd (w : W Z own nm bytes mx rt n0 p l e R s m args below meth c k n T h) {x y : Int32} (hd : decode bytes pc = .ok (.iadd, 1)) (hp : pc + 1 = pc') (K : Go n0 p e below s Q CC NN T (mkF m pc' Ls (.int (x + y) :: rest))) : Go n0 p e below s Q CC NN T (mkF m pc Ls (.int y :: .int x :: rest)) := by
  obtain ⟨vm0, -, hx, hb, -, -, -, -, -, -, ⟨L, X, -⟩, -⟩ := w
  obtain ⟨s₂, o, st, r⟩ := K
  subst hp hb
  exact ⟨s₂, o, XS.iadd X.here hx rfl hd rfl st, r⟩
theorem gladd (w : W Z own nm bytes mx rt n0 p l e R s m args below meth c k n T h) {x y : Int64} (hd : decode bytes pc = .ok (.ladd, 1)) (hp : pc + 1 = pc') (K : Go n0 p e below s Q CC NN T (mkF m pc' Ls (.long (x + y) :: rest))) : Go n0 p e below s Q CC NN T (mkF m pc Ls (.long y :: .long x :: rest)) := by
  obtain ⟨vm0, -, hx, hb, -, -, -, -, -, -, ⟨L, X, -⟩, -⟩ := w
  obtain ⟨s₂, o, st, r⟩ := K
  subst hp hb
  exact ⟨s₂, o, XS.ladd X.here hx rfl hd rfl st, r⟩
theorem gisub (w : W Z own nm bytes mx rt n0 p l e R s m args below meth c k n T h) {x y : Int32} (hd : decode bytes pc = .ok (.isub, 1)) (hp : pc + 1 = pc') (K : Go n0 p e below s Q CC NN T (mkF m pc' Ls (.int (x - y) :: rest))) : Go n0 p e below s Q CC NN T (mkF m pc Ls (.int y :: .int x :: rest)) := by
  obtain ⟨vm0, -, hx, hb, -, -, -, -, -, -, ⟨L, X, -⟩, -⟩ := w
  obtain ⟨s₂, o, st, r⟩ := K
  subst hp hb
  exact ⟨s₂, o, XS.isub X.here hx rfl hd rfl st, r⟩
theorem glsub (w : W Z own nm bytes mx rt n0 p l e R s m args below meth c k n T h) {x y : Int64} (hd : decode bytes pc = .ok (.lsub, 1)) (hp : pc + 1 = pc') (K : Go n0 p e below s Q CC NN T (mkF m pc' Ls (.long (x - y) :: rest))) : Go n0 p e below s Q CC NN T (mkF m pc Ls (.long y :: .long x :: rest)) := by
  obtain ⟨vm0, -, hx, hb, -, -, -, -, -, -, ⟨L, X, -⟩, -⟩ := w
  obtain ⟨s₂, o, st, r⟩ := K
  subst hp hb
  exact ⟨s₂, o, XS.lsub X.here hx rfl hd rfl st, r⟩
theorem gimul (w : W Z own nm bytes mx rt n0 p l e R s m args below meth c k n T h) {x y : Int32} (hd : decode bytes pc = .ok (.imul, 1)) (hp : pc + 1 = pc') (K : Go n0 p e below s Q CC NN T (mkF m pc' Ls (.int (x * y) :: rest))) : Go n0 p e below s Q CC NN T (mkF m pc Ls (.int y :: .int x :: rest)) := by
  obtain ⟨vm0, -, hx, hb, -, -, -, -, -, -, ⟨L, X, -⟩, -⟩ := w
  obtain ⟨s₂, o, st, r⟩ := K
  subst hp hb
  exact ⟨s₂, o, XS.imul X.here hx rfl hd rfl st, r⟩
theorem glmul (w : W Z own nm bytes mx rt n0 p l e R s m args below meth c k n T h) {x y : Int64} (hd : decode bytes pc = .ok (.lmul, 1)) (hp : pc + 1 = pc') (K : Go n0 p e below s Q CC NN T (mkF m pc' Ls (.long (x * y) :: rest))) : Go n0 p e below s Q CC NN T (mkF m pc Ls (.long y :: .long x :: rest)) := by
  obtain ⟨vm0, -, hx, hb, -, -, -, -, -, -, ⟨L, X, -⟩, -⟩ := w
  obtain ⟨s₂, o, st, r⟩ := K
  subst hp hb
  exact ⟨s₂, o, XS.lmul X.here hx rfl hd rfl st, r⟩
theorem giand (w : W Z own nm bytes mx rt n0 p l e R s m args below meth c k n T h) {x y : Int32} (hd : decode bytes pc = .ok (.iand, 1)) (hp : pc + 1 = pc') (K : Go n0 p e below s Q CC NN T (mkF m pc' Ls (.int (x &&& y) :: rest))) : Go n0 p e below s Q CC NN T (mkF m pc Ls (.int y :: .int x :: rest)) := by
  obtain ⟨vm0, -, hx, hb, -, -, -, -, -, -, ⟨L, X, -⟩, -⟩ := w
  obtain ⟨s₂, o, st, r⟩ := K
  subst hp hb
  exact ⟨s₂, o, XS.iand X.here hx rfl hd rfl st, r⟩
theorem gland (w : W Z own nm bytes mx rt n0 p l e R s m args below meth c k n T h) {x y : Int64} (hd : decode bytes pc = .ok (.land, 1)) (hp : pc + 1 = pc') (K : Go n0 p e below s Q CC NN T (mkF m pc' Ls (.long (x &&& y) :: rest))) : Go n0 p e below s Q CC NN T (mkF m pc Ls (.long y :: .long x :: rest)) := by
  obtain ⟨vm0, -, hx, hb, -, -, -, -, -, -, ⟨L, X, -⟩, -⟩ := w
  obtain ⟨s₂, o, st, r⟩ := K
  subst hp hb
  exact ⟨s₂, o, XS.land X.here hx rfl hd rfl st, r⟩
theorem gior (w : W Z own nm bytes mx rt n0 p l e R s m args below meth c k n T h) {x y : Int32} (hd : decode bytes pc = .ok (.ior, 1)) (hp : pc + 1 = pc') (K : Go n0 p e below s Q CC NN T (mkF m pc' Ls (.int (x ||| y) :: rest))) : Go n0 p e below s Q CC NN T (mkF m pc Ls (.int y :: .int x :: rest)) := by
  obtain ⟨vm0, -, hx, hb, -, -, -, -, -, -, ⟨L, X, -⟩, -⟩ := w
  obtain ⟨s₂, o, st, r⟩ := K
  subst hp hb
  exact ⟨s₂, o, XS.ior X.here hx rfl hd rfl st, r⟩
theorem glor (w : W Z own nm bytes mx rt n0 p l e R s m args below meth c k n T h) {x y : Int64} (hd : decode bytes pc = .ok (.lor, 1)) (hp : pc + 1 = pc') (K : Go n0 p e below s Q CC NN T (mkF m pc' Ls (.long (x ||| y) :: rest))) : Go n0 p e below s Q CC NN T (mkF m pc Ls (.long y :: .long x :: rest)) := by
  obtain ⟨vm0, -, hx, hb, -, -, -, -, -, -, ⟨L, X, -⟩, -⟩ := w
  obtain ⟨s₂, o, st, r⟩ := K
  subst hp hb
  exact ⟨s₂, o, XS.lor X.here hx rfl hd rfl st, r⟩
theorem gixor (w : W Z own nm bytes mx rt n0 p l e R s m args below meth c k n T h) {x y : Int32} (hd : decode bytes pc = .ok (.ixor, 1)) (hp : pc + 1 = pc') (K : Go n0 p e below s Q CC NN T (mkF m pc' Ls (.int (x ^^^ y) :: rest))) : Go n0 p e below s Q CC NN T (mkF m pc Ls (.int y :: .int x :: rest)) := by
  obtain ⟨vm0, -, hx, hb, -, -, -, -, -, -, ⟨L, X, -⟩, -⟩ := w
  obtain ⟨s₂, o, st, r⟩ := K
  subst hp hb
  exact ⟨s₂, o, XS.ixor X.here hx rfl hd rfl st, r⟩
theorem glxor (w : W Z own nm bytes mx rt n0 p l e R s m args below meth c k n T h) {x y : Int64} (hd : decode bytes pc = .ok (.lxor, 1)) (hp : pc + 1 = pc') (K : Go n0 p e below s Q CC NN T (mkF m pc' Ls (.long (x ^^^ y) :: rest))) : Go n0 p e below s Q CC NN T (mkF m pc Ls (.long y :: .long x :: rest)) := by
  obtain ⟨vm0, -, hx, hb, -, -, -, -, -, -, ⟨L, X, -⟩, -⟩ := w
  obtain ⟨s₂, o, st, r⟩ := K
  subst hp hb
  exact ⟨s₂, o, XS.lxor X.here hx rfl hd rfl st, r⟩
theorem gineg (w : W Z own nm bytes mx rt n0 p l e R s m args below meth c k n T h) {x : Int32} (hd : decode bytes pc = .ok (.ineg, 1)) (hp : pc + 1 = pc') (K : Go n0 p e below s Q CC NN T (mkF m pc' Ls (.int (-x) :: rest))) : Go n0 p e below s Q CC NN T (mkF m pc Ls (.int x :: rest)) := by
  obtain ⟨vm0, -, hx, hb, -, -, -, -, -, -, ⟨L, X, -⟩, -⟩ := w
  obtain ⟨s₂, o, st, r⟩ := K
  subst hp hb
  exact ⟨s₂, o, XS.ineg X.here hx rfl hd rfl st, r⟩
theorem gidiv (w : W Z own nm bytes mx rt n0 p l e R s m args below meth c k n T h) {x y : Int32} (hd : decode bytes pc = .ok (.idiv, 1)) (hy : y ≠ 0) (hp : pc + 1 = pc') (K : Go n0 p e below s Q CC NN T (mkF m pc' Ls (.int (x / y) :: rest))) : Go n0 p e below s Q CC NN T (mkF m pc Ls (.int y :: .int x :: rest)) := by
  obtain ⟨vm0, -, hx, hb, -, -, -, -, -, -, ⟨L, X, -⟩, -⟩ := w
  obtain ⟨s₂, o, st, r⟩ := K
  subst hp hb
  exact ⟨s₂, o, XS.idiv X.here hx rfl hd rfl hy st, r⟩
theorem gldiv (w : W Z own nm bytes mx rt n0 p l e R s m args below meth c k n T h) {x y : Int64} (hd : decode bytes pc = .ok (.ldiv, 1)) (hy : y ≠ 0) (hp : pc + 1 = pc') (K : Go n0 p e below s Q CC NN T (mkF m pc' Ls (.long (x / y) :: rest))) : Go n0 p e below s Q CC NN T (mkF m pc Ls (.long y :: .long x :: rest)) := by
  obtain ⟨vm0, -, hx, hb, -, -, -, -, -, -, ⟨L, X, -⟩, -⟩ := w
  obtain ⟨s₂, o, st, r⟩ := K
  subst hp hb
  exact ⟨s₂, o, XS.ldiv X.here hx rfl hd rfl hy st, r⟩
theorem girem (w : W Z own nm bytes mx rt n0 p l e R s m args below meth c k n T h) {x y : Int32} (hd : decode bytes pc = .ok (.irem, 1)) (hy : y ≠ 0) (hp : pc + 1 = pc') (K : Go n0 p e below s Q CC NN T (mkF m pc' Ls (.int (x - (x / y) * y) :: rest))) : Go n0 p e below s Q CC NN T (mkF m pc Ls (.int y :: .int x :: rest)) := by
  obtain ⟨vm0, -, hx, hb, -, -, -, -, -, -, ⟨L, X, -⟩, -⟩ := w
  obtain ⟨s₂, o, st, r⟩ := K
  subst hp hb
  exact ⟨s₂, o, XS.irem X.here hx rfl hd rfl hy st, r⟩
theorem glrem (w : W Z own nm bytes mx rt n0 p l e R s m args below meth c k n T h) {x y : Int64} (hd : decode bytes pc = .ok (.lrem, 1)) (hy : y ≠ 0) (hp : pc + 1 = pc') (K : Go n0 p e below s Q CC NN T (mkF m pc' Ls (.long (x - (x / y) * y) :: rest))) : Go n0 p e below s Q CC NN T (mkF m pc Ls (.long y :: .long x :: rest)) := by
  obtain ⟨vm0, -, hx, hb, -, -, -, -, -, -, ⟨L, X, -⟩, -⟩ := w
  obtain ⟨s₂, o, st, r⟩ := K
  subst hp hb
  exact ⟨s₂, o, XS.lrem X.here hx rfl hd rfl hy st, r⟩
theorem gishl (w : W Z own nm bytes mx rt n0 p l e R s m args below meth c k n T h) {x : Int32} {y : Int32} (hd : decode bytes pc = .ok (.ishl, 1)) (hp : pc + 1 = pc') (K : Go n0 p e below s Q CC NN T (mkF m pc' Ls (.int (x <<< (y &&& 31)) :: rest))) : Go n0 p e below s Q CC NN T (mkF m pc Ls (.int y :: .int x :: rest)) := by
  obtain ⟨vm0, -, hx, hb, -, -, -, -, -, -, ⟨L, X, -⟩, -⟩ := w
  obtain ⟨s₂, o, st, r⟩ := K
  subst hp hb
  exact ⟨s₂, o, XS.ishl X.here hx rfl hd rfl st, r⟩
theorem gishr (w : W Z own nm bytes mx rt n0 p l e R s m args below meth c k n T h) {x : Int32} {y : Int32} (hd : decode bytes pc = .ok (.ishr, 1)) (hp : pc + 1 = pc') (K : Go n0 p e below s Q CC NN T (mkF m pc' Ls (.int (x >>> (y &&& 31)) :: rest))) : Go n0 p e below s Q CC NN T (mkF m pc Ls (.int y :: .int x :: rest)) := by
  obtain ⟨vm0, -, hx, hb, -, -, -, -, -, -, ⟨L, X, -⟩, -⟩ := w
  obtain ⟨s₂, o, st, r⟩ := K
  subst hp hb
  exact ⟨s₂, o, XS.ishr X.here hx rfl hd rfl st, r⟩
theorem giushr (w : W Z own nm bytes mx rt n0 p l e R s m args below meth c k n T h) {x : Int32} {y : Int32} (hd : decode bytes pc = .ok (.iushr, 1)) (hp : pc + 1 = pc') (K : Go n0 p e below s Q CC NN T (mkF m pc' Ls (.int ((x.toUInt32 >>> (y &&& 31).toUInt32).toInt32) :: rest))) : Go n0 p e below s Q CC NN T (mkF m pc Ls (.int y :: .int x :: rest)) := by
  obtain ⟨vm0, -, hx, hb, -, -, -, -, -, -, ⟨L, X, -⟩, -⟩ := w
  obtain ⟨s₂, o, st, r⟩ := K
  subst hp hb
  exact ⟨s₂, o, XS.iushr X.here hx rfl hd rfl st, r⟩
theorem glshl (w : W Z own nm bytes mx rt n0 p l e R s m args below meth c k n T h) {x : Int64} {y : Int32} (hd : decode bytes pc = .ok (.lshl, 1)) (hp : pc + 1 = pc') (K : Go n0 p e below s Q CC NN T (mkF m pc' Ls (.long (x <<< (y &&& 0x3f).toInt64) :: rest))) : Go n0 p e below s Q CC NN T (mkF m pc Ls (.int y :: .long x :: rest)) := by
  obtain ⟨vm0, -, hx, hb, -, -, -, -, -, -, ⟨L, X, -⟩, -⟩ := w
  obtain ⟨s₂, o, st, r⟩ := K
  subst hp hb
  exact ⟨s₂, o, XS.lshl X.here hx rfl hd rfl st, r⟩
theorem glshr (w : W Z own nm bytes mx rt n0 p l e R s m args below meth c k n T h) {x : Int64} {y : Int32} (hd : decode bytes pc = .ok (.lshr, 1)) (hp : pc + 1 = pc') (K : Go n0 p e below s Q CC NN T (mkF m pc' Ls (.long (x >>> (y &&& 0x3f).toInt64) :: rest))) : Go n0 p e below s Q CC NN T (mkF m pc Ls (.int y :: .long x :: rest)) := by
  obtain ⟨vm0, -, hx, hb, -, -, -, -, -, -, ⟨L, X, -⟩, -⟩ := w
  obtain ⟨s₂, o, st, r⟩ := K
  subst hp hb
  exact ⟨s₂, o, XS.lshr X.here hx rfl hd rfl st, r⟩
theorem glushr (w : W Z own nm bytes mx rt n0 p l e R s m args below meth c k n T h) {x : Int64} {y : Int32} (hd : decode bytes pc = .ok (.lushr, 1)) (hp : pc + 1 = pc') (K : Go n0 p e below s Q CC NN T (mkF m pc' Ls (.long ((x.toUInt64 >>> (y &&& 0x3f).toInt64.toUInt64).toInt64) :: rest))) : Go n0 p e below s Q CC NN T (mkF m pc Ls (.int y :: .long x :: rest)) := by
  obtain ⟨vm0, -, hx, hb, -, -, -, -, -, -, ⟨L, X, -⟩, -⟩ := w
  obtain ⟨s₂, o, st, r⟩ := K
  subst hp hb
  exact ⟨s₂, o, XS.lushr X.here hx rfl hd rfl st, r⟩
theorem gi2b (w : W Z own nm bytes mx rt n0 p l e R s m args below meth c k n T h) {v : Int32} (hd : decode bytes pc = .ok (.i2b, 1)) (hp : pc + 1 = pc') (K : Go n0 p e below s Q CC NN T (mkF m pc' Ls (.int (v.toInt8.toInt32) :: rest))) : Go n0 p e below s Q CC NN T (mkF m pc Ls (.int v :: rest)) := by
  obtain ⟨vm0, -, hx, hb, -, -, -, -, -, -, ⟨L, X, -⟩, -⟩ := w
  obtain ⟨s₂, o, st, r⟩ := K
  subst hp hb
  exact ⟨s₂, o, XS.i2b X.here hx rfl hd rfl st, r⟩
theorem gi2c (w : W Z own nm bytes mx rt n0 p l e R s m args below meth c k n T h) {v : Int32} (hd : decode bytes pc = .ok (.i2c, 1)) (hp : pc + 1 = pc') (K : Go n0 p e below s Q CC NN T (mkF m pc' Ls (.int (v.toUInt32.toUInt16.toUInt32.toInt32) :: rest))) : Go n0 p e below s Q CC NN T (mkF m pc Ls (.int v :: rest)) := by
  obtain ⟨vm0, -, hx, hb, -, -, -, -, -, -, ⟨L, X, -⟩, -⟩ := w
  obtain ⟨s₂, o, st, r⟩ := K
  subst hp hb
  exact ⟨s₂, o, XS.i2c X.here hx rfl hd rfl st, r⟩
theorem gi2l (w : W Z own nm bytes mx rt n0 p l e R s m args below meth c k n T h) {v : Int32} (hd : decode bytes pc = .ok (.i2l, 1)) (hp : pc + 1 = pc') (K : Go n0 p e below s Q CC NN T (mkF m pc' Ls (.long (v.toInt64) :: rest))) : Go n0 p e below s Q CC NN T (mkF m pc Ls (.int v :: rest)) := by
  obtain ⟨vm0, -, hx, hb, -, -, -, -, -, -, ⟨L, X, -⟩, -⟩ := w
  obtain ⟨s₂, o, st, r⟩ := K
  subst hp hb
  exact ⟨s₂, o, XS.i2l X.here hx rfl hd rfl st, r⟩
theorem gl2i (w : W Z own nm bytes mx rt n0 p l e R s m args below meth c k n T h) {v : Int64} (hd : decode bytes pc = .ok (.l2i, 1)) (hp : pc + 1 = pc') (K : Go n0 p e below s Q CC NN T (mkF m pc' Ls (.int (v.toInt32) :: rest))) : Go n0 p e below s Q CC NN T (mkF m pc Ls (.long v :: rest)) := by
  obtain ⟨vm0, -, hx, hb, -, -, -, -, -, -, ⟨L, X, -⟩, -⟩ := w
  obtain ⟨s₂, o, st, r⟩ := K
  subst hp hb
  exact ⟨s₂, o, XS.l2i X.here hx rfl hd rfl st, r⟩
theorem gdup (w : W Z own nm bytes mx rt n0 p l e R s m args below meth c k n T h) {x : Value} (hd : decode bytes pc = .ok (.dup, 1)) (hc : x.category = 1) (hp : pc + 1 = pc') (K : Go n0 p e below s Q CC NN T (mkF m pc' Ls (x :: x :: rest))) : Go n0 p e below s Q CC NN T (mkF m pc Ls (x :: rest)) := by
  obtain ⟨vm0, -, hx, hb, -, -, -, -, -, -, ⟨L, X, -⟩, -⟩ := w
  obtain ⟨s₂, o, st, r⟩ := K
  subst hp hb
  exact ⟨s₂, o, XS.dup X.here hx rfl hd rfl hc st, r⟩
theorem gpop (w : W Z own nm bytes mx rt n0 p l e R s m args below meth c k n T h) {x : Value} (hd : decode bytes pc = .ok (.pop, 1)) (hc : x.category = 1) (hp : pc + 1 = pc') (K : Go n0 p e below s Q CC NN T (mkF m pc' Ls (rest))) : Go n0 p e below s Q CC NN T (mkF m pc Ls (x :: rest)) := by
  obtain ⟨vm0, -, hx, hb, -, -, -, -, -, -, ⟨L, X, -⟩, -⟩ := w
  obtain ⟨s₂, o, st, r⟩ := K
  subst hp hb
  exact ⟨s₂, o, XS.pop X.here hx rfl hd rfl hc st, r⟩
theorem gdupx1 (w : W Z own nm bytes mx rt n0 p l e R s m args below meth c k n T h) {x y : Value} (hd : decode bytes pc = .ok (.dup_x1, 1)) (hc : x.category = 1) (hc2 : y.category = 1) (hp : pc + 1 = pc') (K : Go n0 p e below s Q CC NN T (mkF m pc' Ls (x :: y :: x :: rest))) : Go n0 p e below s Q CC NN T (mkF m pc Ls (x :: y :: rest)) := by
  obtain ⟨vm0, -, hx, hb, -, -, -, -, -, -, ⟨L, X, -⟩, -⟩ := w
  obtain ⟨s₂, o, st, r⟩ := K
  subst hp hb
  exact ⟨s₂, o, XS.dupX1 X.here hx rfl hd rfl hc hc2 st, r⟩
theorem ggoto (w : W Z own nm bytes mx rt n0 p l e R s m args below meth c k n T h) {o : Int} (hd : decode bytes pc = .ok (.goto o, 3)) (ho : 0 ≤ (pc : Int) + o) (hp : ((pc : Int) + o).toNat = pc') (K : Go n0 p e below s Q CC NN T (mkF m pc' Ls rest)) : Go n0 p e below s Q CC NN T (mkF m pc Ls rest) := by
  obtain ⟨vm0, -, hx, hb, -, -, -, -, -, -, ⟨L, X, -⟩, -⟩ := w
  obtain ⟨s₂, q, st, r⟩ := K
  subst hb
  exact ⟨s₂, q, XS.goto X.here hx rfl rfl hd ho hp st, r⟩
theorem gif (w : W Z own nm bytes mx rt n0 p l e R s m args below meth c k n T h) {cd : ClassFile.Cond} {x : Int32} {o : Int} {pt pf : Nat} (hd : decode bytes pc = .ok (.ifCond cd o, 3)) (ho : 0 ≤ (pc : Int) + o) (ht : ((pc : Int) + o).toNat = pt) (hf : pc + 3 = pf)
    (Kt : cY cd x 0 → Go n0 p e below s Q CC NN T (mkF m pt Ls rest)) (Kf : cN cd x 0 → Go n0 p e below s Q CC NN T (mkF m pf Ls rest)) : Go n0 p e below s Q CC NN T (mkF m pc Ls (.int x :: rest)) := by
  obtain ⟨vm0, -, hx, hb, -, -, -, -, -, -, ⟨L, X, -⟩, -⟩ := w
  subst hb hf
  rcases c_or cd x 0 with ⟨q, q'⟩ | ⟨q, q'⟩
  · obtain ⟨s₂, z, st, r⟩ := Kt q
    exact ⟨s₂, z, XS.ifYes X.here hx rfl rfl hd rfl ((if0 _ _).trans q') ho ht st, r⟩
  · obtain ⟨s₂, z, st, r⟩ := Kf q
    exact ⟨s₂, z, XS.ifNo X.here hx rfl hd rfl ((if0 _ _).trans q') st, r⟩
theorem gicmp (w : W Z own nm bytes mx rt n0 p l e R s m args below meth c k n T h) {cd : ClassFile.Cond} {x y : Int32} {o : Int} {pt pf : Nat} (hd : decode bytes pc = .ok (.if_icmp cd o, 3)) (ho : 0 ≤ (pc : Int) + o) (ht : ((pc : Int) + o).toNat = pt) (hf : pc + 3 = pf)
    (Kt : cY cd x y → Go n0 p e below s Q CC NN T (mkF m pt Ls rest)) (Kf : cN cd x y → Go n0 p e below s Q CC NN T (mkF m pf Ls rest)) : Go n0 p e below s Q CC NN T (mkF m pc Ls (.int y :: .int x :: rest)) := by
  obtain ⟨vm0, -, hx, hb, -, -, -, -, -, -, ⟨L, X, -⟩, -⟩ := w
  subst hb hf
  rcases c_or cd x y with ⟨q, q'⟩ | ⟨q, q'⟩
  · obtain ⟨s₂, z, st, r⟩ := Kt q
    exact ⟨s₂, z, XS.icmpYes X.here hx rfl rfl hd rfl q' ho ht st, r⟩
  · obtain ⟨s₂, z, st, r⟩ := Kf q
    exact ⟨s₂, z, XS.icmpNo X.here hx rfl hd rfl q' st, r⟩
theorem glcmpif (w : W Z own nm bytes mx rt n0 p l e R s m args below meth c k n T h) {cd : ClassFile.Cond} {x y : Int64} {o : Int} {pm pt pf : Nat} (hd0 : decode bytes pc = .ok (.lcmp, 1)) (hm : pc + 1 = pm) (hd : decode bytes pm = .ok (.ifCond cd o, 3)) (ho : 0 ≤ (pm : Int) + o) (ht : ((pm : Int) + o).toNat = pt) (hf : pm + 3 = pf)
    (Kt : lY cd x y → Go n0 p e below s Q CC NN T (mkF m pt Ls rest)) (Kf : lN cd x y → Go n0 p e below s Q CC NN T (mkF m pf Ls rest)) : Go n0 p e below s Q CC NN T (mkF m pc Ls (.long y :: .long x :: rest)) := by
  have K : Go n0 p e below s Q CC NN T (mkF m pm Ls (.int (lcmpW x y) :: rest)) := gif w hd ho ht hf (fun q => Kt (lY_of cd x y q)) (fun q => Kf (lN_of cd x y q))
  obtain ⟨vm0, -, hx, hb, -, -, -, -, -, -, ⟨L, X, -⟩, -⟩ := w
  obtain ⟨s₂, z, st, r⟩ := K
  subst hb hm
  exact ⟨s₂, z, XS.lcmp X.here hx rfl hd0 rfl st, r⟩
theorem gacmp (w : W Z own nm bytes mx rt n0 p l e R s m args below meth c k n T h) {cd : ClassFile.ACond} {x y : Value} {o : Int} {pt pf : Nat} (hd : decode bytes pc = .ok (.if_acmp cd o, 3)) (ho : 0 ≤ (pc : Int) + o) (h1 : x.isRef = true) (h2 : y.isRef = true) (ht : (if acV cd true = true then ((pc : Int) + o).toNat else pc + 3) = pt) (hf : (if acV cd false = true then ((pc : Int) + o).toNat else pc + 3) = pf)
    (Ke : x = y → Go n0 p e below s Q CC NN T (mkF m pt Ls rest)) (Kn : ¬ x = y → Go n0 p e below s Q CC NN T (mkF m pf Ls rest)) : Go n0 p e below s Q CC NN T (mkF m pc Ls (y :: x :: rest)) := by
  obtain ⟨vm0, -, hx, hb, -, -, -, -, -, -, ⟨L, X, -⟩, -⟩ := w
  subst hb
  by_cases q : x = y
  · obtain ⟨s₂, z, st, r⟩ := Ke q
    exact ⟨s₂, z, Jvm.RoadKit.acmp (g := mkF m pc Ls (y :: x :: rest)) X hx rfl h1 h2 (same := true) rfl hd rfl (decide_eq_true q) ho ht.symm st, r⟩
  · obtain ⟨s₂, z, st, r⟩ := Kn q
    exact ⟨s₂, z, Jvm.RoadKit.acmp (g := mkF m pc Ls (y :: x :: rest)) X hx rfl h1 h2 (same := false) rfl hd rfl (decide_eq_false q) ho hf.symm st, r⟩
theorem gifnullY (w : W Z own nm bytes mx rt n0 p l e R s m args below meth c k n T h) {o : Int} (hd : decode bytes pc = .ok (.ifnull o, 3)) (ho : 0 ≤ (pc : Int) + o) (hp : ((pc : Int) + o).toNat = pc') (K : Go n0 p e below s Q CC NN T (mkF m pc' Ls rest)) : Go n0 p e below s Q CC NN T (mkF m pc Ls (.null :: rest)) := by
  obtain ⟨vm0, -, hx, hb, -, -, -, -, -, -, ⟨L, X, -⟩, -⟩ := w
  obtain ⟨s₂, q, st, r⟩ := K
  subst hb
  exact ⟨s₂, q, XS.ifnullYes X.here hx rfl rfl hd rfl ho hp st, r⟩
theorem gifnullN (w : W Z own nm bytes mx rt n0 p l e R s m args below meth c k n T h) {o : Int} {b : Addr} (hd : decode bytes pc = .ok (.ifnull o, 3)) (hp : pc + 3 = pc') (K : Go n0 p e below s Q CC NN T (mkF m pc' Ls rest)) : Go n0 p e below s Q CC NN T (mkF m pc Ls (.ref b :: rest)) := by
  obtain ⟨vm0, -, hx, hb, -, -, -, -, -, -, ⟨L, X, -⟩, -⟩ := w
  obtain ⟨s₂, q, st, r⟩ := K
  subst hb hp
  exact ⟨s₂, q, XS.ifnullNo X.here hx rfl hd rfl st, r⟩
theorem gifnonnullY (w : W Z own nm bytes mx rt n0 p l e R s m args below meth c k n T h) {o : Int} {b : Addr} (hd : decode bytes pc = .ok (.ifnonnull o, 3)) (ho : 0 ≤ (pc : Int) + o) (hp : ((pc : Int) + o).toNat = pc') (K : Go n0 p e below s Q CC NN T (mkF m pc' Ls rest)) : Go n0 p e below s Q CC NN T (mkF m pc Ls (.ref b :: rest)) := by
  obtain ⟨vm0, -, hx, hb, -, -, -, -, -, -, ⟨L, X, -⟩, -⟩ := w
  obtain ⟨s₂, q, st, r⟩ := K
  subst hb
  exact ⟨s₂, q, XS.ifnonnullYes X.here hx rfl rfl hd rfl ho hp st, r⟩
theorem gifnonnullN (w : W Z own nm bytes mx rt n0 p l e R s m args below meth c k n T h) {o : Int} (hd : decode bytes pc = .ok (.ifnonnull o, 3)) (hp : pc + 3 = pc') (K : Go n0 p e below s Q CC NN T (mkF m pc' Ls rest)) : Go n0 p e below s Q CC NN T (mkF m pc Ls (.null :: rest)) := by
  obtain ⟨vm0, -, hx, hb, -, -, -, -, -, -, ⟨L, X, -⟩, -⟩ := w
  obtain ⟨s₂, q, st, r⟩ := K
  subst hb hp
  exact ⟨s₂, q, XS.ifnonnullNo X.here hx rfl hd rfl st, r⟩
theorem gldc2 (w : W Z own nm bytes mx rt n0 p l e R s m args below meth c k n T h) {index : Nat} {v : Int64} (hd : decode bytes pc = .ok (.ldc2_w index, 3)) (w1 : (Jvm.Cond.constantLong own index v).before a0 Z = true) (hp : pc + 3 = pc') (K : Go n0 p e below s Q CC NN T (mkF m pc' Ls (.long v :: rest))) : Go n0 p e below s Q CC NN T (mkF m pc Ls rest) := by
  obtain ⟨vm0, hR, hx, hb, hown, hZ, -, -, -, -, ⟨L, X, -⟩, -⟩ := w
  obtain ⟨s₂, q, st, r⟩ := K
  subst hb hp
  exact ⟨s₂, q, X.ldc2Long hx hown (mvT hZ w1) (g := mkF m pc Ls rest) rfl hd _ st, r⟩
theorem gldcI (w : W Z own nm bytes mx rt n0 p l e R s m args below meth c k n T h) {index : Nat} {v : Int32} (hd : decode bytes pc = .ok (.ldc index, 2)) (w1 : (Jvm.Cond.constant own index v).before a0 Z = true) (hp : pc + 2 = pc') (K : Go n0 p e below s Q CC NN T (mkF m pc' Ls (.int v :: rest))) : Go n0 p e below s Q CC NN T (mkF m pc Ls rest) := by
  obtain ⟨vm0, hR, hx, hb, hown, hZ, -, -, -, -, ⟨L, X, -⟩, -⟩ := w
  obtain ⟨s₂, q, st, r⟩ := K
  subst hb hp
  exact ⟨s₂, q, X.ldcInt hx hown (mvT hZ w1) (g := mkF m pc Ls rest) rfl hd _ st, r⟩

theorem ggetF (w : W Z own nm bytes mx rt n0 p l e R s m args below meth c k n T h) {index : Nat} {O n' d : String} {a : Addr} {v : Value} (hd : decode bytes pc = .ok (.getfield index, 3)) (w1 : (Jvm.Cond.fieldLink own index O n' d).before a0 Z = true) (F : Fld Z h a O n' d v) (hp : pc + 3 = pc')
    (K : ∀ T', W Z own nm bytes mx rt n0 p l e R s m args below meth c k n T' h → Go n0 p e below s Q CC NN T' (mkF m pc' Ls (v :: rest))) : Go n0 p e below s Q CC NN T (mkF m pc Ls (.ref a :: rest)) := by
  obtain ⟨vm0, hR, hx, hb, hown, hZ, r1, r2, r3, r4, ⟨L, X, N⟩, eT⟩ := w
  obtain ⟨T', X', e', st⟩ := getF X hx hZ hown (host := "") (Or.inl w1) Via.refl eT F (g := mkF m pc Ls (.ref a :: rest)) rfl rfl (by rw [hb]; exact hd)
  obtain ⟨s₂, q, st', r⟩ := K T' ⟨vm0, hR, hx, hb, hown, hZ, r1, r2, r3, r4, ⟨L, X', N⟩, e'⟩
  subst hp
  exact ⟨s₂, q, st _ st', r⟩
theorem ggetS (w : W Z own nm bytes mx rt n0 p l e R s m args below meth c k n T h) {index : Nat} {O n' d : String} {v : Value} (hd : decode bytes pc = .ok (.getstatic index, 3)) (w1 : (Jvm.Cond.fieldLink own index O n' d).before a0 Z = true) (F : Sta Z h O n' d v) (hp : pc + 3 = pc')
    (K : ∀ T', W Z own nm bytes mx rt n0 p l e R s m args below meth c k n T' h → Go n0 p e below s Q CC NN T' (mkF m pc' Ls (v :: rest))) : Go n0 p e below s Q CC NN T (mkF m pc Ls rest) := by
  obtain ⟨vm0, hR, hx, hb, hown, hZ, r1, r2, r3, r4, ⟨L, X, N⟩, eT⟩ := w
  obtain ⟨T', X', e', st⟩ := getS (host := "") X hx hZ hown w1 Via.refl eT F (g := mkF m pc Ls rest) rfl (by rw [hb]; exact hd)
  obtain ⟨s₂, q, st', r⟩ := K T' ⟨vm0, hR, hx, hb, hown, hZ, r1, r2, r3, r4, ⟨L, X', N⟩, e'⟩
  subst hp
  exact ⟨s₂, q, st _ st', r⟩
theorem ggetSN (w : W Z own nm bytes mx rt n0 p l e R s m args below meth c k n T h) {index : Nat} {O n' d host : String} {v : Value} (hd : decode bytes pc = .ok (.getstatic index, 3)) (w1 : (Jvm.Cond.fieldLinkNest own index O n' d host).before a0 Z = true) (F : Sta Z h O n' d v) (hp : pc + 3 = pc')
    (K : ∀ T', W Z own nm bytes mx rt n0 p l e R s m args below meth c k n T' h → Go n0 p e below s Q CC NN T' (mkF m pc' Ls (v :: rest))) : Go n0 p e below s Q CC NN T (mkF m pc Ls rest) := by
  obtain ⟨vm0, hR, hx, hb, hown, hZ, r1, r2, r3, r4, ⟨L, X, N⟩, eT⟩ := w
  obtain ⟨T', X', e', st⟩ := getS2 X hx hZ hown (Or.inr w1) Via.refl eT F (g := mkF m pc Ls rest) rfl (by rw [hb]; exact hd)
  obtain ⟨s₂, q, st', r⟩ := K T' ⟨vm0, hR, hx, hb, hown, hZ, r1, r2, r3, r4, ⟨L, X', N⟩, e'⟩
  subst hp
  exact ⟨s₂, q, st _ st', r⟩
/-- putfield: what is written may be narrowed (v to v') -/
theorem gputF (w : W Z own nm bytes mx rt n0 p l e R s m args below meth c k n T h) {index kk : Nat} {O n' d C : String} {ty : FieldType} {a : Addr} {v v' old : Value} (hd : decode bytes pc = .ok (.putfield index, 3)) (w1 : (Jvm.Cond.fieldLink own index O n' d).before a0 Z = true) (F : Fld Z h a O n' d old) (E : Exa Z h a C)
    (LL : (Jvm.Cond.lays C O n' d).before a0 Z = true ∨ ((Jvm.Cond.laysFinal C O n' d).before a0 Z = true ∧ own = O ∧ nm = "<init>")) (wi : (Jvm.Cond.instantiable C kk).before a0 Z = true) (hty : parseFieldDescriptor d = some ty) (hn : narrow ty v = v') (hf : fits ty v' = true) (hna : n0 ≤ a) (hp : pc + 3 = pc')
    (K : ∀ T' h', W Z own nm bytes mx rt n0 p l e R s m args below meth c k n T' h' → Wr h h' a (Jvm.RoadKit.slotOf Z O n' d) v' → Go n0 p e below s Q CC NN T' (mkF m pc' Ls rest)) : Go n0 p e below s Q CC NN T (mkF m pc Ls (v :: .ref a :: rest)) := by
  obtain ⟨vm0, hR, hx, hb, hown, hZ, r1, r2, r3, r4, ⟨L, X, N⟩, eT⟩ := w
  obtain ⟨T', h', X', e', Wx, st⟩ := putFN X hx hZ hown w1 Via.refl eT F E (LL.imp id fun q => ⟨q.1, q.2.1, r2.trans q.2.2⟩) wi hty hn hf (g := mkF m pc Ls (v :: .ref a :: rest)) rfl rfl (by rw [hb]; exact hd)
  obtain ⟨s₂, q, st', r⟩ := K T' h' ⟨vm0, reb hR (Nat.le_of_eq Wx.size.symm), hx, hb, hown, hZ, r1, r2, r3, r4, ⟨_, X', Fr.snoc X' N hna⟩, e'⟩ Wx
  subst hp
  exact ⟨s₂, q, st _ st', r⟩
theorem gnewO (w : W Z own nm bytes mx rt n0 p l e R s m args below meth c k n T h) {index j : Nat} {C : String} (hd : decode bytes pc = .ok (.new index, 3)) (w1 : (Jvm.Cond.classLink own index C).before a0 Z = true) (wi : (Jvm.Cond.instantiable C j).before a0 Z = true) (wz : (Jvm.Cond.initialized C).before a0 Z = true) (hc : k + 1 ≤ R.cells) (hl : n + j ≤ R.slots) (hp : pc + 3 = pc')
    (K : ∀ T' h' a, h.size = a → W Z own nm bytes mx rt n0 p l e R s m args below meth c (k + 1) (n + j) T' h' → Ext h h' → Exa Z h' a C → (∀ {O f d : String} {ty : FieldType}, Laid Z a0 C O f d → parseFieldDescriptor d = some ty → Fld Z h' a O f d (defaultValue ty)) → Go n0 p e below s Q CC NN T' (mkF m pc' Ls (.ref a :: rest))) : Go n0 p e below s Q CC NN T (mkF m pc Ls rest) := by
  obtain ⟨vm0, hR, hx, hb, hown, hZ, r1, r2, r3, r4, ⟨L, X, N⟩, eT⟩ := w
  obtain ⟨T', h', X', e', E, A, D, -, st⟩ := newO X hx hZ hown w1 wi wz eT (g := mkF m pc Ls rest) rfl (by rw [hb]; exact hd) hc hl
  obtain ⟨s₂, q, st', r⟩ := K T' h' _ rfl ⟨vm0, reb hR E.1, hx, hb, hown, hZ, r1, r2, r3, r4, ⟨_, X', N⟩, e'⟩ E A D
  subst hp
  exact ⟨s₂, q, st _ st', r⟩
theorem gnewP (w : W Z own nm bytes mx rt n0 p l e R s m args below meth c k n T h) {aty : ArrayType} {z : Int32} {cap : Nat} {ty : FieldType} (hd : decode bytes pc = .ok (.newarray aty, 2)) (hty : newarray.typeOf aty = ty) (w1 : (Jvm.Cond.arrayClass ty).before a0 Z = true) (hn : ¬ z < 0) (hcap : z.toNatClampNeg ≤ cap) (hb8 : cap * 8 ≤ 536870912) (hc : k + 1 ≤ R.cells) (hl : n + cap ≤ R.slots) (hp : pc + 2 = pc')
    (K : ∀ T' h' a kA, h.size = a → W Z own nm bytes mx rt n0 p l e R s m args below meth c (k + 1) (n + cap) T' h' → Ext h h' → Arv Z h' a kA ty z [] (defaultValue ty) → Go n0 p e below s Q CC NN T' (mkF m pc' Ls (.ref a :: rest))) : Go n0 p e below s Q CC NN T (mkF m pc Ls (.int z :: rest)) := by
  obtain ⟨vm0, hR, hx, hb, hown, hZ, r1, r2, r3, r4, ⟨L, X, N⟩, eT⟩ := w
  subst hty
  obtain ⟨T', h', cA, X', e', E, A, st⟩ := newP X hx hZ w1 eT (g := mkF m pc Ls (.int z :: rest)) rfl (by rw [hb]; exact hd) rfl hn hcap hb8 hc hl
  obtain ⟨s₂, q, st', r⟩ := K T' h' _ cA rfl ⟨vm0, reb hR E.1, hx, hb, hown, hZ, r1, r2, r3, r4, ⟨_, X', N⟩, e'⟩ E (Arv.new A hn)
  subst hp
  exact ⟨s₂, q, st _ st', r⟩
theorem ginitO (w : W Z own nm bytes mx rt n0 p l e R s m args below meth c k n T h) {index : Nat} {a : Addr} {Wt : Nat} (hd : decode bytes pc = .ok (.invokespecial index, 3)) (w1 : (Jvm.Cond.methodLink own index Lib.objectInit).before a0 Z = true) (w2 : (Jvm.Cond.instanceMethod Lib.objectInit).before a0 Z = true) (w3 : (Jvm.Cond.code Lib.objectInit ⟨#[0xb1]⟩ 1 none).before a0 Z = true)
    (hsz : Ls.size = mx) (hf : 1 ≤ R.frames) (hW : (rest.map fun v => v.category).sum ≤ Wt) (hl : Wt + 12 ≤ R.locals) (hp : pc + 3 = pc')
    (K : ∀ T', W Z own nm bytes mx rt n0 p l e R s m args below meth c k n T' h → Go n0 p e below s Q CC NN T' (mkF m pc' Ls rest)) : Go n0 p e below s Q CC NN T (mkF m pc Ls (.ref a :: rest)) := by
  obtain ⟨vm0, hR, hx, hb, hown, hZ, r1, r2, r3, r4, ⟨L, X, N⟩, eT⟩ := w
  obtain ⟨T', X', e', st⟩ := initO X hx hZ hown w1 w2 w3 eT (g := mkF m pc Ls (.ref a :: rest)) rfl (hsz.trans r1.symm) rfl (by rw [hb]; exact hd) hf (W := Wt) (by show 2 * 0 + _ ≤ _; omega) hl
  obtain ⟨s₂, q, st', r⟩ := K T' ⟨vm0, hR, hx, hb, hown, hZ, r1, r2, r3, r4, ⟨L, X', N⟩, e'⟩
  subst hp
  exact ⟨s₂, q, st _ st', r⟩
theorem glen (w : W Z own nm bytes mx rt n0 p l e R s m args below meth c k n T h) {a : Addr} {kA : ClassId} {ty : FieldType} {z : Int32} {vs : List Value} {dv : Value} (hd : decode bytes pc = .ok (.arraylength, 1)) (V : Arv Z h a kA ty z vs dv) (hp : pc + 1 = pc') (K : Go n0 p e below s Q CC NN T (mkF m pc' Ls (.int z :: rest))) : Go n0 p e below s Q CC NN T (mkF m pc Ls (.ref a :: rest)) := by
  obtain ⟨vm0, hR, hx, hb, hown, hZ, r1, r2, r3, r4, ⟨L, X, N⟩, eT⟩ := w
  obtain ⟨cl, A, -, S, N1, -, -⟩ := V
  obtain ⟨s₂, q, st', r⟩ := K
  subst hp
  refine ⟨s₂, q, X.arraylength hx (by rw [eT]; exact A.1) (State.isArrayOf_alike hZ.alike A.2.1) (g := mkF m pc Ls (.ref a :: rest)) rfl rfl (by rw [hb]; exact hd) _ ?_, r⟩
  rw [len_of S N1]
  exact st'

theorem gbaload (w : W Z own nm bytes mx rt n0 p l e R s m args below meth c k n T h) {a : Addr} {kA : ClassId} {z j : Int32} {vs : List Value} {dv v : Value} (hd : decode bytes pc = .ok (.baload, 1)) (V : Arv Z h a kA .byte z vs dv) (hj : ¬ j < 0 ∧ j < z) (hv : vs.getD j.toNatClampNeg dv = v) (hp : pc + 1 = pc') (K : Go n0 p e below s Q CC NN T (mkF m pc' Ls (v :: rest))) : Go n0 p e below s Q CC NN T (mkF m pc Ls (.int j :: .ref a :: rest)) := by
  obtain ⟨vm0, hR, hx, hb, hown, hZ, r1, r2, r3, r4, ⟨L, X, N⟩, eT⟩ := w
  obtain ⟨cl, A, -, S, -, H, -⟩ := V
  obtain ⟨s₂, q, st', r⟩ := K
  subst hp
  exact ⟨s₂, q, X.baloadBytes hx (j := j) (v := v) (by rw [eT]; exact A.1) (State.isArrayOf_alike hZ.alike A.2.1) A.2.2 (inb_of S hj) (H.at (inb_of S hj) hv) (g := mkF m pc Ls (.int j :: .ref a :: rest)) rfl rfl (by rw [hb]; exact hd) _ st', r⟩

theorem giaload (w : W Z own nm bytes mx rt n0 p l e R s m args below meth c k n T h) {a : Addr} {kA : ClassId} {z j : Int32} {vs : List Value} {dv v : Value} (hd : decode bytes pc = .ok (.iaload, 1)) (V : Arv Z h a kA .int z vs dv) (hj : ¬ j < 0 ∧ j < z) (hv : vs.getD j.toNatClampNeg dv = v) (hp : pc + 1 = pc') (K : Go n0 p e below s Q CC NN T (mkF m pc' Ls (v :: rest))) : Go n0 p e below s Q CC NN T (mkF m pc Ls (.int j :: .ref a :: rest)) := by
  obtain ⟨vm0, hR, hx, hb, hown, hZ, r1, r2, r3, r4, ⟨L, X, N⟩, eT⟩ := w
  obtain ⟨cl, A, -, S, -, H, -⟩ := V
  obtain ⟨s₂, q, st', r⟩ := K
  subst hp
  exact ⟨s₂, q, X.iaload hx (j := j) (v := v) (by rw [eT]; exact A.1) (State.isArrayOf_alike hZ.alike A.2.1) A.2.2 (inb_of S hj) (H.at (inb_of S hj) hv) (g := mkF m pc Ls (.int j :: .ref a :: rest)) rfl rfl (by rw [hb]; exact hd) _ st', r⟩

theorem gbastore (w : W Z own nm bytes mx rt n0 p l e R s m args below meth c k n T h) {a : Addr} {kA : ClassId} {z j x x' : Int32} {vs : List Value} {dv : Value} (hd : decode bytes pc = .ok (.bastore, 1)) (hxv : x.toInt8.toInt32 = x') (V : Arv Z h a kA .byte z vs dv) (hj : ¬ j < 0 ∧ j < z) (i : Nat) (hi : j.toNatClampNeg = i) (hlt : i < vs.length) (hna : n0 ≤ a) (hp : pc + 1 = pc')
    (K : ∀ T' h', W Z own nm bytes mx rt n0 p l e R s m args below meth c k n T' h' → Wr h h' a i (.int x') → Arv Z h' a kA .byte z (vs.set i (.int x')) dv → Go n0 p e below s Q CC NN T' (mkF m pc' Ls rest)) : Go n0 p e below s Q CC NN T (mkF m pc Ls (.int x :: .int j :: .ref a :: rest)) := by
  obtain ⟨vm0, hR, hx, hb, hown, hZ, r1, r2, r3, r4, ⟨L, X, N⟩, eT⟩ := w
  obtain ⟨cl, A, q1, S, N1, H, Gf⟩ := V
  subst hxv
  obtain ⟨T', h', X', e', Wx, st⟩ := stB X hx hZ eT A (j := j) (x := x) (inb_of S hj) (g := mkF m pc Ls (.int x :: .int j :: .ref a :: rest)) rfl rfl (by rw [hb]; exact hd)
  obtain ⟨s₂, q, st', r⟩ := K T' h' ⟨vm0, reb hR (Nat.le_of_eq Wx.size.symm), hx, hb, hown, hZ, r1, r2, r3, r4, ⟨_, X', Fr.snoc X' N hna⟩, e'⟩ (hi ▸ Wx) (Arv.set A q1 S N1 H Gf (fits_nar_byte _) Wx i hi hlt)
  subst hp
  exact ⟨s₂, q, st _ st', r⟩

theorem giastore (w : W Z own nm bytes mx rt n0 p l e R s m args below meth c k n T h) {a : Addr} {kA : ClassId} {z j x x' : Int32} {vs : List Value} {dv : Value} (hd : decode bytes pc = .ok (.iastore, 1)) (hxv : x = x') (V : Arv Z h a kA .int z vs dv) (hj : ¬ j < 0 ∧ j < z) (i : Nat) (hi : j.toNatClampNeg = i) (hlt : i < vs.length) (hna : n0 ≤ a) (hp : pc + 1 = pc')
    (K : ∀ T' h', W Z own nm bytes mx rt n0 p l e R s m args below meth c k n T' h' → Wr h h' a i (.int x') → Arv Z h' a kA .int z (vs.set i (.int x')) dv → Go n0 p e below s Q CC NN T' (mkF m pc' Ls rest)) : Go n0 p e below s Q CC NN T (mkF m pc Ls (.int x :: .int j :: .ref a :: rest)) := by
  obtain ⟨vm0, hR, hx, hb, hown, hZ, r1, r2, r3, r4, ⟨L, X, N⟩, eT⟩ := w
  obtain ⟨cl, A, q1, S, N1, H, Gf⟩ := V
  subst hxv
  obtain ⟨T', h', X', e', Wx, st⟩ := stI X hx hZ eT A (j := j) (x := x) (inb_of S hj) (g := mkF m pc Ls (.int x :: .int j :: .ref a :: rest)) rfl rfl (by rw [hb]; exact hd)
  obtain ⟨s₂, q, st', r⟩ := K T' h' ⟨vm0, reb hR (Nat.le_of_eq Wx.size.symm), hx, hb, hown, hZ, r1, r2, r3, r4, ⟨_, X', Fr.snoc X' N hna⟩, e'⟩ (hi ▸ Wx) (Arv.set A q1 S N1 H Gf rfl Wx i hi hlt)
  subst hp
  exact ⟨s₂, q, st _ st', r⟩

theorem gret0 (w : W Z own nm bytes mx none n0 p l e R s m args below meth c k n T h) (hd : decode bytes pc = .ok (.return_, 1)) (hk : k ≤ CC) (hn : n ≤ NN) (hQ : Q none h) : Go n0 p e below s Q CC NN T (mkF m pc Ls []) := by
  obtain ⟨vm0, hR, hx, hb, hown, hZ, r1, r2, r3, r4, ⟨L, X, N⟩, eT⟩ := w
  obtain ⟨k0, hS, hk0⟩ := hR
  obtain ⟨fs, hr, hrun, hended, hend⟩ := X.leaveW hS (by rw [eT]; exact hk0) (v := none) (fun _ => rfl) r4
  refine ⟨_, _, X.returnOut hx r3 (by rw [hb]; exact hd) hr, hrun, hended, _, _, rfl, ⟨N, ?_⟩, hend.1, hend.2.1, hend.2.2.1, hend.2.2.2.mono hk hn⟩
  show Q none T.heap
  rw [eT]; exact hQ
theorem gret {t : FieldType} (w : W Z own nm bytes mx (some t) n0 p l e R s m args below meth c k n T h) {v : Value} {i : Instr} (hd : decode bytes pc = .ok (i, 1)) (hn' : narrow t v = v)
    (hi : (i = .ireturn ∧ (t = .int ∨ t = .boolean ∨ t = .byte ∨ t = .char ∨ t = .short) ∧ ∃ z, v = .int z) ∨ (i = .lreturn ∧ t = .long ∧ ∃ z, v = .long z) ∨ (i = .dreturn ∧ t = .double ∧ ∃ z, v = .double z) ∨ (i = .freturn ∧ t = .float ∧ ∃ z, v = .float z) ∨ (i = .areturn ∧ t.isReference = true ∧ v.isRef = true))
    (hk : k ≤ CC) (hn : n ≤ NN) (hQ : Q (some v) h) : Go n0 p e below s Q CC NN T (mkF m pc Ls (v :: rest)) := by
  obtain ⟨vm0, hR, hx, hb, hown, hZ, r1, r2, r3, r4, ⟨L, X, N⟩, eT⟩ := w
  obtain ⟨k0, hS, hk0⟩ := hR
  obtain ⟨fs, hr, hrun, hended, hend⟩ := X.leaveW hS (by rw [eT]; exact hk0) (v := some v) (fun q => by rw [r3] at q; cases q) r4
  refine ⟨_, _, retOut X hx r3 hn' hi (by rw [hb]; exact hd) hr, hrun, hended, _, _, rfl, ⟨N, ?_⟩, hend.1, hend.2.1, hend.2.2.1, hend.2.2.2.mono hk hn⟩
  show Q (some v) T.heap
  rw [eT]; exact hQ
theorem gretI (w : W Z own nm bytes mx (some .int) n0 p l e R s m args below meth c k n T h) {v : Int32} (hd : decode bytes pc = .ok (.ireturn, 1)) (hk : k ≤ CC) (hn : n ≤ NN) (hQ : Q (some (.int v)) h) : Go n0 p e below s Q CC NN T (mkF m pc Ls (.int v :: rest)) :=
  gret w hd rfl (Or.inl ⟨rfl, Or.inl rfl, _, rfl⟩) hk hn hQ
theorem gretJ (w : W Z own nm bytes mx (some .long) n0 p l e R s m args below meth c k n T h) {v : Int64} (hd : decode bytes pc = .ok (.lreturn, 1)) (hk : k ≤ CC) (hn : n ≤ NN) (hQ : Q (some (.long v)) h) : Go n0 p e below s Q CC NN T (mkF m pc Ls (.long v :: rest)) :=
  gret w hd rfl (Or.inr (Or.inl ⟨rfl, rfl, _, rfl⟩)) hk hn hQ
theorem gretZ (w : W Z own nm bytes mx (some .boolean) n0 p l e R s m args below meth c k n T h) {v : Int32} (hd : decode bytes pc = .ok (.ireturn, 1)) (hv : narrow .boolean (.int v) = .int v) (hk : k ≤ CC) (hn : n ≤ NN) (hQ : Q (some (.int v)) h) : Go n0 p e below s Q CC NN T (mkF m pc Ls (.int v :: rest)) :=
  gret w hd hv (Or.inl ⟨rfl, Or.inr (Or.inl rfl), _, rfl⟩) hk hn hQ
theorem gretB (w : W Z own nm bytes mx (some .byte) n0 p l e R s m args below meth c k n T h) {v : Int32} (hd : decode bytes pc = .ok (.ireturn, 1)) (hv : narrow .byte (.int v) = .int v) (hk : k ≤ CC) (hn : n ≤ NN) (hQ : Q (some (.int v)) h) : Go n0 p e below s Q CC NN T (mkF m pc Ls (.int v :: rest)) :=
  gret w hd hv (Or.inl ⟨rfl, Or.inr (Or.inr (Or.inl rfl)), _, rfl⟩) hk hn hQ
theorem gretA {t : FieldType} (w : W Z own nm bytes mx (some t) n0 p l e R s m args below meth c k n T h) {v : Value} (hd : decode bytes pc = .ok (.areturn, 1)) (ht : t.isReference = true) (hv : v.isRef = true) (hn' : narrow t v = v) (hk : k ≤ CC) (hn : n ≤ NN) (hQ : Q (some v) h) : Go n0 p e below s Q CC NN T (mkF m pc Ls (v :: rest)) :=
  gret w hd hn' (Or.inr (Or.inr (Or.inr (Or.inr ⟨rfl, ht, hv⟩)))) hk hn hQ

theorem gcast (w : W Z own nm bytes mx rt n0 p l e R s m args below meth c k n T h) {index : Nat} {Kc : String} {a : Addr} (hd : decode bytes pc = .ok (.checkcast index, 3)) (w1 : (Jvm.Cond.classLink own index Kc).before a0 Z = true) (F : Ins Z h a Kc true) (hp : pc + 3 = pc')
    (K : ∀ T', W Z own nm bytes mx rt n0 p l e R s m args below meth c k n T' h → Go n0 p e below s Q CC NN T' (mkF m pc' Ls (.ref a :: rest))) : Go n0 p e below s Q CC NN T (mkF m pc Ls (.ref a :: rest)) := by
  obtain ⟨vm0, hR, hx, hb, hown, hZ, r1, r2, r3, r4, ⟨L, X, N⟩, eT⟩ := w
  obtain ⟨T', X', e', st⟩ := castY X hx hZ hown w1 eT F (g := mkF m pc Ls (.ref a :: rest)) rfl rfl (by rw [hb]; exact hd)
  obtain ⟨s₂, q, st', r⟩ := K T' ⟨vm0, hR, hx, hb, hown, hZ, r1, r2, r3, r4, ⟨L, X', N⟩, e'⟩
  subst hp
  exact ⟨s₂, q, st _ st', r⟩
theorem ginstY (w : W Z own nm bytes mx rt n0 p l e R s m args below meth c k n T h) {index : Nat} {Kc : String} {a : Addr} (hd : decode bytes pc = .ok (.instanceof index, 3)) (w1 : (Jvm.Cond.classLink own index Kc).before a0 Z = true) (F : Ins Z h a Kc true) (hp : pc + 3 = pc')
    (K : ∀ T', W Z own nm bytes mx rt n0 p l e R s m args below meth c k n T' h → Go n0 p e below s Q CC NN T' (mkF m pc' Ls (.int 1 :: rest))) : Go n0 p e below s Q CC NN T (mkF m pc Ls (.ref a :: rest)) := by
  obtain ⟨vm0, hR, hx, hb, hown, hZ, r1, r2, r3, r4, ⟨L, X, N⟩, eT⟩ := w
  obtain ⟨T', X', e', st⟩ := instY X hx hZ hown w1 eT F (g := mkF m pc Ls (.ref a :: rest)) rfl rfl (by rw [hb]; exact hd)
  obtain ⟨s₂, q, st', r⟩ := K T' ⟨vm0, hR, hx, hb, hown, hZ, r1, r2, r3, r4, ⟨L, X', N⟩, e'⟩
  subst hp
  exact ⟨s₂, q, st _ st', r⟩

theorem gcallS (w : W Z own nm bytes mx rt n0 p l e R s m args below meth c k n T h) {index : Nat} {y : MethodName} {yb : ByteArray} {ymx : Nat} {yr : Option FieldType} {rm : Room} {as : Array Value} {Q' : Option Value → Heap → Prop} {argsL : List Value} {stk : List Value} {ps : List FieldType} {ro : Option FieldType} {Wt : Nat} (hd : decode bytes pc = .ok (.invokestatic index, 3)) (w1 : (Jvm.Cond.methodLink own index y).before a0 Z = true) (w2 : (Jvm.Cond.static y).before a0 Z = true) (w3 : (Jvm.Cond.initialized y.cls).before a0 Z = true) (w4 : (Jvm.Cond.code y yb ymx yr).before a0 Z = true)
    (hy : y.cls ≠ "java/lang/invoke/MethodHandle" ∧ y.cls ≠ "java/lang/invoke/VarHandle") (hpd : parseMethodDescriptor y.desc = some ⟨ps, ro⟩) (ctr : Ctr l y yb ymx yr rm Z as h n0 Q' []) (has : argsL.toArray = as) (hlen : argsL.length = ps.length) (hst : stk = argsL.reverse ++ rest) (hsz : Ls.size = mx) (hW : (rest.map fun v => v.category).sum ≤ Wt) (hf : rm.frames + 1 ≤ R.frames) (hl : Wt + (ymx + 11) + rm.locals ≤ R.locals) (hc : k + rm.cells ≤ R.cells) (hs : n + rm.slots ≤ R.slots) (hp : pc + 3 = pc')
    (K : ∀ v T' h', W Z own nm bytes mx rt n0 p l e R s m args below meth c (k + rm.cells) (n + rm.slots) T' h' → Q' v h' → Go n0 p e below s Q CC NN T' (mkF m pc' Ls (v.toList ++ rest))) : Go n0 p e below s Q CC NN T (mkF m pc Ls stk) := by
  obtain ⟨vm0, hR, hx, hb, hown, hZ, r1, r2, r3, r4, ⟨L, X, N⟩, eT⟩ := w
  obtain ⟨v, _, ⟨T', L', k', n'⟩, -, X', hS2, hgr, ⟨Lc, hQ, hl1, hc1, hs1⟩, st⟩ := callSS X hx (y := y) hown (mvT hZ w1) (mvT hZ w2) (mvT hZ w3) (mvT hZ w4) hy (backOfS (W := Wt) (Q := fun v h L => Fr n0 L ∧ Q' v h) ctr hZ w4 w3 hf hl) (g := mkF m pc Ls stk) rfl (hsz.trans r1.symm) (argsL := argsL) (rest := rest) (lenOf hpd hlen) hst (by show 2 * 0 + _ ≤ _; omega) (by rw [hb]; exact hd) (fun _ _ => ⟨has, eT, hc, hs⟩)
  dsimp only [Pt.U, Pt.locs, Pt.cells, Pt.slots] at X' st hQ hl1 hc1 hs1 hS2 hgr
  subst hl1 hc1 hs1
  obtain ⟨k0, hS, hk0⟩ := hR
  obtain ⟨X2, hS3, hZ2, hown2⟩ := rebS hS (by rw [eT]; exact hk0) X' hS2 hgr hZ hown
  obtain ⟨s₂, q, st', r⟩ := K v T' T'.heap ⟨T'.vm, ⟨T'.heap.size, hS3, Nat.le_refl _⟩, hx, hb, hown2, hZ2, r1, r2, r3, r4, ⟨_, X2, Fr.app N hQ.1⟩, rfl⟩ hQ.2
  subst hp
  exact ⟨s₂, q, st.trans st', r⟩
theorem gcallN (w : W Z own nm bytes mx rt n0 p l e R s m args below meth c k n T h) {index : Nat} {y : MethodName} {yb : ByteArray} {ymx : Nat} {rm : Room} {as : Array Value} {Q' : Option Value → Heap → Prop} {argsL : List Value} {stk : List Value} {ps : List FieldType} {ro : Option FieldType} {Wt : Nat} {a : Addr} (hd : decode bytes pc = .ok (.invokespecial index, 3)) (w1 : (Jvm.Cond.methodLink own index y).before a0 Z = true) (w2 : (Jvm.Cond.instanceMethod y).before a0 Z = true) (w3 : (Jvm.Cond.initialized y.cls).before a0 Z = true) (w4 : (Jvm.Cond.code y yb ymx none).before a0 Z = true) (hyn : y.name = "<init>")
    (hy : y.cls ≠ "java/lang/invoke/MethodHandle" ∧ y.cls ≠ "java/lang/invoke/VarHandle") (hpd : parseMethodDescriptor y.desc = some ⟨ps, ro⟩) (ctr : Ctr l y yb ymx none rm Z as h n0 Q' []) (has : (.ref a :: argsL).toArray = as) (hlen : argsL.length = ps.length) (hst : stk = argsL.reverse ++ .ref a :: rest) (hsz : Ls.size = mx) (hW : (rest.map fun v => v.category).sum ≤ Wt) (hf : rm.frames + 1 ≤ R.frames) (hl : Wt + (ymx + 11) + rm.locals ≤ R.locals) (hc : k + rm.cells ≤ R.cells) (hs : n + rm.slots ≤ R.slots) (hp : pc + 3 = pc')
    (K : ∀ v T' h', W Z own nm bytes mx rt n0 p l e R s m args below meth c (k + rm.cells) (n + rm.slots) T' h' → Q' v h' → Go n0 p e below s Q CC NN T' (mkF m pc' Ls (v.toList ++ rest))) : Go n0 p e below s Q CC NN T (mkF m pc Ls stk) := by
  obtain ⟨vm0, hR, hx, hb, hown, hZ, r1, r2, r3, r4, ⟨L, X, N⟩, eT⟩ := w
  obtain ⟨v, _, ⟨T', L', k', n'⟩, -, X', hS2, hgr, ⟨Lc, hQ, hl1, hc1, hs1⟩, st⟩ := X.specialBackS hx (y := y) hyn hown (mvT hZ w1) (mvT hZ w2) (mvT hZ w4) hy (backOfS (W := Wt) (Q := fun v h L => Fr n0 L ∧ Q' v h) ctr hZ w4 w3 hf hl) (g := mkF m pc Ls stk) rfl (hsz.trans r1.symm) (Steps.refl _) (a := a) (argsL := argsL) (rest := rest) (lenOf hpd hlen) hst (by show 2 * 0 + _ ≤ _; omega) (by rw [hb]; exact hd) (fun _ _ => ⟨has, eT, hc, hs⟩)
  dsimp only [Pt.U, Pt.locs, Pt.cells, Pt.slots] at X' st hQ hl1 hc1 hs1 hS2 hgr
  subst hl1 hc1 hs1
  obtain ⟨k0, hS, hk0⟩ := hR
  obtain ⟨X2, hS3, hZ2, hown2⟩ := rebS hS (by rw [eT]; exact hk0) X' hS2 hgr hZ hown
  obtain ⟨s₂, q, st', r⟩ := K v T' T'.heap ⟨T'.vm, ⟨T'.heap.size, hS3, Nat.le_refl _⟩, hx, hb, hown2, hZ2, r1, r2, r3, r4, ⟨_, X2, Fr.app N hQ.1⟩, rfl⟩ hQ.2
  subst hp
  exact ⟨s₂, q, st.trans st', r⟩
theorem gcallV (w : W Z own nm bytes mx rt n0 p l e R s m args below meth c k n T h) {index : Nat} {y : MethodName} {yb : ByteArray} {ymx : Nat} {yr : Option FieldType} {rm : Room} {as : Array Value} {Q' : Option Value → Heap → Prop} {argsL : List Value} {stk : List Value} {ps : List FieldType} {ro : Option FieldType} {Wt : Nat} {a : Addr} {C : String} (hd : decode bytes pc = .ok (.invokevirtual index, 3)) (w1 : (Jvm.Cond.methodLink own index y).before a0 Z = true) (w2 : (Jvm.Cond.declares y).before a0 Z = true) (w5 : (Jvm.Cond.selects C y y).before a0 Z = true) (w6 : (Jvm.Cond.instanceMethod y).before a0 Z = true) (w3 : (Jvm.Cond.initialized y.cls).before a0 Z = true) (w4 : (Jvm.Cond.code y yb ymx yr).before a0 Z = true)
    (E : Exa Z h a C) (hC : y.cls = C) (hy : y.cls ≠ "java/lang/invoke/MethodHandle" ∧ y.cls ≠ "java/lang/invoke/VarHandle") (hpd : parseMethodDescriptor y.desc = some ⟨ps, ro⟩) (ctr : Ctr l y yb ymx yr rm Z as h n0 Q' []) (has : (.ref a :: argsL).toArray = as) (hlen : argsL.length = ps.length) (hst : stk = argsL.reverse ++ .ref a :: rest) (hsz : Ls.size = mx) (hW : (rest.map fun v => v.category).sum ≤ Wt) (hf : rm.frames + 1 ≤ R.frames) (hl : Wt + (ymx + 11) + rm.locals ≤ R.locals) (hc : k + rm.cells ≤ R.cells) (hs : n + rm.slots ≤ R.slots) (hp : pc + 3 = pc')
    (K : ∀ v T' h', W Z own nm bytes mx rt n0 p l e R s m args below meth c (k + rm.cells) (n + rm.slots) T' h' → Q' v h' → Go n0 p e below s Q CC NN T' (mkF m pc' Ls (v.toList ++ rest))) : Go n0 p e below s Q CC NN T (mkF m pc Ls stk) := by
  obtain ⟨vm0, hR, hx, hb, hown, hZ, r1, r2, r3, r4, ⟨L, X, N⟩, eT⟩ := w
  obtain ⟨cq, kq, qa, qb, qc⟩ := isOf hZ eT E
  subst hC
  obtain ⟨v, _, ⟨T', L', k', n'⟩, -, X', hS2, hgr, ⟨Lc, hQ, hl1, hc1, hs1⟩, st⟩ := X.virtualBackS hx (y := y) (z := y) hown (mvT hZ w1) (mvT hZ w2) (notFace_of_selects (args := #[]) (mvT hZ w5)) (mvT hZ w5) (mvT hZ w6) hy (backOfS (W := Wt) (Q := fun v h L => Fr n0 L ∧ Q' v h) ctr hZ w4 w3 hf hl) qa qc (g := mkF m pc Ls stk) rfl (hsz.trans r1.symm) (Steps.refl _) (argsL := argsL) (rest := rest) (lenOf hpd hlen) hst (by show 2 * 0 + _ ≤ _; omega) (by rw [hb]; exact hd) (fun _ _ => ⟨has, eT, hc, hs⟩)
  dsimp only [Pt.U, Pt.locs, Pt.cells, Pt.slots] at X' st hQ hl1 hc1 hs1 hS2 hgr
  subst hl1 hc1 hs1
  obtain ⟨k0, hS, hk0⟩ := hR
  obtain ⟨X2, hS3, hZ2, hown2⟩ := rebS hS (by rw [eT]; exact hk0) X' hS2 hgr hZ hown
  obtain ⟨s₂, q, st', r⟩ := K v T' T'.heap ⟨T'.vm, ⟨T'.heap.size, hS3, Nat.le_refl _⟩, hx, hb, hown2, hZ2, r1, r2, r3, r4, ⟨_, X2, Fr.app N hQ.1⟩, rfl⟩ hQ.2
  subst hp
  exact ⟨s₂, q, st.trans st', r⟩
theorem gaaload (w : W Z own nm bytes mx rt n0 p l e R s m args below meth c k n T h) {a : Addr} {cl : Cell} {ty : FieldType} {j : Int32} {v : Value} (hd : decode bytes pc = .ok (.aaload, 1)) (A : Arr Z h a cl ty) (hty : ty.isReference = true) (hin : ¬ (j < 0 ∨ cl.slots.size ≤ j.toNatClampNeg)) (hv : cl.slots[j.toNatClampNeg]? = some v) (hp : pc + 1 = pc') (K : Go n0 p e below s Q CC NN T (mkF m pc' Ls (v :: rest))) : Go n0 p e below s Q CC NN T (mkF m pc Ls (.int j :: .ref a :: rest)) := by
  obtain ⟨vm0, hR, hx, hb, hown, hZ, r1, r2, r3, r4, ⟨L, X, N⟩, eT⟩ := w
  obtain ⟨s₂, q, st', r⟩ := K
  subst hp
  exact ⟨s₂, q, X.aaload hx (j := j) (v := v) (by rw [eT]; exact A.1) (State.isArrayOf_alike hZ.alike A.2.1) hty A.2.2 hin hv (g := mkF m pc Ls (.int j :: .ref a :: rest)) rfl rfl (by rw [hb]; exact hd) _ st', r⟩
theorem glenA (w : W Z own nm bytes mx rt n0 p l e R s m args below meth c k n T h) {a : Addr} {cl : Cell} {ty : FieldType} {z : Int32} (hd : decode bytes pc = .ok (.arraylength, 1)) (A : Arr Z h a cl ty) (hz : cl.slots.size.toInt32 = z) (hp : pc + 1 = pc') (K : Go n0 p e below s Q CC NN T (mkF m pc' Ls (.int z :: rest))) : Go n0 p e below s Q CC NN T (mkF m pc Ls (.ref a :: rest)) := by
  obtain ⟨vm0, hR, hx, hb, hown, hZ, r1, r2, r3, r4, ⟨L, X, N⟩, eT⟩ := w
  obtain ⟨s₂, q, st', r⟩ := K
  subst hp hz
  exact ⟨s₂, q, X.arraylength hx (by rw [eT]; exact A.1) (State.isArrayOf_alike hZ.alike A.2.1) (g := mkF m pc Ls (.ref a :: rest)) rfl rfl (by rw [hb]; exact hd) _ st', r⟩
theorem gclone (w : W Z own nm bytes mx rt n0 p l e R s m args below meth c k n T h) {index Wt cap : Nat} {ad : String} {a : Addr} {cl : Cell} {ty : FieldType} (hd : decode bytes pc = .ok (.invokevirtual index, 3)) (w1 : (Jvm.Cond.methodLink own index ⟨ad, "clone", "()Ljava/lang/Object;"⟩).before a0 Z = true) (w2 : (Jvm.Cond.sameMethod ad "java/lang/Object" "clone" "()Ljava/lang/Object;").before a0 Z = true) (w3 : (Jvm.Cond.native ⟨"java/lang/Object", "clone", "()Ljava/lang/Object;"⟩).before a0 Z = true)
    (w4 : (Jvm.Cond.instanceMethod ⟨"java/lang/Object", "clone", "()Ljava/lang/Object;"⟩).before a0 Z = true) (w5 : (Jvm.Cond.selects ad ⟨ad, "clone", "()Ljava/lang/Object;"⟩ ⟨"java/lang/Object", "clone", "()Ljava/lang/Object;"⟩).before a0 Z = true) (w6 : (Jvm.Cond.castable ad "java/lang/Cloneable").before a0 Z = true)
    (A : Arr Z h a cl ty) (E : Exa Z h a ad) (F : FitC Z cl) (hsz : Ls.size = mx) (hf : 1 ≤ R.frames) (hW : (rest.map fun v => v.category).sum ≤ Wt) (hl : Wt + 14 ≤ R.locals) (hcap : cl.slots.size ≤ cap) (hc : k + 1 ≤ R.cells) (hsl : n + cap ≤ R.slots) (hp : pc + 3 = pc')
    (K : ∀ T' h' a', h.size = a' → W Z own nm bytes mx rt n0 p l e R s m args below meth c (k + 1) (n + cap) T' h' → Ext h h' → Arr Z h' a' (cloneOf cl) ty → Exa Z h' a' ad → Go n0 p e below s Q CC NN T' (mkF m pc' Ls (.ref a' :: rest))) : Go n0 p e below s Q CC NN T (mkF m pc Ls (.ref a :: rest)) := by
  obtain ⟨vm0, hR, hx, hb, hown, hZ, r1, r2, r3, r4, ⟨L, X, N⟩, eT⟩ := w
  obtain ⟨T', h', X', e', Ex, A', E', st⟩ := cloneA X hx hZ hown w1 w2 w3 w4 w5 w6 eT A E F (g := mkF m pc Ls (.ref a :: rest)) rfl (hsz.trans r1.symm) rfl (by rw [hb]; exact hd) hf (W := Wt) (by show 2 * 0 + _ ≤ _; omega) hl hcap hc hsl
  obtain ⟨s₂, q, st', r⟩ := K T' h' _ rfl ⟨vm0, reb hR Ex.1, hx, hb, hown, hZ, r1, r2, r3, r4, ⟨_, X', N⟩, e'⟩ Ex A' E'
  subst hp
  exact ⟨s₂, q, st _ st', r⟩
theorem ref_cat {v : Value} (h : v.isRef = true) : v.category = 1 := by
  rcases ref_cases h with rfl | ⟨a, rfl⟩ <;> rfl
theorem metGoH {y : MethodName} {rm : Room} {as : Array Value} {ws : List Jvm.Cond} (hpn : plainFor y = true) (hef : ∀ m, entryFrame m as mx = mkF m 0 Ls [])
    (H : ∀ (p : Program) (e : Env) (s : State) (m : MethodId) (below : List Frame) (meth : Method) (c : Code) (T : State), W Z y.cls y.name bytes mx rt n0 p l e rm s m as below meth c 0 0 T h → s.heap = h → Go n0 p e below s Q rm.cells rm.slots T (mkF m 0 Ls [])) : Ctr l y bytes mx rt rm Z as h n0 Q ws := by
  refine MetFree.of_bodySF hpn hisR ?_
  intro p e s m args below meth c s₁ Bd hml0 hP hK
  obtain ⟨rfl, hZ, hh⟩ := hP
  have e0 : s₁.heap = h := by rw [← hh, Bd.state]; rfl
  obtain ⟨s₂, o, st, r⟩ := H p e s m below meth c s₁ ⟨s.vm, ⟨0, (State.WarmedH.refl s).since 0, Nat.zero_le _⟩, Bd.exec, Bd.bytes, findClass_of_methodNamed Bd.named, hZ, hml0, (name_of_methodNamed Bd.named Bd.method).1, Bd.returns, Bd.notSynchronized, ⟨[], Stand.of_body Bd, Fr.nil n0⟩, e0⟩ hh
  exact ⟨s₂, o, castTop (hef m) st, r⟩
theorem ginst0 (w : W Z own nm bytes mx rt n0 p l e R s m args below meth c k n T h) {index : Nat} (hd : decode bytes pc = .ok (.instanceof index, 3)) (hp : pc + 3 = pc') (K : Go n0 p e below s Q CC NN T (mkF m pc' Ls (.int 0 :: rest))) : Go n0 p e below s Q CC NN T (mkF m pc Ls (.null :: rest)) := by
  obtain ⟨vm0, -, hx, hb, -, -, -, -, -, -, ⟨L, X, -⟩, -⟩ := w
  obtain ⟨s₂, q, st, r⟩ := K
  subst hb hp
  exact ⟨s₂, q, X.instanceofNull hx (g := mkF m pc Ls (.null :: rest)) rfl rfl hd _ st, r⟩
theorem ginstN (w : W Z own nm bytes mx rt n0 p l e R s m args below meth c k n T h) (hs : s.heap = h) {index : Nat} {Kc C : String} {a : Addr} (hd : decode bytes pc = .ok (.instanceof index, 3)) (w1 : (Jvm.Cond.classLink own index Kc).before a0 Z = true) (F : Ins Z h a Kc false) (E : Exa Z h a C) (hp : pc + 3 = pc')
    (K : ∀ T', W Z own nm bytes mx rt n0 p l e R s m args below meth c k n T' h → Go n0 p e below s Q CC NN T' (mkF m pc' Ls (.int 0 :: rest))) : Go n0 p e below s Q CC NN T (mkF m pc Ls (.ref a :: rest)) := by
  obtain ⟨vm0, hR, hx, hb, hown, hZ, r1, r2, r3, r4, ⟨L, X, N⟩, eT⟩ := w
  obtain ⟨T', X', e', st⟩ := instN X hx hZ hown w1 eT (hs ▸ F) (hs ▸ E) (g := mkF m pc Ls (.ref a :: rest)) rfl rfl (by rw [hb]; exact hd)
  obtain ⟨s₂, q, st', r⟩ := K T' ⟨vm0, hR, hx, hb, hown, hZ, r1, r2, r3, r4, ⟨L, X', N⟩, e'⟩
  subst hp
  exact ⟨s₂, q, st _ st', r⟩
theorem gifnullV (w : W Z own nm bytes mx rt n0 p l e R s m args below meth c k n T h) {v : Value} {o : Int} {pt pf : Nat} (hd : decode bytes pc = .ok (.ifnull o, 3)) (ho : 0 ≤ (pc : Int) + o) (ht : ((pc : Int) + o).toNat = pt) (hf : pc + 3 = pf) (hv : v.isRef = true) (Kt : v = .null → Go n0 p e below s Q CC NN T (mkF m pt Ls rest)) (Kf : ¬ v = .null → Go n0 p e below s Q CC NN T (mkF m pf Ls rest)) : Go n0 p e below s Q CC NN T (mkF m pc Ls (v :: rest)) := by
  rcases ref_cases hv with rfl | ⟨a, rfl⟩
  · exact gifnullY w hd ho ht (Kt rfl)
  · exact gifnullN w hd hf (Kf nofun)
theorem wmono (w : W Z own nm bytes mx rt n0 p l e R s m args below meth c k n T h) {k' n' : Nat} (hk : k ≤ k') (hn : n ≤ n') : W Z own nm bytes mx rt n0 p l e R s m args below meth c k' n' T h := by
  obtain ⟨vm0, hR, hx, hb, hown, hZ, r1, r2, r3, r4, ⟨L, X, N⟩, eT⟩ := w
  exact ⟨vm0, hR, hx, hb, hown, hZ, r1, r2, r3, r4, ⟨L, ⟨X.admits, X.cas, X.clock, X.frames, X.room, X.hears, X.method, X.code, X.here, X.tail, X.warmed, X.limits, X.bytes, X.same.mono hk hn⟩, N⟩, eT⟩
theorem gldcS (w : W Z own nm bytes mx rt n0 p l e R s m args below meth c k n T h) {index nn : Nat} {text : String} (hd : decode bytes pc = .ok (.ldc index, 2)) (w1 : (Jvm.Cond.stringLink own index text).before a0 Z = true) (wS : ∀ a ∈ Bundle.stringAtoms, a.before a0 Z = true) (hn : 4 * text.toList.length ≤ nn) (hbig : nn ≤ 536870912) (hc : k + 2 ≤ R.cells) (hl : n + (nn + 4) ≤ R.slots) (hp : pc + 2 = pc')
    (K : ∀ a T' h', W Z own nm bytes mx rt n0 p l e R s m args below meth c (k + 2) (n + (nn + 4)) T' h' → Ext h h' → Go n0 p e below s Q CC NN T' (mkF m pc' Ls (.ref a :: rest))) : Go n0 p e below s Q CC NN T (mkF m pc Ls rest) := by
  obtain ⟨vm0, hR, hx, hb, hown, hZ, r1, r2, r3, r4, ⟨L, X, N⟩, eT⟩ := w
  obtain ⟨k0, hS, hk0⟩ := hR
  obtain ⟨a, T', h', k1, X', e', Ex, hS', hk1, hZ', hown', st⟩ := ldcS X hx hZ hown w1 wS eT hS hk0 (g := mkF m pc Ls rest) rfl (by rw [hb]; exact hd) hn hbig hc hl
  obtain ⟨s₂, q, st', r⟩ := K a T' h' ⟨T'.vm, ⟨k1, hS', hk1⟩, hx, hb, hown', hZ', r1, r2, r3, r4, ⟨_, X', N⟩, e'⟩ Ex
  subst hp
  exact ⟨s₂, q, st _ st', r⟩
theorem own_bb (y : Int32) : y.toInt8.toInt32.toInt8.toInt32 = y.toInt8.toInt32 := by rw [Int8.toInt8_toInt32]
end GoKit

theorem d1_0 : decode prog_31_method_1_code 0 = .ok (.aload_n 0, 1) := by decide +kernel
theorem d1_1 : decode prog_31_method_1_code 1 = .ok (.invokespecial 1, 3) := by decide +kernel
theorem d1_4 : decode prog_31_method_1_code 4 = .ok (.aload_n 0, 1) := by decide +kernel
theorem d1_5 : decode prog_31_method_1_code 5 = .ok (.aload_n 1, 1) := by decide +kernel
theorem d1_6 : decode prog_31_method_1_code 6 = .ok (.putfield 7, 3) := by decide +kernel
theorem d1_9 : decode prog_31_method_1_code 9 = .ok (.aload_n 0, 1) := by decide +kernel
theorem d1_10 : decode prog_31_method_1_code 10 = .ok (.aload_n 2, 1) := by decide +kernel
theorem d1_11 : decode prog_31_method_1_code 11 = .ok (.putfield 13, 3) := by decide +kernel
theorem d1_14 : decode prog_31_method_1_code 14 = .ok (.aload_n 0, 1) := by decide +kernel
theorem d1_15 : decode prog_31_method_1_code 15 = .ok (.aload_n 3, 1) := by decide +kernel
theorem d1_16 : decode prog_31_method_1_code 16 = .ok (.putfield 16, 3) := by decide +kernel
theorem d1_19 : decode prog_31_method_1_code 19 = .ok (.aload_n 0, 1) := by decide +kernel
theorem d1_20 : decode prog_31_method_1_code 20 = .ok (.aload 4, 2) := by decide +kernel
theorem d1_22 : decode prog_31_method_1_code 22 = .ok (.putfield 19, 3) := by decide +kernel
theorem d1_25 : decode prog_31_method_1_code 25 = .ok (.aload_n 0, 1) := by decide +kernel
theorem d1_26 : decode prog_31_method_1_code 26 = .ok (.aload 5, 2) := by decide +kernel
theorem d1_28 : decode prog_31_method_1_code 28 = .ok (.putfield 22, 3) := by decide +kernel
theorem d1_31 : decode prog_31_method_1_code 31 = .ok (.aload_n 0, 1) := by decide +kernel
theorem d1_32 : decode prog_31_method_1_code 32 = .ok (.aload 6, 2) := by decide +kernel
theorem d1_34 : decode prog_31_method_1_code 34 = .ok (.putfield 26, 3) := by decide +kernel
theorem d1_37 : decode prog_31_method_1_code 37 = .ok (.return_, 1) := by decide +kernel
theorem pn_d1 : plainFor (⟨"com/example/kindred/kindred/index/SongTag", "<init>", "(Ljava/lang/String;Ljava/lang/String;Ljava/lang/String;Ljava/lang/String;Ljava/lang/Long;Ljava/lang/Long;)V"⟩ : MethodName) = true := by first | (refine plainFor_of_name ?_; simp [plainName, overriddenIn]; done) | decide +kernel
theorem pd_d1 : parseMethodDescriptor "(Ljava/lang/String;Ljava/lang/String;Ljava/lang/String;Ljava/lang/String;Ljava/lang/Long;Ljava/lang/Long;)V" = some ⟨[(.object "java/lang/String"), (.object "java/lang/String"), (.object "java/lang/String"), (.object "java/lang/String"), (.object "java/lang/Long"), (.object "java/lang/Long")], none⟩ := by decide +kernel
theorem d4_0 : decode prog_31_method_2_code 0 = .ok (.aload_n 0, 1) := by decide +kernel
theorem d4_1 : decode prog_31_method_2_code 1 = .ok (.getfield 7, 3) := by decide +kernel
theorem d4_4 : decode prog_31_method_2_code 4 = .ok (.ifnull 42, 3) := by decide +kernel
theorem d4_7 : decode prog_31_method_2_code 7 = .ok (.aload_n 0, 1) := by decide +kernel
theorem d4_8 : decode prog_31_method_2_code 8 = .ok (.getfield 13, 3) := by decide +kernel
theorem d4_11 : decode prog_31_method_2_code 11 = .ok (.ifnull 35, 3) := by decide +kernel
theorem d4_14 : decode prog_31_method_2_code 14 = .ok (.aload_n 0, 1) := by decide +kernel
theorem d4_15 : decode prog_31_method_2_code 15 = .ok (.getfield 16, 3) := by decide +kernel
theorem d4_18 : decode prog_31_method_2_code 18 = .ok (.ifnull 28, 3) := by decide +kernel
theorem d4_21 : decode prog_31_method_2_code 21 = .ok (.aload_n 0, 1) := by decide +kernel
theorem d4_22 : decode prog_31_method_2_code 22 = .ok (.getfield 19, 3) := by decide +kernel
theorem d4_25 : decode prog_31_method_2_code 25 = .ok (.ifnull 21, 3) := by decide +kernel
theorem d4_28 : decode prog_31_method_2_code 28 = .ok (.aload_n 0, 1) := by decide +kernel
theorem d4_29 : decode prog_31_method_2_code 29 = .ok (.getfield 22, 3) := by decide +kernel
theorem d4_32 : decode prog_31_method_2_code 32 = .ok (.ifnull 14, 3) := by decide +kernel
theorem d4_35 : decode prog_31_method_2_code 35 = .ok (.aload_n 0, 1) := by decide +kernel
theorem d4_36 : decode prog_31_method_2_code 36 = .ok (.getfield 26, 3) := by decide +kernel
theorem d4_39 : decode prog_31_method_2_code 39 = .ok (.ifnull 7, 3) := by decide +kernel
theorem d4_42 : decode prog_31_method_2_code 42 = .ok (.iconst 1, 1) := by decide +kernel
theorem d4_43 : decode prog_31_method_2_code 43 = .ok (.goto 4, 3) := by decide +kernel
theorem d4_46 : decode prog_31_method_2_code 46 = .ok (.iconst 0, 1) := by decide +kernel
theorem d4_47 : decode prog_31_method_2_code 47 = .ok (.ireturn, 1) := by decide +kernel
theorem pn_d4 : plainFor (⟨"com/example/kindred/kindred/index/SongTag", "isComplete", "()Z"⟩ : MethodName) = true := by first | (refine plainFor_of_name ?_; simp [plainName, overriddenIn]; done) | decide +kernel
theorem pd_d4 : parseMethodDescriptor "()Z" = some ⟨[], some .boolean⟩ := by decide +kernel
theorem d2_0 : decode jdk_30_method_1_code 0 = .ok (.aload_n 0, 1) := by decide +kernel
theorem d2_1 : decode jdk_30_method_1_code 1 = .ok (.invokespecial 1, 3) := by decide +kernel
theorem d2_4 : decode jdk_30_method_1_code 4 = .ok (.return_, 1) := by decide +kernel
theorem pn_d2 : plainFor (⟨"java/lang/Record", "<init>", "()V"⟩ : MethodName) = true := by first | (refine plainFor_of_name ?_; simp [plainName, overriddenIn]; done) | decide +kernel
theorem pd_d2 : parseMethodDescriptor "()V" = some ⟨[], none⟩ := by decide +kernel
theorem d5_0 : decode method_2_code 0 = .ok (.iload_n 0, 1) := by decide +kernel
theorem d5_1 : decode method_2_code 1 = .ok (.iload_n 1, 1) := by decide +kernel
theorem d5_2 : decode method_2_code 2 = .ok (.iushr, 1) := by decide +kernel
theorem d5_3 : decode method_2_code 3 = .ok (.istore_n 2, 1) := by decide +kernel
theorem d5_4 : decode method_2_code 4 = .ok (.iload_n 2, 1) := by decide +kernel
theorem d5_5 : decode method_2_code 5 = .ok (.sipush 256, 3) := by decide +kernel
theorem d5_8 : decode method_2_code 8 = .ok (.iand, 1) := by decide +kernel
theorem d5_9 : decode method_2_code 9 = .ok (.ifCond .eq 6, 3) := by decide +kernel
theorem d5_12 : decode method_2_code 12 = .ok (.ldc 7, 2) := by decide +kernel
theorem d5_14 : decode method_2_code 14 = .ok (.areturn, 1) := by decide +kernel
theorem d5_15 : decode method_2_code 15 = .ok (.iload_n 2, 1) := by decide +kernel
theorem d5_16 : decode method_2_code 16 = .ok (.sipush 255, 3) := by decide +kernel
theorem d5_19 : decode method_2_code 19 = .ok (.iand, 1) := by decide +kernel
theorem d5_20 : decode method_2_code 20 = .ok (.i2c, 1) := by decide +kernel
theorem d5_21 : decode method_2_code 21 = .ok (.invokestatic 9, 3) := by decide +kernel
theorem d5_24 : decode method_2_code 24 = .ok (.areturn, 1) := by decide +kernel
theorem pn_d5 : plainFor (⟨"com/example/kindred/kindred/index/SongTagIsCompletePinLaw", "str", "(II)Ljava/lang/String;"⟩ : MethodName) = true := by first | (refine plainFor_of_name ?_; simp [plainName, overriddenIn]; done) | decide +kernel
theorem pd_d5 : parseMethodDescriptor "(II)Ljava/lang/String;" = some ⟨[.int, .int], some (.object "java/lang/String")⟩ := by decide +kernel
theorem d6_0 : decode jdk_42_method_139_code 0 = .ok (.getstatic 38, 3) := by decide +kernel
theorem d6_3 : decode jdk_42_method_139_code 3 = .ok (.ifCond .eq 23, 3) := by decide +kernel
theorem d6_6 : decode jdk_42_method_139_code 6 = .ok (.iload_n 0, 1) := by decide +kernel
theorem d6_7 : decode jdk_42_method_139_code 7 = .ok (.invokestatic 1015, 3) := by decide +kernel
theorem d6_10 : decode jdk_42_method_139_code 10 = .ok (.ifCond .eq 16, 3) := by decide +kernel
theorem d6_13 : decode jdk_42_method_139_code 13 = .ok (.new 10, 3) := by decide +kernel
theorem d6_16 : decode jdk_42_method_139_code 16 = .ok (.dup, 1) := by decide +kernel
theorem d6_17 : decode jdk_42_method_139_code 17 = .ok (.iload_n 0, 1) := by decide +kernel
theorem d6_18 : decode jdk_42_method_139_code 18 = .ok (.invokestatic 1018, 3) := by decide +kernel
theorem d6_21 : decode jdk_42_method_139_code 21 = .ok (.iconst 0, 1) := by decide +kernel
theorem d6_22 : decode jdk_42_method_139_code 22 = .ok (.invokespecial 209, 3) := by decide +kernel
theorem d6_25 : decode jdk_42_method_139_code 25 = .ok (.areturn, 1) := by decide +kernel
theorem d6_26 : decode jdk_42_method_139_code 26 = .ok (.new 10, 3) := by decide +kernel
theorem d6_29 : decode jdk_42_method_139_code 29 = .ok (.dup, 1) := by decide +kernel
theorem d6_30 : decode jdk_42_method_139_code 30 = .ok (.iload_n 0, 1) := by decide +kernel
theorem d6_31 : decode jdk_42_method_139_code 31 = .ok (.invokestatic 1021, 3) := by decide +kernel
theorem d6_34 : decode jdk_42_method_139_code 34 = .ok (.iconst 1, 1) := by decide +kernel
theorem d6_35 : decode jdk_42_method_139_code 35 = .ok (.invokespecial 209, 3) := by decide +kernel
theorem d6_38 : decode jdk_42_method_139_code 38 = .ok (.areturn, 1) := by decide +kernel
theorem pn_d6 : plainFor (⟨"java/lang/String", "valueOf", "(C)Ljava/lang/String;"⟩ : MethodName) = true := by first | (refine plainFor_of_name ?_; simp [plainName, overriddenIn]; done) | decide +kernel
theorem pd_d6 : parseMethodDescriptor "(C)Ljava/lang/String;" = some ⟨[.char], some (.object "java/lang/String")⟩ := by decide +kernel
theorem d7_0 : decode jdk_43_method_3_code 0 = .ok (.iload_n 0, 1) := by decide +kernel
theorem d7_1 : decode jdk_43_method_3_code 1 = .ok (.sipush 255, 3) := by decide +kernel
theorem d7_4 : decode jdk_43_method_3_code 4 = .ok (.if_icmp .gt 7, 3) := by decide +kernel
theorem d7_7 : decode jdk_43_method_3_code 7 = .ok (.iconst 1, 1) := by decide +kernel
theorem d7_8 : decode jdk_43_method_3_code 8 = .ok (.goto 4, 3) := by decide +kernel
theorem d7_11 : decode jdk_43_method_3_code 11 = .ok (.iconst 0, 1) := by decide +kernel
theorem d7_12 : decode jdk_43_method_3_code 12 = .ok (.ireturn, 1) := by decide +kernel
theorem pn_d7 : plainFor (⟨"java/lang/StringLatin1", "canEncode", "(C)Z"⟩ : MethodName) = true := by first | (refine plainFor_of_name ?_; simp [plainName, overriddenIn]; done) | decide +kernel
theorem pd_d7 : parseMethodDescriptor "(C)Z" = some ⟨[.char], some .boolean⟩ := by decide +kernel
theorem d8_0 : decode jdk_43_method_46_code 0 = .ok (.iconst 1, 1) := by decide +kernel
theorem d8_1 : decode jdk_43_method_46_code 1 = .ok (.newarray .byte, 2) := by decide +kernel
theorem d8_3 : decode jdk_43_method_46_code 3 = .ok (.dup, 1) := by decide +kernel
theorem d8_4 : decode jdk_43_method_46_code 4 = .ok (.iconst 0, 1) := by decide +kernel
theorem d8_5 : decode jdk_43_method_46_code 5 = .ok (.iload_n 0, 1) := by decide +kernel
theorem d8_6 : decode jdk_43_method_46_code 6 = .ok (.i2b, 1) := by decide +kernel
theorem d8_7 : decode jdk_43_method_46_code 7 = .ok (.bastore, 1) := by decide +kernel
theorem d8_8 : decode jdk_43_method_46_code 8 = .ok (.areturn, 1) := by decide +kernel
theorem pn_d8 : plainFor (⟨"java/lang/StringLatin1", "toBytes", "(C)[B"⟩ : MethodName) = true := by first | (refine plainFor_of_name ?_; simp [plainName, overriddenIn]; done) | decide +kernel
theorem pd_d8 : parseMethodDescriptor "(C)[B" = some ⟨[.char], some (.array .byte)⟩ := by decide +kernel
theorem d9_0 : decode jdk_42_method_151_code 0 = .ok (.aload_n 0, 1) := by decide +kernel
theorem d9_1 : decode jdk_42_method_151_code 1 = .ok (.invokespecial 1, 3) := by decide +kernel
theorem d9_4 : decode jdk_42_method_151_code 4 = .ok (.aload_n 0, 1) := by decide +kernel
theorem d9_5 : decode jdk_42_method_151_code 5 = .ok (.aload_n 1, 1) := by decide +kernel
theorem d9_6 : decode jdk_42_method_151_code 6 = .ok (.putfield 9, 3) := by decide +kernel
theorem d9_9 : decode jdk_42_method_151_code 9 = .ok (.aload_n 0, 1) := by decide +kernel
theorem d9_10 : decode jdk_42_method_151_code 10 = .ok (.iload_n 2, 1) := by decide +kernel
theorem d9_11 : decode jdk_42_method_151_code 11 = .ok (.putfield 15, 3) := by decide +kernel
theorem d9_14 : decode jdk_42_method_151_code 14 = .ok (.return_, 1) := by decide +kernel
theorem pn_d9 : plainFor (⟨"java/lang/String", "<init>", "([BB)V"⟩ : MethodName) = true := by first | (refine plainFor_of_name ?_; simp [plainName, overriddenIn]; done) | decide +kernel
theorem pd_d9 : parseMethodDescriptor "([BB)V" = some ⟨[(.array .byte), .byte], none⟩ := by decide +kernel
theorem d12_0 : decode jdk_18_method_1_code 0 = .ok (.aload_n 0, 1) := by decide +kernel
theorem d12_1 : decode jdk_18_method_1_code 1 = .ok (.invokespecial 1, 3) := by decide +kernel
theorem d12_4 : decode jdk_18_method_1_code 4 = .ok (.return_, 1) := by decide +kernel
theorem pn_d12 : plainFor (⟨"java/lang/Number", "<init>", "()V"⟩ : MethodName) = true := by first | (refine plainFor_of_name ?_; simp [plainName, overriddenIn]; done) | decide +kernel
theorem pd_d12 : parseMethodDescriptor "()V" = some ⟨[], none⟩ := by decide +kernel
theorem d11_0 : decode jdk_35_method_26_code 0 = .ok (.aload_n 0, 1) := by decide +kernel
theorem d11_1 : decode jdk_35_method_26_code 1 = .ok (.invokespecial 270, 3) := by decide +kernel
theorem d11_4 : decode jdk_35_method_26_code 4 = .ok (.aload_n 0, 1) := by decide +kernel
theorem d11_5 : decode jdk_35_method_26_code 5 = .ok (.lload_n 1, 1) := by decide +kernel
theorem d11_6 : decode jdk_35_method_26_code 6 = .ok (.putfield 273, 3) := by decide +kernel
theorem d11_9 : decode jdk_35_method_26_code 9 = .ok (.return_, 1) := by decide +kernel
theorem pn_d11 : plainFor (⟨"java/lang/Long", "<init>", "(J)V"⟩ : MethodName) = true := by first | (refine plainFor_of_name ?_; simp [plainName, overriddenIn]; done) | decide +kernel
theorem pd_d11 : parseMethodDescriptor "(J)V" = some ⟨[.long], none⟩ := by decide +kernel
theorem d10_0 : decode jdk_35_method_24_code 0 = .ok (.sipush 128, 3) := by decide +kernel
theorem d10_3 : decode jdk_35_method_24_code 3 = .ok (.istore_n 2, 1) := by decide +kernel
theorem d10_4 : decode jdk_35_method_24_code 4 = .ok (.lload_n 0, 1) := by decide +kernel
theorem d10_5 : decode jdk_35_method_24_code 5 = .ok (.ldc2_w 230, 3) := by decide +kernel
theorem d10_8 : decode jdk_35_method_24_code 8 = .ok (.lcmp, 1) := by decide +kernel
theorem d10_9 : decode jdk_35_method_24_code 9 = .ok (.ifCond .lt 22, 3) := by decide +kernel
theorem d10_12 : decode jdk_35_method_24_code 12 = .ok (.lload_n 0, 1) := by decide +kernel
theorem d10_13 : decode jdk_35_method_24_code 13 = .ok (.ldc2_w 232, 3) := by decide +kernel
theorem d10_16 : decode jdk_35_method_24_code 16 = .ok (.lcmp, 1) := by decide +kernel
theorem d10_17 : decode jdk_35_method_24_code 17 = .ok (.ifCond .gt 14, 3) := by decide +kernel
theorem d10_20 : decode jdk_35_method_24_code 20 = .ok (.getstatic 234, 3) := by decide +kernel
theorem d10_23 : decode jdk_35_method_24_code 23 = .ok (.lload_n 0, 1) := by decide +kernel
theorem d10_24 : decode jdk_35_method_24_code 24 = .ok (.l2i, 1) := by decide +kernel
theorem d10_25 : decode jdk_35_method_24_code 25 = .ok (.sipush 128, 3) := by decide +kernel
theorem d10_28 : decode jdk_35_method_24_code 28 = .ok (.iadd, 1) := by decide +kernel
theorem d10_29 : decode jdk_35_method_24_code 29 = .ok (.aaload, 1) := by decide +kernel
theorem d10_30 : decode jdk_35_method_24_code 30 = .ok (.areturn, 1) := by decide +kernel
theorem d10_31 : decode jdk_35_method_24_code 31 = .ok (.new 1, 3) := by decide +kernel
theorem d10_34 : decode jdk_35_method_24_code 34 = .ok (.dup, 1) := by decide +kernel
theorem d10_35 : decode jdk_35_method_24_code 35 = .ok (.lload_n 0, 1) := by decide +kernel
theorem d10_36 : decode jdk_35_method_24_code 36 = .ok (.invokespecial 240, 3) := by decide +kernel
theorem d10_39 : decode jdk_35_method_24_code 39 = .ok (.areturn, 1) := by decide +kernel
theorem pn_d10 : plainFor (⟨"java/lang/Long", "valueOf", "(J)Ljava/lang/Long;"⟩ : MethodName) = true := by first | (refine plainFor_of_name ?_; simp [plainName, overriddenIn]; done) | decide +kernel
theorem pd_d10 : parseMethodDescriptor "(J)Ljava/lang/Long;" = some ⟨[.long], some (.object "java/lang/Long")⟩ := by decide +kernel
theorem pn_at0 : plainName "com/example/kindred/kindred/index/SongTagIsCompletePinLaw" = true := by first | (simp [plainName, overriddenIn]; done) | decide +kernel
theorem pn_at : plainFor x = true := plainFor_of_name pn_at0
variable {p : Program} {l : Launch} {e : Env} {s : State} {m : MethodId} {args : Array Value} {below : List Frame} {meth : Method} {c : Code} {T : State} {Z : State} {n0 : Nat} {h : Heap} {a0 : Array Value}
theorem own_et {h1 h2 h3 : Heap} (E : Ext h1 h2) (E' : Ext h2 h3) : Ext h1 h3 := ⟨Nat.le_trans E.1 E'.1, fun a c q => E'.2 a c (E.2 a c q)⟩
theorem own_er (h : Heap) : Ext h h := ⟨Nat.le_refl _, fun _ _ q => q⟩
theorem own_ek {h1 h2 h3 : Heap} {a : Addr} (E : Ext h1 h2) (K : Keep h2 h3 [a]) (q : h1.size ≤ a) : Ext h1 h3 :=
  ⟨Nat.le_trans E.1 K.1, fun x c r => K.2.1 x c (E.2 x c r) (fun z => by cases List.mem_singleton.mp z; exact absurd (Array.getElem?_eq_some_iff.mp r).1 (Nat.not_lt.mpr q))⟩
theorem own_ew {h1 h2 h3 : Heap} {a : Addr} {sl : Nat} {v : Value} (E : Ext h1 h2) (K : Wr h2 h3 a sl v) (q : h1.size ≤ a) : Ext h1 h3 := own_ek E (Keep.of_wr K) q
def own_LC (Z : State) (h : Heap) : Prop := ∃ aC cl, Sta Z h "java/lang/Long$LongCache" "cache" "[Ljava/lang/Long;" (.ref aC) ∧ Arr Z h aC cl (.object "java/lang/Long") ∧ cl.slots.size = 256 ∧ ∀ j, j < 256 → ∃ x, cl.slots[j]? = some (.ref x) ∧ Exa Z h x "java/lang/Long"
theorem own_LC_ext {h' : Heap} (H : own_LC Z h) (E : Ext h h') : own_LC Z h' := by
  obtain ⟨aC, cl, a, b, c, d⟩ := H
  refine ⟨aC, cl, a.ext E, b.ext E, c, fun j hj => ?_⟩
  obtain ⟨x, p, q⟩ := d j hj
  exact ⟨x, p, q.ext E⟩
theorem own_idx {x : Int64} (h1 : ¬ x < (-128 : Int64)) (h2 : ¬ (127 : Int64) < x) : ¬ (x.toInt32 + (128 : Int32) < 0) ∧ (x.toInt32 + (128 : Int32)).toNatClampNeg < 256 := by
  rw [Int64.lt_iff_toInt_lt] at h1 h2
  have k1 : (-128 : Int64).toInt = -128 := rfl
  have k2 : (127 : Int64).toInt = 127 := rfl
  have k3 : (128 : Int32).toInt = 128 := rfl
  have k4 : (0 : Int32).toInt = 0 := rfl
  have a1 := c_l2i x
  have a2 := c_iadd x.toInt32 (128 : Int32)
  have r1 := rng32 x.toInt32
  have r2 := rng32 (x.toInt32 + (128 : Int32))
  have q : ¬ (x.toInt32 + (128 : Int32) < 0) := by rw [Int32.lt_iff_toInt_lt]; omega
  have e := nat_of q
  refine ⟨q, ?_⟩
  omega
set_option maxRecDepth 65536 in
set_option maxHeartbeats 4000000 in
theorem own_num (hw : ∀ d ∈ tables_1, d.before a0 Z = true) (a : Addr) :
    Ctr l (⟨"java/lang/Number", "<init>", "()V"⟩ : MethodName) jdk_18_method_1_code 1 none ({ frames := 1, cells := 0, slots := 0, locals := 16 } : Room) Z #[(.ref a)] h n0 (fun v h' => v = none ∧ h' = h) [] := by
  refine metGo (Ls := #[.val (.ref a)]) pn_d12 (fun m => by first | rfl | (simp [entryFrame, mkF, argsToLocals, Value.category]; done) | (simp [entryFrame, mkF, argsToLocals, Value.category, maxLocals]; done)) ?_
  intro p e s m below meth c T w
  refine galoadN (pc' := 1) (Ls := #[.val (.ref a)]) (rest := []) w d12_0 rfl rfl rfl ?_
  refine ginitO (pc' := 4) (Wt := 0) w d12_1 (hw _ (List.mem_of_getElem? (i := 76) rfl)) (hw _ (List.mem_of_getElem? (i := 12) rfl)) (hw _ (List.mem_of_getElem? (i := 13) rfl)) rfl (by decide +kernel) (Nat.le_of_eq rfl) (by decide +kernel) rfl (fun T2 w1 => ?_)
  exact gret0 w1 d12_4 (by decide +kernel) (by decide +kernel) ⟨rfl, rfl⟩
set_option maxRecDepth 65536 in
set_option maxHeartbeats 4000000 in
theorem own_lini (hw : ∀ d ∈ tables_1, d.before a0 Z = true) (a : Addr) (x : Int64) (ga : n0 ≤ a) (E0 : Exa Z h a "java/lang/Long") (F0 : Fld Z h a "java/lang/Long" "value" "J" (.long (0 : Int64))) :
    Ctr l (⟨"java/lang/Long", "<init>", "(J)V"⟩ : MethodName) jdk_35_method_26_code 3 none ({ frames := 2, cells := 0, slots := 0, locals := 40 } : Room) Z #[(.ref a), (.long x)] h n0 (fun v h' => v = none ∧ Keep h h' [a]) [] := by
  refine metGo (Ls := #[.val (.ref a), .val (.long x), .second]) pn_d11 (fun m => by first | rfl | (simp [entryFrame, mkF, argsToLocals, Value.category]; done) | (simp [entryFrame, mkF, argsToLocals, Value.category, maxLocals]; done)) ?_
  intro p e s m below meth c T w
  refine galoadN (pc' := 1) (Ls := #[.val (.ref a), .val (.long x), .second]) (rest := []) w d11_0 rfl rfl rfl ?_
  refine gcallN (pc' := 4) (argsL := []) (rest := []) (Wt := 0) w d11_1 (hw _ (List.mem_of_getElem? (i := 70) rfl)) (hw _ (List.mem_of_getElem? (i := 71) rfl)) (hw _ (List.mem_of_getElem? (i := 74) rfl)) (hw _ (List.mem_of_getElem? (i := 75) rfl)) rfl (by decide +kernel) pd_d12 (own_num hw a) rfl rfl rfl rfl (Nat.le_of_eq rfl) (by decide +kernel) (by decide +kernel) (by decide +kernel) (by decide +kernel) rfl (fun v3 T4 h5 w6 q7 => ?_)
  obtain ⟨rfl, eh⟩ := q7
  show Go _ _ _ _ _ _ _ _ _ (mkF m 4 #[.val (.ref a), .val (.long x), .second] [])
  rw [eh] at w6
  refine galoadN (pc' := 5) (Ls := #[.val (.ref a), .val (.long x), .second]) (rest := []) w6 d11_4 rfl rfl rfl ?_
  refine glloadN (pc' := 6) (Ls := #[.val (.ref a), .val (.long x), .second]) (rest := [(.ref a)]) w6 d11_5 rfl rfl ?_
  refine gputF (pc' := 9) (v' := (.long x)) (ty := .long) w6 d11_6 (hw _ (List.mem_of_getElem? (i := 77) rfl)) F0 E0 (Or.inr ⟨(hw _ (List.mem_of_getElem? (i := 78) rfl)), rfl, rfl⟩) (hw _ (List.mem_of_getElem? (i := 65) rfl)) (by decide +kernel) rfl rfl ga rfl (fun T8 h9 w10 W11 => ?_)
  have E12 := E0.wr W11
  have F13 := F0.same W11
  have K14 := (Keep.refl h [a]).wr W11 (Or.inl (List.mem_singleton.mpr rfl))
  exact gret0 w10 d11_9 (by decide +kernel) (by decide +kernel) ⟨rfl, K14⟩
set_option maxRecDepth 65536 in
set_option maxHeartbeats 4000000 in
theorem own_lval (hw : ∀ d ∈ tables_1, d.before a0 Z = true) (x : Int64) (z0 : n0 ≤ h.size) (LC : own_LC Z h) :
    Ctr l (⟨"java/lang/Long", "valueOf", "(J)Ljava/lang/Long;"⟩ : MethodName) jdk_35_method_24_code 3 (some (.object "java/lang/Long")) ({ frames := 3, cells := 1, slots := 1, locals := 64 } : Room) Z #[(.long x)] h n0 (fun v h' => ∃ a, v = some (.ref a) ∧ Ext h h' ∧ Exa Z h' a "java/lang/Long") [] := by
  refine metGo (Ls := #[.val (.long x), .second, .unset]) pn_d10 (fun m => by first | rfl | (simp [entryFrame, mkF, argsToLocals, Value.category]; done) | (simp [entryFrame, mkF, argsToLocals, Value.category, maxLocals]; done)) ?_
  intro p e s m below meth c T w
  refine gsipush (v := (128 : Int32)) (pc' := 3) w d10_0 rfl rfl ?_
  refine gistoreN (pc' := 4) (Ls := #[.val (.long x), .second, .unset]) (Ls' := #[.val (.long x), .second, .val (.int (128 : Int32))]) (rest := []) w d10_3 rfl rfl ?_
  refine glloadN (pc' := 5) (Ls := #[.val (.long x), .second, .val (.int (128 : Int32))]) (rest := []) w d10_4 rfl rfl ?_
  refine gldc2 (v := (-128 : Int64)) (pc' := 8) w d10_5 (hw _ (List.mem_of_getElem? (i := 63) rfl)) rfl ?_
  refine glcmpif (pm := 9) (pt := 31) (pf := 12) w d10_8 rfl d10_9 (by decide +kernel) rfl rfl (fun (c8 : x < (-128 : Int64)) => ?_) (fun (c8 : ¬ x < (-128 : Int64)) => ?_)
  · refine gnewO (pc' := 34) w d10_31 (hw _ (List.mem_of_getElem? (i := 64) rfl)) (hw _ (List.mem_of_getElem? (i := 65) rfl)) (hw _ (List.mem_of_getElem? (i := 61) rfl)) (by decide +kernel) (by decide +kernel) rfl (fun T16 h17 a15 s18 w19 E20 A21 D22 => ?_)
    have g_a15 : n0 ≤ a15 := Nat.le_trans z0 (Nat.le_of_eq s18)
    have hz_a15 : h.size ≤ a15 := Nat.le_trans (own_er h).1 (Nat.le_of_eq s18)
    have X23 := own_et (own_er h) E20
    have z24 := Nat.le_trans z0 E20.1
    have F25 : Fld Z h17 a15 "java/lang/Long" "value" "J" (.long (0 : Int64)) := D22 (Or.inr (hw _ (List.mem_of_getElem? (i := 78) rfl))) (ty := .long) (by decide +kernel)
    refine gdup (pc' := 35) w19 d10_34 rfl rfl ?_
    refine glloadN (pc' := 36) (Ls := #[.val (.long x), .second, .val (.int (128 : Int32))]) (rest := [(.ref a15), (.ref a15)]) w19 d10_35 rfl rfl ?_
    refine gcallN (pc' := 39) (argsL := [(.long x)]) (rest := [(.ref a15)]) (Wt := 1) w19 d10_36 (hw _ (List.mem_of_getElem? (i := 66) rfl)) (hw _ (List.mem_of_getElem? (i := 67) rfl)) (hw _ (List.mem_of_getElem? (i := 61) rfl)) (hw _ (List.mem_of_getElem? (i := 69) rfl)) rfl (by decide +kernel) pd_d11 (own_lini hw a15 x g_a15 A21 F25) rfl rfl rfl rfl (Nat.le_of_eq rfl) (by decide +kernel) (by decide +kernel) (by decide +kernel) (by decide +kernel) rfl (fun v27 T28 h29 w30 q31 => ?_)
    obtain ⟨rfl, KK_26⟩ := q31
    show Go _ _ _ _ _ _ _ _ _ (mkF m 39 #[.val (.long x), .second, .val (.int (128 : Int32))] [(.ref a15)])
    have X32 := own_ek X23 KK_26 hz_a15
    have E33 := A21.keep KK_26
    have z34 := Nat.le_trans z24 KK_26.1
    exact gretA w30 d10_39 rfl rfl rfl (by decide +kernel) (by decide +kernel) ⟨a15, rfl, X32, E33⟩
  · refine glloadN (pc' := 13) (Ls := #[.val (.long x), .second, .val (.int (128 : Int32))]) (rest := []) w d10_12 rfl rfl ?_
    refine gldc2 (v := (127 : Int64)) (pc' := 16) w d10_13 (hw _ (List.mem_of_getElem? (i := 79) rfl)) rfl ?_
    refine glcmpif (pm := 17) (pt := 31) (pf := 20) w d10_16 rfl d10_17 (by decide +kernel) rfl rfl (fun (c16 : (127 : Int64) < x) => ?_) (fun (c16 : ¬ (127 : Int64) < x) => ?_)
    · refine gnewO (pc' := 34) w d10_31 (hw _ (List.mem_of_getElem? (i := 64) rfl)) (hw _ (List.mem_of_getElem? (i := 65) rfl)) (hw _ (List.mem_of_getElem? (i := 61) rfl)) (by decide +kernel) (by decide +kernel) rfl (fun T36 h37 a35 s38 w39 E40 A41 D42 => ?_)
      have g_a35 : n0 ≤ a35 := Nat.le_trans z0 (Nat.le_of_eq s38)
      have hz_a35 : h.size ≤ a35 := Nat.le_trans (own_er h).1 (Nat.le_of_eq s38)
      have X43 := own_et (own_er h) E40
      have z44 := Nat.le_trans z0 E40.1
      have F45 : Fld Z h37 a35 "java/lang/Long" "value" "J" (.long (0 : Int64)) := D42 (Or.inr (hw _ (List.mem_of_getElem? (i := 78) rfl))) (ty := .long) (by decide +kernel)
      refine gdup (pc' := 35) w39 d10_34 rfl rfl ?_
      refine glloadN (pc' := 36) (Ls := #[.val (.long x), .second, .val (.int (128 : Int32))]) (rest := [(.ref a35), (.ref a35)]) w39 d10_35 rfl rfl ?_
      refine gcallN (pc' := 39) (argsL := [(.long x)]) (rest := [(.ref a35)]) (Wt := 1) w39 d10_36 (hw _ (List.mem_of_getElem? (i := 66) rfl)) (hw _ (List.mem_of_getElem? (i := 67) rfl)) (hw _ (List.mem_of_getElem? (i := 61) rfl)) (hw _ (List.mem_of_getElem? (i := 69) rfl)) rfl (by decide +kernel) pd_d11 (own_lini hw a35 x g_a35 A41 F45) rfl rfl rfl rfl (Nat.le_of_eq rfl) (by decide +kernel) (by decide +kernel) (by decide +kernel) (by decide +kernel) rfl (fun v47 T48 h49 w50 q51 => ?_)
      obtain ⟨rfl, KK_46⟩ := q51
      show Go _ _ _ _ _ _ _ _ _ (mkF m 39 #[.val (.long x), .second, .val (.int (128 : Int32))] [(.ref a35)])
      have X52 := own_ek X43 KK_46 hz_a35
      have E53 := A41.keep KK_46
      have z54 := Nat.le_trans z44 KK_46.1
      exact gretA w50 d10_39 rfl rfl rfl (by decide +kernel) (by decide +kernel) ⟨a35, rfl, X52, E53⟩
    · obtain ⟨aC, cl, lc1, lc2, lc3, lc4⟩ := LC
      refine ggetS (pc' := 23) w d10_20 (hw _ (List.mem_of_getElem? (i := 83) rfl)) lc1 rfl (fun T56 w55 => ?_)
      refine glloadN (pc' := 24) (Ls := #[.val (.long x), .second, .val (.int (128 : Int32))]) (rest := [(.ref aC)]) w55 d10_23 rfl rfl ?_
      refine gl2i (pc' := 25) w55 d10_24 rfl ?_
      refine gsipush (v := (128 : Int32)) (pc' := 28) w55 d10_25 rfl rfl ?_
      refine giadd (pc' := 29) w55 d10_28 rfl ?_
      obtain ⟨y, y1, y2⟩ := lc4 _ (own_idx c8 c16).2
      refine gaaload (pc' := 30) (v := (.ref y)) w55 d10_29 lc2 rfl (by rw [lc3]; exact fun q => q.elim (own_idx c8 c16).1 (Nat.not_le.mpr (own_idx c8 c16).2)) y1 rfl ?_
      exact gretA w55 d10_30 rfl rfl rfl (by decide +kernel) (by decide +kernel) ⟨y, rfl, own_er h, y2⟩
set_option maxRecDepth 65536 in
set_option maxHeartbeats 4000000 in
theorem own_rec (hw : ∀ d ∈ tables_1, d.before a0 Z = true) (a : Addr) :
    Ctr l (⟨"java/lang/Record", "<init>", "()V"⟩ : MethodName) jdk_30_method_1_code 1 none ({ frames := 1, cells := 0, slots := 0, locals := 16 } : Room) Z #[(.ref a)] h n0 (fun v h' => v = none ∧ h' = h) [] := by
  refine metGo (Ls := #[.val (.ref a)]) pn_d2 (fun m => by first | rfl | (simp [entryFrame, mkF, argsToLocals, Value.category]; done) | (simp [entryFrame, mkF, argsToLocals, Value.category, maxLocals]; done)) ?_
  intro p e s m below meth c T w
  refine galoadN (pc' := 1) (Ls := #[.val (.ref a)]) (rest := []) w d2_0 rfl rfl rfl ?_
  refine ginitO (pc' := 4) (Wt := 0) w d2_1 (hw _ (List.mem_of_getElem? (i := 11) rfl)) (hw _ (List.mem_of_getElem? (i := 12) rfl)) (hw _ (List.mem_of_getElem? (i := 13) rfl)) rfl (by decide +kernel) (Nat.le_of_eq rfl) (by decide +kernel) rfl (fun T58 w57 => ?_)
  exact gret0 w57 d2_4 (by decide +kernel) (by decide +kernel) ⟨rfl, rfl⟩
set_option maxRecDepth 65536 in
set_option maxHeartbeats 4000000 in
theorem own_can (hw : ∀ d ∈ tables_1, d.before a0 Z = true) (ch : Int32) (hc : ¬ (255 : Int32) < ch) :
    Ctr l (⟨"java/lang/StringLatin1", "canEncode", "(C)Z"⟩ : MethodName) jdk_43_method_3_code 1 (some .boolean) ({ frames := 0, cells := 0, slots := 0, locals := 0 } : Room) Z #[(.int ch)] h n0 (fun v h' => v = some (.int 1) ∧ h' = h) [] := by
  refine metGo (Ls := #[.val (.int ch)]) pn_d7 (fun m => by first | rfl | (simp [entryFrame, mkF, argsToLocals, Value.category]; done) | (simp [entryFrame, mkF, argsToLocals, Value.category, maxLocals]; done)) ?_
  intro p e s m below meth c T w
  refine giloadN (pc' := 1) (Ls := #[.val (.int ch)]) (rest := []) w d7_0 rfl rfl ?_
  refine gsipush (v := (255 : Int32)) (pc' := 4) w d7_1 rfl rfl ?_
  refine gicmp (pt := 11) (pf := 7) w d7_4  (by decide +kernel) rfl rfl (fun (c4 : (255 : Int32) < ch) => ?_) (fun (c4 : ¬ (255 : Int32) < ch) => ?_)
  · exact absurd c4 hc
  · refine giconst (v := (1 : Int32)) (pc' := 8) w d7_7 rfl rfl ?_
    refine ggoto (pc' := 12) w d7_8 (by decide +kernel) rfl ?_
    exact gretZ w d7_12 rfl (by decide +kernel) (by decide +kernel) ⟨rfl, rfl⟩
set_option maxRecDepth 65536 in
set_option maxHeartbeats 4000000 in
theorem own_tob (hw : ∀ d ∈ tables_1, d.before a0 Z = true) (ch : Int32) (z0 : n0 ≤ h.size) :
    Ctr l (⟨"java/lang/StringLatin1", "toBytes", "(C)[B"⟩ : MethodName) jdk_43_method_46_code 1 (some (.array .byte)) ({ frames := 0, cells := 1, slots := 1, locals := 0 } : Room) Z #[(.int ch)] h n0 (fun v h' => ∃ b, v = some (.ref b) ∧ Ext h h') [] := by
  refine metGo (Ls := #[.val (.int ch)]) pn_d8 (fun m => by first | rfl | (simp [entryFrame, mkF, argsToLocals, Value.category]; done) | (simp [entryFrame, mkF, argsToLocals, Value.category, maxLocals]; done)) ?_
  intro p e s m below meth c T w
  refine giconst (v := (1 : Int32)) (pc' := 1) w d8_0 rfl rfl ?_
  refine gnewP (pc' := 3) (cap := 1) (ty := .byte) w d8_1 rfl (hw _ (List.mem_of_getElem? (i := 49) rfl)) (by decide +kernel) (by decide +kernel) (by decide +kernel) (by decide +kernel) (by decide +kernel) rfl (fun T60 h61 a59 k_a59 s62 w63 E64 V65 => ?_)
  have g_a59 : n0 ≤ a59 := Nat.le_trans z0 (Nat.le_of_eq s62)
  have hz_a59 : h.size ≤ a59 := Nat.le_trans (own_er h).1 (Nat.le_of_eq s62)
  have X67 := own_et (own_er h) E64
  have z68 := Nat.le_trans z0 E64.1
  have V66 : Arv Z h61 a59 k_a59 .byte (1 : Int32) [(.int (0 : Int32))] (.int (0 : Int32)) := V65.pad (pad_rep [] _ 1)
  refine gdup (pc' := 4) w63 d8_3 rfl rfl ?_
  refine giconst (v := (0 : Int32)) (pc' := 5) w63 d8_4 rfl rfl ?_
  refine giloadN (pc' := 6) (Ls := #[.val (.int ch)]) (rest := [(.int (0 : Int32)), (.ref a59), (.ref a59)]) w63 d8_5 rfl rfl ?_
  refine gi2b (pc' := 7) w63 d8_6 rfl ?_
  refine gbastore (pc' := 8) (x' := (ch.toInt8.toInt32)) w63 d8_7 (own_bb _) V66 (by decide +kernel) (0) rfl (by simp) g_a59 rfl (fun T69 h70 w71 W72 V73 => ?_)
  have z75 : n0 ≤ h70.size := by rw [W72.size]; exact z68
  have X76 := own_ew X67 W72 hz_a59
  have V74 : Arv Z h70 a59 k_a59 .byte (1 : Int32) [(.int (ch.toInt8.toInt32))] (.int (0 : Int32)) := V73
  exact gretA w71 d8_8 rfl rfl rfl (by decide +kernel) (by decide +kernel) ⟨_, rfl, X76⟩
set_option maxRecDepth 65536 in
set_option maxHeartbeats 4000000 in
theorem own_sini (hw : ∀ d ∈ tables_1, d.before a0 Z = true) (a b : Addr) (ga : n0 ≤ a) (E0 : Exa Z h a "java/lang/String") (F0 : Fld Z h a "java/lang/String" "value" "[B" .null) (F1 : Fld Z h a "java/lang/String" "coder" "B" (.int (0 : Int32))) :
    Ctr l (⟨"java/lang/String", "<init>", "([BB)V"⟩ : MethodName) jdk_42_method_151_code 3 none ({ frames := 1, cells := 0, slots := 0, locals := 16 } : Room) Z #[(.ref a), (.ref b), (.int (0 : Int32))] h n0 (fun v h' => v = none ∧ Keep h h' [a]) [] := by
  refine metGo (Ls := #[.val (.ref a), .val (.ref b), .val (.int (0 : Int32))]) pn_d9 (fun m => by first | rfl | (simp [entryFrame, mkF, argsToLocals, Value.category]; done) | (simp [entryFrame, mkF, argsToLocals, Value.category, maxLocals]; done)) ?_
  intro p e s m below meth c T w
  refine galoadN (pc' := 1) (Ls := #[.val (.ref a), .val (.ref b), .val (.int (0 : Int32))]) (rest := []) w d9_0 rfl rfl rfl ?_
  refine ginitO (pc' := 4) (Wt := 0) w d9_1 (hw _ (List.mem_of_getElem? (i := 54) rfl)) (hw _ (List.mem_of_getElem? (i := 12) rfl)) (hw _ (List.mem_of_getElem? (i := 13) rfl)) rfl (by decide +kernel) (Nat.le_of_eq rfl) (by decide +kernel) rfl (fun T78 w77 => ?_)
  refine galoadN (pc' := 5) (Ls := #[.val (.ref a), .val (.ref b), .val (.int (0 : Int32))]) (rest := []) w77 d9_4 rfl rfl rfl ?_
  refine galoadN (pc' := 6) (Ls := #[.val (.ref a), .val (.ref b), .val (.int (0 : Int32))]) (rest := [(.ref a)]) w77 d9_5 rfl rfl rfl ?_
  refine gputF (pc' := 9) (v' := (.ref b)) (ty := (.array .byte)) w77 d9_6 (hw _ (List.mem_of_getElem? (i := 55) rfl)) F0 E0 (Or.inr ⟨(hw _ (List.mem_of_getElem? (i := 56) rfl)), rfl, rfl⟩) (hw _ (List.mem_of_getElem? (i := 45) rfl)) (by decide +kernel) rfl rfl ga rfl (fun T79 h80 w81 W82 => ?_)
  have E83 := E0.wr W82
  have F84 := F0.same W82
  have F85 := F1.other W82 (Or.inr (slot_ne (t := .byte) (t' := (.array .byte)) (Or.inr (hw _ (List.mem_of_getElem? (i := 58) rfl))) (Or.inr (hw _ (List.mem_of_getElem? (i := 56) rfl))) (by decide +kernel) (by decide +kernel) (by decide +kernel)))
  have K86 := (Keep.refl h [a]).wr W82 (Or.inl (List.mem_singleton.mpr rfl))
  refine galoadN (pc' := 10) (Ls := #[.val (.ref a), .val (.ref b), .val (.int (0 : Int32))]) (rest := []) w81 d9_9 rfl rfl rfl ?_
  refine giloadN (pc' := 11) (Ls := #[.val (.ref a), .val (.ref b), .val (.int (0 : Int32))]) (rest := [(.ref a)]) w81 d9_10 rfl rfl ?_
  refine gputF (pc' := 14) (v' := (.int (0 : Int32))) (ty := .byte) w81 d9_11 (hw _ (List.mem_of_getElem? (i := 57) rfl)) F85 E83 (Or.inr ⟨(hw _ (List.mem_of_getElem? (i := 58) rfl)), rfl, rfl⟩) (hw _ (List.mem_of_getElem? (i := 45) rfl)) (by decide +kernel) rfl rfl ga rfl (fun T87 h88 w89 W90 => ?_)
  have E91 := E83.wr W90
  have F92 := F84.other W90 (Or.inr (slot_ne (t := (.array .byte)) (t' := .byte) (Or.inr (hw _ (List.mem_of_getElem? (i := 56) rfl))) (Or.inr (hw _ (List.mem_of_getElem? (i := 58) rfl))) (by decide +kernel) (by decide +kernel) (by decide +kernel)))
  have F93 := F85.same W90
  have K94 := K86.wr W90 (Or.inl (List.mem_singleton.mpr rfl))
  exact gret0 w89 d9_14 (by decide +kernel) (by decide +kernel) ⟨rfl, K94⟩
set_option maxRecDepth 65536 in
set_option maxHeartbeats 4000000 in
theorem own_sval (hw : ∀ d ∈ tables_1, d.before a0 Z = true) (ch cs : Int32) (z0 : n0 ≤ h.size) (hc : ¬ (255 : Int32) < ch) (hcs : ¬ cs = (0 : Int32)) (SC : Sta Z h "java/lang/String" "COMPACT_STRINGS" "Z" (.int cs)) :
    Ctr l (⟨"java/lang/String", "valueOf", "(C)Ljava/lang/String;"⟩ : MethodName) jdk_42_method_139_code 1 (some (.object "java/lang/String")) ({ frames := 2, cells := 2, slots := 5, locals := 40 } : Room) Z #[(.int ch)] h n0 (fun v h' => ∃ a, v = some (.ref a) ∧ Ext h h') [] := by
  refine metGo (Ls := #[.val (.int ch)]) pn_d6 (fun m => by first | rfl | (simp [entryFrame, mkF, argsToLocals, Value.category]; done) | (simp [entryFrame, mkF, argsToLocals, Value.category, maxLocals]; done)) ?_
  intro p e s m below meth c T w
  refine ggetS (pc' := 3) w d6_0 (hw _ (List.mem_of_getElem? (i := 39) rfl)) SC rfl (fun T95 w96 => ?_)
  refine gif (pt := 26) (pf := 6) w96 d6_3  (by decide +kernel) rfl rfl (fun (c3 : cs = (0 : Int32)) => ?_) (fun (c3 : ¬ cs = (0 : Int32)) => ?_)
  · exact absurd c3 hcs
  · refine giloadN (pc' := 7) (Ls := #[.val (.int ch)]) (rest := []) w96 d6_6 rfl rfl ?_
    refine gcallS (pc' := 10) (argsL := [(.int ch)]) (rest := []) (Wt := 0) w96 d6_7 (hw _ (List.mem_of_getElem? (i := 40) rfl)) (hw _ (List.mem_of_getElem? (i := 41) rfl)) (hw _ (List.mem_of_getElem? (i := 42) rfl)) (hw _ (List.mem_of_getElem? (i := 43) rfl)) (by decide +kernel) pd_d7 (own_can hw ch hc) rfl rfl rfl rfl (Nat.le_of_eq rfl) (by decide +kernel) (by decide +kernel) (by decide +kernel) (by decide +kernel) rfl (fun v97 T98 h99 w100 q101 => ?_)
    obtain ⟨rfl, eh⟩ := q101
    show Go _ _ _ _ _ _ _ _ _ (mkF m 10 #[.val (.int ch)] [(.int (1 : Int32))])
    rw [eh] at w100
    refine gif (pt := 26) (pf := 13) w100 d6_10  (by decide +kernel) rfl rfl (fun (c10 : (1 : Int32) = (0 : Int32)) => ?_) (fun (c10 : ¬ (1 : Int32) = (0 : Int32)) => ?_)
    · exact absurd c10 (by decide +kernel)
    · refine gnewO (pc' := 16) w100 d6_13 (hw _ (List.mem_of_getElem? (i := 44) rfl)) (hw _ (List.mem_of_getElem? (i := 45) rfl)) (hw _ (List.mem_of_getElem? (i := 37) rfl)) (by decide +kernel) (by decide +kernel) rfl (fun T103 h104 a102 s105 w106 E107 A108 D109 => ?_)
      have g_a102 : n0 ≤ a102 := Nat.le_trans z0 (Nat.le_of_eq s105)
      have hz_a102 : h.size ≤ a102 := Nat.le_trans (own_er h).1 (Nat.le_of_eq s105)
      have S110 := SC.ext E107
      have X111 := own_et (own_er h) E107
      have z112 := Nat.le_trans z0 E107.1
      have F113 : Fld Z h104 a102 "java/lang/String" "value" "[B" .null := D109 (Or.inr (hw _ (List.mem_of_getElem? (i := 56) rfl))) (ty := (.array .byte)) (by decide +kernel)
      have F114 : Fld Z h104 a102 "java/lang/String" "coder" "B" (.int (0 : Int32)) := D109 (Or.inr (hw _ (List.mem_of_getElem? (i := 58) rfl))) (ty := .byte) (by decide +kernel)
      refine gdup (pc' := 17) w106 d6_16 rfl rfl ?_
      refine giloadN (pc' := 18) (Ls := #[.val (.int ch)]) (rest := [(.ref a102), (.ref a102)]) w106 d6_17 rfl rfl ?_
      refine gcallS (pc' := 21) (argsL := [(.int ch)]) (rest := [(.ref a102), (.ref a102)]) (Wt := 2) w106 d6_18 (hw _ (List.mem_of_getElem? (i := 46) rfl)) (hw _ (List.mem_of_getElem? (i := 47) rfl)) (hw _ (List.mem_of_getElem? (i := 42) rfl)) (hw _ (List.mem_of_getElem? (i := 48) rfl)) (by decide +kernel) pd_d8 (own_tob hw ch z112) rfl rfl rfl rfl (Nat.le_of_eq rfl) (by decide +kernel) (by decide +kernel) (by decide +kernel) (by decide +kernel) rfl (fun v115 T116 h117 w118 q119 => ?_)
      obtain ⟨b, rfl, Xb⟩ := q119
      show Go _ _ _ _ _ _ _ _ _ (mkF m 21 #[.val (.int ch)] [(.ref b), (.ref a102), (.ref a102)])
      have S120 := S110.ext Xb
      have E121 := A108.ext Xb
      have F122 := F113.ext Xb
      have F123 := F114.ext Xb
      have X124 := own_et X111 Xb
      have z125 := Nat.le_trans z112 Xb.1
      refine giconst (v := (0 : Int32)) (pc' := 22) w118 d6_21 rfl rfl ?_
      refine gcallN (pc' := 25) (argsL := [(.ref b), (.int (0 : Int32))]) (rest := [(.ref a102)]) (Wt := 1) w118 d6_22 (hw _ (List.mem_of_getElem? (i := 50) rfl)) (hw _ (List.mem_of_getElem? (i := 51) rfl)) (hw _ (List.mem_of_getElem? (i := 37) rfl)) (hw _ (List.mem_of_getElem? (i := 53) rfl)) rfl (by decide +kernel) pd_d9 (own_sini hw a102 b g_a102 E121 F122 F123) rfl rfl rfl rfl (Nat.le_of_eq rfl) (by decide +kernel) (by decide +kernel) (by decide +kernel) (by decide +kernel) rfl (fun v126 T127 h128 w129 q130 => ?_)
      obtain ⟨rfl, Ks⟩ := q130
      show Go _ _ _ _ _ _ _ _ _ (mkF m 25 #[.val (.int ch)] [(.ref a102)])
      have X131 := own_ek X124 Ks hz_a102
      have E132 := E121.keep Ks
      have z133 := Nat.le_trans z125 Ks.1
      exact gretA w129 d6_25 rfl rfl rfl (by decide +kernel) (by decide +kernel) ⟨_, rfl, X131⟩
theorem own_atoms (hw : ∀ d ∈ tables_1, d.before a0 Z = true) : ∀ a ∈ Bundle.stringAtoms, a.before a0 Z = true := by
  intro a ha
  simp only [Bundle.stringAtoms, List.mem_cons, List.not_mem_nil, or_false] at ha
  rcases ha with rfl | rfl | rfl | rfl | rfl | rfl | rfl
  · exact (hw _ (List.mem_of_getElem? (i := 37) rfl))
  · exact (hw _ (List.mem_of_getElem? (i := 45) rfl))
  · exact (hw _ (List.mem_of_getElem? (i := 49) rfl))
  · exact (hw _ (List.mem_of_getElem? (i := 56) rfl))
  · exact (hw _ (List.mem_of_getElem? (i := 58) rfl))
  · exact (hw _ (List.mem_of_getElem? (i := 81) rfl))
  · exact (hw _ (List.mem_of_getElem? (i := 82) rfl))
theorem own_lt255 (x : Int32) : ¬ (255 : Int32) < (x &&& (255 : Int32)).toUInt32.toUInt16.toUInt32.toInt32 := by
  rw [i2c_mask]
  have e : (x &&& (255 : Int32)).toInt = x.toInt % 2 ^ 8 := Jvm.Kit.i32_mask x 255 (k := 8) (by decide +kernel) (by decide +kernel)
  rw [Int32.lt_iff_toInt_lt, e]
  have k : (255 : Int32).toInt = 255 := rfl
  omega
set_option maxRecDepth 65536 in
set_option maxHeartbeats 4000000 in
theorem own_str (hw : ∀ d ∈ tables_1, d.before a0 Z = true) (cc sh : Int32) (cs : Int32) (z0 : n0 ≤ h.size) (hcs : ¬ cs = (0 : Int32)) (SC : Sta Z h "java/lang/String" "COMPACT_STRINGS" "Z" (.int cs)) :
    Ctr l (⟨"com/example/kindred/kindred/index/SongTagIsCompletePinLaw", "str", "(II)Ljava/lang/String;"⟩ : MethodName) method_2_code 3 (some (.object "java/lang/String")) ({ frames := 3, cells := 2, slots := 5, locals := 64 } : Room) Z #[(.int cc), (.int sh)] h n0 (fun v h' => ∃ a, v = some (.ref a) ∧ Ext h h') [] := by
  refine metGo (Ls := #[.val (.int cc), .val (.int sh), .unset]) pn_d5 (fun m => by first | rfl | (simp [entryFrame, mkF, argsToLocals, Value.category]; done) | (simp [entryFrame, mkF, argsToLocals, Value.category, maxLocals]; done)) ?_
  intro p e s m below meth c T w
  refine giloadN (pc' := 1) (Ls := #[.val (.int cc), .val (.int sh), .unset]) (rest := []) w d5_0 rfl rfl ?_
  refine giloadN (pc' := 2) (Ls := #[.val (.int cc), .val (.int sh), .unset]) (rest := [(.int cc)]) w d5_1 rfl rfl ?_
  refine giushr (pc' := 3) w d5_2 rfl ?_
  refine gistoreN (pc' := 4) (Ls := #[.val (.int cc), .val (.int sh), .unset]) (Ls' := #[.val (.int cc), .val (.int sh), .val (.int (((cc).toUInt32 >>> (sh &&& 31).toUInt32).toInt32))]) (rest := []) w d5_3 rfl rfl ?_
  refine giloadN (pc' := 5) (Ls := #[.val (.int cc), .val (.int sh), .val (.int (((cc).toUInt32 >>> (sh &&& 31).toUInt32).toInt32))]) (rest := []) w d5_4 rfl rfl ?_
  refine gsipush (v := (256 : Int32)) (pc' := 8) w d5_5 rfl rfl ?_
  refine giand (pc' := 9) w d5_8 rfl ?_
  refine gif (pt := 15) (pf := 12) w d5_9  (by decide +kernel) rfl rfl (fun (c9 : ((((cc).toUInt32 >>> (sh &&& 31).toUInt32).toInt32) &&& (256 : Int32)) = (0 : Int32)) => ?_) (fun (c9 : ¬ ((((cc).toUInt32 >>> (sh &&& 31).toUInt32).toInt32) &&& (256 : Int32)) = (0 : Int32)) => ?_)
  · refine giloadN (pc' := 16) (Ls := #[.val (.int cc), .val (.int sh), .val (.int (((cc).toUInt32 >>> (sh &&& 31).toUInt32).toInt32))]) (rest := []) w d5_15 rfl rfl ?_
    refine gsipush (v := (255 : Int32)) (pc' := 19) w d5_16 rfl rfl ?_
    refine giand (pc' := 20) w d5_19 rfl ?_
    refine gi2c (pc' := 21) w d5_20 rfl ?_
    refine gcallS (pc' := 24) (argsL := [(.int (((((cc).toUInt32 >>> (sh &&& 31).toUInt32).toInt32) &&& (255 : Int32)).toUInt32.toUInt16.toUInt32.toInt32))]) (rest := []) (Wt := 0) w d5_21 (hw _ (List.mem_of_getElem? (i := 35) rfl)) (hw _ (List.mem_of_getElem? (i := 36) rfl)) (hw _ (List.mem_of_getElem? (i := 37) rfl)) (hw _ (List.mem_of_getElem? (i := 38) rfl)) (by decide +kernel) pd_d6 (own_sval hw _ cs z0 (own_lt255 _) hcs SC) rfl rfl rfl rfl (Nat.le_of_eq rfl) (by decide +kernel) (by decide +kernel) (by decide +kernel) (by decide +kernel) rfl (fun v134 T135 h136 w137 q138 => ?_)
    obtain ⟨av, rfl, Xs⟩ := q138
    show Go _ _ _ _ _ _ _ _ _ (mkF m 24 #[.val (.int cc), .val (.int sh), .val (.int (((cc).toUInt32 >>> (sh &&& 31).toUInt32).toInt32))] [(.ref av)])
    have S139 := SC.ext Xs
    have X140 := own_et (own_er h) Xs
    have z141 := Nat.le_trans z0 Xs.1
    exact gretA w137 d5_24 rfl rfl rfl (by decide +kernel) (by decide +kernel) ⟨_, rfl, X140⟩
  · refine gldcS (pc' := 14) (nn := 0) w d5_12 (hw _ (List.mem_of_getElem? (i := 80) rfl)) (own_atoms hw) (by decide +kernel) (by decide +kernel) (by decide +kernel) (by decide +kernel) rfl (fun al Tl hl wl El => ?_)
    have S142 := SC.ext El
    have X143 := own_et (own_er h) El
    have z144 := Nat.le_trans z0 El.1
    exact gretA wl d5_14 rfl rfl rfl (by decide +kernel) (by decide +kernel) ⟨_, rfl, X143⟩
theorem own_nref {v : Value} {C : String} (r : v.isRef = true) : narrow (.object C) v = v := by
  rcases ref_cases r with rfl | ⟨a, rfl⟩ <;> rfl
theorem own_fref {v : Value} {C : String} (r : v.isRef = true) : fits (.object C) v = true := by
  rcases ref_cases r with rfl | ⟨a, rfl⟩ <;> rfl
set_option maxRecDepth 65536 in
set_option maxHeartbeats 4000000 in
theorem own_ent {a : Addr} {v1 v2 v3 v4 v5 v6 : Value} (r1 : v1.isRef = true) (r2 : v2.isRef = true) (r3 : v3.isRef = true) (r4 : v4.isRef = true) (r5 : v5.isRef = true) (r6 : v6.isRef = true) (m : MethodId) : entryFrame m #[(.ref a), v1, v2, v3, v4, v5, v6] 7 = mkF m 0 #[.val (.ref a), .val v1, .val v2, .val v3, .val v4, .val v5, .val v6] [] := by
  simp [entryFrame, mkF, argsToLocals, ref_cat r1, ref_cat r2, ref_cat r3, ref_cat r4, ref_cat r5, ref_cat r6, ref_cat (v := .ref a) rfl]
set_option maxRecDepth 65536 in
set_option maxHeartbeats 4000000 in
theorem own_ini (hw : ∀ d ∈ tables_1, d.before a0 Z = true) (a : Addr) (v1 v2 v3 v4 v5 v6 : Value) (ga : n0 ≤ a) (E0 : Exa Z h a "com/example/kindred/kindred/index/SongTag") (F0 : Fld Z h a "com/example/kindred/kindred/index/SongTag" "title" "Ljava/lang/String;" .null) (F1 : Fld Z h a "com/example/kindred/kindred/index/SongTag" "artist" "Ljava/lang/String;" .null) (F2 : Fld Z h a "com/example/kindred/kindred/index/SongTag" "album" "Ljava/lang/String;" .null) (F3 : Fld Z h a "com/example/kindred/kindred/index/SongTag" "genre" "Ljava/lang/String;" .null) (F4 : Fld Z h a "com/example/kindred/kindred/index/SongTag" "year" "Ljava/lang/Long;" .null) (F5 : Fld Z h a "com/example/kindred/kindred/index/SongTag" "track" "Ljava/lang/Long;" .null) (r1 : v1.isRef = true) (r2 : v2.isRef = true) (r3 : v3.isRef = true) (r4 : v4.isRef = true) (r5 : v5.isRef = true) (r6 : v6.isRef = true) :
    Ctr l (⟨"com/example/kindred/kindred/index/SongTag", "<init>", "(Ljava/lang/String;Ljava/lang/String;Ljava/lang/String;Ljava/lang/String;Ljava/lang/Long;Ljava/lang/Long;)V"⟩ : MethodName) prog_31_method_1_code 7 none ({ frames := 2, cells := 0, slots := 0, locals := 40 } : Room) Z #[(.ref a), v1, v2, v3, v4, v5, v6] h n0 (fun v h' => v = none ∧ Exa Z h' a "com/example/kindred/kindred/index/SongTag" ∧ Fld Z h' a "com/example/kindred/kindred/index/SongTag" "title" "Ljava/lang/String;" v1 ∧ Fld Z h' a "com/example/kindred/kindred/index/SongTag" "artist" "Ljava/lang/String;" v2 ∧ Fld Z h' a "com/example/kindred/kindred/index/SongTag" "album" "Ljava/lang/String;" v3 ∧ Fld Z h' a "com/example/kindred/kindred/index/SongTag" "genre" "Ljava/lang/String;" v4 ∧ Fld Z h' a "com/example/kindred/kindred/index/SongTag" "year" "Ljava/lang/Long;" v5 ∧ Fld Z h' a "com/example/kindred/kindred/index/SongTag" "track" "Ljava/lang/Long;" v6) [] := by
  refine metGo (Ls := #[.val (.ref a), .val v1, .val v2, .val v3, .val v4, .val v5, .val v6]) pn_d1 (own_ent r1 r2 r3 r4 r5 r6) ?_
  intro p e s m below meth c T w
  refine galoadN (pc' := 1) (Ls := #[.val (.ref a), .val v1, .val v2, .val v3, .val v4, .val v5, .val v6]) (rest := []) w d1_0 rfl rfl rfl ?_
  refine gcallN (pc' := 4) (argsL := []) (rest := []) (Wt := 0) w d1_1 (hw _ (List.mem_of_getElem? (i := 6) rfl)) (hw _ (List.mem_of_getElem? (i := 7) rfl)) (hw _ (List.mem_of_getElem? (i := 9) rfl)) (hw _ (List.mem_of_getElem? (i := 10) rfl)) rfl (by decide +kernel) pd_d2 (own_rec hw a) rfl rfl rfl rfl (Nat.le_of_eq rfl) (by decide +kernel) (by decide +kernel) (by decide +kernel) (by decide +kernel) rfl (fun v145 T146 h147 w148 q149 => ?_)
  obtain ⟨rfl, eh⟩ := q149
  show Go _ _ _ _ _ _ _ _ _ (mkF m 4 #[.val (.ref a), .val v1, .val v2, .val v3, .val v4, .val v5, .val v6] [])
  rw [eh] at w148
  refine galoadN (pc' := 5) (Ls := #[.val (.ref a), .val v1, .val v2, .val v3, .val v4, .val v5, .val v6]) (rest := []) w148 d1_4 rfl rfl rfl ?_
  refine galoadN (pc' := 6) (Ls := #[.val (.ref a), .val v1, .val v2, .val v3, .val v4, .val v5, .val v6]) (rest := [(.ref a)]) w148 d1_5 rfl r1 rfl ?_
  refine gputF (pc' := 9) (v' := v1) (ty := (.object "java/lang/String")) w148 d1_6 (hw _ (List.mem_of_getElem? (i := 14) rfl)) F0 E0 (Or.inr ⟨(hw _ (List.mem_of_getElem? (i := 15) rfl)), rfl, rfl⟩) (hw _ (List.mem_of_getElem? (i := 1) rfl)) (by decide +kernel) (own_nref r1) (own_fref r1) ga rfl (fun T150 h151 w152 W153 => ?_)
  have E154 := E0.wr W153
  have F155 := F0.same W153
  have F156 := F1.other W153 (Or.inr (slot_ne (t := (.object "java/lang/String")) (t' := (.object "java/lang/String")) (Or.inr (hw _ (List.mem_of_getElem? (i := 17) rfl))) (Or.inr (hw _ (List.mem_of_getElem? (i := 15) rfl))) (by decide +kernel) (by decide +kernel) (by decide +kernel)))
  have F157 := F2.other W153 (Or.inr (slot_ne (t := (.object "java/lang/String")) (t' := (.object "java/lang/String")) (Or.inr (hw _ (List.mem_of_getElem? (i := 19) rfl))) (Or.inr (hw _ (List.mem_of_getElem? (i := 15) rfl))) (by decide +kernel) (by decide +kernel) (by decide +kernel)))
  have F158 := F3.other W153 (Or.inr (slot_ne (t := (.object "java/lang/String")) (t' := (.object "java/lang/String")) (Or.inr (hw _ (List.mem_of_getElem? (i := 21) rfl))) (Or.inr (hw _ (List.mem_of_getElem? (i := 15) rfl))) (by decide +kernel) (by decide +kernel) (by decide +kernel)))
  have F159 := F4.other W153 (Or.inr (slot_ne (t := (.object "java/lang/Long")) (t' := (.object "java/lang/String")) (Or.inr (hw _ (List.mem_of_getElem? (i := 23) rfl))) (Or.inr (hw _ (List.mem_of_getElem? (i := 15) rfl))) (by decide +kernel) (by decide +kernel) (by decide +kernel)))
  have F160 := F5.other W153 (Or.inr (slot_ne (t := (.object "java/lang/Long")) (t' := (.object "java/lang/String")) (Or.inr (hw _ (List.mem_of_getElem? (i := 25) rfl))) (Or.inr (hw _ (List.mem_of_getElem? (i := 15) rfl))) (by decide +kernel) (by decide +kernel) (by decide +kernel)))
  refine galoadN (pc' := 10) (Ls := #[.val (.ref a), .val v1, .val v2, .val v3, .val v4, .val v5, .val v6]) (rest := []) w152 d1_9 rfl rfl rfl ?_
  refine galoadN (pc' := 11) (Ls := #[.val (.ref a), .val v1, .val v2, .val v3, .val v4, .val v5, .val v6]) (rest := [(.ref a)]) w152 d1_10 rfl r2 rfl ?_
  refine gputF (pc' := 14) (v' := v2) (ty := (.object "java/lang/String")) w152 d1_11 (hw _ (List.mem_of_getElem? (i := 16) rfl)) F156 E154 (Or.inr ⟨(hw _ (List.mem_of_getElem? (i := 17) rfl)), rfl, rfl⟩) (hw _ (List.mem_of_getElem? (i := 1) rfl)) (by decide +kernel) (own_nref r2) (own_fref r2) ga rfl (fun T161 h162 w163 W164 => ?_)
  have E165 := E154.wr W164
  have F166 := F155.other W164 (Or.inr (slot_ne (t := (.object "java/lang/String")) (t' := (.object "java/lang/String")) (Or.inr (hw _ (List.mem_of_getElem? (i := 15) rfl))) (Or.inr (hw _ (List.mem_of_getElem? (i := 17) rfl))) (by decide +kernel) (by decide +kernel) (by decide +kernel)))
  have F167 := F156.same W164
  have F168 := F157.other W164 (Or.inr (slot_ne (t := (.object "java/lang/String")) (t' := (.object "java/lang/String")) (Or.inr (hw _ (List.mem_of_getElem? (i := 19) rfl))) (Or.inr (hw _ (List.mem_of_getElem? (i := 17) rfl))) (by decide +kernel) (by decide +kernel) (by decide +kernel)))
  have F169 := F158.other W164 (Or.inr (slot_ne (t := (.object "java/lang/String")) (t' := (.object "java/lang/String")) (Or.inr (hw _ (List.mem_of_getElem? (i := 21) rfl))) (Or.inr (hw _ (List.mem_of_getElem? (i := 17) rfl))) (by decide +kernel) (by decide +kernel) (by decide +kernel)))
  have F170 := F159.other W164 (Or.inr (slot_ne (t := (.object "java/lang/Long")) (t' := (.object "java/lang/String")) (Or.inr (hw _ (List.mem_of_getElem? (i := 23) rfl))) (Or.inr (hw _ (List.mem_of_getElem? (i := 17) rfl))) (by decide +kernel) (by decide +kernel) (by decide +kernel)))
  have F171 := F160.other W164 (Or.inr (slot_ne (t := (.object "java/lang/Long")) (t' := (.object "java/lang/String")) (Or.inr (hw _ (List.mem_of_getElem? (i := 25) rfl))) (Or.inr (hw _ (List.mem_of_getElem? (i := 17) rfl))) (by decide +kernel) (by decide +kernel) (by decide +kernel)))
  refine galoadN (pc' := 15) (Ls := #[.val (.ref a), .val v1, .val v2, .val v3, .val v4, .val v5, .val v6]) (rest := []) w163 d1_14 rfl rfl rfl ?_
  refine galoadN (pc' := 16) (Ls := #[.val (.ref a), .val v1, .val v2, .val v3, .val v4, .val v5, .val v6]) (rest := [(.ref a)]) w163 d1_15 rfl r3 rfl ?_
  refine gputF (pc' := 19) (v' := v3) (ty := (.object "java/lang/String")) w163 d1_16 (hw _ (List.mem_of_getElem? (i := 18) rfl)) F168 E165 (Or.inr ⟨(hw _ (List.mem_of_getElem? (i := 19) rfl)), rfl, rfl⟩) (hw _ (List.mem_of_getElem? (i := 1) rfl)) (by decide +kernel) (own_nref r3) (own_fref r3) ga rfl (fun T172 h173 w174 W175 => ?_)
  have E176 := E165.wr W175
  have F177 := F166.other W175 (Or.inr (slot_ne (t := (.object "java/lang/String")) (t' := (.object "java/lang/String")) (Or.inr (hw _ (List.mem_of_getElem? (i := 15) rfl))) (Or.inr (hw _ (List.mem_of_getElem? (i := 19) rfl))) (by decide +kernel) (by decide +kernel) (by decide +kernel)))
  have F178 := F167.other W175 (Or.inr (slot_ne (t := (.object "java/lang/String")) (t' := (.object "java/lang/String")) (Or.inr (hw _ (List.mem_of_getElem? (i := 17) rfl))) (Or.inr (hw _ (List.mem_of_getElem? (i := 19) rfl))) (by decide +kernel) (by decide +kernel) (by decide +kernel)))
  have F179 := F168.same W175
  have F180 := F169.other W175 (Or.inr (slot_ne (t := (.object "java/lang/String")) (t' := (.object "java/lang/String")) (Or.inr (hw _ (List.mem_of_getElem? (i := 21) rfl))) (Or.inr (hw _ (List.mem_of_getElem? (i := 19) rfl))) (by decide +kernel) (by decide +kernel) (by decide +kernel)))
  have F181 := F170.other W175 (Or.inr (slot_ne (t := (.object "java/lang/Long")) (t' := (.object "java/lang/String")) (Or.inr (hw _ (List.mem_of_getElem? (i := 23) rfl))) (Or.inr (hw _ (List.mem_of_getElem? (i := 19) rfl))) (by decide +kernel) (by decide +kernel) (by decide +kernel)))
  have F182 := F171.other W175 (Or.inr (slot_ne (t := (.object "java/lang/Long")) (t' := (.object "java/lang/String")) (Or.inr (hw _ (List.mem_of_getElem? (i := 25) rfl))) (Or.inr (hw _ (List.mem_of_getElem? (i := 19) rfl))) (by decide +kernel) (by decide +kernel) (by decide +kernel)))
  refine galoadN (pc' := 20) (Ls := #[.val (.ref a), .val v1, .val v2, .val v3, .val v4, .val v5, .val v6]) (rest := []) w174 d1_19 rfl rfl rfl ?_
  refine gaload (pc' := 22) (Ls := #[.val (.ref a), .val v1, .val v2, .val v3, .val v4, .val v5, .val v6]) (rest := [(.ref a)]) w174 d1_20 rfl r4 rfl ?_
  refine gputF (pc' := 25) (v' := v4) (ty := (.object "java/lang/String")) w174 d1_22 (hw _ (List.mem_of_getElem? (i := 20) rfl)) F180 E176 (Or.inr ⟨(hw _ (List.mem_of_getElem? (i := 21) rfl)), rfl, rfl⟩) (hw _ (List.mem_of_getElem? (i := 1) rfl)) (by decide +kernel) (own_nref r4) (own_fref r4) ga rfl (fun T183 h184 w185 W186 => ?_)
  have E187 := E176.wr W186
  have F188 := F177.other W186 (Or.inr (slot_ne (t := (.object "java/lang/String")) (t' := (.object "java/lang/String")) (Or.inr (hw _ (List.mem_of_getElem? (i := 15) rfl))) (Or.inr (hw _ (List.mem_of_getElem? (i := 21) rfl))) (by decide +kernel) (by decide +kernel) (by decide +kernel)))
  have F189 := F178.other W186 (Or.inr (slot_ne (t := (.object "java/lang/String")) (t' := (.object "java/lang/String")) (Or.inr (hw _ (List.mem_of_getElem? (i := 17) rfl))) (Or.inr (hw _ (List.mem_of_getElem? (i := 21) rfl))) (by decide +kernel) (by decide +kernel) (by decide +kernel)))
  have F190 := F179.other W186 (Or.inr (slot_ne (t := (.object "java/lang/String")) (t' := (.object "java/lang/String")) (Or.inr (hw _ (List.mem_of_getElem? (i := 19) rfl))) (Or.inr (hw _ (List.mem_of_getElem? (i := 21) rfl))) (by decide +kernel) (by decide +kernel) (by decide +kernel)))
  have F191 := F180.same W186
  have F192 := F181.other W186 (Or.inr (slot_ne (t := (.object "java/lang/Long")) (t' := (.object "java/lang/String")) (Or.inr (hw _ (List.mem_of_getElem? (i := 23) rfl))) (Or.inr (hw _ (List.mem_of_getElem? (i := 21) rfl))) (by decide +kernel) (by decide +kernel) (by decide +kernel)))
  have F193 := F182.other W186 (Or.inr (slot_ne (t := (.object "java/lang/Long")) (t' := (.object "java/lang/String")) (Or.inr (hw _ (List.mem_of_getElem? (i := 25) rfl))) (Or.inr (hw _ (List.mem_of_getElem? (i := 21) rfl))) (by decide +kernel) (by decide +kernel) (by decide +kernel)))
  refine galoadN (pc' := 26) (Ls := #[.val (.ref a), .val v1, .val v2, .val v3, .val v4, .val v5, .val v6]) (rest := []) w185 d1_25 rfl rfl rfl ?_
  refine gaload (pc' := 28) (Ls := #[.val (.ref a), .val v1, .val v2, .val v3, .val v4, .val v5, .val v6]) (rest := [(.ref a)]) w185 d1_26 rfl r5 rfl ?_
  refine gputF (pc' := 31) (v' := v5) (ty := (.object "java/lang/Long")) w185 d1_28 (hw _ (List.mem_of_getElem? (i := 22) rfl)) F192 E187 (Or.inr ⟨(hw _ (List.mem_of_getElem? (i := 23) rfl)), rfl, rfl⟩) (hw _ (List.mem_of_getElem? (i := 1) rfl)) (by decide +kernel) (own_nref r5) (own_fref r5) ga rfl (fun T194 h195 w196 W197 => ?_)
  have E198 := E187.wr W197
  have F199 := F188.other W197 (Or.inr (slot_ne (t := (.object "java/lang/String")) (t' := (.object "java/lang/Long")) (Or.inr (hw _ (List.mem_of_getElem? (i := 15) rfl))) (Or.inr (hw _ (List.mem_of_getElem? (i := 23) rfl))) (by decide +kernel) (by decide +kernel) (by decide +kernel)))
  have F200 := F189.other W197 (Or.inr (slot_ne (t := (.object "java/lang/String")) (t' := (.object "java/lang/Long")) (Or.inr (hw _ (List.mem_of_getElem? (i := 17) rfl))) (Or.inr (hw _ (List.mem_of_getElem? (i := 23) rfl))) (by decide +kernel) (by decide +kernel) (by decide +kernel)))
  have F201 := F190.other W197 (Or.inr (slot_ne (t := (.object "java/lang/String")) (t' := (.object "java/lang/Long")) (Or.inr (hw _ (List.mem_of_getElem? (i := 19) rfl))) (Or.inr (hw _ (List.mem_of_getElem? (i := 23) rfl))) (by decide +kernel) (by decide +kernel) (by decide +kernel)))
  have F202 := F191.other W197 (Or.inr (slot_ne (t := (.object "java/lang/String")) (t' := (.object "java/lang/Long")) (Or.inr (hw _ (List.mem_of_getElem? (i := 21) rfl))) (Or.inr (hw _ (List.mem_of_getElem? (i := 23) rfl))) (by decide +kernel) (by decide +kernel) (by decide +kernel)))
  have F203 := F192.same W197
  have F204 := F193.other W197 (Or.inr (slot_ne (t := (.object "java/lang/Long")) (t' := (.object "java/lang/Long")) (Or.inr (hw _ (List.mem_of_getElem? (i := 25) rfl))) (Or.inr (hw _ (List.mem_of_getElem? (i := 23) rfl))) (by decide +kernel) (by decide +kernel) (by decide +kernel)))
  refine galoadN (pc' := 32) (Ls := #[.val (.ref a), .val v1, .val v2, .val v3, .val v4, .val v5, .val v6]) (rest := []) w196 d1_31 rfl rfl rfl ?_
  refine gaload (pc' := 34) (Ls := #[.val (.ref a), .val v1, .val v2, .val v3, .val v4, .val v5, .val v6]) (rest := [(.ref a)]) w196 d1_32 rfl r6 rfl ?_
  refine gputF (pc' := 37) (v' := v6) (ty := (.object "java/lang/Long")) w196 d1_34 (hw _ (List.mem_of_getElem? (i := 24) rfl)) F204 E198 (Or.inr ⟨(hw _ (List.mem_of_getElem? (i := 25) rfl)), rfl, rfl⟩) (hw _ (List.mem_of_getElem? (i := 1) rfl)) (by decide +kernel) (own_nref r6) (own_fref r6) ga rfl (fun T205 h206 w207 W208 => ?_)
  have E209 := E198.wr W208
  have F210 := F199.other W208 (Or.inr (slot_ne (t := (.object "java/lang/String")) (t' := (.object "java/lang/Long")) (Or.inr (hw _ (List.mem_of_getElem? (i := 15) rfl))) (Or.inr (hw _ (List.mem_of_getElem? (i := 25) rfl))) (by decide +kernel) (by decide +kernel) (by decide +kernel)))
  have F211 := F200.other W208 (Or.inr (slot_ne (t := (.object "java/lang/String")) (t' := (.object "java/lang/Long")) (Or.inr (hw _ (List.mem_of_getElem? (i := 17) rfl))) (Or.inr (hw _ (List.mem_of_getElem? (i := 25) rfl))) (by decide +kernel) (by decide +kernel) (by decide +kernel)))
  have F212 := F201.other W208 (Or.inr (slot_ne (t := (.object "java/lang/String")) (t' := (.object "java/lang/Long")) (Or.inr (hw _ (List.mem_of_getElem? (i := 19) rfl))) (Or.inr (hw _ (List.mem_of_getElem? (i := 25) rfl))) (by decide +kernel) (by decide +kernel) (by decide +kernel)))
  have F213 := F202.other W208 (Or.inr (slot_ne (t := (.object "java/lang/String")) (t' := (.object "java/lang/Long")) (Or.inr (hw _ (List.mem_of_getElem? (i := 21) rfl))) (Or.inr (hw _ (List.mem_of_getElem? (i := 25) rfl))) (by decide +kernel) (by decide +kernel) (by decide +kernel)))
  have F214 := F203.other W208 (Or.inr (slot_ne (t := (.object "java/lang/Long")) (t' := (.object "java/lang/Long")) (Or.inr (hw _ (List.mem_of_getElem? (i := 23) rfl))) (Or.inr (hw _ (List.mem_of_getElem? (i := 25) rfl))) (by decide +kernel) (by decide +kernel) (by decide +kernel)))
  have F215 := F204.same W208
  exact gret0 w207 d1_37 (by decide +kernel) (by decide +kernel) ⟨rfl, E209, F210, F211, F212, F213, F214, F215⟩
def own_ic (v1 v2 v3 v4 v5 v6 : Value) : Int32 := if v1 = .null then 0 else if v2 = .null then 0 else if v3 = .null then 0 else if v4 = .null then 0 else if v5 = .null then 0 else if v6 = .null then 0 else 1
set_option maxRecDepth 65536 in
set_option maxHeartbeats 4000000 in
theorem own_isc (hw : ∀ d ∈ tables_1, d.before a0 Z = true) (a : Addr) (v1 v2 v3 v4 v5 v6 : Value) (F0 : Fld Z h a "com/example/kindred/kindred/index/SongTag" "title" "Ljava/lang/String;" v1) (F1 : Fld Z h a "com/example/kindred/kindred/index/SongTag" "artist" "Ljava/lang/String;" v2) (F2 : Fld Z h a "com/example/kindred/kindred/index/SongTag" "album" "Ljava/lang/String;" v3) (F3 : Fld Z h a "com/example/kindred/kindred/index/SongTag" "genre" "Ljava/lang/String;" v4) (F4 : Fld Z h a "com/example/kindred/kindred/index/SongTag" "year" "Ljava/lang/Long;" v5) (F5 : Fld Z h a "com/example/kindred/kindred/index/SongTag" "track" "Ljava/lang/Long;" v6) (r1 : v1.isRef = true) (r2 : v2.isRef = true) (r3 : v3.isRef = true) (r4 : v4.isRef = true) (r5 : v5.isRef = true) (r6 : v6.isRef = true) :
    Ctr l (⟨"com/example/kindred/kindred/index/SongTag", "isComplete", "()Z"⟩ : MethodName) prog_31_method_2_code 1 (some .boolean) ({ frames := 0, cells := 0, slots := 0, locals := 0 } : Room) Z #[(.ref a)] h n0 (fun v h' => v = some (.int (own_ic v1 v2 v3 v4 v5 v6)) ∧ h' = h) [] := by
  refine metGo (Ls := #[.val (.ref a)]) pn_d4 (fun m => by first | rfl | (simp [entryFrame, mkF, argsToLocals, Value.category]; done) | (simp [entryFrame, mkF, argsToLocals, Value.category, maxLocals]; done)) ?_
  intro p e s m below meth c T w
  refine galoadN (pc' := 1) (Ls := #[.val (.ref a)]) (rest := []) w d4_0 rfl rfl rfl ?_
  refine ggetF (pc' := 4) w d4_1 (hw _ (List.mem_of_getElem? (i := 14) rfl)) F0 rfl (fun T216 w217 => ?_)
  refine gifnullV (pt := 46) (pf := 7) w217 d4_4 (by decide +kernel) rfl rfl r1 (fun (c4 : v1 = .null) => ?_) (fun (c4 : ¬ v1 = .null) => ?_)
  · refine giconst (v := (0 : Int32)) (pc' := 47) w217 d4_46 rfl rfl ?_
    exact gretZ w217 d4_47 rfl (by decide +kernel) (by decide +kernel) ⟨by unfold own_ic; rw [if_pos c4], rfl⟩
  · refine galoadN (pc' := 8) (Ls := #[.val (.ref a)]) (rest := []) w217 d4_7 rfl rfl rfl ?_
    refine ggetF (pc' := 11) w217 d4_8 (hw _ (List.mem_of_getElem? (i := 16) rfl)) F1 rfl (fun T218 w219 => ?_)
    refine gifnullV (pt := 46) (pf := 14) w219 d4_11 (by decide +kernel) rfl rfl r2 (fun (c11 : v2 = .null) => ?_) (fun (c11 : ¬ v2 = .null) => ?_)
    · refine giconst (v := (0 : Int32)) (pc' := 47) w219 d4_46 rfl rfl ?_
      exact gretZ w219 d4_47 rfl (by decide +kernel) (by decide +kernel) ⟨by unfold own_ic; rw [if_neg c4, if_pos c11], rfl⟩
    · refine galoadN (pc' := 15) (Ls := #[.val (.ref a)]) (rest := []) w219 d4_14 rfl rfl rfl ?_
      refine ggetF (pc' := 18) w219 d4_15 (hw _ (List.mem_of_getElem? (i := 18) rfl)) F2 rfl (fun T220 w221 => ?_)
      refine gifnullV (pt := 46) (pf := 21) w221 d4_18 (by decide +kernel) rfl rfl r3 (fun (c18 : v3 = .null) => ?_) (fun (c18 : ¬ v3 = .null) => ?_)
      · refine giconst (v := (0 : Int32)) (pc' := 47) w221 d4_46 rfl rfl ?_
        exact gretZ w221 d4_47 rfl (by decide +kernel) (by decide +kernel) ⟨by unfold own_ic; rw [if_neg c4, if_neg c11, if_pos c18], rfl⟩
      · refine galoadN (pc' := 22) (Ls := #[.val (.ref a)]) (rest := []) w221 d4_21 rfl rfl rfl ?_
        refine ggetF (pc' := 25) w221 d4_22 (hw _ (List.mem_of_getElem? (i := 20) rfl)) F3 rfl (fun T222 w223 => ?_)
        refine gifnullV (pt := 46) (pf := 28) w223 d4_25 (by decide +kernel) rfl rfl r4 (fun (c25 : v4 = .null) => ?_) (fun (c25 : ¬ v4 = .null) => ?_)
        · refine giconst (v := (0 : Int32)) (pc' := 47) w223 d4_46 rfl rfl ?_
          exact gretZ w223 d4_47 rfl (by decide +kernel) (by decide +kernel) ⟨by unfold own_ic; rw [if_neg c4, if_neg c11, if_neg c18, if_pos c25], rfl⟩
        · refine galoadN (pc' := 29) (Ls := #[.val (.ref a)]) (rest := []) w223 d4_28 rfl rfl rfl ?_
          refine ggetF (pc' := 32) w223 d4_29 (hw _ (List.mem_of_getElem? (i := 22) rfl)) F4 rfl (fun T224 w225 => ?_)
          refine gifnullV (pt := 46) (pf := 35) w225 d4_32 (by decide +kernel) rfl rfl r5 (fun (c32 : v5 = .null) => ?_) (fun (c32 : ¬ v5 = .null) => ?_)
          · refine giconst (v := (0 : Int32)) (pc' := 47) w225 d4_46 rfl rfl ?_
            exact gretZ w225 d4_47 rfl (by decide +kernel) (by decide +kernel) ⟨by unfold own_ic; rw [if_neg c4, if_neg c11, if_neg c18, if_neg c25, if_pos c32], rfl⟩
          · refine galoadN (pc' := 36) (Ls := #[.val (.ref a)]) (rest := []) w225 d4_35 rfl rfl rfl ?_
            refine ggetF (pc' := 39) w225 d4_36 (hw _ (List.mem_of_getElem? (i := 24) rfl)) F5 rfl (fun T226 w227 => ?_)
            refine gifnullV (pt := 46) (pf := 42) w227 d4_39 (by decide +kernel) rfl rfl r6 (fun (c39 : v6 = .null) => ?_) (fun (c39 : ¬ v6 = .null) => ?_)
            · refine giconst (v := (0 : Int32)) (pc' := 47) w227 d4_46 rfl rfl ?_
              exact gretZ w227 d4_47 rfl (by decide +kernel) (by decide +kernel) ⟨by unfold own_ic; rw [if_neg c4, if_neg c11, if_neg c18, if_neg c25, if_neg c32, if_pos c39], rfl⟩
            · refine giconst (v := (1 : Int32)) (pc' := 43) w227 d4_42 rfl rfl ?_
              refine ggoto (pc' := 47) w227 d4_43 (by decide +kernel) rfl ?_
              exact gretZ w227 d4_47 rfl (by decide +kernel) (by decide +kernel) ⟨by unfold own_ic; rw [if_neg c4, if_neg c11, if_neg c18, if_neg c25, if_neg c32, if_neg c39], rfl⟩
def own_R (x : Int32) (v : Value) : Prop := (x = 0 ∧ v = .null) ∨ (¬ x = 0 ∧ ∃ a, v = .ref a)
theorem own_R_ref {x : Int32} {v : Value} (q : own_R x v) : v.isRef = true := by
  rcases q with ⟨-, rfl⟩ | ⟨-, a, rfl⟩ <;> rfl
theorem own_R_n {x : Int32} {v : Value} (q : own_R x v) (r : v = .null) : x = 0 := by
  rcases q with ⟨u, -⟩ | ⟨-, a, e⟩
  · exact u
  · rw [e] at r; cases r
theorem own_R_y {x : Int32} {v : Value} (q : own_R x v) (r : ¬ v = .null) : ¬ x = 0 := by
  rcases q with ⟨-, u⟩ | ⟨u, -⟩
  · exact absurd u r
  · exact u
theorem own_63 (k : Int32) : (k &&& (63 : Int32)) = 63 ↔ (¬ (k &&& (1 : Int32)) = 0 ∧ ¬ (k &&& (2 : Int32)) = 0 ∧ ¬ (k &&& (4 : Int32)) = 0 ∧ ¬ (k &&& (8 : Int32)) = 0 ∧ ¬ (k &&& (16 : Int32)) = 0 ∧ ¬ (k &&& (32 : Int32)) = 0) := by
  have e : (k &&& (63 : Int32)).toInt = k.toInt % 2 ^ 6 := Jvm.Kit.i32_mask k 63 (k := 6) (by decide +kernel) (by decide +kernel)
  have hx : ∃ q : Fin 64, (k &&& (63 : Int32)) = Int32.ofInt (q.1 : Int) := by
    refine ⟨⟨(k.toInt % 2 ^ 6).toNat, by omega⟩, Int32.toInt_inj.mp ?_⟩
    have r : ((k.toInt % 2 ^ 6).toNat : Int) = k.toInt % 2 ^ 6 := by omega
    show (k &&& (63 : Int32)).toInt = (Int32.ofInt ((k.toInt % 2 ^ 6).toNat : Int)).toInt
    rw [e, r, Int32.toInt_ofInt_of_le (by omega) (by omega)]
  obtain ⟨q, hq⟩ := hx
  have a : ∀ c : Int32, ((63 : Int32) &&& c) = c → (k &&& c) = (Int32.ofInt (q.1 : Int) &&& c) := fun c hc => by rw [← hq, Int32.and_assoc, hc]
  rw [hq, a 1 (by decide +kernel), a 2 (by decide +kernel), a 4 (by decide +kernel), a 8 (by decide +kernel), a 16 (by decide +kernel), a 32 (by decide +kernel)]
  revert q
  have g : ∀ q : Fin 64, Int32.ofInt (q.1 : Int) = 63 ↔ (¬ (Int32.ofInt (q.1 : Int) &&& (1 : Int32)) = 0 ∧ ¬ (Int32.ofInt (q.1 : Int) &&& (2 : Int32)) = 0 ∧ ¬ (Int32.ofInt (q.1 : Int) &&& (4 : Int32)) = 0 ∧ ¬ (Int32.ofInt (q.1 : Int) &&& (8 : Int32)) = 0 ∧ ¬ (Int32.ofInt (q.1 : Int) &&& (16 : Int32)) = 0 ∧ ¬ (Int32.ofInt (q.1 : Int) &&& (32 : Int32)) = 0) := by decide +kernel
  intro q _ _
  exact g q
theorem own_icy {v1 v2 v3 v4 v5 v6 : Value} {k : Int32} (R1 : own_R (k &&& (1 : Int32)) v1) (R2 : own_R (k &&& (2 : Int32)) v2) (R3 : own_R (k &&& (4 : Int32)) v3) (R4 : own_R (k &&& (8 : Int32)) v4) (R5 : own_R (k &&& (16 : Int32)) v5) (R6 : own_R (k &&& (32 : Int32)) v6) (q : (k &&& (63 : Int32)) = 63) : own_ic v1 v2 v3 v4 v5 v6 = 1 := by
  obtain ⟨q1, q2, q3, q4, q5, q6⟩ := (own_63 k).mp q
  unfold own_ic
  rw [if_neg (fun r => q1 (own_R_n R1 r)), if_neg (fun r => q2 (own_R_n R2 r)), if_neg (fun r => q3 (own_R_n R3 r)), if_neg (fun r => q4 (own_R_n R4 r)), if_neg (fun r => q5 (own_R_n R5 r)), if_neg (fun r => q6 (own_R_n R6 r))]
theorem own_icn {v1 v2 v3 v4 v5 v6 : Value} {k : Int32} (R1 : own_R (k &&& (1 : Int32)) v1) (R2 : own_R (k &&& (2 : Int32)) v2) (R3 : own_R (k &&& (4 : Int32)) v3) (R4 : own_R (k &&& (8 : Int32)) v4) (R5 : own_R (k &&& (16 : Int32)) v5) (R6 : own_R (k &&& (32 : Int32)) v6) (q : ¬ (k &&& (63 : Int32)) = 63) : own_ic v1 v2 v3 v4 v5 v6 = 0 := by
  unfold own_ic
  by_cases n1 : v1 = .null
  · rw [if_pos n1]
  by_cases n2 : v2 = .null
  · rw [if_neg n1, if_pos n2]
  by_cases n3 : v3 = .null
  · rw [if_neg n1, if_neg n2, if_pos n3]
  by_cases n4 : v4 = .null
  · rw [if_neg n1, if_neg n2, if_neg n3, if_pos n4]
  by_cases n5 : v5 = .null
  · rw [if_neg n1, if_neg n2, if_neg n3, if_neg n4, if_pos n5]
  by_cases n6 : v6 = .null
  · rw [if_neg n1, if_neg n2, if_neg n3, if_neg n4, if_neg n5, if_pos n6]
  exact absurd ((own_63 k).mpr ⟨own_R_y R1 n1, own_R_y R2 n2, own_R_y R3 n3, own_R_y R4 n4, own_R_y R5 n5, own_R_y R6 n6⟩) q
theorem own_sto {x : Int32} {v : Value} {Ls : Array Slot} {j : Nat} {f : Value → Array Slot} (q : own_R x v) (h1 : storeLocals Ls j .null = some (f .null)) (h2 : ∀ a, storeLocals Ls j (.ref a) = some (f (.ref a))) : storeLocals Ls j v = some (f v) := by
  rcases q with ⟨-, rfl⟩ | ⟨-, a, rfl⟩
  · exact h1
  · exact h2 a
set_option maxRecDepth 65536 in
set_option maxHeartbeats 4000000 in
theorem own_b106 (hw : ∀ d ∈ tables_1, d.before a0 Z = true) (w : W Z "com/example/kindred/kindred/index/SongTagIsCompletePinLaw" "law" code maxLocals ret n0 p l e room_1 s m args below meth c 10 22 T h) (mk' c1 c2 : Int32) (y' t' : Int64) (v1 v2 v3 v4 v5 v6 : Value) (z0 : n0 ≤ h.size) (R1 : own_R (mk' &&& (1 : Int32)) v1) (R2 : own_R (mk' &&& (2 : Int32)) v2) (R3 : own_R (mk' &&& (4 : Int32)) v3) (R4 : own_R (mk' &&& (8 : Int32)) v4) (R5 : own_R (mk' &&& (16 : Int32)) v5) (R6 : own_R (mk' &&& (32 : Int32)) v6) :
    Go n0 p e below s (fun v _ => v = some (.int 1)) room_1.cells room_1.slots T (mkF m 106 #[.val (.int mk'), .val (.int c1), .val (.int c2), .val (.long y'), .second, .val (.long t'), .second, .val v1, .val v2, .val v3, .val v4, .val v5, .val v6, .unset, .unset] []) := by
  refine gnewO (pc' := 109) w at_106 (hw _ (List.mem_of_getElem? (i := 0) rfl)) (hw _ (List.mem_of_getElem? (i := 1) rfl)) (hw _ (List.mem_of_getElem? (i := 2) rfl)) (by decide +kernel) (by decide +kernel) rfl (fun T228 h229 a s230 w231 E232 A233 D234 => ?_)
  have g_a : n0 ≤ a := Nat.le_trans z0 (Nat.le_of_eq s230)
  have z235 := Nat.le_trans z0 E232.1
  have F236 : Fld Z h229 a "com/example/kindred/kindred/index/SongTag" "title" "Ljava/lang/String;" .null := D234 (Or.inr (hw _ (List.mem_of_getElem? (i := 15) rfl))) (ty := (.object "java/lang/String")) (by decide +kernel)
  have F237 : Fld Z h229 a "com/example/kindred/kindred/index/SongTag" "artist" "Ljava/lang/String;" .null := D234 (Or.inr (hw _ (List.mem_of_getElem? (i := 17) rfl))) (ty := (.object "java/lang/String")) (by decide +kernel)
  have F238 : Fld Z h229 a "com/example/kindred/kindred/index/SongTag" "album" "Ljava/lang/String;" .null := D234 (Or.inr (hw _ (List.mem_of_getElem? (i := 19) rfl))) (ty := (.object "java/lang/String")) (by decide +kernel)
  have F239 : Fld Z h229 a "com/example/kindred/kindred/index/SongTag" "genre" "Ljava/lang/String;" .null := D234 (Or.inr (hw _ (List.mem_of_getElem? (i := 21) rfl))) (ty := (.object "java/lang/String")) (by decide +kernel)
  have F240 : Fld Z h229 a "com/example/kindred/kindred/index/SongTag" "year" "Ljava/lang/Long;" .null := D234 (Or.inr (hw _ (List.mem_of_getElem? (i := 23) rfl))) (ty := (.object "java/lang/Long")) (by decide +kernel)
  have F241 : Fld Z h229 a "com/example/kindred/kindred/index/SongTag" "track" "Ljava/lang/Long;" .null := D234 (Or.inr (hw _ (List.mem_of_getElem? (i := 25) rfl))) (ty := (.object "java/lang/Long")) (by decide +kernel)
  refine gdup (pc' := 110) w231 at_109 rfl rfl ?_
  refine gaload (pc' := 112) (Ls := #[.val (.int mk'), .val (.int c1), .val (.int c2), .val (.long y'), .second, .val (.long t'), .second, .val v1, .val v2, .val v3, .val v4, .val v5, .val v6, .unset, .unset]) (rest := [(.ref a), (.ref a)]) w231 at_110 rfl (own_R_ref R1) rfl ?_
  refine gaload (pc' := 114) (Ls := #[.val (.int mk'), .val (.int c1), .val (.int c2), .val (.long y'), .second, .val (.long t'), .second, .val v1, .val v2, .val v3, .val v4, .val v5, .val v6, .unset, .unset]) (rest := [v1, (.ref a), (.ref a)]) w231 at_112 rfl (own_R_ref R2) rfl ?_
  refine gaload (pc' := 116) (Ls := #[.val (.int mk'), .val (.int c1), .val (.int c2), .val (.long y'), .second, .val (.long t'), .second, .val v1, .val v2, .val v3, .val v4, .val v5, .val v6, .unset, .unset]) (rest := [v2, v1, (.ref a), (.ref a)]) w231 at_114 rfl (own_R_ref R3) rfl ?_
  refine gaload (pc' := 118) (Ls := #[.val (.int mk'), .val (.int c1), .val (.int c2), .val (.long y'), .second, .val (.long t'), .second, .val v1, .val v2, .val v3, .val v4, .val v5, .val v6, .unset, .unset]) (rest := [v3, v2, v1, (.ref a), (.ref a)]) w231 at_116 rfl (own_R_ref R4) rfl ?_
  refine gaload (pc' := 120) (Ls := #[.val (.int mk'), .val (.int c1), .val (.int c2), .val (.long y'), .second, .val (.long t'), .second, .val v1, .val v2, .val v3, .val v4, .val v5, .val v6, .unset, .unset]) (rest := [v4, v3, v2, v1, (.ref a), (.ref a)]) w231 at_118 rfl (own_R_ref R5) rfl ?_
  refine gaload (pc' := 122) (Ls := #[.val (.int mk'), .val (.int c1), .val (.int c2), .val (.long y'), .second, .val (.long t'), .second, .val v1, .val v2, .val v3, .val v4, .val v5, .val v6, .unset, .unset]) (rest := [v5, v4, v3, v2, v1, (.ref a), (.ref a)]) w231 at_120 rfl (own_R_ref R6) rfl ?_
  refine gcallN (pc' := 125) (argsL := [v1, v2, v3, v4, v5, v6]) (rest := [(.ref a)]) (Wt := 1) w231 at_122 (hw _ (List.mem_of_getElem? (i := 3) rfl)) (hw _ (List.mem_of_getElem? (i := 4) rfl)) (hw _ (List.mem_of_getElem? (i := 2) rfl)) (hw _ (List.mem_of_getElem? (i := 5) rfl)) rfl (by decide +kernel) pd_d1 (own_ini hw a v1 v2 v3 v4 v5 v6 g_a A233 F236 F237 F238 F239 F240 F241 (own_R_ref R1) (own_R_ref R2) (own_R_ref R3) (own_R_ref R4) (own_R_ref R5) (own_R_ref R6)) rfl rfl rfl rfl (Nat.le_of_eq rfl) (by decide +kernel) (by decide +kernel) (by decide +kernel) (by decide +kernel) rfl (fun v242 T243 h244 w245 q246 => ?_)
  obtain ⟨rfl, EE, G0, G1, G2, G3, G4, G5⟩ := q246
  show Go _ _ _ _ _ _ _ _ _ (mkF m 125 #[.val (.int mk'), .val (.int c1), .val (.int c2), .val (.long y'), .second, .val (.long t'), .second, .val v1, .val v2, .val v3, .val v4, .val v5, .val v6, .unset, .unset] [(.ref a)])
  refine gastore (pc' := 127) (Ls := #[.val (.int mk'), .val (.int c1), .val (.int c2), .val (.long y'), .second, .val (.long t'), .second, .val v1, .val v2, .val v3, .val v4, .val v5, .val v6, .unset, .unset]) (Ls' := #[.val (.int mk'), .val (.int c1), .val (.int c2), .val (.long y'), .second, .val (.long t'), .second, .val v1, .val v2, .val v3, .val v4, .val v5, .val v6, .val (.ref a), .unset]) (rest := []) w245 at_125 rfl rfl rfl ?_
  refine giloadN (pc' := 128) (Ls := #[.val (.int mk'), .val (.int c1), .val (.int c2), .val (.long y'), .second, .val (.long t'), .second, .val v1, .val v2, .val v3, .val v4, .val v5, .val v6, .val (.ref a), .unset]) (rest := []) w245 at_127 rfl rfl ?_
  refine gbipush (v := (63 : Int32)) (pc' := 130) w245 at_128 rfl rfl ?_
  refine giand (pc' := 131) w245 at_130 rfl ?_
  refine gbipush (v := (63 : Int32)) (pc' := 133) w245 at_131 rfl rfl ?_
  refine gicmp (pt := 140) (pf := 136) w245 at_133  (by decide +kernel) rfl rfl (fun (c133 : ¬ (mk' &&& (63 : Int32)) = (63 : Int32)) => ?_) (fun (c133 : (mk' &&& (63 : Int32)) = (63 : Int32)) => ?_)
  · refine giconst (v := (0 : Int32)) (pc' := 141) w245 at_140 rfl rfl ?_
    refine gistore (pc' := 143) (Ls := #[.val (.int mk'), .val (.int c1), .val (.int c2), .val (.long y'), .second, .val (.long t'), .second, .val v1, .val v2, .val v3, .val v4, .val v5, .val v6, .val (.ref a), .unset]) (Ls' := #[.val (.int mk'), .val (.int c1), .val (.int c2), .val (.long y'), .second, .val (.long t'), .second, .val v1, .val v2, .val v3, .val v4, .val v5, .val v6, .val (.ref a), .val (.int (0 : Int32))]) (rest := []) w245 at_141 rfl rfl ?_
    refine gaload (pc' := 145) (Ls := #[.val (.int mk'), .val (.int c1), .val (.int c2), .val (.long y'), .second, .val (.long t'), .second, .val v1, .val v2, .val v3, .val v4, .val v5, .val v6, .val (.ref a), .val (.int (0 : Int32))]) (rest := []) w245 at_143 rfl rfl rfl ?_
    refine gcallV (pc' := 148) (argsL := []) (rest := []) (Wt := 0) w245 at_145 (hw _ (List.mem_of_getElem? (i := 26) rfl)) (hw _ (List.mem_of_getElem? (i := 27) rfl)) (hw _ (List.mem_of_getElem? (i := 29) rfl)) (hw _ (List.mem_of_getElem? (i := 28) rfl)) (hw _ (List.mem_of_getElem? (i := 2) rfl)) (hw _ (List.mem_of_getElem? (i := 30) rfl)) EE rfl (by decide +kernel) pd_d4 (own_isc hw a v1 v2 v3 v4 v5 v6 G0 G1 G2 G3 G4 G5 (own_R_ref R1) (own_R_ref R2) (own_R_ref R3) (own_R_ref R4) (own_R_ref R5) (own_R_ref R6)) rfl rfl rfl rfl (Nat.le_of_eq rfl) (by decide +kernel) (by decide +kernel) (by decide +kernel) (by decide +kernel) rfl (fun v247 T248 h249 w250 q251 => ?_)
    obtain ⟨rfl, eh⟩ := q251
    show Go _ _ _ _ _ _ _ _ _ (mkF m 148 #[.val (.int mk'), .val (.int c1), .val (.int c2), .val (.long y'), .second, .val (.long t'), .second, .val v1, .val v2, .val v3, .val v4, .val v5, .val v6, .val (.ref a), .val (.int (0 : Int32))] [(.int (own_ic v1 v2 v3 v4 v5 v6))])
    rw [eh] at w250
    refine giload (pc' := 150) (Ls := #[.val (.int mk'), .val (.int c1), .val (.int c2), .val (.long y'), .second, .val (.long t'), .second, .val v1, .val v2, .val v3, .val v4, .val v5, .val v6, .val (.ref a), .val (.int (0 : Int32))]) (rest := [(.int (own_ic v1 v2 v3 v4 v5 v6))]) w250 at_148 rfl rfl ?_
    refine gicmp (pt := 157) (pf := 153) w250 at_150  (by decide +kernel) rfl rfl (fun (c150 : ¬ (own_ic v1 v2 v3 v4 v5 v6) = (0 : Int32)) => ?_) (fun (c150 : (own_ic v1 v2 v3 v4 v5 v6) = (0 : Int32)) => ?_)
    · refine giconst (v := (0 : Int32)) (pc' := 158) w250 at_157 rfl rfl ?_
      exact absurd (own_icn R1 R2 R3 R4 R5 R6 c133) c150
    · refine giconst (v := (1 : Int32)) (pc' := 154) w250 at_153 rfl rfl ?_
      refine ggoto (pc' := 158) w250 at_154 (by decide +kernel) rfl ?_
      exact gretZ w250 at_158 rfl (by decide +kernel) (by decide +kernel) rfl
  · refine giconst (v := (1 : Int32)) (pc' := 137) w245 at_136 rfl rfl ?_
    refine ggoto (pc' := 141) w245 at_137 (by decide +kernel) rfl ?_
    refine gistore (pc' := 143) (Ls := #[.val (.int mk'), .val (.int c1), .val (.int c2), .val (.long y'), .second, .val (.long t'), .second, .val v1, .val v2, .val v3, .val v4, .val v5, .val v6, .val (.ref a), .unset]) (Ls' := #[.val (.int mk'), .val (.int c1), .val (.int c2), .val (.long y'), .second, .val (.long t'), .second, .val v1, .val v2, .val v3, .val v4, .val v5, .val v6, .val (.ref a), .val (.int (1 : Int32))]) (rest := []) w245 at_141 rfl rfl ?_
    refine gaload (pc' := 145) (Ls := #[.val (.int mk'), .val (.int c1), .val (.int c2), .val (.long y'), .second, .val (.long t'), .second, .val v1, .val v2, .val v3, .val v4, .val v5, .val v6, .val (.ref a), .val (.int (1 : Int32))]) (rest := []) w245 at_143 rfl rfl rfl ?_
    refine gcallV (pc' := 148) (argsL := []) (rest := []) (Wt := 0) w245 at_145 (hw _ (List.mem_of_getElem? (i := 26) rfl)) (hw _ (List.mem_of_getElem? (i := 27) rfl)) (hw _ (List.mem_of_getElem? (i := 29) rfl)) (hw _ (List.mem_of_getElem? (i := 28) rfl)) (hw _ (List.mem_of_getElem? (i := 2) rfl)) (hw _ (List.mem_of_getElem? (i := 30) rfl)) EE rfl (by decide +kernel) pd_d4 (own_isc hw a v1 v2 v3 v4 v5 v6 G0 G1 G2 G3 G4 G5 (own_R_ref R1) (own_R_ref R2) (own_R_ref R3) (own_R_ref R4) (own_R_ref R5) (own_R_ref R6)) rfl rfl rfl rfl (Nat.le_of_eq rfl) (by decide +kernel) (by decide +kernel) (by decide +kernel) (by decide +kernel) rfl (fun v252 T253 h254 w255 q256 => ?_)
    obtain ⟨rfl, eh⟩ := q256
    show Go _ _ _ _ _ _ _ _ _ (mkF m 148 #[.val (.int mk'), .val (.int c1), .val (.int c2), .val (.long y'), .second, .val (.long t'), .second, .val v1, .val v2, .val v3, .val v4, .val v5, .val v6, .val (.ref a), .val (.int (1 : Int32))] [(.int (own_ic v1 v2 v3 v4 v5 v6))])
    rw [eh] at w255
    refine giload (pc' := 150) (Ls := #[.val (.int mk'), .val (.int c1), .val (.int c2), .val (.long y'), .second, .val (.long t'), .second, .val v1, .val v2, .val v3, .val v4, .val v5, .val v6, .val (.ref a), .val (.int (1 : Int32))]) (rest := [(.int (own_ic v1 v2 v3 v4 v5 v6))]) w255 at_148 rfl rfl ?_
    refine gicmp (pt := 157) (pf := 153) w255 at_150  (by decide +kernel) rfl rfl (fun (c150 : ¬ (own_ic v1 v2 v3 v4 v5 v6) = (1 : Int32)) => ?_) (fun (c150 : (own_ic v1 v2 v3 v4 v5 v6) = (1 : Int32)) => ?_)
    · refine giconst (v := (0 : Int32)) (pc' := 158) w255 at_157 rfl rfl ?_
      exact absurd (own_icy R1 R2 R3 R4 R5 R6 c133) c150
    · refine giconst (v := (1 : Int32)) (pc' := 154) w255 at_153 rfl rfl ?_
      refine ggoto (pc' := 158) w255 at_154 (by decide +kernel) rfl ?_
      exact gretZ w255 at_158 rfl (by decide +kernel) (by decide +kernel) rfl
set_option maxRecDepth 65536 in
set_option maxHeartbeats 4000000 in
theorem own_j5 (hw : ∀ d ∈ tables_1, d.before a0 Z = true) (w : W Z "com/example/kindred/kindred/index/SongTagIsCompletePinLaw" "law" code maxLocals ret n0 p l e room_1 s m args below meth c 10 22 T h) (mk' c1 c2 : Int32) (y' t' : Int64) (v1 v2 v3 v4 v5 v6 : Value) (cs : Int32) (z0 : n0 ≤ h.size) (hcs : ¬ cs = (0 : Int32)) (SC : Sta Z h "java/lang/String" "COMPACT_STRINGS" "Z" (.int cs)) (LC : own_LC Z h) (R1 : own_R (mk' &&& (1 : Int32)) v1) (R2 : own_R (mk' &&& (2 : Int32)) v2) (R3 : own_R (mk' &&& (4 : Int32)) v3) (R4 : own_R (mk' &&& (8 : Int32)) v4) (R5 : own_R (mk' &&& (16 : Int32)) v5) (R6 : own_R (mk' &&& (32 : Int32)) v6) :
    Go n0 p e below s (fun v _ => v = some (.int 1)) room_1.cells room_1.slots T (mkF m 104 #[.val (.int mk'), .val (.int c1), .val (.int c2), .val (.long y'), .second, .val (.long t'), .second, .val v1, .val v2, .val v3, .val v4, .val v5, .unset, .unset, .unset] [v6]) := by
  refine gastore (pc' := 106) (Ls := #[.val (.int mk'), .val (.int c1), .val (.int c2), .val (.long y'), .second, .val (.long t'), .second, .val v1, .val v2, .val v3, .val v4, .val v5, .unset, .unset, .unset]) (Ls' := #[.val (.int mk'), .val (.int c1), .val (.int c2), .val (.long y'), .second, .val (.long t'), .second, .val v1, .val v2, .val v3, .val v4, .val v5, .val v6, .unset, .unset]) (rest := []) w at_104 (own_R_ref R6) (by rcases ref_cases (own_R_ref R6) with q | ⟨x, q⟩ <;> rw [q] <;> rfl) rfl ?_
  exact own_b106 hw w mk' c1 c2 y' t' v1 v2 v3 v4 v5 v6 z0 R1 R2 R3 R4 R5 R6
set_option maxRecDepth 65536 in
set_option maxHeartbeats 4000000 in
theorem own_j4 (hw : ∀ d ∈ tables_1, d.before a0 Z = true) (w : W Z "com/example/kindred/kindred/index/SongTagIsCompletePinLaw" "law" code maxLocals ret n0 p l e room_1 s m args below meth c 9 21 T h) (mk' c1 c2 : Int32) (y' t' : Int64) (v1 v2 v3 v4 v5 : Value) (cs : Int32) (z0 : n0 ≤ h.size) (hcs : ¬ cs = (0 : Int32)) (SC : Sta Z h "java/lang/String" "COMPACT_STRINGS" "Z" (.int cs)) (LC : own_LC Z h) (R1 : own_R (mk' &&& (1 : Int32)) v1) (R2 : own_R (mk' &&& (2 : Int32)) v2) (R3 : own_R (mk' &&& (4 : Int32)) v3) (R4 : own_R (mk' &&& (8 : Int32)) v4) (R5 : own_R (mk' &&& (16 : Int32)) v5) :
    Go n0 p e below s (fun v _ => v = some (.int 1)) room_1.cells room_1.slots T (mkF m 86 #[.val (.int mk'), .val (.int c1), .val (.int c2), .val (.long y'), .second, .val (.long t'), .second, .val v1, .val v2, .val v3, .val v4, .unset, .unset, .unset, .unset] [v5]) := by
  refine gastore (pc' := 88) (Ls := #[.val (.int mk'), .val (.int c1), .val (.int c2), .val (.long y'), .second, .val (.long t'), .second, .val v1, .val v2, .val v3, .val v4, .unset, .unset, .unset, .unset]) (Ls' := #[.val (.int mk'), .val (.int c1), .val (.int c2), .val (.long y'), .second, .val (.long t'), .second, .val v1, .val v2, .val v3, .val v4, .val v5, .unset, .unset, .unset]) (rest := []) w at_86 (own_R_ref R5) (by rcases ref_cases (own_R_ref R5) with q | ⟨x, q⟩ <;> rw [q] <;> rfl) rfl ?_
  refine giloadN (pc' := 89) (Ls := #[.val (.int mk'), .val (.int c1), .val (.int c2), .val (.long y'), .second, .val (.long t'), .second, .val v1, .val v2, .val v3, .val v4, .val v5, .unset, .unset, .unset]) (rest := []) w at_88 rfl rfl ?_
  refine gbipush (v := (32 : Int32)) (pc' := 91) w at_89 rfl rfl ?_
  refine giand (pc' := 92) w at_91 rfl ?_
  refine gif (pt := 103) (pf := 95) w at_92  (by decide +kernel) rfl rfl (fun (c92 : (mk' &&& (32 : Int32)) = (0 : Int32)) => ?_) (fun (c92 : ¬ (mk' &&& (32 : Int32)) = (0 : Int32)) => ?_)
  · refine gnull (pc' := 104) w at_103 rfl ?_
    exact own_j5 hw (wmono w (by decide +kernel) (by decide +kernel)) mk' c1 c2 y' t' v1 v2 v3 v4 v5 .null cs z0 hcs SC LC R1 R2 R3 R4 R5 (Or.inl ⟨c92, rfl⟩)
  · refine glload (pc' := 97) (Ls := #[.val (.int mk'), .val (.int c1), .val (.int c2), .val (.long y'), .second, .val (.long t'), .second, .val v1, .val v2, .val v3, .val v4, .val v5, .unset, .unset, .unset]) (rest := []) w at_95 rfl rfl ?_
    refine gcallS (pc' := 100) (argsL := [(.long t')]) (rest := []) (Wt := 0) w at_97 (hw _ (List.mem_of_getElem? (i := 59) rfl)) (hw _ (List.mem_of_getElem? (i := 60) rfl)) (hw _ (List.mem_of_getElem? (i := 61) rfl)) (hw _ (List.mem_of_getElem? (i := 62) rfl)) (by decide +kernel) pd_d10 (own_lval hw t' z0 LC) rfl rfl rfl rfl (Nat.le_of_eq rfl) (by decide +kernel) (by decide +kernel) (by decide +kernel) (by decide +kernel) rfl (fun v257 T258 h259 w260 q261 => ?_)
    obtain ⟨av, rfl, Xv, -⟩ := q261
    show Go _ _ _ _ _ _ _ _ _ (mkF m 100 #[.val (.int mk'), .val (.int c1), .val (.int c2), .val (.long y'), .second, .val (.long t'), .second, .val v1, .val v2, .val v3, .val v4, .val v5, .unset, .unset, .unset] [(.ref av)])
    have S262 := SC.ext Xv
    have C263 := own_LC_ext LC Xv
    have z264 := Nat.le_trans z0 Xv.1
    refine ggoto (pc' := 104) w260 at_100 (by decide +kernel) rfl ?_
    exact own_j5 hw (wmono w260 (by decide +kernel) (by decide +kernel)) mk' c1 c2 y' t' v1 v2 v3 v4 v5 (.ref av) cs z264 hcs S262 C263 R1 R2 R3 R4 R5 (Or.inr ⟨c92, _, rfl⟩)
set_option maxRecDepth 65536 in
set_option maxHeartbeats 4000000 in
theorem own_j3 (hw : ∀ d ∈ tables_1, d.before a0 Z = true) (w : W Z "com/example/kindred/kindred/index/SongTagIsCompletePinLaw" "law" code maxLocals ret n0 p l e room_1 s m args below meth c 8 20 T h) (mk' c1 c2 : Int32) (y' t' : Int64) (v1 v2 v3 v4 : Value) (cs : Int32) (z0 : n0 ≤ h.size) (hcs : ¬ cs = (0 : Int32)) (SC : Sta Z h "java/lang/String" "COMPACT_STRINGS" "Z" (.int cs)) (LC : own_LC Z h) (R1 : own_R (mk' &&& (1 : Int32)) v1) (R2 : own_R (mk' &&& (2 : Int32)) v2) (R3 : own_R (mk' &&& (4 : Int32)) v3) (R4 : own_R (mk' &&& (8 : Int32)) v4) :
    Go n0 p e below s (fun v _ => v = some (.int 1)) room_1.cells room_1.slots T (mkF m 69 #[.val (.int mk'), .val (.int c1), .val (.int c2), .val (.long y'), .second, .val (.long t'), .second, .val v1, .val v2, .val v3, .unset, .unset, .unset, .unset, .unset] [v4]) := by
  refine gastore (pc' := 71) (Ls := #[.val (.int mk'), .val (.int c1), .val (.int c2), .val (.long y'), .second, .val (.long t'), .second, .val v1, .val v2, .val v3, .unset, .unset, .unset, .unset, .unset]) (Ls' := #[.val (.int mk'), .val (.int c1), .val (.int c2), .val (.long y'), .second, .val (.long t'), .second, .val v1, .val v2, .val v3, .val v4, .unset, .unset, .unset, .unset]) (rest := []) w at_69 (own_R_ref R4) (by rcases ref_cases (own_R_ref R4) with q | ⟨x, q⟩ <;> rw [q] <;> rfl) rfl ?_
  refine giloadN (pc' := 72) (Ls := #[.val (.int mk'), .val (.int c1), .val (.int c2), .val (.long y'), .second, .val (.long t'), .second, .val v1, .val v2, .val v3, .val v4, .unset, .unset, .unset, .unset]) (rest := []) w at_71 rfl rfl ?_
  refine gbipush (v := (16 : Int32)) (pc' := 74) w at_72 rfl rfl ?_
  refine giand (pc' := 75) w at_74 rfl ?_
  refine gif (pt := 85) (pf := 78) w at_75  (by decide +kernel) rfl rfl (fun (c75 : (mk' &&& (16 : Int32)) = (0 : Int32)) => ?_) (fun (c75 : ¬ (mk' &&& (16 : Int32)) = (0 : Int32)) => ?_)
  · refine gnull (pc' := 86) w at_85 rfl ?_
    exact own_j4 hw (wmono w (by decide +kernel) (by decide +kernel)) mk' c1 c2 y' t' v1 v2 v3 v4 .null cs z0 hcs SC LC R1 R2 R3 R4 (Or.inl ⟨c75, rfl⟩)
  · refine glloadN (pc' := 79) (Ls := #[.val (.int mk'), .val (.int c1), .val (.int c2), .val (.long y'), .second, .val (.long t'), .second, .val v1, .val v2, .val v3, .val v4, .unset, .unset, .unset, .unset]) (rest := []) w at_78 rfl rfl ?_
    refine gcallS (pc' := 82) (argsL := [(.long y')]) (rest := []) (Wt := 0) w at_79 (hw _ (List.mem_of_getElem? (i := 59) rfl)) (hw _ (List.mem_of_getElem? (i := 60) rfl)) (hw _ (List.mem_of_getElem? (i := 61) rfl)) (hw _ (List.mem_of_getElem? (i := 62) rfl)) (by decide +kernel) pd_d10 (own_lval hw y' z0 LC) rfl rfl rfl rfl (Nat.le_of_eq rfl) (by decide +kernel) (by decide +kernel) (by decide +kernel) (by decide +kernel) rfl (fun v265 T266 h267 w268 q269 => ?_)
    obtain ⟨av, rfl, Xv, -⟩ := q269
    show Go _ _ _ _ _ _ _ _ _ (mkF m 82 #[.val (.int mk'), .val (.int c1), .val (.int c2), .val (.long y'), .second, .val (.long t'), .second, .val v1, .val v2, .val v3, .val v4, .unset, .unset, .unset, .unset] [(.ref av)])
    have S270 := SC.ext Xv
    have C271 := own_LC_ext LC Xv
    have z272 := Nat.le_trans z0 Xv.1
    refine ggoto (pc' := 86) w268 at_82 (by decide +kernel) rfl ?_
    exact own_j4 hw (wmono w268 (by decide +kernel) (by decide +kernel)) mk' c1 c2 y' t' v1 v2 v3 v4 (.ref av) cs z272 hcs S270 C271 R1 R2 R3 R4 (Or.inr ⟨c75, _, rfl⟩)
set_option maxRecDepth 65536 in
set_option maxHeartbeats 4000000 in
theorem own_j2 (hw : ∀ d ∈ tables_1, d.before a0 Z = true) (w : W Z "com/example/kindred/kindred/index/SongTagIsCompletePinLaw" "law" code maxLocals ret n0 p l e room_1 s m args below meth c 6 15 T h) (mk' c1 c2 : Int32) (y' t' : Int64) (v1 v2 v3 : Value) (cs : Int32) (z0 : n0 ≤ h.size) (hcs : ¬ cs = (0 : Int32)) (SC : Sta Z h "java/lang/String" "COMPACT_STRINGS" "Z" (.int cs)) (LC : own_LC Z h) (R1 : own_R (mk' &&& (1 : Int32)) v1) (R2 : own_R (mk' &&& (2 : Int32)) v2) (R3 : own_R (mk' &&& (4 : Int32)) v3) :
    Go n0 p e below s (fun v _ => v = some (.int 1)) room_1.cells room_1.slots T (mkF m 50 #[.val (.int mk'), .val (.int c1), .val (.int c2), .val (.long y'), .second, .val (.long t'), .second, .val v1, .val v2, .unset, .unset, .unset, .unset, .unset, .unset] [v3]) := by
  refine gastore (pc' := 52) (Ls := #[.val (.int mk'), .val (.int c1), .val (.int c2), .val (.long y'), .second, .val (.long t'), .second, .val v1, .val v2, .unset, .unset, .unset, .unset, .unset, .unset]) (Ls' := #[.val (.int mk'), .val (.int c1), .val (.int c2), .val (.long y'), .second, .val (.long t'), .second, .val v1, .val v2, .val v3, .unset, .unset, .unset, .unset, .unset]) (rest := []) w at_50 (own_R_ref R3) (by rcases ref_cases (own_R_ref R3) with q | ⟨x, q⟩ <;> rw [q] <;> rfl) rfl ?_
  refine giloadN (pc' := 53) (Ls := #[.val (.int mk'), .val (.int c1), .val (.int c2), .val (.long y'), .second, .val (.long t'), .second, .val v1, .val v2, .val v3, .unset, .unset, .unset, .unset, .unset]) (rest := []) w at_52 rfl rfl ?_
  refine gbipush (v := (8 : Int32)) (pc' := 55) w at_53 rfl rfl ?_
  refine giand (pc' := 56) w at_55 rfl ?_
  refine gif (pt := 68) (pf := 59) w at_56  (by decide +kernel) rfl rfl (fun (c56 : (mk' &&& (8 : Int32)) = (0 : Int32)) => ?_) (fun (c56 : ¬ (mk' &&& (8 : Int32)) = (0 : Int32)) => ?_)
  · refine gnull (pc' := 69) w at_68 rfl ?_
    exact own_j3 hw (wmono w (by decide +kernel) (by decide +kernel)) mk' c1 c2 y' t' v1 v2 v3 .null cs z0 hcs SC LC R1 R2 R3 (Or.inl ⟨c56, rfl⟩)
  · refine giloadN (pc' := 60) (Ls := #[.val (.int mk'), .val (.int c1), .val (.int c2), .val (.long y'), .second, .val (.long t'), .second, .val v1, .val v2, .val v3, .unset, .unset, .unset, .unset, .unset]) (rest := []) w at_59 rfl rfl ?_
    refine gbipush (v := (9 : Int32)) (pc' := 62) w at_60 rfl rfl ?_
    refine gcallS (pc' := 65) (argsL := [(.int c2), (.int (9 : Int32))]) (rest := []) (Wt := 0) w at_62 (hw _ (List.mem_of_getElem? (i := 31) rfl)) (hw _ (List.mem_of_getElem? (i := 32) rfl)) (hw _ (List.mem_of_getElem? (i := 33) rfl)) (hw _ (List.mem_of_getElem? (i := 34) rfl)) (by decide +kernel) pd_d5 (own_str hw c2 (9 : Int32) cs z0 hcs SC) rfl rfl rfl rfl (Nat.le_of_eq rfl) (by decide +kernel) (by decide +kernel) (by decide +kernel) (by decide +kernel) rfl (fun v273 T274 h275 w276 q277 => ?_)
    obtain ⟨av, rfl, Xv⟩ := q277
    show Go _ _ _ _ _ _ _ _ _ (mkF m 65 #[.val (.int mk'), .val (.int c1), .val (.int c2), .val (.long y'), .second, .val (.long t'), .second, .val v1, .val v2, .val v3, .unset, .unset, .unset, .unset, .unset] [(.ref av)])
    have S278 := SC.ext Xv
    have C279 := own_LC_ext LC Xv
    have z280 := Nat.le_trans z0 Xv.1
    refine ggoto (pc' := 69) w276 at_65 (by decide +kernel) rfl ?_
    exact own_j3 hw (wmono w276 (by decide +kernel) (by decide +kernel)) mk' c1 c2 y' t' v1 v2 v3 (.ref av) cs z280 hcs S278 C279 R1 R2 R3 (Or.inr ⟨c56, _, rfl⟩)
set_option maxRecDepth 65536 in
set_option maxHeartbeats 4000000 in
theorem own_j1 (hw : ∀ d ∈ tables_1, d.before a0 Z = true) (w : W Z "com/example/kindred/kindred/index/SongTagIsCompletePinLaw" "law" code maxLocals ret n0 p l e room_1 s m args below meth c 4 10 T h) (mk' c1 c2 : Int32) (y' t' : Int64) (v1 v2 : Value) (cs : Int32) (z0 : n0 ≤ h.size) (hcs : ¬ cs = (0 : Int32)) (SC : Sta Z h "java/lang/String" "COMPACT_STRINGS" "Z" (.int cs)) (LC : own_LC Z h) (R1 : own_R (mk' &&& (1 : Int32)) v1) (R2 : own_R (mk' &&& (2 : Int32)) v2) :
    Go n0 p e below s (fun v _ => v = some (.int 1)) room_1.cells room_1.slots T (mkF m 33 #[.val (.int mk'), .val (.int c1), .val (.int c2), .val (.long y'), .second, .val (.long t'), .second, .val v1, .unset, .unset, .unset, .unset, .unset, .unset, .unset] [v2]) := by
  refine gastore (pc' := 35) (Ls := #[.val (.int mk'), .val (.int c1), .val (.int c2), .val (.long y'), .second, .val (.long t'), .second, .val v1, .unset, .unset, .unset, .unset, .unset, .unset, .unset]) (Ls' := #[.val (.int mk'), .val (.int c1), .val (.int c2), .val (.long y'), .second, .val (.long t'), .second, .val v1, .val v2, .unset, .unset, .unset, .unset, .unset, .unset]) (rest := []) w at_33 (own_R_ref R2) (by rcases ref_cases (own_R_ref R2) with q | ⟨x, q⟩ <;> rw [q] <;> rfl) rfl ?_
  refine giloadN (pc' := 36) (Ls := #[.val (.int mk'), .val (.int c1), .val (.int c2), .val (.long y'), .second, .val (.long t'), .second, .val v1, .val v2, .unset, .unset, .unset, .unset, .unset, .unset]) (rest := []) w at_35 rfl rfl ?_
  refine giconst (v := (4 : Int32)) (pc' := 37) w at_36 rfl rfl ?_
  refine giand (pc' := 38) w at_37 rfl ?_
  refine gif (pt := 49) (pf := 41) w at_38  (by decide +kernel) rfl rfl (fun (c38 : (mk' &&& (4 : Int32)) = (0 : Int32)) => ?_) (fun (c38 : ¬ (mk' &&& (4 : Int32)) = (0 : Int32)) => ?_)
  · refine gnull (pc' := 50) w at_49 rfl ?_
    exact own_j2 hw (wmono w (by decide +kernel) (by decide +kernel)) mk' c1 c2 y' t' v1 v2 .null cs z0 hcs SC LC R1 R2 (Or.inl ⟨c38, rfl⟩)
  · refine giloadN (pc' := 42) (Ls := #[.val (.int mk'), .val (.int c1), .val (.int c2), .val (.long y'), .second, .val (.long t'), .second, .val v1, .val v2, .unset, .unset, .unset, .unset, .unset, .unset]) (rest := []) w at_41 rfl rfl ?_
    refine giconst (v := (0 : Int32)) (pc' := 43) w at_42 rfl rfl ?_
    refine gcallS (pc' := 46) (argsL := [(.int c2), (.int (0 : Int32))]) (rest := []) (Wt := 0) w at_43 (hw _ (List.mem_of_getElem? (i := 31) rfl)) (hw _ (List.mem_of_getElem? (i := 32) rfl)) (hw _ (List.mem_of_getElem? (i := 33) rfl)) (hw _ (List.mem_of_getElem? (i := 34) rfl)) (by decide +kernel) pd_d5 (own_str hw c2 (0 : Int32) cs z0 hcs SC) rfl rfl rfl rfl (Nat.le_of_eq rfl) (by decide +kernel) (by decide +kernel) (by decide +kernel) (by decide +kernel) rfl (fun v281 T282 h283 w284 q285 => ?_)
    obtain ⟨av, rfl, Xv⟩ := q285
    show Go _ _ _ _ _ _ _ _ _ (mkF m 46 #[.val (.int mk'), .val (.int c1), .val (.int c2), .val (.long y'), .second, .val (.long t'), .second, .val v1, .val v2, .unset, .unset, .unset, .unset, .unset, .unset] [(.ref av)])
    have S286 := SC.ext Xv
    have C287 := own_LC_ext LC Xv
    have z288 := Nat.le_trans z0 Xv.1
    refine ggoto (pc' := 50) w284 at_46 (by decide +kernel) rfl ?_
    exact own_j2 hw (wmono w284 (by decide +kernel) (by decide +kernel)) mk' c1 c2 y' t' v1 v2 (.ref av) cs z288 hcs S286 C287 R1 R2 (Or.inr ⟨c38, _, rfl⟩)
set_option maxRecDepth 65536 in
set_option maxHeartbeats 4000000 in
theorem own_j0 (hw : ∀ d ∈ tables_1, d.before a0 Z = true) (w : W Z "com/example/kindred/kindred/index/SongTagIsCompletePinLaw" "law" code maxLocals ret n0 p l e room_1 s m args below meth c 2 5 T h) (mk' c1 c2 : Int32) (y' t' : Int64) (v1 : Value) (cs : Int32) (z0 : n0 ≤ h.size) (hcs : ¬ cs = (0 : Int32)) (SC : Sta Z h "java/lang/String" "COMPACT_STRINGS" "Z" (.int cs)) (LC : own_LC Z h) (R1 : own_R (mk' &&& (1 : Int32)) v1) :
    Go n0 p e below s (fun v _ => v = some (.int 1)) room_1.cells room_1.slots T (mkF m 15 #[.val (.int mk'), .val (.int c1), .val (.int c2), .val (.long y'), .second, .val (.long t'), .second, .unset, .unset, .unset, .unset, .unset, .unset, .unset, .unset] [v1]) := by
  refine gastore (pc' := 17) (Ls := #[.val (.int mk'), .val (.int c1), .val (.int c2), .val (.long y'), .second, .val (.long t'), .second, .unset, .unset, .unset, .unset, .unset, .unset, .unset, .unset]) (Ls' := #[.val (.int mk'), .val (.int c1), .val (.int c2), .val (.long y'), .second, .val (.long t'), .second, .val v1, .unset, .unset, .unset, .unset, .unset, .unset, .unset]) (rest := []) w at_15 (own_R_ref R1) (by rcases ref_cases (own_R_ref R1) with q | ⟨x, q⟩ <;> rw [q] <;> rfl) rfl ?_
  refine giloadN (pc' := 18) (Ls := #[.val (.int mk'), .val (.int c1), .val (.int c2), .val (.long y'), .second, .val (.long t'), .second, .val v1, .unset, .unset, .unset, .unset, .unset, .unset, .unset]) (rest := []) w at_17 rfl rfl ?_
  refine giconst (v := (2 : Int32)) (pc' := 19) w at_18 rfl rfl ?_
  refine giand (pc' := 20) w at_19 rfl ?_
  refine gif (pt := 32) (pf := 23) w at_20  (by decide +kernel) rfl rfl (fun (c20 : (mk' &&& (2 : Int32)) = (0 : Int32)) => ?_) (fun (c20 : ¬ (mk' &&& (2 : Int32)) = (0 : Int32)) => ?_)
  · refine gnull (pc' := 33) w at_32 rfl ?_
    exact own_j1 hw (wmono w (by decide +kernel) (by decide +kernel)) mk' c1 c2 y' t' v1 .null cs z0 hcs SC LC R1 (Or.inl ⟨c20, rfl⟩)
  · refine giloadN (pc' := 24) (Ls := #[.val (.int mk'), .val (.int c1), .val (.int c2), .val (.long y'), .second, .val (.long t'), .second, .val v1, .unset, .unset, .unset, .unset, .unset, .unset, .unset]) (rest := []) w at_23 rfl rfl ?_
    refine gbipush (v := (9 : Int32)) (pc' := 26) w at_24 rfl rfl ?_
    refine gcallS (pc' := 29) (argsL := [(.int c1), (.int (9 : Int32))]) (rest := []) (Wt := 0) w at_26 (hw _ (List.mem_of_getElem? (i := 31) rfl)) (hw _ (List.mem_of_getElem? (i := 32) rfl)) (hw _ (List.mem_of_getElem? (i := 33) rfl)) (hw _ (List.mem_of_getElem? (i := 34) rfl)) (by decide +kernel) pd_d5 (own_str hw c1 (9 : Int32) cs z0 hcs SC) rfl rfl rfl rfl (Nat.le_of_eq rfl) (by decide +kernel) (by decide +kernel) (by decide +kernel) (by decide +kernel) rfl (fun v289 T290 h291 w292 q293 => ?_)
    obtain ⟨av, rfl, Xv⟩ := q293
    show Go _ _ _ _ _ _ _ _ _ (mkF m 29 #[.val (.int mk'), .val (.int c1), .val (.int c2), .val (.long y'), .second, .val (.long t'), .second, .val v1, .unset, .unset, .unset, .unset, .unset, .unset, .unset] [(.ref av)])
    have S294 := SC.ext Xv
    have C295 := own_LC_ext LC Xv
    have z296 := Nat.le_trans z0 Xv.1
    refine ggoto (pc' := 33) w292 at_29 (by decide +kernel) rfl ?_
    exact own_j1 hw (wmono w292 (by decide +kernel) (by decide +kernel)) mk' c1 c2 y' t' v1 (.ref av) cs z296 hcs S294 C295 R1 (Or.inr ⟨c20, _, rfl⟩)
set_option maxRecDepth 65536 in
set_option maxHeartbeats 4000000 in
theorem own_law (hw : ∀ d ∈ tables_1, d.before a0 Z = true) (mk' c1 c2 : Int32) (y' t' : Int64) (cs : Int32) (z0 : n0 ≤ h.size) (hcs : ¬ cs = (0 : Int32)) (SC : Sta Z h "java/lang/String" "COMPACT_STRINGS" "Z" (.int cs)) (LC : own_LC Z h) :
    Ctr l x code maxLocals ret room_1 Z #[(.int mk'), (.int c1), (.int c2), (.long y'), (.long t')] h n0 (fun v _ => v = some (.int 1)) tables_1 := by
  refine metGo (Ls := #[.val (.int mk'), .val (.int c1), .val (.int c2), .val (.long y'), .second, .val (.long t'), .second, .unset, .unset, .unset, .unset, .unset, .unset, .unset, .unset]) pn_at (fun m => by first | rfl | (simp [entryFrame, mkF, argsToLocals, Value.category]; done) | (simp [entryFrame, mkF, argsToLocals, Value.category, maxLocals]; done)) ?_
  intro p e s m below meth c T w
  refine giloadN (pc' := 1) (Ls := #[.val (.int mk'), .val (.int c1), .val (.int c2), .val (.long y'), .second, .val (.long t'), .second, .unset, .unset, .unset, .unset, .unset, .unset, .unset, .unset]) (rest := []) w at_0 rfl rfl ?_
  refine giconst (v := (1 : Int32)) (pc' := 2) w at_1 rfl rfl ?_
  refine giand (pc' := 3) w at_2 rfl ?_
  refine gif (pt := 14) (pf := 6) w at_3  (by decide +kernel) rfl rfl (fun (c3 : (mk' &&& (1 : Int32)) = (0 : Int32)) => ?_) (fun (c3 : ¬ (mk' &&& (1 : Int32)) = (0 : Int32)) => ?_)
  · refine gnull (pc' := 15) w at_14 rfl ?_
    exact own_j0 hw (wmono w (by decide +kernel) (by decide +kernel)) mk' c1 c2 y' t' .null cs z0 hcs SC LC (Or.inl ⟨c3, rfl⟩)
  · refine giloadN (pc' := 7) (Ls := #[.val (.int mk'), .val (.int c1), .val (.int c2), .val (.long y'), .second, .val (.long t'), .second, .unset, .unset, .unset, .unset, .unset, .unset, .unset, .unset]) (rest := []) w at_6 rfl rfl ?_
    refine giconst (v := (0 : Int32)) (pc' := 8) w at_7 rfl rfl ?_
    refine gcallS (pc' := 11) (argsL := [(.int c1), (.int (0 : Int32))]) (rest := []) (Wt := 0) w at_8 (hw _ (List.mem_of_getElem? (i := 31) rfl)) (hw _ (List.mem_of_getElem? (i := 32) rfl)) (hw _ (List.mem_of_getElem? (i := 33) rfl)) (hw _ (List.mem_of_getElem? (i := 34) rfl)) (by decide +kernel) pd_d5 (own_str hw c1 (0 : Int32) cs z0 hcs SC) rfl rfl rfl rfl (Nat.le_of_eq rfl) (by decide +kernel) (by decide +kernel) (by decide +kernel) (by decide +kernel) rfl (fun v297 T298 h299 w300 q301 => ?_)
    obtain ⟨av, rfl, Xv⟩ := q301
    show Go _ _ _ _ _ _ _ _ _ (mkF m 11 #[.val (.int mk'), .val (.int c1), .val (.int c2), .val (.long y'), .second, .val (.long t'), .second, .unset, .unset, .unset, .unset, .unset, .unset, .unset, .unset] [(.ref av)])
    have S302 := SC.ext Xv
    have C303 := own_LC_ext LC Xv
    have z304 := Nat.le_trans z0 Xv.1
    refine ggoto (pc' := 15) w300 at_11 (by decide +kernel) rfl ?_
    exact own_j0 hw (wmono w300 (by decide +kernel) (by decide +kernel)) mk' c1 c2 y' t' (.ref av) cs z304 hcs S302 C303 (Or.inr ⟨c3, _, rfl⟩)
theorem own_eqI {args : Array Value} {s : State} {a : Term} {v : Value} {k : Int32} (hv : a.eval args s none [] s = some v) (q : (Jvm.Cond.eq a (Jvm.Term.int k)).value args s none s [] = some true) : v = .int k := by
  have hb : (Jvm.Term.int k).eval args s none [] s = some (.int k) := rfl
  cases v <;> simp [Cond.value, hv, hb] at q
  rw [q]
theorem own_len256 {args : Array Value} {s : State} {t : Term} {aV : Addr} {cl : Cell} {ty : FieldType} (ht : t.eval args s none [] s = some (.ref aV)) (A : Arr s s.heap aV cl ty) (q : (Jvm.Cond.eq (Jvm.Term.length t) (Jvm.Term.int (256 : Int32))).value args s none s [] = some true) : cl.slots.size = 256 := by
  obtain ⟨v, _, e1, -, -⟩ := cmp_v (Or.inl q)
  have e2 := own_eqI e1 q
  have ha : s.arrayAt? aV = some cl := Arr.fin (Vm.Alike.refl _) A
  by_cases hl : cl.slots.size < 2 ^ 31
  · rw [len_f ht ha hl, e2] at e1
    have e3 := congrArg Int32.toInt (Value.int.inj (Option.some.inj e1))
    rw [len_toInt hl] at e3
    have k : (256 : Int32).toInt = 256 := rfl
    omega
  · simp [Term.eval, ht, ha, hl] at e1
theorem own_LC_start {args : Array Value} {s : State} (hfit : Fit s) (c1 : (Jvm.Cond.initializedFor "java/lang/Long$LongCache" "cache" "[Ljava/lang/Long;").before args s = true) (c2 : (Jvm.Cond.arrayOf (Jvm.Term.static "java/lang/Long$LongCache" "cache" "[Ljava/lang/Long;") (Jvm.ClassFile.FieldType.object "java/lang/Long")).before args s = true) (c3 : (Jvm.Cond.eq (Jvm.Term.length (Jvm.Term.static "java/lang/Long$LongCache" "cache" "[Ljava/lang/Long;")) (Jvm.Term.int (256 : Int32))).before args s = true)
    {G : Jvm.Cond} (c4 : (Jvm.Cond.all (Jvm.Term.static "java/lang/Long$LongCache" "cache" "[Ljava/lang/Long;") (Jvm.Cond.and (Jvm.Cond.exactly (Jvm.Term.elem (Jvm.Term.static "java/lang/Long$LongCache" "cache" "[Ljava/lang/Long;") (Jvm.Term.index (0 : Nat))) "java/lang/Long") G)).before args s = true) : own_LC s s.heap := by
  obtain ⟨aC, eC⟩ := arr_v (Cond.before_iff.mp c2)
  obtain ⟨cl, A⟩ := Arr.start eC (Cond.before_iff.mp c2)
  have hsz : cl.slots.size = 256 := own_len256 eC A (Cond.before_iff.mp c3)
  have ha : s.arrayAt? aC = some cl := Arr.fin (Vm.Alike.refl _) A
  refine ⟨aC, cl, Sta.start eC (Or.inl c1), A, hsz, fun j hj => ?_⟩
  have q := Cond.all_elim eC ha (Cond.before_iff.mp c4) j (by rw [hsz]; exact hj)
  obtain ⟨q1, -⟩ := and_e q
  obtain ⟨x, ex⟩ := exa_v q1
  have E := exa_at ex q1
  have eC' : (Jvm.Term.static "java/lang/Long$LongCache" "cache" "[Ljava/lang/Long;").eval args s none [j] s = some (.ref aC) := eC
  have hj' : (Jvm.Term.index (0 : Nat)).eval args s none [j] s = some (.int j.toInt32) := Term.index_eval _
  obtain ⟨-, r⟩ := elem_in ex eC' hj' A.1
  have e : j.toInt32.toNatClampNeg = j := by
    have n : ¬ j.toInt32 < 0 := by
      rw [Int32.lt_iff_toInt_lt, len_toInt (by omega)]
      have k : (0 : Int32).toInt = 0 := rfl
      omega
    have n2 := nat_of n
    rw [len_toInt (by omega)] at n2
    omega
  rw [e] at r
  exact ⟨x, r, E⟩
theorem comes_1 {Post : Tables → Env → Array Value → State → Outcome → State → Prop} (hpost : ∀ tb e args s v u, (limb_1_1.after args s (.returned v) u = true ∧ limb_1_2.after args s (.returned v) u = true ∧ True) → ReturnedEndW s (.returned v) u (Jvm.fieldLocs frame_1_writes args s ++ Jvm.arrayLocs frame_1_arrays args s ++ Jvm.staticLocs frame_1_statics s) 32 1152 → Post tb e args s (.returned v) u) :
    ArmFor flags0 classFile x code maxLocals ret World_1 tables_1 room_1 Calls_1 rest_1 Pre_1 Post := by
  intro l hfl _ _ p e ha hc hk s m args below hf hA hF happ hP
  obtain ⟨hcalls, hrest, hpre⟩ := hP
  obtain ⟨-, -, -, hnamed, -, -, -, hat⟩ := (Spec.applies_iff hf).mp happ
  obtain ⟨hg, hn⟩ := and_e (Cond.before_iff.mp (show (Jvm.Cond.and given_1 narrow_1).before args s = true from hpre))
  obtain ⟨hcount, g0⟩ := and_e hg
  obtain ⟨a0, g1⟩ := and_e g0
  obtain ⟨a1, g2⟩ := and_e g1
  obtain ⟨a2, g3⟩ := and_e g2
  obtain ⟨a3, g4⟩ := and_e g3
  obtain ⟨w0, w1, w2, w3, w4, rfl⟩ : ∃ w0 w1 w2 w3 w4 : Value, args = #[w0, w1, w2, w3, w4] := by
    have hs : args.size = 5 := by simpa [Cond.value, given_1] using hcount
    obtain ⟨L⟩ := args
    match L, hs with
    | [w0, w1, w2, w3, w4], _ => exact ⟨w0, w1, w2, w3, w4, rfl⟩
  have hw := fun d (hd : d ∈ tables_1) => atoms_spec (ws := Jvm.Cond.code x code maxLocals ret :: tables_1) hat d (List.mem_cons_of_mem _ hd)
  obtain ⟨hsets, hown0⟩ := atoms_of _ (rest_1_c_eq ▸ (show rest_1_c.before _ s = true from hrest))
  have hfit : Fit s := fun {y c} hc i hi => by
    obtain ⟨ha, rfl⟩ := Array.getElem?_eq_some_iff.mp hc
    have q := List.all_eq_true.mp ((Array.all_eq_true_iff_forall_mem.mp hF) _ (Array.getElem_mem ha)) i (List.mem_range.mpr hi)
    simpa [Array.getElem?_eq_getElem hi] using q
  obtain ⟨i0, e0⟩ := is_v a0
  obtain rfl : w0 = (.int i0) := Option.some.inj e0
  obtain ⟨i1, e1⟩ := is_v a1
  obtain rfl : w1 = (.int i1) := Option.some.inj e1
  obtain ⟨i2, e2⟩ := is_v a2
  obtain rfl : w2 = (.int i2) := Option.some.inj e2
  obtain ⟨i3, e3⟩ := isL_v a3
  obtain rfl : w3 = (.long i3) := Option.some.inj e3
  obtain ⟨i4, e4⟩ := isL_v g4
  obtain rfl : w4 = (.long i4) := Option.some.inj e4
  obtain ⟨cs, ecs⟩ := is_v (Cond.before_iff.mp (hsets _ (List.mem_of_getElem? (i := 1) rfl)))
  have SC : Sta s s.heap "java/lang/String" "COMPACT_STRINGS" "Z" (.int cs) := Sta.start ecs (Or.inl (hsets _ (List.mem_of_getElem? (i := 0) rfl)))
  have hcs : ¬ (cs = (0 : Int32)) := gotF (Cond.eq_ints ecs (Term.int_eval (0))) (not_v (Cond.before_iff.mp (hsets _ (List.mem_of_getElem? (i := 2) rfl))))
  have LC := own_LC_start hfit (hsets _ (List.mem_of_getElem? (i := 10) rfl)) (hsets _ (List.mem_of_getElem? (i := 11) rfl)) (hsets _ (List.mem_of_getElem? (i := 13) rfl)) (hsets _ (List.mem_of_getElem? (i := 14) rfl))
  obtain ⟨n, o, h1, h2, h3, _, L, rfl, ⟨N, rfl⟩, hq⟩ := (own_law (h := s.heap) (n0 := s.heap.size) hw i0 i1 i2 i3 i4 cs (Nat.le_refl _) hcs SC LC) p e ha hc hk s m _ below hf ((Spec.applies_iff_loose hf).mp happ).1 ⟨rfl, State.Warmed39.refl s, rfl⟩ trivial
  refine ⟨n, _, h1, h2, h3, hpost _ _ _ _ _ _ ⟨Cond.after_iff.mpr rfl, Cond.after_iff.mpr (eq_i res_at (Term.int_eval (1)) rfl), trivial⟩ ⟨hq.1, hq.2.1, hq.2.2.1, (hq.2.2.2.sift fun y hy => Or.inr (N y hy)).mono (by decide +kernel) (by decide +kernel)⟩⟩
theorem main_1_1 : Claimed_1_1 := comes_1 fun _ _ _ _ _ _ h hF => ⟨h.1, hF⟩
theorem main_1_2 : Claimed_1_2 := comes_1 fun _ _ _ _ _ _ h hF => ⟨h.2.1, hF⟩
end Jvm.Pilot.@@N@@
namespace Jvm.Pilot.@@N@@
open Jvm Jvm.ClassFile Sem Op Lib Jvm.Free Jvm.Stand Jvm.Pilot.@@N@@.Jvm.D
/-! MADE BY PROGRAM (witnessworld.py) out of the Statement's table words and the real class files: 22 classes; the members and pool entries that the words name. The judged class is class 1, her method 2. -/
namespace start1
open Jvm.ClassFile
def u (s : String) : CpInfo := .utf8 (stringToUtf16 s)
/-- a pool by its gaps: so many unusable entries, then the entry; so many at the end -/
def gap : Nat → List CpInfo → List CpInfo
  | 0, r => r
  | n + 1, r => .unusable :: gap n r
def poolList (es : List (Nat × CpInfo)) (last : Nat) : List CpInfo := es.foldr (fun e r => gap e.1 (e.2 :: r)) (gap last [])
def pool (es : List (Nat × CpInfo)) (last : Nat) : Array CpInfo := ⟨poolList es last⟩
def fileOf (pool : Array CpInfo) (this : Nat) (attrs : Array Attribute := #[]) (ms : Array MethodInfo := #[]) (fl : Nat := 33) (sup : Nat := 0) (ifs : Array Nat := #[]) (fds : Array FieldInfo := #[]) : ClassFile where
  minorVersion := 0
  majorVersion := 65
  constantPool := pool
  accessFlags := fl
  thisClass := this
  superClass := sup
  interfaces := ifs
  fields := fds
  methods := ms
  attributes := attrs
def plain (name : String) (sup : Option ClassId) : Class where
  name := name
  kind := .ordinary
  loader := none
  accessFlags := 33
  super := sup
  interfaces := #[]
  cf := none
  fields := #[]
  methods := #[]
  instanceTypes := #[]
  staticTypes := #[]
  resolved := #[]
  callSites := []
  init := .initialized
  statics := none
  mirror := none

def pool0 : Array CpInfo := pool [(5, u "<init>"), (0, u "()V"), (1, .class_ 10), (1, u "java/lang/Object")] 113

def k0c0 : Code := { maxStack := 0, maxLocals := 1, code := object_method_1_code, exceptionTable := #[], attributes := #[] }
def k0m0 : Method := { name := "<init>", desc := "()V", sig := { parameters := [], returnType := none }, accessFlags := 1, code := some k0c0 }
/-- java/lang/Object -/
def k0 : Class := { plain "java/lang/Object" none with
  accessFlags := 33
  interfaces := #[]
  cf := some (fileOf pool0 8 #[] #[{ accessFlags := 1, nameIndex := 5, descriptorIndex := 6, attributes := #[] }] 33 0 #[] #[])
  fields := #[]
  methods := #[k0m0]
  instanceTypes := #[]
  staticTypes := #[]
  resolved := Array.replicate 124 none
  statics := none }

def pool1 : Array CpInfo := pool [(2, .class_ 4), (1, u "java/lang/Object"), (0, u "<init>"), (0, u "()V"), (0, .string 8), (0, u ""), (0, .methodref 10 11), (0, .class_ 12), (0, .nameAndType 13 14), (0, u "java/lang/String"), (0, u "valueOf"), (0, u "(C)Ljava/lang/String;"), (0, .methodref 16 17), (0, .class_ 18), (0, .nameAndType 19 20), (0, u "com/example/kindred/kindred/index/SongTagIsCompletePinLaw"), (0, u "str"), (0, u "(II)Ljava/lang/String;"), (0, .methodref 22 23), (0, .class_ 24), (0, .nameAndType 13 25), (0, u "java/lang/Long"), (0, u "(J)Ljava/lang/Long;"), (0, .class_ 27), (0, u "com/example/kindred/kindred/index/SongTag"), (0, .methodref 26 29), (0, .nameAndType 5 30), (0, u "(Ljava/lang/String;Ljava/lang/String;Ljava/lang/String;Ljava/lang/String;Ljava/lang/Long;Ljava/lang/Long;)V"), (0, .methodref 26 32), (0, .nameAndType 33 34), (0, u "isComplete"), (0, u "()Z"), (3, u "law"), (0, u "(IIIJJ)Z")] 2

def k1m0 : Method := { name := "<init>", desc := "()V", sig := { parameters := [], returnType := none }, accessFlags := 1, code := none }
def k1c1 : Code := { maxStack := 2, maxLocals := 3, code := method_2_code, exceptionTable := #[], attributes := #[] }
def k1m1 : Method := { name := "str", desc := "(II)Ljava/lang/String;", sig := { parameters := [.int, .int], returnType := some (.object "java/lang/String") }, accessFlags := 10, code := some k1c1 }
def k1c2 : Code := { maxStack := 8, maxLocals := 15, code := code, exceptionTable := #[], attributes := #[] }
def k1m2 : Method := { name := "law", desc := "(IIIJJ)Z", sig := { parameters := [.int, .int, .int, .long, .long], returnType := some .boolean }, accessFlags := 9, code := some k1c2 }
/-- com/example/kindred/kindred/index/SongTagIsCompletePinLaw -/
def k1 : Class := { plain "com/example/kindred/kindred/index/SongTagIsCompletePinLaw" (some 0) with
  accessFlags := 49
  interfaces := #[]
  cf := some (fileOf pool1 16 #[] #[{ accessFlags := 1, nameIndex := 5, descriptorIndex := 6, attributes := #[] }, { accessFlags := 10, nameIndex := 19, descriptorIndex := 20, attributes := #[] }, { accessFlags := 9, nameIndex := 38, descriptorIndex := 39, attributes := #[] }] 49 2 #[] #[])
  fields := #[]
  methods := #[k1m0, k1m1, k1m2]
  instanceTypes := #[]
  staticTypes := #[]
  resolved := Array.replicate 42 none
  statics := none }

def pool2 : Array CpInfo := pool [(1, .methodref 2 3), (0, .class_ 4), (0, .nameAndType 5 6), (0, u "java/lang/Object"), (0, u "<init>"), (0, u "()V"), (0, .class_ 8), (0, u "java/lang/Record")] 13

def k2c0 : Code := { maxStack := 1, maxLocals := 1, code := jdk_30_method_1_code, exceptionTable := #[], attributes := #[] }
def k2m0 : Method := { name := "<init>", desc := "()V", sig := { parameters := [], returnType := none }, accessFlags := 4, code := some k2c0 }
/-- java/lang/Record -/
def k2 : Class := { plain "java/lang/Record" (some 0) with
  accessFlags := 1057
  interfaces := #[]
  cf := some (fileOf pool2 7 #[] #[{ accessFlags := 4, nameIndex := 5, descriptorIndex := 6, attributes := #[] }] 1057 2 #[] #[])
  fields := #[]
  methods := #[k2m0]
  instanceTypes := #[]
  staticTypes := #[]
  resolved := Array.replicate 22 none
  statics := none }

def pool3 : Array CpInfo := pool [(1, .methodref 2 3), (0, .class_ 4), (0, .nameAndType 5 6), (0, u "java/lang/Record"), (0, u "<init>"), (0, u "()V"), (0, .fieldref 8 9), (0, .class_ 10), (0, .nameAndType 11 12), (0, u "com/example/kindred/kindred/index/SongTag"), (0, u "title"), (0, u "Ljava/lang/String;"), (0, .fieldref 8 14), (0, .nameAndType 15 12), (0, u "artist"), (0, .fieldref 8 17), (0, .nameAndType 18 12), (0, u "album"), (0, .fieldref 8 20), (0, .nameAndType 21 12), (0, u "genre"), (0, .fieldref 8 23), (0, .nameAndType 24 25), (0, u "year"), (0, u "Ljava/lang/Long;"), (0, .fieldref 8 27), (0, .nameAndType 28 25), (0, u "track"), (2, u "(Ljava/lang/String;Ljava/lang/String;Ljava/lang/String;Ljava/lang/String;Ljava/lang/Long;Ljava/lang/Long;)V"), (31, u "()Z"), (20, u "NONE"), (0, u "Lcom/example/kindred/kindred/index/SongTag;"), (3, u "isComplete")] 31

def k3c0 : Code := { maxStack := 2, maxLocals := 7, code := prog_31_method_1_code, exceptionTable := #[], attributes := #[] }
def k3m0 : Method := { name := "<init>", desc := "(Ljava/lang/String;Ljava/lang/String;Ljava/lang/String;Ljava/lang/String;Ljava/lang/Long;Ljava/lang/Long;)V", sig := { parameters := [(.object "java/lang/String"), (.object "java/lang/String"), (.object "java/lang/String"), (.object "java/lang/String"), (.object "java/lang/Long"), (.object "java/lang/Long")], returnType := none }, accessFlags := 0, code := some k3c0 }
def k3c1 : Code := { maxStack := 1, maxLocals := 1, code := prog_31_method_2_code, exceptionTable := #[], attributes := #[] }
def k3m1 : Method := { name := "isComplete", desc := "()Z", sig := { parameters := [], returnType := some .boolean }, accessFlags := 0, code := some k3c1 }
/-- com/example/kindred/kindred/index/SongTag -/
def k3 : Class := { plain "com/example/kindred/kindred/index/SongTag" (some 2) with
  accessFlags := 48
  interfaces := #[]
  cf := some (fileOf pool3 8 #[] #[{ accessFlags := 0, nameIndex := 5, descriptorIndex := 31, attributes := #[] }, { accessFlags := 0, nameIndex := 89, descriptorIndex := 63, attributes := #[] }] 48 2 #[] #[{ accessFlags := 18, nameIndex := 11, descriptorIndex := 12, attributes := #[] }, { accessFlags := 18, nameIndex := 15, descriptorIndex := 12, attributes := #[] }, { accessFlags := 18, nameIndex := 18, descriptorIndex := 12, attributes := #[] }, { accessFlags := 18, nameIndex := 21, descriptorIndex := 12, attributes := #[] }, { accessFlags := 18, nameIndex := 24, descriptorIndex := 25, attributes := #[] }, { accessFlags := 18, nameIndex := 28, descriptorIndex := 25, attributes := #[] }, { accessFlags := 24, nameIndex := 84, descriptorIndex := 85, attributes := #[] }])
  fields := #[{ name := "title", type := (.object "java/lang/String"), accessFlags := 18, slot := 0, constantValue := 0 }, { name := "artist", type := (.object "java/lang/String"), accessFlags := 18, slot := 1, constantValue := 0 }, { name := "album", type := (.object "java/lang/String"), accessFlags := 18, slot := 2, constantValue := 0 }, { name := "genre", type := (.object "java/lang/String"), accessFlags := 18, slot := 3, constantValue := 0 }, { name := "year", type := (.object "java/lang/Long"), accessFlags := 18, slot := 4, constantValue := 0 }, { name := "track", type := (.object "java/lang/Long"), accessFlags := 18, slot := 5, constantValue := 0 }, { name := "NONE", type := (.object "com/example/kindred/kindred/index/SongTag"), accessFlags := 24, slot := 0, constantValue := 0 }]
  methods := #[k3m0, k3m1]
  instanceTypes := #[(.object "java/lang/String"), (.object "java/lang/String"), (.object "java/lang/String"), (.object "java/lang/String"), (.object "java/lang/Long"), (.object "java/lang/Long")]
  staticTypes := #[(.object "com/example/kindred/kindred/index/SongTag")]
  resolved := Array.replicate 121 none
  statics := none }

def pool4 : Array CpInfo := pool [(1, .class_ 2), (0, u "java/io/Serializable"), (0, .class_ 4), (0, u "java/lang/Object")] 2

/-- java/io/Serializable -/
def k4 : Class := { plain "java/io/Serializable" (some 0) with
  accessFlags := 1537
  interfaces := #[]
  cf := some (fileOf pool4 1 #[] #[] 1537 3 #[] #[])
  fields := #[]
  methods := #[]
  instanceTypes := #[]
  staticTypes := #[]
  resolved := Array.replicate 7 none
  statics := none }

def pool5 : Array CpInfo := pool [(1, .class_ 2), (0, u "java/lang/Comparable"), (0, .class_ 4), (0, u "java/lang/Object")] 7

/-- java/lang/Comparable -/
def k5 : Class := { plain "java/lang/Comparable" (some 0) with
  accessFlags := 1537
  interfaces := #[]
  cf := some (fileOf pool5 1 #[] #[] 1537 3 #[] #[])
  fields := #[]
  methods := #[]
  instanceTypes := #[]
  staticTypes := #[]
  resolved := Array.replicate 12 none
  statics := none }

def pool6 : Array CpInfo := pool [(2, .class_ 4), (1, u "java/lang/CharSequence"), (42, .class_ 48), (0, u "java/lang/CharSequence$1CodePointIterator"), (10, .class_ 60), (0, u "java/lang/CharSequence$1CharIterator"), (5, .class_ 67), (0, u "java/lang/Object")] 63

/-- java/lang/CharSequence -/
def k6 : Class := { plain "java/lang/CharSequence" (some 0) with
  accessFlags := 1537
  interfaces := #[]
  cf := some (fileOf pool6 2 #[.nestMembers #[47, 59]] #[] 1537 66 #[] #[])
  fields := #[]
  methods := #[]
  instanceTypes := #[]
  staticTypes := #[]
  resolved := Array.replicate 131 none
  statics := none }

def pool7 : Array CpInfo := pool [(1, .class_ 2), (0, u "java/lang/constant/Constable"), (0, .class_ 4), (0, u "java/lang/Object")] 6

/-- java/lang/constant/Constable -/
def k7 : Class := { plain "java/lang/constant/Constable" (some 0) with
  accessFlags := 1537
  interfaces := #[]
  cf := some (fileOf pool7 1 #[] #[] 1537 3 #[] #[])
  fields := #[]
  methods := #[]
  instanceTypes := #[]
  staticTypes := #[]
  resolved := Array.replicate 11 none
  statics := none }

def pool8 : Array CpInfo := pool [(1, .class_ 2), (0, u "java/lang/constant/ConstantDesc"), (0, .class_ 4), (0, u "java/lang/Object")] 32

/-- java/lang/constant/ConstantDesc -/
def k8 : Class := { plain "java/lang/constant/ConstantDesc" (some 0) with
  accessFlags := 1537
  interfaces := #[]
  cf := some (fileOf pool8 1 #[] #[] 1537 3 #[] #[])
  fields := #[]
  methods := #[]
  instanceTypes := #[]
  staticTypes := #[]
  resolved := Array.replicate 37 none
  statics := none }

def pool9 : Array CpInfo := pool [(1, .methodref 2 3), (0, .class_ 4), (0, .nameAndType 5 6), (0, u "java/lang/Object"), (0, u "<init>"), (0, u "()V"), (2, .fieldref 10 11), (0, .class_ 12), (0, .nameAndType 13 14), (0, u "java/lang/String"), (0, u "value"), (0, u "[B"), (0, .fieldref 10 16), (0, .nameAndType 17 18), (0, u "coder"), (0, u "B"), (2, u "hash"), (0, u "I"), (2, u "hashIsZero"), (0, u "Z"), (11, .fieldref 10 39), (0, .nameAndType 40 26), (0, u "COMPACT_STRINGS"), (12, u "toBytes"), (53, .class_ 109), (1, u "java/lang/StringLatin1"), (99, .methodref 10 210), (0, .nameAndType 5 211), (0, u "([BB)V"), (157, u "(C)Z"), (205, .class_ 576), (0, u "java/lang/CharSequence"), (22, u "CASE_INSENSITIVE_ORDER"), (0, u "Ljava/util/Comparator;"), (181, u "valueOf"), (0, u "(C)Ljava/lang/String;"), (231, .methodref 107 1016), (0, .nameAndType 1017 369), (0, u "canEncode"), (0, .methodref 107 1019), (0, .nameAndType 53 1020), (0, u "(C)[B"), (80, u "serialPersistentFields"), (0, u "[Ljava/io/ObjectStreamField;"), (0, .class_ 1104), (0, u "java/lang/String$CaseInsensitiveComparator"), (1, .class_ 1107), (0, u "java/io/Serializable"), (0, .class_ 1109), (0, u "java/lang/Comparable"), (0, .class_ 1111), (0, u "java/lang/constant/Constable"), (0, .class_ 1113), (0, u "java/lang/constant/ConstantDesc"), (2, u "serialVersionUID"), (0, u "J"), (3, u "REPL"), (0, u "C"), (2, u "LATIN1"), (1, u "UTF16")] 323

def k9m0 : Method := { name := "<init>", desc := "()V", sig := { parameters := [], returnType := none }, accessFlags := 1, code := none }
def k9c1 : Code := { maxStack := 4, maxLocals := 1, code := jdk_42_method_139_code, exceptionTable := #[], attributes := #[] }
def k9m1 : Method := { name := "valueOf", desc := "(C)Ljava/lang/String;", sig := { parameters := [.char], returnType := some (.object "java/lang/String") }, accessFlags := 9, code := some k9c1 }
def k9c2 : Code := { maxStack := 2, maxLocals := 3, code := jdk_42_method_151_code, exceptionTable := #[], attributes := #[] }
def k9m2 : Method := { name := "<init>", desc := "([BB)V", sig := { parameters := [(.array .byte), .byte], returnType := none }, accessFlags := 0, code := some k9c2 }
/-- java/lang/String -/
def k9 : Class := { plain "java/lang/String" (some 0) with
  accessFlags := 49
  interfaces := #[4, 5, 6, 7, 8]
  cf := some (fileOf pool9 10 #[.nestMembers #[1103]] #[{ accessFlags := 1, nameIndex := 5, descriptorIndex := 6, attributes := #[] }, { accessFlags := 9, nameIndex := 782, descriptorIndex := 783, attributes := #[] }, { accessFlags := 0, nameIndex := 5, descriptorIndex := 211, attributes := #[] }] 49 2 #[1106, 1108, 575, 1110, 1112] #[{ accessFlags := 18, nameIndex := 13, descriptorIndex := 14, attributes := #[] }, { accessFlags := 18, nameIndex := 17, descriptorIndex := 18, attributes := #[] }, { accessFlags := 2, nameIndex := 21, descriptorIndex := 22, attributes := #[] }, { accessFlags := 2, nameIndex := 25, descriptorIndex := 26, attributes := #[] }, { accessFlags := 26, nameIndex := 1116, descriptorIndex := 1117, attributes := #[] }, { accessFlags := 24, nameIndex := 40, descriptorIndex := 26, attributes := #[] }, { accessFlags := 26, nameIndex := 1101, descriptorIndex := 1102, attributes := #[] }, { accessFlags := 26, nameIndex := 1121, descriptorIndex := 1122, attributes := #[] }, { accessFlags := 25, nameIndex := 599, descriptorIndex := 600, attributes := #[] }, { accessFlags := 24, nameIndex := 1125, descriptorIndex := 18, attributes := #[] }, { accessFlags := 24, nameIndex := 1127, descriptorIndex := 18, attributes := #[] }])
  fields := #[{ name := "value", type := (.array .byte), accessFlags := 18, slot := 0, constantValue := 0 }, { name := "coder", type := .byte, accessFlags := 18, slot := 1, constantValue := 0 }, { name := "hash", type := .int, accessFlags := 2, slot := 2, constantValue := 0 }, { name := "hashIsZero", type := .boolean, accessFlags := 2, slot := 3, constantValue := 0 }, { name := "serialVersionUID", type := .long, accessFlags := 26, slot := 0, constantValue := 0 }, { name := "COMPACT_STRINGS", type := .boolean, accessFlags := 24, slot := 1, constantValue := 0 }, { name := "serialPersistentFields", type := (.array (.object "java/io/ObjectStreamField")), accessFlags := 26, slot := 2, constantValue := 0 }, { name := "REPL", type := .char, accessFlags := 26, slot := 3, constantValue := 0 }, { name := "CASE_INSENSITIVE_ORDER", type := (.object "java/util/Comparator"), accessFlags := 25, slot := 4, constantValue := 0 }, { name := "LATIN1", type := .byte, accessFlags := 24, slot := 5, constantValue := 0 }, { name := "UTF16", type := .byte, accessFlags := 24, slot := 6, constantValue := 0 }]
  methods := #[k9m0, k9m1, k9m2]
  instanceTypes := #[(.array .byte), .byte, .int, .boolean]
  staticTypes := #[.long, .boolean, (.array (.object "java/io/ObjectStreamField")), .char, (.object "java/util/Comparator"), .byte, .byte]
  resolved := Array.replicate 1451 none
  statics := some 0 }

def pool10 : Array CpInfo := pool [(4, .class_ 6), (1, u "java/lang/Object"), (0, u "<init>"), (0, u "()V"), (5, .class_ 16), (1, u "java/lang/StringLatin1"), (73, u "canEncode"), (14, u "(C)Z"), (15, u "$assertionsDisabled"), (0, u "Z"), (98, .class_ 223), (1, u "java/lang/StringLatin1$LinesSpliterator"), (156, u "toBytes"), (1, u "(C)[B"), (7, .class_ 391), (0, u "java/lang/StringLatin1$CharsSpliterator")] 3

def k10m0 : Method := { name := "<init>", desc := "()V", sig := { parameters := [], returnType := none }, accessFlags := 0, code := none }
def k10c1 : Code := { maxStack := 2, maxLocals := 1, code := jdk_43_method_3_code, exceptionTable := #[], attributes := #[] }
def k10m1 : Method := { name := "canEncode", desc := "(C)Z", sig := { parameters := [.char], returnType := some .boolean }, accessFlags := 9, code := some k10c1 }
def k10c2 : Code := { maxStack := 4, maxLocals := 1, code := jdk_43_method_46_code, exceptionTable := #[], attributes := #[] }
def k10m2 : Method := { name := "toBytes", desc := "(C)[B", sig := { parameters := [.char], returnType := some (.array .byte) }, accessFlags := 9, code := some k10c2 }
/-- java/lang/StringLatin1 -/
def k10 : Class := { plain "java/lang/StringLatin1" (some 0) with
  accessFlags := 48
  interfaces := #[]
  cf := some (fileOf pool10 14 #[.nestMembers #[390, 221]] #[{ accessFlags := 0, nameIndex := 7, descriptorIndex := 8, attributes := #[] }, { accessFlags := 9, nameIndex := 90, descriptorIndex := 105, attributes := #[] }, { accessFlags := 9, nameIndex := 380, descriptorIndex := 382, attributes := #[] }] 48 4 #[] #[{ accessFlags := 4120, nameIndex := 121, descriptorIndex := 122, attributes := #[] }])
  fields := #[{ name := "$assertionsDisabled", type := .boolean, accessFlags := 4120, slot := 0, constantValue := 0 }]
  methods := #[k10m0, k10m1, k10m2]
  instanceTypes := #[]
  staticTypes := #[.boolean]
  resolved := Array.replicate 395 none
  statics := none }

def pool11 : Array CpInfo := pool [(1, .methodref 2 3), (0, .class_ 4), (0, .nameAndType 5 6), (0, u "java/lang/Object"), (0, u "<init>"), (0, u "()V"), (1, .class_ 10), (1, u "java/lang/Number"), (2, .class_ 14), (0, u "java/io/Serializable"), (0, u "serialVersionUID"), (0, u "J")] 20

def k11c0 : Code := { maxStack := 1, maxLocals := 1, code := jdk_18_method_1_code, exceptionTable := #[], attributes := #[] }
def k11m0 : Method := { name := "<init>", desc := "()V", sig := { parameters := [], returnType := none }, accessFlags := 1, code := some k11c0 }
/-- java/lang/Number -/
def k11 : Class := { plain "java/lang/Number" (some 0) with
  accessFlags := 1057
  interfaces := #[4]
  cf := some (fileOf pool11 8 #[] #[{ accessFlags := 1, nameIndex := 5, descriptorIndex := 6, attributes := #[] }] 1057 2 #[13] #[{ accessFlags := 26, nameIndex := 15, descriptorIndex := 16, attributes := #[] }])
  fields := #[{ name := "serialVersionUID", type := .long, accessFlags := 26, slot := 0, constantValue := 0 }]
  methods := #[k11m0]
  instanceTypes := #[]
  staticTypes := #[.long]
  resolved := Array.replicate 37 none
  statics := none }

def pool12 : Array CpInfo := pool [(1, .class_ 2), (0, u "java/lang/Long"), (55, .nameAndType 59 60), (0, u "<init>"), (0, u "()V"), (24, u "valueOf"), (143, u "(J)Ljava/lang/Long;"), (0, .long 18446744073709551488), (1, .long 127), (1, .fieldref 235 236), (0, .class_ 237), (0, .nameAndType 238 239), (0, u "java/lang/Long$LongCache"), (0, u "cache"), (0, u "[Ljava/lang/Long;"), (0, .methodref 1 241), (0, .nameAndType 59 242), (0, u "(J)V"), (27, .methodref 271 58), (0, .class_ 272), (0, u "java/lang/Number"), (0, .fieldref 1 274), (0, .nameAndType 275 276), (0, u "value"), (0, u "J"), (84, u "TYPE"), (0, u "Ljava/lang/Class;"), (0, .class_ 364), (0, u "java/lang/Comparable"), (0, .class_ 366), (0, u "java/lang/constant/Constable"), (0, .class_ 368), (0, u "java/lang/constant/ConstantDesc"), (0, u "MIN_VALUE"), (1, u "MAX_VALUE"), (4, u "SIZE"), (0, u "I"), (1, u "BYTES"), (1, u "serialVersionUID")] 142

def k12c0 : Code := { maxStack := 4, maxLocals := 3, code := jdk_35_method_24_code, exceptionTable := #[], attributes := #[] }
def k12m0 : Method := { name := "valueOf", desc := "(J)Ljava/lang/Long;", sig := { parameters := [.long], returnType := some (.object "java/lang/Long") }, accessFlags := 9, code := some k12c0 }
def k12c1 : Code := { maxStack := 3, maxLocals := 3, code := jdk_35_method_26_code, exceptionTable := #[], attributes := #[] }
def k12m1 : Method := { name := "<init>", desc := "(J)V", sig := { parameters := [.long], returnType := none }, accessFlags := 1, code := some k12c1 }
/-- java/lang/Long -/
def k12 : Class := { plain "java/lang/Long" (some 11) with
  accessFlags := 49
  interfaces := #[5, 7, 8]
  cf := some (fileOf pool12 1 #[.nestMembers #[235]] #[{ accessFlags := 9, nameIndex := 85, descriptorIndex := 229, attributes := #[] }, { accessFlags := 1, nameIndex := 59, descriptorIndex := 242, attributes := #[] }] 49 271 #[363, 365, 367] #[{ accessFlags := 25, nameIndex := 369, descriptorIndex := 276, attributes := #[] }, { accessFlags := 25, nameIndex := 371, descriptorIndex := 276, attributes := #[] }, { accessFlags := 25, nameIndex := 361, descriptorIndex := 362, attributes := #[] }, { accessFlags := 18, nameIndex := 275, descriptorIndex := 276, attributes := #[] }, { accessFlags := 25, nameIndex := 376, descriptorIndex := 377, attributes := #[] }, { accessFlags := 25, nameIndex := 379, descriptorIndex := 377, attributes := #[] }, { accessFlags := 26, nameIndex := 381, descriptorIndex := 276, attributes := #[] }])
  fields := #[{ name := "MIN_VALUE", type := .long, accessFlags := 25, slot := 0, constantValue := 0 }, { name := "MAX_VALUE", type := .long, accessFlags := 25, slot := 1, constantValue := 0 }, { name := "TYPE", type := (.object "java/lang/Class"), accessFlags := 25, slot := 2, constantValue := 0 }, { name := "value", type := .long, accessFlags := 18, slot := 0, constantValue := 0 }, { name := "SIZE", type := .int, accessFlags := 25, slot := 3, constantValue := 0 }, { name := "BYTES", type := .int, accessFlags := 25, slot := 4, constantValue := 0 }, { name := "serialVersionUID", type := .long, accessFlags := 26, slot := 5, constantValue := 0 }]
  methods := #[k12m0, k12m1]
  instanceTypes := #[.long]
  staticTypes := #[.long, .long, (.object "java/lang/Class"), .int, .int, .long]
  resolved := Array.replicate 524 none
  statics := none }

def pool13 : Array CpInfo := pool [(2, .class_ 4), (1, u "java/lang/Object"), (0, u "<init>"), (0, u "()V"), (0, .class_ 8), (0, u "java/lang/Long"), (7, .class_ 18), (1, u "java/lang/Long$LongCache"), (0, u "$assertionsDisabled"), (0, u "Z"), (8, u "archivedCache"), (0, u "[Ljava/lang/Long;"), (7, u "cache")] 24

def k13m0 : Method := { name := "<init>", desc := "()V", sig := { parameters := [], returnType := none }, accessFlags := 2, code := none }
/-- java/lang/Long$LongCache -/
def k13 : Class := { plain "java/lang/Long$LongCache" (some 0) with
  accessFlags := 48
  interfaces := #[]
  cf := some (fileOf pool13 16 #[.nestHost 7] #[{ accessFlags := 2, nameIndex := 5, descriptorIndex := 6, attributes := #[] }] 48 2 #[] #[{ accessFlags := 24, nameIndex := 38, descriptorIndex := 30, attributes := #[] }, { accessFlags := 8, nameIndex := 29, descriptorIndex := 30, attributes := #[] }, { accessFlags := 4120, nameIndex := 19, descriptorIndex := 20, attributes := #[] }])
  fields := #[{ name := "cache", type := (.array (.object "java/lang/Long")), accessFlags := 24, slot := 0, constantValue := 0 }, { name := "archivedCache", type := (.array (.object "java/lang/Long")), accessFlags := 8, slot := 1, constantValue := 0 }, { name := "$assertionsDisabled", type := .boolean, accessFlags := 4120, slot := 2, constantValue := 0 }]
  methods := #[k13m0]
  instanceTypes := #[]
  staticTypes := #[(.array (.object "java/lang/Long")), (.array (.object "java/lang/Long")), .boolean]
  resolved := Array.replicate 63 none
  statics := some 1 }

def pool14 : Array CpInfo := pool [(2, .class_ 4), (1, u "java/lang/Object"), (0, u "<init>"), (0, u "()V"), (17, .class_ 26), (1, u "jdk/internal/util/Preconditions"), (28, .class_ 56), (0, u "jdk/internal/util/Preconditions$4"), (57, .class_ 115), (0, u "jdk/internal/util/Preconditions$1"), (7, u "SIOOBE_FORMATTER"), (0, u "Ljava/util/function/BiFunction;"), (0, .class_ 126), (0, u "jdk/internal/util/Preconditions$2"), (3, u "AIOOBE_FORMATTER"), (0, .class_ 132), (0, u "jdk/internal/util/Preconditions$3"), (3, u "IOOBE_FORMATTER")] 57

def k14m0 : Method := { name := "<init>", desc := "()V", sig := { parameters := [], returnType := none }, accessFlags := 1, code := none }
/-- jdk/internal/util/Preconditions -/
def k14 : Class := { plain "jdk/internal/util/Preconditions" (some 0) with
  accessFlags := 33
  interfaces := #[]
  cf := some (fileOf pool14 24 #[.nestMembers #[55, 131, 125, 114]] #[{ accessFlags := 1, nameIndex := 5, descriptorIndex := 6, attributes := #[] }] 33 2 #[] #[{ accessFlags := 25, nameIndex := 123, descriptorIndex := 124, attributes := #[] }, { accessFlags := 25, nameIndex := 130, descriptorIndex := 124, attributes := #[] }, { accessFlags := 25, nameIndex := 136, descriptorIndex := 124, attributes := #[] }])
  fields := #[{ name := "SIOOBE_FORMATTER", type := (.object "java/util/function/BiFunction"), accessFlags := 25, slot := 0, constantValue := 0 }, { name := "AIOOBE_FORMATTER", type := (.object "java/util/function/BiFunction"), accessFlags := 25, slot := 1, constantValue := 0 }, { name := "IOOBE_FORMATTER", type := (.object "java/util/function/BiFunction"), accessFlags := 25, slot := 2, constantValue := 0 }]
  methods := #[k14m0]
  instanceTypes := #[]
  staticTypes := #[(.object "java/util/function/BiFunction"), (.object "java/util/function/BiFunction"), (.object "java/util/function/BiFunction")]
  resolved := Array.replicate 194 none
  statics := some 2 }

def pool15 : Array CpInfo := pool [(9, u "<init>"), (6, .class_ 18), (1, u "java/lang/Object"), (0, u "()V"), (1, .class_ 23), (1, u "jdk/internal/util/ArraysSupport"), (0, u "LOG2_ARRAY_LONG_INDEX_SCALE"), (0, u "I"), (2, u "U"), (0, u "Ljdk/internal/misc/Unsafe;"), (8, u "BIG_ENDIAN"), (0, u "Z"), (8, u "LOG2_BYTE_BIT_SIZE"), (4, u "LOG2_ARRAY_INT_INDEX_SCALE"), (54, u "JLA"), (0, u "Ljdk/internal/access/JavaLangAccess;"), (11, u "LOG2_ARRAY_BOOLEAN_INDEX_SCALE"), (9, u "LOG2_ARRAY_BYTE_INDEX_SCALE"), (5, u "LOG2_ARRAY_CHAR_INDEX_SCALE"), (5, u "LOG2_ARRAY_SHORT_INDEX_SCALE"), (18, u "LOG2_ARRAY_FLOAT_INDEX_SCALE"), (24, u "LOG2_ARRAY_DOUBLE_INDEX_SCALE"), (89, u "T_BOOLEAN"), (2, u "T_CHAR"), (1, u "T_FLOAT"), (1, u "T_DOUBLE"), (1, u "T_BYTE"), (1, u "T_SHORT"), (1, u "T_INT"), (1, u "T_LONG"), (1, u "SOFT_MAX_ARRAY_LENGTH")] 83

def k15m0 : Method := { name := "<init>", desc := "()V", sig := { parameters := [], returnType := none }, accessFlags := 2, code := none }
/-- jdk/internal/util/ArraysSupport -/
def k15 : Class := { plain "jdk/internal/util/ArraysSupport" (some 0) with
  accessFlags := 33
  interfaces := #[]
  cf := some (fileOf pool15 21 #[] #[{ accessFlags := 2, nameIndex := 9, descriptorIndex := 19, attributes := #[] }] 33 16 #[] #[{ accessFlags := 24, nameIndex := 28, descriptorIndex := 29, attributes := #[] }, { accessFlags := 26, nameIndex := 38, descriptorIndex := 39, attributes := #[] }, { accessFlags := 25, nameIndex := 121, descriptorIndex := 25, attributes := #[] }, { accessFlags := 25, nameIndex := 131, descriptorIndex := 25, attributes := #[] }, { accessFlags := 25, nameIndex := 137, descriptorIndex := 25, attributes := #[] }, { accessFlags := 25, nameIndex := 143, descriptorIndex := 25, attributes := #[] }, { accessFlags := 25, nameIndex := 53, descriptorIndex := 25, attributes := #[] }, { accessFlags := 25, nameIndex := 24, descriptorIndex := 25, attributes := #[] }, { accessFlags := 25, nameIndex := 162, descriptorIndex := 25, attributes := #[] }, { accessFlags := 25, nameIndex := 187, descriptorIndex := 25, attributes := #[] }, { accessFlags := 26, nameIndex := 48, descriptorIndex := 25, attributes := #[] }, { accessFlags := 25, nameIndex := 277, descriptorIndex := 25, attributes := #[] }, { accessFlags := 25, nameIndex := 280, descriptorIndex := 25, attributes := #[] }, { accessFlags := 25, nameIndex := 282, descriptorIndex := 25, attributes := #[] }, { accessFlags := 25, nameIndex := 284, descriptorIndex := 25, attributes := #[] }, { accessFlags := 25, nameIndex := 286, descriptorIndex := 25, attributes := #[] }, { accessFlags := 25, nameIndex := 288, descriptorIndex := 25, attributes := #[] }, { accessFlags := 25, nameIndex := 290, descriptorIndex := 25, attributes := #[] }, { accessFlags := 25, nameIndex := 292, descriptorIndex := 25, attributes := #[] }, { accessFlags := 26, nameIndex := 108, descriptorIndex := 109, attributes := #[] }, { accessFlags := 25, nameIndex := 294, descriptorIndex := 25, attributes := #[] }])
  fields := #[{ name := "U", type := (.object "jdk/internal/misc/Unsafe"), accessFlags := 24, slot := 0, constantValue := 0 }, { name := "BIG_ENDIAN", type := .boolean, accessFlags := 26, slot := 1, constantValue := 0 }, { name := "LOG2_ARRAY_BOOLEAN_INDEX_SCALE", type := .int, accessFlags := 25, slot := 2, constantValue := 0 }, { name := "LOG2_ARRAY_BYTE_INDEX_SCALE", type := .int, accessFlags := 25, slot := 3, constantValue := 0 }, { name := "LOG2_ARRAY_CHAR_INDEX_SCALE", type := .int, accessFlags := 25, slot := 4, constantValue := 0 }, { name := "LOG2_ARRAY_SHORT_INDEX_SCALE", type := .int, accessFlags := 25, slot := 5, constantValue := 0 }, { name := "LOG2_ARRAY_INT_INDEX_SCALE", type := .int, accessFlags := 25, slot := 6, constantValue := 0 }, { name := "LOG2_ARRAY_LONG_INDEX_SCALE", type := .int, accessFlags := 25, slot := 7, constantValue := 0 }, { name := "LOG2_ARRAY_FLOAT_INDEX_SCALE", type := .int, accessFlags := 25, slot := 8, constantValue := 0 }, { name := "LOG2_ARRAY_DOUBLE_INDEX_SCALE", type := .int, accessFlags := 25, slot := 9, constantValue := 0 }, { name := "LOG2_BYTE_BIT_SIZE", type := .int, accessFlags := 26, slot := 10, constantValue := 0 }, { name := "T_BOOLEAN", type := .int, accessFlags := 25, slot := 11, constantValue := 0 }, { name := "T_CHAR", type := .int, accessFlags := 25, slot := 12, constantValue := 0 }, { name := "T_FLOAT", type := .int, accessFlags := 25, slot := 13, constantValue := 0 }, { name := "T_DOUBLE", type := .int, accessFlags := 25, slot := 14, constantValue := 0 }, { name := "T_BYTE", type := .int, accessFlags := 25, slot := 15, constantValue := 0 }, { name := "T_SHORT", type := .int, accessFlags := 25, slot := 16, constantValue := 0 }, { name := "T_INT", type := .int, accessFlags := 25, slot := 17, constantValue := 0 }, { name := "T_LONG", type := .int, accessFlags := 25, slot := 18, constantValue := 0 }, { name := "JLA", type := (.object "jdk/internal/access/JavaLangAccess"), accessFlags := 26, slot := 19, constantValue := 0 }, { name := "SOFT_MAX_ARRAY_LENGTH", type := .int, accessFlags := 25, slot := 20, constantValue := 0 }]
  methods := #[k15m0]
  instanceTypes := #[]
  staticTypes := #[(.object "jdk/internal/misc/Unsafe"), .boolean, .int, .int, .int, .int, .int, .int, .int, .int, .int, .int, .int, .int, .int, .int, .int, .int, .int, (.object "jdk/internal/access/JavaLangAccess"), .int]
  resolved := Array.replicate 378 none
  statics := none }

def pool16 : Array CpInfo := pool [(1, u "java/lang/Cloneable"), (0, .class_ 1), (0, u "java/lang/Object"), (0, .class_ 3)] 3

/-- java/lang/Cloneable -/
def k16 : Class := { plain "java/lang/Cloneable" (some 0) with
  accessFlags := 1537
  interfaces := #[]
  cf := some (fileOf pool16 2 #[] #[] 1537 4 #[] #[])
  fields := #[]
  methods := #[]
  instanceTypes := #[]
  staticTypes := #[]
  resolved := Array.replicate 8 none
  statics := none }

/-- the primitive byte -/
def k17 : Class := { plain "byte" none with kind := .primitive 'B', accessFlags := 0x411 }
/-- [B -/
def k18 : Class := { plain "[B" (some 0) with kind := .array 17 .byte, interfaces := #[16, 4], accessFlags := 1041 }

/-- the primitive int -/
def k19 : Class := { plain "int" none with kind := .primitive 'I', accessFlags := 0x411 }
/-- [I -/
def k20 : Class := { plain "[I" (some 0) with kind := .array 19 .int, interfaces := #[16, 4], accessFlags := 1041 }

/-- [Ljava/lang/Long; -/
def k21 : Class := { plain "[Ljava/lang/Long;" (some 0) with kind := .array 12 (.object "java/lang/Long"), interfaces := #[16, 4], accessFlags := 1041 }

def heap : Heap := #[{ cls := 9, slots := #[.long 0, .int 1, .null, .int 0, .null, .int 0, .int 0], vm := .statics 9 },
  { cls := 13, slots := #[.ref 3, .null, .int 0], vm := .statics 13 },
  { cls := 14, slots := #[.null, .null, .null], vm := .statics 14 },
  { cls := 21, slots := #[.ref 4, .ref 5, .ref 6, .ref 7, .ref 8, .ref 9, .ref 10, .ref 11, .ref 12, .ref 13, .ref 14, .ref 15, .ref 16, .ref 17, .ref 18, .ref 19, .ref 20, .ref 21, .ref 22, .ref 23, .ref 24, .ref 25, .ref 26, .ref 27, .ref 28, .ref 29, .ref 30, .ref 31, .ref 32, .ref 33, .ref 34, .ref 35, .ref 36, .ref 37, .ref 38, .ref 39, .ref 40, .ref 41, .ref 42, .ref 43, .ref 44, .ref 45, .ref 46, .ref 47, .ref 48, .ref 49, .ref 50, .ref 51, .ref 52, .ref 53, .ref 54, .ref 55, .ref 56, .ref 57, .ref 58, .ref 59, .ref 60, .ref 61, .ref 62, .ref 63, .ref 64, .ref 65, .ref 66, .ref 67, .ref 68, .ref 69, .ref 70, .ref 71, .ref 72, .ref 73, .ref 74, .ref 75, .ref 76, .ref 77, .ref 78, .ref 79, .ref 80, .ref 81, .ref 82, .ref 83, .ref 84, .ref 85, .ref 86, .ref 87, .ref 88, .ref 89, .ref 90, .ref 91, .ref 92, .ref 93, .ref 94, .ref 95, .ref 96, .ref 97, .ref 98, .ref 99, .ref 100, .ref 101, .ref 102, .ref 103, .ref 104, .ref 105, .ref 106, .ref 107, .ref 108, .ref 109, .ref 110, .ref 111, .ref 112, .ref 113, .ref 114, .ref 115, .ref 116, .ref 117, .ref 118, .ref 119, .ref 120, .ref 121, .ref 122, .ref 123, .ref 124, .ref 125, .ref 126, .ref 127, .ref 128, .ref 129, .ref 130, .ref 131, .ref 132, .ref 133, .ref 134, .ref 135, .ref 136, .ref 137, .ref 138, .ref 139, .ref 140, .ref 141, .ref 142, .ref 143, .ref 144, .ref 145, .ref 146, .ref 147, .ref 148, .ref 149, .ref 150, .ref 151, .ref 152, .ref 153, .ref 154, .ref 155, .ref 156, .ref 157, .ref 158, .ref 159, .ref 160, .ref 161, .ref 162, .ref 163, .ref 164, .ref 165, .ref 166, .ref 167, .ref 168, .ref 169, .ref 170, .ref 171, .ref 172, .ref 173, .ref 174, .ref 175, .ref 176, .ref 177, .ref 178, .ref 179, .ref 180, .ref 181, .ref 182, .ref 183, .ref 184, .ref 185, .ref 186, .ref 187, .ref 188, .ref 189, .ref 190, .ref 191, .ref 192, .ref 193, .ref 194, .ref 195, .ref 196, .ref 197, .ref 198, .ref 199, .ref 200, .ref 201, .ref 202, .ref 203, .ref 204, .ref 205, .ref 206, .ref 207, .ref 208, .ref 209, .ref 210, .ref 211, .ref 212, .ref 213, .ref 214, .ref 215, .ref 216, .ref 217, .ref 218, .ref 219, .ref 220, .ref 221, .ref 222, .ref 223, .ref 224, .ref 225, .ref 226, .ref 227, .ref 228, .ref 229, .ref 230, .ref 231, .ref 232, .ref 233, .ref 234, .ref 235, .ref 236, .ref 237, .ref 238, .ref 239, .ref 240, .ref 241, .ref 242, .ref 243, .ref 244, .ref 245, .ref 246, .ref 247, .ref 248, .ref 249, .ref 250, .ref 251, .ref 252, .ref 253, .ref 254, .ref 255, .ref 256, .ref 257, .ref 258, .ref 259], vm := .none },
  { cls := 12, slots := #[.long (-128)], vm := .none },
  { cls := 12, slots := #[.long (-127)], vm := .none },
  { cls := 12, slots := #[.long (-126)], vm := .none },
  { cls := 12, slots := #[.long (-125)], vm := .none },
  { cls := 12, slots := #[.long (-124)], vm := .none },
  { cls := 12, slots := #[.long (-123)], vm := .none },
  { cls := 12, slots := #[.long (-122)], vm := .none },
  { cls := 12, slots := #[.long (-121)], vm := .none },
  { cls := 12, slots := #[.long (-120)], vm := .none },
  { cls := 12, slots := #[.long (-119)], vm := .none },
  { cls := 12, slots := #[.long (-118)], vm := .none },
  { cls := 12, slots := #[.long (-117)], vm := .none },
  { cls := 12, slots := #[.long (-116)], vm := .none },
  { cls := 12, slots := #[.long (-115)], vm := .none },
  { cls := 12, slots := #[.long (-114)], vm := .none },
  { cls := 12, slots := #[.long (-113)], vm := .none },
  { cls := 12, slots := #[.long (-112)], vm := .none },
  { cls := 12, slots := #[.long (-111)], vm := .none },
  { cls := 12, slots := #[.long (-110)], vm := .none },
  { cls := 12, slots := #[.long (-109)], vm := .none },
  { cls := 12, slots := #[.long (-108)], vm := .none },
  { cls := 12, slots := #[.long (-107)], vm := .none },
  { cls := 12, slots := #[.long (-106)], vm := .none },
  { cls := 12, slots := #[.long (-105)], vm := .none },
  { cls := 12, slots := #[.long (-104)], vm := .none },
  { cls := 12, slots := #[.long (-103)], vm := .none },
  { cls := 12, slots := #[.long (-102)], vm := .none },
  { cls := 12, slots := #[.long (-101)], vm := .none },
  { cls := 12, slots := #[.long (-100)], vm := .none },
  { cls := 12, slots := #[.long (-99)], vm := .none },
  { cls := 12, slots := #[.long (-98)], vm := .none },
  { cls := 12, slots := #[.long (-97)], vm := .none },
  { cls := 12, slots := #[.long (-96)], vm := .none },
  { cls := 12, slots := #[.long (-95)], vm := .none },
  { cls := 12, slots := #[.long (-94)], vm := .none },
  { cls := 12, slots := #[.long (-93)], vm := .none },
  { cls := 12, slots := #[.long (-92)], vm := .none },
  { cls := 12, slots := #[.long (-91)], vm := .none },
  { cls := 12, slots := #[.long (-90)], vm := .none },
  { cls := 12, slots := #[.long (-89)], vm := .none },
  { cls := 12, slots := #[.long (-88)], vm := .none },
  { cls := 12, slots := #[.long (-87)], vm := .none },
  { cls := 12, slots := #[.long (-86)], vm := .none },
  { cls := 12, slots := #[.long (-85)], vm := .none },
  { cls := 12, slots := #[.long (-84)], vm := .none },
  { cls := 12, slots := #[.long (-83)], vm := .none },
  { cls := 12, slots := #[.long (-82)], vm := .none },
  { cls := 12, slots := #[.long (-81)], vm := .none },
  { cls := 12, slots := #[.long (-80)], vm := .none },
  { cls := 12, slots := #[.long (-79)], vm := .none },
  { cls := 12, slots := #[.long (-78)], vm := .none },
  { cls := 12, slots := #[.long (-77)], vm := .none },
  { cls := 12, slots := #[.long (-76)], vm := .none },
  { cls := 12, slots := #[.long (-75)], vm := .none },
  { cls := 12, slots := #[.long (-74)], vm := .none },
  { cls := 12, slots := #[.long (-73)], vm := .none },
  { cls := 12, slots := #[.long (-72)], vm := .none },
  { cls := 12, slots := #[.long (-71)], vm := .none },
  { cls := 12, slots := #[.long (-70)], vm := .none },
  { cls := 12, slots := #[.long (-69)], vm := .none },
  { cls := 12, slots := #[.long (-68)], vm := .none },
  { cls := 12, slots := #[.long (-67)], vm := .none },
  { cls := 12, slots := #[.long (-66)], vm := .none },
  { cls := 12, slots := #[.long (-65)], vm := .none },
  { cls := 12, slots := #[.long (-64)], vm := .none },
  { cls := 12, slots := #[.long (-63)], vm := .none },
  { cls := 12, slots := #[.long (-62)], vm := .none },
  { cls := 12, slots := #[.long (-61)], vm := .none },
  { cls := 12, slots := #[.long (-60)], vm := .none },
  { cls := 12, slots := #[.long (-59)], vm := .none },
  { cls := 12, slots := #[.long (-58)], vm := .none },
  { cls := 12, slots := #[.long (-57)], vm := .none },
  { cls := 12, slots := #[.long (-56)], vm := .none },
  { cls := 12, slots := #[.long (-55)], vm := .none },
  { cls := 12, slots := #[.long (-54)], vm := .none },
  { cls := 12, slots := #[.long (-53)], vm := .none },
  { cls := 12, slots := #[.long (-52)], vm := .none },
  { cls := 12, slots := #[.long (-51)], vm := .none },
  { cls := 12, slots := #[.long (-50)], vm := .none },
  { cls := 12, slots := #[.long (-49)], vm := .none },
  { cls := 12, slots := #[.long (-48)], vm := .none },
  { cls := 12, slots := #[.long (-47)], vm := .none },
  { cls := 12, slots := #[.long (-46)], vm := .none },
  { cls := 12, slots := #[.long (-45)], vm := .none },
  { cls := 12, slots := #[.long (-44)], vm := .none },
  { cls := 12, slots := #[.long (-43)], vm := .none },
  { cls := 12, slots := #[.long (-42)], vm := .none },
  { cls := 12, slots := #[.long (-41)], vm := .none },
  { cls := 12, slots := #[.long (-40)], vm := .none },
  { cls := 12, slots := #[.long (-39)], vm := .none },
  { cls := 12, slots := #[.long (-38)], vm := .none },
  { cls := 12, slots := #[.long (-37)], vm := .none },
  { cls := 12, slots := #[.long (-36)], vm := .none },
  { cls := 12, slots := #[.long (-35)], vm := .none },
  { cls := 12, slots := #[.long (-34)], vm := .none },
  { cls := 12, slots := #[.long (-33)], vm := .none },
  { cls := 12, slots := #[.long (-32)], vm := .none },
  { cls := 12, slots := #[.long (-31)], vm := .none },
  { cls := 12, slots := #[.long (-30)], vm := .none },
  { cls := 12, slots := #[.long (-29)], vm := .none },
  { cls := 12, slots := #[.long (-28)], vm := .none },
  { cls := 12, slots := #[.long (-27)], vm := .none },
  { cls := 12, slots := #[.long (-26)], vm := .none },
  { cls := 12, slots := #[.long (-25)], vm := .none },
  { cls := 12, slots := #[.long (-24)], vm := .none },
  { cls := 12, slots := #[.long (-23)], vm := .none },
  { cls := 12, slots := #[.long (-22)], vm := .none },
  { cls := 12, slots := #[.long (-21)], vm := .none },
  { cls := 12, slots := #[.long (-20)], vm := .none },
  { cls := 12, slots := #[.long (-19)], vm := .none },
  { cls := 12, slots := #[.long (-18)], vm := .none },
  { cls := 12, slots := #[.long (-17)], vm := .none },
  { cls := 12, slots := #[.long (-16)], vm := .none },
  { cls := 12, slots := #[.long (-15)], vm := .none },
  { cls := 12, slots := #[.long (-14)], vm := .none },
  { cls := 12, slots := #[.long (-13)], vm := .none },
  { cls := 12, slots := #[.long (-12)], vm := .none },
  { cls := 12, slots := #[.long (-11)], vm := .none },
  { cls := 12, slots := #[.long (-10)], vm := .none },
  { cls := 12, slots := #[.long (-9)], vm := .none },
  { cls := 12, slots := #[.long (-8)], vm := .none },
  { cls := 12, slots := #[.long (-7)], vm := .none },
  { cls := 12, slots := #[.long (-6)], vm := .none },
  { cls := 12, slots := #[.long (-5)], vm := .none },
  { cls := 12, slots := #[.long (-4)], vm := .none },
  { cls := 12, slots := #[.long (-3)], vm := .none },
  { cls := 12, slots := #[.long (-2)], vm := .none },
  { cls := 12, slots := #[.long (-1)], vm := .none },
  { cls := 12, slots := #[.long (0)], vm := .none },
  { cls := 12, slots := #[.long (1)], vm := .none },
  { cls := 12, slots := #[.long (2)], vm := .none },
  { cls := 12, slots := #[.long (3)], vm := .none },
  { cls := 12, slots := #[.long (4)], vm := .none },
  { cls := 12, slots := #[.long (5)], vm := .none },
  { cls := 12, slots := #[.long (6)], vm := .none },
  { cls := 12, slots := #[.long (7)], vm := .none },
  { cls := 12, slots := #[.long (8)], vm := .none },
  { cls := 12, slots := #[.long (9)], vm := .none },
  { cls := 12, slots := #[.long (10)], vm := .none },
  { cls := 12, slots := #[.long (11)], vm := .none },
  { cls := 12, slots := #[.long (12)], vm := .none },
  { cls := 12, slots := #[.long (13)], vm := .none },
  { cls := 12, slots := #[.long (14)], vm := .none },
  { cls := 12, slots := #[.long (15)], vm := .none },
  { cls := 12, slots := #[.long (16)], vm := .none },
  { cls := 12, slots := #[.long (17)], vm := .none },
  { cls := 12, slots := #[.long (18)], vm := .none },
  { cls := 12, slots := #[.long (19)], vm := .none },
  { cls := 12, slots := #[.long (20)], vm := .none },
  { cls := 12, slots := #[.long (21)], vm := .none },
  { cls := 12, slots := #[.long (22)], vm := .none },
  { cls := 12, slots := #[.long (23)], vm := .none },
  { cls := 12, slots := #[.long (24)], vm := .none },
  { cls := 12, slots := #[.long (25)], vm := .none },
  { cls := 12, slots := #[.long (26)], vm := .none },
  { cls := 12, slots := #[.long (27)], vm := .none },
  { cls := 12, slots := #[.long (28)], vm := .none },
  { cls := 12, slots := #[.long (29)], vm := .none },
  { cls := 12, slots := #[.long (30)], vm := .none },
  { cls := 12, slots := #[.long (31)], vm := .none },
  { cls := 12, slots := #[.long (32)], vm := .none },
  { cls := 12, slots := #[.long (33)], vm := .none },
  { cls := 12, slots := #[.long (34)], vm := .none },
  { cls := 12, slots := #[.long (35)], vm := .none },
  { cls := 12, slots := #[.long (36)], vm := .none },
  { cls := 12, slots := #[.long (37)], vm := .none },
  { cls := 12, slots := #[.long (38)], vm := .none },
  { cls := 12, slots := #[.long (39)], vm := .none },
  { cls := 12, slots := #[.long (40)], vm := .none },
  { cls := 12, slots := #[.long (41)], vm := .none },
  { cls := 12, slots := #[.long (42)], vm := .none },
  { cls := 12, slots := #[.long (43)], vm := .none },
  { cls := 12, slots := #[.long (44)], vm := .none },
  { cls := 12, slots := #[.long (45)], vm := .none },
  { cls := 12, slots := #[.long (46)], vm := .none },
  { cls := 12, slots := #[.long (47)], vm := .none },
  { cls := 12, slots := #[.long (48)], vm := .none },
  { cls := 12, slots := #[.long (49)], vm := .none },
  { cls := 12, slots := #[.long (50)], vm := .none },
  { cls := 12, slots := #[.long (51)], vm := .none },
  { cls := 12, slots := #[.long (52)], vm := .none },
  { cls := 12, slots := #[.long (53)], vm := .none },
  { cls := 12, slots := #[.long (54)], vm := .none },
  { cls := 12, slots := #[.long (55)], vm := .none },
  { cls := 12, slots := #[.long (56)], vm := .none },
  { cls := 12, slots := #[.long (57)], vm := .none },
  { cls := 12, slots := #[.long (58)], vm := .none },
  { cls := 12, slots := #[.long (59)], vm := .none },
  { cls := 12, slots := #[.long (60)], vm := .none },
  { cls := 12, slots := #[.long (61)], vm := .none },
  { cls := 12, slots := #[.long (62)], vm := .none },
  { cls := 12, slots := #[.long (63)], vm := .none },
  { cls := 12, slots := #[.long (64)], vm := .none },
  { cls := 12, slots := #[.long (65)], vm := .none },
  { cls := 12, slots := #[.long (66)], vm := .none },
  { cls := 12, slots := #[.long (67)], vm := .none },
  { cls := 12, slots := #[.long (68)], vm := .none },
  { cls := 12, slots := #[.long (69)], vm := .none },
  { cls := 12, slots := #[.long (70)], vm := .none },
  { cls := 12, slots := #[.long (71)], vm := .none },
  { cls := 12, slots := #[.long (72)], vm := .none },
  { cls := 12, slots := #[.long (73)], vm := .none },
  { cls := 12, slots := #[.long (74)], vm := .none },
  { cls := 12, slots := #[.long (75)], vm := .none },
  { cls := 12, slots := #[.long (76)], vm := .none },
  { cls := 12, slots := #[.long (77)], vm := .none },
  { cls := 12, slots := #[.long (78)], vm := .none },
  { cls := 12, slots := #[.long (79)], vm := .none },
  { cls := 12, slots := #[.long (80)], vm := .none },
  { cls := 12, slots := #[.long (81)], vm := .none },
  { cls := 12, slots := #[.long (82)], vm := .none },
  { cls := 12, slots := #[.long (83)], vm := .none },
  { cls := 12, slots := #[.long (84)], vm := .none },
  { cls := 12, slots := #[.long (85)], vm := .none },
  { cls := 12, slots := #[.long (86)], vm := .none },
  { cls := 12, slots := #[.long (87)], vm := .none },
  { cls := 12, slots := #[.long (88)], vm := .none },
  { cls := 12, slots := #[.long (89)], vm := .none },
  { cls := 12, slots := #[.long (90)], vm := .none },
  { cls := 12, slots := #[.long (91)], vm := .none },
  { cls := 12, slots := #[.long (92)], vm := .none },
  { cls := 12, slots := #[.long (93)], vm := .none },
  { cls := 12, slots := #[.long (94)], vm := .none },
  { cls := 12, slots := #[.long (95)], vm := .none },
  { cls := 12, slots := #[.long (96)], vm := .none },
  { cls := 12, slots := #[.long (97)], vm := .none },
  { cls := 12, slots := #[.long (98)], vm := .none },
  { cls := 12, slots := #[.long (99)], vm := .none },
  { cls := 12, slots := #[.long (100)], vm := .none },
  { cls := 12, slots := #[.long (101)], vm := .none },
  { cls := 12, slots := #[.long (102)], vm := .none },
  { cls := 12, slots := #[.long (103)], vm := .none },
  { cls := 12, slots := #[.long (104)], vm := .none },
  { cls := 12, slots := #[.long (105)], vm := .none },
  { cls := 12, slots := #[.long (106)], vm := .none },
  { cls := 12, slots := #[.long (107)], vm := .none },
  { cls := 12, slots := #[.long (108)], vm := .none },
  { cls := 12, slots := #[.long (109)], vm := .none },
  { cls := 12, slots := #[.long (110)], vm := .none },
  { cls := 12, slots := #[.long (111)], vm := .none },
  { cls := 12, slots := #[.long (112)], vm := .none },
  { cls := 12, slots := #[.long (113)], vm := .none },
  { cls := 12, slots := #[.long (114)], vm := .none },
  { cls := 12, slots := #[.long (115)], vm := .none },
  { cls := 12, slots := #[.long (116)], vm := .none },
  { cls := 12, slots := #[.long (117)], vm := .none },
  { cls := 12, slots := #[.long (118)], vm := .none },
  { cls := 12, slots := #[.long (119)], vm := .none },
  { cls := 12, slots := #[.long (120)], vm := .none },
  { cls := 12, slots := #[.long (121)], vm := .none },
  { cls := 12, slots := #[.long (122)], vm := .none },
  { cls := 12, slots := #[.long (123)], vm := .none },
  { cls := 12, slots := #[.long (124)], vm := .none },
  { cls := 12, slots := #[.long (125)], vm := .none },
  { cls := 12, slots := #[.long (126)], vm := .none },
  { cls := 12, slots := #[.long (127)], vm := .none }]
def classes : Array Class := #[k0, k1, k2, k3, k4, k5, k6, k7, k8, k9, k10, k11, k12, k13, k14, k15, k16, k17, k18, k19, k20, k21]
def interned : List (Array UInt16 × Addr) := []
def slotsUsed : Nat := 525
def theMethod : MethodId := ⟨1, 2⟩
def args0 : Array Value := #[.int 11, .int 5, .int 1, .long 2, .long 500]
def aboutOver (below : List Frame) : State where
  vm := { classes := classes, interned := interned.toArray }
  heap := heap
  slotsUsed := slotsUsed
  threads := #[{ frames := .invoking theMethod args0 :: below }]
def below0 : List Frame := [.native { method := ⟨0, 0⟩, args := #[] }]
def about1 : State := aboutOver below0
def p0 : Program := .bare "" "" ""
def e0 : Env := launch0.env 0 0 0
theorem w_frames : about1.frames = Frame.invoking theMethod args0 :: below0 := rfl
set_option maxRecDepth 65536 in
theorem w_args : argsFit about1.vm theMethod args0 = true := by decide +kernel
set_option maxRecDepth 65536 in
theorem w_heap : heapFits about1 = true := by decide +kernel
set_option maxRecDepth 65536 in
theorem w_runnable : about1.curStatus? = some .runnable := by decide +kernel
set_option maxRecDepth 65536 in
theorem w_alone : about1.alone = true := by decide +kernel
set_option maxRecDepth 65536 in
theorem w_named : about1.methodNamed? x = some theMethod := by decide +kernel
set_option maxRecDepth 65536 in
theorem w_hears : about1.hears theMethod below0 = true := by decide +kernel
set_option maxRecDepth 65536 in
theorem w_ripe : about1.ripe theMethod args0 below0 = true := by decide +kernel
theorem w_running : about1.status = .running := rfl
set_option maxRecDepth 65536 in
theorem w_room : about1.hasRoom e0.platform room_1 = true :=
  launch0.hasRoom_least _ room_1 (by decide +kernel) (by decide +kernel) (by decide +kernel) (by decide +kernel) (by decide +kernel) (by decide +kernel)
theorem allAtoms_all (ts : List Jvm.Cond) (a : Array Jvm.Value) (st : Jvm.State) : (allAtoms ts).before a st = ts.all (fun c => c.before a st) := by
  induction ts with
  | nil => rfl
  | cons c t ih =>
    show (Jvm.Cond.and c (allAtoms t)).before a st = _
    rw [Jvm.Cond.before_and, ih, List.all_cons]
def words1 : List Jvm.Cond := Jvm.Cond.code x code maxLocals ret :: tables_1
/-- a 'code' word, met by the world's own term for the bytes: nothing is compared byte by byte -/
theorem code_word {y : MethodName} {bytes : ByteArray} {mx : Nat} {rt : Option FieldType} {a : Array Value} {s : State} {m : MethodId} {meth : Method} {c : Code} (h1 : s.methodNamed? y = some m) (h2 : s.vm.method? m = some meth) (h3 : meth.code = some c) (h4 : c.code = bytes)
    (h5 : (c.maxLocals == mx && c.exceptionTable.isEmpty && decide (c.maxStack ≤ mostOperands) && decide (meth.sig.returnType = rt) && !meth.locks && decide (parseMethodDescriptor y.desc = some meth.sig)) = true) : (Jvm.Cond.code y bytes mx rt).before a s = true := by
  simp only [Bool.and_eq_true, beq_iff_eq, Bool.not_eq_true', decide_eq_true_eq] at h5
  obtain ⟨⟨⟨⟨⟨g1, g2⟩, g3⟩, g4⟩, g5⟩, g6⟩ := h5
  simp [Cond.before, Cond.holds, Cond.value, h1, h2, h3, h4, g1, g2, g3, g4, g5, g6]
def isCode : Jvm.Cond → Bool
  | .code _ _ _ _ => true
  | _ => false
theorem all_split {L : List Jvm.Cond} {P : Jvm.Cond → Bool} (h1 : L.all (fun c => isCode c || P c) = true) (h2 : ∀ c ∈ L.filter isCode, P c = true) : L.all P = true := by
  refine List.all_eq_true.mpr fun c hc => ?_
  have h := List.all_eq_true.mp h1 c hc
  rcases Bool.eq_false_or_eq_true (isCode c) with hi | hi
  · exact h2 c (List.mem_filter.mpr ⟨hc, hi⟩)
  · simpa [hi] using h
set_option maxRecDepth 65536 in
theorem w_c0 : (Jvm.Cond.code x code maxLocals ret).before args0 about1 = true := code_word (m := ⟨1, 2⟩) (meth := k1m2) (c := k1c2) (by decide +kernel) rfl rfl rfl (by decide +kernel)
set_option maxRecDepth 65536 in
theorem w_c1 : (Jvm.Cond.code ({ cls := "com/example/kindred/kindred/index/SongTag", name := "<init>", desc := "(Ljava/lang/String;Ljava/lang/String;Ljava/lang/String;Ljava/lang/String;Ljava/lang/Long;Ljava/lang/Long;)V" } : Jvm.MethodName) prog_31_method_1_code (7 : Nat) (Option.none : Option Jvm.ClassFile.FieldType)).before args0 about1 = true := code_word (m := ⟨3, 0⟩) (meth := k3m0) (c := k3c0) (by decide +kernel) rfl rfl rfl (by decide +kernel)
set_option maxRecDepth 65536 in
theorem w_c2 : (Jvm.Cond.code ({ cls := "java/lang/Record", name := "<init>", desc := "()V" } : Jvm.MethodName) jdk_30_method_1_code (1 : Nat) (Option.none : Option Jvm.ClassFile.FieldType)).before args0 about1 = true := code_word (m := ⟨2, 0⟩) (meth := k2m0) (c := k2c0) (by decide +kernel) rfl rfl rfl (by decide +kernel)
set_option maxRecDepth 65536 in
theorem w_c3 : (Jvm.Cond.code ({ cls := "java/lang/Object", name := "<init>", desc := "()V" } : Jvm.MethodName) object_method_1_code (1 : Nat) (Option.none : Option Jvm.ClassFile.FieldType)).before args0 about1 = true := code_word (m := ⟨0, 0⟩) (meth := k0m0) (c := k0c0) (by decide +kernel) rfl rfl rfl (by decide +kernel)
set_option maxRecDepth 65536 in
theorem w_c4 : (Jvm.Cond.code ({ cls := "com/example/kindred/kindred/index/SongTag", name := "isComplete", desc := "()Z" } : Jvm.MethodName) prog_31_method_2_code (1 : Nat) (Option.some Jvm.ClassFile.FieldType.boolean)).before args0 about1 = true := code_word (m := ⟨3, 1⟩) (meth := k3m1) (c := k3c1) (by decide +kernel) rfl rfl rfl (by decide +kernel)
set_option maxRecDepth 65536 in
theorem w_c5 : (Jvm.Cond.code ({ cls := "com/example/kindred/kindred/index/SongTagIsCompletePinLaw", name := "str", desc := "(II)Ljava/lang/String;" } : Jvm.MethodName) method_2_code (3 : Nat) (Option.some (Jvm.ClassFile.FieldType.object "java/lang/String"))).before args0 about1 = true := code_word (m := ⟨1, 1⟩) (meth := k1m1) (c := k1c1) (by decide +kernel) rfl rfl rfl (by decide +kernel)
set_option maxRecDepth 65536 in
theorem w_c6 : (Jvm.Cond.code ({ cls := "java/lang/String", name := "valueOf", desc := "(C)Ljava/lang/String;" } : Jvm.MethodName) jdk_42_method_139_code (1 : Nat) (Option.some (Jvm.ClassFile.FieldType.object "java/lang/String"))).before args0 about1 = true := code_word (m := ⟨9, 1⟩) (meth := k9m1) (c := k9c1) (by decide +kernel) rfl rfl rfl (by decide +kernel)
set_option maxRecDepth 65536 in
theorem w_c7 : (Jvm.Cond.code ({ cls := "java/lang/StringLatin1", name := "canEncode", desc := "(C)Z" } : Jvm.MethodName) jdk_43_method_3_code (1 : Nat) (Option.some Jvm.ClassFile.FieldType.boolean)).before args0 about1 = true := code_word (m := ⟨10, 1⟩) (meth := k10m1) (c := k10c1) (by decide +kernel) rfl rfl rfl (by decide +kernel)
set_option maxRecDepth 65536 in
theorem w_c8 : (Jvm.Cond.code ({ cls := "java/lang/StringLatin1", name := "toBytes", desc := "(C)[B" } : Jvm.MethodName) jdk_43_method_46_code (1 : Nat) (Option.some (Jvm.ClassFile.FieldType.array Jvm.ClassFile.FieldType.byte))).before args0 about1 = true := code_word (m := ⟨10, 2⟩) (meth := k10m2) (c := k10c2) (by decide +kernel) rfl rfl rfl (by decide +kernel)
set_option maxRecDepth 65536 in
theorem w_c9 : (Jvm.Cond.code ({ cls := "java/lang/String", name := "<init>", desc := "([BB)V" } : Jvm.MethodName) jdk_42_method_151_code (3 : Nat) (Option.none : Option Jvm.ClassFile.FieldType)).before args0 about1 = true := code_word (m := ⟨9, 2⟩) (meth := k9m2) (c := k9c2) (by decide +kernel) rfl rfl rfl (by decide +kernel)
set_option maxRecDepth 65536 in
theorem w_c10 : (Jvm.Cond.code ({ cls := "java/lang/Long", name := "valueOf", desc := "(J)Ljava/lang/Long;" } : Jvm.MethodName) jdk_35_method_24_code (3 : Nat) (Option.some (Jvm.ClassFile.FieldType.object "java/lang/Long"))).before args0 about1 = true := code_word (m := ⟨12, 0⟩) (meth := k12m0) (c := k12c0) (by decide +kernel) rfl rfl rfl (by decide +kernel)
set_option maxRecDepth 65536 in
theorem w_c11 : (Jvm.Cond.code ({ cls := "java/lang/Long", name := "<init>", desc := "(J)V" } : Jvm.MethodName) jdk_35_method_26_code (3 : Nat) (Option.none : Option Jvm.ClassFile.FieldType)).before args0 about1 = true := code_word (m := ⟨12, 1⟩) (meth := k12m1) (c := k12c1) (by decide +kernel) rfl rfl rfl (by decide +kernel)
set_option maxRecDepth 65536 in
theorem w_c12 : (Jvm.Cond.code ({ cls := "java/lang/Number", name := "<init>", desc := "()V" } : Jvm.MethodName) jdk_18_method_1_code (1 : Nat) (Option.none : Option Jvm.ClassFile.FieldType)).before args0 about1 = true := code_word (m := ⟨11, 0⟩) (meth := k11m0) (c := k11c0) (by decide +kernel) rfl rfl rfl (by decide +kernel)
def codes1 : List Jvm.Cond := [Jvm.Cond.code x code maxLocals ret, Jvm.Cond.code ({ cls := "com/example/kindred/kindred/index/SongTag", name := "<init>", desc := "(Ljava/lang/String;Ljava/lang/String;Ljava/lang/String;Ljava/lang/String;Ljava/lang/Long;Ljava/lang/Long;)V" } : Jvm.MethodName) prog_31_method_1_code (7 : Nat) (Option.none : Option Jvm.ClassFile.FieldType), Jvm.Cond.code ({ cls := "java/lang/Record", name := "<init>", desc := "()V" } : Jvm.MethodName) jdk_30_method_1_code (1 : Nat) (Option.none : Option Jvm.ClassFile.FieldType), Jvm.Cond.code ({ cls := "java/lang/Object", name := "<init>", desc := "()V" } : Jvm.MethodName) object_method_1_code (1 : Nat) (Option.none : Option Jvm.ClassFile.FieldType), Jvm.Cond.code ({ cls := "com/example/kindred/kindred/index/SongTag", name := "isComplete", desc := "()Z" } : Jvm.MethodName) prog_31_method_2_code (1 : Nat) (Option.some Jvm.ClassFile.FieldType.boolean), Jvm.Cond.code ({ cls := "com/example/kindred/kindred/index/SongTagIsCompletePinLaw", name := "str", desc := "(II)Ljava/lang/String;" } : Jvm.MethodName) method_2_code (3 : Nat) (Option.some (Jvm.ClassFile.FieldType.object "java/lang/String")), Jvm.Cond.code ({ cls := "java/lang/String", name := "valueOf", desc := "(C)Ljava/lang/String;" } : Jvm.MethodName) jdk_42_method_139_code (1 : Nat) (Option.some (Jvm.ClassFile.FieldType.object "java/lang/String")), Jvm.Cond.code ({ cls := "java/lang/StringLatin1", name := "canEncode", desc := "(C)Z" } : Jvm.MethodName) jdk_43_method_3_code (1 : Nat) (Option.some Jvm.ClassFile.FieldType.boolean), Jvm.Cond.code ({ cls := "java/lang/StringLatin1", name := "toBytes", desc := "(C)[B" } : Jvm.MethodName) jdk_43_method_46_code (1 : Nat) (Option.some (Jvm.ClassFile.FieldType.array Jvm.ClassFile.FieldType.byte)), Jvm.Cond.code ({ cls := "java/lang/String", name := "<init>", desc := "([BB)V" } : Jvm.MethodName) jdk_42_method_151_code (3 : Nat) (Option.none : Option Jvm.ClassFile.FieldType), Jvm.Cond.code ({ cls := "java/lang/Long", name := "valueOf", desc := "(J)Ljava/lang/Long;" } : Jvm.MethodName) jdk_35_method_24_code (3 : Nat) (Option.some (Jvm.ClassFile.FieldType.object "java/lang/Long")), Jvm.Cond.code ({ cls := "java/lang/Long", name := "<init>", desc := "(J)V" } : Jvm.MethodName) jdk_35_method_26_code (3 : Nat) (Option.none : Option Jvm.ClassFile.FieldType), Jvm.Cond.code ({ cls := "java/lang/Number", name := "<init>", desc := "()V" } : Jvm.MethodName) jdk_18_method_1_code (1 : Nat) (Option.none : Option Jvm.ClassFile.FieldType)]
set_option maxRecDepth 65536 in
theorem codes_eq : words1.filter isCode = codes1 := rfl
theorem w_codes : ∀ c ∈ words1.filter isCode, c.before args0 about1 = true := by
  rw [codes_eq]
  intro c hc
  simp only [codes1, List.mem_cons, List.not_mem_nil, or_false] at hc
  rcases hc with rfl | rfl | rfl | rfl | rfl | rfl | rfl | rfl | rfl | rfl | rfl | rfl | rfl
  · exact w_c0
  · exact w_c1
  · exact w_c2
  · exact w_c3
  · exact w_c4
  · exact w_c5
  · exact w_c6
  · exact w_c7
  · exact w_c8
  · exact w_c9
  · exact w_c10
  · exact w_c11
  · exact w_c12
set_option maxRecDepth 65536 in
theorem w_t1 : (words1.take 24).all (fun c => isCode c || c.before args0 about1) = true := by decide +kernel
set_option maxRecDepth 65536 in
theorem w_t2 : ((words1.drop 24).take 24).all (fun c => isCode c || c.before args0 about1) = true := by decide +kernel
set_option maxRecDepth 65536 in
theorem w_t3 : (((words1.drop 24).drop 24).take 24).all (fun c => isCode c || c.before args0 about1) = true := by decide +kernel
set_option maxRecDepth 65536 in
theorem w_t4 : (((words1.drop 24).drop 24).drop 24).all (fun c => isCode c || c.before args0 about1) = true := by decide +kernel
theorem w_tables : (allAtoms (Jvm.Cond.code x code maxLocals ret :: tables_1)).before args0 about1 = true := by
  rw [allAtoms_all]
  show words1.all (fun c => c.before args0 about1) = true
  refine all_split ?_ w_codes
  rw [← List.take_append_drop 24 words1, List.all_append, w_t1, ← List.take_append_drop 24 (words1.drop 24), List.all_append, w_t2, ← List.take_append_drop 24 ((words1.drop 24).drop 24), List.all_append, w_t3, w_t4]
  rfl
set_option maxRecDepth 65536 in
theorem w_rest : rest_1_c.before args0 about1 = true := by decide +kernel
set_option maxRecDepth 65536 in
theorem w_case : (Jvm.Cond.and given_1 narrow_1).before args0 about1 = true := by decide +kernel
theorem w_applies : (headSpec (Jvm.Cond.code x code maxLocals ret :: tables_1) room_1).applies x e0.platform about1 = true :=
  (Spec.applies_iff w_frames).mpr ⟨w_running, w_runnable, w_alone, w_named, w_hears, w_ripe, w_room, w_tables⟩
theorem atStart : AtStart classFile x code maxLocals ret World_1 tables_1 room_1 Calls_1 rest_1 Pre_1 launch0 p0 e0 about1 theMethod args0 below0 :=
  ⟨lists_1, trivial, launch0.admits_env _ _ _, launch0.least_env, fairChoices_fair.cas, fairChoices_fair.clock, w_frames, w_args, w_heap, w_applies, trivial, w_rest, w_case⟩
end start1
theorem witness_1 : WitnessClaimed_1 := ⟨start1.p0, start1.e0, start1.about1, start1.theMethod, start1.args0, start1.below0, start1.atStart⟩
end Jvm.Pilot.@@N@@
