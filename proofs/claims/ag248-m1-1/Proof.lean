import JvmDerived
import JvmDerived.Pilot.@@N@@Statement
import JvmDerived.Pilot.@@N@@Code
set_option linter.unusedVariables false
set_option linter.unusedSimpArgs false
namespace Jvm.Pilot.@@N@@
open Jvm Jvm.ClassFile Sem Op Lib Jvm.Free Jvm.Stand Jvm.LawKit Jvm.RoadKit Bundle Jvm.Pilot.@@N@@.Jvm.D
section GoKit
variable {p : Program} {l : Launch} {e : Env} {R : Room} {s : State} {m : MethodId} {args : Array Value} {below : List Frame} {meth : Method} {c : Code} {T : State} {Z : State} {own nm : String} {bytes : ByteArray} {mx : Nat} {rt : Option FieldType} {n0 k n : Nat} {h : Heap} {Q : Option Value → Heap → Prop} {CC NN : Nat} {a0 : Array Value} {Ls Ls' : Array Slot} {rest : List Value} {pc pc' : Nat}
/-- where a walk stands -/
def W (Z : State) (own nm : String) (bytes : ByteArray) (mx : Nat) (rt : Option FieldType) (n0 : Nat) (p : Program) (l : Launch) (e : Env) (R : Room) (s : State) (m : MethodId) (args : Array Value) (below : List Frame) (meth : Method) (c : Code) (k n : Nat) (T : State) (h : Heap) : Prop :=
  ∃ vm0, (∃ k0, s.Since vm0 k0 ∧ k0 ≤ h.size) ∧ p.tables.exec = Jvm.exec ∧ c.code = bytes ∧ (s.setVm vm0).vm.findClass own = some m.cls ∧ Z.Warmed39 (s.setVm vm0).vm ∧ c.maxLocals = mx ∧ meth.name = nm ∧ meth.sig.returnType = rt ∧ meth.locks = false ∧ (∃ L, Stand p l e R (s.setVm vm0) m args below meth c T L k n ∧ Fr n0 L) ∧ T.heap = h
theorem reb {s : State} {vm0 : Vm} {h h' : Heap} (q : ∃ k0, s.Since vm0 k0 ∧ k0 ≤ h.size) (r : h.size ≤ h'.size) : ∃ k0, s.Since vm0 k0 ∧ k0 ≤ h'.size := by
  obtain ⟨k0, a, b⟩ := q
  exact ⟨k0, a, Nat.le_trans b r⟩
/-- from this frame the method ends well -/
def Go (n0 : Nat) (p : Program) (e : Env) (below : List Frame) (s : State) (Q : Option Value → Heap → Prop) (CC NN : Nat) (T : State) (g : JFrame) : Prop :=
  ∃ s₂ o, Steps p.tables e below (T.setTop g) s₂ ∧ s₂.status = .running ∧ Ended s₂ below o ∧ ∃ v L, o = .returned v ∧ (Fr n0 L ∧ Q v s₂.heap) ∧ ReturnedEndW s o s₂ L CC NN
/-- a body's contract: of these arguments, at this heap -/
def Ctr (l : Launch) (y : MethodName) (yb : ByteArray) (ymx : Nat) (yr : Option FieldType) (rm : Room) (Z : State) (as : Array Value) (h0 : Heap) (n0 : Nat) (Q : Option Value → Heap → Prop) (ws : List Jvm.Cond) : Prop :=
  MetFree l y (head1 (Jvm.Cond.code y yb ymx yr :: ws) rm) (fun a U => a = as ∧ Z.Warmed39 U.vm ∧ U.heap = h0) (fun _ _ _ _ _ => True) (fun _ U o U' => ∃ v L, o = .returned v ∧ (Fr n0 L ∧ Q v U'.heap) ∧ ReturnedEndW U o U' L rm.cells rm.slots)
theorem metGo {y : MethodName} {rm : Room} {as : Array Value} {ws : List Jvm.Cond} (hpn : plainFor y = true) (hef : ∀ m, entryFrame m as mx = mkF m 0 Ls [])
    (H : ∀ (p : Program) (e : Env) (s : State) (m : MethodId) (below : List Frame) (meth : Method) (c : Code) (T : State), W Z y.cls y.name bytes mx rt n0 p l e rm s m as below meth c 0 0 T h → Go n0 p e below s Q rm.cells rm.slots T (mkF m 0 Ls [])) : Ctr l y bytes mx rt rm Z as h n0 Q ws := by
  refine MetFree.of_bodySF hpn hisR ?_
  intro p e s m args below meth c s₁ Bd hml0 hP hK
  obtain ⟨rfl, hZ, hh⟩ := hP
  have e0 : s₁.heap = h := by rw [← hh, Bd.state]; rfl
  obtain ⟨s₂, o, st, r⟩ := H p e s m below meth c s₁ ⟨s.vm, ⟨0, (State.WarmedH.refl s).since 0, Nat.zero_le _⟩, Bd.exec, Bd.bytes, findClass_of_methodNamed Bd.named, hZ, hml0, (name_of_methodNamed Bd.named Bd.method).1, Bd.returns, Bd.notSynchronized, ⟨[], Stand.of_body Bd, Fr.nil n0⟩, e0⟩
  exact ⟨s₂, o, castTop (hef m) st, r⟩
def cY : ClassFile.Cond → Int32 → Int32 → Prop
  | .eq, x, y => x = y
  | .ne, x, y => ¬ x = y
  | .lt, x, y => x < y
  | .ge, x, y => ¬ x < y
  | .gt, x, y => y < x
  | .le, x, y => ¬ y < x
def cN : ClassFile.Cond → Int32 → Int32 → Prop
  | .eq, x, y => ¬ x = y
  | .ne, x, y => x = y
  | .lt, x, y => ¬ x < y
  | .ge, x, y => x < y
  | .gt, x, y => ¬ y < x
  | .le, x, y => y < x
def lY : ClassFile.Cond → Int64 → Int64 → Prop
  | .eq, x, y => x = y
  | .ne, x, y => ¬ x = y
  | .lt, x, y => x < y
  | .ge, x, y => ¬ x < y
  | .gt, x, y => y < x
  | .le, x, y => ¬ y < x
def lN : ClassFile.Cond → Int64 → Int64 → Prop
  | .eq, x, y => ¬ x = y
  | .ne, x, y => x = y
  | .lt, x, y => ¬ x < y
  | .ge, x, y => x < y
  | .gt, x, y => ¬ y < x
  | .le, x, y => y < x
theorem c_or (cd : ClassFile.Cond) (x y : Int32) : (cY cd x y ∧ if_icmp.holds cd x y = true) ∨ (cN cd x y ∧ if_icmp.holds cd x y = false) := by
  cases cd
  · by_cases q : x = y
    · exact Or.inl ⟨q, (teq q).1⟩
    · exact Or.inr ⟨q, (feq q).1⟩
  · by_cases q : x = y
    · exact Or.inr ⟨q, (teq q).2⟩
    · exact Or.inl ⟨q, (feq q).2⟩
  · by_cases q : x < y
    · exact Or.inl ⟨q, (tlt q).1⟩
    · exact Or.inr ⟨q, (flt q).1⟩
  · by_cases q : x < y
    · exact Or.inr ⟨q, (tlt q).2.1⟩
    · exact Or.inl ⟨q, (flt q).2.1⟩
  · by_cases q : y < x
    · exact Or.inl ⟨q, (tlt q).2.2.1⟩
    · exact Or.inr ⟨q, (flt q).2.2.1⟩
  · by_cases q : y < x
    · exact Or.inr ⟨q, (tlt q).2.2.2⟩
    · exact Or.inl ⟨q, (flt q).2.2.2⟩
theorem lY_of (cd : ClassFile.Cond) (x y : Int64) (q : cY cd (lcmpW x y) 0) : lY cd x y := by
  cases cd
  · exact (lw_eq x y).mp q
  · exact fun r => q ((lw_eq x y).mpr r)
  · exact (lw_lt x y).mp q
  · exact fun r => q ((lw_lt x y).mpr r)
  · exact (lw_gt x y).mp q
  · exact fun r => q ((lw_gt x y).mpr r)
theorem lN_of (cd : ClassFile.Cond) (x y : Int64) (q : cN cd (lcmpW x y) 0) : lN cd x y := by
  cases cd
  · exact fun r => q ((lw_eq x y).mpr r)
  · exact (lw_eq x y).mp q
  · exact fun r => q ((lw_lt x y).mpr r)
  · exact (lw_lt x y).mp q
  · exact fun r => q ((lw_gt x y).mpr r)
  · exact (lw_gt x y).mp q

theorem giload (w : W Z own nm bytes mx rt n0 p l e R s m args below meth c k n T h) {j : Nat} {v : Int32} (hd : decode bytes pc = .ok (.iload j, 2)) (hl : Ls[j]? = some (.val (.int v))) (hp : pc + 2 = pc') (K : Go n0 p e below s Q CC NN T (mkF m pc' Ls (.int v :: rest))) : Go n0 p e below s Q CC NN T (mkF m pc Ls (rest)) := by
  obtain ⟨vm0, -, hx, hb, -, -, -, -, -, -, ⟨L, X, -⟩, -⟩ := w
  obtain ⟨s₂, o, st, r⟩ := K
  subst hp hb
  exact ⟨s₂, o, XS.iload X.here hx rfl hd hl st, r⟩
theorem giloadN (w : W Z own nm bytes mx rt n0 p l e R s m args below meth c k n T h) {j : Fin 4} {v : Int32} (hd : decode bytes pc = .ok (.iload_n j, 1)) (hl : Ls[j.val]? = some (.val (.int v))) (hp : pc + 1 = pc') (K : Go n0 p e below s Q CC NN T (mkF m pc' Ls (.int v :: rest))) : Go n0 p e below s Q CC NN T (mkF m pc Ls (rest)) := by
  obtain ⟨vm0, -, hx, hb, -, -, -, -, -, -, ⟨L, X, -⟩, -⟩ := w
  obtain ⟨s₂, o, st, r⟩ := K
  subst hp hb
  exact ⟨s₂, o, XS.iloadN X.here hx rfl hd hl st, r⟩
theorem glload (w : W Z own nm bytes mx rt n0 p l e R s m args below meth c k n T h) {j : Nat} {v : Int64} (hd : decode bytes pc = .ok (.lload j, 2)) (hl : Ls[j]? = some (.val (.long v))) (hp : pc + 2 = pc') (K : Go n0 p e below s Q CC NN T (mkF m pc' Ls (.long v :: rest))) : Go n0 p e below s Q CC NN T (mkF m pc Ls (rest)) := by
  obtain ⟨vm0, -, hx, hb, -, -, -, -, -, -, ⟨L, X, -⟩, -⟩ := w
  obtain ⟨s₂, o, st, r⟩ := K
  subst hp hb
  exact ⟨s₂, o, XS.lload X.here hx rfl hd hl st, r⟩
theorem glloadN (w : W Z own nm bytes mx rt n0 p l e R s m args below meth c k n T h) {j : Fin 4} {v : Int64} (hd : decode bytes pc = .ok (.lload_n j, 1)) (hl : Ls[j.val]? = some (.val (.long v))) (hp : pc + 1 = pc') (K : Go n0 p e below s Q CC NN T (mkF m pc' Ls (.long v :: rest))) : Go n0 p e below s Q CC NN T (mkF m pc Ls (rest)) := by
  obtain ⟨vm0, -, hx, hb, -, -, -, -, -, -, ⟨L, X, -⟩, -⟩ := w
  obtain ⟨s₂, o, st, r⟩ := K
  subst hp hb
  exact ⟨s₂, o, XS.lloadN X.here hx rfl hd hl st, r⟩
theorem gaload (w : W Z own nm bytes mx rt n0 p l e R s m args below meth c k n T h) {j : Nat} {v : Value} (hd : decode bytes pc = .ok (.aload j, 2)) (hl : Ls[j]? = some (.val v)) (hv : v.isRef = true) (hp : pc + 2 = pc') (K : Go n0 p e below s Q CC NN T (mkF m pc' Ls (v :: rest))) : Go n0 p e below s Q CC NN T (mkF m pc Ls (rest)) := by
  obtain ⟨vm0, -, hx, hb, -, -, -, -, -, -, ⟨L, X, -⟩, -⟩ := w
  obtain ⟨s₂, o, st, r⟩ := K
  subst hp hb
  exact ⟨s₂, o, XS.aload X.here hx rfl hd hl hv st, r⟩
theorem galoadN (w : W Z own nm bytes mx rt n0 p l e R s m args below meth c k n T h) {j : Fin 4} {v : Value} (hd : decode bytes pc = .ok (.aload_n j, 1)) (hl : Ls[j.val]? = some (.val v)) (hv : v.isRef = true) (hp : pc + 1 = pc') (K : Go n0 p e below s Q CC NN T (mkF m pc' Ls (v :: rest))) : Go n0 p e below s Q CC NN T (mkF m pc Ls (rest)) := by
  obtain ⟨vm0, -, hx, hb, -, -, -, -, -, -, ⟨L, X, -⟩, -⟩ := w
  obtain ⟨s₂, o, st, r⟩ := K
  subst hp hb
  exact ⟨s₂, o, XS.aloadN X.here hx rfl hd hl hv st, r⟩
theorem gistore (w : W Z own nm bytes mx rt n0 p l e R s m args below meth c k n T h) {j : Nat} {v : Int32} (hd : decode bytes pc = .ok (.istore j, 2)) (hl : storeLocals Ls j (.int v) = some Ls') (hp : pc + 2 = pc') (K : Go n0 p e below s Q CC NN T (mkF m pc' Ls' (rest))) : Go n0 p e below s Q CC NN T (mkF m pc Ls (.int v :: rest)) := by
  obtain ⟨vm0, -, hx, hb, -, -, -, -, -, -, ⟨L, X, -⟩, -⟩ := w
  obtain ⟨s₂, o, st, r⟩ := K
  subst hp hb
  exact ⟨s₂, o, XS.istore X.here hx rfl hd rfl hl st, r⟩
theorem gistoreN (w : W Z own nm bytes mx rt n0 p l e R s m args below meth c k n T h) {j : Fin 4} {v : Int32} (hd : decode bytes pc = .ok (.istore_n j, 1)) (hl : storeLocals Ls j.val (.int v) = some Ls') (hp : pc + 1 = pc') (K : Go n0 p e below s Q CC NN T (mkF m pc' Ls' (rest))) : Go n0 p e below s Q CC NN T (mkF m pc Ls (.int v :: rest)) := by
  obtain ⟨vm0, -, hx, hb, -, -, -, -, -, -, ⟨L, X, -⟩, -⟩ := w
  obtain ⟨s₂, o, st, r⟩ := K
  subst hp hb
  exact ⟨s₂, o, XS.istoreN X.here hx rfl hd rfl hl st, r⟩
theorem glstore (w : W Z own nm bytes mx rt n0 p l e R s m args below meth c k n T h) {j : Nat} {v : Int64} (hd : decode bytes pc = .ok (.lstore j, 2)) (hl : storeLocals Ls j (.long v) = some Ls') (hp : pc + 2 = pc') (K : Go n0 p e below s Q CC NN T (mkF m pc' Ls' (rest))) : Go n0 p e below s Q CC NN T (mkF m pc Ls (.long v :: rest)) := by
  obtain ⟨vm0, -, hx, hb, -, -, -, -, -, -, ⟨L, X, -⟩, -⟩ := w
  obtain ⟨s₂, o, st, r⟩ := K
  subst hp hb
  exact ⟨s₂, o, XS.lstore X.here hx rfl hd rfl hl st, r⟩
theorem glstoreN (w : W Z own nm bytes mx rt n0 p l e R s m args below meth c k n T h) {j : Fin 4} {v : Int64} (hd : decode bytes pc = .ok (.lstore_n j, 1)) (hl : storeLocals Ls j.val (.long v) = some Ls') (hp : pc + 1 = pc') (K : Go n0 p e below s Q CC NN T (mkF m pc' Ls' (rest))) : Go n0 p e below s Q CC NN T (mkF m pc Ls (.long v :: rest)) := by
  obtain ⟨vm0, -, hx, hb, -, -, -, -, -, -, ⟨L, X, -⟩, -⟩ := w
  obtain ⟨s₂, o, st, r⟩ := K
  subst hp hb
  exact ⟨s₂, o, XS.lstoreN X.here hx rfl hd rfl hl st, r⟩
theorem gastore (w : W Z own nm bytes mx rt n0 p l e R s m args below meth c k n T h) {j : Nat} {v : Value} (hd : decode bytes pc = .ok (.astore j, 2)) (hv : v.isRef = true) (hl : storeLocals Ls j v = some Ls') (hp : pc + 2 = pc') (K : Go n0 p e below s Q CC NN T (mkF m pc' Ls' (rest))) : Go n0 p e below s Q CC NN T (mkF m pc Ls (v :: rest)) := by
  obtain ⟨vm0, -, hx, hb, -, -, -, -, -, -, ⟨L, X, -⟩, -⟩ := w
  obtain ⟨s₂, o, st, r⟩ := K
  subst hp hb
  exact ⟨s₂, o, XS.astore X.here hx rfl hd rfl hv hl st, r⟩
theorem gastoreN (w : W Z own nm bytes mx rt n0 p l e R s m args below meth c k n T h) {j : Fin 4} {v : Value} (hd : decode bytes pc = .ok (.astore_n j, 1)) (hv : v.isRef = true) (hl : storeLocals Ls j.val v = some Ls') (hp : pc + 1 = pc') (K : Go n0 p e below s Q CC NN T (mkF m pc' Ls' (rest))) : Go n0 p e below s Q CC NN T (mkF m pc Ls (v :: rest)) := by
  obtain ⟨vm0, -, hx, hb, -, -, -, -, -, -, ⟨L, X, -⟩, -⟩ := w
  obtain ⟨s₂, o, st, r⟩ := K
  subst hp hb
  exact ⟨s₂, o, XS.astoreN X.here hx rfl hd rfl hv hl st, r⟩
theorem giinc (w : W Z own nm bytes mx rt n0 p l e R s m args below meth c k n T h) {j : Nat} {i : Int} {v : Int32} (hd : decode bytes pc = .ok (.iinc j i, 3)) (hl : Ls[j]? = some (.val (.int v))) (hl' : storeLocals Ls j (.int (v + Int32.ofInt i)) = some Ls') (hp : pc + 3 = pc') (K : Go n0 p e below s Q CC NN T (mkF m pc' Ls' (rest))) : Go n0 p e below s Q CC NN T (mkF m pc Ls (rest)) := by
  obtain ⟨vm0, -, hx, hb, -, -, -, -, -, -, ⟨L, X, -⟩, -⟩ := w
  obtain ⟨s₂, o, st, r⟩ := K
  subst hp hb
  exact ⟨s₂, o, XS.iinc X.here hx rfl hd hl hl' st, r⟩
theorem giconst (w : W Z own nm bytes mx rt n0 p l e R s m args below meth c k n T h) {i : Int} {v : Int32} (hd : decode bytes pc = .ok (.iconst i, 1)) (hv : Int32.ofInt i = v) (hp : pc + 1 = pc') (K : Go n0 p e below s Q CC NN T (mkF m pc' Ls (.int v :: rest))) : Go n0 p e below s Q CC NN T (mkF m pc Ls (rest)) := by
  obtain ⟨vm0, -, hx, hb, -, -, -, -, -, -, ⟨L, X, -⟩, -⟩ := w
  obtain ⟨s₂, o, st, r⟩ := K
  subst hp hb hv
  exact ⟨s₂, o, XS.iconst X.here hx rfl hd st, r⟩
theorem gbipush (w : W Z own nm bytes mx rt n0 p l e R s m args below meth c k n T h) {i : Int} {v : Int32} (hd : decode bytes pc = .ok (.bipush i, 2)) (hv : (Int8.ofInt i).toInt32 = v) (hp : pc + 2 = pc') (K : Go n0 p e below s Q CC NN T (mkF m pc' Ls (.int v :: rest))) : Go n0 p e below s Q CC NN T (mkF m pc Ls (rest)) := by
  obtain ⟨vm0, -, hx, hb, -, -, -, -, -, -, ⟨L, X, -⟩, -⟩ := w
  obtain ⟨s₂, o, st, r⟩ := K
  subst hp hb hv
  exact ⟨s₂, o, XS.bipush X.here hx rfl hd st, r⟩
theorem gsipush (w : W Z own nm bytes mx rt n0 p l e R s m args below meth c k n T h) {i : Int} {v : Int32} (hd : decode bytes pc = .ok (.sipush i, 3)) (hv : (Int16.ofInt i).toInt32 = v) (hp : pc + 3 = pc') (K : Go n0 p e below s Q CC NN T (mkF m pc' Ls (.int v :: rest))) : Go n0 p e below s Q CC NN T (mkF m pc Ls (rest)) := by
  obtain ⟨vm0, -, hx, hb, -, -, -, -, -, -, ⟨L, X, -⟩, -⟩ := w
  obtain ⟨s₂, o, st, r⟩ := K
  subst hp hb hv
  exact ⟨s₂, o, XS.sipush X.here hx rfl hd st, r⟩
theorem glconst (w : W Z own nm bytes mx rt n0 p l e R s m args below meth c k n T h) {i : Fin 2} {v : Int64} (hd : decode bytes pc = .ok (.lconst i, 1)) (hv : Int64.ofNat i = v) (hp : pc + 1 = pc') (K : Go n0 p e below s Q CC NN T (mkF m pc' Ls (.long v :: rest))) : Go n0 p e below s Q CC NN T (mkF m pc Ls (rest)) := by
  obtain ⟨vm0, -, hx, hb, -, -, -, -, -, -, ⟨L, X, -⟩, -⟩ := w
  obtain ⟨s₂, o, st, r⟩ := K
  subst hp hb hv
  exact ⟨s₂, o, XS.lconst X.here hx rfl hd st, r⟩
theorem gnull (w : W Z own nm bytes mx rt n0 p l e R s m args below meth c k n T h) (hd : decode bytes pc = .ok (.aconst_null, 1)) (hp : pc + 1 = pc') (K : Go n0 p e below s Q CC NN T (mkF m pc' Ls (.null :: rest))) : Go n0 p e below s Q CC NN T (mkF m pc Ls (rest)) := by
  obtain ⟨vm0, -, hx, hb, -, -, -, -, -, -, ⟨L, X, -⟩, -⟩ := w
  obtain ⟨s₂, o, st, r⟩ := K
  subst hp hb
  exact ⟨s₂, o, XS.aconstNull X.here hx rfl hd  st, r⟩
theorem giadd (w : W Z own nm bytes mx rt n0 p l e R s m args below meth c k n T h) {x y : Int32} (hd : decode bytes pc = .ok (.iadd, 1)) (hp : pc + 1 = pc') (K : Go n0 p e below s Q CC NN T (mkF m pc' Ls (.int (x + y) :: rest))) : Go n0 p e below s Q CC NN T (mkF m pc Ls (.int y :: .int x :: rest)) := by
  obtain ⟨vm0, -, hx, hb, -, -, -, -, -, -, ⟨L, X, -⟩, -⟩ := w
  obtain ⟨s₂, o, st, r⟩ := K
  subst hp hb
  exact ⟨s₂, o, XS.iadd X.here hx rfl hd rfl st, r⟩
theorem gladd (w : W Z own nm bytes mx rt n0 p l e R s m args below meth c k n T h) {x y : Int64} (hd : decode bytes pc = .ok (.ladd, 1)) (hp : pc + 1 = pc') (K : Go n0 p e below s Q CC NN T (mkF m pc' Ls (.long (x + y) :: rest))) : Go n0 p e below s Q CC NN T (mkF m pc Ls (.long y :: .long x :: rest)) := by
  obtain ⟨vm0, -, hx, hb, -, -, -, -, -, -, ⟨L, X, -⟩, -⟩ := w
  obtain ⟨s₂, o, st, r⟩ := K
  subst hp hb
  exact ⟨s₂, o, XS.ladd X.here hx rfl hd rfl st, r⟩
theorem gisub (w : W Z own nm bytes mx rt n0 p l e R s m args below meth c k n T h) {x y : Int32} (hd : decode bytes pc = .ok (.isub, 1)) (hp : pc + 1 = pc') (K : Go n0 p e below s Q CC NN T (mkF m pc' Ls (.int (x - y) :: rest))) : Go n0 p e below s Q CC NN T (mkF m pc Ls (.int y :: .int x :: rest)) := by
  obtain ⟨vm0, -, hx, hb, -, -, -, -, -, -, ⟨L, X, -⟩, -⟩ := w
  obtain ⟨s₂, o, st, r⟩ := K
  subst hp hb
  exact ⟨s₂, o, XS.isub X.here hx rfl hd rfl st, r⟩
theorem glsub (w : W Z own nm bytes mx rt n0 p l e R s m args below meth c k n T h) {x y : Int64} (hd : decode bytes pc = .ok (.lsub, 1)) (hp : pc + 1 = pc') (K : Go n0 p e below s Q CC NN T (mkF m pc' Ls (.long (x - y) :: rest))) : Go n0 p e below s Q CC NN T (mkF m pc Ls (.long y :: .long x :: rest)) := by
  obtain ⟨vm0, -, hx, hb, -, -, -, -, -, -, ⟨L, X, -⟩, -⟩ := w
  obtain ⟨s₂, o, st, r⟩ := K
  subst hp hb
  exact ⟨s₂, o, XS.lsub X.here hx rfl hd rfl st, r⟩
theorem gimul (w : W Z own nm bytes mx rt n0 p l e R s m args below meth c k n T h) {x y : Int32} (hd : decode bytes pc = .ok (.imul, 1)) (hp : pc + 1 = pc') (K : Go n0 p e below s Q CC NN T (mkF m pc' Ls (.int (x * y) :: rest))) : Go n0 p e below s Q CC NN T (mkF m pc Ls (.int y :: .int x :: rest)) := by
  obtain ⟨vm0, -, hx, hb, -, -, -, -, -, -, ⟨L, X, -⟩, -⟩ := w
  obtain ⟨s₂, o, st, r⟩ := K
  subst hp hb
  exact ⟨s₂, o, XS.imul X.here hx rfl hd rfl st, r⟩
theorem glmul (w : W Z own nm bytes mx rt n0 p l e R s m args below meth c k n T h) {x y : Int64} (hd : decode bytes pc = .ok (.lmul, 1)) (hp : pc + 1 = pc') (K : Go n0 p e below s Q CC NN T (mkF m pc' Ls (.long (x * y) :: rest))) : Go n0 p e below s Q CC NN T (mkF m pc Ls (.long y :: .long x :: rest)) := by
  obtain ⟨vm0, -, hx, hb, -, -, -, -, -, -, ⟨L, X, -⟩, -⟩ := w
  obtain ⟨s₂, o, st, r⟩ := K
  subst hp hb
  exact ⟨s₂, o, XS.lmul X.here hx rfl hd rfl st, r⟩
theorem giand (w : W Z own nm bytes mx rt n0 p l e R s m args below meth c k n T h) {x y : Int32} (hd : decode bytes pc = .ok (.iand, 1)) (hp : pc + 1 = pc') (K : Go n0 p e below s Q CC NN T (mkF m pc' Ls (.int (x &&& y) :: rest))) : Go n0 p e below s Q CC NN T (mkF m pc Ls (.int y :: .int x :: rest)) := by
  obtain ⟨vm0, -, hx, hb, -, -, -, -, -, -, ⟨L, X, -⟩, -⟩ := w
  obtain ⟨s₂, o, st, r⟩ := K
  subst hp hb
  exact ⟨s₂, o, XS.iand X.here hx rfl hd rfl st, r⟩
theorem gland (w : W Z own nm bytes mx rt n0 p l e R s m args below meth c k n T h) {x y : Int64} (hd : decode bytes pc = .ok (.land, 1)) (hp : pc + 1 = pc') (K : Go n0 p e below s Q CC NN T (mkF m pc' Ls (.long (x &&& y) :: rest))) : Go n0 p e below s Q CC NN T (mkF m pc Ls (.long y :: .long x :: rest)) := by
  obtain ⟨vm0, -, hx, hb, -, -, -, -, -, -, ⟨L, X, -⟩, -⟩ := w
  obtain ⟨s₂, o, st, r⟩ := K
  subst hp hb
  exact ⟨s₂, o, XS.land X.here hx rfl hd rfl st, r⟩
theorem gior (w : W Z own nm bytes mx rt n0 p l e R s m args below meth c k n T h) {x y : Int32} (hd : decode bytes pc = .ok (.ior, 1)) (hp : pc + 1 = pc') (K : Go n0 p e below s Q CC NN T (mkF m pc' Ls (.int (x ||| y) :: rest))) : Go n0 p e below s Q CC NN T (mkF m pc Ls (.int y :: .int x :: rest)) := by
  obtain ⟨vm0, -, hx, hb, -, -, -, -, -, -, ⟨L, X, -⟩, -⟩ := w
  obtain ⟨s₂, o, st, r⟩ := K
  subst hp hb
  exact ⟨s₂, o, XS.ior X.here hx rfl hd rfl st, r⟩
theorem glor (w : W Z own nm bytes mx rt n0 p l e R s m args below meth c k n T h) {x y : Int64} (hd : decode bytes pc = .ok (.lor, 1)) (hp : pc + 1 = pc') (K : Go n0 p e below s Q CC NN T (mkF m pc' Ls (.long (x ||| y) :: rest))) : Go n0 p e below s Q CC NN T (mkF m pc Ls (.long y :: .long x :: rest)) := by
  obtain ⟨vm0, -, hx, hb, -, -, -, -, -, -, ⟨L, X, -⟩, -⟩ := w
  obtain ⟨s₂, o, st, r⟩ := K
  subst hp hb
  exact ⟨s₂, o, XS.lor X.here hx rfl hd rfl st, r⟩
theorem gixor (w : W Z own nm bytes mx rt n0 p l e R s m args below meth c k n T h) {x y : Int32} (hd : decode bytes pc = .ok (.ixor, 1)) (hp : pc + 1 = pc') (K : Go n0 p e below s Q CC NN T (mkF m pc' Ls (.int (x ^^^ y) :: rest))) : Go n0 p e below s Q CC NN T (mkF m pc Ls (.int y :: .int x :: rest)) := by
  obtain ⟨vm0, -, hx, hb, -, -, -, -, -, -, ⟨L, X, -⟩, -⟩ := w
  obtain ⟨s₂, o, st, r⟩ := K
  subst hp hb
  exact ⟨s₂, o, XS.ixor X.here hx rfl hd rfl st, r⟩
theorem glxor (w : W Z own nm bytes mx rt n0 p l e R s m args below meth c k n T h) {x y : Int64} (hd : decode bytes pc = .ok (.lxor, 1)) (hp : pc + 1 = pc') (K : Go n0 p e below s Q CC NN T (mkF m pc' Ls (.long (x ^^^ y) :: rest))) : Go n0 p e below s Q CC NN T (mkF m pc Ls (.long y :: .long x :: rest)) := by
  obtain ⟨vm0, -, hx, hb, -, -, -, -, -, -, ⟨L, X, -⟩, -⟩ := w
  obtain ⟨s₂, o, st, r⟩ := K
  subst hp hb
  exact ⟨s₂, o, XS.lxor X.here hx rfl hd rfl st, r⟩
theorem gineg (w : W Z own nm bytes mx rt n0 p l e R s m args below meth c k n T h) {x : Int32} (hd : decode bytes pc = .ok (.ineg, 1)) (hp : pc + 1 = pc') (K : Go n0 p e below s Q CC NN T (mkF m pc' Ls (.int (-x) :: rest))) : Go n0 p e below s Q CC NN T (mkF m pc Ls (.int x :: rest)) := by
  obtain ⟨vm0, -, hx, hb, -, -, -, -, -, -, ⟨L, X, -⟩, -⟩ := w
  obtain ⟨s₂, o, st, r⟩ := K
  subst hp hb
  exact ⟨s₂, o, XS.ineg X.here hx rfl hd rfl st, r⟩
theorem gidiv (w : W Z own nm bytes mx rt n0 p l e R s m args below meth c k n T h) {x y : Int32} (hd : decode bytes pc = .ok (.idiv, 1)) (hy : y ≠ 0) (hp : pc + 1 = pc') (K : Go n0 p e below s Q CC NN T (mkF m pc' Ls (.int (x / y) :: rest))) : Go n0 p e below s Q CC NN T (mkF m pc Ls (.int y :: .int x :: rest)) := by
  obtain ⟨vm0, -, hx, hb, -, -, -, -, -, -, ⟨L, X, -⟩, -⟩ := w
  obtain ⟨s₂, o, st, r⟩ := K
  subst hp hb
  exact ⟨s₂, o, XS.idiv X.here hx rfl hd rfl hy st, r⟩
theorem gldiv (w : W Z own nm bytes mx rt n0 p l e R s m args below meth c k n T h) {x y : Int64} (hd : decode bytes pc = .ok (.ldiv, 1)) (hy : y ≠ 0) (hp : pc + 1 = pc') (K : Go n0 p e below s Q CC NN T (mkF m pc' Ls (.long (x / y) :: rest))) : Go n0 p e below s Q CC NN T (mkF m pc Ls (.long y :: .long x :: rest)) := by
  obtain ⟨vm0, -, hx, hb, -, -, -, -, -, -, ⟨L, X, -⟩, -⟩ := w
  obtain ⟨s₂, o, st, r⟩ := K
  subst hp hb
  exact ⟨s₂, o, XS.ldiv X.here hx rfl hd rfl hy st, r⟩
theorem girem (w : W Z own nm bytes mx rt n0 p l e R s m args below meth c k n T h) {x y : Int32} (hd : decode bytes pc = .ok (.irem, 1)) (hy : y ≠ 0) (hp : pc + 1 = pc') (K : Go n0 p e below s Q CC NN T (mkF m pc' Ls (.int (x - (x / y) * y) :: rest))) : Go n0 p e below s Q CC NN T (mkF m pc Ls (.int y :: .int x :: rest)) := by
  obtain ⟨vm0, -, hx, hb, -, -, -, -, -, -, ⟨L, X, -⟩, -⟩ := w
  obtain ⟨s₂, o, st, r⟩ := K
  subst hp hb
  exact ⟨s₂, o, XS.irem X.here hx rfl hd rfl hy st, r⟩
theorem glrem (w : W Z own nm bytes mx rt n0 p l e R s m args below meth c k n T h) {x y : Int64} (hd : decode bytes pc = .ok (.lrem, 1)) (hy : y ≠ 0) (hp : pc + 1 = pc') (K : Go n0 p e below s Q CC NN T (mkF m pc' Ls (.long (x - (x / y) * y) :: rest))) : Go n0 p e below s Q CC NN T (mkF m pc Ls (.long y :: .long x :: rest)) := by
  obtain ⟨vm0, -, hx, hb, -, -, -, -, -, -, ⟨L, X, -⟩, -⟩ := w
  obtain ⟨s₂, o, st, r⟩ := K
  subst hp hb
  exact ⟨s₂, o, XS.lrem X.here hx rfl hd rfl hy st, r⟩
theorem gishl (w : W Z own nm bytes mx rt n0 p l e R s m args below meth c k n T h) {x : Int32} {y : Int32} (hd : decode bytes pc = .ok (.ishl, 1)) (hp : pc + 1 = pc') (K : Go n0 p e below s Q CC NN T (mkF m pc' Ls (.int (x <<< (y &&& 31)) :: rest))) : Go n0 p e below s Q CC NN T (mkF m pc Ls (.int y :: .int x :: rest)) := by
  obtain ⟨vm0, -, hx, hb, -, -, -, -, -, -, ⟨L, X, -⟩, -⟩ := w
  obtain ⟨s₂, o, st, r⟩ := K
  subst hp hb
  exact ⟨s₂, o, XS.ishl X.here hx rfl hd rfl st, r⟩
theorem gishr (w : W Z own nm bytes mx rt n0 p l e R s m args below meth c k n T h) {x : Int32} {y : Int32} (hd : decode bytes pc = .ok (.ishr, 1)) (hp : pc + 1 = pc') (K : Go n0 p e below s Q CC NN T (mkF m pc' Ls (.int (x >>> (y &&& 31)) :: rest))) : Go n0 p e below s Q CC NN T (mkF m pc Ls (.int y :: .int x :: rest)) := by
  obtain ⟨vm0, -, hx, hb, -, -, -, -, -, -, ⟨L, X, -⟩, -⟩ := w
  obtain ⟨s₂, o, st, r⟩ := K
  subst hp hb
  exact ⟨s₂, o, XS.ishr X.here hx rfl hd rfl st, r⟩
theorem giushr (w : W Z own nm bytes mx rt n0 p l e R s m args below meth c k n T h) {x : Int32} {y : Int32} (hd : decode bytes pc = .ok (.iushr, 1)) (hp : pc + 1 = pc') (K : Go n0 p e below s Q CC NN T (mkF m pc' Ls (.int ((x.toUInt32 >>> (y &&& 31).toUInt32).toInt32) :: rest))) : Go n0 p e below s Q CC NN T (mkF m pc Ls (.int y :: .int x :: rest)) := by
  obtain ⟨vm0, -, hx, hb, -, -, -, -, -, -, ⟨L, X, -⟩, -⟩ := w
  obtain ⟨s₂, o, st, r⟩ := K
  subst hp hb
  exact ⟨s₂, o, XS.iushr X.here hx rfl hd rfl st, r⟩
theorem glshl (w : W Z own nm bytes mx rt n0 p l e R s m args below meth c k n T h) {x : Int64} {y : Int32} (hd : decode bytes pc = .ok (.lshl, 1)) (hp : pc + 1 = pc') (K : Go n0 p e below s Q CC NN T (mkF m pc' Ls (.long (x <<< (y &&& 0x3f).toInt64) :: rest))) : Go n0 p e below s Q CC NN T (mkF m pc Ls (.int y :: .long x :: rest)) := by
  obtain ⟨vm0, -, hx, hb, -, -, -, -, -, -, ⟨L, X, -⟩, -⟩ := w
  obtain ⟨s₂, o, st, r⟩ := K
  subst hp hb
  exact ⟨s₂, o, XS.lshl X.here hx rfl hd rfl st, r⟩
theorem glshr (w : W Z own nm bytes mx rt n0 p l e R s m args below meth c k n T h) {x : Int64} {y : Int32} (hd : decode bytes pc = .ok (.lshr, 1)) (hp : pc + 1 = pc') (K : Go n0 p e below s Q CC NN T (mkF m pc' Ls (.long (x >>> (y &&& 0x3f).toInt64) :: rest))) : Go n0 p e below s Q CC NN T (mkF m pc Ls (.int y :: .long x :: rest)) := by
  obtain ⟨vm0, -, hx, hb, -, -, -, -, -, -, ⟨L, X, -⟩, -⟩ := w
  obtain ⟨s₂, o, st, r⟩ := K
  subst hp hb
  exact ⟨s₂, o, XS.lshr X.here hx rfl hd rfl st, r⟩
theorem glushr (w : W Z own nm bytes mx rt n0 p l e R s m args below meth c k n T h) {x : Int64} {y : Int32} (hd : decode bytes pc = .ok (.lushr, 1)) (hp : pc + 1 = pc') (K : Go n0 p e below s Q CC NN T (mkF m pc' Ls (.long ((x.toUInt64 >>> (y &&& 0x3f).toInt64.toUInt64).toInt64) :: rest))) : Go n0 p e below s Q CC NN T (mkF m pc Ls (.int y :: .long x :: rest)) := by
  obtain ⟨vm0, -, hx, hb, -, -, -, -, -, -, ⟨L, X, -⟩, -⟩ := w
  obtain ⟨s₂, o, st, r⟩ := K
  subst hp hb
  exact ⟨s₂, o, XS.lushr X.here hx rfl hd rfl st, r⟩
theorem gi2b (w : W Z own nm bytes mx rt n0 p l e R s m args below meth c k n T h) {v : Int32} (hd : decode bytes pc = .ok (.i2b, 1)) (hp : pc + 1 = pc') (K : Go n0 p e below s Q CC NN T (mkF m pc' Ls (.int (v.toInt8.toInt32) :: rest))) : Go n0 p e below s Q CC NN T (mkF m pc Ls (.int v :: rest)) := by
  obtain ⟨vm0, -, hx, hb, -, -, -, -, -, -, ⟨L, X, -⟩, -⟩ := w
  obtain ⟨s₂, o, st, r⟩ := K
  subst hp hb
  exact ⟨s₂, o, XS.i2b X.here hx rfl hd rfl st, r⟩
theorem gi2c (w : W Z own nm bytes mx rt n0 p l e R s m args below meth c k n T h) {v : Int32} (hd : decode bytes pc = .ok (.i2c, 1)) (hp : pc + 1 = pc') (K : Go n0 p e below s Q CC NN T (mkF m pc' Ls (.int (v.toUInt32.toUInt16.toUInt32.toInt32) :: rest))) : Go n0 p e below s Q CC NN T (mkF m pc Ls (.int v :: rest)) := by
  obtain ⟨vm0, -, hx, hb, -, -, -, -, -, -, ⟨L, X, -⟩, -⟩ := w
  obtain ⟨s₂, o, st, r⟩ := K
  subst hp hb
  exact ⟨s₂, o, XS.i2c X.here hx rfl hd rfl st, r⟩
theorem gi2l (w : W Z own nm bytes mx rt n0 p l e R s m args below meth c k n T h) {v : Int32} (hd : decode bytes pc = .ok (.i2l, 1)) (hp : pc + 1 = pc') (K : Go n0 p e below s Q CC NN T (mkF m pc' Ls (.long (v.toInt64) :: rest))) : Go n0 p e below s Q CC NN T (mkF m pc Ls (.int v :: rest)) := by
  obtain ⟨vm0, -, hx, hb, -, -, -, -, -, -, ⟨L, X, -⟩, -⟩ := w
  obtain ⟨s₂, o, st, r⟩ := K
  subst hp hb
  exact ⟨s₂, o, XS.i2l X.here hx rfl hd rfl st, r⟩
theorem gl2i (w : W Z own nm bytes mx rt n0 p l e R s m args below meth c k n T h) {v : Int64} (hd : decode bytes pc = .ok (.l2i, 1)) (hp : pc + 1 = pc') (K : Go n0 p e below s Q CC NN T (mkF m pc' Ls (.int (v.toInt32) :: rest))) : Go n0 p e below s Q CC NN T (mkF m pc Ls (.long v :: rest)) := by
  obtain ⟨vm0, -, hx, hb, -, -, -, -, -, -, ⟨L, X, -⟩, -⟩ := w
  obtain ⟨s₂, o, st, r⟩ := K
  subst hp hb
  exact ⟨s₂, o, XS.l2i X.here hx rfl hd rfl st, r⟩
theorem gdup (w : W Z own nm bytes mx rt n0 p l e R s m args below meth c k n T h) {x : Value} (hd : decode bytes pc = .ok (.dup, 1)) (hc : x.category = 1) (hp : pc + 1 = pc') (K : Go n0 p e below s Q CC NN T (mkF m pc' Ls (x :: x :: rest))) : Go n0 p e below s Q CC NN T (mkF m pc Ls (x :: rest)) := by
  obtain ⟨vm0, -, hx, hb, -, -, -, -, -, -, ⟨L, X, -⟩, -⟩ := w
  obtain ⟨s₂, o, st, r⟩ := K
  subst hp hb
  exact ⟨s₂, o, XS.dup X.here hx rfl hd rfl hc st, r⟩
theorem gpop (w : W Z own nm bytes mx rt n0 p l e R s m args below meth c k n T h) {x : Value} (hd : decode bytes pc = .ok (.pop, 1)) (hc : x.category = 1) (hp : pc + 1 = pc') (K : Go n0 p e below s Q CC NN T (mkF m pc' Ls (rest))) : Go n0 p e below s Q CC NN T (mkF m pc Ls (x :: rest)) := by
  obtain ⟨vm0, -, hx, hb, -, -, -, -, -, -, ⟨L, X, -⟩, -⟩ := w
  obtain ⟨s₂, o, st, r⟩ := K
  subst hp hb
  exact ⟨s₂, o, XS.pop X.here hx rfl hd rfl hc st, r⟩
theorem gdupx1 (w : W Z own nm bytes mx rt n0 p l e R s m args below meth c k n T h) {x y : Value} (hd : decode bytes pc = .ok (.dup_x1, 1)) (hc : x.category = 1) (hc2 : y.category = 1) (hp : pc + 1 = pc') (K : Go n0 p e below s Q CC NN T (mkF m pc' Ls (x :: y :: x :: rest))) : Go n0 p e below s Q CC NN T (mkF m pc Ls (x :: y :: rest)) := by
  obtain ⟨vm0, -, hx, hb, -, -, -, -, -, -, ⟨L, X, -⟩, -⟩ := w
  obtain ⟨s₂, o, st, r⟩ := K
  subst hp hb
  exact ⟨s₂, o, XS.dupX1 X.here hx rfl hd rfl hc hc2 st, r⟩
theorem ggoto (w : W Z own nm bytes mx rt n0 p l e R s m args below meth c k n T h) {o : Int} (hd : decode bytes pc = .ok (.goto o, 3)) (ho : 0 ≤ (pc : Int) + o) (hp : ((pc : Int) + o).toNat = pc') (K : Go n0 p e below s Q CC NN T (mkF m pc' Ls rest)) : Go n0 p e below s Q CC NN T (mkF m pc Ls rest) := by
  obtain ⟨vm0, -, hx, hb, -, -, -, -, -, -, ⟨L, X, -⟩, -⟩ := w
  obtain ⟨s₂, q, st, r⟩ := K
  subst hb
  exact ⟨s₂, q, XS.goto X.here hx rfl rfl hd ho hp st, r⟩
theorem gif (w : W Z own nm bytes mx rt n0 p l e R s m args below meth c k n T h) {cd : ClassFile.Cond} {x : Int32} {o : Int} {pt pf : Nat} (hd : decode bytes pc = .ok (.ifCond cd o, 3)) (ho : 0 ≤ (pc : Int) + o) (ht : ((pc : Int) + o).toNat = pt) (hf : pc + 3 = pf)
    (Kt : cY cd x 0 → Go n0 p e below s Q CC NN T (mkF m pt Ls rest)) (Kf : cN cd x 0 → Go n0 p e below s Q CC NN T (mkF m pf Ls rest)) : Go n0 p e below s Q CC NN T (mkF m pc Ls (.int x :: rest)) := by
  obtain ⟨vm0, -, hx, hb, -, -, -, -, -, -, ⟨L, X, -⟩, -⟩ := w
  subst hb hf
  rcases c_or cd x 0 with ⟨q, q'⟩ | ⟨q, q'⟩
  · obtain ⟨s₂, z, st, r⟩ := Kt q
    exact ⟨s₂, z, XS.ifYes X.here hx rfl rfl hd rfl ((if0 _ _).trans q') ho ht st, r⟩
  · obtain ⟨s₂, z, st, r⟩ := Kf q
    exact ⟨s₂, z, XS.ifNo X.here hx rfl hd rfl ((if0 _ _).trans q') st, r⟩
theorem gicmp (w : W Z own nm bytes mx rt n0 p l e R s m args below meth c k n T h) {cd : ClassFile.Cond} {x y : Int32} {o : Int} {pt pf : Nat} (hd : decode bytes pc = .ok (.if_icmp cd o, 3)) (ho : 0 ≤ (pc : Int) + o) (ht : ((pc : Int) + o).toNat = pt) (hf : pc + 3 = pf)
    (Kt : cY cd x y → Go n0 p e below s Q CC NN T (mkF m pt Ls rest)) (Kf : cN cd x y → Go n0 p e below s Q CC NN T (mkF m pf Ls rest)) : Go n0 p e below s Q CC NN T (mkF m pc Ls (.int y :: .int x :: rest)) := by
  obtain ⟨vm0, -, hx, hb, -, -, -, -, -, -, ⟨L, X, -⟩, -⟩ := w
  subst hb hf
  rcases c_or cd x y with ⟨q, q'⟩ | ⟨q, q'⟩
  · obtain ⟨s₂, z, st, r⟩ := Kt q
    exact ⟨s₂, z, XS.icmpYes X.here hx rfl rfl hd rfl q' ho ht st, r⟩
  · obtain ⟨s₂, z, st, r⟩ := Kf q
    exact ⟨s₂, z, XS.icmpNo X.here hx rfl hd rfl q' st, r⟩
theorem glcmpif (w : W Z own nm bytes mx rt n0 p l e R s m args below meth c k n T h) {cd : ClassFile.Cond} {x y : Int64} {o : Int} {pm pt pf : Nat} (hd0 : decode bytes pc = .ok (.lcmp, 1)) (hm : pc + 1 = pm) (hd : decode bytes pm = .ok (.ifCond cd o, 3)) (ho : 0 ≤ (pm : Int) + o) (ht : ((pm : Int) + o).toNat = pt) (hf : pm + 3 = pf)
    (Kt : lY cd x y → Go n0 p e below s Q CC NN T (mkF m pt Ls rest)) (Kf : lN cd x y → Go n0 p e below s Q CC NN T (mkF m pf Ls rest)) : Go n0 p e below s Q CC NN T (mkF m pc Ls (.long y :: .long x :: rest)) := by
  have K : Go n0 p e below s Q CC NN T (mkF m pm Ls (.int (lcmpW x y) :: rest)) := gif w hd ho ht hf (fun q => Kt (lY_of cd x y q)) (fun q => Kf (lN_of cd x y q))
  obtain ⟨vm0, -, hx, hb, -, -, -, -, -, -, ⟨L, X, -⟩, -⟩ := w
  obtain ⟨s₂, z, st, r⟩ := K
  subst hb hm
  exact ⟨s₂, z, XS.lcmp X.here hx rfl hd0 rfl st, r⟩
theorem gacmp (w : W Z own nm bytes mx rt n0 p l e R s m args below meth c k n T h) {cd : ClassFile.ACond} {x y : Value} {o : Int} {pt pf : Nat} (hd : decode bytes pc = .ok (.if_acmp cd o, 3)) (ho : 0 ≤ (pc : Int) + o) (h1 : x.isRef = true) (h2 : y.isRef = true) (ht : (if acV cd true = true then ((pc : Int) + o).toNat else pc + 3) = pt) (hf : (if acV cd false = true then ((pc : Int) + o).toNat else pc + 3) = pf)
    (Ke : x = y → Go n0 p e below s Q CC NN T (mkF m pt Ls rest)) (Kn : ¬ x = y → Go n0 p e below s Q CC NN T (mkF m pf Ls rest)) : Go n0 p e below s Q CC NN T (mkF m pc Ls (y :: x :: rest)) := by
  obtain ⟨vm0, -, hx, hb, -, -, -, -, -, -, ⟨L, X, -⟩, -⟩ := w
  subst hb
  by_cases q : x = y
  · obtain ⟨s₂, z, st, r⟩ := Ke q
    exact ⟨s₂, z, Jvm.RoadKit.acmp (g := mkF m pc Ls (y :: x :: rest)) X hx rfl h1 h2 (same := true) rfl hd rfl (decide_eq_true q) ho ht.symm st, r⟩
  · obtain ⟨s₂, z, st, r⟩ := Kn q
    exact ⟨s₂, z, Jvm.RoadKit.acmp (g := mkF m pc Ls (y :: x :: rest)) X hx rfl h1 h2 (same := false) rfl hd rfl (decide_eq_false q) ho hf.symm st, r⟩
theorem gifnullY (w : W Z own nm bytes mx rt n0 p l e R s m args below meth c k n T h) {o : Int} (hd : decode bytes pc = .ok (.ifnull o, 3)) (ho : 0 ≤ (pc : Int) + o) (hp : ((pc : Int) + o).toNat = pc') (K : Go n0 p e below s Q CC NN T (mkF m pc' Ls rest)) : Go n0 p e below s Q CC NN T (mkF m pc Ls (.null :: rest)) := by
  obtain ⟨vm0, -, hx, hb, -, -, -, -, -, -, ⟨L, X, -⟩, -⟩ := w
  obtain ⟨s₂, q, st, r⟩ := K
  subst hb
  exact ⟨s₂, q, XS.ifnullYes X.here hx rfl rfl hd rfl ho hp st, r⟩
theorem gifnullN (w : W Z own nm bytes mx rt n0 p l e R s m args below meth c k n T h) {o : Int} {b : Addr} (hd : decode bytes pc = .ok (.ifnull o, 3)) (hp : pc + 3 = pc') (K : Go n0 p e below s Q CC NN T (mkF m pc' Ls rest)) : Go n0 p e below s Q CC NN T (mkF m pc Ls (.ref b :: rest)) := by
  obtain ⟨vm0, -, hx, hb, -, -, -, -, -, -, ⟨L, X, -⟩, -⟩ := w
  obtain ⟨s₂, q, st, r⟩ := K
  subst hb hp
  exact ⟨s₂, q, XS.ifnullNo X.here hx rfl hd rfl st, r⟩
theorem gifnonnullY (w : W Z own nm bytes mx rt n0 p l e R s m args below meth c k n T h) {o : Int} {b : Addr} (hd : decode bytes pc = .ok (.ifnonnull o, 3)) (ho : 0 ≤ (pc : Int) + o) (hp : ((pc : Int) + o).toNat = pc') (K : Go n0 p e below s Q CC NN T (mkF m pc' Ls rest)) : Go n0 p e below s Q CC NN T (mkF m pc Ls (.ref b :: rest)) := by
  obtain ⟨vm0, -, hx, hb, -, -, -, -, -, -, ⟨L, X, -⟩, -⟩ := w
  obtain ⟨s₂, q, st, r⟩ := K
  subst hb
  exact ⟨s₂, q, XS.ifnonnullYes X.here hx rfl rfl hd rfl ho hp st, r⟩
theorem gifnonnullN (w : W Z own nm bytes mx rt n0 p l e R s m args below meth c k n T h) {o : Int} (hd : decode bytes pc = .ok (.ifnonnull o, 3)) (hp : pc + 3 = pc') (K : Go n0 p e below s Q CC NN T (mkF m pc' Ls rest)) : Go n0 p e below s Q CC NN T (mkF m pc Ls (.null :: rest)) := by
  obtain ⟨vm0, -, hx, hb, -, -, -, -, -, -, ⟨L, X, -⟩, -⟩ := w
  obtain ⟨s₂, q, st, r⟩ := K
  subst hb hp
  exact ⟨s₂, q, XS.ifnonnullNo X.here hx rfl hd rfl st, r⟩
theorem gldc2 (w : W Z own nm bytes mx rt n0 p l e R s m args below meth c k n T h) {index : Nat} {v : Int64} (hd : decode bytes pc = .ok (.ldc2_w index, 3)) (w1 : (Jvm.Cond.constantLong own index v).before a0 Z = true) (hp : pc + 3 = pc') (K : Go n0 p e below s Q CC NN T (mkF m pc' Ls (.long v :: rest))) : Go n0 p e below s Q CC NN T (mkF m pc Ls rest) := by
  obtain ⟨vm0, hR, hx, hb, hown, hZ, -, -, -, -, ⟨L, X, -⟩, -⟩ := w
  obtain ⟨s₂, q, st, r⟩ := K
  subst hb hp
  exact ⟨s₂, q, X.ldc2Long hx hown (mvT hZ w1) (g := mkF m pc Ls rest) rfl hd _ st, r⟩
theorem gldcI (w : W Z own nm bytes mx rt n0 p l e R s m args below meth c k n T h) {index : Nat} {v : Int32} (hd : decode bytes pc = .ok (.ldc index, 2)) (w1 : (Jvm.Cond.constant own index v).before a0 Z = true) (hp : pc + 2 = pc') (K : Go n0 p e below s Q CC NN T (mkF m pc' Ls (.int v :: rest))) : Go n0 p e below s Q CC NN T (mkF m pc Ls rest) := by
  obtain ⟨vm0, hR, hx, hb, hown, hZ, -, -, -, -, ⟨L, X, -⟩, -⟩ := w
  obtain ⟨s₂, q, st, r⟩ := K
  subst hb hp
  exact ⟨s₂, q, X.ldcInt hx hown (mvT hZ w1) (g := mkF m pc Ls rest) rfl hd _ st, r⟩

theorem ggetF (w : W Z own nm bytes mx rt n0 p l e R s m args below meth c k n T h) {index : Nat} {O n' d : String} {a : Addr} {v : Value} (hd : decode bytes pc = .ok (.getfield index, 3)) (w1 : (Jvm.Cond.fieldLink own index O n' d).before a0 Z = true) (F : Fld Z h a O n' d v) (hp : pc + 3 = pc')
    (K : ∀ T', W Z own nm bytes mx rt n0 p l e R s m args below meth c k n T' h → Go n0 p e below s Q CC NN T' (mkF m pc' Ls (v :: rest))) : Go n0 p e below s Q CC NN T (mkF m pc Ls (.ref a :: rest)) := by
  obtain ⟨vm0, hR, hx, hb, hown, hZ, r1, r2, r3, r4, ⟨L, X, N⟩, eT⟩ := w
  obtain ⟨T', X', e', st⟩ := getF X hx hZ hown (host := "") (Or.inl w1) Via.refl eT F (g := mkF m pc Ls (.ref a :: rest)) rfl rfl (by rw [hb]; exact hd)
  obtain ⟨s₂, q, st', r⟩ := K T' ⟨vm0, hR, hx, hb, hown, hZ, r1, r2, r3, r4, ⟨L, X', N⟩, e'⟩
  subst hp
  exact ⟨s₂, q, st _ st', r⟩
theorem ggetS (w : W Z own nm bytes mx rt n0 p l e R s m args below meth c k n T h) {index : Nat} {O n' d : String} {v : Value} (hd : decode bytes pc = .ok (.getstatic index, 3)) (w1 : (Jvm.Cond.fieldLink own index O n' d).before a0 Z = true) (F : Sta Z h O n' d v) (hp : pc + 3 = pc')
    (K : ∀ T', W Z own nm bytes mx rt n0 p l e R s m args below meth c k n T' h → Go n0 p e below s Q CC NN T' (mkF m pc' Ls (v :: rest))) : Go n0 p e below s Q CC NN T (mkF m pc Ls rest) := by
  obtain ⟨vm0, hR, hx, hb, hown, hZ, r1, r2, r3, r4, ⟨L, X, N⟩, eT⟩ := w
  obtain ⟨T', X', e', st⟩ := getS (host := "") X hx hZ hown w1 Via.refl eT F (g := mkF m pc Ls rest) rfl (by rw [hb]; exact hd)
  obtain ⟨s₂, q, st', r⟩ := K T' ⟨vm0, hR, hx, hb, hown, hZ, r1, r2, r3, r4, ⟨L, X', N⟩, e'⟩
  subst hp
  exact ⟨s₂, q, st _ st', r⟩
theorem ggetSN (w : W Z own nm bytes mx rt n0 p l e R s m args below meth c k n T h) {index : Nat} {O n' d host : String} {v : Value} (hd : decode bytes pc = .ok (.getstatic index, 3)) (w1 : (Jvm.Cond.fieldLinkNest own index O n' d host).before a0 Z = true) (F : Sta Z h O n' d v) (hp : pc + 3 = pc')
    (K : ∀ T', W Z own nm bytes mx rt n0 p l e R s m args below meth c k n T' h → Go n0 p e below s Q CC NN T' (mkF m pc' Ls (v :: rest))) : Go n0 p e below s Q CC NN T (mkF m pc Ls rest) := by
  obtain ⟨vm0, hR, hx, hb, hown, hZ, r1, r2, r3, r4, ⟨L, X, N⟩, eT⟩ := w
  obtain ⟨T', X', e', st⟩ := getS2 X hx hZ hown (Or.inr w1) Via.refl eT F (g := mkF m pc Ls rest) rfl (by rw [hb]; exact hd)
  obtain ⟨s₂, q, st', r⟩ := K T' ⟨vm0, hR, hx, hb, hown, hZ, r1, r2, r3, r4, ⟨L, X', N⟩, e'⟩
  subst hp
  exact ⟨s₂, q, st _ st', r⟩
/-- putfield: what is written may be narrowed (v to v') -/
theorem gputF (w : W Z own nm bytes mx rt n0 p l e R s m args below meth c k n T h) {index kk : Nat} {O n' d C : String} {ty : FieldType} {a : Addr} {v v' old : Value} (hd : decode bytes pc = .ok (.putfield index, 3)) (w1 : (Jvm.Cond.fieldLink own index O n' d).before a0 Z = true) (F : Fld Z h a O n' d old) (E : Exa Z h a C)
    (LL : (Jvm.Cond.lays C O n' d).before a0 Z = true ∨ ((Jvm.Cond.laysFinal C O n' d).before a0 Z = true ∧ own = O ∧ nm = "<init>")) (wi : (Jvm.Cond.instantiable C kk).before a0 Z = true) (hty : parseFieldDescriptor d = some ty) (hn : narrow ty v = v') (hf : fits ty v' = true) (hna : n0 ≤ a) (hp : pc + 3 = pc')
    (K : ∀ T' h', W Z own nm bytes mx rt n0 p l e R s m args below meth c k n T' h' → Wr h h' a (Jvm.RoadKit.slotOf Z O n' d) v' → Go n0 p e below s Q CC NN T' (mkF m pc' Ls rest)) : Go n0 p e below s Q CC NN T (mkF m pc Ls (v :: .ref a :: rest)) := by
  obtain ⟨vm0, hR, hx, hb, hown, hZ, r1, r2, r3, r4, ⟨L, X, N⟩, eT⟩ := w
  obtain ⟨T', h', X', e', Wx, st⟩ := putFN X hx hZ hown w1 Via.refl eT F E (LL.imp id fun q => ⟨q.1, q.2.1, r2.trans q.2.2⟩) wi hty hn hf (g := mkF m pc Ls (v :: .ref a :: rest)) rfl rfl (by rw [hb]; exact hd)
  obtain ⟨s₂, q, st', r⟩ := K T' h' ⟨vm0, reb hR (Nat.le_of_eq Wx.size.symm), hx, hb, hown, hZ, r1, r2, r3, r4, ⟨_, X', Fr.snoc X' N hna⟩, e'⟩ Wx
  subst hp
  exact ⟨s₂, q, st _ st', r⟩
theorem gnewO (w : W Z own nm bytes mx rt n0 p l e R s m args below meth c k n T h) {index j : Nat} {C : String} (hd : decode bytes pc = .ok (.new index, 3)) (w1 : (Jvm.Cond.classLink own index C).before a0 Z = true) (wi : (Jvm.Cond.instantiable C j).before a0 Z = true) (wz : (Jvm.Cond.initialized C).before a0 Z = true) (hc : k + 1 ≤ R.cells) (hl : n + j ≤ R.slots) (hp : pc + 3 = pc')
    (K : ∀ T' h' a, h.size = a → W Z own nm bytes mx rt n0 p l e R s m args below meth c (k + 1) (n + j) T' h' → Ext h h' → Exa Z h' a C → (∀ {O f d : String} {ty : FieldType}, Laid Z a0 C O f d → parseFieldDescriptor d = some ty → Fld Z h' a O f d (defaultValue ty)) → Go n0 p e below s Q CC NN T' (mkF m pc' Ls (.ref a :: rest))) : Go n0 p e below s Q CC NN T (mkF m pc Ls rest) := by
  obtain ⟨vm0, hR, hx, hb, hown, hZ, r1, r2, r3, r4, ⟨L, X, N⟩, eT⟩ := w
  obtain ⟨T', h', X', e', E, A, D, -, st⟩ := newO X hx hZ hown w1 wi wz eT (g := mkF m pc Ls rest) rfl (by rw [hb]; exact hd) hc hl
  obtain ⟨s₂, q, st', r⟩ := K T' h' _ rfl ⟨vm0, reb hR E.1, hx, hb, hown, hZ, r1, r2, r3, r4, ⟨_, X', N⟩, e'⟩ E A D
  subst hp
  exact ⟨s₂, q, st _ st', r⟩
theorem gnewP (w : W Z own nm bytes mx rt n0 p l e R s m args below meth c k n T h) {aty : ArrayType} {z : Int32} {cap : Nat} {ty : FieldType} (hd : decode bytes pc = .ok (.newarray aty, 2)) (hty : newarray.typeOf aty = ty) (w1 : (Jvm.Cond.arrayClass ty).before a0 Z = true) (hn : ¬ z < 0) (hcap : z.toNatClampNeg ≤ cap) (hb8 : cap * 8 ≤ 536870912) (hc : k + 1 ≤ R.cells) (hl : n + cap ≤ R.slots) (hp : pc + 2 = pc')
    (K : ∀ T' h' a kA, h.size = a → W Z own nm bytes mx rt n0 p l e R s m args below meth c (k + 1) (n + cap) T' h' → Ext h h' → Arv Z h' a kA ty z [] (defaultValue ty) → Go n0 p e below s Q CC NN T' (mkF m pc' Ls (.ref a :: rest))) : Go n0 p e below s Q CC NN T (mkF m pc Ls (.int z :: rest)) := by
  obtain ⟨vm0, hR, hx, hb, hown, hZ, r1, r2, r3, r4, ⟨L, X, N⟩, eT⟩ := w
  subst hty
  obtain ⟨T', h', cA, X', e', E, A, st⟩ := newP X hx hZ w1 eT (g := mkF m pc Ls (.int z :: rest)) rfl (by rw [hb]; exact hd) rfl hn hcap hb8 hc hl
  obtain ⟨s₂, q, st', r⟩ := K T' h' _ cA rfl ⟨vm0, reb hR E.1, hx, hb, hown, hZ, r1, r2, r3, r4, ⟨_, X', N⟩, e'⟩ E (Arv.new A hn)
  subst hp
  exact ⟨s₂, q, st _ st', r⟩
theorem ginitO (w : W Z own nm bytes mx rt n0 p l e R s m args below meth c k n T h) {index : Nat} {a : Addr} {Wt : Nat} (hd : decode bytes pc = .ok (.invokespecial index, 3)) (w1 : (Jvm.Cond.methodLink own index Lib.objectInit).before a0 Z = true) (w2 : (Jvm.Cond.instanceMethod Lib.objectInit).before a0 Z = true) (w3 : (Jvm.Cond.code Lib.objectInit ⟨#[0xb1]⟩ 1 none).before a0 Z = true)
    (hsz : Ls.size = mx) (hf : 1 ≤ R.frames) (hW : (rest.map fun v => v.category).sum ≤ Wt) (hl : Wt + 12 ≤ R.locals) (hp : pc + 3 = pc')
    (K : ∀ T', W Z own nm bytes mx rt n0 p l e R s m args below meth c k n T' h → Go n0 p e below s Q CC NN T' (mkF m pc' Ls rest)) : Go n0 p e below s Q CC NN T (mkF m pc Ls (.ref a :: rest)) := by
  obtain ⟨vm0, hR, hx, hb, hown, hZ, r1, r2, r3, r4, ⟨L, X, N⟩, eT⟩ := w
  obtain ⟨T', X', e', st⟩ := initO X hx hZ hown w1 w2 w3 eT (g := mkF m pc Ls (.ref a :: rest)) rfl (hsz.trans r1.symm) rfl (by rw [hb]; exact hd) hf (W := Wt) (by show 2 * 0 + _ ≤ _; omega) hl
  obtain ⟨s₂, q, st', r⟩ := K T' ⟨vm0, hR, hx, hb, hown, hZ, r1, r2, r3, r4, ⟨L, X', N⟩, e'⟩
  subst hp
  exact ⟨s₂, q, st _ st', r⟩
theorem glen (w : W Z own nm bytes mx rt n0 p l e R s m args below meth c k n T h) {a : Addr} {kA : ClassId} {ty : FieldType} {z : Int32} {vs : List Value} {dv : Value} (hd : decode bytes pc = .ok (.arraylength, 1)) (V : Arv Z h a kA ty z vs dv) (hp : pc + 1 = pc') (K : Go n0 p e below s Q CC NN T (mkF m pc' Ls (.int z :: rest))) : Go n0 p e below s Q CC NN T (mkF m pc Ls (.ref a :: rest)) := by
  obtain ⟨vm0, hR, hx, hb, hown, hZ, r1, r2, r3, r4, ⟨L, X, N⟩, eT⟩ := w
  obtain ⟨cl, A, -, S, N1, -, -⟩ := V
  obtain ⟨s₂, q, st', r⟩ := K
  subst hp
  refine ⟨s₂, q, X.arraylength hx (by rw [eT]; exact A.1) (State.isArrayOf_alike hZ.alike A.2.1) (g := mkF m pc Ls (.ref a :: rest)) rfl rfl (by rw [hb]; exact hd) _ ?_, r⟩
  rw [len_of S N1]
  exact st'

theorem gbaload (w : W Z own nm bytes mx rt n0 p l e R s m args below meth c k n T h) {a : Addr} {kA : ClassId} {z j : Int32} {vs : List Value} {dv v : Value} (hd : decode bytes pc = .ok (.baload, 1)) (V : Arv Z h a kA .byte z vs dv) (hj : ¬ j < 0 ∧ j < z) (hv : vs.getD j.toNatClampNeg dv = v) (hp : pc + 1 = pc') (K : Go n0 p e below s Q CC NN T (mkF m pc' Ls (v :: rest))) : Go n0 p e below s Q CC NN T (mkF m pc Ls (.int j :: .ref a :: rest)) := by
  obtain ⟨vm0, hR, hx, hb, hown, hZ, r1, r2, r3, r4, ⟨L, X, N⟩, eT⟩ := w
  obtain ⟨cl, A, -, S, -, H, -⟩ := V
  obtain ⟨s₂, q, st', r⟩ := K
  subst hp
  exact ⟨s₂, q, X.baloadBytes hx (j := j) (v := v) (by rw [eT]; exact A.1) (State.isArrayOf_alike hZ.alike A.2.1) A.2.2 (inb_of S hj) (H.at (inb_of S hj) hv) (g := mkF m pc Ls (.int j :: .ref a :: rest)) rfl rfl (by rw [hb]; exact hd) _ st', r⟩

theorem giaload (w : W Z own nm bytes mx rt n0 p l e R s m args below meth c k n T h) {a : Addr} {kA : ClassId} {z j : Int32} {vs : List Value} {dv v : Value} (hd : decode bytes pc = .ok (.iaload, 1)) (V : Arv Z h a kA .int z vs dv) (hj : ¬ j < 0 ∧ j < z) (hv : vs.getD j.toNatClampNeg dv = v) (hp : pc + 1 = pc') (K : Go n0 p e below s Q CC NN T (mkF m pc' Ls (v :: rest))) : Go n0 p e below s Q CC NN T (mkF m pc Ls (.int j :: .ref a :: rest)) := by
  obtain ⟨vm0, hR, hx, hb, hown, hZ, r1, r2, r3, r4, ⟨L, X, N⟩, eT⟩ := w
  obtain ⟨cl, A, -, S, -, H, -⟩ := V
  obtain ⟨s₂, q, st', r⟩ := K
  subst hp
  exact ⟨s₂, q, X.iaload hx (j := j) (v := v) (by rw [eT]; exact A.1) (State.isArrayOf_alike hZ.alike A.2.1) A.2.2 (inb_of S hj) (H.at (inb_of S hj) hv) (g := mkF m pc Ls (.int j :: .ref a :: rest)) rfl rfl (by rw [hb]; exact hd) _ st', r⟩

theorem gbastore (w : W Z own nm bytes mx rt n0 p l e R s m args below meth c k n T h) {a : Addr} {kA : ClassId} {z j x x' : Int32} {vs : List Value} {dv : Value} (hd : decode bytes pc = .ok (.bastore, 1)) (hxv : x.toInt8.toInt32 = x') (V : Arv Z h a kA .byte z vs dv) (hj : ¬ j < 0 ∧ j < z) (i : Nat) (hi : j.toNatClampNeg = i) (hlt : i < vs.length) (hna : n0 ≤ a) (hp : pc + 1 = pc')
    (K : ∀ T' h', W Z own nm bytes mx rt n0 p l e R s m args below meth c k n T' h' → Wr h h' a i (.int x') → Arv Z h' a kA .byte z (vs.set i (.int x')) dv → Go n0 p e below s Q CC NN T' (mkF m pc' Ls rest)) : Go n0 p e below s Q CC NN T (mkF m pc Ls (.int x :: .int j :: .ref a :: rest)) := by
  obtain ⟨vm0, hR, hx, hb, hown, hZ, r1, r2, r3, r4, ⟨L, X, N⟩, eT⟩ := w
  obtain ⟨cl, A, q1, S, N1, H, Gf⟩ := V
  subst hxv
  obtain ⟨T', h', X', e', Wx, st⟩ := stB X hx hZ eT A (j := j) (x := x) (inb_of S hj) (g := mkF m pc Ls (.int x :: .int j :: .ref a :: rest)) rfl rfl (by rw [hb]; exact hd)
  obtain ⟨s₂, q, st', r⟩ := K T' h' ⟨vm0, reb hR (Nat.le_of_eq Wx.size.symm), hx, hb, hown, hZ, r1, r2, r3, r4, ⟨_, X', Fr.snoc X' N hna⟩, e'⟩ (hi ▸ Wx) (Arv.set A q1 S N1 H Gf (fits_nar_byte _) Wx i hi hlt)
  subst hp
  exact ⟨s₂, q, st _ st', r⟩

theorem giastore (w : W Z own nm bytes mx rt n0 p l e R s m args below meth c k n T h) {a : Addr} {kA : ClassId} {z j x x' : Int32} {vs : List Value} {dv : Value} (hd : decode bytes pc = .ok (.iastore, 1)) (hxv : x = x') (V : Arv Z h a kA .int z vs dv) (hj : ¬ j < 0 ∧ j < z) (i : Nat) (hi : j.toNatClampNeg = i) (hlt : i < vs.length) (hna : n0 ≤ a) (hp : pc + 1 = pc')
    (K : ∀ T' h', W Z own nm bytes mx rt n0 p l e R s m args below meth c k n T' h' → Wr h h' a i (.int x') → Arv Z h' a kA .int z (vs.set i (.int x')) dv → Go n0 p e below s Q CC NN T' (mkF m pc' Ls rest)) : Go n0 p e below s Q CC NN T (mkF m pc Ls (.int x :: .int j :: .ref a :: rest)) := by
  obtain ⟨vm0, hR, hx, hb, hown, hZ, r1, r2, r3, r4, ⟨L, X, N⟩, eT⟩ := w
  obtain ⟨cl, A, q1, S, N1, H, Gf⟩ := V
  subst hxv
  obtain ⟨T', h', X', e', Wx, st⟩ := stI X hx hZ eT A (j := j) (x := x) (inb_of S hj) (g := mkF m pc Ls (.int x :: .int j :: .ref a :: rest)) rfl rfl (by rw [hb]; exact hd)
  obtain ⟨s₂, q, st', r⟩ := K T' h' ⟨vm0, reb hR (Nat.le_of_eq Wx.size.symm), hx, hb, hown, hZ, r1, r2, r3, r4, ⟨_, X', Fr.snoc X' N hna⟩, e'⟩ (hi ▸ Wx) (Arv.set A q1 S N1 H Gf rfl Wx i hi hlt)
  subst hp
  exact ⟨s₂, q, st _ st', r⟩

theorem gret0 (w : W Z own nm bytes mx none n0 p l e R s m args below meth c k n T h) (hd : decode bytes pc = .ok (.return_, 1)) (hk : k ≤ CC) (hn : n ≤ NN) (hQ : Q none h) : Go n0 p e below s Q CC NN T (mkF m pc Ls []) := by
  obtain ⟨vm0, hR, hx, hb, hown, hZ, r1, r2, r3, r4, ⟨L, X, N⟩, eT⟩ := w
  obtain ⟨k0, hS, hk0⟩ := hR
  obtain ⟨fs, hr, hrun, hended, hend⟩ := X.leaveW hS (by rw [eT]; exact hk0) (v := none) (fun _ => rfl) r4
  refine ⟨_, _, X.returnOut hx r3 (by rw [hb]; exact hd) hr, hrun, hended, _, _, rfl, ⟨N, ?_⟩, hend.1, hend.2.1, hend.2.2.1, hend.2.2.2.mono hk hn⟩
  show Q none T.heap
  rw [eT]; exact hQ
theorem gret {t : FieldType} (w : W Z own nm bytes mx (some t) n0 p l e R s m args below meth c k n T h) {v : Value} {i : Instr} (hd : decode bytes pc = .ok (i, 1)) (hn' : narrow t v = v)
    (hi : (i = .ireturn ∧ (t = .int ∨ t = .boolean ∨ t = .byte ∨ t = .char ∨ t = .short) ∧ ∃ z, v = .int z) ∨ (i = .lreturn ∧ t = .long ∧ ∃ z, v = .long z) ∨ (i = .dreturn ∧ t = .double ∧ ∃ z, v = .double z) ∨ (i = .freturn ∧ t = .float ∧ ∃ z, v = .float z) ∨ (i = .areturn ∧ t.isReference = true ∧ v.isRef = true))
    (hk : k ≤ CC) (hn : n ≤ NN) (hQ : Q (some v) h) : Go n0 p e below s Q CC NN T (mkF m pc Ls (v :: rest)) := by
  obtain ⟨vm0, hR, hx, hb, hown, hZ, r1, r2, r3, r4, ⟨L, X, N⟩, eT⟩ := w
  obtain ⟨k0, hS, hk0⟩ := hR
  obtain ⟨fs, hr, hrun, hended, hend⟩ := X.leaveW hS (by rw [eT]; exact hk0) (v := some v) (fun q => by rw [r3] at q; cases q) r4
  refine ⟨_, _, retOut X hx r3 hn' hi (by rw [hb]; exact hd) hr, hrun, hended, _, _, rfl, ⟨N, ?_⟩, hend.1, hend.2.1, hend.2.2.1, hend.2.2.2.mono hk hn⟩
  show Q (some v) T.heap
  rw [eT]; exact hQ
theorem gretI (w : W Z own nm bytes mx (some .int) n0 p l e R s m args below meth c k n T h) {v : Int32} (hd : decode bytes pc = .ok (.ireturn, 1)) (hk : k ≤ CC) (hn : n ≤ NN) (hQ : Q (some (.int v)) h) : Go n0 p e below s Q CC NN T (mkF m pc Ls (.int v :: rest)) :=
  gret w hd rfl (Or.inl ⟨rfl, Or.inl rfl, _, rfl⟩) hk hn hQ
theorem gretJ (w : W Z own nm bytes mx (some .long) n0 p l e R s m args below meth c k n T h) {v : Int64} (hd : decode bytes pc = .ok (.lreturn, 1)) (hk : k ≤ CC) (hn : n ≤ NN) (hQ : Q (some (.long v)) h) : Go n0 p e below s Q CC NN T (mkF m pc Ls (.long v :: rest)) :=
  gret w hd rfl (Or.inr (Or.inl ⟨rfl, rfl, _, rfl⟩)) hk hn hQ
theorem gretZ (w : W Z own nm bytes mx (some .boolean) n0 p l e R s m args below meth c k n T h) {v : Int32} (hd : decode bytes pc = .ok (.ireturn, 1)) (hv : narrow .boolean (.int v) = .int v) (hk : k ≤ CC) (hn : n ≤ NN) (hQ : Q (some (.int v)) h) : Go n0 p e below s Q CC NN T (mkF m pc Ls (.int v :: rest)) :=
  gret w hd hv (Or.inl ⟨rfl, Or.inr (Or.inl rfl), _, rfl⟩) hk hn hQ
theorem gretB (w : W Z own nm bytes mx (some .byte) n0 p l e R s m args below meth c k n T h) {v : Int32} (hd : decode bytes pc = .ok (.ireturn, 1)) (hv : narrow .byte (.int v) = .int v) (hk : k ≤ CC) (hn : n ≤ NN) (hQ : Q (some (.int v)) h) : Go n0 p e below s Q CC NN T (mkF m pc Ls (.int v :: rest)) :=
  gret w hd hv (Or.inl ⟨rfl, Or.inr (Or.inr (Or.inl rfl)), _, rfl⟩) hk hn hQ
theorem gretA {t : FieldType} (w : W Z own nm bytes mx (some t) n0 p l e R s m args below meth c k n T h) {v : Value} (hd : decode bytes pc = .ok (.areturn, 1)) (ht : t.isReference = true) (hv : v.isRef = true) (hn' : narrow t v = v) (hk : k ≤ CC) (hn : n ≤ NN) (hQ : Q (some v) h) : Go n0 p e below s Q CC NN T (mkF m pc Ls (v :: rest)) :=
  gret w hd hn' (Or.inr (Or.inr (Or.inr (Or.inr ⟨rfl, ht, hv⟩)))) hk hn hQ

theorem gcast (w : W Z own nm bytes mx rt n0 p l e R s m args below meth c k n T h) {index : Nat} {Kc : String} {a : Addr} (hd : decode bytes pc = .ok (.checkcast index, 3)) (w1 : (Jvm.Cond.classLink own index Kc).before a0 Z = true) (F : Ins Z h a Kc true) (hp : pc + 3 = pc')
    (K : ∀ T', W Z own nm bytes mx rt n0 p l e R s m args below meth c k n T' h → Go n0 p e below s Q CC NN T' (mkF m pc' Ls (.ref a :: rest))) : Go n0 p e below s Q CC NN T (mkF m pc Ls (.ref a :: rest)) := by
  obtain ⟨vm0, hR, hx, hb, hown, hZ, r1, r2, r3, r4, ⟨L, X, N⟩, eT⟩ := w
  obtain ⟨T', X', e', st⟩ := castY X hx hZ hown w1 eT F (g := mkF m pc Ls (.ref a :: rest)) rfl rfl (by rw [hb]; exact hd)
  obtain ⟨s₂, q, st', r⟩ := K T' ⟨vm0, hR, hx, hb, hown, hZ, r1, r2, r3, r4, ⟨L, X', N⟩, e'⟩
  subst hp
  exact ⟨s₂, q, st _ st', r⟩
theorem ginstY (w : W Z own nm bytes mx rt n0 p l e R s m args below meth c k n T h) {index : Nat} {Kc : String} {a : Addr} (hd : decode bytes pc = .ok (.instanceof index, 3)) (w1 : (Jvm.Cond.classLink own index Kc).before a0 Z = true) (F : Ins Z h a Kc true) (hp : pc + 3 = pc')
    (K : ∀ T', W Z own nm bytes mx rt n0 p l e R s m args below meth c k n T' h → Go n0 p e below s Q CC NN T' (mkF m pc' Ls (.int 1 :: rest))) : Go n0 p e below s Q CC NN T (mkF m pc Ls (.ref a :: rest)) := by
  obtain ⟨vm0, hR, hx, hb, hown, hZ, r1, r2, r3, r4, ⟨L, X, N⟩, eT⟩ := w
  obtain ⟨T', X', e', st⟩ := instY X hx hZ hown w1 eT F (g := mkF m pc Ls (.ref a :: rest)) rfl rfl (by rw [hb]; exact hd)
  obtain ⟨s₂, q, st', r⟩ := K T' ⟨vm0, hR, hx, hb, hown, hZ, r1, r2, r3, r4, ⟨L, X', N⟩, e'⟩
  subst hp
  exact ⟨s₂, q, st _ st', r⟩

theorem gcallS (w : W Z own nm bytes mx rt n0 p l e R s m args below meth c k n T h) {index : Nat} {y : MethodName} {yb : ByteArray} {ymx : Nat} {yr : Option FieldType} {rm : Room} {as : Array Value} {Q' : Option Value → Heap → Prop} {argsL : List Value} {stk : List Value} {ps : List FieldType} {ro : Option FieldType} {Wt : Nat} (hd : decode bytes pc = .ok (.invokestatic index, 3)) (w1 : (Jvm.Cond.methodLink own index y).before a0 Z = true) (w2 : (Jvm.Cond.static y).before a0 Z = true) (w3 : (Jvm.Cond.initialized y.cls).before a0 Z = true) (w4 : (Jvm.Cond.code y yb ymx yr).before a0 Z = true)
    (hy : y.cls ≠ "java/lang/invoke/MethodHandle" ∧ y.cls ≠ "java/lang/invoke/VarHandle") (hpd : parseMethodDescriptor y.desc = some ⟨ps, ro⟩) (ctr : Ctr l y yb ymx yr rm Z as h n0 Q' []) (has : argsL.toArray = as) (hlen : argsL.length = ps.length) (hst : stk = argsL.reverse ++ rest) (hsz : Ls.size = mx) (hW : (rest.map fun v => v.category).sum ≤ Wt) (hf : rm.frames + 1 ≤ R.frames) (hl : Wt + (ymx + 11) + rm.locals ≤ R.locals) (hc : k + rm.cells ≤ R.cells) (hs : n + rm.slots ≤ R.slots) (hp : pc + 3 = pc')
    (K : ∀ v T' h', W Z own nm bytes mx rt n0 p l e R s m args below meth c (k + rm.cells) (n + rm.slots) T' h' → Q' v h' → Go n0 p e below s Q CC NN T' (mkF m pc' Ls (v.toList ++ rest))) : Go n0 p e below s Q CC NN T (mkF m pc Ls stk) := by
  obtain ⟨vm0, hR, hx, hb, hown, hZ, r1, r2, r3, r4, ⟨L, X, N⟩, eT⟩ := w
  obtain ⟨v, _, ⟨T', L', k', n'⟩, -, X', hS2, hgr, ⟨Lc, hQ, hl1, hc1, hs1⟩, st⟩ := callSS X hx (y := y) hown (mvT hZ w1) (mvT hZ w2) (mvT hZ w3) (mvT hZ w4) hy (backOfS (W := Wt) (Q := fun v h L => Fr n0 L ∧ Q' v h) ctr hZ w4 w3 hf hl) (g := mkF m pc Ls stk) rfl (hsz.trans r1.symm) (argsL := argsL) (rest := rest) (lenOf hpd hlen) hst (by show 2 * 0 + _ ≤ _; omega) (by rw [hb]; exact hd) (fun _ _ => ⟨has, eT, hc, hs⟩)
  dsimp only [Pt.U, Pt.locs, Pt.cells, Pt.slots] at X' st hQ hl1 hc1 hs1 hS2 hgr
  subst hl1 hc1 hs1
  obtain ⟨k0, hS, hk0⟩ := hR
  obtain ⟨X2, hS3, hZ2, hown2⟩ := rebS hS (by rw [eT]; exact hk0) X' hS2 hgr hZ hown
  obtain ⟨s₂, q, st', r⟩ := K v T' T'.heap ⟨T'.vm, ⟨T'.heap.size, hS3, Nat.le_refl _⟩, hx, hb, hown2, hZ2, r1, r2, r3, r4, ⟨_, X2, Fr.app N hQ.1⟩, rfl⟩ hQ.2
  subst hp
  exact ⟨s₂, q, st.trans st', r⟩
theorem gcallN (w : W Z own nm bytes mx rt n0 p l e R s m args below meth c k n T h) {index : Nat} {y : MethodName} {yb : ByteArray} {ymx : Nat} {rm : Room} {as : Array Value} {Q' : Option Value → Heap → Prop} {argsL : List Value} {stk : List Value} {ps : List FieldType} {ro : Option FieldType} {Wt : Nat} {a : Addr} (hd : decode bytes pc = .ok (.invokespecial index, 3)) (w1 : (Jvm.Cond.methodLink own index y).before a0 Z = true) (w2 : (Jvm.Cond.instanceMethod y).before a0 Z = true) (w3 : (Jvm.Cond.initialized y.cls).before a0 Z = true) (w4 : (Jvm.Cond.code y yb ymx none).before a0 Z = true) (hyn : y.name = "<init>")
    (hy : y.cls ≠ "java/lang/invoke/MethodHandle" ∧ y.cls ≠ "java/lang/invoke/VarHandle") (hpd : parseMethodDescriptor y.desc = some ⟨ps, ro⟩) (ctr : Ctr l y yb ymx none rm Z as h n0 Q' []) (has : (.ref a :: argsL).toArray = as) (hlen : argsL.length = ps.length) (hst : stk = argsL.reverse ++ .ref a :: rest) (hsz : Ls.size = mx) (hW : (rest.map fun v => v.category).sum ≤ Wt) (hf : rm.frames + 1 ≤ R.frames) (hl : Wt + (ymx + 11) + rm.locals ≤ R.locals) (hc : k + rm.cells ≤ R.cells) (hs : n + rm.slots ≤ R.slots) (hp : pc + 3 = pc')
    (K : ∀ v T' h', W Z own nm bytes mx rt n0 p l e R s m args below meth c (k + rm.cells) (n + rm.slots) T' h' → Q' v h' → Go n0 p e below s Q CC NN T' (mkF m pc' Ls (v.toList ++ rest))) : Go n0 p e below s Q CC NN T (mkF m pc Ls stk) := by
  obtain ⟨vm0, hR, hx, hb, hown, hZ, r1, r2, r3, r4, ⟨L, X, N⟩, eT⟩ := w
  obtain ⟨v, _, ⟨T', L', k', n'⟩, -, X', hS2, hgr, ⟨Lc, hQ, hl1, hc1, hs1⟩, st⟩ := X.specialBackS hx (y := y) hyn hown (mvT hZ w1) (mvT hZ w2) (mvT hZ w4) hy (backOfS (W := Wt) (Q := fun v h L => Fr n0 L ∧ Q' v h) ctr hZ w4 w3 hf hl) (g := mkF m pc Ls stk) rfl (hsz.trans r1.symm) (Steps.refl _) (a := a) (argsL := argsL) (rest := rest) (lenOf hpd hlen) hst (by show 2 * 0 + _ ≤ _; omega) (by rw [hb]; exact hd) (fun _ _ => ⟨has, eT, hc, hs⟩)
  dsimp only [Pt.U, Pt.locs, Pt.cells, Pt.slots] at X' st hQ hl1 hc1 hs1 hS2 hgr
  subst hl1 hc1 hs1
  obtain ⟨k0, hS, hk0⟩ := hR
  obtain ⟨X2, hS3, hZ2, hown2⟩ := rebS hS (by rw [eT]; exact hk0) X' hS2 hgr hZ hown
  obtain ⟨s₂, q, st', r⟩ := K v T' T'.heap ⟨T'.vm, ⟨T'.heap.size, hS3, Nat.le_refl _⟩, hx, hb, hown2, hZ2, r1, r2, r3, r4, ⟨_, X2, Fr.app N hQ.1⟩, rfl⟩ hQ.2
  subst hp
  exact ⟨s₂, q, st.trans st', r⟩
theorem gcallV (w : W Z own nm bytes mx rt n0 p l e R s m args below meth c k n T h) {index : Nat} {y : MethodName} {yb : ByteArray} {ymx : Nat} {yr : Option FieldType} {rm : Room} {as : Array Value} {Q' : Option Value → Heap → Prop} {argsL : List Value} {stk : List Value} {ps : List FieldType} {ro : Option FieldType} {Wt : Nat} {a : Addr} {C : String} (hd : decode bytes pc = .ok (.invokevirtual index, 3)) (w1 : (Jvm.Cond.methodLink own index y).before a0 Z = true) (w2 : (Jvm.Cond.declares y).before a0 Z = true) (w5 : (Jvm.Cond.selects C y y).before a0 Z = true) (w6 : (Jvm.Cond.instanceMethod y).before a0 Z = true) (w3 : (Jvm.Cond.initialized y.cls).before a0 Z = true) (w4 : (Jvm.Cond.code y yb ymx yr).before a0 Z = true)
    (E : Exa Z h a C) (hC : y.cls = C) (hy : y.cls ≠ "java/lang/invoke/MethodHandle" ∧ y.cls ≠ "java/lang/invoke/VarHandle") (hpd : parseMethodDescriptor y.desc = some ⟨ps, ro⟩) (ctr : Ctr l y yb ymx yr rm Z as h n0 Q' []) (has : (.ref a :: argsL).toArray = as) (hlen : argsL.length = ps.length) (hst : stk = argsL.reverse ++ .ref a :: rest) (hsz : Ls.size = mx) (hW : (rest.map fun v => v.category).sum ≤ Wt) (hf : rm.frames + 1 ≤ R.frames) (hl : Wt + (ymx + 11) + rm.locals ≤ R.locals) (hc : k + rm.cells ≤ R.cells) (hs : n + rm.slots ≤ R.slots) (hp : pc + 3 = pc')
    (K : ∀ v T' h', W Z own nm bytes mx rt n0 p l e R s m args below meth c (k + rm.cells) (n + rm.slots) T' h' → Q' v h' → Go n0 p e below s Q CC NN T' (mkF m pc' Ls (v.toList ++ rest))) : Go n0 p e below s Q CC NN T (mkF m pc Ls stk) := by
  obtain ⟨vm0, hR, hx, hb, hown, hZ, r1, r2, r3, r4, ⟨L, X, N⟩, eT⟩ := w
  obtain ⟨cq, kq, qa, qb, qc⟩ := isOf hZ eT E
  subst hC
  obtain ⟨v, _, ⟨T', L', k', n'⟩, -, X', hS2, hgr, ⟨Lc, hQ, hl1, hc1, hs1⟩, st⟩ := X.virtualBackS hx (y := y) (z := y) hown (mvT hZ w1) (mvT hZ w2) (notFace_of_selects (args := #[]) (mvT hZ w5)) (mvT hZ w5) (mvT hZ w6) hy (backOfS (W := Wt) (Q := fun v h L => Fr n0 L ∧ Q' v h) ctr hZ w4 w3 hf hl) qa qc (g := mkF m pc Ls stk) rfl (hsz.trans r1.symm) (Steps.refl _) (argsL := argsL) (rest := rest) (lenOf hpd hlen) hst (by show 2 * 0 + _ ≤ _; omega) (by rw [hb]; exact hd) (fun _ _ => ⟨has, eT, hc, hs⟩)
  dsimp only [Pt.U, Pt.locs, Pt.cells, Pt.slots] at X' st hQ hl1 hc1 hs1 hS2 hgr
  subst hl1 hc1 hs1
  obtain ⟨k0, hS, hk0⟩ := hR
  obtain ⟨X2, hS3, hZ2, hown2⟩ := rebS hS (by rw [eT]; exact hk0) X' hS2 hgr hZ hown
  obtain ⟨s₂, q, st', r⟩ := K v T' T'.heap ⟨T'.vm, ⟨T'.heap.size, hS3, Nat.le_refl _⟩, hx, hb, hown2, hZ2, r1, r2, r3, r4, ⟨_, X2, Fr.app N hQ.1⟩, rfl⟩ hQ.2
  subst hp
  exact ⟨s₂, q, st.trans st', r⟩
theorem gaaload (w : W Z own nm bytes mx rt n0 p l e R s m args below meth c k n T h) {a : Addr} {cl : Cell} {ty : FieldType} {j : Int32} {v : Value} (hd : decode bytes pc = .ok (.aaload, 1)) (A : Arr Z h a cl ty) (hty : ty.isReference = true) (hin : ¬ (j < 0 ∨ cl.slots.size ≤ j.toNatClampNeg)) (hv : cl.slots[j.toNatClampNeg]? = some v) (hp : pc + 1 = pc') (K : Go n0 p e below s Q CC NN T (mkF m pc' Ls (v :: rest))) : Go n0 p e below s Q CC NN T (mkF m pc Ls (.int j :: .ref a :: rest)) := by
  obtain ⟨vm0, hR, hx, hb, hown, hZ, r1, r2, r3, r4, ⟨L, X, N⟩, eT⟩ := w
  obtain ⟨s₂, q, st', r⟩ := K
  subst hp
  exact ⟨s₂, q, X.aaload hx (j := j) (v := v) (by rw [eT]; exact A.1) (State.isArrayOf_alike hZ.alike A.2.1) hty A.2.2 hin hv (g := mkF m pc Ls (.int j :: .ref a :: rest)) rfl rfl (by rw [hb]; exact hd) _ st', r⟩
theorem glenA (w : W Z own nm bytes mx rt n0 p l e R s m args below meth c k n T h) {a : Addr} {cl : Cell} {ty : FieldType} {z : Int32} (hd : decode bytes pc = .ok (.arraylength, 1)) (A : Arr Z h a cl ty) (hz : cl.slots.size.toInt32 = z) (hp : pc + 1 = pc') (K : Go n0 p e below s Q CC NN T (mkF m pc' Ls (.int z :: rest))) : Go n0 p e below s Q CC NN T (mkF m pc Ls (.ref a :: rest)) := by
  obtain ⟨vm0, hR, hx, hb, hown, hZ, r1, r2, r3, r4, ⟨L, X, N⟩, eT⟩ := w
  obtain ⟨s₂, q, st', r⟩ := K
  subst hp hz
  exact ⟨s₂, q, X.arraylength hx (by rw [eT]; exact A.1) (State.isArrayOf_alike hZ.alike A.2.1) (g := mkF m pc Ls (.ref a :: rest)) rfl rfl (by rw [hb]; exact hd) _ st', r⟩
theorem gclone (w : W Z own nm bytes mx rt n0 p l e R s m args below meth c k n T h) {index Wt cap : Nat} {ad : String} {a : Addr} {cl : Cell} {ty : FieldType} (hd : decode bytes pc = .ok (.invokevirtual index, 3)) (w1 : (Jvm.Cond.methodLink own index ⟨ad, "clone", "()Ljava/lang/Object;"⟩).before a0 Z = true) (w2 : (Jvm.Cond.sameMethod ad "java/lang/Object" "clone" "()Ljava/lang/Object;").before a0 Z = true) (w3 : (Jvm.Cond.native ⟨"java/lang/Object", "clone", "()Ljava/lang/Object;"⟩).before a0 Z = true)
    (w4 : (Jvm.Cond.instanceMethod ⟨"java/lang/Object", "clone", "()Ljava/lang/Object;"⟩).before a0 Z = true) (w5 : (Jvm.Cond.selects ad ⟨ad, "clone", "()Ljava/lang/Object;"⟩ ⟨"java/lang/Object", "clone", "()Ljava/lang/Object;"⟩).before a0 Z = true) (w6 : (Jvm.Cond.castable ad "java/lang/Cloneable").before a0 Z = true)
    (A : Arr Z h a cl ty) (E : Exa Z h a ad) (F : FitC Z cl) (hsz : Ls.size = mx) (hf : 1 ≤ R.frames) (hW : (rest.map fun v => v.category).sum ≤ Wt) (hl : Wt + 14 ≤ R.locals) (hcap : cl.slots.size ≤ cap) (hc : k + 1 ≤ R.cells) (hsl : n + cap ≤ R.slots) (hp : pc + 3 = pc')
    (K : ∀ T' h' a', h.size = a' → W Z own nm bytes mx rt n0 p l e R s m args below meth c (k + 1) (n + cap) T' h' → Ext h h' → Arr Z h' a' (cloneOf cl) ty → Exa Z h' a' ad → Go n0 p e below s Q CC NN T' (mkF m pc' Ls (.ref a' :: rest))) : Go n0 p e below s Q CC NN T (mkF m pc Ls (.ref a :: rest)) := by
  obtain ⟨vm0, hR, hx, hb, hown, hZ, r1, r2, r3, r4, ⟨L, X, N⟩, eT⟩ := w
  obtain ⟨T', h', X', e', Ex, A', E', st⟩ := cloneA X hx hZ hown w1 w2 w3 w4 w5 w6 eT A E F (g := mkF m pc Ls (.ref a :: rest)) rfl (hsz.trans r1.symm) rfl (by rw [hb]; exact hd) hf (W := Wt) (by show 2 * 0 + _ ≤ _; omega) hl hcap hc hsl
  obtain ⟨s₂, q, st', r⟩ := K T' h' _ rfl ⟨vm0, reb hR Ex.1, hx, hb, hown, hZ, r1, r2, r3, r4, ⟨_, X', N⟩, e'⟩ Ex A' E'
  subst hp
  exact ⟨s₂, q, st _ st', r⟩
theorem ref_cat {v : Value} (h : v.isRef = true) : v.category = 1 := by
  rcases ref_cases h with rfl | ⟨a, rfl⟩ <;> rfl
theorem metGoH {y : MethodName} {rm : Room} {as : Array Value} {ws : List Jvm.Cond} (hpn : plainFor y = true) (hef : ∀ m, entryFrame m as mx = mkF m 0 Ls [])
    (H : ∀ (p : Program) (e : Env) (s : State) (m : MethodId) (below : List Frame) (meth : Method) (c : Code) (T : State), W Z y.cls y.name bytes mx rt n0 p l e rm s m as below meth c 0 0 T h → s.heap = h → Go n0 p e below s Q rm.cells rm.slots T (mkF m 0 Ls [])) : Ctr l y bytes mx rt rm Z as h n0 Q ws := by
  refine MetFree.of_bodySF hpn hisR ?_
  intro p e s m args below meth c s₁ Bd hml0 hP hK
  obtain ⟨rfl, hZ, hh⟩ := hP
  have e0 : s₁.heap = h := by rw [← hh, Bd.state]; rfl
  obtain ⟨s₂, o, st, r⟩ := H p e s m below meth c s₁ ⟨s.vm, ⟨0, (State.WarmedH.refl s).since 0, Nat.zero_le _⟩, Bd.exec, Bd.bytes, findClass_of_methodNamed Bd.named, hZ, hml0, (name_of_methodNamed Bd.named Bd.method).1, Bd.returns, Bd.notSynchronized, ⟨[], Stand.of_body Bd, Fr.nil n0⟩, e0⟩ hh
  exact ⟨s₂, o, castTop (hef m) st, r⟩
theorem ginst0 (w : W Z own nm bytes mx rt n0 p l e R s m args below meth c k n T h) {index : Nat} (hd : decode bytes pc = .ok (.instanceof index, 3)) (hp : pc + 3 = pc') (K : Go n0 p e below s Q CC NN T (mkF m pc' Ls (.int 0 :: rest))) : Go n0 p e below s Q CC NN T (mkF m pc Ls (.null :: rest)) := by
  obtain ⟨vm0, -, hx, hb, -, -, -, -, -, -, ⟨L, X, -⟩, -⟩ := w
  obtain ⟨s₂, q, st, r⟩ := K
  subst hb hp
  exact ⟨s₂, q, X.instanceofNull hx (g := mkF m pc Ls (.null :: rest)) rfl rfl hd _ st, r⟩
theorem ginstN (w : W Z own nm bytes mx rt n0 p l e R s m args below meth c k n T h) (hs : s.heap = h) {index : Nat} {Kc C : String} {a : Addr} (hd : decode bytes pc = .ok (.instanceof index, 3)) (w1 : (Jvm.Cond.classLink own index Kc).before a0 Z = true) (F : Ins Z h a Kc false) (E : Exa Z h a C) (hp : pc + 3 = pc')
    (K : ∀ T', W Z own nm bytes mx rt n0 p l e R s m args below meth c k n T' h → Go n0 p e below s Q CC NN T' (mkF m pc' Ls (.int 0 :: rest))) : Go n0 p e below s Q CC NN T (mkF m pc Ls (.ref a :: rest)) := by
  obtain ⟨vm0, hR, hx, hb, hown, hZ, r1, r2, r3, r4, ⟨L, X, N⟩, eT⟩ := w
  obtain ⟨T', X', e', st⟩ := instN X hx hZ hown w1 eT (hs ▸ F) (hs ▸ E) (g := mkF m pc Ls (.ref a :: rest)) rfl rfl (by rw [hb]; exact hd)
  obtain ⟨s₂, q, st', r⟩ := K T' ⟨vm0, hR, hx, hb, hown, hZ, r1, r2, r3, r4, ⟨L, X', N⟩, e'⟩
  subst hp
  exact ⟨s₂, q, st _ st', r⟩
theorem gifnullV (w : W Z own nm bytes mx rt n0 p l e R s m args below meth c k n T h) {v : Value} {o : Int} {pt pf : Nat} (hd : decode bytes pc = .ok (.ifnull o, 3)) (ho : 0 ≤ (pc : Int) + o) (ht : ((pc : Int) + o).toNat = pt) (hf : pc + 3 = pf) (hv : v.isRef = true) (Kt : v = .null → Go n0 p e below s Q CC NN T (mkF m pt Ls rest)) (Kf : ¬ v = .null → Go n0 p e below s Q CC NN T (mkF m pf Ls rest)) : Go n0 p e below s Q CC NN T (mkF m pc Ls (v :: rest)) := by
  rcases ref_cases hv with rfl | ⟨a, rfl⟩
  · exact gifnullY w hd ho ht (Kt rfl)
  · exact gifnullN w hd hf (Kf nofun)
theorem wmono (w : W Z own nm bytes mx rt n0 p l e R s m args below meth c k n T h) {k' n' : Nat} (hk : k ≤ k') (hn : n ≤ n') : W Z own nm bytes mx rt n0 p l e R s m args below meth c k' n' T h := by
  obtain ⟨vm0, hR, hx, hb, hown, hZ, r1, r2, r3, r4, ⟨L, X, N⟩, eT⟩ := w
  exact ⟨vm0, hR, hx, hb, hown, hZ, r1, r2, r3, r4, ⟨L, ⟨X.admits, X.cas, X.clock, X.frames, X.room, X.hears, X.method, X.code, X.here, X.tail, X.warmed, X.limits, X.bytes, X.same.mono hk hn⟩, N⟩, eT⟩
theorem gldcS (w : W Z own nm bytes mx rt n0 p l e R s m args below meth c k n T h) {index nn : Nat} {text : String} (hd : decode bytes pc = .ok (.ldc index, 2)) (w1 : (Jvm.Cond.stringLink own index text).before a0 Z = true) (wS : ∀ a ∈ Bundle.stringAtoms, a.before a0 Z = true) (hn : 4 * text.toList.length ≤ nn) (hbig : nn ≤ 536870912) (hc : k + 2 ≤ R.cells) (hl : n + (nn + 4) ≤ R.slots) (hp : pc + 2 = pc')
    (K : ∀ a T' h', W Z own nm bytes mx rt n0 p l e R s m args below meth c (k + 2) (n + (nn + 4)) T' h' → Ext h h' → Go n0 p e below s Q CC NN T' (mkF m pc' Ls (.ref a :: rest))) : Go n0 p e below s Q CC NN T (mkF m pc Ls rest) := by
  obtain ⟨vm0, hR, hx, hb, hown, hZ, r1, r2, r3, r4, ⟨L, X, N⟩, eT⟩ := w
  obtain ⟨k0, hS, hk0⟩ := hR
  obtain ⟨a, T', h', k1, X', e', Ex, hS', hk1, hZ', hown', st⟩ := ldcS X hx hZ hown w1 wS eT hS hk0 (g := mkF m pc Ls rest) rfl (by rw [hb]; exact hd) hn hbig hc hl
  obtain ⟨s₂, q, st', r⟩ := K a T' h' ⟨T'.vm, ⟨k1, hS', hk1⟩, hx, hb, hown', hZ', r1, r2, r3, r4, ⟨_, X', N⟩, e'⟩ Ex
  subst hp
  exact ⟨s₂, q, st _ st', r⟩
theorem own_bb (y : Int32) : y.toInt8.toInt32.toInt8.toInt32 = y.toInt8.toInt32 := by rw [Int8.toInt8_toInt32]
end GoKit

theorem d1_0 : decode method_2_code 0 = .ok (.lload_n 0, 1) := by decide +kernel
theorem d1_1 : decode method_2_code 1 = .ok (.ldc2_w 9, 3) := by decide +kernel
theorem d1_4 : decode method_2_code 4 = .ok (.land, 1) := by decide +kernel
theorem d1_5 : decode method_2_code 5 = .ok (.lstore_n 2, 1) := by decide +kernel
theorem d1_6 : decode method_2_code 6 = .ok (.lload_n 2, 1) := by decide +kernel
theorem d1_7 : decode method_2_code 7 = .ok (.lconst 0, 1) := by decide +kernel
theorem d1_8 : decode method_2_code 8 = .ok (.lcmp, 1) := by decide +kernel
theorem d1_9 : decode method_2_code 9 = .ok (.ifCond .ne 7, 3) := by decide +kernel
theorem d1_12 : decode method_2_code 12 = .ok (.lconst 1, 1) := by decide +kernel
theorem d1_13 : decode method_2_code 13 = .ok (.goto 4, 3) := by decide +kernel
theorem d1_16 : decode method_2_code 16 = .ok (.lload_n 2, 1) := by decide +kernel
theorem d1_17 : decode method_2_code 17 = .ok (.lreturn, 1) := by decide +kernel
theorem pn_d1 : plainFor (⟨"com/example/vellum_keys/vellumkeys/model/ProvisionedThroughputEqualsPinLaw", "units", "(J)J"⟩ : MethodName) = true := by first | (refine plainFor_of_name ?_; simp [plainName, overriddenIn]; done) | decide +kernel
theorem pd_d1 : parseMethodDescriptor "(J)J" = some ⟨[.long], some .long⟩ := by decide +kernel
theorem d2_0 : decode prog_49_method_1_code 0 = .ok (.aload_n 0, 1) := by decide +kernel
theorem d2_1 : decode prog_49_method_1_code 1 = .ok (.invokespecial 1, 3) := by decide +kernel
theorem d2_4 : decode prog_49_method_1_code 4 = .ok (.ldc 7, 2) := by decide +kernel
theorem d2_6 : decode prog_49_method_1_code 6 = .ok (.lload_n 1, 1) := by decide +kernel
theorem d2_7 : decode prog_49_method_1_code 7 = .ok (.invokestatic 9, 3) := by decide +kernel
theorem d2_10 : decode prog_49_method_1_code 10 = .ok (.ldc 15, 2) := by decide +kernel
theorem d2_12 : decode prog_49_method_1_code 12 = .ok (.lload_n 3, 1) := by decide +kernel
theorem d2_13 : decode prog_49_method_1_code 13 = .ok (.invokestatic 9, 3) := by decide +kernel
theorem d2_16 : decode prog_49_method_1_code 16 = .ok (.aload_n 0, 1) := by decide +kernel
theorem d2_17 : decode prog_49_method_1_code 17 = .ok (.lload_n 1, 1) := by decide +kernel
theorem d2_18 : decode prog_49_method_1_code 18 = .ok (.putfield 17, 3) := by decide +kernel
theorem d2_21 : decode prog_49_method_1_code 21 = .ok (.aload_n 0, 1) := by decide +kernel
theorem d2_22 : decode prog_49_method_1_code 22 = .ok (.lload_n 3, 1) := by decide +kernel
theorem d2_23 : decode prog_49_method_1_code 23 = .ok (.putfield 20, 3) := by decide +kernel
theorem d2_26 : decode prog_49_method_1_code 26 = .ok (.return_, 1) := by decide +kernel
theorem pn_d2 : plainFor (⟨"com/example/vellum_keys/vellumkeys/model/ProvisionedThroughput", "<init>", "(JJ)V"⟩ : MethodName) = true := by first | (refine plainFor_of_name ?_; simp [plainName, overriddenIn]; done) | decide +kernel
theorem pd_d2 : parseMethodDescriptor "(JJ)V" = some ⟨[.long, .long], none⟩ := by decide +kernel
theorem d4_0 : decode prog_49_method_2_code 0 = .ok (.lload_n 1, 1) := by decide +kernel
theorem d4_1 : decode prog_49_method_2_code 1 = .ok (.lconst 1, 1) := by decide +kernel
theorem d4_2 : decode prog_49_method_2_code 2 = .ok (.lcmp, 1) := by decide +kernel
theorem d4_3 : decode prog_49_method_2_code 3 = .ok (.ifCond .ge 21, 3) := by decide +kernel
theorem d4_6 : decode prog_49_method_2_code 6 = .ok (.new 22, 3) := by decide +kernel
theorem d4_9 : decode prog_49_method_2_code 9 = .ok (.dup, 1) := by decide +kernel
theorem d4_10 : decode prog_49_method_2_code 10 = .ok (.getstatic 24, 3) := by decide +kernel
theorem d4_13 : decode prog_49_method_2_code 13 = .ok (.lload_n 1, 1) := by decide +kernel
theorem d4_14 : decode prog_49_method_2_code 14 = .ok (.aload_n 0, 1) := by decide +kernel
theorem d4_15 : decode prog_49_method_2_code 15 = .ok (.invokedynamic 30, 5) := by decide +kernel
theorem d4_20 : decode prog_49_method_2_code 20 = .ok (.invokespecial 34, 3) := by decide +kernel
theorem d4_23 : decode prog_49_method_2_code 23 = .ok (.athrow, 1) := by decide +kernel
theorem d4_24 : decode prog_49_method_2_code 24 = .ok (.return_, 1) := by decide +kernel
theorem pn_d4 : plainFor (⟨"com/example/vellum_keys/vellumkeys/model/ProvisionedThroughput", "checkAtLeastOne", "(Ljava/lang/String;J)V"⟩ : MethodName) = true := by first | (refine plainFor_of_name ?_; simp [plainName, overriddenIn]; done) | decide +kernel
theorem pd_d4 : parseMethodDescriptor "(Ljava/lang/String;J)V" = some ⟨[(.object "java/lang/String"), .long], none⟩ := by decide +kernel
theorem d6_0 : decode prog_49_method_5_code 0 = .ok (.aload_n 1, 1) := by decide +kernel
theorem d6_1 : decode prog_49_method_5_code 1 = .ok (.instanceof 10, 3) := by decide +kernel
theorem d6_4 : decode prog_49_method_5_code 4 = .ok (.ifCond .ne 5, 3) := by decide +kernel
theorem d6_7 : decode prog_49_method_5_code 7 = .ok (.iconst 0, 1) := by decide +kernel
theorem d6_8 : decode prog_49_method_5_code 8 = .ok (.ireturn, 1) := by decide +kernel
theorem d6_9 : decode prog_49_method_5_code 9 = .ok (.aload_n 1, 1) := by decide +kernel
theorem d6_10 : decode prog_49_method_5_code 10 = .ok (.checkcast 10, 3) := by decide +kernel
theorem d6_13 : decode prog_49_method_5_code 13 = .ok (.astore_n 2, 1) := by decide +kernel
theorem d6_14 : decode prog_49_method_5_code 14 = .ok (.aload_n 0, 1) := by decide +kernel
theorem d6_15 : decode prog_49_method_5_code 15 = .ok (.getfield 17, 3) := by decide +kernel
theorem d6_18 : decode prog_49_method_5_code 18 = .ok (.aload_n 2, 1) := by decide +kernel
theorem d6_19 : decode prog_49_method_5_code 19 = .ok (.getfield 17, 3) := by decide +kernel
theorem d6_22 : decode prog_49_method_5_code 22 = .ok (.lcmp, 1) := by decide +kernel
theorem d6_23 : decode prog_49_method_5_code 23 = .ok (.ifCond .ne 19, 3) := by decide +kernel
theorem d6_26 : decode prog_49_method_5_code 26 = .ok (.aload_n 0, 1) := by decide +kernel
theorem d6_27 : decode prog_49_method_5_code 27 = .ok (.getfield 20, 3) := by decide +kernel
theorem d6_30 : decode prog_49_method_5_code 30 = .ok (.aload_n 2, 1) := by decide +kernel
theorem d6_31 : decode prog_49_method_5_code 31 = .ok (.getfield 20, 3) := by decide +kernel
theorem d6_34 : decode prog_49_method_5_code 34 = .ok (.lcmp, 1) := by decide +kernel
theorem d6_35 : decode prog_49_method_5_code 35 = .ok (.ifCond .ne 7, 3) := by decide +kernel
theorem d6_38 : decode prog_49_method_5_code 38 = .ok (.iconst 1, 1) := by decide +kernel
theorem d6_39 : decode prog_49_method_5_code 39 = .ok (.goto 4, 3) := by decide +kernel
theorem d6_42 : decode prog_49_method_5_code 42 = .ok (.iconst 0, 1) := by decide +kernel
theorem d6_43 : decode prog_49_method_5_code 43 = .ok (.ireturn, 1) := by decide +kernel
theorem pn_d6 : plainFor (⟨"com/example/vellum_keys/vellumkeys/model/ProvisionedThroughput", "equals", "(Ljava/lang/Object;)Z"⟩ : MethodName) = true := by first | (refine plainFor_of_name ?_; simp [plainName, overriddenIn]; done) | decide +kernel
theorem pd_d6 : parseMethodDescriptor "(Ljava/lang/Object;)Z" = some ⟨[(.object "java/lang/Object")], some .boolean⟩ := by decide +kernel
theorem d8_0 : decode jdk_18_method_1_code 0 = .ok (.aload_n 0, 1) := by decide +kernel
theorem d8_1 : decode jdk_18_method_1_code 1 = .ok (.invokespecial 1, 3) := by decide +kernel
theorem d8_4 : decode jdk_18_method_1_code 4 = .ok (.return_, 1) := by decide +kernel
theorem pn_d8 : plainFor (⟨"java/lang/Number", "<init>", "()V"⟩ : MethodName) = true := by first | (refine plainFor_of_name ?_; simp [plainName, overriddenIn]; done) | decide +kernel
theorem pd_d8 : parseMethodDescriptor "()V" = some ⟨[], none⟩ := by decide +kernel
theorem d7_0 : decode jdk_35_method_26_code 0 = .ok (.aload_n 0, 1) := by decide +kernel
theorem d7_1 : decode jdk_35_method_26_code 1 = .ok (.invokespecial 270, 3) := by decide +kernel
theorem d7_4 : decode jdk_35_method_26_code 4 = .ok (.aload_n 0, 1) := by decide +kernel
theorem d7_5 : decode jdk_35_method_26_code 5 = .ok (.lload_n 1, 1) := by decide +kernel
theorem d7_6 : decode jdk_35_method_26_code 6 = .ok (.putfield 273, 3) := by decide +kernel
theorem d7_9 : decode jdk_35_method_26_code 9 = .ok (.return_, 1) := by decide +kernel
theorem pn_d7 : plainFor (⟨"java/lang/Long", "<init>", "(J)V"⟩ : MethodName) = true := by first | (refine plainFor_of_name ?_; simp [plainName, overriddenIn]; done) | decide +kernel
theorem pd_d7 : parseMethodDescriptor "(J)V" = some ⟨[.long], none⟩ := by decide +kernel
theorem d5_0 : decode jdk_35_method_24_code 0 = .ok (.sipush 128, 3) := by decide +kernel
theorem d5_3 : decode jdk_35_method_24_code 3 = .ok (.istore_n 2, 1) := by decide +kernel
theorem d5_4 : decode jdk_35_method_24_code 4 = .ok (.lload_n 0, 1) := by decide +kernel
theorem d5_5 : decode jdk_35_method_24_code 5 = .ok (.ldc2_w 230, 3) := by decide +kernel
theorem d5_8 : decode jdk_35_method_24_code 8 = .ok (.lcmp, 1) := by decide +kernel
theorem d5_9 : decode jdk_35_method_24_code 9 = .ok (.ifCond .lt 22, 3) := by decide +kernel
theorem d5_12 : decode jdk_35_method_24_code 12 = .ok (.lload_n 0, 1) := by decide +kernel
theorem d5_13 : decode jdk_35_method_24_code 13 = .ok (.ldc2_w 232, 3) := by decide +kernel
theorem d5_16 : decode jdk_35_method_24_code 16 = .ok (.lcmp, 1) := by decide +kernel
theorem d5_17 : decode jdk_35_method_24_code 17 = .ok (.ifCond .gt 14, 3) := by decide +kernel
theorem d5_20 : decode jdk_35_method_24_code 20 = .ok (.getstatic 234, 3) := by decide +kernel
theorem d5_23 : decode jdk_35_method_24_code 23 = .ok (.lload_n 0, 1) := by decide +kernel
theorem d5_24 : decode jdk_35_method_24_code 24 = .ok (.l2i, 1) := by decide +kernel
theorem d5_25 : decode jdk_35_method_24_code 25 = .ok (.sipush 128, 3) := by decide +kernel
theorem d5_28 : decode jdk_35_method_24_code 28 = .ok (.iadd, 1) := by decide +kernel
theorem d5_29 : decode jdk_35_method_24_code 29 = .ok (.aaload, 1) := by decide +kernel
theorem d5_30 : decode jdk_35_method_24_code 30 = .ok (.areturn, 1) := by decide +kernel
theorem d5_31 : decode jdk_35_method_24_code 31 = .ok (.new 1, 3) := by decide +kernel
theorem d5_34 : decode jdk_35_method_24_code 34 = .ok (.dup, 1) := by decide +kernel
theorem d5_35 : decode jdk_35_method_24_code 35 = .ok (.lload_n 0, 1) := by decide +kernel
theorem d5_36 : decode jdk_35_method_24_code 36 = .ok (.invokespecial 240, 3) := by decide +kernel
theorem d5_39 : decode jdk_35_method_24_code 39 = .ok (.areturn, 1) := by decide +kernel
theorem pn_d5 : plainFor (⟨"java/lang/Long", "valueOf", "(J)Ljava/lang/Long;"⟩ : MethodName) = true := by first | (refine plainFor_of_name ?_; simp [plainName, overriddenIn]; done) | decide +kernel
theorem pd_d5 : parseMethodDescriptor "(J)Ljava/lang/Long;" = some ⟨[.long], some (.object "java/lang/Long")⟩ := by decide +kernel
theorem pn_at0 : plainName "com/example/vellum_keys/vellumkeys/model/ProvisionedThroughputEqualsPinLaw" = true := by first | (simp [plainName, overriddenIn]; done) | decide +kernel
theorem pn_at : plainFor x = true := plainFor_of_name pn_at0
variable {p : Program} {l : Launch} {e : Env} {s : State} {m : MethodId} {args : Array Value} {below : List Frame} {meth : Method} {c : Code} {T : State} {Z : State} {n0 : Nat} {h : Heap} {a0 : Array Value}
theorem own_et {h1 h2 h3 : Heap} (E : Ext h1 h2) (E' : Ext h2 h3) : Ext h1 h3 := ⟨Nat.le_trans E.1 E'.1, fun a c q => E'.2 a c (E.2 a c q)⟩
theorem own_er (h : Heap) : Ext h h := ⟨Nat.le_refl _, fun _ _ q => q⟩
theorem own_ek {h1 h2 h3 : Heap} {a : Addr} (E : Ext h1 h2) (K : Keep h2 h3 [a]) (q : h1.size ≤ a) : Ext h1 h3 :=
  ⟨Nat.le_trans E.1 K.1, fun x c r => K.2.1 x c (E.2 x c r) (fun z => by cases List.mem_singleton.mp z; exact absurd (Array.getElem?_eq_some_iff.mp r).1 (Nat.not_lt.mpr q))⟩
theorem own_ew {h1 h2 h3 : Heap} {a : Addr} {sl : Nat} {v : Value} (E : Ext h1 h2) (K : Wr h2 h3 a sl v) (q : h1.size ≤ a) : Ext h1 h3 := own_ek E (Keep.of_wr K) q
def own_LC (Z : State) (h : Heap) : Prop := ∃ aC cl, Sta Z h "java/lang/Long$LongCache" "cache" "[Ljava/lang/Long;" (.ref aC) ∧ Arr Z h aC cl (.object "java/lang/Long") ∧ cl.slots.size = 256 ∧ ∀ j, j < 256 → ∃ x, cl.slots[j]? = some (.ref x) ∧ Exa Z h x "java/lang/Long"
theorem own_LC_ext {h' : Heap} (H : own_LC Z h) (E : Ext h h') : own_LC Z h' := by
  obtain ⟨aC, cl, a, b, c, d⟩ := H
  refine ⟨aC, cl, a.ext E, b.ext E, c, fun j hj => ?_⟩
  obtain ⟨x, p, q⟩ := d j hj
  exact ⟨x, p, q.ext E⟩
theorem own_idx {x : Int64} (h1 : ¬ x < (-128 : Int64)) (h2 : ¬ (127 : Int64) < x) : ¬ (x.toInt32 + (128 : Int32) < 0) ∧ (x.toInt32 + (128 : Int32)).toNatClampNeg < 256 := by
  rw [Int64.lt_iff_toInt_lt] at h1 h2
  have k1 : (-128 : Int64).toInt = -128 := rfl
  have k2 : (127 : Int64).toInt = 127 := rfl
  have k3 : (128 : Int32).toInt = 128 := rfl
  have k4 : (0 : Int32).toInt = 0 := rfl
  have a1 := c_l2i x
  have a2 := c_iadd x.toInt32 (128 : Int32)
  have r1 := rng32 x.toInt32
  have r2 := rng32 (x.toInt32 + (128 : Int32))
  have q : ¬ (x.toInt32 + (128 : Int32) < 0) := by rw [Int32.lt_iff_toInt_lt]; omega
  have e := nat_of q
  refine ⟨q, ?_⟩
  omega
set_option maxRecDepth 65536 in
set_option maxHeartbeats 4000000 in
theorem own_num (hw : ∀ d ∈ tables_1, d.before a0 Z = true) (a : Addr) :
    Ctr l (⟨"java/lang/Number", "<init>", "()V"⟩ : MethodName) jdk_18_method_1_code 1 none ({ frames := 1, cells := 0, slots := 0, locals := 16 } : Room) Z #[(.ref a)] h n0 (fun v h' => v = none ∧ h' = h) [] := by
  refine metGo (Ls := #[.val (.ref a)]) pn_d8 (fun m => by first | (simp [entryFrame, mkF, argsToLocals, Value.category, maxLocals]; done) | (simp [entryFrame, mkF, argsToLocals, Value.category]; done) | rfl) ?_
  intro p e s m below meth c T w
  refine galoadN (pc' := 1) (Ls := #[.val (.ref a)]) (rest := []) w d8_0 rfl rfl rfl ?_
  refine ginitO (pc' := 4) (Wt := 0) w d8_1 (hw _ (List.mem_of_getElem? (i := 57) rfl)) (hw _ (List.mem_of_getElem? (i := 12) rfl)) (hw _ (List.mem_of_getElem? (i := 13) rfl)) rfl (by decide +kernel) (Nat.le_of_eq rfl) (by decide +kernel) rfl (fun T2 w1 => ?_)
  exact gret0 w1 d8_4 (by decide +kernel) (by decide +kernel) ⟨rfl, rfl⟩
set_option maxRecDepth 65536 in
set_option maxHeartbeats 4000000 in
theorem own_lini (hw : ∀ d ∈ tables_1, d.before a0 Z = true) (a : Addr) (x : Int64) (ga : n0 ≤ a) (E0 : Exa Z h a "java/lang/Long") (F0 : Fld Z h a "java/lang/Long" "value" "J" (.long (0 : Int64))) :
    Ctr l (⟨"java/lang/Long", "<init>", "(J)V"⟩ : MethodName) jdk_35_method_26_code 3 none ({ frames := 2, cells := 0, slots := 0, locals := 40 } : Room) Z #[(.ref a), (.long x)] h n0 (fun v h' => v = none ∧ Keep h h' [a]) [] := by
  refine metGo (Ls := #[.val (.ref a), .val (.long x), .second]) pn_d7 (fun m => by first | (simp [entryFrame, mkF, argsToLocals, Value.category, maxLocals]; done) | (simp [entryFrame, mkF, argsToLocals, Value.category]; done) | rfl) ?_
  intro p e s m below meth c T w
  refine galoadN (pc' := 1) (Ls := #[.val (.ref a), .val (.long x), .second]) (rest := []) w d7_0 rfl rfl rfl ?_
  refine gcallN (pc' := 4) (argsL := []) (rest := []) (Wt := 0) w d7_1 (hw _ (List.mem_of_getElem? (i := 51) rfl)) (hw _ (List.mem_of_getElem? (i := 52) rfl)) (hw _ (List.mem_of_getElem? (i := 55) rfl)) (hw _ (List.mem_of_getElem? (i := 56) rfl)) rfl (by decide +kernel) pd_d8 (own_num hw a) rfl rfl rfl rfl (Nat.le_of_eq rfl) (by decide +kernel) (by decide +kernel) (by decide +kernel) (by decide +kernel) rfl (fun v3 T4 h5 w6 q7 => ?_)
  obtain ⟨rfl, eh⟩ := q7
  show Go _ _ _ _ _ _ _ _ _ (mkF m 4 #[.val (.ref a), .val (.long x), .second] [])
  rw [eh] at w6
  refine galoadN (pc' := 5) (Ls := #[.val (.ref a), .val (.long x), .second]) (rest := []) w6 d7_4 rfl rfl rfl ?_
  refine glloadN (pc' := 6) (Ls := #[.val (.ref a), .val (.long x), .second]) (rest := [(.ref a)]) w6 d7_5 rfl rfl ?_
  refine gputF (pc' := 9) (v' := (.long x)) (ty := .long) w6 d7_6 (hw _ (List.mem_of_getElem? (i := 58) rfl)) F0 E0 (Or.inr ⟨(hw _ (List.mem_of_getElem? (i := 59) rfl)), rfl, rfl⟩) (hw _ (List.mem_of_getElem? (i := 46) rfl)) (by decide +kernel) rfl rfl ga rfl (fun T8 h9 w10 W11 => ?_)
  have E12 := E0.wr W11
  have F13 := F0.same W11
  have K14 := (Keep.refl h [a]).wr W11 (Or.inl (List.mem_singleton.mpr rfl))
  exact gret0 w10 d7_9 (by decide +kernel) (by decide +kernel) ⟨rfl, K14⟩
set_option maxRecDepth 65536 in
set_option maxHeartbeats 4000000 in
theorem own_lval (hw : ∀ d ∈ tables_1, d.before a0 Z = true) (x : Int64) (z0 : n0 ≤ h.size) (LC : own_LC Z h) :
    Ctr l (⟨"java/lang/Long", "valueOf", "(J)Ljava/lang/Long;"⟩ : MethodName) jdk_35_method_24_code 3 (some (.object "java/lang/Long")) ({ frames := 3, cells := 1, slots := 1, locals := 64 } : Room) Z #[(.long x)] h n0 (fun v h' => ∃ a, v = some (.ref a) ∧ Ext h h' ∧ Exa Z h' a "java/lang/Long") [] := by
  refine metGo (Ls := #[.val (.long x), .second, .unset]) pn_d5 (fun m => by first | (simp [entryFrame, mkF, argsToLocals, Value.category, maxLocals]; done) | (simp [entryFrame, mkF, argsToLocals, Value.category]; done) | rfl) ?_
  intro p e s m below meth c T w
  refine gsipush (v := (128 : Int32)) (pc' := 3) w d5_0 rfl rfl ?_
  refine gistoreN (pc' := 4) (Ls := #[.val (.long x), .second, .unset]) (Ls' := #[.val (.long x), .second, .val (.int (128 : Int32))]) (rest := []) w d5_3 rfl rfl ?_
  refine glloadN (pc' := 5) (Ls := #[.val (.long x), .second, .val (.int (128 : Int32))]) (rest := []) w d5_4 rfl rfl ?_
  refine gldc2 (v := (-128 : Int64)) (pc' := 8) w d5_5 (hw _ (List.mem_of_getElem? (i := 34) rfl)) rfl ?_
  refine glcmpif (pm := 9) (pt := 31) (pf := 12) w d5_8 rfl d5_9 (by decide +kernel) rfl rfl (fun (c8 : x < (-128 : Int64)) => ?_) (fun (c8 : ¬ x < (-128 : Int64)) => ?_)
  · refine gnewO (pc' := 34) w d5_31 (hw _ (List.mem_of_getElem? (i := 45) rfl)) (hw _ (List.mem_of_getElem? (i := 46) rfl)) (hw _ (List.mem_of_getElem? (i := 32) rfl)) (by decide +kernel) (by decide +kernel) rfl (fun T16 h17 a15 s18 w19 E20 A21 D22 => ?_)
    have g_a15 : n0 ≤ a15 := Nat.le_trans z0 (Nat.le_of_eq s18)
    have hz_a15 : h.size ≤ a15 := Nat.le_trans (own_er h).1 (Nat.le_of_eq s18)
    have X23 := own_et (own_er h) E20
    have z24 := Nat.le_trans z0 E20.1
    have F25 : Fld Z h17 a15 "java/lang/Long" "value" "J" (.long (0 : Int64)) := D22 (Or.inr (hw _ (List.mem_of_getElem? (i := 59) rfl))) (ty := .long) (by decide +kernel)
    refine gdup (pc' := 35) w19 d5_34 rfl rfl ?_
    refine glloadN (pc' := 36) (Ls := #[.val (.long x), .second, .val (.int (128 : Int32))]) (rest := [(.ref a15), (.ref a15)]) w19 d5_35 rfl rfl ?_
    refine gcallN (pc' := 39) (argsL := [(.long x)]) (rest := [(.ref a15)]) (Wt := 1) w19 d5_36 (hw _ (List.mem_of_getElem? (i := 47) rfl)) (hw _ (List.mem_of_getElem? (i := 48) rfl)) (hw _ (List.mem_of_getElem? (i := 32) rfl)) (hw _ (List.mem_of_getElem? (i := 50) rfl)) rfl (by decide +kernel) pd_d7 (own_lini hw a15 x g_a15 A21 F25) rfl rfl rfl rfl (Nat.le_of_eq rfl) (by decide +kernel) (by decide +kernel) (by decide +kernel) (by decide +kernel) rfl (fun v27 T28 h29 w30 q31 => ?_)
    obtain ⟨rfl, KK_26⟩ := q31
    show Go _ _ _ _ _ _ _ _ _ (mkF m 39 #[.val (.long x), .second, .val (.int (128 : Int32))] [(.ref a15)])
    have X32 := own_ek X23 KK_26 hz_a15
    have E33 := A21.keep KK_26
    have z34 := Nat.le_trans z24 KK_26.1
    exact gretA w30 d5_39 rfl rfl rfl (by decide +kernel) (by decide +kernel) ⟨a15, rfl, X32, E33⟩
  · refine glloadN (pc' := 13) (Ls := #[.val (.long x), .second, .val (.int (128 : Int32))]) (rest := []) w d5_12 rfl rfl ?_
    refine gldc2 (v := (127 : Int64)) (pc' := 16) w d5_13 (hw _ (List.mem_of_getElem? (i := 35) rfl)) rfl ?_
    refine glcmpif (pm := 17) (pt := 31) (pf := 20) w d5_16 rfl d5_17 (by decide +kernel) rfl rfl (fun (c16 : (127 : Int64) < x) => ?_) (fun (c16 : ¬ (127 : Int64) < x) => ?_)
    · refine gnewO (pc' := 34) w d5_31 (hw _ (List.mem_of_getElem? (i := 45) rfl)) (hw _ (List.mem_of_getElem? (i := 46) rfl)) (hw _ (List.mem_of_getElem? (i := 32) rfl)) (by decide +kernel) (by decide +kernel) rfl (fun T36 h37 a35 s38 w39 E40 A41 D42 => ?_)
      have g_a35 : n0 ≤ a35 := Nat.le_trans z0 (Nat.le_of_eq s38)
      have hz_a35 : h.size ≤ a35 := Nat.le_trans (own_er h).1 (Nat.le_of_eq s38)
      have X43 := own_et (own_er h) E40
      have z44 := Nat.le_trans z0 E40.1
      have F45 : Fld Z h37 a35 "java/lang/Long" "value" "J" (.long (0 : Int64)) := D42 (Or.inr (hw _ (List.mem_of_getElem? (i := 59) rfl))) (ty := .long) (by decide +kernel)
      refine gdup (pc' := 35) w39 d5_34 rfl rfl ?_
      refine glloadN (pc' := 36) (Ls := #[.val (.long x), .second, .val (.int (128 : Int32))]) (rest := [(.ref a35), (.ref a35)]) w39 d5_35 rfl rfl ?_
      refine gcallN (pc' := 39) (argsL := [(.long x)]) (rest := [(.ref a35)]) (Wt := 1) w39 d5_36 (hw _ (List.mem_of_getElem? (i := 47) rfl)) (hw _ (List.mem_of_getElem? (i := 48) rfl)) (hw _ (List.mem_of_getElem? (i := 32) rfl)) (hw _ (List.mem_of_getElem? (i := 50) rfl)) rfl (by decide +kernel) pd_d7 (own_lini hw a35 x g_a35 A41 F45) rfl rfl rfl rfl (Nat.le_of_eq rfl) (by decide +kernel) (by decide +kernel) (by decide +kernel) (by decide +kernel) rfl (fun v47 T48 h49 w50 q51 => ?_)
      obtain ⟨rfl, KK_46⟩ := q51
      show Go _ _ _ _ _ _ _ _ _ (mkF m 39 #[.val (.long x), .second, .val (.int (128 : Int32))] [(.ref a35)])
      have X52 := own_ek X43 KK_46 hz_a35
      have E53 := A41.keep KK_46
      have z54 := Nat.le_trans z44 KK_46.1
      exact gretA w50 d5_39 rfl rfl rfl (by decide +kernel) (by decide +kernel) ⟨a35, rfl, X52, E53⟩
    · obtain ⟨aC, cl, lc1, lc2, lc3, lc4⟩ := LC
      refine ggetS (pc' := 23) w d5_20 (hw _ (List.mem_of_getElem? (i := 36) rfl)) lc1 rfl (fun T56 w55 => ?_)
      refine glloadN (pc' := 24) (Ls := #[.val (.long x), .second, .val (.int (128 : Int32))]) (rest := [(.ref aC)]) w55 d5_23 rfl rfl ?_
      refine gl2i (pc' := 25) w55 d5_24 rfl ?_
      refine gsipush (v := (128 : Int32)) (pc' := 28) w55 d5_25 rfl rfl ?_
      refine giadd (pc' := 29) w55 d5_28 rfl ?_
      obtain ⟨y, y1, y2⟩ := lc4 _ (own_idx c8 c16).2
      refine gaaload (pc' := 30) (v := (.ref y)) w55 d5_29 lc2 rfl (by rw [lc3]; exact fun q => q.elim (own_idx c8 c16).1 (Nat.not_le.mpr (own_idx c8 c16).2)) y1 rfl ?_
      exact gretA w55 d5_30 rfl rfl rfl (by decide +kernel) (by decide +kernel) ⟨y, rfl, own_er h, y2⟩
def own_units (x : Int64) : Int64 := if (x &&& (9223372036854775807 : Int64)) = (0 : Int64) then 1 else (x &&& (9223372036854775807 : Int64))
theorem own_nn (x : Int64) : ¬ (x &&& (9223372036854775807 : Int64)) < 0 := by
  rw [Int64.lt_iff_toBitVec_slt, Int64.toBitVec_and]
  have z : (0 : Int64).toBitVec = 0#64 := rfl
  rw [z, BitVec.slt_zero_eq_msb, BitVec.msb_and]
  have k : (9223372036854775807 : Int64).toBitVec.msb = false := by decide
  rw [k, Bool.and_false]; decide
theorem own_pos (x : Int64) : ¬ own_units x < (1 : Int64) := by
  unfold own_units
  by_cases q : (x &&& (9223372036854775807 : Int64)) = (0 : Int64)
  · rw [if_pos q]; decide
  · rw [if_neg q]
    have a := own_nn x
    rw [Int64.lt_iff_toInt_lt] at a ⊢
    have k0 : (0 : Int64).toInt = 0 := rfl
    have k1 : (1 : Int64).toInt = 1 := rfl
    have q' : ¬ (x &&& (9223372036854775807 : Int64)).toInt = 0 := fun z => q (Int64.toInt_inj.mp z)
    omega
set_option maxRecDepth 65536 in
set_option maxHeartbeats 4000000 in
theorem own_un (hw : ∀ d ∈ tables_1, d.before a0 Z = true) (x : Int64) :
    Ctr l (⟨"com/example/vellum_keys/vellumkeys/model/ProvisionedThroughputEqualsPinLaw", "units", "(J)J"⟩ : MethodName) method_2_code 4 (some .long) ({ frames := 0, cells := 0, slots := 0, locals := 0 } : Room) Z #[(.long x)] h n0 (fun v h' => v = some (.long (own_units x)) ∧ h' = h) [] := by
  refine metGo (Ls := #[.val (.long x), .second, .unset, .unset]) pn_d1 (fun m => by first | (simp [entryFrame, mkF, argsToLocals, Value.category, maxLocals]; done) | (simp [entryFrame, mkF, argsToLocals, Value.category]; done) | rfl) ?_
  intro p e s m below meth c T w
  refine glloadN (pc' := 1) (Ls := #[.val (.long x), .second, .unset, .unset]) (rest := []) w d1_0 rfl rfl ?_
  refine gldc2 (v := (9223372036854775807 : Int64)) (pc' := 4) w d1_1 (hw _ (List.mem_of_getElem? (i := 4) rfl)) rfl ?_
  refine gland (pc' := 5) w d1_4 rfl ?_
  refine glstoreN (pc' := 6) (Ls := #[.val (.long x), .second, .unset, .unset]) (Ls' := #[.val (.long x), .second, .val (.long (x &&& (9223372036854775807 : Int64))), .second]) (rest := []) w d1_5 rfl rfl ?_
  refine glloadN (pc' := 7) (Ls := #[.val (.long x), .second, .val (.long (x &&& (9223372036854775807 : Int64))), .second]) (rest := []) w d1_6 rfl rfl ?_
  refine glconst (v := (0 : Int64)) (pc' := 8) w d1_7 rfl rfl ?_
  refine glcmpif (pm := 9) (pt := 16) (pf := 12) w d1_8 rfl d1_9 (by decide +kernel) rfl rfl (fun (c8 : ¬ (x &&& (9223372036854775807 : Int64)) = (0 : Int64)) => ?_) (fun (c8 : (x &&& (9223372036854775807 : Int64)) = (0 : Int64)) => ?_)
  · refine glloadN (pc' := 17) (Ls := #[.val (.long x), .second, .val (.long (x &&& (9223372036854775807 : Int64))), .second]) (rest := []) w d1_16 rfl rfl ?_
    exact gretJ w d1_17 (by decide +kernel) (by decide +kernel) ⟨by unfold own_units; rw [if_neg c8], rfl⟩
  · refine glconst (v := (1 : Int64)) (pc' := 13) w d1_12 rfl rfl ?_
    refine ggoto (pc' := 17) w d1_13 (by decide +kernel) rfl ?_
    exact gretJ w d1_17 (by decide +kernel) (by decide +kernel) ⟨by unfold own_units; rw [if_pos c8], rfl⟩
set_option maxRecDepth 65536 in
set_option maxHeartbeats 4000000 in
theorem own_cal (hw : ∀ d ∈ tables_1, d.before a0 Z = true) (b : Addr) (x : Int64) (hx1 : ¬ x < (1 : Int64)) :
    Ctr l (⟨"com/example/vellum_keys/vellumkeys/model/ProvisionedThroughput", "checkAtLeastOne", "(Ljava/lang/String;J)V"⟩ : MethodName) prog_49_method_2_code 3 none ({ frames := 0, cells := 0, slots := 0, locals := 0 } : Room) Z #[(.ref b), (.long x)] h n0 (fun v h' => v = none ∧ h' = h) [] := by
  refine metGo (Ls := #[.val (.ref b), .val (.long x), .second]) pn_d4 (fun m => by first | (simp [entryFrame, mkF, argsToLocals, Value.category, maxLocals]; done) | (simp [entryFrame, mkF, argsToLocals, Value.category]; done) | rfl) ?_
  intro p e s m below meth c T w
  refine glloadN (pc' := 1) (Ls := #[.val (.ref b), .val (.long x), .second]) (rest := []) w d4_0 rfl rfl ?_
  refine glconst (v := (1 : Int64)) (pc' := 2) w d4_1 rfl rfl ?_
  refine glcmpif (pm := 3) (pt := 24) (pf := 6) w d4_2 rfl d4_3 (by decide +kernel) rfl rfl (fun (c2 : ¬ x < (1 : Int64)) => ?_) (fun (c2 : x < (1 : Int64)) => ?_)
  · exact gret0 w d4_24 (by decide +kernel) (by decide +kernel) ⟨rfl, rfl⟩
  · exact absurd c2 hx1
theorem own_atoms (hw : ∀ d ∈ tables_1, d.before a0 Z = true) : ∀ a ∈ Bundle.stringAtoms, a.before a0 Z = true := by
  intro a ha
  simp only [Bundle.stringAtoms, List.mem_cons, List.not_mem_nil, or_false] at ha
  rcases ha with rfl | rfl | rfl | rfl | rfl | rfl | rfl
  · exact (hw _ (List.mem_of_getElem? (i := 15) rfl))
  · exact (hw _ (List.mem_of_getElem? (i := 16) rfl))
  · exact (hw _ (List.mem_of_getElem? (i := 17) rfl))
  · exact (hw _ (List.mem_of_getElem? (i := 18) rfl))
  · exact (hw _ (List.mem_of_getElem? (i := 19) rfl))
  · exact (hw _ (List.mem_of_getElem? (i := 20) rfl))
  · exact (hw _ (List.mem_of_getElem? (i := 21) rfl))
set_option maxRecDepth 65536 in
set_option maxHeartbeats 4000000 in
theorem own_ini (hw : ∀ d ∈ tables_1, d.before a0 Z = true) (a : Addr) (rr ww : Int64) (hr : ¬ rr < (1 : Int64)) (hww : ¬ ww < (1 : Int64)) (ga : n0 ≤ a) (E0 : Exa Z h a "com/example/vellum_keys/vellumkeys/model/ProvisionedThroughput") (F0 : Fld Z h a "com/example/vellum_keys/vellumkeys/model/ProvisionedThroughput" "readCapacityUnits" "J" (.long (0 : Int64))) (F1 : Fld Z h a "com/example/vellum_keys/vellumkeys/model/ProvisionedThroughput" "writeCapacityUnits" "J" (.long (0 : Int64))) :
    Ctr l (⟨"com/example/vellum_keys/vellumkeys/model/ProvisionedThroughput", "<init>", "(JJ)V"⟩ : MethodName) prog_49_method_1_code 5 none ({ frames := 1, cells := 4, slots := 148, locals := 32 } : Room) Z #[(.ref a), (.long rr), (.long ww)] h n0 (fun v h' => v = none ∧ Keep h h' [a] ∧ Exa Z h' a "com/example/vellum_keys/vellumkeys/model/ProvisionedThroughput" ∧ Fld Z h' a "com/example/vellum_keys/vellumkeys/model/ProvisionedThroughput" "readCapacityUnits" "J" (.long rr) ∧ Fld Z h' a "com/example/vellum_keys/vellumkeys/model/ProvisionedThroughput" "writeCapacityUnits" "J" (.long ww)) [] := by
  refine metGo (Ls := #[.val (.ref a), .val (.long rr), .second, .val (.long ww), .second]) pn_d2 (fun m => by first | (simp [entryFrame, mkF, argsToLocals, Value.category, maxLocals]; done) | (simp [entryFrame, mkF, argsToLocals, Value.category]; done) | rfl) ?_
  intro p e s m below meth c T w
  refine galoadN (pc' := 1) (Ls := #[.val (.ref a), .val (.long rr), .second, .val (.long ww), .second]) (rest := []) w d2_0 rfl rfl rfl ?_
  refine ginitO (pc' := 4) (Wt := 0) w d2_1 (hw _ (List.mem_of_getElem? (i := 11) rfl)) (hw _ (List.mem_of_getElem? (i := 12) rfl)) (hw _ (List.mem_of_getElem? (i := 13) rfl)) rfl (by decide +kernel) (Nat.le_of_eq rfl) (by decide +kernel) rfl (fun T58 w57 => ?_)
  refine gldcS (pc' := 6) (nn := 68) w57 d2_4 (hw _ (List.mem_of_getElem? (i := 14) rfl)) (own_atoms hw) (by decide +kernel) (by decide +kernel) (by decide +kernel) (by decide +kernel) rfl (fun al1 Tl1 hl1 wl1 El1 => ?_)
  have E59 := E0.ext El1
  have F60 := F0.ext El1
  have F61 := F1.ext El1
  have K62 := (Keep.refl h [a]).ext El1
  refine glloadN (pc' := 7) (Ls := #[.val (.ref a), .val (.long rr), .second, .val (.long ww), .second]) (rest := [(.ref al1)]) wl1 d2_6 rfl rfl ?_
  refine gcallS (pc' := 10) (argsL := [(.ref al1), (.long rr)]) (rest := []) (Wt := 0) wl1 d2_7 (hw _ (List.mem_of_getElem? (i := 22) rfl)) (hw _ (List.mem_of_getElem? (i := 23) rfl)) (hw _ (List.mem_of_getElem? (i := 7) rfl)) (hw _ (List.mem_of_getElem? (i := 24) rfl)) (by decide +kernel) pd_d4 (own_cal hw al1 rr hr) rfl rfl rfl rfl (Nat.le_of_eq rfl) (by decide +kernel) (by decide +kernel) (by decide +kernel) (by decide +kernel) rfl (fun v63 T64 h65 w66 q67 => ?_)
  obtain ⟨rfl, eh⟩ := q67
  show Go _ _ _ _ _ _ _ _ _ (mkF m 10 #[.val (.ref a), .val (.long rr), .second, .val (.long ww), .second] [])
  rw [eh] at w66
  refine gldcS (pc' := 12) (nn := 72) w66 d2_10 (hw _ (List.mem_of_getElem? (i := 25) rfl)) (own_atoms hw) (by decide +kernel) (by decide +kernel) (by decide +kernel) (by decide +kernel) rfl (fun al2 Tl2 hl2 wl2 El2 => ?_)
  have E68 := E59.ext El2
  have F69 := F60.ext El2
  have F70 := F61.ext El2
  have K71 := K62.ext El2
  refine glloadN (pc' := 13) (Ls := #[.val (.ref a), .val (.long rr), .second, .val (.long ww), .second]) (rest := [(.ref al2)]) wl2 d2_12 rfl rfl ?_
  refine gcallS (pc' := 16) (argsL := [(.ref al2), (.long ww)]) (rest := []) (Wt := 0) wl2 d2_13 (hw _ (List.mem_of_getElem? (i := 22) rfl)) (hw _ (List.mem_of_getElem? (i := 23) rfl)) (hw _ (List.mem_of_getElem? (i := 7) rfl)) (hw _ (List.mem_of_getElem? (i := 24) rfl)) (by decide +kernel) pd_d4 (own_cal hw al2 ww hww) rfl rfl rfl rfl (Nat.le_of_eq rfl) (by decide +kernel) (by decide +kernel) (by decide +kernel) (by decide +kernel) rfl (fun v72 T73 h74 w75 q76 => ?_)
  obtain ⟨rfl, eh⟩ := q76
  show Go _ _ _ _ _ _ _ _ _ (mkF m 16 #[.val (.ref a), .val (.long rr), .second, .val (.long ww), .second] [])
  rw [eh] at w75
  refine galoadN (pc' := 17) (Ls := #[.val (.ref a), .val (.long rr), .second, .val (.long ww), .second]) (rest := []) w75 d2_16 rfl rfl rfl ?_
  refine glloadN (pc' := 18) (Ls := #[.val (.ref a), .val (.long rr), .second, .val (.long ww), .second]) (rest := [(.ref a)]) w75 d2_17 rfl rfl ?_
  refine gputF (pc' := 21) (v' := (.long rr)) (ty := .long) w75 d2_18 (hw _ (List.mem_of_getElem? (i := 26) rfl)) F69 E68 (Or.inr ⟨(hw _ (List.mem_of_getElem? (i := 27) rfl)), rfl, rfl⟩) (hw _ (List.mem_of_getElem? (i := 6) rfl)) (by decide +kernel) rfl rfl ga rfl (fun T77 h78 w79 W80 => ?_)
  have E81 := E68.wr W80
  have F82 := F69.same W80
  have F83 := F70.other W80 (Or.inr (slot_ne (t := .long) (t' := .long) (Or.inr (hw _ (List.mem_of_getElem? (i := 29) rfl))) (Or.inr (hw _ (List.mem_of_getElem? (i := 27) rfl))) (by decide +kernel) (by decide +kernel) (by decide +kernel)))
  have K84 := K71.wr W80 (Or.inl (List.mem_singleton.mpr rfl))
  refine galoadN (pc' := 22) (Ls := #[.val (.ref a), .val (.long rr), .second, .val (.long ww), .second]) (rest := []) w79 d2_21 rfl rfl rfl ?_
  refine glloadN (pc' := 23) (Ls := #[.val (.ref a), .val (.long rr), .second, .val (.long ww), .second]) (rest := [(.ref a)]) w79 d2_22 rfl rfl ?_
  refine gputF (pc' := 26) (v' := (.long ww)) (ty := .long) w79 d2_23 (hw _ (List.mem_of_getElem? (i := 28) rfl)) F83 E81 (Or.inr ⟨(hw _ (List.mem_of_getElem? (i := 29) rfl)), rfl, rfl⟩) (hw _ (List.mem_of_getElem? (i := 6) rfl)) (by decide +kernel) rfl rfl ga rfl (fun T85 h86 w87 W88 => ?_)
  have E89 := E81.wr W88
  have F90 := F82.other W88 (Or.inr (slot_ne (t := .long) (t' := .long) (Or.inr (hw _ (List.mem_of_getElem? (i := 27) rfl))) (Or.inr (hw _ (List.mem_of_getElem? (i := 29) rfl))) (by decide +kernel) (by decide +kernel) (by decide +kernel)))
  have F91 := F83.same W88
  have K92 := K84.wr W88 (Or.inl (List.mem_singleton.mpr rfl))
  exact gret0 w87 d2_26 (by decide +kernel) (by decide +kernel) ⟨rfl, K92, E89, F90, F91⟩
def own_eq (r w r' w' : Int64) : Int32 := if r = r' then (if w = w' then 1 else 0) else 0
set_option maxRecDepth 65536 in
set_option maxHeartbeats 4000000 in
theorem own_eqb (hw : ∀ d ∈ tables_1, d.before a0 Z = true) (a b : Addr) (ra wa rb wb : Int64) (Fr : Fld Z h a "com/example/vellum_keys/vellumkeys/model/ProvisionedThroughput" "readCapacityUnits" "J" (.long ra)) (Fw : Fld Z h a "com/example/vellum_keys/vellumkeys/model/ProvisionedThroughput" "writeCapacityUnits" "J" (.long wa)) (Gr : Fld Z h b "com/example/vellum_keys/vellumkeys/model/ProvisionedThroughput" "readCapacityUnits" "J" (.long rb)) (Gw : Fld Z h b "com/example/vellum_keys/vellumkeys/model/ProvisionedThroughput" "writeCapacityUnits" "J" (.long wb)) (EB : Exa Z h b "com/example/vellum_keys/vellumkeys/model/ProvisionedThroughput") :
    Ctr l (⟨"com/example/vellum_keys/vellumkeys/model/ProvisionedThroughput", "equals", "(Ljava/lang/Object;)Z"⟩ : MethodName) prog_49_method_5_code 3 (some .boolean) ({ frames := 0, cells := 0, slots := 0, locals := 0 } : Room) Z #[(.ref a), (.ref b)] h n0 (fun v h' => v = some (.int (own_eq ra wa rb wb)) ∧ h' = h) [] := by
  refine metGo (Ls := #[.val (.ref a), .val (.ref b), .unset]) pn_d6 (fun m => by first | (simp [entryFrame, mkF, argsToLocals, Value.category, maxLocals]; done) | (simp [entryFrame, mkF, argsToLocals, Value.category]; done) | rfl) ?_
  intro p e s m below meth c T w
  refine galoadN (pc' := 1) (Ls := #[.val (.ref a), .val (.ref b), .unset]) (rest := []) w d6_0 rfl rfl rfl ?_
  refine ginstY (pc' := 4) w d6_1 (hw _ (List.mem_of_getElem? (i := 43) rfl)) (Ins.self EB) rfl (fun T94 w93 => ?_)
  refine gif (pt := 9) (pf := 7) w93 d6_4  (by decide +kernel) rfl rfl (fun (c4 : ¬ (1 : Int32) = (0 : Int32)) => ?_) (fun (c4 : (1 : Int32) = (0 : Int32)) => ?_)
  · refine galoadN (pc' := 10) (Ls := #[.val (.ref a), .val (.ref b), .unset]) (rest := []) w93 d6_9 rfl rfl rfl ?_
    refine gcast (pc' := 13) w93 d6_10 (hw _ (List.mem_of_getElem? (i := 43) rfl)) (Ins.self EB) rfl (fun T96 w95 => ?_)
    refine gastoreN (pc' := 14) (Ls := #[.val (.ref a), .val (.ref b), .unset]) (Ls' := #[.val (.ref a), .val (.ref b), .val (.ref b)]) (rest := []) w95 d6_13 rfl rfl rfl ?_
    refine galoadN (pc' := 15) (Ls := #[.val (.ref a), .val (.ref b), .val (.ref b)]) (rest := []) w95 d6_14 rfl rfl rfl ?_
    refine ggetF (pc' := 18) w95 d6_15 (hw _ (List.mem_of_getElem? (i := 26) rfl)) Fr rfl (fun T97 w98 => ?_)
    refine galoadN (pc' := 19) (Ls := #[.val (.ref a), .val (.ref b), .val (.ref b)]) (rest := [(.long ra)]) w98 d6_18 rfl rfl rfl ?_
    refine ggetF (pc' := 22) w98 d6_19 (hw _ (List.mem_of_getElem? (i := 26) rfl)) Gr rfl (fun T99 w100 => ?_)
    refine glcmpif (pm := 23) (pt := 42) (pf := 26) w100 d6_22 rfl d6_23 (by decide +kernel) rfl rfl (fun (c22 : ¬ ra = rb) => ?_) (fun (c22 : ra = rb) => ?_)
    · refine giconst (v := (0 : Int32)) (pc' := 43) w100 d6_42 rfl rfl ?_
      exact gretZ w100 d6_43 rfl (by decide +kernel) (by decide +kernel) ⟨by unfold own_eq; rw [if_neg c22], rfl⟩
    · refine galoadN (pc' := 27) (Ls := #[.val (.ref a), .val (.ref b), .val (.ref b)]) (rest := []) w100 d6_26 rfl rfl rfl ?_
      refine ggetF (pc' := 30) w100 d6_27 (hw _ (List.mem_of_getElem? (i := 28) rfl)) Fw rfl (fun T101 w102 => ?_)
      refine galoadN (pc' := 31) (Ls := #[.val (.ref a), .val (.ref b), .val (.ref b)]) (rest := [(.long wa)]) w102 d6_30 rfl rfl rfl ?_
      refine ggetF (pc' := 34) w102 d6_31 (hw _ (List.mem_of_getElem? (i := 28) rfl)) Gw rfl (fun T103 w104 => ?_)
      refine glcmpif (pm := 35) (pt := 42) (pf := 38) w104 d6_34 rfl d6_35 (by decide +kernel) rfl rfl (fun (c34 : ¬ wa = wb) => ?_) (fun (c34 : wa = wb) => ?_)
      · refine giconst (v := (0 : Int32)) (pc' := 43) w104 d6_42 rfl rfl ?_
        exact gretZ w104 d6_43 rfl (by decide +kernel) (by decide +kernel) ⟨by unfold own_eq; rw [if_pos c22, if_neg c34], rfl⟩
      · refine giconst (v := (1 : Int32)) (pc' := 39) w104 d6_38 rfl rfl ?_
        refine ggoto (pc' := 43) w104 d6_39 (by decide +kernel) rfl ?_
        exact gretZ w104 d6_43 rfl (by decide +kernel) (by decide +kernel) ⟨by unfold own_eq; rw [if_pos c22, if_pos c34], rfl⟩
  · exact absurd c4 (by decide +kernel)
set_option maxRecDepth 65536 in
set_option maxHeartbeats 4000000 in
theorem own_eqn (hw : ∀ d ∈ tables_1, d.before a0 Z = true) (a : Addr) :
    Ctr l (⟨"com/example/vellum_keys/vellumkeys/model/ProvisionedThroughput", "equals", "(Ljava/lang/Object;)Z"⟩ : MethodName) prog_49_method_5_code 3 (some .boolean) ({ frames := 0, cells := 0, slots := 0, locals := 0 } : Room) Z #[(.ref a), .null] h n0 (fun v h' => v = some (.int 0) ∧ h' = h) [] := by
  refine metGo (Ls := #[.val (.ref a), .val .null, .unset]) pn_d6 (fun m => by first | (simp [entryFrame, mkF, argsToLocals, Value.category, maxLocals]; done) | (simp [entryFrame, mkF, argsToLocals, Value.category]; done) | rfl) ?_
  intro p e s m below meth c T w
  refine galoadN (pc' := 1) (Ls := #[.val (.ref a), .val .null, .unset]) (rest := []) w d6_0 rfl rfl rfl ?_
  refine ginst0 (pc' := 4) w d6_1 rfl ?_
  refine gif (pt := 9) (pf := 7) w d6_4  (by decide +kernel) rfl rfl (fun (c4 : ¬ (0 : Int32) = (0 : Int32)) => ?_) (fun (c4 : (0 : Int32) = (0 : Int32)) => ?_)
  · exact absurd c4 (by decide +kernel)
  · refine giconst (v := (0 : Int32)) (pc' := 8) w d6_7 rfl rfl ?_
    exact gretZ w d6_8 rfl (by decide +kernel) (by decide +kernel) ⟨rfl, rfl⟩
theorem own_sub0 {vm : Vm} {c t : ClassId} {k : Class} (hne : c ≠ t) (hk : vm.classes[c]? = some k) (hs : k.super = none) : ∀ fuel, vm.isSubclassAux fuel c t = false := fun fuel => by
  cases fuel with
  | zero => rfl
  | succ n => simp [Vm.isSubclassAux, hne, hk, hs]
theorem own_sub1 {vm : Vm} {c p t : ClassId} {k : Class} (hne : c ≠ t) (hk : vm.classes[c]? = some k) (hs : k.super = some p) (ih : ∀ fuel, vm.isSubclassAux fuel p t = false) : ∀ fuel, vm.isSubclassAux fuel c t = false := fun fuel => by
  cases fuel with
  | zero => rfl
  | succ n => simp [Vm.isSubclassAux, hne, hk, hs, ih n]
theorem own_idne {s : State} {A B : String} {c d : ClassId} (hA : s.vm.findClass A = some c) (hB : s.vm.findClass B = some d) (hn : A ≠ B) : c ≠ d := fun q => by
  subst q
  obtain ⟨k, h1, h2⟩ := Vm.findClass_spec hA
  obtain ⟨k', h3, h4⟩ := Vm.findClass_spec hB
  cases h1.symm.trans h3
  exact hn (by simp_all)
theorem own_notAsg {K : String} {j : Nat} (w1 : (Jvm.Cond.superclass "java/lang/Long" "java/lang/Number").before a0 Z = true) (w2 : (Jvm.Cond.superclass "java/lang/Number" "java/lang/Object").before a0 Z = true) (w3 : (Jvm.Cond.noSuperclass "java/lang/Object").before a0 Z = true) (w4 : (Jvm.Cond.instantiable K j).before a0 Z = true) (n1 : "java/lang/Long" ≠ K) (n2 : "java/lang/Number" ≠ K) (n3 : "java/lang/Object" ≠ K) {b : Addr} (EB : Exa Z h b "java/lang/Long") : Ins Z h b K false := by
  obtain ⟨cell, k, e1, e2, e3, e4, -⟩ := EB
  obtain ⟨p, kl, kp, p1, p2, p3, p4, p5, p6, -⟩ := Cond.superclass_spec e2 w1
  obtain ⟨o, kn, ko, o1, o2, o3, o4, o5, o6, -⟩ := Cond.superclass_spec p1 w2
  have r := Cond.noSuperclass_root w3 o ko o1 o3
  obtain ⟨cT, kT, t1, t2, t3, t4, -, -⟩ := Cond.instantiable_spec w4
  have hni : kT.isInterface = false := (Bool.or_eq_false_iff.mp t4).1
  refine ⟨cell, cT, e1, t1, ?_⟩
  rw [e4]
  have hs : ∀ fuel, Z.vm.isSubclassAux fuel cell.cls cT = false :=
    own_sub1 (own_idne e2 t1 n1) p2 p4 (own_sub1 (own_idne p1 t1 n2) o2 o4 (own_sub0 (own_idne o1 t1 n3) o3 r))
  cases hq : Z.vm.assignable cell.cls cT with
  | false => rfl
  | true =>
    have u := isSubclass_of_assignable p2 t2 p5 t3 hni hq
    rw [Vm.isSubclass, hs] at u
    cases u
theorem own_notPT (hw : ∀ d ∈ tables_1, d.before a0 Z = true) {b : Addr} (EB : Exa Z h b "java/lang/Long") : Ins Z h b "com/example/vellum_keys/vellumkeys/model/ProvisionedThroughput" false :=
  own_notAsg (hw _ (List.mem_of_getElem? (i := 60) rfl)) (hw _ (List.mem_of_getElem? (i := 61) rfl)) (hw _ (List.mem_of_getElem? (i := 62) rfl)) (hw _ (List.mem_of_getElem? (i := 6) rfl)) (by decide +kernel) (by decide +kernel) (by decide +kernel) EB
set_option maxRecDepth 65536 in
set_option maxHeartbeats 4000000 in
theorem own_eql (hw : ∀ d ∈ tables_1, d.before a0 Z = true) (a b : Addr) (EB : Exa Z h b "java/lang/Long") :
    Ctr l (⟨"com/example/vellum_keys/vellumkeys/model/ProvisionedThroughput", "equals", "(Ljava/lang/Object;)Z"⟩ : MethodName) prog_49_method_5_code 3 (some .boolean) ({ frames := 0, cells := 0, slots := 0, locals := 0 } : Room) Z #[(.ref a), (.ref b)] h n0 (fun v h' => v = some (.int 0) ∧ h' = h) [] := by
  refine metGoH (Ls := #[.val (.ref a), .val (.ref b), .unset]) pn_d6 (fun m => by first | (simp [entryFrame, mkF, argsToLocals, Value.category, maxLocals]; done) | (simp [entryFrame, mkF, argsToLocals, Value.category]; done) | rfl) ?_
  intro p e s m below meth c T w hs
  refine galoadN (pc' := 1) (Ls := #[.val (.ref a), .val (.ref b), .unset]) (rest := []) w d6_0 rfl rfl rfl ?_
  refine ginstN (pc' := 4) w hs d6_1 (hw _ (List.mem_of_getElem? (i := 43) rfl)) (own_notPT hw EB) EB rfl (fun T106 w105 => ?_)
  refine gif (pt := 9) (pf := 7) w105 d6_4  (by decide +kernel) rfl rfl (fun (c4 : ¬ (0 : Int32) = (0 : Int32)) => ?_) (fun (c4 : (0 : Int32) = (0 : Int32)) => ?_)
  · exact absurd c4 (by decide +kernel)
  · refine giconst (v := (0 : Int32)) (pc' := 8) w105 d6_7 rfl rfl ?_
    exact gretZ w105 d6_8 rfl (by decide +kernel) (by decide +kernel) ⟨rfl, rfl⟩
theorem own_self (r w : Int64) : own_eq r w r w = 1 := by unfold own_eq; rw [if_pos rfl, if_pos rfl]
set_option maxRecDepth 65536 in
set_option maxHeartbeats 4000000 in
theorem own_b49 (hw : ∀ d ∈ tables_1, d.before a0 Z = true) (w : W Z "com/example/vellum_keys/vellumkeys/model/ProvisionedThroughputEqualsPinLaw" "law" code maxLocals ret n0 p l e room_1 s m args below meth c 0 0 T h) (r1 w1 r2 w2 : Int64) (sel : Int32) (ra wa rb wb : Int64) (h1 : ¬ ra < (1 : Int64)) (h2 : ¬ wa < (1 : Int64)) (h3 : ¬ rb < (1 : Int64)) (h4 : ¬ wb < (1 : Int64)) (z0 : n0 ≤ h.size) (LC : own_LC Z h) :
    Go n0 p e below s (fun v _ => v = some (.int 1)) room_1.cells room_1.slots T (mkF m 49 #[.val (.long r1), .second, .val (.long w1), .second, .val (.long r2), .second, .val (.long w2), .second, .val (.int sel), .val (.long ra), .second, .val (.long wa), .second, .val (.long rb), .second, .unset, .unset, .unset, .unset, .unset, .unset, .unset] [(.long wb)]) := by
  refine glstore (pc' := 51) (Ls := #[.val (.long r1), .second, .val (.long w1), .second, .val (.long r2), .second, .val (.long w2), .second, .val (.int sel), .val (.long ra), .second, .val (.long wa), .second, .val (.long rb), .second, .unset, .unset, .unset, .unset, .unset, .unset, .unset]) (Ls' := #[.val (.long r1), .second, .val (.long w1), .second, .val (.long r2), .second, .val (.long w2), .second, .val (.int sel), .val (.long ra), .second, .val (.long wa), .second, .val (.long rb), .second, .val (.long wb), .second, .unset, .unset, .unset, .unset, .unset]) (rest := []) w at_49 rfl rfl ?_
  refine gnewO (pc' := 54) w at_51 (hw _ (List.mem_of_getElem? (i := 5) rfl)) (hw _ (List.mem_of_getElem? (i := 6) rfl)) (hw _ (List.mem_of_getElem? (i := 7) rfl)) (by decide +kernel) (by decide +kernel) rfl (fun T107 h108 a s109 w110 E111 A112 D113 => ?_)
  have g_a : n0 ≤ a := Nat.le_trans z0 (Nat.le_of_eq s109)
  have hz_a : h.size ≤ a := Nat.le_trans (own_er h).1 (Nat.le_of_eq s109)
  have X114 := own_et (own_er h) E111
  have z115 := Nat.le_trans z0 E111.1
  have F116 : Fld Z h108 a "com/example/vellum_keys/vellumkeys/model/ProvisionedThroughput" "readCapacityUnits" "J" (.long (0 : Int64)) := D113 (Or.inr (hw _ (List.mem_of_getElem? (i := 27) rfl))) (ty := .long) (by decide +kernel)
  have F117 : Fld Z h108 a "com/example/vellum_keys/vellumkeys/model/ProvisionedThroughput" "writeCapacityUnits" "J" (.long (0 : Int64)) := D113 (Or.inr (hw _ (List.mem_of_getElem? (i := 29) rfl))) (ty := .long) (by decide +kernel)
  refine gdup (pc' := 55) w110 at_54 rfl rfl ?_
  refine glload (pc' := 57) (Ls := #[.val (.long r1), .second, .val (.long w1), .second, .val (.long r2), .second, .val (.long w2), .second, .val (.int sel), .val (.long ra), .second, .val (.long wa), .second, .val (.long rb), .second, .val (.long wb), .second, .unset, .unset, .unset, .unset, .unset]) (rest := [(.ref a), (.ref a)]) w110 at_55 rfl rfl ?_
  refine glload (pc' := 59) (Ls := #[.val (.long r1), .second, .val (.long w1), .second, .val (.long r2), .second, .val (.long w2), .second, .val (.int sel), .val (.long ra), .second, .val (.long wa), .second, .val (.long rb), .second, .val (.long wb), .second, .unset, .unset, .unset, .unset, .unset]) (rest := [(.long ra), (.ref a), (.ref a)]) w110 at_57 rfl rfl ?_
  refine gcallN (pc' := 62) (argsL := [(.long ra), (.long wa)]) (rest := [(.ref a)]) (Wt := 1) w110 at_59 (hw _ (List.mem_of_getElem? (i := 8) rfl)) (hw _ (List.mem_of_getElem? (i := 9) rfl)) (hw _ (List.mem_of_getElem? (i := 7) rfl)) (hw _ (List.mem_of_getElem? (i := 10) rfl)) rfl (by decide +kernel) pd_d2 (own_ini hw a ra wa h1 h2 g_a A112 F116 F117) rfl rfl rfl rfl (Nat.le_of_eq rfl) (by decide +kernel) (by decide +kernel) (by decide +kernel) (by decide +kernel) rfl (fun v118 T119 h120 w121 q122 => ?_)
  obtain ⟨rfl, KKa, EEa, Fra, Fwa⟩ := q122
  show Go _ _ _ _ _ _ _ _ _ (mkF m 62 #[.val (.long r1), .second, .val (.long w1), .second, .val (.long r2), .second, .val (.long w2), .second, .val (.int sel), .val (.long ra), .second, .val (.long wa), .second, .val (.long rb), .second, .val (.long wb), .second, .unset, .unset, .unset, .unset, .unset] [(.ref a)])
  have X123 := own_ek X114 KKa hz_a
  have E124 := A112.keep KKa
  have z125 := Nat.le_trans z115 KKa.1
  refine gastore (pc' := 64) (Ls := #[.val (.long r1), .second, .val (.long w1), .second, .val (.long r2), .second, .val (.long w2), .second, .val (.int sel), .val (.long ra), .second, .val (.long wa), .second, .val (.long rb), .second, .val (.long wb), .second, .unset, .unset, .unset, .unset, .unset]) (Ls' := #[.val (.long r1), .second, .val (.long w1), .second, .val (.long r2), .second, .val (.long w2), .second, .val (.int sel), .val (.long ra), .second, .val (.long wa), .second, .val (.long rb), .second, .val (.long wb), .second, .val (.ref a), .unset, .unset, .unset, .unset]) (rest := []) w121 at_62 rfl rfl rfl ?_
  refine gnewO (pc' := 67) w121 at_64 (hw _ (List.mem_of_getElem? (i := 5) rfl)) (hw _ (List.mem_of_getElem? (i := 6) rfl)) (hw _ (List.mem_of_getElem? (i := 7) rfl)) (by decide +kernel) (by decide +kernel) rfl (fun T126 h127 b s128 w129 E130 A131 D132 => ?_)
  have g_b : n0 ≤ b := Nat.le_trans z125 (Nat.le_of_eq s128)
  have hz_b : h.size ≤ b := Nat.le_trans X123.1 (Nat.le_of_eq s128)
  have ne_a_b : a ≠ b := Nat.ne_of_lt (s128 ▸ EEa.lt)
  have E133 := EEa.ext E130
  have F134 := Fra.ext E130
  have F135 := Fwa.ext E130
  have X136 := own_et X123 E130
  have z137 := Nat.le_trans z125 E130.1
  have F138 : Fld Z h127 b "com/example/vellum_keys/vellumkeys/model/ProvisionedThroughput" "readCapacityUnits" "J" (.long (0 : Int64)) := D132 (Or.inr (hw _ (List.mem_of_getElem? (i := 27) rfl))) (ty := .long) (by decide +kernel)
  have F139 : Fld Z h127 b "com/example/vellum_keys/vellumkeys/model/ProvisionedThroughput" "writeCapacityUnits" "J" (.long (0 : Int64)) := D132 (Or.inr (hw _ (List.mem_of_getElem? (i := 29) rfl))) (ty := .long) (by decide +kernel)
  refine gdup (pc' := 68) w129 at_67 rfl rfl ?_
  refine glload (pc' := 70) (Ls := #[.val (.long r1), .second, .val (.long w1), .second, .val (.long r2), .second, .val (.long w2), .second, .val (.int sel), .val (.long ra), .second, .val (.long wa), .second, .val (.long rb), .second, .val (.long wb), .second, .val (.ref a), .unset, .unset, .unset, .unset]) (rest := [(.ref b), (.ref b)]) w129 at_68 rfl rfl ?_
  refine glload (pc' := 72) (Ls := #[.val (.long r1), .second, .val (.long w1), .second, .val (.long r2), .second, .val (.long w2), .second, .val (.int sel), .val (.long ra), .second, .val (.long wa), .second, .val (.long rb), .second, .val (.long wb), .second, .val (.ref a), .unset, .unset, .unset, .unset]) (rest := [(.long rb), (.ref b), (.ref b)]) w129 at_70 rfl rfl ?_
  refine gcallN (pc' := 75) (argsL := [(.long rb), (.long wb)]) (rest := [(.ref b)]) (Wt := 1) w129 at_72 (hw _ (List.mem_of_getElem? (i := 8) rfl)) (hw _ (List.mem_of_getElem? (i := 9) rfl)) (hw _ (List.mem_of_getElem? (i := 7) rfl)) (hw _ (List.mem_of_getElem? (i := 10) rfl)) rfl (by decide +kernel) pd_d2 (own_ini hw b rb wb h3 h4 g_b A131 F138 F139) rfl rfl rfl rfl (Nat.le_of_eq rfl) (by decide +kernel) (by decide +kernel) (by decide +kernel) (by decide +kernel) rfl (fun v140 T141 h142 w143 q144 => ?_)
  obtain ⟨rfl, KKb, EEb, Frb, Fwb⟩ := q144
  show Go _ _ _ _ _ _ _ _ _ (mkF m 75 #[.val (.long r1), .second, .val (.long w1), .second, .val (.long r2), .second, .val (.long w2), .second, .val (.int sel), .val (.long ra), .second, .val (.long wa), .second, .val (.long rb), .second, .val (.long wb), .second, .val (.ref a), .unset, .unset, .unset, .unset] [(.ref b)])
  have X145 := own_ek X136 KKb hz_b
  have E146 := E133.keep KKb
  have F147 := F134.keep KKb (ninS ne_a_b nin0)
  have F148 := F135.keep KKb (ninS ne_a_b nin0)
  have E149 := A131.keep KKb
  have z150 := Nat.le_trans z137 KKb.1
  refine gastore (pc' := 77) (Ls := #[.val (.long r1), .second, .val (.long w1), .second, .val (.long r2), .second, .val (.long w2), .second, .val (.int sel), .val (.long ra), .second, .val (.long wa), .second, .val (.long rb), .second, .val (.long wb), .second, .val (.ref a), .unset, .unset, .unset, .unset]) (Ls' := #[.val (.long r1), .second, .val (.long w1), .second, .val (.long r2), .second, .val (.long w2), .second, .val (.int sel), .val (.long ra), .second, .val (.long wa), .second, .val (.long rb), .second, .val (.long wb), .second, .val (.ref a), .val (.ref b), .unset, .unset, .unset]) (rest := []) w143 at_75 rfl rfl rfl ?_
  refine glload (pc' := 79) (Ls := #[.val (.long r1), .second, .val (.long w1), .second, .val (.long r2), .second, .val (.long w2), .second, .val (.int sel), .val (.long ra), .second, .val (.long wa), .second, .val (.long rb), .second, .val (.long wb), .second, .val (.ref a), .val (.ref b), .unset, .unset, .unset]) (rest := []) w143 at_77 rfl rfl ?_
  refine gcallS (pc' := 82) (argsL := [(.long ra)]) (rest := []) (Wt := 0) w143 at_79 (hw _ (List.mem_of_getElem? (i := 30) rfl)) (hw _ (List.mem_of_getElem? (i := 31) rfl)) (hw _ (List.mem_of_getElem? (i := 32) rfl)) (hw _ (List.mem_of_getElem? (i := 33) rfl)) (by decide +kernel) pd_d5 (own_lval hw ra z150 (own_LC_ext LC X145)) rfl rfl rfl rfl (Nat.le_of_eq rfl) (by decide +kernel) (by decide +kernel) (by decide +kernel) (by decide +kernel) rfl (fun v151 T152 h153 w154 q155 => ?_)
  obtain ⟨ol, rfl, XL, EL⟩ := q155
  show Go _ _ _ _ _ _ _ _ _ (mkF m 82 #[.val (.long r1), .second, .val (.long w1), .second, .val (.long r2), .second, .val (.long w2), .second, .val (.int sel), .val (.long ra), .second, .val (.long wa), .second, .val (.long rb), .second, .val (.long wb), .second, .val (.ref a), .val (.ref b), .unset, .unset, .unset] [(.ref ol)])
  have E156 := E146.ext XL
  have F157 := F147.ext XL
  have F158 := F148.ext XL
  have E159 := EEb.ext XL
  have F160 := Frb.ext XL
  have F161 := Fwb.ext XL
  have X162 := own_et X145 XL
  have z163 := Nat.le_trans z150 XL.1
  refine gastore (pc' := 84) (Ls := #[.val (.long r1), .second, .val (.long w1), .second, .val (.long r2), .second, .val (.long w2), .second, .val (.int sel), .val (.long ra), .second, .val (.long wa), .second, .val (.long rb), .second, .val (.long wb), .second, .val (.ref a), .val (.ref b), .unset, .unset, .unset]) (Ls' := #[.val (.long r1), .second, .val (.long w1), .second, .val (.long r2), .second, .val (.long w2), .second, .val (.int sel), .val (.long ra), .second, .val (.long wa), .second, .val (.long rb), .second, .val (.long wb), .second, .val (.ref a), .val (.ref b), .val (.ref ol), .unset, .unset]) (rest := []) w154 at_82 rfl rfl rfl ?_
  refine giload (pc' := 86) (Ls := #[.val (.long r1), .second, .val (.long w1), .second, .val (.long r2), .second, .val (.long w2), .second, .val (.int sel), .val (.long ra), .second, .val (.long wa), .second, .val (.long rb), .second, .val (.long wb), .second, .val (.ref a), .val (.ref b), .val (.ref ol), .unset, .unset]) (rest := []) w154 at_84 rfl rfl ?_
  refine giconst (v := (3 : Int32)) (pc' := 87) w154 at_86 rfl rfl ?_
  refine giand (pc' := 88) w154 at_87 rfl ?_
  refine gistore (pc' := 90) (Ls := #[.val (.long r1), .second, .val (.long w1), .second, .val (.long r2), .second, .val (.long w2), .second, .val (.int sel), .val (.long ra), .second, .val (.long wa), .second, .val (.long rb), .second, .val (.long wb), .second, .val (.ref a), .val (.ref b), .val (.ref ol), .unset, .unset]) (Ls' := #[.val (.long r1), .second, .val (.long w1), .second, .val (.long r2), .second, .val (.long w2), .second, .val (.int sel), .val (.long ra), .second, .val (.long wa), .second, .val (.long rb), .second, .val (.long wb), .second, .val (.ref a), .val (.ref b), .val (.ref ol), .val (.int (sel &&& (3 : Int32))), .unset]) (rest := []) w154 at_88 rfl rfl ?_
  refine giload (pc' := 92) (Ls := #[.val (.long r1), .second, .val (.long w1), .second, .val (.long r2), .second, .val (.long w2), .second, .val (.int sel), .val (.long ra), .second, .val (.long wa), .second, .val (.long rb), .second, .val (.long wb), .second, .val (.ref a), .val (.ref b), .val (.ref ol), .val (.int (sel &&& (3 : Int32))), .unset]) (rest := []) w154 at_90 rfl rfl ?_
  refine gif (pt := 148) (pf := 95) w154 at_92  (by decide +kernel) rfl rfl (fun (c92 : ¬ (sel &&& (3 : Int32)) = (0 : Int32)) => ?_) (fun (c92 : (sel &&& (3 : Int32)) = (0 : Int32)) => ?_)
  · refine giload (pc' := 150) (Ls := #[.val (.long r1), .second, .val (.long w1), .second, .val (.long r2), .second, .val (.long w2), .second, .val (.int sel), .val (.long ra), .second, .val (.long wa), .second, .val (.long rb), .second, .val (.long wb), .second, .val (.ref a), .val (.ref b), .val (.ref ol), .val (.int (sel &&& (3 : Int32))), .unset]) (rest := []) w154 at_148 rfl rfl ?_
    refine giconst (v := (1 : Int32)) (pc' := 151) w154 at_150 rfl rfl ?_
    refine gicmp (pt := 169) (pf := 154) w154 at_151  (by decide +kernel) rfl rfl (fun (c151 : ¬ (sel &&& (3 : Int32)) = (1 : Int32)) => ?_) (fun (c151 : (sel &&& (3 : Int32)) = (1 : Int32)) => ?_)
    · refine giload (pc' := 171) (Ls := #[.val (.long r1), .second, .val (.long w1), .second, .val (.long r2), .second, .val (.long w2), .second, .val (.int sel), .val (.long ra), .second, .val (.long wa), .second, .val (.long rb), .second, .val (.long wb), .second, .val (.ref a), .val (.ref b), .val (.ref ol), .val (.int (sel &&& (3 : Int32))), .unset]) (rest := []) w154 at_169 rfl rfl ?_
      refine giconst (v := (2 : Int32)) (pc' := 172) w154 at_171 rfl rfl ?_
      refine gicmp (pt := 191) (pf := 175) w154 at_172  (by decide +kernel) rfl rfl (fun (c172 : ¬ (sel &&& (3 : Int32)) = (2 : Int32)) => ?_) (fun (c172 : (sel &&& (3 : Int32)) = (2 : Int32)) => ?_)
      · refine gaload (pc' := 193) (Ls := #[.val (.long r1), .second, .val (.long w1), .second, .val (.long r2), .second, .val (.long w2), .second, .val (.int sel), .val (.long ra), .second, .val (.long wa), .second, .val (.long rb), .second, .val (.long wb), .second, .val (.ref a), .val (.ref b), .val (.ref ol), .val (.int (sel &&& (3 : Int32))), .unset]) (rest := []) w154 at_191 rfl rfl rfl ?_
        refine gaload (pc' := 195) (Ls := #[.val (.long r1), .second, .val (.long w1), .second, .val (.long r2), .second, .val (.long w2), .second, .val (.int sel), .val (.long ra), .second, .val (.long wa), .second, .val (.long rb), .second, .val (.long wb), .second, .val (.ref a), .val (.ref b), .val (.ref ol), .val (.int (sel &&& (3 : Int32))), .unset]) (rest := [(.ref a)]) w154 at_193 rfl rfl rfl ?_
        refine gcallV (pc' := 198) (argsL := [(.ref a)]) (rest := []) (Wt := 0) w154 at_195 (hw _ (List.mem_of_getElem? (i := 38) rfl)) (hw _ (List.mem_of_getElem? (i := 39) rfl)) (hw _ (List.mem_of_getElem? (i := 41) rfl)) (hw _ (List.mem_of_getElem? (i := 40) rfl)) (hw _ (List.mem_of_getElem? (i := 7) rfl)) (hw _ (List.mem_of_getElem? (i := 42) rfl)) E156 rfl (by decide +kernel) pd_d6 (own_eqb hw a a ra wa ra wa F157 F158 F157 F158 E156) rfl rfl rfl rfl (Nat.le_of_eq rfl) (by decide +kernel) (by decide +kernel) (by decide +kernel) (by decide +kernel) rfl (fun v164 T165 h166 w167 q168 => ?_)
        obtain ⟨rfl, eh⟩ := q168
        show Go _ _ _ _ _ _ _ _ _ (mkF m 198 #[.val (.long r1), .second, .val (.long w1), .second, .val (.long r2), .second, .val (.long w2), .second, .val (.int sel), .val (.long ra), .second, .val (.long wa), .second, .val (.long rb), .second, .val (.long wb), .second, .val (.ref a), .val (.ref b), .val (.ref ol), .val (.int (sel &&& (3 : Int32))), .unset] [(.int (own_eq ra wa ra wa))])
        rw [eh] at w167
        exact gretZ w167 at_198 (by rw [own_self]; rfl) (by decide +kernel) (by decide +kernel) (by rw [own_self])
      · refine gaload (pc' := 177) (Ls := #[.val (.long r1), .second, .val (.long w1), .second, .val (.long r2), .second, .val (.long w2), .second, .val (.int sel), .val (.long ra), .second, .val (.long wa), .second, .val (.long rb), .second, .val (.long wb), .second, .val (.ref a), .val (.ref b), .val (.ref ol), .val (.int (sel &&& (3 : Int32))), .unset]) (rest := []) w154 at_175 rfl rfl rfl ?_
        refine gaload (pc' := 179) (Ls := #[.val (.long r1), .second, .val (.long w1), .second, .val (.long r2), .second, .val (.long w2), .second, .val (.int sel), .val (.long ra), .second, .val (.long wa), .second, .val (.long rb), .second, .val (.long wb), .second, .val (.ref a), .val (.ref b), .val (.ref ol), .val (.int (sel &&& (3 : Int32))), .unset]) (rest := [(.ref a)]) w154 at_177 rfl rfl rfl ?_
        refine gcallV (pc' := 182) (argsL := [(.ref ol)]) (rest := []) (Wt := 0) w154 at_179 (hw _ (List.mem_of_getElem? (i := 38) rfl)) (hw _ (List.mem_of_getElem? (i := 39) rfl)) (hw _ (List.mem_of_getElem? (i := 41) rfl)) (hw _ (List.mem_of_getElem? (i := 40) rfl)) (hw _ (List.mem_of_getElem? (i := 7) rfl)) (hw _ (List.mem_of_getElem? (i := 42) rfl)) E156 rfl (by decide +kernel) pd_d6 (own_eql hw a ol EL) rfl rfl rfl rfl (Nat.le_of_eq rfl) (by decide +kernel) (by decide +kernel) (by decide +kernel) (by decide +kernel) rfl (fun v169 T170 h171 w172 q173 => ?_)
        obtain ⟨rfl, eh⟩ := q173
        show Go _ _ _ _ _ _ _ _ _ (mkF m 182 #[.val (.long r1), .second, .val (.long w1), .second, .val (.long r2), .second, .val (.long w2), .second, .val (.int sel), .val (.long ra), .second, .val (.long wa), .second, .val (.long rb), .second, .val (.long wb), .second, .val (.ref a), .val (.ref b), .val (.ref ol), .val (.int (sel &&& (3 : Int32))), .unset] [(.int (0 : Int32))])
        rw [eh] at w172
        refine gif (pt := 189) (pf := 185) w172 at_182  (by decide +kernel) rfl rfl (fun (c182 : ¬ (0 : Int32) = (0 : Int32)) => ?_) (fun (c182 : (0 : Int32) = (0 : Int32)) => ?_)
        · exact absurd c182 (by decide +kernel)
        · refine giconst (v := (1 : Int32)) (pc' := 186) w172 at_185 rfl rfl ?_
          refine ggoto (pc' := 190) w172 at_186 (by decide +kernel) rfl ?_
          exact gretZ w172 at_190 rfl (by decide +kernel) (by decide +kernel) rfl
    · refine gaload (pc' := 156) (Ls := #[.val (.long r1), .second, .val (.long w1), .second, .val (.long r2), .second, .val (.long w2), .second, .val (.int sel), .val (.long ra), .second, .val (.long wa), .second, .val (.long rb), .second, .val (.long wb), .second, .val (.ref a), .val (.ref b), .val (.ref ol), .val (.int (sel &&& (3 : Int32))), .unset]) (rest := []) w154 at_154 rfl rfl rfl ?_
      refine gnull (pc' := 157) w154 at_156 rfl ?_
      refine gcallV (pc' := 160) (argsL := [.null]) (rest := []) (Wt := 0) w154 at_157 (hw _ (List.mem_of_getElem? (i := 38) rfl)) (hw _ (List.mem_of_getElem? (i := 39) rfl)) (hw _ (List.mem_of_getElem? (i := 41) rfl)) (hw _ (List.mem_of_getElem? (i := 40) rfl)) (hw _ (List.mem_of_getElem? (i := 7) rfl)) (hw _ (List.mem_of_getElem? (i := 42) rfl)) E156 rfl (by decide +kernel) pd_d6 (own_eqn hw a) rfl rfl rfl rfl (Nat.le_of_eq rfl) (by decide +kernel) (by decide +kernel) (by decide +kernel) (by decide +kernel) rfl (fun v174 T175 h176 w177 q178 => ?_)
      obtain ⟨rfl, eh⟩ := q178
      show Go _ _ _ _ _ _ _ _ _ (mkF m 160 #[.val (.long r1), .second, .val (.long w1), .second, .val (.long r2), .second, .val (.long w2), .second, .val (.int sel), .val (.long ra), .second, .val (.long wa), .second, .val (.long rb), .second, .val (.long wb), .second, .val (.ref a), .val (.ref b), .val (.ref ol), .val (.int (sel &&& (3 : Int32))), .unset] [(.int (0 : Int32))])
      rw [eh] at w177
      refine gif (pt := 167) (pf := 163) w177 at_160  (by decide +kernel) rfl rfl (fun (c160 : ¬ (0 : Int32) = (0 : Int32)) => ?_) (fun (c160 : (0 : Int32) = (0 : Int32)) => ?_)
      · exact absurd c160 (by decide +kernel)
      · refine giconst (v := (1 : Int32)) (pc' := 164) w177 at_163 rfl rfl ?_
        refine ggoto (pc' := 168) w177 at_164 (by decide +kernel) rfl ?_
        exact gretZ w177 at_168 rfl (by decide +kernel) (by decide +kernel) rfl
  · refine glload (pc' := 97) (Ls := #[.val (.long r1), .second, .val (.long w1), .second, .val (.long r2), .second, .val (.long w2), .second, .val (.int sel), .val (.long ra), .second, .val (.long wa), .second, .val (.long rb), .second, .val (.long wb), .second, .val (.ref a), .val (.ref b), .val (.ref ol), .val (.int (sel &&& (3 : Int32))), .unset]) (rest := []) w154 at_95 rfl rfl ?_
    refine glload (pc' := 99) (Ls := #[.val (.long r1), .second, .val (.long w1), .second, .val (.long r2), .second, .val (.long w2), .second, .val (.int sel), .val (.long ra), .second, .val (.long wa), .second, .val (.long rb), .second, .val (.long wb), .second, .val (.ref a), .val (.ref b), .val (.ref ol), .val (.int (sel &&& (3 : Int32))), .unset]) (rest := [(.long ra)]) w154 at_97 rfl rfl ?_
    refine glcmpif (pm := 100) (pt := 115) (pf := 103) w154 at_99 rfl at_100 (by decide +kernel) rfl rfl (fun (c99 : ¬ ra = rb) => ?_) (fun (c99 : ra = rb) => ?_)
    · refine giconst (v := (0 : Int32)) (pc' := 116) w154 at_115 rfl rfl ?_
      refine gistore (pc' := 118) (Ls := #[.val (.long r1), .second, .val (.long w1), .second, .val (.long r2), .second, .val (.long w2), .second, .val (.int sel), .val (.long ra), .second, .val (.long wa), .second, .val (.long rb), .second, .val (.long wb), .second, .val (.ref a), .val (.ref b), .val (.ref ol), .val (.int (sel &&& (3 : Int32))), .unset]) (Ls' := #[.val (.long r1), .second, .val (.long w1), .second, .val (.long r2), .second, .val (.long w2), .second, .val (.int sel), .val (.long ra), .second, .val (.long wa), .second, .val (.long rb), .second, .val (.long wb), .second, .val (.ref a), .val (.ref b), .val (.ref ol), .val (.int (sel &&& (3 : Int32))), .val (.int (0 : Int32))]) (rest := []) w154 at_116 rfl rfl ?_
      refine gaload (pc' := 120) (Ls := #[.val (.long r1), .second, .val (.long w1), .second, .val (.long r2), .second, .val (.long w2), .second, .val (.int sel), .val (.long ra), .second, .val (.long wa), .second, .val (.long rb), .second, .val (.long wb), .second, .val (.ref a), .val (.ref b), .val (.ref ol), .val (.int (sel &&& (3 : Int32))), .val (.int (0 : Int32))]) (rest := []) w154 at_118 rfl rfl rfl ?_
      refine gaload (pc' := 122) (Ls := #[.val (.long r1), .second, .val (.long w1), .second, .val (.long r2), .second, .val (.long w2), .second, .val (.int sel), .val (.long ra), .second, .val (.long wa), .second, .val (.long rb), .second, .val (.long wb), .second, .val (.ref a), .val (.ref b), .val (.ref ol), .val (.int (sel &&& (3 : Int32))), .val (.int (0 : Int32))]) (rest := [(.ref a)]) w154 at_120 rfl rfl rfl ?_
      refine gcallV (pc' := 125) (argsL := [(.ref b)]) (rest := []) (Wt := 0) w154 at_122 (hw _ (List.mem_of_getElem? (i := 38) rfl)) (hw _ (List.mem_of_getElem? (i := 39) rfl)) (hw _ (List.mem_of_getElem? (i := 41) rfl)) (hw _ (List.mem_of_getElem? (i := 40) rfl)) (hw _ (List.mem_of_getElem? (i := 7) rfl)) (hw _ (List.mem_of_getElem? (i := 42) rfl)) E156 rfl (by decide +kernel) pd_d6 (own_eqb hw a b ra wa rb wb F157 F158 F160 F161 E159) rfl rfl rfl rfl (Nat.le_of_eq rfl) (by decide +kernel) (by decide +kernel) (by decide +kernel) (by decide +kernel) rfl (fun v179 T180 h181 w182 q183 => ?_)
      obtain ⟨rfl, eh⟩ := q183
      show Go _ _ _ _ _ _ _ _ _ (mkF m 125 #[.val (.long r1), .second, .val (.long w1), .second, .val (.long r2), .second, .val (.long w2), .second, .val (.int sel), .val (.long ra), .second, .val (.long wa), .second, .val (.long rb), .second, .val (.long wb), .second, .val (.ref a), .val (.ref b), .val (.ref ol), .val (.int (sel &&& (3 : Int32))), .val (.int (0 : Int32))] [(.int (own_eq ra wa rb wb))])
      rw [eh] at w182
      refine giload (pc' := 127) (Ls := #[.val (.long r1), .second, .val (.long w1), .second, .val (.long r2), .second, .val (.long w2), .second, .val (.int sel), .val (.long ra), .second, .val (.long wa), .second, .val (.long rb), .second, .val (.long wb), .second, .val (.ref a), .val (.ref b), .val (.ref ol), .val (.int (sel &&& (3 : Int32))), .val (.int (0 : Int32))]) (rest := [(.int (own_eq ra wa rb wb))]) w182 at_125 rfl rfl ?_
      refine gicmp (pt := 146) (pf := 130) w182 at_127  (by decide +kernel) rfl rfl (fun (c127 : ¬ (own_eq ra wa rb wb) = (0 : Int32)) => ?_) (fun (c127 : (own_eq ra wa rb wb) = (0 : Int32)) => ?_)
      · refine giconst (v := (0 : Int32)) (pc' := 147) w182 at_146 rfl rfl ?_
        exact absurd (by unfold own_eq; rw [if_neg c99]) c127
      · refine gaload (pc' := 132) (Ls := #[.val (.long r1), .second, .val (.long w1), .second, .val (.long r2), .second, .val (.long w2), .second, .val (.int sel), .val (.long ra), .second, .val (.long wa), .second, .val (.long rb), .second, .val (.long wb), .second, .val (.ref a), .val (.ref b), .val (.ref ol), .val (.int (sel &&& (3 : Int32))), .val (.int (0 : Int32))]) (rest := []) w182 at_130 rfl rfl rfl ?_
        refine gaload (pc' := 134) (Ls := #[.val (.long r1), .second, .val (.long w1), .second, .val (.long r2), .second, .val (.long w2), .second, .val (.int sel), .val (.long ra), .second, .val (.long wa), .second, .val (.long rb), .second, .val (.long wb), .second, .val (.ref a), .val (.ref b), .val (.ref ol), .val (.int (sel &&& (3 : Int32))), .val (.int (0 : Int32))]) (rest := [(.ref b)]) w182 at_132 rfl rfl rfl ?_
        refine gcallV (pc' := 137) (argsL := [(.ref a)]) (rest := []) (Wt := 0) w182 at_134 (hw _ (List.mem_of_getElem? (i := 38) rfl)) (hw _ (List.mem_of_getElem? (i := 39) rfl)) (hw _ (List.mem_of_getElem? (i := 41) rfl)) (hw _ (List.mem_of_getElem? (i := 40) rfl)) (hw _ (List.mem_of_getElem? (i := 7) rfl)) (hw _ (List.mem_of_getElem? (i := 42) rfl)) E159 rfl (by decide +kernel) pd_d6 (own_eqb hw b a rb wb ra wa F160 F161 F157 F158 E156) rfl rfl rfl rfl (Nat.le_of_eq rfl) (by decide +kernel) (by decide +kernel) (by decide +kernel) (by decide +kernel) rfl (fun v184 T185 h186 w187 q188 => ?_)
        obtain ⟨rfl, eh⟩ := q188
        show Go _ _ _ _ _ _ _ _ _ (mkF m 137 #[.val (.long r1), .second, .val (.long w1), .second, .val (.long r2), .second, .val (.long w2), .second, .val (.int sel), .val (.long ra), .second, .val (.long wa), .second, .val (.long rb), .second, .val (.long wb), .second, .val (.ref a), .val (.ref b), .val (.ref ol), .val (.int (sel &&& (3 : Int32))), .val (.int (0 : Int32))] [(.int (own_eq rb wb ra wa))])
        rw [eh] at w187
        refine giload (pc' := 139) (Ls := #[.val (.long r1), .second, .val (.long w1), .second, .val (.long r2), .second, .val (.long w2), .second, .val (.int sel), .val (.long ra), .second, .val (.long wa), .second, .val (.long rb), .second, .val (.long wb), .second, .val (.ref a), .val (.ref b), .val (.ref ol), .val (.int (sel &&& (3 : Int32))), .val (.int (0 : Int32))]) (rest := [(.int (own_eq rb wb ra wa))]) w187 at_137 rfl rfl ?_
        refine gicmp (pt := 146) (pf := 142) w187 at_139  (by decide +kernel) rfl rfl (fun (c139 : ¬ (own_eq rb wb ra wa) = (0 : Int32)) => ?_) (fun (c139 : (own_eq rb wb ra wa) = (0 : Int32)) => ?_)
        · refine giconst (v := (0 : Int32)) (pc' := 147) w187 at_146 rfl rfl ?_
          exact absurd (by unfold own_eq; rw [if_neg (Ne.symm c99)]) c139
        · refine giconst (v := (1 : Int32)) (pc' := 143) w187 at_142 rfl rfl ?_
          refine ggoto (pc' := 147) w187 at_143 (by decide +kernel) rfl ?_
          exact gretZ w187 at_147 rfl (by decide +kernel) (by decide +kernel) rfl
    · refine glload (pc' := 105) (Ls := #[.val (.long r1), .second, .val (.long w1), .second, .val (.long r2), .second, .val (.long w2), .second, .val (.int sel), .val (.long ra), .second, .val (.long wa), .second, .val (.long rb), .second, .val (.long wb), .second, .val (.ref a), .val (.ref b), .val (.ref ol), .val (.int (sel &&& (3 : Int32))), .unset]) (rest := []) w154 at_103 rfl rfl ?_
      refine glload (pc' := 107) (Ls := #[.val (.long r1), .second, .val (.long w1), .second, .val (.long r2), .second, .val (.long w2), .second, .val (.int sel), .val (.long ra), .second, .val (.long wa), .second, .val (.long rb), .second, .val (.long wb), .second, .val (.ref a), .val (.ref b), .val (.ref ol), .val (.int (sel &&& (3 : Int32))), .unset]) (rest := [(.long wa)]) w154 at_105 rfl rfl ?_
      refine glcmpif (pm := 108) (pt := 115) (pf := 111) w154 at_107 rfl at_108 (by decide +kernel) rfl rfl (fun (c107 : ¬ wa = wb) => ?_) (fun (c107 : wa = wb) => ?_)
      · refine giconst (v := (0 : Int32)) (pc' := 116) w154 at_115 rfl rfl ?_
        refine gistore (pc' := 118) (Ls := #[.val (.long r1), .second, .val (.long w1), .second, .val (.long r2), .second, .val (.long w2), .second, .val (.int sel), .val (.long ra), .second, .val (.long wa), .second, .val (.long rb), .second, .val (.long wb), .second, .val (.ref a), .val (.ref b), .val (.ref ol), .val (.int (sel &&& (3 : Int32))), .unset]) (Ls' := #[.val (.long r1), .second, .val (.long w1), .second, .val (.long r2), .second, .val (.long w2), .second, .val (.int sel), .val (.long ra), .second, .val (.long wa), .second, .val (.long rb), .second, .val (.long wb), .second, .val (.ref a), .val (.ref b), .val (.ref ol), .val (.int (sel &&& (3 : Int32))), .val (.int (0 : Int32))]) (rest := []) w154 at_116 rfl rfl ?_
        refine gaload (pc' := 120) (Ls := #[.val (.long r1), .second, .val (.long w1), .second, .val (.long r2), .second, .val (.long w2), .second, .val (.int sel), .val (.long ra), .second, .val (.long wa), .second, .val (.long rb), .second, .val (.long wb), .second, .val (.ref a), .val (.ref b), .val (.ref ol), .val (.int (sel &&& (3 : Int32))), .val (.int (0 : Int32))]) (rest := []) w154 at_118 rfl rfl rfl ?_
        refine gaload (pc' := 122) (Ls := #[.val (.long r1), .second, .val (.long w1), .second, .val (.long r2), .second, .val (.long w2), .second, .val (.int sel), .val (.long ra), .second, .val (.long wa), .second, .val (.long rb), .second, .val (.long wb), .second, .val (.ref a), .val (.ref b), .val (.ref ol), .val (.int (sel &&& (3 : Int32))), .val (.int (0 : Int32))]) (rest := [(.ref a)]) w154 at_120 rfl rfl rfl ?_
        refine gcallV (pc' := 125) (argsL := [(.ref b)]) (rest := []) (Wt := 0) w154 at_122 (hw _ (List.mem_of_getElem? (i := 38) rfl)) (hw _ (List.mem_of_getElem? (i := 39) rfl)) (hw _ (List.mem_of_getElem? (i := 41) rfl)) (hw _ (List.mem_of_getElem? (i := 40) rfl)) (hw _ (List.mem_of_getElem? (i := 7) rfl)) (hw _ (List.mem_of_getElem? (i := 42) rfl)) E156 rfl (by decide +kernel) pd_d6 (own_eqb hw a b ra wa rb wb F157 F158 F160 F161 E159) rfl rfl rfl rfl (Nat.le_of_eq rfl) (by decide +kernel) (by decide +kernel) (by decide +kernel) (by decide +kernel) rfl (fun v189 T190 h191 w192 q193 => ?_)
        obtain ⟨rfl, eh⟩ := q193
        show Go _ _ _ _ _ _ _ _ _ (mkF m 125 #[.val (.long r1), .second, .val (.long w1), .second, .val (.long r2), .second, .val (.long w2), .second, .val (.int sel), .val (.long ra), .second, .val (.long wa), .second, .val (.long rb), .second, .val (.long wb), .second, .val (.ref a), .val (.ref b), .val (.ref ol), .val (.int (sel &&& (3 : Int32))), .val (.int (0 : Int32))] [(.int (own_eq ra wa rb wb))])
        rw [eh] at w192
        refine giload (pc' := 127) (Ls := #[.val (.long r1), .second, .val (.long w1), .second, .val (.long r2), .second, .val (.long w2), .second, .val (.int sel), .val (.long ra), .second, .val (.long wa), .second, .val (.long rb), .second, .val (.long wb), .second, .val (.ref a), .val (.ref b), .val (.ref ol), .val (.int (sel &&& (3 : Int32))), .val (.int (0 : Int32))]) (rest := [(.int (own_eq ra wa rb wb))]) w192 at_125 rfl rfl ?_
        refine gicmp (pt := 146) (pf := 130) w192 at_127  (by decide +kernel) rfl rfl (fun (c127 : ¬ (own_eq ra wa rb wb) = (0 : Int32)) => ?_) (fun (c127 : (own_eq ra wa rb wb) = (0 : Int32)) => ?_)
        · refine giconst (v := (0 : Int32)) (pc' := 147) w192 at_146 rfl rfl ?_
          exact absurd (by unfold own_eq; rw [if_pos c99, if_neg c107]) c127
        · refine gaload (pc' := 132) (Ls := #[.val (.long r1), .second, .val (.long w1), .second, .val (.long r2), .second, .val (.long w2), .second, .val (.int sel), .val (.long ra), .second, .val (.long wa), .second, .val (.long rb), .second, .val (.long wb), .second, .val (.ref a), .val (.ref b), .val (.ref ol), .val (.int (sel &&& (3 : Int32))), .val (.int (0 : Int32))]) (rest := []) w192 at_130 rfl rfl rfl ?_
          refine gaload (pc' := 134) (Ls := #[.val (.long r1), .second, .val (.long w1), .second, .val (.long r2), .second, .val (.long w2), .second, .val (.int sel), .val (.long ra), .second, .val (.long wa), .second, .val (.long rb), .second, .val (.long wb), .second, .val (.ref a), .val (.ref b), .val (.ref ol), .val (.int (sel &&& (3 : Int32))), .val (.int (0 : Int32))]) (rest := [(.ref b)]) w192 at_132 rfl rfl rfl ?_
          refine gcallV (pc' := 137) (argsL := [(.ref a)]) (rest := []) (Wt := 0) w192 at_134 (hw _ (List.mem_of_getElem? (i := 38) rfl)) (hw _ (List.mem_of_getElem? (i := 39) rfl)) (hw _ (List.mem_of_getElem? (i := 41) rfl)) (hw _ (List.mem_of_getElem? (i := 40) rfl)) (hw _ (List.mem_of_getElem? (i := 7) rfl)) (hw _ (List.mem_of_getElem? (i := 42) rfl)) E159 rfl (by decide +kernel) pd_d6 (own_eqb hw b a rb wb ra wa F160 F161 F157 F158 E156) rfl rfl rfl rfl (Nat.le_of_eq rfl) (by decide +kernel) (by decide +kernel) (by decide +kernel) (by decide +kernel) rfl (fun v194 T195 h196 w197 q198 => ?_)
          obtain ⟨rfl, eh⟩ := q198
          show Go _ _ _ _ _ _ _ _ _ (mkF m 137 #[.val (.long r1), .second, .val (.long w1), .second, .val (.long r2), .second, .val (.long w2), .second, .val (.int sel), .val (.long ra), .second, .val (.long wa), .second, .val (.long rb), .second, .val (.long wb), .second, .val (.ref a), .val (.ref b), .val (.ref ol), .val (.int (sel &&& (3 : Int32))), .val (.int (0 : Int32))] [(.int (own_eq rb wb ra wa))])
          rw [eh] at w197
          refine giload (pc' := 139) (Ls := #[.val (.long r1), .second, .val (.long w1), .second, .val (.long r2), .second, .val (.long w2), .second, .val (.int sel), .val (.long ra), .second, .val (.long wa), .second, .val (.long rb), .second, .val (.long wb), .second, .val (.ref a), .val (.ref b), .val (.ref ol), .val (.int (sel &&& (3 : Int32))), .val (.int (0 : Int32))]) (rest := [(.int (own_eq rb wb ra wa))]) w197 at_137 rfl rfl ?_
          refine gicmp (pt := 146) (pf := 142) w197 at_139  (by decide +kernel) rfl rfl (fun (c139 : ¬ (own_eq rb wb ra wa) = (0 : Int32)) => ?_) (fun (c139 : (own_eq rb wb ra wa) = (0 : Int32)) => ?_)
          · refine giconst (v := (0 : Int32)) (pc' := 147) w197 at_146 rfl rfl ?_
            exact absurd (by unfold own_eq; rw [if_pos c99.symm, if_neg (Ne.symm c107)]) c139
          · refine giconst (v := (1 : Int32)) (pc' := 143) w197 at_142 rfl rfl ?_
            refine ggoto (pc' := 147) w197 at_143 (by decide +kernel) rfl ?_
            exact gretZ w197 at_147 rfl (by decide +kernel) (by decide +kernel) rfl
      · refine giconst (v := (1 : Int32)) (pc' := 112) w154 at_111 rfl rfl ?_
        refine ggoto (pc' := 116) w154 at_112 (by decide +kernel) rfl ?_
        refine gistore (pc' := 118) (Ls := #[.val (.long r1), .second, .val (.long w1), .second, .val (.long r2), .second, .val (.long w2), .second, .val (.int sel), .val (.long ra), .second, .val (.long wa), .second, .val (.long rb), .second, .val (.long wb), .second, .val (.ref a), .val (.ref b), .val (.ref ol), .val (.int (sel &&& (3 : Int32))), .unset]) (Ls' := #[.val (.long r1), .second, .val (.long w1), .second, .val (.long r2), .second, .val (.long w2), .second, .val (.int sel), .val (.long ra), .second, .val (.long wa), .second, .val (.long rb), .second, .val (.long wb), .second, .val (.ref a), .val (.ref b), .val (.ref ol), .val (.int (sel &&& (3 : Int32))), .val (.int (1 : Int32))]) (rest := []) w154 at_116 rfl rfl ?_
        refine gaload (pc' := 120) (Ls := #[.val (.long r1), .second, .val (.long w1), .second, .val (.long r2), .second, .val (.long w2), .second, .val (.int sel), .val (.long ra), .second, .val (.long wa), .second, .val (.long rb), .second, .val (.long wb), .second, .val (.ref a), .val (.ref b), .val (.ref ol), .val (.int (sel &&& (3 : Int32))), .val (.int (1 : Int32))]) (rest := []) w154 at_118 rfl rfl rfl ?_
        refine gaload (pc' := 122) (Ls := #[.val (.long r1), .second, .val (.long w1), .second, .val (.long r2), .second, .val (.long w2), .second, .val (.int sel), .val (.long ra), .second, .val (.long wa), .second, .val (.long rb), .second, .val (.long wb), .second, .val (.ref a), .val (.ref b), .val (.ref ol), .val (.int (sel &&& (3 : Int32))), .val (.int (1 : Int32))]) (rest := [(.ref a)]) w154 at_120 rfl rfl rfl ?_
        refine gcallV (pc' := 125) (argsL := [(.ref b)]) (rest := []) (Wt := 0) w154 at_122 (hw _ (List.mem_of_getElem? (i := 38) rfl)) (hw _ (List.mem_of_getElem? (i := 39) rfl)) (hw _ (List.mem_of_getElem? (i := 41) rfl)) (hw _ (List.mem_of_getElem? (i := 40) rfl)) (hw _ (List.mem_of_getElem? (i := 7) rfl)) (hw _ (List.mem_of_getElem? (i := 42) rfl)) E156 rfl (by decide +kernel) pd_d6 (own_eqb hw a b ra wa rb wb F157 F158 F160 F161 E159) rfl rfl rfl rfl (Nat.le_of_eq rfl) (by decide +kernel) (by decide +kernel) (by decide +kernel) (by decide +kernel) rfl (fun v199 T200 h201 w202 q203 => ?_)
        obtain ⟨rfl, eh⟩ := q203
        show Go _ _ _ _ _ _ _ _ _ (mkF m 125 #[.val (.long r1), .second, .val (.long w1), .second, .val (.long r2), .second, .val (.long w2), .second, .val (.int sel), .val (.long ra), .second, .val (.long wa), .second, .val (.long rb), .second, .val (.long wb), .second, .val (.ref a), .val (.ref b), .val (.ref ol), .val (.int (sel &&& (3 : Int32))), .val (.int (1 : Int32))] [(.int (own_eq ra wa rb wb))])
        rw [eh] at w202
        refine giload (pc' := 127) (Ls := #[.val (.long r1), .second, .val (.long w1), .second, .val (.long r2), .second, .val (.long w2), .second, .val (.int sel), .val (.long ra), .second, .val (.long wa), .second, .val (.long rb), .second, .val (.long wb), .second, .val (.ref a), .val (.ref b), .val (.ref ol), .val (.int (sel &&& (3 : Int32))), .val (.int (1 : Int32))]) (rest := [(.int (own_eq ra wa rb wb))]) w202 at_125 rfl rfl ?_
        refine gicmp (pt := 146) (pf := 130) w202 at_127  (by decide +kernel) rfl rfl (fun (c127 : ¬ (own_eq ra wa rb wb) = (1 : Int32)) => ?_) (fun (c127 : (own_eq ra wa rb wb) = (1 : Int32)) => ?_)
        · refine giconst (v := (0 : Int32)) (pc' := 147) w202 at_146 rfl rfl ?_
          exact absurd (by unfold own_eq; rw [if_pos c99, if_pos c107]) c127
        · refine gaload (pc' := 132) (Ls := #[.val (.long r1), .second, .val (.long w1), .second, .val (.long r2), .second, .val (.long w2), .second, .val (.int sel), .val (.long ra), .second, .val (.long wa), .second, .val (.long rb), .second, .val (.long wb), .second, .val (.ref a), .val (.ref b), .val (.ref ol), .val (.int (sel &&& (3 : Int32))), .val (.int (1 : Int32))]) (rest := []) w202 at_130 rfl rfl rfl ?_
          refine gaload (pc' := 134) (Ls := #[.val (.long r1), .second, .val (.long w1), .second, .val (.long r2), .second, .val (.long w2), .second, .val (.int sel), .val (.long ra), .second, .val (.long wa), .second, .val (.long rb), .second, .val (.long wb), .second, .val (.ref a), .val (.ref b), .val (.ref ol), .val (.int (sel &&& (3 : Int32))), .val (.int (1 : Int32))]) (rest := [(.ref b)]) w202 at_132 rfl rfl rfl ?_
          refine gcallV (pc' := 137) (argsL := [(.ref a)]) (rest := []) (Wt := 0) w202 at_134 (hw _ (List.mem_of_getElem? (i := 38) rfl)) (hw _ (List.mem_of_getElem? (i := 39) rfl)) (hw _ (List.mem_of_getElem? (i := 41) rfl)) (hw _ (List.mem_of_getElem? (i := 40) rfl)) (hw _ (List.mem_of_getElem? (i := 7) rfl)) (hw _ (List.mem_of_getElem? (i := 42) rfl)) E159 rfl (by decide +kernel) pd_d6 (own_eqb hw b a rb wb ra wa F160 F161 F157 F158 E156) rfl rfl rfl rfl (Nat.le_of_eq rfl) (by decide +kernel) (by decide +kernel) (by decide +kernel) (by decide +kernel) rfl (fun v204 T205 h206 w207 q208 => ?_)
          obtain ⟨rfl, eh⟩ := q208
          show Go _ _ _ _ _ _ _ _ _ (mkF m 137 #[.val (.long r1), .second, .val (.long w1), .second, .val (.long r2), .second, .val (.long w2), .second, .val (.int sel), .val (.long ra), .second, .val (.long wa), .second, .val (.long rb), .second, .val (.long wb), .second, .val (.ref a), .val (.ref b), .val (.ref ol), .val (.int (sel &&& (3 : Int32))), .val (.int (1 : Int32))] [(.int (own_eq rb wb ra wa))])
          rw [eh] at w207
          refine giload (pc' := 139) (Ls := #[.val (.long r1), .second, .val (.long w1), .second, .val (.long r2), .second, .val (.long w2), .second, .val (.int sel), .val (.long ra), .second, .val (.long wa), .second, .val (.long rb), .second, .val (.long wb), .second, .val (.ref a), .val (.ref b), .val (.ref ol), .val (.int (sel &&& (3 : Int32))), .val (.int (1 : Int32))]) (rest := [(.int (own_eq rb wb ra wa))]) w207 at_137 rfl rfl ?_
          refine gicmp (pt := 146) (pf := 142) w207 at_139  (by decide +kernel) rfl rfl (fun (c139 : ¬ (own_eq rb wb ra wa) = (1 : Int32)) => ?_) (fun (c139 : (own_eq rb wb ra wa) = (1 : Int32)) => ?_)
          · refine giconst (v := (0 : Int32)) (pc' := 147) w207 at_146 rfl rfl ?_
            exact absurd (by unfold own_eq; rw [if_pos c99.symm, if_pos c107.symm]) c139
          · refine giconst (v := (1 : Int32)) (pc' := 143) w207 at_142 rfl rfl ?_
            refine ggoto (pc' := 147) w207 at_143 (by decide +kernel) rfl ?_
            exact gretZ w207 at_147 rfl (by decide +kernel) (by decide +kernel) rfl
set_option maxRecDepth 65536 in
set_option maxHeartbeats 4000000 in
theorem own_b29 (hw : ∀ d ∈ tables_1, d.before a0 Z = true) (w : W Z "com/example/vellum_keys/vellumkeys/model/ProvisionedThroughputEqualsPinLaw" "law" code maxLocals ret n0 p l e room_1 s m args below meth c 0 0 T h) (r1 w1 r2 w2 : Int64) (sel : Int32) (ra wa rb : Int64) (h1 : ¬ ra < (1 : Int64)) (h2 : ¬ wa < (1 : Int64)) (h3 : ¬ rb < (1 : Int64)) (z0 : n0 ≤ h.size) (LC : own_LC Z h) :
    Go n0 p e below s (fun v _ => v = some (.int 1)) room_1.cells room_1.slots T (mkF m 29 #[.val (.long r1), .second, .val (.long w1), .second, .val (.long r2), .second, .val (.long w2), .second, .val (.int sel), .val (.long ra), .second, .val (.long wa), .second, .unset, .unset, .unset, .unset, .unset, .unset, .unset, .unset, .unset] [(.long rb)]) := by
  refine glstore (pc' := 31) (Ls := #[.val (.long r1), .second, .val (.long w1), .second, .val (.long r2), .second, .val (.long w2), .second, .val (.int sel), .val (.long ra), .second, .val (.long wa), .second, .unset, .unset, .unset, .unset, .unset, .unset, .unset, .unset, .unset]) (Ls' := #[.val (.long r1), .second, .val (.long w1), .second, .val (.long r2), .second, .val (.long w2), .second, .val (.int sel), .val (.long ra), .second, .val (.long wa), .second, .val (.long rb), .second, .unset, .unset, .unset, .unset, .unset, .unset, .unset]) (rest := []) w at_29 rfl rfl ?_
  refine giload (pc' := 33) (Ls := #[.val (.long r1), .second, .val (.long w1), .second, .val (.long r2), .second, .val (.long w2), .second, .val (.int sel), .val (.long ra), .second, .val (.long wa), .second, .val (.long rb), .second, .unset, .unset, .unset, .unset, .unset, .unset, .unset]) (rest := []) w at_31 rfl rfl ?_
  refine gbipush (v := (8 : Int32)) (pc' := 35) w at_33 rfl rfl ?_
  refine giand (pc' := 36) w at_35 rfl ?_
  refine gif (pt := 44) (pf := 39) w at_36  (by decide +kernel) rfl rfl (fun (c36 : (sel &&& (8 : Int32)) = (0 : Int32)) => ?_) (fun (c36 : ¬ (sel &&& (8 : Int32)) = (0 : Int32)) => ?_)
  · refine glload (pc' := 46) (Ls := #[.val (.long r1), .second, .val (.long w1), .second, .val (.long r2), .second, .val (.long w2), .second, .val (.int sel), .val (.long ra), .second, .val (.long wa), .second, .val (.long rb), .second, .unset, .unset, .unset, .unset, .unset, .unset, .unset]) (rest := []) w at_44 rfl rfl ?_
    refine gcallS (pc' := 49) (argsL := [(.long w2)]) (rest := []) (Wt := 0) w at_46 (hw _ (List.mem_of_getElem? (i := 0) rfl)) (hw _ (List.mem_of_getElem? (i := 1) rfl)) (hw _ (List.mem_of_getElem? (i := 2) rfl)) (hw _ (List.mem_of_getElem? (i := 3) rfl)) (by decide +kernel) pd_d1 (own_un hw w2) rfl rfl rfl rfl (Nat.le_of_eq rfl) (by decide +kernel) (by decide +kernel) (by decide +kernel) (by decide +kernel) rfl (fun v209 T210 h211 w212 q213 => ?_)
    obtain ⟨rfl, eh⟩ := q213
    show Go _ _ _ _ _ _ _ _ _ (mkF m 49 #[.val (.long r1), .second, .val (.long w1), .second, .val (.long r2), .second, .val (.long w2), .second, .val (.int sel), .val (.long ra), .second, .val (.long wa), .second, .val (.long rb), .second, .unset, .unset, .unset, .unset, .unset, .unset, .unset] [(.long (own_units w2))])
    rw [eh] at w212
    exact own_b49 hw w212 r1 w1 r2 w2 sel ra wa rb (own_units w2) h1 h2 h3 (own_pos _) z0 LC
  · refine glload (pc' := 41) (Ls := #[.val (.long r1), .second, .val (.long w1), .second, .val (.long r2), .second, .val (.long w2), .second, .val (.int sel), .val (.long ra), .second, .val (.long wa), .second, .val (.long rb), .second, .unset, .unset, .unset, .unset, .unset, .unset, .unset]) (rest := []) w at_39 rfl rfl ?_
    refine ggoto (pc' := 49) w at_41 (by decide +kernel) rfl ?_
    exact own_b49 hw w r1 w1 r2 w2 sel ra wa rb wa h1 h2 h3 h2 z0 LC
set_option maxRecDepth 65536 in
set_option maxHeartbeats 4000000 in
theorem own_law (hw : ∀ d ∈ tables_1, d.before a0 Z = true) (r1 w1 r2 w2 : Int64) (sel : Int32) (z0 : n0 ≤ h.size) (LC : own_LC Z h) :
    Ctr l x code maxLocals ret room_1 Z #[(.long r1), (.long w1), (.long r2), (.long w2), (.int sel)] h n0 (fun v _ => v = some (.int 1)) tables_1 := by
  refine metGo (Ls := #[.val (.long r1), .second, .val (.long w1), .second, .val (.long r2), .second, .val (.long w2), .second, .val (.int sel), .unset, .unset, .unset, .unset, .unset, .unset, .unset, .unset, .unset, .unset, .unset, .unset, .unset]) pn_at (fun m => by first | (simp [entryFrame, mkF, argsToLocals, Value.category, maxLocals]; done) | (simp [entryFrame, mkF, argsToLocals, Value.category]; done) | rfl) ?_
  intro p e s m below meth c T w
  refine glloadN (pc' := 1) (Ls := #[.val (.long r1), .second, .val (.long w1), .second, .val (.long r2), .second, .val (.long w2), .second, .val (.int sel), .unset, .unset, .unset, .unset, .unset, .unset, .unset, .unset, .unset, .unset, .unset, .unset, .unset]) (rest := []) w at_0 rfl rfl ?_
  refine gcallS (pc' := 4) (argsL := [(.long r1)]) (rest := []) (Wt := 0) w at_1 (hw _ (List.mem_of_getElem? (i := 0) rfl)) (hw _ (List.mem_of_getElem? (i := 1) rfl)) (hw _ (List.mem_of_getElem? (i := 2) rfl)) (hw _ (List.mem_of_getElem? (i := 3) rfl)) (by decide +kernel) pd_d1 (own_un hw r1) rfl rfl rfl rfl (Nat.le_of_eq rfl) (by decide +kernel) (by decide +kernel) (by decide +kernel) (by decide +kernel) rfl (fun v214 T215 h216 w217 q218 => ?_)
  obtain ⟨rfl, eh⟩ := q218
  show Go _ _ _ _ _ _ _ _ _ (mkF m 4 #[.val (.long r1), .second, .val (.long w1), .second, .val (.long r2), .second, .val (.long w2), .second, .val (.int sel), .unset, .unset, .unset, .unset, .unset, .unset, .unset, .unset, .unset, .unset, .unset, .unset, .unset] [(.long (own_units r1))])
  rw [eh] at w217
  refine glstore (pc' := 6) (Ls := #[.val (.long r1), .second, .val (.long w1), .second, .val (.long r2), .second, .val (.long w2), .second, .val (.int sel), .unset, .unset, .unset, .unset, .unset, .unset, .unset, .unset, .unset, .unset, .unset, .unset, .unset]) (Ls' := #[.val (.long r1), .second, .val (.long w1), .second, .val (.long r2), .second, .val (.long w2), .second, .val (.int sel), .val (.long (own_units r1)), .second, .unset, .unset, .unset, .unset, .unset, .unset, .unset, .unset, .unset, .unset, .unset]) (rest := []) w217 at_4 rfl rfl ?_
  refine glloadN (pc' := 7) (Ls := #[.val (.long r1), .second, .val (.long w1), .second, .val (.long r2), .second, .val (.long w2), .second, .val (.int sel), .val (.long (own_units r1)), .second, .unset, .unset, .unset, .unset, .unset, .unset, .unset, .unset, .unset, .unset, .unset]) (rest := []) w217 at_6 rfl rfl ?_
  refine gcallS (pc' := 10) (argsL := [(.long w1)]) (rest := []) (Wt := 0) w217 at_7 (hw _ (List.mem_of_getElem? (i := 0) rfl)) (hw _ (List.mem_of_getElem? (i := 1) rfl)) (hw _ (List.mem_of_getElem? (i := 2) rfl)) (hw _ (List.mem_of_getElem? (i := 3) rfl)) (by decide +kernel) pd_d1 (own_un hw w1) rfl rfl rfl rfl (Nat.le_of_eq rfl) (by decide +kernel) (by decide +kernel) (by decide +kernel) (by decide +kernel) rfl (fun v219 T220 h221 w222 q223 => ?_)
  obtain ⟨rfl, eh⟩ := q223
  show Go _ _ _ _ _ _ _ _ _ (mkF m 10 #[.val (.long r1), .second, .val (.long w1), .second, .val (.long r2), .second, .val (.long w2), .second, .val (.int sel), .val (.long (own_units r1)), .second, .unset, .unset, .unset, .unset, .unset, .unset, .unset, .unset, .unset, .unset, .unset] [(.long (own_units w1))])
  rw [eh] at w222
  refine glstore (pc' := 12) (Ls := #[.val (.long r1), .second, .val (.long w1), .second, .val (.long r2), .second, .val (.long w2), .second, .val (.int sel), .val (.long (own_units r1)), .second, .unset, .unset, .unset, .unset, .unset, .unset, .unset, .unset, .unset, .unset, .unset]) (Ls' := #[.val (.long r1), .second, .val (.long w1), .second, .val (.long r2), .second, .val (.long w2), .second, .val (.int sel), .val (.long (own_units r1)), .second, .val (.long (own_units w1)), .second, .unset, .unset, .unset, .unset, .unset, .unset, .unset, .unset, .unset]) (rest := []) w222 at_10 rfl rfl ?_
  refine giload (pc' := 14) (Ls := #[.val (.long r1), .second, .val (.long w1), .second, .val (.long r2), .second, .val (.long w2), .second, .val (.int sel), .val (.long (own_units r1)), .second, .val (.long (own_units w1)), .second, .unset, .unset, .unset, .unset, .unset, .unset, .unset, .unset, .unset]) (rest := []) w222 at_12 rfl rfl ?_
  refine giconst (v := (4 : Int32)) (pc' := 15) w222 at_14 rfl rfl ?_
  refine giand (pc' := 16) w222 at_15 rfl ?_
  refine gif (pt := 24) (pf := 19) w222 at_16  (by decide +kernel) rfl rfl (fun (c16 : (sel &&& (4 : Int32)) = (0 : Int32)) => ?_) (fun (c16 : ¬ (sel &&& (4 : Int32)) = (0 : Int32)) => ?_)
  · refine glload (pc' := 26) (Ls := #[.val (.long r1), .second, .val (.long w1), .second, .val (.long r2), .second, .val (.long w2), .second, .val (.int sel), .val (.long (own_units r1)), .second, .val (.long (own_units w1)), .second, .unset, .unset, .unset, .unset, .unset, .unset, .unset, .unset, .unset]) (rest := []) w222 at_24 rfl rfl ?_
    refine gcallS (pc' := 29) (argsL := [(.long r2)]) (rest := []) (Wt := 0) w222 at_26 (hw _ (List.mem_of_getElem? (i := 0) rfl)) (hw _ (List.mem_of_getElem? (i := 1) rfl)) (hw _ (List.mem_of_getElem? (i := 2) rfl)) (hw _ (List.mem_of_getElem? (i := 3) rfl)) (by decide +kernel) pd_d1 (own_un hw r2) rfl rfl rfl rfl (Nat.le_of_eq rfl) (by decide +kernel) (by decide +kernel) (by decide +kernel) (by decide +kernel) rfl (fun v224 T225 h226 w227 q228 => ?_)
    obtain ⟨rfl, eh⟩ := q228
    show Go _ _ _ _ _ _ _ _ _ (mkF m 29 #[.val (.long r1), .second, .val (.long w1), .second, .val (.long r2), .second, .val (.long w2), .second, .val (.int sel), .val (.long (own_units r1)), .second, .val (.long (own_units w1)), .second, .unset, .unset, .unset, .unset, .unset, .unset, .unset, .unset, .unset] [(.long (own_units r2))])
    rw [eh] at w227
    exact own_b29 hw w227 r1 w1 r2 w2 sel _ _ _ (own_pos _) (own_pos _) (own_pos _) z0 LC
  · refine glload (pc' := 21) (Ls := #[.val (.long r1), .second, .val (.long w1), .second, .val (.long r2), .second, .val (.long w2), .second, .val (.int sel), .val (.long (own_units r1)), .second, .val (.long (own_units w1)), .second, .unset, .unset, .unset, .unset, .unset, .unset, .unset, .unset, .unset]) (rest := []) w222 at_19 rfl rfl ?_
    refine ggoto (pc' := 29) w222 at_21 (by decide +kernel) rfl ?_
    exact own_b29 hw w222 r1 w1 r2 w2 sel _ _ _ (own_pos _) (own_pos _) (own_pos _) z0 LC
theorem own_eqI {args : Array Value} {s : State} {a : Term} {v : Value} {k : Int32} (hv : a.eval args s none [] s = some v) (q : (Jvm.Cond.eq a (Jvm.Term.int k)).value args s none s [] = some true) : v = .int k := by
  have hb : (Jvm.Term.int k).eval args s none [] s = some (.int k) := rfl
  cases v <;> simp [Cond.value, hv, hb] at q
  rw [q]
theorem own_len256 {args : Array Value} {s : State} {t : Term} {aV : Addr} {cl : Cell} {ty : FieldType} (ht : t.eval args s none [] s = some (.ref aV)) (A : Arr s s.heap aV cl ty) (q : (Jvm.Cond.eq (Jvm.Term.length t) (Jvm.Term.int (256 : Int32))).value args s none s [] = some true) : cl.slots.size = 256 := by
  obtain ⟨v, _, e1, -, -⟩ := cmp_v (Or.inl q)
  have e2 := own_eqI e1 q
  have ha : s.arrayAt? aV = some cl := Arr.fin (Vm.Alike.refl _) A
  by_cases hl : cl.slots.size < 2 ^ 31
  · rw [len_f ht ha hl, e2] at e1
    have e3 := congrArg Int32.toInt (Value.int.inj (Option.some.inj e1))
    rw [len_toInt hl] at e3
    have k : (256 : Int32).toInt = 256 := rfl
    omega
  · simp [Term.eval, ht, ha, hl] at e1
theorem own_LC_start {args : Array Value} {s : State} (hfit : Fit s) (c1 : (Jvm.Cond.initializedFor "java/lang/Long$LongCache" "cache" "[Ljava/lang/Long;").before args s = true) (c2 : (Jvm.Cond.arrayOf (Jvm.Term.static "java/lang/Long$LongCache" "cache" "[Ljava/lang/Long;") (Jvm.ClassFile.FieldType.object "java/lang/Long")).before args s = true) (c3 : (Jvm.Cond.eq (Jvm.Term.length (Jvm.Term.static "java/lang/Long$LongCache" "cache" "[Ljava/lang/Long;")) (Jvm.Term.int (256 : Int32))).before args s = true)
    {G : Jvm.Cond} (c4 : (Jvm.Cond.all (Jvm.Term.static "java/lang/Long$LongCache" "cache" "[Ljava/lang/Long;") (Jvm.Cond.and (Jvm.Cond.exactly (Jvm.Term.elem (Jvm.Term.static "java/lang/Long$LongCache" "cache" "[Ljava/lang/Long;") (Jvm.Term.index (0 : Nat))) "java/lang/Long") G)).before args s = true) : own_LC s s.heap := by
  obtain ⟨aC, eC⟩ := arr_v (Cond.before_iff.mp c2)
  obtain ⟨cl, A⟩ := Arr.start eC (Cond.before_iff.mp c2)
  have hsz : cl.slots.size = 256 := own_len256 eC A (Cond.before_iff.mp c3)
  have ha : s.arrayAt? aC = some cl := Arr.fin (Vm.Alike.refl _) A
  refine ⟨aC, cl, Sta.start eC (Or.inl c1), A, hsz, fun j hj => ?_⟩
  have q := Cond.all_elim eC ha (Cond.before_iff.mp c4) j (by rw [hsz]; exact hj)
  obtain ⟨q1, -⟩ := and_e q
  obtain ⟨x, ex⟩ := exa_v q1
  have E := exa_at ex q1
  have eC' : (Jvm.Term.static "java/lang/Long$LongCache" "cache" "[Ljava/lang/Long;").eval args s none [j] s = some (.ref aC) := eC
  have hj' : (Jvm.Term.index (0 : Nat)).eval args s none [j] s = some (.int j.toInt32) := Term.index_eval _
  obtain ⟨-, r⟩ := elem_in ex eC' hj' A.1
  have e : j.toInt32.toNatClampNeg = j := by
    have n : ¬ j.toInt32 < 0 := by
      rw [Int32.lt_iff_toInt_lt, len_toInt (by omega)]
      have k : (0 : Int32).toInt = 0 := rfl
      omega
    have n2 := nat_of n
    rw [len_toInt (by omega)] at n2
    omega
  rw [e] at r
  exact ⟨x, r, E⟩
theorem comes_1 {Post : Tables → Env → Array Value → State → Outcome → State → Prop} (hpost : ∀ tb e args s v u, (limb_1_1.after args s (.returned v) u = true ∧ limb_1_2.after args s (.returned v) u = true ∧ True) → ReturnedEndW s (.returned v) u (Jvm.fieldLocs frame_1_writes args s ++ Jvm.arrayLocs frame_1_arrays args s ++ Jvm.staticLocs frame_1_statics s) 24 2176 → Post tb e args s (.returned v) u) :
    ArmFor flags0 classFile x code maxLocals ret World_1 tables_1 room_1 Calls_1 rest_1 Pre_1 Post := by
  intro l hfl _ _ p e ha hc hk s m args below hf hA hF happ hP
  obtain ⟨hcalls, hrest, hpre⟩ := hP
  obtain ⟨-, -, -, hnamed, -, -, -, hat⟩ := (Spec.applies_iff hf).mp happ
  obtain ⟨hg, hn⟩ := and_e (Cond.before_iff.mp (show (Jvm.Cond.and given_1 narrow_1).before args s = true from hpre))
  obtain ⟨hcount, g0⟩ := and_e hg
  obtain ⟨a0, g1⟩ := and_e g0
  obtain ⟨a1, g2⟩ := and_e g1
  obtain ⟨a2, g3⟩ := and_e g2
  obtain ⟨a3, g4⟩ := and_e g3
  obtain ⟨w0, w1, w2, w3, w4, rfl⟩ : ∃ w0 w1 w2 w3 w4 : Value, args = #[w0, w1, w2, w3, w4] := by
    have hs : args.size = 5 := by simpa [Cond.value, given_1] using hcount
    obtain ⟨L⟩ := args
    match L, hs with
    | [w0, w1, w2, w3, w4], _ => exact ⟨w0, w1, w2, w3, w4, rfl⟩
  have hw := fun d (hd : d ∈ tables_1) => atoms_spec (ws := Jvm.Cond.code x code maxLocals ret :: tables_1) hat d (List.mem_cons_of_mem _ hd)
  obtain ⟨hsets, hown0⟩ := atoms_of _ (rest_1_c_eq ▸ (show rest_1_c.before _ s = true from hrest))
  have hfit : Fit s := fun {y c} hc i hi => by
    obtain ⟨ha, rfl⟩ := Array.getElem?_eq_some_iff.mp hc
    have q := List.all_eq_true.mp ((Array.all_eq_true_iff_forall_mem.mp hF) _ (Array.getElem_mem ha)) i (List.mem_range.mpr hi)
    simpa [Array.getElem?_eq_getElem hi] using q
  obtain ⟨i0, e0⟩ := isL_v a0
  obtain rfl : w0 = (.long i0) := Option.some.inj e0
  obtain ⟨i1, e1⟩ := isL_v a1
  obtain rfl : w1 = (.long i1) := Option.some.inj e1
  obtain ⟨i2, e2⟩ := isL_v a2
  obtain rfl : w2 = (.long i2) := Option.some.inj e2
  obtain ⟨i3, e3⟩ := isL_v a3
  obtain rfl : w3 = (.long i3) := Option.some.inj e3
  obtain ⟨i4, e4⟩ := is_v g4
  obtain rfl : w4 = (.int i4) := Option.some.inj e4
  have LC := own_LC_start hfit (hsets _ (List.mem_of_getElem? (i := 1) rfl)) (hsets _ (List.mem_of_getElem? (i := 2) rfl)) (hsets _ (List.mem_of_getElem? (i := 4) rfl)) (hsets _ (List.mem_of_getElem? (i := 5) rfl))
  obtain ⟨n, o, h1, h2, h3, _, L, rfl, ⟨N, rfl⟩, hq⟩ := (own_law (h := s.heap) (n0 := s.heap.size) hw i0 i1 i2 i3 i4 (Nat.le_refl _) LC) p e ha hc hk s m _ below hf ((Spec.applies_iff_loose hf).mp happ).1 ⟨rfl, State.Warmed39.refl s, rfl⟩ trivial
  refine ⟨n, _, h1, h2, h3, hpost _ _ _ _ _ _ ⟨Cond.after_iff.mpr rfl, Cond.after_iff.mpr (eq_i res_at (Term.int_eval (1)) rfl), trivial⟩ ⟨hq.1, hq.2.1, hq.2.2.1, (hq.2.2.2.sift fun y hy => Or.inr (N y hy)).mono (by decide +kernel) (by decide +kernel)⟩⟩
theorem main_1_1 : Claimed_1_1 := comes_1 fun _ _ _ _ _ _ h hF => ⟨h.1, hF⟩
theorem main_1_2 : Claimed_1_2 := comes_1 fun _ _ _ _ _ _ h hF => ⟨h.2.1, hF⟩
end Jvm.Pilot.@@N@@
namespace Jvm.Pilot.@@N@@
open Jvm Jvm.ClassFile Sem Op Lib Jvm.Free Jvm.Stand Jvm.Pilot.@@N@@.Jvm.D
/-! MADE BY PROGRAM (witnessworld.py) out of the Statement's table words and the real class files: 18 classes; the members and pool entries that the words name. The judged class is class 1, her method 2. -/
namespace start1
open Jvm.ClassFile
def u (s : String) : CpInfo := .utf8 (stringToUtf16 s)
/-- a pool by its gaps: so many unusable entries, then the entry; so many at the end -/
def gap : Nat → List CpInfo → List CpInfo
  | 0, r => r
  | n + 1, r => .unusable :: gap n r
def poolList (es : List (Nat × CpInfo)) (last : Nat) : List CpInfo := es.foldr (fun e r => gap e.1 (e.2 :: r)) (gap last [])
def pool (es : List (Nat × CpInfo)) (last : Nat) : Array CpInfo := ⟨poolList es last⟩
def fileOf (pool : Array CpInfo) (this : Nat) (attrs : Array Attribute := #[]) (ms : Array MethodInfo := #[]) (fl : Nat := 33) (sup : Nat := 0) (ifs : Array Nat := #[]) (fds : Array FieldInfo := #[]) : ClassFile where
  minorVersion := 0
  majorVersion := 65
  constantPool := pool
  accessFlags := fl
  thisClass := this
  superClass := sup
  interfaces := ifs
  fields := fds
  methods := ms
  attributes := attrs
def plain (name : String) (sup : Option ClassId) : Class where
  name := name
  kind := .ordinary
  loader := none
  accessFlags := 33
  super := sup
  interfaces := #[]
  cf := none
  fields := #[]
  methods := #[]
  instanceTypes := #[]
  staticTypes := #[]
  resolved := #[]
  callSites := []
  init := .initialized
  statics := none
  mirror := none

def pool0 : Array CpInfo := pool [(5, u "<init>"), (0, u "()V"), (1, .class_ 10), (1, u "java/lang/Object")] 113

def k0c0 : Code := { maxStack := 0, maxLocals := 1, code := object_method_1_code, exceptionTable := #[], attributes := #[] }
def k0m0 : Method := { name := "<init>", desc := "()V", sig := { parameters := [], returnType := none }, accessFlags := 1, code := some k0c0 }
/-- java/lang/Object -/
def k0 : Class := { plain "java/lang/Object" none with
  accessFlags := 33
  interfaces := #[]
  cf := some (fileOf pool0 8 #[] #[{ accessFlags := 1, nameIndex := 5, descriptorIndex := 6, attributes := #[] }] 33 0 #[] #[])
  fields := #[]
  methods := #[k0m0]
  instanceTypes := #[]
  staticTypes := #[]
  resolved := Array.replicate 124 none
  statics := none }

def pool1 : Array CpInfo := pool [(2, .class_ 4), (1, u "java/lang/Object"), (0, u "<init>"), (0, u "()V"), (0, .class_ 8), (0, u "java/lang/Long"), (0, .long 9223372036854775807), (1, .methodref 12 13), (0, .class_ 14), (0, .nameAndType 15 16), (0, u "com/example/vellum_keys/vellumkeys/model/ProvisionedThroughputEqualsPinLaw"), (0, u "units"), (0, u "(J)J"), (0, .class_ 18), (0, u "com/example/vellum_keys/vellumkeys/model/ProvisionedThroughput"), (0, .methodref 17 20), (0, .nameAndType 5 21), (0, u "(JJ)V"), (0, .methodref 7 23), (0, .nameAndType 24 25), (0, u "valueOf"), (0, u "(J)Ljava/lang/Long;"), (0, .methodref 17 27), (0, .nameAndType 28 29), (0, u "equals"), (0, u "(Ljava/lang/Object;)Z"), (3, u "law"), (0, u "(JJJJI)Z")] 2

def k1m0 : Method := { name := "<init>", desc := "()V", sig := { parameters := [], returnType := none }, accessFlags := 1, code := none }
def k1c1 : Code := { maxStack := 4, maxLocals := 4, code := method_2_code, exceptionTable := #[], attributes := #[] }
def k1m1 : Method := { name := "units", desc := "(J)J", sig := { parameters := [.long], returnType := some .long }, accessFlags := 10, code := some k1c1 }
def k1c2 : Code := { maxStack := 6, maxLocals := 22, code := code, exceptionTable := #[], attributes := #[] }
def k1m2 : Method := { name := "law", desc := "(JJJJI)Z", sig := { parameters := [.long, .long, .long, .long, .int], returnType := some .boolean }, accessFlags := 9, code := some k1c2 }
/-- com/example/vellum_keys/vellumkeys/model/ProvisionedThroughputEqualsPinLaw -/
def k1 : Class := { plain "com/example/vellum_keys/vellumkeys/model/ProvisionedThroughputEqualsPinLaw" (some 0) with
  accessFlags := 49
  interfaces := #[]
  cf := some (fileOf pool1 12 #[] #[{ accessFlags := 1, nameIndex := 5, descriptorIndex := 6, attributes := #[] }, { accessFlags := 10, nameIndex := 15, descriptorIndex := 16, attributes := #[] }, { accessFlags := 9, nameIndex := 33, descriptorIndex := 34, attributes := #[] }] 49 2 #[] #[])
  fields := #[]
  methods := #[k1m0, k1m1, k1m2]
  instanceTypes := #[]
  staticTypes := #[]
  resolved := Array.replicate 37 none
  statics := none }

def pool2 : Array CpInfo := pool [(1, .methodref 2 3), (0, .class_ 4), (0, .nameAndType 5 6), (0, u "java/lang/Object"), (0, u "<init>"), (0, u "()V"), (0, .string 8), (0, u "readCapacityUnits"), (0, .methodref 10 11), (0, .class_ 12), (0, .nameAndType 13 14), (0, u "com/example/vellum_keys/vellumkeys/model/ProvisionedThroughput"), (0, u "checkAtLeastOne"), (0, u "(Ljava/lang/String;J)V"), (0, .string 16), (0, u "writeCapacityUnits"), (0, .fieldref 10 18), (0, .nameAndType 8 19), (0, u "J"), (0, .fieldref 10 21), (0, .nameAndType 16 19), (21, u "(JJ)V"), (6, u "equals"), (0, u "(Ljava/lang/Object;)Z")] 18

def k2c0 : Code := { maxStack := 3, maxLocals := 5, code := prog_49_method_1_code, exceptionTable := #[], attributes := #[] }
def k2m0 : Method := { name := "<init>", desc := "(JJ)V", sig := { parameters := [.long, .long], returnType := none }, accessFlags := 1, code := some k2c0 }
def k2c1 : Code := { maxStack := 6, maxLocals := 3, code := prog_49_method_2_code, exceptionTable := #[], attributes := #[] }
def k2m1 : Method := { name := "checkAtLeastOne", desc := "(Ljava/lang/String;J)V", sig := { parameters := [(.object "java/lang/String"), .long], returnType := none }, accessFlags := 10, code := some k2c1 }
def k2c2 : Code := { maxStack := 4, maxLocals := 3, code := prog_49_method_5_code, exceptionTable := #[], attributes := #[] }
def k2m2 : Method := { name := "equals", desc := "(Ljava/lang/Object;)Z", sig := { parameters := [(.object "java/lang/Object")], returnType := some .boolean }, accessFlags := 1, code := some k2c2 }
/-- com/example/vellum_keys/vellumkeys/model/ProvisionedThroughput -/
def k2 : Class := { plain "com/example/vellum_keys/vellumkeys/model/ProvisionedThroughput" (some 0) with
  accessFlags := 33
  interfaces := #[]
  cf := some (fileOf pool2 10 #[] #[{ accessFlags := 1, nameIndex := 5, descriptorIndex := 43, attributes := #[] }, { accessFlags := 10, nameIndex := 13, descriptorIndex := 14, attributes := #[] }, { accessFlags := 1, nameIndex := 50, descriptorIndex := 51, attributes := #[] }] 33 2 #[] #[{ accessFlags := 18, nameIndex := 8, descriptorIndex := 19, attributes := #[] }, { accessFlags := 18, nameIndex := 16, descriptorIndex := 19, attributes := #[] }])
  fields := #[{ name := "readCapacityUnits", type := .long, accessFlags := 18, slot := 0, constantValue := 0 }, { name := "writeCapacityUnits", type := .long, accessFlags := 18, slot := 1, constantValue := 0 }]
  methods := #[k2m0, k2m1, k2m2]
  instanceTypes := #[.long, .long]
  staticTypes := #[]
  resolved := Array.replicate 70 none
  statics := none }

def pool3 : Array CpInfo := pool [(1, .class_ 2), (0, u "java/io/Serializable"), (0, .class_ 4), (0, u "java/lang/Object")] 2

/-- java/io/Serializable -/
def k3 : Class := { plain "java/io/Serializable" (some 0) with
  accessFlags := 1537
  interfaces := #[]
  cf := some (fileOf pool3 1 #[] #[] 1537 3 #[] #[])
  fields := #[]
  methods := #[]
  instanceTypes := #[]
  staticTypes := #[]
  resolved := Array.replicate 7 none
  statics := none }

def pool4 : Array CpInfo := pool [(1, .class_ 2), (0, u "java/lang/Comparable"), (0, .class_ 4), (0, u "java/lang/Object")] 7

/-- java/lang/Comparable -/
def k4 : Class := { plain "java/lang/Comparable" (some 0) with
  accessFlags := 1537
  interfaces := #[]
  cf := some (fileOf pool4 1 #[] #[] 1537 3 #[] #[])
  fields := #[]
  methods := #[]
  instanceTypes := #[]
  staticTypes := #[]
  resolved := Array.replicate 12 none
  statics := none }

def pool5 : Array CpInfo := pool [(2, .class_ 4), (1, u "java/lang/CharSequence"), (42, .class_ 48), (0, u "java/lang/CharSequence$1CodePointIterator"), (10, .class_ 60), (0, u "java/lang/CharSequence$1CharIterator"), (5, .class_ 67), (0, u "java/lang/Object")] 63

/-- java/lang/CharSequence -/
def k5 : Class := { plain "java/lang/CharSequence" (some 0) with
  accessFlags := 1537
  interfaces := #[]
  cf := some (fileOf pool5 2 #[.nestMembers #[47, 59]] #[] 1537 66 #[] #[])
  fields := #[]
  methods := #[]
  instanceTypes := #[]
  staticTypes := #[]
  resolved := Array.replicate 131 none
  statics := none }

def pool6 : Array CpInfo := pool [(1, .class_ 2), (0, u "java/lang/constant/Constable"), (0, .class_ 4), (0, u "java/lang/Object")] 6

/-- java/lang/constant/Constable -/
def k6 : Class := { plain "java/lang/constant/Constable" (some 0) with
  accessFlags := 1537
  interfaces := #[]
  cf := some (fileOf pool6 1 #[] #[] 1537 3 #[] #[])
  fields := #[]
  methods := #[]
  instanceTypes := #[]
  staticTypes := #[]
  resolved := Array.replicate 11 none
  statics := none }

def pool7 : Array CpInfo := pool [(1, .class_ 2), (0, u "java/lang/constant/ConstantDesc"), (0, .class_ 4), (0, u "java/lang/Object")] 32

/-- java/lang/constant/ConstantDesc -/
def k7 : Class := { plain "java/lang/constant/ConstantDesc" (some 0) with
  accessFlags := 1537
  interfaces := #[]
  cf := some (fileOf pool7 1 #[] #[] 1537 3 #[] #[])
  fields := #[]
  methods := #[]
  instanceTypes := #[]
  staticTypes := #[]
  resolved := Array.replicate 37 none
  statics := none }

def pool8 : Array CpInfo := pool [(2, .class_ 4), (1, u "java/lang/Object"), (0, u "<init>"), (0, u "()V"), (3, .class_ 12), (1, u "java/lang/String"), (0, u "value"), (0, u "[B"), (2, u "coder"), (0, u "B"), (2, u "hash"), (0, u "I"), (2, u "hashIsZero"), (0, u "Z"), (13, u "COMPACT_STRINGS"), (534, .class_ 576), (0, u "java/lang/CharSequence"), (22, u "CASE_INSENSITIVE_ORDER"), (0, u "Ljava/util/Comparator;"), (500, u "serialPersistentFields"), (0, u "[Ljava/io/ObjectStreamField;"), (0, .class_ 1104), (0, u "java/lang/String$CaseInsensitiveComparator"), (1, .class_ 1107), (0, u "java/io/Serializable"), (0, .class_ 1109), (0, u "java/lang/Comparable"), (0, .class_ 1111), (0, u "java/lang/constant/Constable"), (0, .class_ 1113), (0, u "java/lang/constant/ConstantDesc"), (2, u "serialVersionUID"), (0, u "J"), (3, u "REPL"), (0, u "C"), (2, u "LATIN1"), (1, u "UTF16")] 323

def k8m0 : Method := { name := "<init>", desc := "()V", sig := { parameters := [], returnType := none }, accessFlags := 1, code := none }
/-- java/lang/String -/
def k8 : Class := { plain "java/lang/String" (some 0) with
  accessFlags := 49
  interfaces := #[3, 4, 5, 6, 7]
  cf := some (fileOf pool8 10 #[.nestMembers #[1103]] #[{ accessFlags := 1, nameIndex := 5, descriptorIndex := 6, attributes := #[] }] 49 2 #[1106, 1108, 575, 1110, 1112] #[{ accessFlags := 18, nameIndex := 13, descriptorIndex := 14, attributes := #[] }, { accessFlags := 18, nameIndex := 17, descriptorIndex := 18, attributes := #[] }, { accessFlags := 2, nameIndex := 21, descriptorIndex := 22, attributes := #[] }, { accessFlags := 2, nameIndex := 25, descriptorIndex := 26, attributes := #[] }, { accessFlags := 26, nameIndex := 1116, descriptorIndex := 1117, attributes := #[] }, { accessFlags := 24, nameIndex := 40, descriptorIndex := 26, attributes := #[] }, { accessFlags := 26, nameIndex := 1101, descriptorIndex := 1102, attributes := #[] }, { accessFlags := 26, nameIndex := 1121, descriptorIndex := 1122, attributes := #[] }, { accessFlags := 25, nameIndex := 599, descriptorIndex := 600, attributes := #[] }, { accessFlags := 24, nameIndex := 1125, descriptorIndex := 18, attributes := #[] }, { accessFlags := 24, nameIndex := 1127, descriptorIndex := 18, attributes := #[] }])
  fields := #[{ name := "value", type := (.array .byte), accessFlags := 18, slot := 0, constantValue := 0 }, { name := "coder", type := .byte, accessFlags := 18, slot := 1, constantValue := 0 }, { name := "hash", type := .int, accessFlags := 2, slot := 2, constantValue := 0 }, { name := "hashIsZero", type := .boolean, accessFlags := 2, slot := 3, constantValue := 0 }, { name := "serialVersionUID", type := .long, accessFlags := 26, slot := 0, constantValue := 0 }, { name := "COMPACT_STRINGS", type := .boolean, accessFlags := 24, slot := 1, constantValue := 0 }, { name := "serialPersistentFields", type := (.array (.object "java/io/ObjectStreamField")), accessFlags := 26, slot := 2, constantValue := 0 }, { name := "REPL", type := .char, accessFlags := 26, slot := 3, constantValue := 0 }, { name := "CASE_INSENSITIVE_ORDER", type := (.object "java/util/Comparator"), accessFlags := 25, slot := 4, constantValue := 0 }, { name := "LATIN1", type := .byte, accessFlags := 24, slot := 5, constantValue := 0 }, { name := "UTF16", type := .byte, accessFlags := 24, slot := 6, constantValue := 0 }]
  methods := #[k8m0]
  instanceTypes := #[(.array .byte), .byte, .int, .boolean]
  staticTypes := #[.long, .boolean, (.array (.object "java/io/ObjectStreamField")), .char, (.object "java/util/Comparator"), .byte, .byte]
  resolved := Array.replicate 1451 none
  statics := none }

def pool9 : Array CpInfo := pool [(1, .methodref 2 3), (0, .class_ 4), (0, .nameAndType 5 6), (0, u "java/lang/Object"), (0, u "<init>"), (0, u "()V"), (1, .class_ 10), (1, u "java/lang/Number"), (2, .class_ 14), (0, u "java/io/Serializable"), (0, u "serialVersionUID"), (0, u "J")] 20

def k9c0 : Code := { maxStack := 1, maxLocals := 1, code := jdk_18_method_1_code, exceptionTable := #[], attributes := #[] }
def k9m0 : Method := { name := "<init>", desc := "()V", sig := { parameters := [], returnType := none }, accessFlags := 1, code := some k9c0 }
/-- java/lang/Number -/
def k9 : Class := { plain "java/lang/Number" (some 0) with
  accessFlags := 1057
  interfaces := #[3]
  cf := some (fileOf pool9 8 #[] #[{ accessFlags := 1, nameIndex := 5, descriptorIndex := 6, attributes := #[] }] 1057 2 #[13] #[{ accessFlags := 26, nameIndex := 15, descriptorIndex := 16, attributes := #[] }])
  fields := #[{ name := "serialVersionUID", type := .long, accessFlags := 26, slot := 0, constantValue := 0 }]
  methods := #[k9m0]
  instanceTypes := #[]
  staticTypes := #[.long]
  resolved := Array.replicate 37 none
  statics := none }

def pool10 : Array CpInfo := pool [(1, .class_ 2), (0, u "java/lang/Long"), (55, .nameAndType 59 60), (0, u "<init>"), (0, u "()V"), (24, u "valueOf"), (143, u "(J)Ljava/lang/Long;"), (0, .long 18446744073709551488), (1, .long 127), (1, .fieldref 235 236), (0, .class_ 237), (0, .nameAndType 238 239), (0, u "java/lang/Long$LongCache"), (0, u "cache"), (0, u "[Ljava/lang/Long;"), (0, .methodref 1 241), (0, .nameAndType 59 242), (0, u "(J)V"), (27, .methodref 271 58), (0, .class_ 272), (0, u "java/lang/Number"), (0, .fieldref 1 274), (0, .nameAndType 275 276), (0, u "value"), (0, u "J"), (84, u "TYPE"), (0, u "Ljava/lang/Class;"), (0, .class_ 364), (0, u "java/lang/Comparable"), (0, .class_ 366), (0, u "java/lang/constant/Constable"), (0, .class_ 368), (0, u "java/lang/constant/ConstantDesc"), (0, u "MIN_VALUE"), (1, u "MAX_VALUE"), (4, u "SIZE"), (0, u "I"), (1, u "BYTES"), (1, u "serialVersionUID")] 142

def k10c0 : Code := { maxStack := 4, maxLocals := 3, code := jdk_35_method_24_code, exceptionTable := #[], attributes := #[] }
def k10m0 : Method := { name := "valueOf", desc := "(J)Ljava/lang/Long;", sig := { parameters := [.long], returnType := some (.object "java/lang/Long") }, accessFlags := 9, code := some k10c0 }
def k10c1 : Code := { maxStack := 3, maxLocals := 3, code := jdk_35_method_26_code, exceptionTable := #[], attributes := #[] }
def k10m1 : Method := { name := "<init>", desc := "(J)V", sig := { parameters := [.long], returnType := none }, accessFlags := 1, code := some k10c1 }
/-- java/lang/Long -/
def k10 : Class := { plain "java/lang/Long" (some 9) with
  accessFlags := 49
  interfaces := #[4, 6, 7]
  cf := some (fileOf pool10 1 #[.nestMembers #[235]] #[{ accessFlags := 9, nameIndex := 85, descriptorIndex := 229, attributes := #[] }, { accessFlags := 1, nameIndex := 59, descriptorIndex := 242, attributes := #[] }] 49 271 #[363, 365, 367] #[{ accessFlags := 25, nameIndex := 369, descriptorIndex := 276, attributes := #[] }, { accessFlags := 25, nameIndex := 371, descriptorIndex := 276, attributes := #[] }, { accessFlags := 25, nameIndex := 361, descriptorIndex := 362, attributes := #[] }, { accessFlags := 18, nameIndex := 275, descriptorIndex := 276, attributes := #[] }, { accessFlags := 25, nameIndex := 376, descriptorIndex := 377, attributes := #[] }, { accessFlags := 25, nameIndex := 379, descriptorIndex := 377, attributes := #[] }, { accessFlags := 26, nameIndex := 381, descriptorIndex := 276, attributes := #[] }])
  fields := #[{ name := "MIN_VALUE", type := .long, accessFlags := 25, slot := 0, constantValue := 0 }, { name := "MAX_VALUE", type := .long, accessFlags := 25, slot := 1, constantValue := 0 }, { name := "TYPE", type := (.object "java/lang/Class"), accessFlags := 25, slot := 2, constantValue := 0 }, { name := "value", type := .long, accessFlags := 18, slot := 0, constantValue := 0 }, { name := "SIZE", type := .int, accessFlags := 25, slot := 3, constantValue := 0 }, { name := "BYTES", type := .int, accessFlags := 25, slot := 4, constantValue := 0 }, { name := "serialVersionUID", type := .long, accessFlags := 26, slot := 5, constantValue := 0 }]
  methods := #[k10m0, k10m1]
  instanceTypes := #[.long]
  staticTypes := #[.long, .long, (.object "java/lang/Class"), .int, .int, .long]
  resolved := Array.replicate 524 none
  statics := none }

def pool11 : Array CpInfo := pool [(2, .class_ 4), (1, u "java/lang/Object"), (0, u "<init>"), (0, u "()V"), (0, .class_ 8), (0, u "java/lang/Long"), (7, .class_ 18), (1, u "java/lang/Long$LongCache"), (0, u "$assertionsDisabled"), (0, u "Z"), (8, u "archivedCache"), (0, u "[Ljava/lang/Long;"), (7, u "cache")] 24

def k11m0 : Method := { name := "<init>", desc := "()V", sig := { parameters := [], returnType := none }, accessFlags := 2, code := none }
/-- java/lang/Long$LongCache -/
def k11 : Class := { plain "java/lang/Long$LongCache" (some 0) with
  accessFlags := 48
  interfaces := #[]
  cf := some (fileOf pool11 16 #[.nestHost 7] #[{ accessFlags := 2, nameIndex := 5, descriptorIndex := 6, attributes := #[] }] 48 2 #[] #[{ accessFlags := 24, nameIndex := 38, descriptorIndex := 30, attributes := #[] }, { accessFlags := 8, nameIndex := 29, descriptorIndex := 30, attributes := #[] }, { accessFlags := 4120, nameIndex := 19, descriptorIndex := 20, attributes := #[] }])
  fields := #[{ name := "cache", type := (.array (.object "java/lang/Long")), accessFlags := 24, slot := 0, constantValue := 0 }, { name := "archivedCache", type := (.array (.object "java/lang/Long")), accessFlags := 8, slot := 1, constantValue := 0 }, { name := "$assertionsDisabled", type := .boolean, accessFlags := 4120, slot := 2, constantValue := 0 }]
  methods := #[k11m0]
  instanceTypes := #[]
  staticTypes := #[(.array (.object "java/lang/Long")), (.array (.object "java/lang/Long")), .boolean]
  resolved := Array.replicate 63 none
  statics := some 0 }

def pool12 : Array CpInfo := pool [(1, u "java/lang/Cloneable"), (0, .class_ 1), (0, u "java/lang/Object"), (0, .class_ 3)] 3

/-- java/lang/Cloneable -/
def k12 : Class := { plain "java/lang/Cloneable" (some 0) with
  accessFlags := 1537
  interfaces := #[]
  cf := some (fileOf pool12 2 #[] #[] 1537 4 #[] #[])
  fields := #[]
  methods := #[]
  instanceTypes := #[]
  staticTypes := #[]
  resolved := Array.replicate 8 none
  statics := none }

/-- the primitive byte -/
def k13 : Class := { plain "byte" none with kind := .primitive 'B', accessFlags := 0x411 }
/-- [B -/
def k14 : Class := { plain "[B" (some 0) with kind := .array 13 .byte, interfaces := #[12, 3], accessFlags := 1041 }

/-- the primitive int -/
def k15 : Class := { plain "int" none with kind := .primitive 'I', accessFlags := 0x411 }
/-- [I -/
def k16 : Class := { plain "[I" (some 0) with kind := .array 15 .int, interfaces := #[12, 3], accessFlags := 1041 }

/-- [Ljava/lang/Long; -/
def k17 : Class := { plain "[Ljava/lang/Long;" (some 0) with kind := .array 10 (.object "java/lang/Long"), interfaces := #[12, 3], accessFlags := 1041 }

def heap : Heap := #[{ cls := 11, slots := #[.ref 1, .null, .int 0], vm := .statics 11 },
  { cls := 17, slots := #[.ref 2, .ref 3, .ref 4, .ref 5, .ref 6, .ref 7, .ref 8, .ref 9, .ref 10, .ref 11, .ref 12, .ref 13, .ref 14, .ref 15, .ref 16, .ref 17, .ref 18, .ref 19, .ref 20, .ref 21, .ref 22, .ref 23, .ref 24, .ref 25, .ref 26, .ref 27, .ref 28, .ref 29, .ref 30, .ref 31, .ref 32, .ref 33, .ref 34, .ref 35, .ref 36, .ref 37, .ref 38, .ref 39, .ref 40, .ref 41, .ref 42, .ref 43, .ref 44, .ref 45, .ref 46, .ref 47, .ref 48, .ref 49, .ref 50, .ref 51, .ref 52, .ref 53, .ref 54, .ref 55, .ref 56, .ref 57, .ref 58, .ref 59, .ref 60, .ref 61, .ref 62, .ref 63, .ref 64, .ref 65, .ref 66, .ref 67, .ref 68, .ref 69, .ref 70, .ref 71, .ref 72, .ref 73, .ref 74, .ref 75, .ref 76, .ref 77, .ref 78, .ref 79, .ref 80, .ref 81, .ref 82, .ref 83, .ref 84, .ref 85, .ref 86, .ref 87, .ref 88, .ref 89, .ref 90, .ref 91, .ref 92, .ref 93, .ref 94, .ref 95, .ref 96, .ref 97, .ref 98, .ref 99, .ref 100, .ref 101, .ref 102, .ref 103, .ref 104, .ref 105, .ref 106, .ref 107, .ref 108, .ref 109, .ref 110, .ref 111, .ref 112, .ref 113, .ref 114, .ref 115, .ref 116, .ref 117, .ref 118, .ref 119, .ref 120, .ref 121, .ref 122, .ref 123, .ref 124, .ref 125, .ref 126, .ref 127, .ref 128, .ref 129, .ref 130, .ref 131, .ref 132, .ref 133, .ref 134, .ref 135, .ref 136, .ref 137, .ref 138, .ref 139, .ref 140, .ref 141, .ref 142, .ref 143, .ref 144, .ref 145, .ref 146, .ref 147, .ref 148, .ref 149, .ref 150, .ref 151, .ref 152, .ref 153, .ref 154, .ref 155, .ref 156, .ref 157, .ref 158, .ref 159, .ref 160, .ref 161, .ref 162, .ref 163, .ref 164, .ref 165, .ref 166, .ref 167, .ref 168, .ref 169, .ref 170, .ref 171, .ref 172, .ref 173, .ref 174, .ref 175, .ref 176, .ref 177, .ref 178, .ref 179, .ref 180, .ref 181, .ref 182, .ref 183, .ref 184, .ref 185, .ref 186, .ref 187, .ref 188, .ref 189, .ref 190, .ref 191, .ref 192, .ref 193, .ref 194, .ref 195, .ref 196, .ref 197, .ref 198, .ref 199, .ref 200, .ref 201, .ref 202, .ref 203, .ref 204, .ref 205, .ref 206, .ref 207, .ref 208, .ref 209, .ref 210, .ref 211, .ref 212, .ref 213, .ref 214, .ref 215, .ref 216, .ref 217, .ref 218, .ref 219, .ref 220, .ref 221, .ref 222, .ref 223, .ref 224, .ref 225, .ref 226, .ref 227, .ref 228, .ref 229, .ref 230, .ref 231, .ref 232, .ref 233, .ref 234, .ref 235, .ref 236, .ref 237, .ref 238, .ref 239, .ref 240, .ref 241, .ref 242, .ref 243, .ref 244, .ref 245, .ref 246, .ref 247, .ref 248, .ref 249, .ref 250, .ref 251, .ref 252, .ref 253, .ref 254, .ref 255, .ref 256, .ref 257], vm := .none },
  { cls := 10, slots := #[.long (-128)], vm := .none },
  { cls := 10, slots := #[.long (-127)], vm := .none },
  { cls := 10, slots := #[.long (-126)], vm := .none },
  { cls := 10, slots := #[.long (-125)], vm := .none },
  { cls := 10, slots := #[.long (-124)], vm := .none },
  { cls := 10, slots := #[.long (-123)], vm := .none },
  { cls := 10, slots := #[.long (-122)], vm := .none },
  { cls := 10, slots := #[.long (-121)], vm := .none },
  { cls := 10, slots := #[.long (-120)], vm := .none },
  { cls := 10, slots := #[.long (-119)], vm := .none },
  { cls := 10, slots := #[.long (-118)], vm := .none },
  { cls := 10, slots := #[.long (-117)], vm := .none },
  { cls := 10, slots := #[.long (-116)], vm := .none },
  { cls := 10, slots := #[.long (-115)], vm := .none },
  { cls := 10, slots := #[.long (-114)], vm := .none },
  { cls := 10, slots := #[.long (-113)], vm := .none },
  { cls := 10, slots := #[.long (-112)], vm := .none },
  { cls := 10, slots := #[.long (-111)], vm := .none },
  { cls := 10, slots := #[.long (-110)], vm := .none },
  { cls := 10, slots := #[.long (-109)], vm := .none },
  { cls := 10, slots := #[.long (-108)], vm := .none },
  { cls := 10, slots := #[.long (-107)], vm := .none },
  { cls := 10, slots := #[.long (-106)], vm := .none },
  { cls := 10, slots := #[.long (-105)], vm := .none },
  { cls := 10, slots := #[.long (-104)], vm := .none },
  { cls := 10, slots := #[.long (-103)], vm := .none },
  { cls := 10, slots := #[.long (-102)], vm := .none },
  { cls := 10, slots := #[.long (-101)], vm := .none },
  { cls := 10, slots := #[.long (-100)], vm := .none },
  { cls := 10, slots := #[.long (-99)], vm := .none },
  { cls := 10, slots := #[.long (-98)], vm := .none },
  { cls := 10, slots := #[.long (-97)], vm := .none },
  { cls := 10, slots := #[.long (-96)], vm := .none },
  { cls := 10, slots := #[.long (-95)], vm := .none },
  { cls := 10, slots := #[.long (-94)], vm := .none },
  { cls := 10, slots := #[.long (-93)], vm := .none },
  { cls := 10, slots := #[.long (-92)], vm := .none },
  { cls := 10, slots := #[.long (-91)], vm := .none },
  { cls := 10, slots := #[.long (-90)], vm := .none },
  { cls := 10, slots := #[.long (-89)], vm := .none },
  { cls := 10, slots := #[.long (-88)], vm := .none },
  { cls := 10, slots := #[.long (-87)], vm := .none },
  { cls := 10, slots := #[.long (-86)], vm := .none },
  { cls := 10, slots := #[.long (-85)], vm := .none },
  { cls := 10, slots := #[.long (-84)], vm := .none },
  { cls := 10, slots := #[.long (-83)], vm := .none },
  { cls := 10, slots := #[.long (-82)], vm := .none },
  { cls := 10, slots := #[.long (-81)], vm := .none },
  { cls := 10, slots := #[.long (-80)], vm := .none },
  { cls := 10, slots := #[.long (-79)], vm := .none },
  { cls := 10, slots := #[.long (-78)], vm := .none },
  { cls := 10, slots := #[.long (-77)], vm := .none },
  { cls := 10, slots := #[.long (-76)], vm := .none },
  { cls := 10, slots := #[.long (-75)], vm := .none },
  { cls := 10, slots := #[.long (-74)], vm := .none },
  { cls := 10, slots := #[.long (-73)], vm := .none },
  { cls := 10, slots := #[.long (-72)], vm := .none },
  { cls := 10, slots := #[.long (-71)], vm := .none },
  { cls := 10, slots := #[.long (-70)], vm := .none },
  { cls := 10, slots := #[.long (-69)], vm := .none },
  { cls := 10, slots := #[.long (-68)], vm := .none },
  { cls := 10, slots := #[.long (-67)], vm := .none },
  { cls := 10, slots := #[.long (-66)], vm := .none },
  { cls := 10, slots := #[.long (-65)], vm := .none },
  { cls := 10, slots := #[.long (-64)], vm := .none },
  { cls := 10, slots := #[.long (-63)], vm := .none },
  { cls := 10, slots := #[.long (-62)], vm := .none },
  { cls := 10, slots := #[.long (-61)], vm := .none },
  { cls := 10, slots := #[.long (-60)], vm := .none },
  { cls := 10, slots := #[.long (-59)], vm := .none },
  { cls := 10, slots := #[.long (-58)], vm := .none },
  { cls := 10, slots := #[.long (-57)], vm := .none },
  { cls := 10, slots := #[.long (-56)], vm := .none },
  { cls := 10, slots := #[.long (-55)], vm := .none },
  { cls := 10, slots := #[.long (-54)], vm := .none },
  { cls := 10, slots := #[.long (-53)], vm := .none },
  { cls := 10, slots := #[.long (-52)], vm := .none },
  { cls := 10, slots := #[.long (-51)], vm := .none },
  { cls := 10, slots := #[.long (-50)], vm := .none },
  { cls := 10, slots := #[.long (-49)], vm := .none },
  { cls := 10, slots := #[.long (-48)], vm := .none },
  { cls := 10, slots := #[.long (-47)], vm := .none },
  { cls := 10, slots := #[.long (-46)], vm := .none },
  { cls := 10, slots := #[.long (-45)], vm := .none },
  { cls := 10, slots := #[.long (-44)], vm := .none },
  { cls := 10, slots := #[.long (-43)], vm := .none },
  { cls := 10, slots := #[.long (-42)], vm := .none },
  { cls := 10, slots := #[.long (-41)], vm := .none },
  { cls := 10, slots := #[.long (-40)], vm := .none },
  { cls := 10, slots := #[.long (-39)], vm := .none },
  { cls := 10, slots := #[.long (-38)], vm := .none },
  { cls := 10, slots := #[.long (-37)], vm := .none },
  { cls := 10, slots := #[.long (-36)], vm := .none },
  { cls := 10, slots := #[.long (-35)], vm := .none },
  { cls := 10, slots := #[.long (-34)], vm := .none },
  { cls := 10, slots := #[.long (-33)], vm := .none },
  { cls := 10, slots := #[.long (-32)], vm := .none },
  { cls := 10, slots := #[.long (-31)], vm := .none },
  { cls := 10, slots := #[.long (-30)], vm := .none },
  { cls := 10, slots := #[.long (-29)], vm := .none },
  { cls := 10, slots := #[.long (-28)], vm := .none },
  { cls := 10, slots := #[.long (-27)], vm := .none },
  { cls := 10, slots := #[.long (-26)], vm := .none },
  { cls := 10, slots := #[.long (-25)], vm := .none },
  { cls := 10, slots := #[.long (-24)], vm := .none },
  { cls := 10, slots := #[.long (-23)], vm := .none },
  { cls := 10, slots := #[.long (-22)], vm := .none },
  { cls := 10, slots := #[.long (-21)], vm := .none },
  { cls := 10, slots := #[.long (-20)], vm := .none },
  { cls := 10, slots := #[.long (-19)], vm := .none },
  { cls := 10, slots := #[.long (-18)], vm := .none },
  { cls := 10, slots := #[.long (-17)], vm := .none },
  { cls := 10, slots := #[.long (-16)], vm := .none },
  { cls := 10, slots := #[.long (-15)], vm := .none },
  { cls := 10, slots := #[.long (-14)], vm := .none },
  { cls := 10, slots := #[.long (-13)], vm := .none },
  { cls := 10, slots := #[.long (-12)], vm := .none },
  { cls := 10, slots := #[.long (-11)], vm := .none },
  { cls := 10, slots := #[.long (-10)], vm := .none },
  { cls := 10, slots := #[.long (-9)], vm := .none },
  { cls := 10, slots := #[.long (-8)], vm := .none },
  { cls := 10, slots := #[.long (-7)], vm := .none },
  { cls := 10, slots := #[.long (-6)], vm := .none },
  { cls := 10, slots := #[.long (-5)], vm := .none },
  { cls := 10, slots := #[.long (-4)], vm := .none },
  { cls := 10, slots := #[.long (-3)], vm := .none },
  { cls := 10, slots := #[.long (-2)], vm := .none },
  { cls := 10, slots := #[.long (-1)], vm := .none },
  { cls := 10, slots := #[.long (0)], vm := .none },
  { cls := 10, slots := #[.long (1)], vm := .none },
  { cls := 10, slots := #[.long (2)], vm := .none },
  { cls := 10, slots := #[.long (3)], vm := .none },
  { cls := 10, slots := #[.long (4)], vm := .none },
  { cls := 10, slots := #[.long (5)], vm := .none },
  { cls := 10, slots := #[.long (6)], vm := .none },
  { cls := 10, slots := #[.long (7)], vm := .none },
  { cls := 10, slots := #[.long (8)], vm := .none },
  { cls := 10, slots := #[.long (9)], vm := .none },
  { cls := 10, slots := #[.long (10)], vm := .none },
  { cls := 10, slots := #[.long (11)], vm := .none },
  { cls := 10, slots := #[.long (12)], vm := .none },
  { cls := 10, slots := #[.long (13)], vm := .none },
  { cls := 10, slots := #[.long (14)], vm := .none },
  { cls := 10, slots := #[.long (15)], vm := .none },
  { cls := 10, slots := #[.long (16)], vm := .none },
  { cls := 10, slots := #[.long (17)], vm := .none },
  { cls := 10, slots := #[.long (18)], vm := .none },
  { cls := 10, slots := #[.long (19)], vm := .none },
  { cls := 10, slots := #[.long (20)], vm := .none },
  { cls := 10, slots := #[.long (21)], vm := .none },
  { cls := 10, slots := #[.long (22)], vm := .none },
  { cls := 10, slots := #[.long (23)], vm := .none },
  { cls := 10, slots := #[.long (24)], vm := .none },
  { cls := 10, slots := #[.long (25)], vm := .none },
  { cls := 10, slots := #[.long (26)], vm := .none },
  { cls := 10, slots := #[.long (27)], vm := .none },
  { cls := 10, slots := #[.long (28)], vm := .none },
  { cls := 10, slots := #[.long (29)], vm := .none },
  { cls := 10, slots := #[.long (30)], vm := .none },
  { cls := 10, slots := #[.long (31)], vm := .none },
  { cls := 10, slots := #[.long (32)], vm := .none },
  { cls := 10, slots := #[.long (33)], vm := .none },
  { cls := 10, slots := #[.long (34)], vm := .none },
  { cls := 10, slots := #[.long (35)], vm := .none },
  { cls := 10, slots := #[.long (36)], vm := .none },
  { cls := 10, slots := #[.long (37)], vm := .none },
  { cls := 10, slots := #[.long (38)], vm := .none },
  { cls := 10, slots := #[.long (39)], vm := .none },
  { cls := 10, slots := #[.long (40)], vm := .none },
  { cls := 10, slots := #[.long (41)], vm := .none },
  { cls := 10, slots := #[.long (42)], vm := .none },
  { cls := 10, slots := #[.long (43)], vm := .none },
  { cls := 10, slots := #[.long (44)], vm := .none },
  { cls := 10, slots := #[.long (45)], vm := .none },
  { cls := 10, slots := #[.long (46)], vm := .none },
  { cls := 10, slots := #[.long (47)], vm := .none },
  { cls := 10, slots := #[.long (48)], vm := .none },
  { cls := 10, slots := #[.long (49)], vm := .none },
  { cls := 10, slots := #[.long (50)], vm := .none },
  { cls := 10, slots := #[.long (51)], vm := .none },
  { cls := 10, slots := #[.long (52)], vm := .none },
  { cls := 10, slots := #[.long (53)], vm := .none },
  { cls := 10, slots := #[.long (54)], vm := .none },
  { cls := 10, slots := #[.long (55)], vm := .none },
  { cls := 10, slots := #[.long (56)], vm := .none },
  { cls := 10, slots := #[.long (57)], vm := .none },
  { cls := 10, slots := #[.long (58)], vm := .none },
  { cls := 10, slots := #[.long (59)], vm := .none },
  { cls := 10, slots := #[.long (60)], vm := .none },
  { cls := 10, slots := #[.long (61)], vm := .none },
  { cls := 10, slots := #[.long (62)], vm := .none },
  { cls := 10, slots := #[.long (63)], vm := .none },
  { cls := 10, slots := #[.long (64)], vm := .none },
  { cls := 10, slots := #[.long (65)], vm := .none },
  { cls := 10, slots := #[.long (66)], vm := .none },
  { cls := 10, slots := #[.long (67)], vm := .none },
  { cls := 10, slots := #[.long (68)], vm := .none },
  { cls := 10, slots := #[.long (69)], vm := .none },
  { cls := 10, slots := #[.long (70)], vm := .none },
  { cls := 10, slots := #[.long (71)], vm := .none },
  { cls := 10, slots := #[.long (72)], vm := .none },
  { cls := 10, slots := #[.long (73)], vm := .none },
  { cls := 10, slots := #[.long (74)], vm := .none },
  { cls := 10, slots := #[.long (75)], vm := .none },
  { cls := 10, slots := #[.long (76)], vm := .none },
  { cls := 10, slots := #[.long (77)], vm := .none },
  { cls := 10, slots := #[.long (78)], vm := .none },
  { cls := 10, slots := #[.long (79)], vm := .none },
  { cls := 10, slots := #[.long (80)], vm := .none },
  { cls := 10, slots := #[.long (81)], vm := .none },
  { cls := 10, slots := #[.long (82)], vm := .none },
  { cls := 10, slots := #[.long (83)], vm := .none },
  { cls := 10, slots := #[.long (84)], vm := .none },
  { cls := 10, slots := #[.long (85)], vm := .none },
  { cls := 10, slots := #[.long (86)], vm := .none },
  { cls := 10, slots := #[.long (87)], vm := .none },
  { cls := 10, slots := #[.long (88)], vm := .none },
  { cls := 10, slots := #[.long (89)], vm := .none },
  { cls := 10, slots := #[.long (90)], vm := .none },
  { cls := 10, slots := #[.long (91)], vm := .none },
  { cls := 10, slots := #[.long (92)], vm := .none },
  { cls := 10, slots := #[.long (93)], vm := .none },
  { cls := 10, slots := #[.long (94)], vm := .none },
  { cls := 10, slots := #[.long (95)], vm := .none },
  { cls := 10, slots := #[.long (96)], vm := .none },
  { cls := 10, slots := #[.long (97)], vm := .none },
  { cls := 10, slots := #[.long (98)], vm := .none },
  { cls := 10, slots := #[.long (99)], vm := .none },
  { cls := 10, slots := #[.long (100)], vm := .none },
  { cls := 10, slots := #[.long (101)], vm := .none },
  { cls := 10, slots := #[.long (102)], vm := .none },
  { cls := 10, slots := #[.long (103)], vm := .none },
  { cls := 10, slots := #[.long (104)], vm := .none },
  { cls := 10, slots := #[.long (105)], vm := .none },
  { cls := 10, slots := #[.long (106)], vm := .none },
  { cls := 10, slots := #[.long (107)], vm := .none },
  { cls := 10, slots := #[.long (108)], vm := .none },
  { cls := 10, slots := #[.long (109)], vm := .none },
  { cls := 10, slots := #[.long (110)], vm := .none },
  { cls := 10, slots := #[.long (111)], vm := .none },
  { cls := 10, slots := #[.long (112)], vm := .none },
  { cls := 10, slots := #[.long (113)], vm := .none },
  { cls := 10, slots := #[.long (114)], vm := .none },
  { cls := 10, slots := #[.long (115)], vm := .none },
  { cls := 10, slots := #[.long (116)], vm := .none },
  { cls := 10, slots := #[.long (117)], vm := .none },
  { cls := 10, slots := #[.long (118)], vm := .none },
  { cls := 10, slots := #[.long (119)], vm := .none },
  { cls := 10, slots := #[.long (120)], vm := .none },
  { cls := 10, slots := #[.long (121)], vm := .none },
  { cls := 10, slots := #[.long (122)], vm := .none },
  { cls := 10, slots := #[.long (123)], vm := .none },
  { cls := 10, slots := #[.long (124)], vm := .none },
  { cls := 10, slots := #[.long (125)], vm := .none },
  { cls := 10, slots := #[.long (126)], vm := .none },
  { cls := 10, slots := #[.long (127)], vm := .none }]
def classes : Array Class := #[k0, k1, k2, k3, k4, k5, k6, k7, k8, k9, k10, k11, k12, k13, k14, k15, k16, k17]
def interned : List (Array UInt16 × Addr) := []
def slotsUsed : Nat := 515
def theMethod : MethodId := ⟨1, 2⟩
def args0 : Array Value := #[.long 11, .long 5, .long 1, .long 2, .int 500]
def aboutOver (below : List Frame) : State where
  vm := { classes := classes, interned := interned.toArray }
  heap := heap
  slotsUsed := slotsUsed
  threads := #[{ frames := .invoking theMethod args0 :: below }]
def below0 : List Frame := [.native { method := ⟨0, 0⟩, args := #[] }]
def about1 : State := aboutOver below0
def p0 : Program := .bare "" "" ""
def e0 : Env := launch0.env 0 0 0
theorem w_frames : about1.frames = Frame.invoking theMethod args0 :: below0 := rfl
set_option maxRecDepth 65536 in
theorem w_args : argsFit about1.vm theMethod args0 = true := by decide +kernel
set_option maxRecDepth 65536 in
theorem w_heap : heapFits about1 = true := by decide +kernel
set_option maxRecDepth 65536 in
theorem w_runnable : about1.curStatus? = some .runnable := by decide +kernel
set_option maxRecDepth 65536 in
theorem w_alone : about1.alone = true := by decide +kernel
set_option maxRecDepth 65536 in
theorem w_named : about1.methodNamed? x = some theMethod := by decide +kernel
set_option maxRecDepth 65536 in
theorem w_hears : about1.hears theMethod below0 = true := by decide +kernel
set_option maxRecDepth 65536 in
theorem w_ripe : about1.ripe theMethod args0 below0 = true := by decide +kernel
theorem w_running : about1.status = .running := rfl
set_option maxRecDepth 65536 in
theorem w_room : about1.hasRoom e0.platform room_1 = true :=
  launch0.hasRoom_least _ room_1 (by decide +kernel) (by decide +kernel) (by decide +kernel) (by decide +kernel) (by decide +kernel) (by decide +kernel)
theorem allAtoms_all (ts : List Jvm.Cond) (a : Array Jvm.Value) (st : Jvm.State) : (allAtoms ts).before a st = ts.all (fun c => c.before a st) := by
  induction ts with
  | nil => rfl
  | cons c t ih =>
    show (Jvm.Cond.and c (allAtoms t)).before a st = _
    rw [Jvm.Cond.before_and, ih, List.all_cons]
def words1 : List Jvm.Cond := Jvm.Cond.code x code maxLocals ret :: tables_1
/-- a 'code' word, met by the world's own term for the bytes: nothing is compared byte by byte -/
theorem code_word {y : MethodName} {bytes : ByteArray} {mx : Nat} {rt : Option FieldType} {a : Array Value} {s : State} {m : MethodId} {meth : Method} {c : Code} (h1 : s.methodNamed? y = some m) (h2 : s.vm.method? m = some meth) (h3 : meth.code = some c) (h4 : c.code = bytes)
    (h5 : (c.maxLocals == mx && c.exceptionTable.isEmpty && decide (c.maxStack ≤ mostOperands) && decide (meth.sig.returnType = rt) && !meth.locks && decide (parseMethodDescriptor y.desc = some meth.sig)) = true) : (Jvm.Cond.code y bytes mx rt).before a s = true := by
  simp only [Bool.and_eq_true, beq_iff_eq, Bool.not_eq_true', decide_eq_true_eq] at h5
  obtain ⟨⟨⟨⟨⟨g1, g2⟩, g3⟩, g4⟩, g5⟩, g6⟩ := h5
  simp [Cond.before, Cond.holds, Cond.value, h1, h2, h3, h4, g1, g2, g3, g4, g5, g6]
def isCode : Jvm.Cond → Bool
  | .code _ _ _ _ => true
  | _ => false
theorem all_split {L : List Jvm.Cond} {P : Jvm.Cond → Bool} (h1 : L.all (fun c => isCode c || P c) = true) (h2 : ∀ c ∈ L.filter isCode, P c = true) : L.all P = true := by
  refine List.all_eq_true.mpr fun c hc => ?_
  have h := List.all_eq_true.mp h1 c hc
  rcases Bool.eq_false_or_eq_true (isCode c) with hi | hi
  · exact h2 c (List.mem_filter.mpr ⟨hc, hi⟩)
  · simpa [hi] using h
set_option maxRecDepth 65536 in
theorem w_c0 : (Jvm.Cond.code x code maxLocals ret).before args0 about1 = true := code_word (m := ⟨1, 2⟩) (meth := k1m2) (c := k1c2) (by decide +kernel) rfl rfl rfl (by decide +kernel)
set_option maxRecDepth 65536 in
theorem w_c1 : (Jvm.Cond.code ({ cls := "com/example/vellum_keys/vellumkeys/model/ProvisionedThroughputEqualsPinLaw", name := "units", desc := "(J)J" } : Jvm.MethodName) method_2_code (4 : Nat) (Option.some Jvm.ClassFile.FieldType.long)).before args0 about1 = true := code_word (m := ⟨1, 1⟩) (meth := k1m1) (c := k1c1) (by decide +kernel) rfl rfl rfl (by decide +kernel)
set_option maxRecDepth 65536 in
theorem w_c2 : (Jvm.Cond.code ({ cls := "com/example/vellum_keys/vellumkeys/model/ProvisionedThroughput", name := "<init>", desc := "(JJ)V" } : Jvm.MethodName) prog_49_method_1_code (5 : Nat) (Option.none : Option Jvm.ClassFile.FieldType)).before args0 about1 = true := code_word (m := ⟨2, 0⟩) (meth := k2m0) (c := k2c0) (by decide +kernel) rfl rfl rfl (by decide +kernel)
set_option maxRecDepth 65536 in
theorem w_c3 : (Jvm.Cond.code ({ cls := "java/lang/Object", name := "<init>", desc := "()V" } : Jvm.MethodName) object_method_1_code (1 : Nat) (Option.none : Option Jvm.ClassFile.FieldType)).before args0 about1 = true := code_word (m := ⟨0, 0⟩) (meth := k0m0) (c := k0c0) (by decide +kernel) rfl rfl rfl (by decide +kernel)
set_option maxRecDepth 65536 in
theorem w_c4 : (Jvm.Cond.code ({ cls := "com/example/vellum_keys/vellumkeys/model/ProvisionedThroughput", name := "checkAtLeastOne", desc := "(Ljava/lang/String;J)V" } : Jvm.MethodName) prog_49_method_2_code (3 : Nat) (Option.none : Option Jvm.ClassFile.FieldType)).before args0 about1 = true := code_word (m := ⟨2, 1⟩) (meth := k2m1) (c := k2c1) (by decide +kernel) rfl rfl rfl (by decide +kernel)
set_option maxRecDepth 65536 in
theorem w_c5 : (Jvm.Cond.code ({ cls := "java/lang/Long", name := "valueOf", desc := "(J)Ljava/lang/Long;" } : Jvm.MethodName) jdk_35_method_24_code (3 : Nat) (Option.some (Jvm.ClassFile.FieldType.object "java/lang/Long"))).before args0 about1 = true := code_word (m := ⟨10, 0⟩) (meth := k10m0) (c := k10c0) (by decide +kernel) rfl rfl rfl (by decide +kernel)
set_option maxRecDepth 65536 in
theorem w_c6 : (Jvm.Cond.code ({ cls := "com/example/vellum_keys/vellumkeys/model/ProvisionedThroughput", name := "equals", desc := "(Ljava/lang/Object;)Z" } : Jvm.MethodName) prog_49_method_5_code (3 : Nat) (Option.some Jvm.ClassFile.FieldType.boolean)).before args0 about1 = true := code_word (m := ⟨2, 2⟩) (meth := k2m2) (c := k2c2) (by decide +kernel) rfl rfl rfl (by decide +kernel)
set_option maxRecDepth 65536 in
theorem w_c7 : (Jvm.Cond.code ({ cls := "java/lang/Long", name := "<init>", desc := "(J)V" } : Jvm.MethodName) jdk_35_method_26_code (3 : Nat) (Option.none : Option Jvm.ClassFile.FieldType)).before args0 about1 = true := code_word (m := ⟨10, 1⟩) (meth := k10m1) (c := k10c1) (by decide +kernel) rfl rfl rfl (by decide +kernel)
set_option maxRecDepth 65536 in
theorem w_c8 : (Jvm.Cond.code ({ cls := "java/lang/Number", name := "<init>", desc := "()V" } : Jvm.MethodName) jdk_18_method_1_code (1 : Nat) (Option.none : Option Jvm.ClassFile.FieldType)).before args0 about1 = true := code_word (m := ⟨9, 0⟩) (meth := k9m0) (c := k9c0) (by decide +kernel) rfl rfl rfl (by decide +kernel)
def codes1 : List Jvm.Cond := [Jvm.Cond.code x code maxLocals ret, Jvm.Cond.code ({ cls := "com/example/vellum_keys/vellumkeys/model/ProvisionedThroughputEqualsPinLaw", name := "units", desc := "(J)J" } : Jvm.MethodName) method_2_code (4 : Nat) (Option.some Jvm.ClassFile.FieldType.long), Jvm.Cond.code ({ cls := "com/example/vellum_keys/vellumkeys/model/ProvisionedThroughput", name := "<init>", desc := "(JJ)V" } : Jvm.MethodName) prog_49_method_1_code (5 : Nat) (Option.none : Option Jvm.ClassFile.FieldType), Jvm.Cond.code ({ cls := "java/lang/Object", name := "<init>", desc := "()V" } : Jvm.MethodName) object_method_1_code (1 : Nat) (Option.none : Option Jvm.ClassFile.FieldType), Jvm.Cond.code ({ cls := "com/example/vellum_keys/vellumkeys/model/ProvisionedThroughput", name := "checkAtLeastOne", desc := "(Ljava/lang/String;J)V" } : Jvm.MethodName) prog_49_method_2_code (3 : Nat) (Option.none : Option Jvm.ClassFile.FieldType), Jvm.Cond.code ({ cls := "java/lang/Long", name := "valueOf", desc := "(J)Ljava/lang/Long;" } : Jvm.MethodName) jdk_35_method_24_code (3 : Nat) (Option.some (Jvm.ClassFile.FieldType.object "java/lang/Long")), Jvm.Cond.code ({ cls := "com/example/vellum_keys/vellumkeys/model/ProvisionedThroughput", name := "equals", desc := "(Ljava/lang/Object;)Z" } : Jvm.MethodName) prog_49_method_5_code (3 : Nat) (Option.some Jvm.ClassFile.FieldType.boolean), Jvm.Cond.code ({ cls := "java/lang/Long", name := "<init>", desc := "(J)V" } : Jvm.MethodName) jdk_35_method_26_code (3 : Nat) (Option.none : Option Jvm.ClassFile.FieldType), Jvm.Cond.code ({ cls := "java/lang/Number", name := "<init>", desc := "()V" } : Jvm.MethodName) jdk_18_method_1_code (1 : Nat) (Option.none : Option Jvm.ClassFile.FieldType)]
set_option maxRecDepth 65536 in
theorem codes_eq : words1.filter isCode = codes1 := rfl
theorem w_codes : ∀ c ∈ words1.filter isCode, c.before args0 about1 = true := by
  rw [codes_eq]
  intro c hc
  simp only [codes1, List.mem_cons, List.not_mem_nil, or_false] at hc
  rcases hc with rfl | rfl | rfl | rfl | rfl | rfl | rfl | rfl | rfl
  · exact w_c0
  · exact w_c1
  · exact w_c2
  · exact w_c3
  · exact w_c4
  · exact w_c5
  · exact w_c6
  · exact w_c7
  · exact w_c8
set_option maxRecDepth 65536 in
theorem w_t1 : (words1.take 24).all (fun c => isCode c || c.before args0 about1) = true := by decide +kernel
set_option maxRecDepth 65536 in
theorem w_t2 : ((words1.drop 24).take 24).all (fun c => isCode c || c.before args0 about1) = true := by decide +kernel
set_option maxRecDepth 65536 in
theorem w_t3 : ((words1.drop 24).drop 24).all (fun c => isCode c || c.before args0 about1) = true := by decide +kernel
theorem w_tables : (allAtoms (Jvm.Cond.code x code maxLocals ret :: tables_1)).before args0 about1 = true := by
  rw [allAtoms_all]
  show words1.all (fun c => c.before args0 about1) = true
  refine all_split ?_ w_codes
  rw [← List.take_append_drop 24 words1, List.all_append, w_t1, ← List.take_append_drop 24 (words1.drop 24), List.all_append, w_t2, w_t3]
  rfl
set_option maxRecDepth 65536 in
theorem w_rest : rest_1_c.before args0 about1 = true := by decide +kernel
set_option maxRecDepth 65536 in
theorem w_case : (Jvm.Cond.and given_1 narrow_1).before args0 about1 = true := by decide +kernel
theorem w_applies : (headSpec (Jvm.Cond.code x code maxLocals ret :: tables_1) room_1).applies x e0.platform about1 = true :=
  (Spec.applies_iff w_frames).mpr ⟨w_running, w_runnable, w_alone, w_named, w_hears, w_ripe, w_room, w_tables⟩
theorem atStart : AtStart classFile x code maxLocals ret World_1 tables_1 room_1 Calls_1 rest_1 Pre_1 launch0 p0 e0 about1 theMethod args0 below0 :=
  ⟨lists_1, trivial, launch0.admits_env _ _ _, launch0.least_env, fairChoices_fair.cas, fairChoices_fair.clock, w_frames, w_args, w_heap, w_applies, trivial, w_rest, w_case⟩
end start1
theorem witness_1 : WitnessClaimed_1 := ⟨start1.p0, start1.e0, start1.about1, start1.theMethod, start1.args0, start1.below0, start1.atStart⟩
end Jvm.Pilot.@@N@@
