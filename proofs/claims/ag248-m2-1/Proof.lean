import JvmDerived
import JvmDerived.Pilot.@@N@@Statement
import JvmDerived.Pilot.@@N@@Code
set_option linter.unusedVariables false
set_option linter.unusedSimpArgs false
@@BLOCK:NumsL.lean.txt@@
namespace Jvm.Pilot.@@N@@
open Jvm Jvm.ClassFile Sem Op Lib Jvm.Free Jvm.Stand Jvm.LawKit Jvm.RoadKit Bundle Jvm.Pilot.@@N@@.Jvm.D
section GoKit
variable {p : Program} {l : Launch} {e : Env} {R : Room} {s : State} {m : MethodId} {args : Array Value} {below : List Frame} {meth : Method} {c : Code} {T : State} {Z : State} {own nm : String} {bytes : ByteArray} {mx : Nat} {rt : Option FieldType} {n0 k n : Nat} {h : Heap} {Q : Option Value → Heap → Prop} {CC NN : Nat} {a0 : Array Value} {Ls Ls' : Array Slot} {rest : List Value} {pc pc' : Nat}
/-- where a walk stands -/
def W (Z : State) (own nm : String) (bytes : ByteArray) (mx : Nat) (rt : Option FieldType) (n0 : Nat) (p : Program) (l : Launch) (e : Env) (R : Room) (s : State) (m : MethodId) (args : Array Value) (below : List Frame) (meth : Method) (c : Code) (k n : Nat) (T : State) (h : Heap) : Prop :=
  p.tables.exec = Jvm.exec ∧ c.code = bytes ∧ s.vm.findClass own = some m.cls ∧ Z.Warmed39 s.vm ∧ c.maxLocals = mx ∧ meth.name = nm ∧ meth.sig.returnType = rt ∧ meth.locks = false ∧ (∃ L, Stand p l e R s m args below meth c T L k n ∧ Fr n0 L) ∧ T.heap = h
/-- from this frame the method ends well -/
def Go (n0 : Nat) (p : Program) (e : Env) (below : List Frame) (s : State) (Q : Option Value → Heap → Prop) (CC NN : Nat) (T : State) (g : JFrame) : Prop :=
  ∃ s₂ o, Steps p.tables e below (T.setTop g) s₂ ∧ s₂.status = .running ∧ Ended s₂ below o ∧ ∃ v L, o = .returned v ∧ (Fr n0 L ∧ Q v s₂.heap) ∧ FrameEnd s o s₂ L CC NN
/-- a body's contract: of these arguments, at this heap -/
def Ctr (l : Launch) (y : MethodName) (yb : ByteArray) (ymx : Nat) (yr : Option FieldType) (rm : Room) (Z : State) (as : Array Value) (h0 : Heap) (n0 : Nat) (Q : Option Value → Heap → Prop) (ws : List Jvm.Cond) : Prop :=
  MetFree l y (head1 (Jvm.Cond.code y yb ymx yr :: ws) rm) (fun a U => a = as ∧ Z.Warmed39 U.vm ∧ U.heap = h0) (fun _ _ _ _ _ => True) (fun _ U o U' => ∃ v L, o = .returned v ∧ (Fr n0 L ∧ Q v U'.heap) ∧ FrameEnd U o U' L rm.cells rm.slots)
theorem metGo {y : MethodName} {rm : Room} {as : Array Value} {ws : List Jvm.Cond} (hpn : plainFor y = true) (hef : ∀ m, entryFrame m as mx = mkF m 0 Ls [])
    (H : ∀ (p : Program) (e : Env) (s : State) (m : MethodId) (below : List Frame) (meth : Method) (c : Code) (T : State), W Z y.cls y.name bytes mx rt n0 p l e rm s m as below meth c 0 0 T h → Go n0 p e below s Q rm.cells rm.slots T (mkF m 0 Ls [])) : Ctr l y bytes mx rt rm Z as h n0 Q ws := by
  refine MetFree.of_bodySF hpn hisR ?_
  intro p e s m args below meth c s₁ Bd hml0 hP hK
  obtain ⟨rfl, hZ, hh⟩ := hP
  have e0 : s₁.heap = h := by rw [← hh, Bd.state]; rfl
  obtain ⟨s₂, o, st, r⟩ := H p e s m below meth c s₁ ⟨Bd.exec, Bd.bytes, findClass_of_methodNamed Bd.named, hZ, hml0, (name_of_methodNamed Bd.named Bd.method).1, Bd.returns, Bd.notSynchronized, ⟨[], Stand.of_body Bd, Fr.nil n0⟩, e0⟩
  exact ⟨s₂, o, castTop (hef m) st, r⟩
def cY : ClassFile.Cond → Int32 → Int32 → Prop
  | .eq, x, y => x = y
  | .ne, x, y => ¬ x = y
  | .lt, x, y => x < y
  | .ge, x, y => ¬ x < y
  | .gt, x, y => y < x
  | .le, x, y => ¬ y < x
def cN : ClassFile.Cond → Int32 → Int32 → Prop
  | .eq, x, y => ¬ x = y
  | .ne, x, y => x = y
  | .lt, x, y => ¬ x < y
  | .ge, x, y => x < y
  | .gt, x, y => ¬ y < x
  | .le, x, y => y < x
def lY : ClassFile.Cond → Int64 → Int64 → Prop
  | .eq, x, y => x = y
  | .ne, x, y => ¬ x = y
  | .lt, x, y => x < y
  | .ge, x, y => ¬ x < y
  | .gt, x, y => y < x
  | .le, x, y => ¬ y < x
def lN : ClassFile.Cond → Int64 → Int64 → Prop
  | .eq, x, y => ¬ x = y
  | .ne, x, y => x = y
  | .lt, x, y => ¬ x < y
  | .ge, x, y => x < y
  | .gt, x, y => ¬ y < x
  | .le, x, y => y < x
theorem c_or (cd : ClassFile.Cond) (x y : Int32) : (cY cd x y ∧ if_icmp.holds cd x y = true) ∨ (cN cd x y ∧ if_icmp.holds cd x y = false) := by
  cases cd
  · by_cases q : x = y
    · exact Or.inl ⟨q, (teq q).1⟩
    · exact Or.inr ⟨q, (feq q).1⟩
  · by_cases q : x = y
    · exact Or.inr ⟨q, (teq q).2⟩
    · exact Or.inl ⟨q, (feq q).2⟩
  · by_cases q : x < y
    · exact Or.inl ⟨q, (tlt q).1⟩
    · exact Or.inr ⟨q, (flt q).1⟩
  · by_cases q : x < y
    · exact Or.inr ⟨q, (tlt q).2.1⟩
    · exact Or.inl ⟨q, (flt q).2.1⟩
  · by_cases q : y < x
    · exact Or.inl ⟨q, (tlt q).2.2.1⟩
    · exact Or.inr ⟨q, (flt q).2.2.1⟩
  · by_cases q : y < x
    · exact Or.inr ⟨q, (tlt q).2.2.2⟩
    · exact Or.inl ⟨q, (flt q).2.2.2⟩
theorem lY_of (cd : ClassFile.Cond) (x y : Int64) (q : cY cd (lcmpW x y) 0) : lY cd x y := by
  cases cd
  · exact (lw_eq x y).mp q
  · exact fun r => q ((lw_eq x y).mpr r)
  · exact (lw_lt x y).mp q
  · exact fun r => q ((lw_lt x y).mpr r)
  · exact (lw_gt x y).mp q
  · exact fun r => q ((lw_gt x y).mpr r)
theorem lN_of (cd : ClassFile.Cond) (x y : Int64) (q : cN cd (lcmpW x y) 0) : lN cd x y := by
  cases cd
  · exact fun r => q ((lw_eq x y).mpr r)
  · exact (lw_eq x y).mp q
  · exact fun r => q ((lw_lt x y).mpr r)
  · exact (lw_lt x y).mp q
  · exact fun r => q ((lw_gt x y).mpr r)
  · exact (lw_gt x y).mp q

theorem giload (w : W Z own nm bytes mx rt n0 p l e R s m args below meth c k n T h) {j : Nat} {v : Int32} (hd : decode bytes pc = .ok (.iload j, 2)) (hl : Ls[j]? = some (.val (.int v))) (hp : pc + 2 = pc') (K : Go n0 p e below s Q CC NN T (mkF m pc' Ls (.int v :: rest))) : Go n0 p e below s Q CC NN T (mkF m pc Ls (rest)) := by
  obtain ⟨hx, hb, -, -, -, -, -, -, ⟨L, X, -⟩, -⟩ := w
  obtain ⟨s₂, o, st, r⟩ := K
  subst hp hb
  exact ⟨s₂, o, XS.iload X.here hx rfl hd hl st, r⟩
theorem giloadN (w : W Z own nm bytes mx rt n0 p l e R s m args below meth c k n T h) {j : Fin 4} {v : Int32} (hd : decode bytes pc = .ok (.iload_n j, 1)) (hl : Ls[j.val]? = some (.val (.int v))) (hp : pc + 1 = pc') (K : Go n0 p e below s Q CC NN T (mkF m pc' Ls (.int v :: rest))) : Go n0 p e below s Q CC NN T (mkF m pc Ls (rest)) := by
  obtain ⟨hx, hb, -, -, -, -, -, -, ⟨L, X, -⟩, -⟩ := w
  obtain ⟨s₂, o, st, r⟩ := K
  subst hp hb
  exact ⟨s₂, o, XS.iloadN X.here hx rfl hd hl st, r⟩
theorem glload (w : W Z own nm bytes mx rt n0 p l e R s m args below meth c k n T h) {j : Nat} {v : Int64} (hd : decode bytes pc = .ok (.lload j, 2)) (hl : Ls[j]? = some (.val (.long v))) (hp : pc + 2 = pc') (K : Go n0 p e below s Q CC NN T (mkF m pc' Ls (.long v :: rest))) : Go n0 p e below s Q CC NN T (mkF m pc Ls (rest)) := by
  obtain ⟨hx, hb, -, -, -, -, -, -, ⟨L, X, -⟩, -⟩ := w
  obtain ⟨s₂, o, st, r⟩ := K
  subst hp hb
  exact ⟨s₂, o, XS.lload X.here hx rfl hd hl st, r⟩
theorem glloadN (w : W Z own nm bytes mx rt n0 p l e R s m args below meth c k n T h) {j : Fin 4} {v : Int64} (hd : decode bytes pc = .ok (.lload_n j, 1)) (hl : Ls[j.val]? = some (.val (.long v))) (hp : pc + 1 = pc') (K : Go n0 p e below s Q CC NN T (mkF m pc' Ls (.long v :: rest))) : Go n0 p e below s Q CC NN T (mkF m pc Ls (rest)) := by
  obtain ⟨hx, hb, -, -, -, -, -, -, ⟨L, X, -⟩, -⟩ := w
  obtain ⟨s₂, o, st, r⟩ := K
  subst hp hb
  exact ⟨s₂, o, XS.lloadN X.here hx rfl hd hl st, r⟩
theorem gaload (w : W Z own nm bytes mx rt n0 p l e R s m args below meth c k n T h) {j : Nat} {v : Value} (hd : decode bytes pc = .ok (.aload j, 2)) (hl : Ls[j]? = some (.val v)) (hv : v.isRef = true) (hp : pc + 2 = pc') (K : Go n0 p e below s Q CC NN T (mkF m pc' Ls (v :: rest))) : Go n0 p e below s Q CC NN T (mkF m pc Ls (rest)) := by
  obtain ⟨hx, hb, -, -, -, -, -, -, ⟨L, X, -⟩, -⟩ := w
  obtain ⟨s₂, o, st, r⟩ := K
  subst hp hb
  exact ⟨s₂, o, XS.aload X.here hx rfl hd hl hv st, r⟩
theorem galoadN (w : W Z own nm bytes mx rt n0 p l e R s m args below meth c k n T h) {j : Fin 4} {v : Value} (hd : decode bytes pc = .ok (.aload_n j, 1)) (hl : Ls[j.val]? = some (.val v)) (hv : v.isRef = true) (hp : pc + 1 = pc') (K : Go n0 p e below s Q CC NN T (mkF m pc' Ls (v :: rest))) : Go n0 p e below s Q CC NN T (mkF m pc Ls (rest)) := by
  obtain ⟨hx, hb, -, -, -, -, -, -, ⟨L, X, -⟩, -⟩ := w
  obtain ⟨s₂, o, st, r⟩ := K
  subst hp hb
  exact ⟨s₂, o, XS.aloadN X.here hx rfl hd hl hv st, r⟩
theorem gistore (w : W Z own nm bytes mx rt n0 p l e R s m args below meth c k n T h) {j : Nat} {v : Int32} (hd : decode bytes pc = .ok (.istore j, 2)) (hl : storeLocals Ls j (.int v) = some Ls') (hp : pc + 2 = pc') (K : Go n0 p e below s Q CC NN T (mkF m pc' Ls' (rest))) : Go n0 p e below s Q CC NN T (mkF m pc Ls (.int v :: rest)) := by
  obtain ⟨hx, hb, -, -, -, -, -, -, ⟨L, X, -⟩, -⟩ := w
  obtain ⟨s₂, o, st, r⟩ := K
  subst hp hb
  exact ⟨s₂, o, XS.istore X.here hx rfl hd rfl hl st, r⟩
theorem gistoreN (w : W Z own nm bytes mx rt n0 p l e R s m args below meth c k n T h) {j : Fin 4} {v : Int32} (hd : decode bytes pc = .ok (.istore_n j, 1)) (hl : storeLocals Ls j.val (.int v) = some Ls') (hp : pc + 1 = pc') (K : Go n0 p e below s Q CC NN T (mkF m pc' Ls' (rest))) : Go n0 p e below s Q CC NN T (mkF m pc Ls (.int v :: rest)) := by
  obtain ⟨hx, hb, -, -, -, -, -, -, ⟨L, X, -⟩, -⟩ := w
  obtain ⟨s₂, o, st, r⟩ := K
  subst hp hb
  exact ⟨s₂, o, XS.istoreN X.here hx rfl hd rfl hl st, r⟩
theorem glstore (w : W Z own nm bytes mx rt n0 p l e R s m args below meth c k n T h) {j : Nat} {v : Int64} (hd : decode bytes pc = .ok (.lstore j, 2)) (hl : storeLocals Ls j (.long v) = some Ls') (hp : pc + 2 = pc') (K : Go n0 p e below s Q CC NN T (mkF m pc' Ls' (rest))) : Go n0 p e below s Q CC NN T (mkF m pc Ls (.long v :: rest)) := by
  obtain ⟨hx, hb, -, -, -, -, -, -, ⟨L, X, -⟩, -⟩ := w
  obtain ⟨s₂, o, st, r⟩ := K
  subst hp hb
  exact ⟨s₂, o, XS.lstore X.here hx rfl hd rfl hl st, r⟩
theorem glstoreN (w : W Z own nm bytes mx rt n0 p l e R s m args below meth c k n T h) {j : Fin 4} {v : Int64} (hd : decode bytes pc = .ok (.lstore_n j, 1)) (hl : storeLocals Ls j.val (.long v) = some Ls') (hp : pc + 1 = pc') (K : Go n0 p e below s Q CC NN T (mkF m pc' Ls' (rest))) : Go n0 p e below s Q CC NN T (mkF m pc Ls (.long v :: rest)) := by
  obtain ⟨hx, hb, -, -, -, -, -, -, ⟨L, X, -⟩, -⟩ := w
  obtain ⟨s₂, o, st, r⟩ := K
  subst hp hb
  exact ⟨s₂, o, XS.lstoreN X.here hx rfl hd rfl hl st, r⟩
theorem gastore (w : W Z own nm bytes mx rt n0 p l e R s m args below meth c k n T h) {j : Nat} {v : Value} (hd : decode bytes pc = .ok (.astore j, 2)) (hv : v.isRef = true) (hl : storeLocals Ls j v = some Ls') (hp : pc + 2 = pc') (K : Go n0 p e below s Q CC NN T (mkF m pc' Ls' (rest))) : Go n0 p e below s Q CC NN T (mkF m pc Ls (v :: rest)) := by
  obtain ⟨hx, hb, -, -, -, -, -, -, ⟨L, X, -⟩, -⟩ := w
  obtain ⟨s₂, o, st, r⟩ := K
  subst hp hb
  exact ⟨s₂, o, XS.astore X.here hx rfl hd rfl hv hl st, r⟩
theorem gastoreN (w : W Z own nm bytes mx rt n0 p l e R s m args below meth c k n T h) {j : Fin 4} {v : Value} (hd : decode bytes pc = .ok (.astore_n j, 1)) (hv : v.isRef = true) (hl : storeLocals Ls j.val v = some Ls') (hp : pc + 1 = pc') (K : Go n0 p e below s Q CC NN T (mkF m pc' Ls' (rest))) : Go n0 p e below s Q CC NN T (mkF m pc Ls (v :: rest)) := by
  obtain ⟨hx, hb, -, -, -, -, -, -, ⟨L, X, -⟩, -⟩ := w
  obtain ⟨s₂, o, st, r⟩ := K
  subst hp hb
  exact ⟨s₂, o, XS.astoreN X.here hx rfl hd rfl hv hl st, r⟩
theorem giinc (w : W Z own nm bytes mx rt n0 p l e R s m args below meth c k n T h) {j : Nat} {i : Int} {v : Int32} (hd : decode bytes pc = .ok (.iinc j i, 3)) (hl : Ls[j]? = some (.val (.int v))) (hl' : storeLocals Ls j (.int (v + Int32.ofInt i)) = some Ls') (hp : pc + 3 = pc') (K : Go n0 p e below s Q CC NN T (mkF m pc' Ls' (rest))) : Go n0 p e below s Q CC NN T (mkF m pc Ls (rest)) := by
  obtain ⟨hx, hb, -, -, -, -, -, -, ⟨L, X, -⟩, -⟩ := w
  obtain ⟨s₂, o, st, r⟩ := K
  subst hp hb
  exact ⟨s₂, o, XS.iinc X.here hx rfl hd hl hl' st, r⟩
theorem giconst (w : W Z own nm bytes mx rt n0 p l e R s m args below meth c k n T h) {i : Int} {v : Int32} (hd : decode bytes pc = .ok (.iconst i, 1)) (hv : Int32.ofInt i = v) (hp : pc + 1 = pc') (K : Go n0 p e below s Q CC NN T (mkF m pc' Ls (.int v :: rest))) : Go n0 p e below s Q CC NN T (mkF m pc Ls (rest)) := by
  obtain ⟨hx, hb, -, -, -, -, -, -, ⟨L, X, -⟩, -⟩ := w
  obtain ⟨s₂, o, st, r⟩ := K
  subst hp hb hv
  exact ⟨s₂, o, XS.iconst X.here hx rfl hd st, r⟩
theorem gbipush (w : W Z own nm bytes mx rt n0 p l e R s m args below meth c k n T h) {i : Int} {v : Int32} (hd : decode bytes pc = .ok (.bipush i, 2)) (hv : (Int8.ofInt i).toInt32 = v) (hp : pc + 2 = pc') (K : Go n0 p e below s Q CC NN T (mkF m pc' Ls (.int v :: rest))) : Go n0 p e below s Q CC NN T (mkF m pc Ls (rest)) := by
  obtain ⟨hx, hb, -, -, -, -, -, -, ⟨L, X, -⟩, -⟩ := w
  obtain ⟨s₂, o, st, r⟩ := K
  subst hp hb hv
  exact ⟨s₂, o, XS.bipush X.here hx rfl hd st, r⟩
theorem gsipush (w : W Z own nm bytes mx rt n0 p l e R s m args below meth c k n T h) {i : Int} {v : Int32} (hd : decode bytes pc = .ok (.sipush i, 3)) (hv : (Int16.ofInt i).toInt32 = v) (hp : pc + 3 = pc') (K : Go n0 p e below s Q CC NN T (mkF m pc' Ls (.int v :: rest))) : Go n0 p e below s Q CC NN T (mkF m pc Ls (rest)) := by
  obtain ⟨hx, hb, -, -, -, -, -, -, ⟨L, X, -⟩, -⟩ := w
  obtain ⟨s₂, o, st, r⟩ := K
  subst hp hb hv
  exact ⟨s₂, o, XS.sipush X.here hx rfl hd st, r⟩
theorem glconst (w : W Z own nm bytes mx rt n0 p l e R s m args below meth c k n T h) {i : Fin 2} {v : Int64} (hd : decode bytes pc = .ok (.lconst i, 1)) (hv : Int64.ofNat i = v) (hp : pc + 1 = pc') (K : Go n0 p e below s Q CC NN T (mkF m pc' Ls (.long v :: rest))) : Go n0 p e below s Q CC NN T (mkF m pc Ls (rest)) := by
  obtain ⟨hx, hb, -, -, -, -, -, -, ⟨L, X, -⟩, -⟩ := w
  obtain ⟨s₂, o, st, r⟩ := K
  subst hp hb hv
  exact ⟨s₂, o, XS.lconst X.here hx rfl hd st, r⟩
theorem gnull (w : W Z own nm bytes mx rt n0 p l e R s m args below meth c k n T h) (hd : decode bytes pc = .ok (.aconst_null, 1)) (hp : pc + 1 = pc') (K : Go n0 p e below s Q CC NN T (mkF m pc' Ls (.null :: rest))) : Go n0 p e below s Q CC NN T (mkF m pc Ls (rest)) := by
  obtain ⟨hx, hb, -, -, -, -, -, -, ⟨L, X, -⟩, -⟩ := w
  obtain ⟨s₂, o, st, r⟩ := K
  subst hp hb
  exact ⟨s₂, o, XS.aconstNull X.here hx rfl hd  st, r⟩
theorem giadd (w : W Z own nm bytes mx rt n0 p l e R s m args below meth c k n T h) {x y : Int32} (hd : decode bytes pc = .ok (.iadd, 1)) (hp : pc + 1 = pc') (K : Go n0 p e below s Q CC NN T (mkF m pc' Ls (.int (x + y) :: rest))) : Go n0 p e below s Q CC NN T (mkF m pc Ls (.int y :: .int x :: rest)) := by
  obtain ⟨hx, hb, -, -, -, -, -, -, ⟨L, X, -⟩, -⟩ := w
  obtain ⟨s₂, o, st, r⟩ := K
  subst hp hb
  exact ⟨s₂, o, XS.iadd X.here hx rfl hd rfl st, r⟩
theorem gladd (w : W Z own nm bytes mx rt n0 p l e R s m args below meth c k n T h) {x y : Int64} (hd : decode bytes pc = .ok (.ladd, 1)) (hp : pc + 1 = pc') (K : Go n0 p e below s Q CC NN T (mkF m pc' Ls (.long (x + y) :: rest))) : Go n0 p e below s Q CC NN T (mkF m pc Ls (.long y :: .long x :: rest)) := by
  obtain ⟨hx, hb, -, -, -, -, -, -, ⟨L, X, -⟩, -⟩ := w
  obtain ⟨s₂, o, st, r⟩ := K
  subst hp hb
  exact ⟨s₂, o, XS.ladd X.here hx rfl hd rfl st, r⟩
theorem gisub (w : W Z own nm bytes mx rt n0 p l e R s m args below meth c k n T h) {x y : Int32} (hd : decode bytes pc = .ok (.isub, 1)) (hp : pc + 1 = pc') (K : Go n0 p e below s Q CC NN T (mkF m pc' Ls (.int (x - y) :: rest))) : Go n0 p e below s Q CC NN T (mkF m pc Ls (.int y :: .int x :: rest)) := by
  obtain ⟨hx, hb, -, -, -, -, -, -, ⟨L, X, -⟩, -⟩ := w
  obtain ⟨s₂, o, st, r⟩ := K
  subst hp hb
  exact ⟨s₂, o, XS.isub X.here hx rfl hd rfl st, r⟩
theorem glsub (w : W Z own nm bytes mx rt n0 p l e R s m args below meth c k n T h) {x y : Int64} (hd : decode bytes pc = .ok (.lsub, 1)) (hp : pc + 1 = pc') (K : Go n0 p e below s Q CC NN T (mkF m pc' Ls (.long (x - y) :: rest))) : Go n0 p e below s Q CC NN T (mkF m pc Ls (.long y :: .long x :: rest)) := by
  obtain ⟨hx, hb, -, -, -, -, -, -, ⟨L, X, -⟩, -⟩ := w
  obtain ⟨s₂, o, st, r⟩ := K
  subst hp hb
  exact ⟨s₂, o, XS.lsub X.here hx rfl hd rfl st, r⟩
theorem gimul (w : W Z own nm bytes mx rt n0 p l e R s m args below meth c k n T h) {x y : Int32} (hd : decode bytes pc = .ok (.imul, 1)) (hp : pc + 1 = pc') (K : Go n0 p e below s Q CC NN T (mkF m pc' Ls (.int (x * y) :: rest))) : Go n0 p e below s Q CC NN T (mkF m pc Ls (.int y :: .int x :: rest)) := by
  obtain ⟨hx, hb, -, -, -, -, -, -, ⟨L, X, -⟩, -⟩ := w
  obtain ⟨s₂, o, st, r⟩ := K
  subst hp hb
  exact ⟨s₂, o, XS.imul X.here hx rfl hd rfl st, r⟩
theorem glmul (w : W Z own nm bytes mx rt n0 p l e R s m args below meth c k n T h) {x y : Int64} (hd : decode bytes pc = .ok (.lmul, 1)) (hp : pc + 1 = pc') (K : Go n0 p e below s Q CC NN T (mkF m pc' Ls (.long (x * y) :: rest))) : Go n0 p e below s Q CC NN T (mkF m pc Ls (.long y :: .long x :: rest)) := by
  obtain ⟨hx, hb, -, -, -, -, -, -, ⟨L, X, -⟩, -⟩ := w
  obtain ⟨s₂, o, st, r⟩ := K
  subst hp hb
  exact ⟨s₂, o, XS.lmul X.here hx rfl hd rfl st, r⟩
theorem giand (w : W Z own nm bytes mx rt n0 p l e R s m args below meth c k n T h) {x y : Int32} (hd : decode bytes pc = .ok (.iand, 1)) (hp : pc + 1 = pc') (K : Go n0 p e below s Q CC NN T (mkF m pc' Ls (.int (x &&& y) :: rest))) : Go n0 p e below s Q CC NN T (mkF m pc Ls (.int y :: .int x :: rest)) := by
  obtain ⟨hx, hb, -, -, -, -, -, -, ⟨L, X, -⟩, -⟩ := w
  obtain ⟨s₂, o, st, r⟩ := K
  subst hp hb
  exact ⟨s₂, o, XS.iand X.here hx rfl hd rfl st, r⟩
theorem gland (w : W Z own nm bytes mx rt n0 p l e R s m args below meth c k n T h) {x y : Int64} (hd : decode bytes pc = .ok (.land, 1)) (hp : pc + 1 = pc') (K : Go n0 p e below s Q CC NN T (mkF m pc' Ls (.long (x &&& y) :: rest))) : Go n0 p e below s Q CC NN T (mkF m pc Ls (.long y :: .long x :: rest)) := by
  obtain ⟨hx, hb, -, -, -, -, -, -, ⟨L, X, -⟩, -⟩ := w
  obtain ⟨s₂, o, st, r⟩ := K
  subst hp hb
  exact ⟨s₂, o, XS.land X.here hx rfl hd rfl st, r⟩
theorem gior (w : W Z own nm bytes mx rt n0 p l e R s m args below meth c k n T h) {x y : Int32} (hd : decode bytes pc = .ok (.ior, 1)) (hp : pc + 1 = pc') (K : Go n0 p e below s Q CC NN T (mkF m pc' Ls (.int (x ||| y) :: rest))) : Go n0 p e below s Q CC NN T (mkF m pc Ls (.int y :: .int x :: rest)) := by
  obtain ⟨hx, hb, -, -, -, -, -, -, ⟨L, X, -⟩, -⟩ := w
  obtain ⟨s₂, o, st, r⟩ := K
  subst hp hb
  exact ⟨s₂, o, XS.ior X.here hx rfl hd rfl st, r⟩
theorem glor (w : W Z own nm bytes mx rt n0 p l e R s m args below meth c k n T h) {x y : Int64} (hd : decode bytes pc = .ok (.lor, 1)) (hp : pc + 1 = pc') (K : Go n0 p e below s Q CC NN T (mkF m pc' Ls (.long (x ||| y) :: rest))) : Go n0 p e below s Q CC NN T (mkF m pc Ls (.long y :: .long x :: rest)) := by
  obtain ⟨hx, hb, -, -, -, -, -, -, ⟨L, X, -⟩, -⟩ := w
  obtain ⟨s₂, o, st, r⟩ := K
  subst hp hb
  exact ⟨s₂, o, XS.lor X.here hx rfl hd rfl st, r⟩
theorem gixor (w : W Z own nm bytes mx rt n0 p l e R s m args below meth c k n T h) {x y : Int32} (hd : decode bytes pc = .ok (.ixor, 1)) (hp : pc + 1 = pc') (K : Go n0 p e below s Q CC NN T (mkF m pc' Ls (.int (x ^^^ y) :: rest))) : Go n0 p e below s Q CC NN T (mkF m pc Ls (.int y :: .int x :: rest)) := by
  obtain ⟨hx, hb, -, -, -, -, -, -, ⟨L, X, -⟩, -⟩ := w
  obtain ⟨s₂, o, st, r⟩ := K
  subst hp hb
  exact ⟨s₂, o, XS.ixor X.here hx rfl hd rfl st, r⟩
theorem glxor (w : W Z own nm bytes mx rt n0 p l e R s m args below meth c k n T h) {x y : Int64} (hd : decode bytes pc = .ok (.lxor, 1)) (hp : pc + 1 = pc') (K : Go n0 p e below s Q CC NN T (mkF m pc' Ls (.long (x ^^^ y) :: rest))) : Go n0 p e below s Q CC NN T (mkF m pc Ls (.long y :: .long x :: rest)) := by
  obtain ⟨hx, hb, -, -, -, -, -, -, ⟨L, X, -⟩, -⟩ := w
  obtain ⟨s₂, o, st, r⟩ := K
  subst hp hb
  exact ⟨s₂, o, XS.lxor X.here hx rfl hd rfl st, r⟩
theorem gineg (w : W Z own nm bytes mx rt n0 p l e R s m args below meth c k n T h) {x : Int32} (hd : decode bytes pc = .ok (.ineg, 1)) (hp : pc + 1 = pc') (K : Go n0 p e below s Q CC NN T (mkF m pc' Ls (.int (-x) :: rest))) : Go n0 p e below s Q CC NN T (mkF m pc Ls (.int x :: rest)) := by
  obtain ⟨hx, hb, -, -, -, -, -, -, ⟨L, X, -⟩, -⟩ := w
  obtain ⟨s₂, o, st, r⟩ := K
  subst hp hb
  exact ⟨s₂, o, XS.ineg X.here hx rfl hd rfl st, r⟩
theorem gidiv (w : W Z own nm bytes mx rt n0 p l e R s m args below meth c k n T h) {x y : Int32} (hd : decode bytes pc = .ok (.idiv, 1)) (hy : y ≠ 0) (hp : pc + 1 = pc') (K : Go n0 p e below s Q CC NN T (mkF m pc' Ls (.int (x / y) :: rest))) : Go n0 p e below s Q CC NN T (mkF m pc Ls (.int y :: .int x :: rest)) := by
  obtain ⟨hx, hb, -, -, -, -, -, -, ⟨L, X, -⟩, -⟩ := w
  obtain ⟨s₂, o, st, r⟩ := K
  subst hp hb
  exact ⟨s₂, o, XS.idiv X.here hx rfl hd rfl hy st, r⟩
theorem gldiv (w : W Z own nm bytes mx rt n0 p l e R s m args below meth c k n T h) {x y : Int64} (hd : decode bytes pc = .ok (.ldiv, 1)) (hy : y ≠ 0) (hp : pc + 1 = pc') (K : Go n0 p e below s Q CC NN T (mkF m pc' Ls (.long (x / y) :: rest))) : Go n0 p e below s Q CC NN T (mkF m pc Ls (.long y :: .long x :: rest)) := by
  obtain ⟨hx, hb, -, -, -, -, -, -, ⟨L, X, -⟩, -⟩ := w
  obtain ⟨s₂, o, st, r⟩ := K
  subst hp hb
  exact ⟨s₂, o, XS.ldiv X.here hx rfl hd rfl hy st, r⟩
theorem girem (w : W Z own nm bytes mx rt n0 p l e R s m args below meth c k n T h) {x y : Int32} (hd : decode bytes pc = .ok (.irem, 1)) (hy : y ≠ 0) (hp : pc + 1 = pc') (K : Go n0 p e below s Q CC NN T (mkF m pc' Ls (.int (x - (x / y) * y) :: rest))) : Go n0 p e below s Q CC NN T (mkF m pc Ls (.int y :: .int x :: rest)) := by
  obtain ⟨hx, hb, -, -, -, -, -, -, ⟨L, X, -⟩, -⟩ := w
  obtain ⟨s₂, o, st, r⟩ := K
  subst hp hb
  exact ⟨s₂, o, XS.irem X.here hx rfl hd rfl hy st, r⟩
theorem glrem (w : W Z own nm bytes mx rt n0 p l e R s m args below meth c k n T h) {x y : Int64} (hd : decode bytes pc = .ok (.lrem, 1)) (hy : y ≠ 0) (hp : pc + 1 = pc') (K : Go n0 p e below s Q CC NN T (mkF m pc' Ls (.long (x - (x / y) * y) :: rest))) : Go n0 p e below s Q CC NN T (mkF m pc Ls (.long y :: .long x :: rest)) := by
  obtain ⟨hx, hb, -, -, -, -, -, -, ⟨L, X, -⟩, -⟩ := w
  obtain ⟨s₂, o, st, r⟩ := K
  subst hp hb
  exact ⟨s₂, o, XS.lrem X.here hx rfl hd rfl hy st, r⟩
theorem gishl (w : W Z own nm bytes mx rt n0 p l e R s m args below meth c k n T h) {x : Int32} {y : Int32} (hd : decode bytes pc = .ok (.ishl, 1)) (hp : pc + 1 = pc') (K : Go n0 p e below s Q CC NN T (mkF m pc' Ls (.int (x <<< (y &&& 31)) :: rest))) : Go n0 p e below s Q CC NN T (mkF m pc Ls (.int y :: .int x :: rest)) := by
  obtain ⟨hx, hb, -, -, -, -, -, -, ⟨L, X, -⟩, -⟩ := w
  obtain ⟨s₂, o, st, r⟩ := K
  subst hp hb
  exact ⟨s₂, o, XS.ishl X.here hx rfl hd rfl st, r⟩
theorem gishr (w : W Z own nm bytes mx rt n0 p l e R s m args below meth c k n T h) {x : Int32} {y : Int32} (hd : decode bytes pc = .ok (.ishr, 1)) (hp : pc + 1 = pc') (K : Go n0 p e below s Q CC NN T (mkF m pc' Ls (.int (x >>> (y &&& 31)) :: rest))) : Go n0 p e below s Q CC NN T (mkF m pc Ls (.int y :: .int x :: rest)) := by
  obtain ⟨hx, hb, -, -, -, -, -, -, ⟨L, X, -⟩, -⟩ := w
  obtain ⟨s₂, o, st, r⟩ := K
  subst hp hb
  exact ⟨s₂, o, XS.ishr X.here hx rfl hd rfl st, r⟩
theorem giushr (w : W Z own nm bytes mx rt n0 p l e R s m args below meth c k n T h) {x : Int32} {y : Int32} (hd : decode bytes pc = .ok (.iushr, 1)) (hp : pc + 1 = pc') (K : Go n0 p e below s Q CC NN T (mkF m pc' Ls (.int ((x.toUInt32 >>> (y &&& 31).toUInt32).toInt32) :: rest))) : Go n0 p e below s Q CC NN T (mkF m pc Ls (.int y :: .int x :: rest)) := by
  obtain ⟨hx, hb, -, -, -, -, -, -, ⟨L, X, -⟩, -⟩ := w
  obtain ⟨s₂, o, st, r⟩ := K
  subst hp hb
  exact ⟨s₂, o, XS.iushr X.here hx rfl hd rfl st, r⟩
theorem glshl (w : W Z own nm bytes mx rt n0 p l e R s m args below meth c k n T h) {x : Int64} {y : Int32} (hd : decode bytes pc = .ok (.lshl, 1)) (hp : pc + 1 = pc') (K : Go n0 p e below s Q CC NN T (mkF m pc' Ls (.long (x <<< (y &&& 0x3f).toInt64) :: rest))) : Go n0 p e below s Q CC NN T (mkF m pc Ls (.int y :: .long x :: rest)) := by
  obtain ⟨hx, hb, -, -, -, -, -, -, ⟨L, X, -⟩, -⟩ := w
  obtain ⟨s₂, o, st, r⟩ := K
  subst hp hb
  exact ⟨s₂, o, XS.lshl X.here hx rfl hd rfl st, r⟩
theorem glshr (w : W Z own nm bytes mx rt n0 p l e R s m args below meth c k n T h) {x : Int64} {y : Int32} (hd : decode bytes pc = .ok (.lshr, 1)) (hp : pc + 1 = pc') (K : Go n0 p e below s Q CC NN T (mkF m pc' Ls (.long (x >>> (y &&& 0x3f).toInt64) :: rest))) : Go n0 p e below s Q CC NN T (mkF m pc Ls (.int y :: .long x :: rest)) := by
  obtain ⟨hx, hb, -, -, -, -, -, -, ⟨L, X, -⟩, -⟩ := w
  obtain ⟨s₂, o, st, r⟩ := K
  subst hp hb
  exact ⟨s₂, o, XS.lshr X.here hx rfl hd rfl st, r⟩
theorem glushr (w : W Z own nm bytes mx rt n0 p l e R s m args below meth c k n T h) {x : Int64} {y : Int32} (hd : decode bytes pc = .ok (.lushr, 1)) (hp : pc + 1 = pc') (K : Go n0 p e below s Q CC NN T (mkF m pc' Ls (.long ((x.toUInt64 >>> (y &&& 0x3f).toInt64.toUInt64).toInt64) :: rest))) : Go n0 p e below s Q CC NN T (mkF m pc Ls (.int y :: .long x :: rest)) := by
  obtain ⟨hx, hb, -, -, -, -, -, -, ⟨L, X, -⟩, -⟩ := w
  obtain ⟨s₂, o, st, r⟩ := K
  subst hp hb
  exact ⟨s₂, o, XS.lushr X.here hx rfl hd rfl st, r⟩
theorem gi2b (w : W Z own nm bytes mx rt n0 p l e R s m args below meth c k n T h) {v : Int32} (hd : decode bytes pc = .ok (.i2b, 1)) (hp : pc + 1 = pc') (K : Go n0 p e below s Q CC NN T (mkF m pc' Ls (.int (v.toInt8.toInt32) :: rest))) : Go n0 p e below s Q CC NN T (mkF m pc Ls (.int v :: rest)) := by
  obtain ⟨hx, hb, -, -, -, -, -, -, ⟨L, X, -⟩, -⟩ := w
  obtain ⟨s₂, o, st, r⟩ := K
  subst hp hb
  exact ⟨s₂, o, XS.i2b X.here hx rfl hd rfl st, r⟩
theorem gi2c (w : W Z own nm bytes mx rt n0 p l e R s m args below meth c k n T h) {v : Int32} (hd : decode bytes pc = .ok (.i2c, 1)) (hp : pc + 1 = pc') (K : Go n0 p e below s Q CC NN T (mkF m pc' Ls (.int (v.toUInt32.toUInt16.toUInt32.toInt32) :: rest))) : Go n0 p e below s Q CC NN T (mkF m pc Ls (.int v :: rest)) := by
  obtain ⟨hx, hb, -, -, -, -, -, -, ⟨L, X, -⟩, -⟩ := w
  obtain ⟨s₂, o, st, r⟩ := K
  subst hp hb
  exact ⟨s₂, o, XS.i2c X.here hx rfl hd rfl st, r⟩
theorem gi2l (w : W Z own nm bytes mx rt n0 p l e R s m args below meth c k n T h) {v : Int32} (hd : decode bytes pc = .ok (.i2l, 1)) (hp : pc + 1 = pc') (K : Go n0 p e below s Q CC NN T (mkF m pc' Ls (.long (v.toInt64) :: rest))) : Go n0 p e below s Q CC NN T (mkF m pc Ls (.int v :: rest)) := by
  obtain ⟨hx, hb, -, -, -, -, -, -, ⟨L, X, -⟩, -⟩ := w
  obtain ⟨s₂, o, st, r⟩ := K
  subst hp hb
  exact ⟨s₂, o, XS.i2l X.here hx rfl hd rfl st, r⟩
theorem gl2i (w : W Z own nm bytes mx rt n0 p l e R s m args below meth c k n T h) {v : Int64} (hd : decode bytes pc = .ok (.l2i, 1)) (hp : pc + 1 = pc') (K : Go n0 p e below s Q CC NN T (mkF m pc' Ls (.int (v.toInt32) :: rest))) : Go n0 p e below s Q CC NN T (mkF m pc Ls (.long v :: rest)) := by
  obtain ⟨hx, hb, -, -, -, -, -, -, ⟨L, X, -⟩, -⟩ := w
  obtain ⟨s₂, o, st, r⟩ := K
  subst hp hb
  exact ⟨s₂, o, XS.l2i X.here hx rfl hd rfl st, r⟩
theorem gdup (w : W Z own nm bytes mx rt n0 p l e R s m args below meth c k n T h) {x : Value} (hd : decode bytes pc = .ok (.dup, 1)) (hc : x.category = 1) (hp : pc + 1 = pc') (K : Go n0 p e below s Q CC NN T (mkF m pc' Ls (x :: x :: rest))) : Go n0 p e below s Q CC NN T (mkF m pc Ls (x :: rest)) := by
  obtain ⟨hx, hb, -, -, -, -, -, -, ⟨L, X, -⟩, -⟩ := w
  obtain ⟨s₂, o, st, r⟩ := K
  subst hp hb
  exact ⟨s₂, o, XS.dup X.here hx rfl hd rfl hc st, r⟩
theorem gpop (w : W Z own nm bytes mx rt n0 p l e R s m args below meth c k n T h) {x : Value} (hd : decode bytes pc = .ok (.pop, 1)) (hc : x.category = 1) (hp : pc + 1 = pc') (K : Go n0 p e below s Q CC NN T (mkF m pc' Ls (rest))) : Go n0 p e below s Q CC NN T (mkF m pc Ls (x :: rest)) := by
  obtain ⟨hx, hb, -, -, -, -, -, -, ⟨L, X, -⟩, -⟩ := w
  obtain ⟨s₂, o, st, r⟩ := K
  subst hp hb
  exact ⟨s₂, o, XS.pop X.here hx rfl hd rfl hc st, r⟩
theorem gdupx1 (w : W Z own nm bytes mx rt n0 p l e R s m args below meth c k n T h) {x y : Value} (hd : decode bytes pc = .ok (.dup_x1, 1)) (hc : x.category = 1) (hc2 : y.category = 1) (hp : pc + 1 = pc') (K : Go n0 p e below s Q CC NN T (mkF m pc' Ls (x :: y :: x :: rest))) : Go n0 p e below s Q CC NN T (mkF m pc Ls (x :: y :: rest)) := by
  obtain ⟨hx, hb, -, -, -, -, -, -, ⟨L, X, -⟩, -⟩ := w
  obtain ⟨s₂, o, st, r⟩ := K
  subst hp hb
  exact ⟨s₂, o, XS.dupX1 X.here hx rfl hd rfl hc hc2 st, r⟩
theorem ggoto (w : W Z own nm bytes mx rt n0 p l e R s m args below meth c k n T h) {o : Int} (hd : decode bytes pc = .ok (.goto o, 3)) (ho : 0 ≤ (pc : Int) + o) (hp : ((pc : Int) + o).toNat = pc') (K : Go n0 p e below s Q CC NN T (mkF m pc' Ls rest)) : Go n0 p e below s Q CC NN T (mkF m pc Ls rest) := by
  obtain ⟨hx, hb, -, -, -, -, -, -, ⟨L, X, -⟩, -⟩ := w
  obtain ⟨s₂, q, st, r⟩ := K
  subst hb
  exact ⟨s₂, q, XS.goto X.here hx rfl rfl hd ho hp st, r⟩
theorem gif (w : W Z own nm bytes mx rt n0 p l e R s m args below meth c k n T h) {cd : ClassFile.Cond} {x : Int32} {o : Int} {pt pf : Nat} (hd : decode bytes pc = .ok (.ifCond cd o, 3)) (ho : 0 ≤ (pc : Int) + o) (ht : ((pc : Int) + o).toNat = pt) (hf : pc + 3 = pf)
    (Kt : cY cd x 0 → Go n0 p e below s Q CC NN T (mkF m pt Ls rest)) (Kf : cN cd x 0 → Go n0 p e below s Q CC NN T (mkF m pf Ls rest)) : Go n0 p e below s Q CC NN T (mkF m pc Ls (.int x :: rest)) := by
  obtain ⟨hx, hb, -, -, -, -, -, -, ⟨L, X, -⟩, -⟩ := w
  subst hb hf
  rcases c_or cd x 0 with ⟨q, q'⟩ | ⟨q, q'⟩
  · obtain ⟨s₂, z, st, r⟩ := Kt q
    exact ⟨s₂, z, XS.ifYes X.here hx rfl rfl hd rfl ((if0 _ _).trans q') ho ht st, r⟩
  · obtain ⟨s₂, z, st, r⟩ := Kf q
    exact ⟨s₂, z, XS.ifNo X.here hx rfl hd rfl ((if0 _ _).trans q') st, r⟩
theorem gicmp (w : W Z own nm bytes mx rt n0 p l e R s m args below meth c k n T h) {cd : ClassFile.Cond} {x y : Int32} {o : Int} {pt pf : Nat} (hd : decode bytes pc = .ok (.if_icmp cd o, 3)) (ho : 0 ≤ (pc : Int) + o) (ht : ((pc : Int) + o).toNat = pt) (hf : pc + 3 = pf)
    (Kt : cY cd x y → Go n0 p e below s Q CC NN T (mkF m pt Ls rest)) (Kf : cN cd x y → Go n0 p e below s Q CC NN T (mkF m pf Ls rest)) : Go n0 p e below s Q CC NN T (mkF m pc Ls (.int y :: .int x :: rest)) := by
  obtain ⟨hx, hb, -, -, -, -, -, -, ⟨L, X, -⟩, -⟩ := w
  subst hb hf
  rcases c_or cd x y with ⟨q, q'⟩ | ⟨q, q'⟩
  · obtain ⟨s₂, z, st, r⟩ := Kt q
    exact ⟨s₂, z, XS.icmpYes X.here hx rfl rfl hd rfl q' ho ht st, r⟩
  · obtain ⟨s₂, z, st, r⟩ := Kf q
    exact ⟨s₂, z, XS.icmpNo X.here hx rfl hd rfl q' st, r⟩
theorem glcmpif (w : W Z own nm bytes mx rt n0 p l e R s m args below meth c k n T h) {cd : ClassFile.Cond} {x y : Int64} {o : Int} {pm pt pf : Nat} (hd0 : decode bytes pc = .ok (.lcmp, 1)) (hm : pc + 1 = pm) (hd : decode bytes pm = .ok (.ifCond cd o, 3)) (ho : 0 ≤ (pm : Int) + o) (ht : ((pm : Int) + o).toNat = pt) (hf : pm + 3 = pf)
    (Kt : lY cd x y → Go n0 p e below s Q CC NN T (mkF m pt Ls rest)) (Kf : lN cd x y → Go n0 p e below s Q CC NN T (mkF m pf Ls rest)) : Go n0 p e below s Q CC NN T (mkF m pc Ls (.long y :: .long x :: rest)) := by
  have K : Go n0 p e below s Q CC NN T (mkF m pm Ls (.int (lcmpW x y) :: rest)) := gif w hd ho ht hf (fun q => Kt (lY_of cd x y q)) (fun q => Kf (lN_of cd x y q))
  obtain ⟨hx, hb, -, -, -, -, -, -, ⟨L, X, -⟩, -⟩ := w
  obtain ⟨s₂, z, st, r⟩ := K
  subst hb hm
  exact ⟨s₂, z, XS.lcmp X.here hx rfl hd0 rfl st, r⟩
theorem gacmp (w : W Z own nm bytes mx rt n0 p l e R s m args below meth c k n T h) {cd : ClassFile.ACond} {x y : Value} {o : Int} {pt pf : Nat} (hd : decode bytes pc = .ok (.if_acmp cd o, 3)) (ho : 0 ≤ (pc : Int) + o) (h1 : x.isRef = true) (h2 : y.isRef = true) (ht : (if acV cd true = true then ((pc : Int) + o).toNat else pc + 3) = pt) (hf : (if acV cd false = true then ((pc : Int) + o).toNat else pc + 3) = pf)
    (Ke : x = y → Go n0 p e below s Q CC NN T (mkF m pt Ls rest)) (Kn : ¬ x = y → Go n0 p e below s Q CC NN T (mkF m pf Ls rest)) : Go n0 p e below s Q CC NN T (mkF m pc Ls (y :: x :: rest)) := by
  obtain ⟨hx, hb, -, -, -, -, -, -, ⟨L, X, -⟩, -⟩ := w
  subst hb
  by_cases q : x = y
  · obtain ⟨s₂, z, st, r⟩ := Ke q
    exact ⟨s₂, z, Jvm.RoadKit.acmp (g := mkF m pc Ls (y :: x :: rest)) X hx rfl h1 h2 (same := true) rfl hd rfl (decide_eq_true q) ho ht.symm st, r⟩
  · obtain ⟨s₂, z, st, r⟩ := Kn q
    exact ⟨s₂, z, Jvm.RoadKit.acmp (g := mkF m pc Ls (y :: x :: rest)) X hx rfl h1 h2 (same := false) rfl hd rfl (decide_eq_false q) ho hf.symm st, r⟩
theorem gifnullY (w : W Z own nm bytes mx rt n0 p l e R s m args below meth c k n T h) {o : Int} (hd : decode bytes pc = .ok (.ifnull o, 3)) (ho : 0 ≤ (pc : Int) + o) (hp : ((pc : Int) + o).toNat = pc') (K : Go n0 p e below s Q CC NN T (mkF m pc' Ls rest)) : Go n0 p e below s Q CC NN T (mkF m pc Ls (.null :: rest)) := by
  obtain ⟨hx, hb, -, -, -, -, -, -, ⟨L, X, -⟩, -⟩ := w
  obtain ⟨s₂, q, st, r⟩ := K
  subst hb
  exact ⟨s₂, q, XS.ifnullYes X.here hx rfl rfl hd rfl ho hp st, r⟩
theorem gifnullN (w : W Z own nm bytes mx rt n0 p l e R s m args below meth c k n T h) {o : Int} {b : Addr} (hd : decode bytes pc = .ok (.ifnull o, 3)) (hp : pc + 3 = pc') (K : Go n0 p e below s Q CC NN T (mkF m pc' Ls rest)) : Go n0 p e below s Q CC NN T (mkF m pc Ls (.ref b :: rest)) := by
  obtain ⟨hx, hb, -, -, -, -, -, -, ⟨L, X, -⟩, -⟩ := w
  obtain ⟨s₂, q, st, r⟩ := K
  subst hb hp
  exact ⟨s₂, q, XS.ifnullNo X.here hx rfl hd rfl st, r⟩
theorem gifnonnullY (w : W Z own nm bytes mx rt n0 p l e R s m args below meth c k n T h) {o : Int} {b : Addr} (hd : decode bytes pc = .ok (.ifnonnull o, 3)) (ho : 0 ≤ (pc : Int) + o) (hp : ((pc : Int) + o).toNat = pc') (K : Go n0 p e below s Q CC NN T (mkF m pc' Ls rest)) : Go n0 p e below s Q CC NN T (mkF m pc Ls (.ref b :: rest)) := by
  obtain ⟨hx, hb, -, -, -, -, -, -, ⟨L, X, -⟩, -⟩ := w
  obtain ⟨s₂, q, st, r⟩ := K
  subst hb
  exact ⟨s₂, q, XS.ifnonnullYes X.here hx rfl rfl hd rfl ho hp st, r⟩
theorem gifnonnullN (w : W Z own nm bytes mx rt n0 p l e R s m args below meth c k n T h) {o : Int} (hd : decode bytes pc = .ok (.ifnonnull o, 3)) (hp : pc + 3 = pc') (K : Go n0 p e below s Q CC NN T (mkF m pc' Ls rest)) : Go n0 p e below s Q CC NN T (mkF m pc Ls (.null :: rest)) := by
  obtain ⟨hx, hb, -, -, -, -, -, -, ⟨L, X, -⟩, -⟩ := w
  obtain ⟨s₂, q, st, r⟩ := K
  subst hb hp
  exact ⟨s₂, q, XS.ifnonnullNo X.here hx rfl hd rfl st, r⟩
theorem gldc2 (w : W Z own nm bytes mx rt n0 p l e R s m args below meth c k n T h) {index : Nat} {v : Int64} (hd : decode bytes pc = .ok (.ldc2_w index, 3)) (w1 : (Jvm.Cond.constantLong own index v).before a0 Z = true) (hp : pc + 3 = pc') (K : Go n0 p e below s Q CC NN T (mkF m pc' Ls (.long v :: rest))) : Go n0 p e below s Q CC NN T (mkF m pc Ls rest) := by
  obtain ⟨hx, hb, hown, hZ, -, -, -, -, ⟨L, X, -⟩, -⟩ := w
  obtain ⟨s₂, q, st, r⟩ := K
  subst hb hp
  exact ⟨s₂, q, X.ldc2Long hx hown (mvT hZ w1) (g := mkF m pc Ls rest) rfl hd _ st, r⟩
theorem gldcI (w : W Z own nm bytes mx rt n0 p l e R s m args below meth c k n T h) {index : Nat} {v : Int32} (hd : decode bytes pc = .ok (.ldc index, 2)) (w1 : (Jvm.Cond.constant own index v).before a0 Z = true) (hp : pc + 2 = pc') (K : Go n0 p e below s Q CC NN T (mkF m pc' Ls (.int v :: rest))) : Go n0 p e below s Q CC NN T (mkF m pc Ls rest) := by
  obtain ⟨hx, hb, hown, hZ, -, -, -, -, ⟨L, X, -⟩, -⟩ := w
  obtain ⟨s₂, q, st, r⟩ := K
  subst hb hp
  exact ⟨s₂, q, X.ldcInt hx hown (mvT hZ w1) (g := mkF m pc Ls rest) rfl hd _ st, r⟩

theorem ggetF (w : W Z own nm bytes mx rt n0 p l e R s m args below meth c k n T h) {index : Nat} {O n' d : String} {a : Addr} {v : Value} (hd : decode bytes pc = .ok (.getfield index, 3)) (w1 : (Jvm.Cond.fieldLink own index O n' d).before a0 Z = true) (F : Fld Z h a O n' d v) (hp : pc + 3 = pc')
    (K : ∀ T', W Z own nm bytes mx rt n0 p l e R s m args below meth c k n T' h → Go n0 p e below s Q CC NN T' (mkF m pc' Ls (v :: rest))) : Go n0 p e below s Q CC NN T (mkF m pc Ls (.ref a :: rest)) := by
  obtain ⟨hx, hb, hown, hZ, r1, r2, r3, r4, ⟨L, X, N⟩, eT⟩ := w
  obtain ⟨T', X', e', st⟩ := getF X hx hZ hown (host := "") (Or.inl w1) Via.refl eT F (g := mkF m pc Ls (.ref a :: rest)) rfl rfl (by rw [hb]; exact hd)
  obtain ⟨s₂, q, st', r⟩ := K T' ⟨hx, hb, hown, hZ, r1, r2, r3, r4, ⟨L, X', N⟩, e'⟩
  subst hp
  exact ⟨s₂, q, st _ st', r⟩
theorem ggetS (w : W Z own nm bytes mx rt n0 p l e R s m args below meth c k n T h) {index : Nat} {O n' d : String} {v : Value} (hd : decode bytes pc = .ok (.getstatic index, 3)) (w1 : (Jvm.Cond.fieldLink own index O n' d).before a0 Z = true) (F : Sta Z h O n' d v) (hp : pc + 3 = pc')
    (K : ∀ T', W Z own nm bytes mx rt n0 p l e R s m args below meth c k n T' h → Go n0 p e below s Q CC NN T' (mkF m pc' Ls (v :: rest))) : Go n0 p e below s Q CC NN T (mkF m pc Ls rest) := by
  obtain ⟨hx, hb, hown, hZ, r1, r2, r3, r4, ⟨L, X, N⟩, eT⟩ := w
  obtain ⟨T', X', e', st⟩ := getS (host := "") X hx hZ hown w1 Via.refl eT F (g := mkF m pc Ls rest) rfl (by rw [hb]; exact hd)
  obtain ⟨s₂, q, st', r⟩ := K T' ⟨hx, hb, hown, hZ, r1, r2, r3, r4, ⟨L, X', N⟩, e'⟩
  subst hp
  exact ⟨s₂, q, st _ st', r⟩
theorem ggetSN (w : W Z own nm bytes mx rt n0 p l e R s m args below meth c k n T h) {index : Nat} {O n' d host : String} {v : Value} (hd : decode bytes pc = .ok (.getstatic index, 3)) (w1 : (Jvm.Cond.fieldLinkNest own index O n' d host).before a0 Z = true) (F : Sta Z h O n' d v) (hp : pc + 3 = pc')
    (K : ∀ T', W Z own nm bytes mx rt n0 p l e R s m args below meth c k n T' h → Go n0 p e below s Q CC NN T' (mkF m pc' Ls (v :: rest))) : Go n0 p e below s Q CC NN T (mkF m pc Ls rest) := by
  obtain ⟨hx, hb, hown, hZ, r1, r2, r3, r4, ⟨L, X, N⟩, eT⟩ := w
  obtain ⟨T', X', e', st⟩ := getS2 X hx hZ hown (Or.inr w1) Via.refl eT F (g := mkF m pc Ls rest) rfl (by rw [hb]; exact hd)
  obtain ⟨s₂, q, st', r⟩ := K T' ⟨hx, hb, hown, hZ, r1, r2, r3, r4, ⟨L, X', N⟩, e'⟩
  subst hp
  exact ⟨s₂, q, st _ st', r⟩
/-- putfield: what is written may be narrowed (v to v') -/
theorem gputF (w : W Z own nm bytes mx rt n0 p l e R s m args below meth c k n T h) {index kk : Nat} {O n' d C : String} {ty : FieldType} {a : Addr} {v v' old : Value} (hd : decode bytes pc = .ok (.putfield index, 3)) (w1 : (Jvm.Cond.fieldLink own index O n' d).before a0 Z = true) (F : Fld Z h a O n' d old) (E : Exa Z h a C)
    (LL : (Jvm.Cond.lays C O n' d).before a0 Z = true ∨ ((Jvm.Cond.laysFinal C O n' d).before a0 Z = true ∧ own = O ∧ nm = "<init>")) (wi : (Jvm.Cond.instantiable C kk).before a0 Z = true) (hty : parseFieldDescriptor d = some ty) (hn : narrow ty v = v') (hf : fits ty v' = true) (hna : n0 ≤ a) (hp : pc + 3 = pc')
    (K : ∀ T' h', W Z own nm bytes mx rt n0 p l e R s m args below meth c k n T' h' → Wr h h' a (Jvm.RoadKit.slotOf Z O n' d) v' → Go n0 p e below s Q CC NN T' (mkF m pc' Ls rest)) : Go n0 p e below s Q CC NN T (mkF m pc Ls (v :: .ref a :: rest)) := by
  obtain ⟨hx, hb, hown, hZ, r1, r2, r3, r4, ⟨L, X, N⟩, eT⟩ := w
  obtain ⟨T', h', X', e', Wx, st⟩ := putFN X hx hZ hown w1 Via.refl eT F E (LL.imp id fun q => ⟨q.1, q.2.1, r2.trans q.2.2⟩) wi hty hn hf (g := mkF m pc Ls (v :: .ref a :: rest)) rfl rfl (by rw [hb]; exact hd)
  obtain ⟨s₂, q, st', r⟩ := K T' h' ⟨hx, hb, hown, hZ, r1, r2, r3, r4, ⟨_, X', Fr.snoc X' N hna⟩, e'⟩ Wx
  subst hp
  exact ⟨s₂, q, st _ st', r⟩
theorem gnewO (w : W Z own nm bytes mx rt n0 p l e R s m args below meth c k n T h) {index j : Nat} {C : String} (hd : decode bytes pc = .ok (.new index, 3)) (w1 : (Jvm.Cond.classLink own index C).before a0 Z = true) (wi : (Jvm.Cond.instantiable C j).before a0 Z = true) (wz : (Jvm.Cond.initialized C).before a0 Z = true) (hc : k + 1 ≤ R.cells) (hl : n + j ≤ R.slots) (hp : pc + 3 = pc')
    (K : ∀ T' h' a, h.size = a → W Z own nm bytes mx rt n0 p l e R s m args below meth c (k + 1) (n + j) T' h' → Ext h h' → Exa Z h' a C → (∀ {O f d : String} {ty : FieldType}, Laid Z a0 C O f d → parseFieldDescriptor d = some ty → Fld Z h' a O f d (defaultValue ty)) → Go n0 p e below s Q CC NN T' (mkF m pc' Ls (.ref a :: rest))) : Go n0 p e below s Q CC NN T (mkF m pc Ls rest) := by
  obtain ⟨hx, hb, hown, hZ, r1, r2, r3, r4, ⟨L, X, N⟩, eT⟩ := w
  obtain ⟨T', h', X', e', E, A, D, -, st⟩ := newO X hx hZ hown w1 wi wz eT (g := mkF m pc Ls rest) rfl (by rw [hb]; exact hd) hc hl
  obtain ⟨s₂, q, st', r⟩ := K T' h' _ rfl ⟨hx, hb, hown, hZ, r1, r2, r3, r4, ⟨_, X', N⟩, e'⟩ E A D
  subst hp
  exact ⟨s₂, q, st _ st', r⟩
theorem gnewP (w : W Z own nm bytes mx rt n0 p l e R s m args below meth c k n T h) {aty : ArrayType} {z : Int32} {cap : Nat} {ty : FieldType} (hd : decode bytes pc = .ok (.newarray aty, 2)) (hty : newarray.typeOf aty = ty) (w1 : (Jvm.Cond.arrayClass ty).before a0 Z = true) (hn : ¬ z < 0) (hcap : z.toNatClampNeg ≤ cap) (hb8 : cap * 8 ≤ 536870912) (hc : k + 1 ≤ R.cells) (hl : n + cap ≤ R.slots) (hp : pc + 2 = pc')
    (K : ∀ T' h' a kA, h.size = a → W Z own nm bytes mx rt n0 p l e R s m args below meth c (k + 1) (n + cap) T' h' → Ext h h' → Arv Z h' a kA ty z [] (defaultValue ty) → Go n0 p e below s Q CC NN T' (mkF m pc' Ls (.ref a :: rest))) : Go n0 p e below s Q CC NN T (mkF m pc Ls (.int z :: rest)) := by
  obtain ⟨hx, hb, hown, hZ, r1, r2, r3, r4, ⟨L, X, N⟩, eT⟩ := w
  subst hty
  obtain ⟨T', h', cA, X', e', E, A, st⟩ := newP X hx hZ w1 eT (g := mkF m pc Ls (.int z :: rest)) rfl (by rw [hb]; exact hd) rfl hn hcap hb8 hc hl
  obtain ⟨s₂, q, st', r⟩ := K T' h' _ cA rfl ⟨hx, hb, hown, hZ, r1, r2, r3, r4, ⟨_, X', N⟩, e'⟩ E (Arv.new A hn)
  subst hp
  exact ⟨s₂, q, st _ st', r⟩
theorem ginitO (w : W Z own nm bytes mx rt n0 p l e R s m args below meth c k n T h) {index : Nat} {a : Addr} {Wt : Nat} (hd : decode bytes pc = .ok (.invokespecial index, 3)) (w1 : (Jvm.Cond.methodLink own index Lib.objectInit).before a0 Z = true) (w2 : (Jvm.Cond.instanceMethod Lib.objectInit).before a0 Z = true) (w3 : (Jvm.Cond.code Lib.objectInit ⟨#[0xb1]⟩ 1 none).before a0 Z = true)
    (hsz : Ls.size = mx) (hf : 1 ≤ R.frames) (hW : (rest.map fun v => v.category).sum ≤ Wt) (hl : Wt + 12 ≤ R.locals) (hp : pc + 3 = pc')
    (K : ∀ T', W Z own nm bytes mx rt n0 p l e R s m args below meth c k n T' h → Go n0 p e below s Q CC NN T' (mkF m pc' Ls rest)) : Go n0 p e below s Q CC NN T (mkF m pc Ls (.ref a :: rest)) := by
  obtain ⟨hx, hb, hown, hZ, r1, r2, r3, r4, ⟨L, X, N⟩, eT⟩ := w
  obtain ⟨T', X', e', st⟩ := initO X hx hZ hown w1 w2 w3 eT (g := mkF m pc Ls (.ref a :: rest)) rfl (hsz.trans r1.symm) rfl (by rw [hb]; exact hd) hf (W := Wt) (by show 2 * 0 + _ ≤ _; omega) hl
  obtain ⟨s₂, q, st', r⟩ := K T' ⟨hx, hb, hown, hZ, r1, r2, r3, r4, ⟨L, X', N⟩, e'⟩
  subst hp
  exact ⟨s₂, q, st _ st', r⟩
theorem glen (w : W Z own nm bytes mx rt n0 p l e R s m args below meth c k n T h) {a : Addr} {kA : ClassId} {ty : FieldType} {z : Int32} {vs : List Value} {dv : Value} (hd : decode bytes pc = .ok (.arraylength, 1)) (V : Arv Z h a kA ty z vs dv) (hp : pc + 1 = pc') (K : Go n0 p e below s Q CC NN T (mkF m pc' Ls (.int z :: rest))) : Go n0 p e below s Q CC NN T (mkF m pc Ls (.ref a :: rest)) := by
  obtain ⟨hx, hb, hown, hZ, r1, r2, r3, r4, ⟨L, X, N⟩, eT⟩ := w
  obtain ⟨cl, A, -, S, N1, -, -⟩ := V
  obtain ⟨s₂, q, st', r⟩ := K
  subst hp
  refine ⟨s₂, q, X.arraylength hx (by rw [eT]; exact A.1) (State.isArrayOf_alike hZ.alike A.2.1) (g := mkF m pc Ls (.ref a :: rest)) rfl rfl (by rw [hb]; exact hd) _ ?_, r⟩
  rw [len_of S N1]
  exact st'

theorem gbaload (w : W Z own nm bytes mx rt n0 p l e R s m args below meth c k n T h) {a : Addr} {kA : ClassId} {z j : Int32} {vs : List Value} {dv v : Value} (hd : decode bytes pc = .ok (.baload, 1)) (V : Arv Z h a kA .byte z vs dv) (hj : ¬ j < 0 ∧ j < z) (hv : vs.getD j.toNatClampNeg dv = v) (hp : pc + 1 = pc') (K : Go n0 p e below s Q CC NN T (mkF m pc' Ls (v :: rest))) : Go n0 p e below s Q CC NN T (mkF m pc Ls (.int j :: .ref a :: rest)) := by
  obtain ⟨hx, hb, hown, hZ, r1, r2, r3, r4, ⟨L, X, N⟩, eT⟩ := w
  obtain ⟨cl, A, -, S, -, H, -⟩ := V
  obtain ⟨s₂, q, st', r⟩ := K
  subst hp
  exact ⟨s₂, q, X.baloadBytes hx (j := j) (v := v) (by rw [eT]; exact A.1) (State.isArrayOf_alike hZ.alike A.2.1) A.2.2 (inb_of S hj) (H.at (inb_of S hj) hv) (g := mkF m pc Ls (.int j :: .ref a :: rest)) rfl rfl (by rw [hb]; exact hd) _ st', r⟩

theorem giaload (w : W Z own nm bytes mx rt n0 p l e R s m args below meth c k n T h) {a : Addr} {kA : ClassId} {z j : Int32} {vs : List Value} {dv v : Value} (hd : decode bytes pc = .ok (.iaload, 1)) (V : Arv Z h a kA .int z vs dv) (hj : ¬ j < 0 ∧ j < z) (hv : vs.getD j.toNatClampNeg dv = v) (hp : pc + 1 = pc') (K : Go n0 p e below s Q CC NN T (mkF m pc' Ls (v :: rest))) : Go n0 p e below s Q CC NN T (mkF m pc Ls (.int j :: .ref a :: rest)) := by
  obtain ⟨hx, hb, hown, hZ, r1, r2, r3, r4, ⟨L, X, N⟩, eT⟩ := w
  obtain ⟨cl, A, -, S, -, H, -⟩ := V
  obtain ⟨s₂, q, st', r⟩ := K
  subst hp
  exact ⟨s₂, q, X.iaload hx (j := j) (v := v) (by rw [eT]; exact A.1) (State.isArrayOf_alike hZ.alike A.2.1) A.2.2 (inb_of S hj) (H.at (inb_of S hj) hv) (g := mkF m pc Ls (.int j :: .ref a :: rest)) rfl rfl (by rw [hb]; exact hd) _ st', r⟩

theorem gbastore (w : W Z own nm bytes mx rt n0 p l e R s m args below meth c k n T h) {a : Addr} {kA : ClassId} {z j x x' : Int32} {vs : List Value} {dv : Value} (hd : decode bytes pc = .ok (.bastore, 1)) (hxv : x.toInt8.toInt32 = x') (V : Arv Z h a kA .byte z vs dv) (hj : ¬ j < 0 ∧ j < z) (i : Nat) (hi : j.toNatClampNeg = i) (hlt : i < vs.length) (hna : n0 ≤ a) (hp : pc + 1 = pc')
    (K : ∀ T' h', W Z own nm bytes mx rt n0 p l e R s m args below meth c k n T' h' → Wr h h' a i (.int x') → Arv Z h' a kA .byte z (vs.set i (.int x')) dv → Go n0 p e below s Q CC NN T' (mkF m pc' Ls rest)) : Go n0 p e below s Q CC NN T (mkF m pc Ls (.int x :: .int j :: .ref a :: rest)) := by
  obtain ⟨hx, hb, hown, hZ, r1, r2, r3, r4, ⟨L, X, N⟩, eT⟩ := w
  obtain ⟨cl, A, q1, S, N1, H, Gf⟩ := V
  subst hxv
  obtain ⟨T', h', X', e', Wx, st⟩ := stB X hx hZ eT A (j := j) (x := x) (inb_of S hj) (g := mkF m pc Ls (.int x :: .int j :: .ref a :: rest)) rfl rfl (by rw [hb]; exact hd)
  obtain ⟨s₂, q, st', r⟩ := K T' h' ⟨hx, hb, hown, hZ, r1, r2, r3, r4, ⟨_, X', Fr.snoc X' N hna⟩, e'⟩ (hi ▸ Wx) (Arv.set A q1 S N1 H Gf (fits_nar_byte _) Wx i hi hlt)
  subst hp
  exact ⟨s₂, q, st _ st', r⟩

theorem giastore (w : W Z own nm bytes mx rt n0 p l e R s m args below meth c k n T h) {a : Addr} {kA : ClassId} {z j x x' : Int32} {vs : List Value} {dv : Value} (hd : decode bytes pc = .ok (.iastore, 1)) (hxv : x = x') (V : Arv Z h a kA .int z vs dv) (hj : ¬ j < 0 ∧ j < z) (i : Nat) (hi : j.toNatClampNeg = i) (hlt : i < vs.length) (hna : n0 ≤ a) (hp : pc + 1 = pc')
    (K : ∀ T' h', W Z own nm bytes mx rt n0 p l e R s m args below meth c k n T' h' → Wr h h' a i (.int x') → Arv Z h' a kA .int z (vs.set i (.int x')) dv → Go n0 p e below s Q CC NN T' (mkF m pc' Ls rest)) : Go n0 p e below s Q CC NN T (mkF m pc Ls (.int x :: .int j :: .ref a :: rest)) := by
  obtain ⟨hx, hb, hown, hZ, r1, r2, r3, r4, ⟨L, X, N⟩, eT⟩ := w
  obtain ⟨cl, A, q1, S, N1, H, Gf⟩ := V
  subst hxv
  obtain ⟨T', h', X', e', Wx, st⟩ := stI X hx hZ eT A (j := j) (x := x) (inb_of S hj) (g := mkF m pc Ls (.int x :: .int j :: .ref a :: rest)) rfl rfl (by rw [hb]; exact hd)
  obtain ⟨s₂, q, st', r⟩ := K T' h' ⟨hx, hb, hown, hZ, r1, r2, r3, r4, ⟨_, X', Fr.snoc X' N hna⟩, e'⟩ (hi ▸ Wx) (Arv.set A q1 S N1 H Gf rfl Wx i hi hlt)
  subst hp
  exact ⟨s₂, q, st _ st', r⟩

theorem gret0 (w : W Z own nm bytes mx none n0 p l e R s m args below meth c k n T h) (hd : decode bytes pc = .ok (.return_, 1)) (hk : k ≤ CC) (hn : n ≤ NN) (hQ : Q none h) : Go n0 p e below s Q CC NN T (mkF m pc Ls []) := by
  obtain ⟨hx, hb, hown, hZ, r1, r2, r3, r4, ⟨L, X, N⟩, eT⟩ := w
  obtain ⟨fs, hr, hrun, hended, hW, hsame⟩ := X.leave (v := none) (fun _ => rfl) r4
  refine ⟨_, _, X.returnOut hx r3 (by rw [hb]; exact hd) hr, hrun, hended, _, _, rfl, ⟨N, ?_⟩, ⟨_, rfl⟩, hW, hsame.mono hk hn⟩
  show Q none T.heap
  rw [eT]; exact hQ
theorem gret {t : FieldType} (w : W Z own nm bytes mx (some t) n0 p l e R s m args below meth c k n T h) {v : Value} {i : Instr} (hd : decode bytes pc = .ok (i, 1)) (hn' : narrow t v = v)
    (hi : (i = .ireturn ∧ (t = .int ∨ t = .boolean ∨ t = .byte ∨ t = .char ∨ t = .short) ∧ ∃ z, v = .int z) ∨ (i = .lreturn ∧ t = .long ∧ ∃ z, v = .long z) ∨ (i = .dreturn ∧ t = .double ∧ ∃ z, v = .double z) ∨ (i = .freturn ∧ t = .float ∧ ∃ z, v = .float z) ∨ (i = .areturn ∧ t.isReference = true ∧ v.isRef = true))
    (hk : k ≤ CC) (hn : n ≤ NN) (hQ : Q (some v) h) : Go n0 p e below s Q CC NN T (mkF m pc Ls (v :: rest)) := by
  obtain ⟨hx, hb, hown, hZ, r1, r2, r3, r4, ⟨L, X, N⟩, eT⟩ := w
  obtain ⟨fs, hr, hrun, hended, hW, hsame⟩ := X.leave (v := some v) (fun q => by rw [r3] at q; cases q) r4
  refine ⟨_, _, retOut X hx r3 hn' hi (by rw [hb]; exact hd) hr, hrun, hended, _, _, rfl, ⟨N, ?_⟩, ⟨_, rfl⟩, hW, hsame.mono hk hn⟩
  show Q (some v) T.heap
  rw [eT]; exact hQ
theorem gretI (w : W Z own nm bytes mx (some .int) n0 p l e R s m args below meth c k n T h) {v : Int32} (hd : decode bytes pc = .ok (.ireturn, 1)) (hk : k ≤ CC) (hn : n ≤ NN) (hQ : Q (some (.int v)) h) : Go n0 p e below s Q CC NN T (mkF m pc Ls (.int v :: rest)) :=
  gret w hd rfl (Or.inl ⟨rfl, Or.inl rfl, _, rfl⟩) hk hn hQ
theorem gretJ (w : W Z own nm bytes mx (some .long) n0 p l e R s m args below meth c k n T h) {v : Int64} (hd : decode bytes pc = .ok (.lreturn, 1)) (hk : k ≤ CC) (hn : n ≤ NN) (hQ : Q (some (.long v)) h) : Go n0 p e below s Q CC NN T (mkF m pc Ls (.long v :: rest)) :=
  gret w hd rfl (Or.inr (Or.inl ⟨rfl, rfl, _, rfl⟩)) hk hn hQ
theorem gretZ (w : W Z own nm bytes mx (some .boolean) n0 p l e R s m args below meth c k n T h) {v : Int32} (hd : decode bytes pc = .ok (.ireturn, 1)) (hv : narrow .boolean (.int v) = .int v) (hk : k ≤ CC) (hn : n ≤ NN) (hQ : Q (some (.int v)) h) : Go n0 p e below s Q CC NN T (mkF m pc Ls (.int v :: rest)) :=
  gret w hd hv (Or.inl ⟨rfl, Or.inr (Or.inl rfl), _, rfl⟩) hk hn hQ
theorem gretB (w : W Z own nm bytes mx (some .byte) n0 p l e R s m args below meth c k n T h) {v : Int32} (hd : decode bytes pc = .ok (.ireturn, 1)) (hv : narrow .byte (.int v) = .int v) (hk : k ≤ CC) (hn : n ≤ NN) (hQ : Q (some (.int v)) h) : Go n0 p e below s Q CC NN T (mkF m pc Ls (.int v :: rest)) :=
  gret w hd hv (Or.inl ⟨rfl, Or.inr (Or.inr (Or.inl rfl)), _, rfl⟩) hk hn hQ
theorem gretA {t : FieldType} (w : W Z own nm bytes mx (some t) n0 p l e R s m args below meth c k n T h) {v : Value} (hd : decode bytes pc = .ok (.areturn, 1)) (ht : t.isReference = true) (hv : v.isRef = true) (hn' : narrow t v = v) (hk : k ≤ CC) (hn : n ≤ NN) (hQ : Q (some v) h) : Go n0 p e below s Q CC NN T (mkF m pc Ls (v :: rest)) :=
  gret w hd hn' (Or.inr (Or.inr (Or.inr (Or.inr ⟨rfl, ht, hv⟩)))) hk hn hQ

theorem gcast (w : W Z own nm bytes mx rt n0 p l e R s m args below meth c k n T h) {index : Nat} {Kc : String} {a : Addr} (hd : decode bytes pc = .ok (.checkcast index, 3)) (w1 : (Jvm.Cond.classLink own index Kc).before a0 Z = true) (F : Ins Z h a Kc true) (hp : pc + 3 = pc')
    (K : ∀ T', W Z own nm bytes mx rt n0 p l e R s m args below meth c k n T' h → Go n0 p e below s Q CC NN T' (mkF m pc' Ls (.ref a :: rest))) : Go n0 p e below s Q CC NN T (mkF m pc Ls (.ref a :: rest)) := by
  obtain ⟨hx, hb, hown, hZ, r1, r2, r3, r4, ⟨L, X, N⟩, eT⟩ := w
  obtain ⟨T', X', e', st⟩ := castY X hx hZ hown w1 eT F (g := mkF m pc Ls (.ref a :: rest)) rfl rfl (by rw [hb]; exact hd)
  obtain ⟨s₂, q, st', r⟩ := K T' ⟨hx, hb, hown, hZ, r1, r2, r3, r4, ⟨L, X', N⟩, e'⟩
  subst hp
  exact ⟨s₂, q, st _ st', r⟩
theorem ginstY (w : W Z own nm bytes mx rt n0 p l e R s m args below meth c k n T h) {index : Nat} {Kc : String} {a : Addr} (hd : decode bytes pc = .ok (.instanceof index, 3)) (w1 : (Jvm.Cond.classLink own index Kc).before a0 Z = true) (F : Ins Z h a Kc true) (hp : pc + 3 = pc')
    (K : ∀ T', W Z own nm bytes mx rt n0 p l e R s m args below meth c k n T' h → Go n0 p e below s Q CC NN T' (mkF m pc' Ls (.int 1 :: rest))) : Go n0 p e below s Q CC NN T (mkF m pc Ls (.ref a :: rest)) := by
  obtain ⟨hx, hb, hown, hZ, r1, r2, r3, r4, ⟨L, X, N⟩, eT⟩ := w
  obtain ⟨T', X', e', st⟩ := instY X hx hZ hown w1 eT F (g := mkF m pc Ls (.ref a :: rest)) rfl rfl (by rw [hb]; exact hd)
  obtain ⟨s₂, q, st', r⟩ := K T' ⟨hx, hb, hown, hZ, r1, r2, r3, r4, ⟨L, X', N⟩, e'⟩
  subst hp
  exact ⟨s₂, q, st _ st', r⟩

theorem gcallS (w : W Z own nm bytes mx rt n0 p l e R s m args below meth c k n T h) {index : Nat} {y : MethodName} {yb : ByteArray} {ymx : Nat} {yr : Option FieldType} {rm : Room} {as : Array Value} {Q' : Option Value → Heap → Prop} {argsL : List Value} {stk : List Value} {ps : List FieldType} {ro : Option FieldType} {Wt : Nat} (hd : decode bytes pc = .ok (.invokestatic index, 3)) (w1 : (Jvm.Cond.methodLink own index y).before a0 Z = true) (w2 : (Jvm.Cond.static y).before a0 Z = true) (w3 : (Jvm.Cond.initialized y.cls).before a0 Z = true) (w4 : (Jvm.Cond.code y yb ymx yr).before a0 Z = true)
    (hy : y.cls ≠ "java/lang/invoke/MethodHandle" ∧ y.cls ≠ "java/lang/invoke/VarHandle") (hpd : parseMethodDescriptor y.desc = some ⟨ps, ro⟩) (ctr : Ctr l y yb ymx yr rm Z as h n0 Q' []) (has : argsL.toArray = as) (hlen : argsL.length = ps.length) (hst : stk = argsL.reverse ++ rest) (hsz : Ls.size = mx) (hW : (rest.map fun v => v.category).sum ≤ Wt) (hf : rm.frames + 1 ≤ R.frames) (hl : Wt + (ymx + 11) + rm.locals ≤ R.locals) (hc : k + rm.cells ≤ R.cells) (hs : n + rm.slots ≤ R.slots) (hp : pc + 3 = pc')
    (K : ∀ v T' h', W Z own nm bytes mx rt n0 p l e R s m args below meth c (k + rm.cells) (n + rm.slots) T' h' → Q' v h' → Go n0 p e below s Q CC NN T' (mkF m pc' Ls (v.toList ++ rest))) : Go n0 p e below s Q CC NN T (mkF m pc Ls stk) := by
  obtain ⟨hx, hb, hown, hZ, r1, r2, r3, r4, ⟨L, X, N⟩, eT⟩ := w
  obtain ⟨v, _, ⟨T', L', k', n'⟩, -, X', ⟨Lc, hQ, hl1, hc1, hs1⟩, st⟩ := Jvm.LawKit.callS X hx (y := y) hown (mvT hZ w1) (mvT hZ w2) (mvT hZ w3) (mvT hZ w4) hy (backOf (W := Wt) (Q := fun v h L => Fr n0 L ∧ Q' v h) ctr hZ w4 w3 hf hl) (g := mkF m pc Ls stk) rfl (hsz.trans r1.symm) (argsL := argsL) (rest := rest) (lenOf hpd hlen) hst (by show 2 * 0 + _ ≤ _; omega) (by rw [hb]; exact hd) (fun _ _ => ⟨has, eT, hc, hs⟩)
  dsimp only [Pt.U, Pt.locs, Pt.cells, Pt.slots] at X' st hQ hl1 hc1 hs1
  subst hl1 hc1 hs1
  obtain ⟨s₂, q, st', r⟩ := K v T' T'.heap ⟨hx, hb, hown, hZ, r1, r2, r3, r4, ⟨_, X', Fr.app N hQ.1⟩, rfl⟩ hQ.2
  subst hp
  exact ⟨s₂, q, st _ st', r⟩
theorem gcallN (w : W Z own nm bytes mx rt n0 p l e R s m args below meth c k n T h) {index : Nat} {y : MethodName} {yb : ByteArray} {ymx : Nat} {rm : Room} {as : Array Value} {Q' : Option Value → Heap → Prop} {argsL : List Value} {stk : List Value} {ps : List FieldType} {ro : Option FieldType} {Wt : Nat} {a : Addr} (hd : decode bytes pc = .ok (.invokespecial index, 3)) (w1 : (Jvm.Cond.methodLink own index y).before a0 Z = true) (w2 : (Jvm.Cond.instanceMethod y).before a0 Z = true) (w3 : (Jvm.Cond.initialized y.cls).before a0 Z = true) (w4 : (Jvm.Cond.code y yb ymx none).before a0 Z = true) (hyn : y.name = "<init>")
    (hy : y.cls ≠ "java/lang/invoke/MethodHandle" ∧ y.cls ≠ "java/lang/invoke/VarHandle") (hpd : parseMethodDescriptor y.desc = some ⟨ps, ro⟩) (ctr : Ctr l y yb ymx none rm Z as h n0 Q' []) (has : (.ref a :: argsL).toArray = as) (hlen : argsL.length = ps.length) (hst : stk = argsL.reverse ++ .ref a :: rest) (hsz : Ls.size = mx) (hW : (rest.map fun v => v.category).sum ≤ Wt) (hf : rm.frames + 1 ≤ R.frames) (hl : Wt + (ymx + 11) + rm.locals ≤ R.locals) (hc : k + rm.cells ≤ R.cells) (hs : n + rm.slots ≤ R.slots) (hp : pc + 3 = pc')
    (K : ∀ v T' h', W Z own nm bytes mx rt n0 p l e R s m args below meth c (k + rm.cells) (n + rm.slots) T' h' → Q' v h' → Go n0 p e below s Q CC NN T' (mkF m pc' Ls (v.toList ++ rest))) : Go n0 p e below s Q CC NN T (mkF m pc Ls stk) := by
  obtain ⟨hx, hb, hown, hZ, r1, r2, r3, r4, ⟨L, X, N⟩, eT⟩ := w
  obtain ⟨v, _, ⟨T', L', k', n'⟩, -, X', ⟨Lc, hQ, hl1, hc1, hs1⟩, st⟩ := X.specialBack hx (y := y) hyn hown (mvT hZ w1) (mvT hZ w2) (mvT hZ w4) hy (backOf (W := Wt) (Q := fun v h L => Fr n0 L ∧ Q' v h) ctr hZ w4 w3 hf hl) (g := mkF m pc Ls stk) rfl (hsz.trans r1.symm) (Steps.refl _) (a := a) (argsL := argsL) (rest := rest) (lenOf hpd hlen) hst (by show 2 * 0 + _ ≤ _; omega) (by rw [hb]; exact hd) (fun _ _ => ⟨has, eT, hc, hs⟩)
  dsimp only [Pt.U, Pt.locs, Pt.cells, Pt.slots] at X' st hQ hl1 hc1 hs1
  subst hl1 hc1 hs1
  obtain ⟨s₂, q, st', r⟩ := K v T' T'.heap ⟨hx, hb, hown, hZ, r1, r2, r3, r4, ⟨_, X', Fr.app N hQ.1⟩, rfl⟩ hQ.2
  subst hp
  exact ⟨s₂, q, st.trans st', r⟩
theorem gcallV (w : W Z own nm bytes mx rt n0 p l e R s m args below meth c k n T h) {index : Nat} {y : MethodName} {yb : ByteArray} {ymx : Nat} {yr : Option FieldType} {rm : Room} {as : Array Value} {Q' : Option Value → Heap → Prop} {argsL : List Value} {stk : List Value} {ps : List FieldType} {ro : Option FieldType} {Wt : Nat} {a : Addr} {C : String} (hd : decode bytes pc = .ok (.invokevirtual index, 3)) (w1 : (Jvm.Cond.methodLink own index y).before a0 Z = true) (w2 : (Jvm.Cond.declares y).before a0 Z = true) (w5 : (Jvm.Cond.selects C y y).before a0 Z = true) (w6 : (Jvm.Cond.instanceMethod y).before a0 Z = true) (w3 : (Jvm.Cond.initialized y.cls).before a0 Z = true) (w4 : (Jvm.Cond.code y yb ymx yr).before a0 Z = true)
    (E : Exa Z h a C) (hC : y.cls = C) (hy : y.cls ≠ "java/lang/invoke/MethodHandle" ∧ y.cls ≠ "java/lang/invoke/VarHandle") (hpd : parseMethodDescriptor y.desc = some ⟨ps, ro⟩) (ctr : Ctr l y yb ymx yr rm Z as h n0 Q' []) (has : (.ref a :: argsL).toArray = as) (hlen : argsL.length = ps.length) (hst : stk = argsL.reverse ++ .ref a :: rest) (hsz : Ls.size = mx) (hW : (rest.map fun v => v.category).sum ≤ Wt) (hf : rm.frames + 1 ≤ R.frames) (hl : Wt + (ymx + 11) + rm.locals ≤ R.locals) (hc : k + rm.cells ≤ R.cells) (hs : n + rm.slots ≤ R.slots) (hp : pc + 3 = pc')
    (K : ∀ v T' h', W Z own nm bytes mx rt n0 p l e R s m args below meth c (k + rm.cells) (n + rm.slots) T' h' → Q' v h' → Go n0 p e below s Q CC NN T' (mkF m pc' Ls (v.toList ++ rest))) : Go n0 p e below s Q CC NN T (mkF m pc Ls stk) := by
  obtain ⟨hx, hb, hown, hZ, r1, r2, r3, r4, ⟨L, X, N⟩, eT⟩ := w
  obtain ⟨cq, kq, qa, qb, qc⟩ := isOf hZ eT E
  subst hC
  obtain ⟨v, _, ⟨T', L', k', n'⟩, -, X', ⟨Lc, hQ, hl1, hc1, hs1⟩, st⟩ := X.virtualBack hx (y := y) (z := y) hown (mvT hZ w1) (mvT hZ w2) (notFace_of_selects (args := #[]) (mvT hZ w5)) (mvT hZ w5) (mvT hZ w6) hy (backOf (W := Wt) (Q := fun v h L => Fr n0 L ∧ Q' v h) ctr hZ w4 w3 hf hl) qa qc (g := mkF m pc Ls stk) rfl (hsz.trans r1.symm) (Steps.refl _) (argsL := argsL) (rest := rest) (lenOf hpd hlen) hst (by show 2 * 0 + _ ≤ _; omega) (by rw [hb]; exact hd) (fun _ _ => ⟨has, eT, hc, hs⟩)
  dsimp only [Pt.U, Pt.locs, Pt.cells, Pt.slots] at X' st hQ hl1 hc1 hs1
  subst hl1 hc1 hs1
  obtain ⟨s₂, q, st', r⟩ := K v T' T'.heap ⟨hx, hb, hown, hZ, r1, r2, r3, r4, ⟨_, X', Fr.app N hQ.1⟩, rfl⟩ hQ.2
  subst hp
  exact ⟨s₂, q, st.trans st', r⟩
theorem gaaload (w : W Z own nm bytes mx rt n0 p l e R s m args below meth c k n T h) {a : Addr} {cl : Cell} {ty : FieldType} {j : Int32} {v : Value} (hd : decode bytes pc = .ok (.aaload, 1)) (A : Arr Z h a cl ty) (hty : ty.isReference = true) (hin : ¬ (j < 0 ∨ cl.slots.size ≤ j.toNatClampNeg)) (hv : cl.slots[j.toNatClampNeg]? = some v) (hp : pc + 1 = pc') (K : Go n0 p e below s Q CC NN T (mkF m pc' Ls (v :: rest))) : Go n0 p e below s Q CC NN T (mkF m pc Ls (.int j :: .ref a :: rest)) := by
  obtain ⟨hx, hb, hown, hZ, r1, r2, r3, r4, ⟨L, X, N⟩, eT⟩ := w
  obtain ⟨s₂, q, st', r⟩ := K
  subst hp
  exact ⟨s₂, q, X.aaload hx (j := j) (v := v) (by rw [eT]; exact A.1) (State.isArrayOf_alike hZ.alike A.2.1) hty A.2.2 hin hv (g := mkF m pc Ls (.int j :: .ref a :: rest)) rfl rfl (by rw [hb]; exact hd) _ st', r⟩
theorem glenA (w : W Z own nm bytes mx rt n0 p l e R s m args below meth c k n T h) {a : Addr} {cl : Cell} {ty : FieldType} {z : Int32} (hd : decode bytes pc = .ok (.arraylength, 1)) (A : Arr Z h a cl ty) (hz : cl.slots.size.toInt32 = z) (hp : pc + 1 = pc') (K : Go n0 p e below s Q CC NN T (mkF m pc' Ls (.int z :: rest))) : Go n0 p e below s Q CC NN T (mkF m pc Ls (.ref a :: rest)) := by
  obtain ⟨hx, hb, hown, hZ, r1, r2, r3, r4, ⟨L, X, N⟩, eT⟩ := w
  obtain ⟨s₂, q, st', r⟩ := K
  subst hp hz
  exact ⟨s₂, q, X.arraylength hx (by rw [eT]; exact A.1) (State.isArrayOf_alike hZ.alike A.2.1) (g := mkF m pc Ls (.ref a :: rest)) rfl rfl (by rw [hb]; exact hd) _ st', r⟩
theorem gclone (w : W Z own nm bytes mx rt n0 p l e R s m args below meth c k n T h) {index Wt cap : Nat} {ad : String} {a : Addr} {cl : Cell} {ty : FieldType} (hd : decode bytes pc = .ok (.invokevirtual index, 3)) (w1 : (Jvm.Cond.methodLink own index ⟨ad, "clone", "()Ljava/lang/Object;"⟩).before a0 Z = true) (w2 : (Jvm.Cond.sameMethod ad "java/lang/Object" "clone" "()Ljava/lang/Object;").before a0 Z = true) (w3 : (Jvm.Cond.native ⟨"java/lang/Object", "clone", "()Ljava/lang/Object;"⟩).before a0 Z = true)
    (w4 : (Jvm.Cond.instanceMethod ⟨"java/lang/Object", "clone", "()Ljava/lang/Object;"⟩).before a0 Z = true) (w5 : (Jvm.Cond.selects ad ⟨ad, "clone", "()Ljava/lang/Object;"⟩ ⟨"java/lang/Object", "clone", "()Ljava/lang/Object;"⟩).before a0 Z = true) (w6 : (Jvm.Cond.castable ad "java/lang/Cloneable").before a0 Z = true)
    (A : Arr Z h a cl ty) (E : Exa Z h a ad) (F : FitC Z cl) (hsz : Ls.size = mx) (hf : 1 ≤ R.frames) (hW : (rest.map fun v => v.category).sum ≤ Wt) (hl : Wt + 14 ≤ R.locals) (hcap : cl.slots.size ≤ cap) (hc : k + 1 ≤ R.cells) (hsl : n + cap ≤ R.slots) (hp : pc + 3 = pc')
    (K : ∀ T' h' a', h.size = a' → W Z own nm bytes mx rt n0 p l e R s m args below meth c (k + 1) (n + cap) T' h' → Ext h h' → Arr Z h' a' (cloneOf cl) ty → Exa Z h' a' ad → Go n0 p e below s Q CC NN T' (mkF m pc' Ls (.ref a' :: rest))) : Go n0 p e below s Q CC NN T (mkF m pc Ls (.ref a :: rest)) := by
  obtain ⟨hx, hb, hown, hZ, r1, r2, r3, r4, ⟨L, X, N⟩, eT⟩ := w
  obtain ⟨T', h', X', e', Ex, A', E', st⟩ := cloneA X hx hZ hown w1 w2 w3 w4 w5 w6 eT A E F (g := mkF m pc Ls (.ref a :: rest)) rfl (hsz.trans r1.symm) rfl (by rw [hb]; exact hd) hf (W := Wt) (by show 2 * 0 + _ ≤ _; omega) hl hcap hc hsl
  obtain ⟨s₂, q, st', r⟩ := K T' h' _ rfl ⟨hx, hb, hown, hZ, r1, r2, r3, r4, ⟨_, X', N⟩, e'⟩ Ex A' E'
  subst hp
  exact ⟨s₂, q, st _ st', r⟩
theorem metGoH {y : MethodName} {rm : Room} {as : Array Value} {ws : List Jvm.Cond} (hpn : plainFor y = true) (hef : ∀ m, entryFrame m as mx = mkF m 0 Ls [])
    (H : ∀ (p : Program) (e : Env) (s : State) (m : MethodId) (below : List Frame) (meth : Method) (c : Code) (T : State), W Z y.cls y.name bytes mx rt n0 p l e rm s m as below meth c 0 0 T h → s.heap = h → Go n0 p e below s Q rm.cells rm.slots T (mkF m 0 Ls [])) : Ctr l y bytes mx rt rm Z as h n0 Q ws := by
  refine MetFree.of_bodySF hpn hisR ?_
  intro p e s m args below meth c s₁ Bd hml0 hP hK
  obtain ⟨rfl, hZ, hh⟩ := hP
  have e0 : s₁.heap = h := by rw [← hh, Bd.state]; rfl
  obtain ⟨s₂, o, st, r⟩ := H p e s m below meth c s₁ ⟨Bd.exec, Bd.bytes, findClass_of_methodNamed Bd.named, hZ, hml0, (name_of_methodNamed Bd.named Bd.method).1, Bd.returns, Bd.notSynchronized, ⟨[], Stand.of_body Bd, Fr.nil n0⟩, e0⟩ hh
  exact ⟨s₂, o, castTop (hef m) st, r⟩
theorem ginst0 (w : W Z own nm bytes mx rt n0 p l e R s m args below meth c k n T h) {index : Nat} (hd : decode bytes pc = .ok (.instanceof index, 3)) (hp : pc + 3 = pc') (K : Go n0 p e below s Q CC NN T (mkF m pc' Ls (.int 0 :: rest))) : Go n0 p e below s Q CC NN T (mkF m pc Ls (.null :: rest)) := by
  obtain ⟨hx, hb, -, -, -, -, -, -, ⟨L, X, -⟩, -⟩ := w
  obtain ⟨s₂, q, st, r⟩ := K
  subst hb hp
  exact ⟨s₂, q, X.instanceofNull hx (g := mkF m pc Ls (.null :: rest)) rfl rfl hd _ st, r⟩
theorem ginstN (w : W Z own nm bytes mx rt n0 p l e R s m args below meth c k n T h) (hs : s.heap = h) {index : Nat} {Kc C : String} {a : Addr} (hd : decode bytes pc = .ok (.instanceof index, 3)) (w1 : (Jvm.Cond.classLink own index Kc).before a0 Z = true) (F : Ins Z h a Kc false) (E : Exa Z h a C) (hp : pc + 3 = pc')
    (K : ∀ T', W Z own nm bytes mx rt n0 p l e R s m args below meth c k n T' h → Go n0 p e below s Q CC NN T' (mkF m pc' Ls (.int 0 :: rest))) : Go n0 p e below s Q CC NN T (mkF m pc Ls (.ref a :: rest)) := by
  obtain ⟨hx, hb, hown, hZ, r1, r2, r3, r4, ⟨L, X, N⟩, eT⟩ := w
  obtain ⟨T', X', e', st⟩ := instN X hx hZ hown w1 eT (hs ▸ F) (hs ▸ E) (g := mkF m pc Ls (.ref a :: rest)) rfl rfl (by rw [hb]; exact hd)
  obtain ⟨s₂, q, st', r⟩ := K T' ⟨hx, hb, hown, hZ, r1, r2, r3, r4, ⟨L, X', N⟩, e'⟩
  subst hp
  exact ⟨s₂, q, st _ st', r⟩
theorem gcopy (w : W Z own nm bytes mx rt n0 p l e R s m args below meth c k n T h) {index Wt : Nat} {a b : Addr} {ka kb : ClassId} {z z' sp dp nn : Int32} {vs vd : List Value} {dv dd : Value} (hd : decode bytes pc = .ok (.invokestatic index, 3)) (w1 : (Jvm.Cond.methodLink own index Jvm.Stand.acN).before a0 Z = true) (w2 : (Jvm.Cond.native Jvm.Stand.acN).before a0 Z = true) (w3 : (Jvm.Cond.static Jvm.Stand.acN).before a0 Z = true) (w4 : (Jvm.Cond.initialized "java/lang/System").before a0 Z = true)
    (A : Arv Z h a ka .byte z vs dv) (B : Arv Z h b kb .byte z' vd dd) (h1 : ¬ sp < 0) (h2 : ¬ dp < 0) (h3 : ¬ nn < 0) (h4 : sp.toNatClampNeg + nn.toNatClampNeg ≤ z.toNatClampNeg) (h5 : dp.toNatClampNeg + nn.toNatClampNeg ≤ z'.toNatClampNeg) (hlv : dp.toNatClampNeg + nn.toNatClampNeg ≤ vd.length) (ge : n0 ≤ b)
    (hsz : Ls.size = mx) (hf : 1 ≤ R.frames) (hW : (rest.map fun v => v.category).sum ≤ Wt) (hlo : Wt + (nativeFrameWords "java/lang/System" "arraycopy" 5 + 11) ≤ R.locals) (hp : pc + 3 = pc')
    (K : ∀ T' h' us, W Z own nm bytes mx rt n0 p l e R s m args below meth c k n T' h' → Keep h h' [b] → us.length = nn.toNatClampNeg → Arv Z h' b kb .byte z' (vd.take dp.toNatClampNeg ++ us ++ vd.drop (dp.toNatClampNeg + nn.toNatClampNeg)) dd → Go n0 p e below s Q CC NN T' (mkF m pc' Ls rest)) : Go n0 p e below s Q CC NN T (mkF m pc Ls (.int nn :: .int dp :: .ref b :: .int sp :: .ref a :: rest)) := by
  obtain ⟨hx, hb, hown, hZ, r1, r2, r3, r4, ⟨L, X, N⟩, eT⟩ := w
  obtain ⟨T', h', L', X', e', N', Kp, V', st⟩ := cpA X hx hZ hown w1 w2 w3 w4 eT A B (Or.inl ⟨rfl, rfl⟩) h1 h2 h3 h4 h5 rfl hlv N ge (g := mkF m pc Ls (.int nn :: .int dp :: .ref b :: .int sp :: .ref a :: rest)) rfl (hsz.trans r1.symm) rfl (by rw [hb]; exact hd) hf (W := Wt) (by show 2 * 0 + _ ≤ _; omega) hlo
  obtain ⟨s₂, q, st', r⟩ := K T' h' _ ⟨hx, hb, hown, hZ, r1, r2, r3, r4, ⟨_, X', N'⟩, e'⟩ Kp (by rw [List.length_map, List.length_range]) V'
  subst hp
  exact ⟨s₂, q, st _ st', r⟩
theorem gifnullV (w : W Z own nm bytes mx rt n0 p l e R s m args below meth c k n T h) {v : Value} {o : Int} {pt pf : Nat} (hd : decode bytes pc = .ok (.ifnull o, 3)) (ho : 0 ≤ (pc : Int) + o) (ht : ((pc : Int) + o).toNat = pt) (hf : pc + 3 = pf) (hv : v.isRef = true) (Kt : v = .null → Go n0 p e below s Q CC NN T (mkF m pt Ls rest)) (Kf : ¬ v = .null → Go n0 p e below s Q CC NN T (mkF m pf Ls rest)) : Go n0 p e below s Q CC NN T (mkF m pc Ls (v :: rest)) := by
  rcases ref_cases hv with rfl | ⟨a, rfl⟩
  · exact gifnullY w hd ho ht (Kt rfl)
  · exact gifnullN w hd hf (Kf nofun)
theorem wmono (w : W Z own nm bytes mx rt n0 p l e R s m args below meth c k n T h) {k' n' : Nat} (hk : k ≤ k') (hn : n ≤ n') : W Z own nm bytes mx rt n0 p l e R s m args below meth c k' n' T h := by
  obtain ⟨hx, hb, hown, hZ, r1, r2, r3, r4, ⟨L, X, N⟩, eT⟩ := w
  exact ⟨hx, hb, hown, hZ, r1, r2, r3, r4, ⟨L, ⟨X.admits, X.cas, X.clock, X.frames, X.room, X.hears, X.method, X.code, X.here, X.tail, X.warmed, X.limits, X.bytes, X.same.mono hk hn⟩, N⟩, eT⟩
theorem gcallP (w : W Z own nm bytes mx rt n0 p l e R s m args below meth c k n T h) {index : Nat} {y : MethodName} {yb : ByteArray} {ymx : Nat} {yr : Option FieldType} {rm : Room} {as : Array Value} {Q' : Option Value → Heap → Prop} {argsL : List Value} {stk : List Value} {ps : List FieldType} {ro : Option FieldType} {Wt : Nat} {a : Addr} {C : String} {ji : Nat} (hd : decode bytes pc = .ok (.invokevirtual index, 3)) (w1 : (Jvm.Cond.methodLink own index y).before a0 Z = true) (w2 : (Jvm.Cond.instanceMethod y).before a0 Z = true) (w5 : (Jvm.Cond.instantiable y.cls ji).before a0 Z = true) (w6 : (Jvm.Cond.privateMethod y).before a0 Z = true) (w3 : (Jvm.Cond.initialized y.cls).before a0 Z = true) (w4 : (Jvm.Cond.code y yb ymx yr).before a0 Z = true)
    (E : Exa Z h a C) (hy : y.cls ≠ "java/lang/invoke/MethodHandle" ∧ y.cls ≠ "java/lang/invoke/VarHandle") (hpd : parseMethodDescriptor y.desc = some ⟨ps, ro⟩) (ctr : Ctr l y yb ymx yr rm Z as h n0 Q' []) (has : (.ref a :: argsL).toArray = as) (hlen : argsL.length = ps.length) (hst : stk = argsL.reverse ++ .ref a :: rest) (hsz : Ls.size = mx) (hW : (rest.map fun v => v.category).sum ≤ Wt) (hf : rm.frames + 1 ≤ R.frames) (hl : Wt + (ymx + 11) + rm.locals ≤ R.locals) (hc : k + rm.cells ≤ R.cells) (hs : n + rm.slots ≤ R.slots) (hp : pc + 3 = pc')
    (K : ∀ v T' h', W Z own nm bytes mx rt n0 p l e R s m args below meth c (k + rm.cells) (n + rm.slots) T' h' → Q' v h' → Go n0 p e below s Q CC NN T' (mkF m pc' Ls (v.toList ++ rest))) : Go n0 p e below s Q CC NN T (mkF m pc Ls stk) := by
  obtain ⟨hx, hb, hown, hZ, r1, r2, r3, r4, ⟨L, X, N⟩, eT⟩ := w
  obtain ⟨cq, qa, qb⟩ := E.cell
  obtain ⟨ci, ki, i1, i2, -, i4, -, -⟩ := Cond.instantiable_spec (mvT hZ w5 (args := #[]))
  have hni : ki.isInterface = false := (Bool.or_eq_false_iff.mp i4).1
  have hpr := Cond.privateMethod_at (mvP hZ w6 (args := #[]))
  have hsel := selects_self_of_private (args := args) i1 i2 hni hpr (mvT hZ w2) hy
  obtain ⟨v, _, ⟨T', L', k', n'⟩, -, X', ⟨Lc, hQ, hl1, hc1, hs1⟩, st⟩ := X.privateBack hx (y := y) hown (mvT hZ w1) (mvT hZ w2) hsel hpr (mvT hZ w4) hy (backOf (W := Wt) (Q := fun v h L => Fr n0 L ∧ Q' v h) ctr hZ w4 w3 hf hl) (g := mkF m pc Ls stk) rfl (hsz.trans r1.symm) (Steps.refl _) (a := a) (by rw [eT]; exact qa) qb (argsL := argsL) (rest := rest) (lenOf hpd hlen) hst (by show 2 * 0 + _ ≤ _; omega) (by rw [hb]; exact hd) (fun _ _ => ⟨has, eT, hc, hs⟩)
  dsimp only [Pt.U, Pt.locs, Pt.cells, Pt.slots] at X' st hQ hl1 hc1 hs1
  subst hl1 hc1 hs1
  obtain ⟨s₂, q, st', r⟩ := K v T' T'.heap ⟨hx, hb, hown, hZ, r1, r2, r3, r4, ⟨_, X', Fr.app N hQ.1⟩, rfl⟩ hQ.2
  subst hp
  exact ⟨s₂, q, st.trans st', r⟩
theorem ref_cat {v : Value} (h : v.isRef = true) : v.category = 1 := by
  rcases ref_cases h with rfl | ⟨a, rfl⟩ <;> rfl
theorem own_bb (y : Int32) : y.toInt8.toInt32.toInt8.toInt32 = y.toInt8.toInt32 := by rw [Int8.toInt8_toInt32]
end GoKit

theorem d2_0 : decode prog_98_method_8_code 0 = .ok (.lconst 0, 1) := by decide +kernel
theorem d2_1 : decode prog_98_method_8_code 1 = .ok (.lstore_n 1, 1) := by decide +kernel
theorem d2_2 : decode prog_98_method_8_code 2 = .ok (.bipush 9, 2) := by decide +kernel
theorem d2_4 : decode prog_98_method_8_code 4 = .ok (.istore_n 3, 1) := by decide +kernel
theorem d2_5 : decode prog_98_method_8_code 5 = .ok (.iload_n 3, 1) := by decide +kernel
theorem d2_6 : decode prog_98_method_8_code 6 = .ok (.bipush 17, 2) := by decide +kernel
theorem d2_8 : decode prog_98_method_8_code 8 = .ok (.if_icmp .ge 23, 3) := by decide +kernel
theorem d2_11 : decode prog_98_method_8_code 11 = .ok (.lload_n 1, 1) := by decide +kernel
theorem d2_12 : decode prog_98_method_8_code 12 = .ok (.bipush 8, 2) := by decide +kernel
theorem d2_14 : decode prog_98_method_8_code 14 = .ok (.lshl, 1) := by decide +kernel
theorem d2_15 : decode prog_98_method_8_code 15 = .ok (.aload_n 0, 1) := by decide +kernel
theorem d2_16 : decode prog_98_method_8_code 16 = .ok (.iload_n 3, 1) := by decide +kernel
theorem d2_17 : decode prog_98_method_8_code 17 = .ok (.baload, 1) := by decide +kernel
theorem d2_18 : decode prog_98_method_8_code 18 = .ok (.sipush 255, 3) := by decide +kernel
theorem d2_21 : decode prog_98_method_8_code 21 = .ok (.iand, 1) := by decide +kernel
theorem d2_22 : decode prog_98_method_8_code 22 = .ok (.i2l, 1) := by decide +kernel
theorem d2_23 : decode prog_98_method_8_code 23 = .ok (.lor, 1) := by decide +kernel
theorem d2_24 : decode prog_98_method_8_code 24 = .ok (.lstore_n 1, 1) := by decide +kernel
theorem d2_25 : decode prog_98_method_8_code 25 = .ok (.iinc 3 1, 3) := by decide +kernel
theorem d2_28 : decode prog_98_method_8_code 28 = .ok (.goto (-23), 3) := by decide +kernel
theorem d2_31 : decode prog_98_method_8_code 31 = .ok (.lload_n 1, 1) := by decide +kernel
theorem d2_32 : decode prog_98_method_8_code 32 = .ok (.lreturn, 1) := by decide +kernel
theorem pn_d2 : plainFor (⟨"com/example/vellum_keys/vellumkeys/storage/KeyCodec", "sequenceNumberOf", "([B)J"⟩ : MethodName) = true := by first | (refine plainFor_of_name ?_; simp [plainName, overriddenIn]; done) | decide +kernel
theorem pd_d2 : parseMethodDescriptor "([B)J" = some ⟨[(.array .byte)], some .long⟩ := by decide +kernel
theorem d1_0 : decode method_2_code 0 = .ok (.aload_n 0, 1) := by decide +kernel
theorem d1_1 : decode method_2_code 1 = .ok (.iload_n 1, 1) := by decide +kernel
theorem d1_2 : decode method_2_code 2 = .ok (.lload_n 2, 1) := by decide +kernel
theorem d1_3 : decode method_2_code 3 = .ok (.bipush 56, 2) := by decide +kernel
theorem d1_5 : decode method_2_code 5 = .ok (.lushr, 1) := by decide +kernel
theorem d1_6 : decode method_2_code 6 = .ok (.l2i, 1) := by decide +kernel
theorem d1_7 : decode method_2_code 7 = .ok (.i2b, 1) := by decide +kernel
theorem d1_8 : decode method_2_code 8 = .ok (.bastore, 1) := by decide +kernel
theorem d1_9 : decode method_2_code 9 = .ok (.aload_n 0, 1) := by decide +kernel
theorem d1_10 : decode method_2_code 10 = .ok (.iload_n 1, 1) := by decide +kernel
theorem d1_11 : decode method_2_code 11 = .ok (.iconst 1, 1) := by decide +kernel
theorem d1_12 : decode method_2_code 12 = .ok (.iadd, 1) := by decide +kernel
theorem d1_13 : decode method_2_code 13 = .ok (.lload_n 2, 1) := by decide +kernel
theorem d1_14 : decode method_2_code 14 = .ok (.bipush 48, 2) := by decide +kernel
theorem d1_16 : decode method_2_code 16 = .ok (.lushr, 1) := by decide +kernel
theorem d1_17 : decode method_2_code 17 = .ok (.l2i, 1) := by decide +kernel
theorem d1_18 : decode method_2_code 18 = .ok (.i2b, 1) := by decide +kernel
theorem d1_19 : decode method_2_code 19 = .ok (.bastore, 1) := by decide +kernel
theorem d1_20 : decode method_2_code 20 = .ok (.aload_n 0, 1) := by decide +kernel
theorem d1_21 : decode method_2_code 21 = .ok (.iload_n 1, 1) := by decide +kernel
theorem d1_22 : decode method_2_code 22 = .ok (.iconst 2, 1) := by decide +kernel
theorem d1_23 : decode method_2_code 23 = .ok (.iadd, 1) := by decide +kernel
theorem d1_24 : decode method_2_code 24 = .ok (.lload_n 2, 1) := by decide +kernel
theorem d1_25 : decode method_2_code 25 = .ok (.bipush 40, 2) := by decide +kernel
theorem d1_27 : decode method_2_code 27 = .ok (.lushr, 1) := by decide +kernel
theorem d1_28 : decode method_2_code 28 = .ok (.l2i, 1) := by decide +kernel
theorem d1_29 : decode method_2_code 29 = .ok (.i2b, 1) := by decide +kernel
theorem d1_30 : decode method_2_code 30 = .ok (.bastore, 1) := by decide +kernel
theorem d1_31 : decode method_2_code 31 = .ok (.aload_n 0, 1) := by decide +kernel
theorem d1_32 : decode method_2_code 32 = .ok (.iload_n 1, 1) := by decide +kernel
theorem d1_33 : decode method_2_code 33 = .ok (.iconst 3, 1) := by decide +kernel
theorem d1_34 : decode method_2_code 34 = .ok (.iadd, 1) := by decide +kernel
theorem d1_35 : decode method_2_code 35 = .ok (.lload_n 2, 1) := by decide +kernel
theorem d1_36 : decode method_2_code 36 = .ok (.bipush 32, 2) := by decide +kernel
theorem d1_38 : decode method_2_code 38 = .ok (.lushr, 1) := by decide +kernel
theorem d1_39 : decode method_2_code 39 = .ok (.l2i, 1) := by decide +kernel
theorem d1_40 : decode method_2_code 40 = .ok (.i2b, 1) := by decide +kernel
theorem d1_41 : decode method_2_code 41 = .ok (.bastore, 1) := by decide +kernel
theorem d1_42 : decode method_2_code 42 = .ok (.aload_n 0, 1) := by decide +kernel
theorem d1_43 : decode method_2_code 43 = .ok (.iload_n 1, 1) := by decide +kernel
theorem d1_44 : decode method_2_code 44 = .ok (.iconst 4, 1) := by decide +kernel
theorem d1_45 : decode method_2_code 45 = .ok (.iadd, 1) := by decide +kernel
theorem d1_46 : decode method_2_code 46 = .ok (.lload_n 2, 1) := by decide +kernel
theorem d1_47 : decode method_2_code 47 = .ok (.bipush 24, 2) := by decide +kernel
theorem d1_49 : decode method_2_code 49 = .ok (.lushr, 1) := by decide +kernel
theorem d1_50 : decode method_2_code 50 = .ok (.l2i, 1) := by decide +kernel
theorem d1_51 : decode method_2_code 51 = .ok (.i2b, 1) := by decide +kernel
theorem d1_52 : decode method_2_code 52 = .ok (.bastore, 1) := by decide +kernel
theorem d1_53 : decode method_2_code 53 = .ok (.aload_n 0, 1) := by decide +kernel
theorem d1_54 : decode method_2_code 54 = .ok (.iload_n 1, 1) := by decide +kernel
theorem d1_55 : decode method_2_code 55 = .ok (.iconst 5, 1) := by decide +kernel
theorem d1_56 : decode method_2_code 56 = .ok (.iadd, 1) := by decide +kernel
theorem d1_57 : decode method_2_code 57 = .ok (.lload_n 2, 1) := by decide +kernel
theorem d1_58 : decode method_2_code 58 = .ok (.bipush 16, 2) := by decide +kernel
theorem d1_60 : decode method_2_code 60 = .ok (.lushr, 1) := by decide +kernel
theorem d1_61 : decode method_2_code 61 = .ok (.l2i, 1) := by decide +kernel
theorem d1_62 : decode method_2_code 62 = .ok (.i2b, 1) := by decide +kernel
theorem d1_63 : decode method_2_code 63 = .ok (.bastore, 1) := by decide +kernel
theorem d1_64 : decode method_2_code 64 = .ok (.aload_n 0, 1) := by decide +kernel
theorem d1_65 : decode method_2_code 65 = .ok (.iload_n 1, 1) := by decide +kernel
theorem d1_66 : decode method_2_code 66 = .ok (.bipush 6, 2) := by decide +kernel
theorem d1_68 : decode method_2_code 68 = .ok (.iadd, 1) := by decide +kernel
theorem d1_69 : decode method_2_code 69 = .ok (.lload_n 2, 1) := by decide +kernel
theorem d1_70 : decode method_2_code 70 = .ok (.bipush 8, 2) := by decide +kernel
theorem d1_72 : decode method_2_code 72 = .ok (.lushr, 1) := by decide +kernel
theorem d1_73 : decode method_2_code 73 = .ok (.l2i, 1) := by decide +kernel
theorem d1_74 : decode method_2_code 74 = .ok (.i2b, 1) := by decide +kernel
theorem d1_75 : decode method_2_code 75 = .ok (.bastore, 1) := by decide +kernel
theorem d1_76 : decode method_2_code 76 = .ok (.aload_n 0, 1) := by decide +kernel
theorem d1_77 : decode method_2_code 77 = .ok (.iload_n 1, 1) := by decide +kernel
theorem d1_78 : decode method_2_code 78 = .ok (.bipush 7, 2) := by decide +kernel
theorem d1_80 : decode method_2_code 80 = .ok (.iadd, 1) := by decide +kernel
theorem d1_81 : decode method_2_code 81 = .ok (.lload_n 2, 1) := by decide +kernel
theorem d1_82 : decode method_2_code 82 = .ok (.l2i, 1) := by decide +kernel
theorem d1_83 : decode method_2_code 83 = .ok (.i2b, 1) := by decide +kernel
theorem d1_84 : decode method_2_code 84 = .ok (.bastore, 1) := by decide +kernel
theorem d1_85 : decode method_2_code 85 = .ok (.return_, 1) := by decide +kernel
theorem pn_d1 : plainFor (⟨"com/example/vellum_keys/vellumkeys/storage/KeyCodecSequenceNumberOfPinLaw", "put", "([BIJ)V"⟩ : MethodName) = true := by first | (refine plainFor_of_name ?_; simp [plainName, overriddenIn]; done) | decide +kernel
theorem pd_d1 : parseMethodDescriptor "([BIJ)V" = some ⟨[(.array .byte), .int, .long], none⟩ := by decide +kernel
theorem pn_at0 : plainName "com/example/vellum_keys/vellumkeys/storage/KeyCodecSequenceNumberOfPinLaw" = true := by first | (simp [plainName, overriddenIn]; done) | decide +kernel
theorem pn_at : plainFor x = true := plainFor_of_name pn_at0
variable {p : Program} {l : Launch} {e : Env} {s : State} {m : MethodId} {args : Array Value} {below : List Frame} {meth : Method} {c : Code} {T : State} {Z : State} {n0 : Nat} {h : Heap} {a0 : Array Value}
def own_acc (b9 b10 b11 b12 b13 b14 b15 b16 : Int32) : Int64 := (((((((((((((((((((((((((0 : Int64) <<< ((8 : Int32) &&& 0x3f).toInt64)) ||| ((b9 &&& (255 : Int32)).toInt64)) <<< ((8 : Int32) &&& 0x3f).toInt64)) ||| ((b10 &&& (255 : Int32)).toInt64)) <<< ((8 : Int32) &&& 0x3f).toInt64)) ||| ((b11 &&& (255 : Int32)).toInt64)) <<< ((8 : Int32) &&& 0x3f).toInt64)) ||| ((b12 &&& (255 : Int32)).toInt64)) <<< ((8 : Int32) &&& 0x3f).toInt64)) ||| ((b13 &&& (255 : Int32)).toInt64)) <<< ((8 : Int32) &&& 0x3f).toInt64)) ||| ((b14 &&& (255 : Int32)).toInt64)) <<< ((8 : Int32) &&& 0x3f).toInt64)) ||| ((b15 &&& (255 : Int32)).toInt64)) <<< ((8 : Int32) &&& 0x3f).toInt64)) ||| ((b16 &&& (255 : Int32)).toInt64))
theorem own_inj {x y : Int64} (q : x.toBitVec.toNat = y.toBitVec.toNat) : x = y := Int64.toBitVec_inj.mp (BitVec.eq_of_toNat_eq q)
theorem own_zero : (0 : Int64).toBitVec.toNat = 0 := rfl
theorem own_or (x y : Int64) (k : Nat) (h1 : x.toBitVec.toNat % 2 ^ k = 0) (h2 : y.toBitVec.toNat < 2 ^ k) : (x ||| y).toBitVec.toNat = x.toBitVec.toNat + y.toBitVec.toNat := by
  rw [Int64.toBitVec_or, BitVec.toNat_or]
  have e : x.toBitVec.toNat = (x.toBitVec.toNat / 2 ^ k) <<< k := by
    rw [Nat.shiftLeft_eq]
    have := Nat.div_add_mod x.toBitVec.toNat (2 ^ k)
    rw [h1, Nat.add_zero, Nat.mul_comm] at this
    exact this.symm
  rw [e]
  exact (Nat.shiftLeft_add_eq_or_of_lt h2 _).symm
theorem own_low (y : Int32) (msk : Int32) (k : Nat) (hk : k ≤ 31) (hm : msk.toBitVec.toNat = 2 ^ k - 1) (hs : msk.toBitVec.msb = false) : (y &&& msk).toInt64.toBitVec.toNat = y.toBitVec.toNat % 2 ^ k := by
  rw [Int32.toBitVec_toInt64, BitVec.signExtend_eq_setWidth_of_msb_false, BitVec.toNat_setWidth, Int32.toBitVec_and, BitVec.toNat_and, hm, Nat.and_two_pow_sub_one_eq_mod]
  · apply Nat.mod_eq_of_lt
    have := Nat.mod_lt y.toBitVec.toNat (Nat.two_pow_pos k)
    have : 2 ^ k ≤ 2 ^ 31 := Nat.pow_le_pow_right (by decide) hk
    omega
  · rw [Int32.toBitVec_and, BitVec.msb_and, hs, Bool.and_false]
theorem own_shl8 (a : Int64) : (a <<< ((8 : Int32) &&& 0x3f).toInt64).toBitVec.toNat = a.toBitVec.toNat * 256 % 18446744073709551616 := by
  rw [Int64.toBitVec_shiftLeft, show (((8 : Int32) &&& 0x3f).toInt64.toBitVec.smod 64) = 8#64 from by decide]
  show (a.toBitVec <<< (8 : Nat)).toNat = _
  rw [BitVec.toNat_shiftLeft, Nat.shiftLeft_eq]
theorem own_or8 (a : Int64) (y : Int32) : ((a <<< ((8 : Int32) &&& 0x3f).toInt64) ||| (y &&& (255 : Int32)).toInt64).toBitVec.toNat = (a.toBitVec.toNat * 256 + y.toBitVec.toNat % 256) % 18446744073709551616 := by
  have e := own_low y 255 8 (by decide) (by decide) (by decide)
  have s := own_shl8 a
  rw [own_or _ _ 8 (by rw [s]; omega) (by rw [e]; exact Nat.mod_lt _ (by decide)), s, e]
  omega
theorem own_b8 (y : Int64) : y.toInt32.toInt8.toInt32.toBitVec.toNat % 256 = y.toBitVec.toNat % 256 := by
  have a := (c_i2b y.toInt32).1
  have b := c_l2i y
  have c1 : y.toInt = if 2 * y.toBitVec.toNat < 2 ^ 64 then (y.toBitVec.toNat : Int) else (y.toBitVec.toNat : Int) - ((2 ^ 64 : Nat) : Int) := BitVec.toInt_eq_toNat_cond _
  have c2 : y.toInt32.toInt8.toInt32.toInt = if 2 * y.toInt32.toInt8.toInt32.toBitVec.toNat < 2 ^ 32 then (y.toInt32.toInt8.toInt32.toBitVec.toNat : Int) else (y.toInt32.toInt8.toInt32.toBitVec.toNat : Int) - ((2 ^ 32 : Nat) : Int) := BitVec.toInt_eq_toNat_cond _
  split at c1 <;> split at c2 <;> omega
theorem own_b8i (y : Int32) : y.toInt8.toInt32.toBitVec.toNat % 256 = y.toBitVec.toNat % 256 := by
  have a := (c_i2b y).1
  have c1 : y.toInt = if 2 * y.toBitVec.toNat < 2 ^ 32 then (y.toBitVec.toNat : Int) else (y.toBitVec.toNat : Int) - ((2 ^ 32 : Nat) : Int) := BitVec.toInt_eq_toNat_cond _
  have c2 : y.toInt8.toInt32.toInt = if 2 * y.toInt8.toInt32.toBitVec.toNat < 2 ^ 32 then (y.toInt8.toInt32.toBitVec.toNat : Int) else (y.toInt8.toInt32.toBitVec.toNat : Int) - ((2 ^ 32 : Nat) : Int) := BitVec.toInt_eq_toNat_cond _
  split at c1 <;> split at c2 <;> omega
theorem own_accS (a y : Int64) : ((a <<< ((8 : Int32) &&& 0x3f).toInt64) ||| (y.toInt32.toInt8.toInt32 &&& (255 : Int32)).toInt64).toBitVec.toNat = (a.toBitVec.toNat * 256 + y.toBitVec.toNat % 256) % 18446744073709551616 := by
  rw [own_or8, own_b8]
theorem own_u56 (x : Int64) : ((x.toUInt64 >>> ((56 : Int32) &&& 0x3f).toInt64.toUInt64).toInt64).toBitVec.toNat = x.toBitVec.toNat / 72057594037927936 := by
  rw [show ((56 : Int32) &&& 0x3f).toInt64.toUInt64 = 56 from by decide]
  show (x.toUInt64 >>> (56 : UInt64)).toNat = _
  rw [UInt64.toNat_shiftRight]
  show x.toBitVec.toNat >>> 56 = _
  rw [Nat.shiftRight_eq_div_pow]
theorem own_u48 (x : Int64) : ((x.toUInt64 >>> ((48 : Int32) &&& 0x3f).toInt64.toUInt64).toInt64).toBitVec.toNat = x.toBitVec.toNat / 281474976710656 := by
  rw [show ((48 : Int32) &&& 0x3f).toInt64.toUInt64 = 48 from by decide]
  show (x.toUInt64 >>> (48 : UInt64)).toNat = _
  rw [UInt64.toNat_shiftRight]
  show x.toBitVec.toNat >>> 48 = _
  rw [Nat.shiftRight_eq_div_pow]
theorem own_u40 (x : Int64) : ((x.toUInt64 >>> ((40 : Int32) &&& 0x3f).toInt64.toUInt64).toInt64).toBitVec.toNat = x.toBitVec.toNat / 1099511627776 := by
  rw [show ((40 : Int32) &&& 0x3f).toInt64.toUInt64 = 40 from by decide]
  show (x.toUInt64 >>> (40 : UInt64)).toNat = _
  rw [UInt64.toNat_shiftRight]
  show x.toBitVec.toNat >>> 40 = _
  rw [Nat.shiftRight_eq_div_pow]
theorem own_u32 (x : Int64) : ((x.toUInt64 >>> ((32 : Int32) &&& 0x3f).toInt64.toUInt64).toInt64).toBitVec.toNat = x.toBitVec.toNat / 4294967296 := by
  rw [show ((32 : Int32) &&& 0x3f).toInt64.toUInt64 = 32 from by decide]
  show (x.toUInt64 >>> (32 : UInt64)).toNat = _
  rw [UInt64.toNat_shiftRight]
  show x.toBitVec.toNat >>> 32 = _
  rw [Nat.shiftRight_eq_div_pow]
theorem own_u24 (x : Int64) : ((x.toUInt64 >>> ((24 : Int32) &&& 0x3f).toInt64.toUInt64).toInt64).toBitVec.toNat = x.toBitVec.toNat / 16777216 := by
  rw [show ((24 : Int32) &&& 0x3f).toInt64.toUInt64 = 24 from by decide]
  show (x.toUInt64 >>> (24 : UInt64)).toNat = _
  rw [UInt64.toNat_shiftRight]
  show x.toBitVec.toNat >>> 24 = _
  rw [Nat.shiftRight_eq_div_pow]
theorem own_u16 (x : Int64) : ((x.toUInt64 >>> ((16 : Int32) &&& 0x3f).toInt64.toUInt64).toInt64).toBitVec.toNat = x.toBitVec.toNat / 65536 := by
  rw [show ((16 : Int32) &&& 0x3f).toInt64.toUInt64 = 16 from by decide]
  show (x.toUInt64 >>> (16 : UInt64)).toNat = _
  rw [UInt64.toNat_shiftRight]
  show x.toBitVec.toNat >>> 16 = _
  rw [Nat.shiftRight_eq_div_pow]
theorem own_u8 (x : Int64) : ((x.toUInt64 >>> ((8 : Int32) &&& 0x3f).toInt64.toUInt64).toInt64).toBitVec.toNat = x.toBitVec.toNat / 256 := by
  rw [show ((8 : Int32) &&& 0x3f).toInt64.toUInt64 = 8 from by decide]
  show (x.toUInt64 >>> (8 : UInt64)).toNat = _
  rw [UInt64.toNat_shiftRight]
  show x.toBitVec.toNat >>> 8 = _
  rw [Nat.shiftRight_eq_div_pow]
theorem own_id (id : Int64) : own_acc (((id.toUInt64 >>> ((56 : Int32) &&& 0x3f).toInt64.toUInt64).toInt64).toInt32.toInt8.toInt32) (((id.toUInt64 >>> ((48 : Int32) &&& 0x3f).toInt64.toUInt64).toInt64).toInt32.toInt8.toInt32) (((id.toUInt64 >>> ((40 : Int32) &&& 0x3f).toInt64.toUInt64).toInt64).toInt32.toInt8.toInt32) (((id.toUInt64 >>> ((32 : Int32) &&& 0x3f).toInt64.toUInt64).toInt64).toInt32.toInt8.toInt32) (((id.toUInt64 >>> ((24 : Int32) &&& 0x3f).toInt64.toUInt64).toInt64).toInt32.toInt8.toInt32) (((id.toUInt64 >>> ((16 : Int32) &&& 0x3f).toInt64.toUInt64).toInt64).toInt32.toInt8.toInt32) (((id.toUInt64 >>> ((8 : Int32) &&& 0x3f).toInt64.toUInt64).toInt64).toInt32.toInt8.toInt32) (id.toInt32.toInt8.toInt32) = id := by
  unfold own_acc
  apply own_inj
  simp only [own_accS, own_u56, own_u48, own_u40, own_u32, own_u24, own_u16, own_u8]
  rw [own_zero]
  have r := id.toBitVec.isLt
  omega
set_option maxRecDepth 65536 in
set_option maxHeartbeats 4000000 in
theorem own_c1 (hw : ∀ d ∈ tables_1, d.before a0 Z = true) (a : Addr) (ka : ClassId) (z : Int32) (vs : List Value) (dv : Value) (b9 b10 b11 b12 b13 b14 b15 b16 : Int32) (V : Arv Z h a ka .byte z vs dv) (hz : (16 : Int32) < z) (v9 : vs.getD (9 : Int32).toNatClampNeg dv = .int b9) (v10 : vs.getD (10 : Int32).toNatClampNeg dv = .int b10) (v11 : vs.getD (11 : Int32).toNatClampNeg dv = .int b11) (v12 : vs.getD (12 : Int32).toNatClampNeg dv = .int b12) (v13 : vs.getD (13 : Int32).toNatClampNeg dv = .int b13) (v14 : vs.getD (14 : Int32).toNatClampNeg dv = .int b14) (v15 : vs.getD (15 : Int32).toNatClampNeg dv = .int b15) (v16 : vs.getD (16 : Int32).toNatClampNeg dv = .int b16) :
    Ctr l (⟨"com/example/vellum_keys/vellumkeys/storage/KeyCodec", "sequenceNumberOf", "([B)J"⟩ : MethodName) prog_98_method_8_code 4 (some .long) ({ frames := 0, cells := 0, slots := 0, locals := 0 } : Room) Z #[(.ref a)] h n0 (fun v h' => v = some (.long (own_acc b9 b10 b11 b12 b13 b14 b15 b16)) ∧ h' = h) [] := by
  refine metGo (Ls := #[.val (.ref a), .unset, .unset, .unset]) pn_d2 (fun m => by first | rfl | (simp [entryFrame, mkF, argsToLocals, Value.category]; done) | (simp [entryFrame, mkF, argsToLocals, Value.category, maxLocals]; done)) ?_
  intro p e s m below meth c T w
  refine glconst (v := (0 : Int64)) (pc' := 1) w d2_0 rfl rfl ?_
  refine glstoreN (pc' := 2) (Ls := #[.val (.ref a), .unset, .unset, .unset]) (Ls' := #[.val (.ref a), .val (.long (0 : Int64)), .second, .unset]) (rest := []) w d2_1 rfl rfl ?_
  refine gbipush (v := (9 : Int32)) (pc' := 4) w d2_2 rfl rfl ?_
  refine gistoreN (pc' := 5) (Ls := #[.val (.ref a), .val (.long (0 : Int64)), .second, .unset]) (Ls' := #[.val (.ref a), .val (.long (0 : Int64)), .second, .val (.int (9 : Int32))]) (rest := []) w d2_4 rfl rfl ?_
  refine giloadN (pc' := 6) (Ls := #[.val (.ref a), .val (.long (0 : Int64)), .second, .val (.int (9 : Int32))]) (rest := []) w d2_5 rfl rfl ?_
  refine gbipush (v := (17 : Int32)) (pc' := 8) w d2_6 rfl rfl ?_
  refine gicmp (pt := 31) (pf := 11) w d2_8  (by decide) rfl rfl (fun (c8 : ¬ (9 : Int32) < (17 : Int32)) => ?_) (fun (c8 : (9 : Int32) < (17 : Int32)) => ?_)
  · exact absurd c8 (by decide)
  · refine glloadN (pc' := 12) (Ls := #[.val (.ref a), .val (.long (0 : Int64)), .second, .val (.int (9 : Int32))]) (rest := []) w d2_11 rfl rfl ?_
    refine gbipush (v := (8 : Int32)) (pc' := 14) w d2_12 rfl rfl ?_
    refine glshl (pc' := 15) w d2_14 rfl ?_
    refine galoadN (pc' := 16) (Ls := #[.val (.ref a), .val (.long (0 : Int64)), .second, .val (.int (9 : Int32))]) (rest := [(.long (((0 : Int64) <<< ((8 : Int32) &&& 0x3f).toInt64)))]) w d2_15 rfl rfl rfl ?_
    refine giloadN (pc' := 17) (Ls := #[.val (.ref a), .val (.long (0 : Int64)), .second, .val (.int (9 : Int32))]) (rest := [(.ref a), (.long (((0 : Int64) <<< ((8 : Int32) &&& 0x3f).toInt64)))]) w d2_16 rfl rfl ?_
    refine gbaload (pc' := 18) (v := (.int b9)) w d2_17 V ⟨by decide, Int32.lt_of_le_of_lt (by decide) hz⟩ v9 rfl ?_
    refine gsipush (v := (255 : Int32)) (pc' := 21) w d2_18 rfl rfl ?_
    refine giand (pc' := 22) w d2_21 rfl ?_
    refine gi2l (pc' := 23) w d2_22 rfl ?_
    refine glor (pc' := 24) w d2_23 rfl ?_
    refine glstoreN (pc' := 25) (Ls := #[.val (.ref a), .val (.long (0 : Int64)), .second, .val (.int (9 : Int32))]) (Ls' := #[.val (.ref a), .val (.long ((((0 : Int64) <<< ((8 : Int32) &&& 0x3f).toInt64)) ||| ((b9 &&& (255 : Int32)).toInt64))), .second, .val (.int (9 : Int32))]) (rest := []) w d2_24 rfl rfl ?_
    refine giinc (pc' := 28) (Ls := #[.val (.ref a), .val (.long ((((0 : Int64) <<< ((8 : Int32) &&& 0x3f).toInt64)) ||| ((b9 &&& (255 : Int32)).toInt64))), .second, .val (.int (9 : Int32))]) (Ls' := #[.val (.ref a), .val (.long ((((0 : Int64) <<< ((8 : Int32) &&& 0x3f).toInt64)) ||| ((b9 &&& (255 : Int32)).toInt64))), .second, .val (.int (10 : Int32))]) (rest := []) w d2_25 rfl rfl rfl ?_
    refine ggoto (pc' := 5) w d2_28 (by decide) rfl ?_
    refine giloadN (pc' := 6) (Ls := #[.val (.ref a), .val (.long ((((0 : Int64) <<< ((8 : Int32) &&& 0x3f).toInt64)) ||| ((b9 &&& (255 : Int32)).toInt64))), .second, .val (.int (10 : Int32))]) (rest := []) w d2_5 rfl rfl ?_
    refine gbipush (v := (17 : Int32)) (pc' := 8) w d2_6 rfl rfl ?_
    refine gicmp (pt := 31) (pf := 11) w d2_8  (by decide) rfl rfl (fun (c8_1 : ¬ (10 : Int32) < (17 : Int32)) => ?_) (fun (c8_1 : (10 : Int32) < (17 : Int32)) => ?_)
    · exact absurd c8_1 (by decide)
    · refine glloadN (pc' := 12) (Ls := #[.val (.ref a), .val (.long ((((0 : Int64) <<< ((8 : Int32) &&& 0x3f).toInt64)) ||| ((b9 &&& (255 : Int32)).toInt64))), .second, .val (.int (10 : Int32))]) (rest := []) w d2_11 rfl rfl ?_
      refine gbipush (v := (8 : Int32)) (pc' := 14) w d2_12 rfl rfl ?_
      refine glshl (pc' := 15) w d2_14 rfl ?_
      refine galoadN (pc' := 16) (Ls := #[.val (.ref a), .val (.long ((((0 : Int64) <<< ((8 : Int32) &&& 0x3f).toInt64)) ||| ((b9 &&& (255 : Int32)).toInt64))), .second, .val (.int (10 : Int32))]) (rest := [(.long ((((((0 : Int64) <<< ((8 : Int32) &&& 0x3f).toInt64)) ||| ((b9 &&& (255 : Int32)).toInt64)) <<< ((8 : Int32) &&& 0x3f).toInt64)))]) w d2_15 rfl rfl rfl ?_
      refine giloadN (pc' := 17) (Ls := #[.val (.ref a), .val (.long ((((0 : Int64) <<< ((8 : Int32) &&& 0x3f).toInt64)) ||| ((b9 &&& (255 : Int32)).toInt64))), .second, .val (.int (10 : Int32))]) (rest := [(.ref a), (.long ((((((0 : Int64) <<< ((8 : Int32) &&& 0x3f).toInt64)) ||| ((b9 &&& (255 : Int32)).toInt64)) <<< ((8 : Int32) &&& 0x3f).toInt64)))]) w d2_16 rfl rfl ?_
      refine gbaload (pc' := 18) (v := (.int b10)) w d2_17 V ⟨by decide, Int32.lt_of_le_of_lt (by decide) hz⟩ v10 rfl ?_
      refine gsipush (v := (255 : Int32)) (pc' := 21) w d2_18 rfl rfl ?_
      refine giand (pc' := 22) w d2_21 rfl ?_
      refine gi2l (pc' := 23) w d2_22 rfl ?_
      refine glor (pc' := 24) w d2_23 rfl ?_
      refine glstoreN (pc' := 25) (Ls := #[.val (.ref a), .val (.long ((((0 : Int64) <<< ((8 : Int32) &&& 0x3f).toInt64)) ||| ((b9 &&& (255 : Int32)).toInt64))), .second, .val (.int (10 : Int32))]) (Ls' := #[.val (.ref a), .val (.long (((((((0 : Int64) <<< ((8 : Int32) &&& 0x3f).toInt64)) ||| ((b9 &&& (255 : Int32)).toInt64)) <<< ((8 : Int32) &&& 0x3f).toInt64)) ||| ((b10 &&& (255 : Int32)).toInt64))), .second, .val (.int (10 : Int32))]) (rest := []) w d2_24 rfl rfl ?_
      refine giinc (pc' := 28) (Ls := #[.val (.ref a), .val (.long (((((((0 : Int64) <<< ((8 : Int32) &&& 0x3f).toInt64)) ||| ((b9 &&& (255 : Int32)).toInt64)) <<< ((8 : Int32) &&& 0x3f).toInt64)) ||| ((b10 &&& (255 : Int32)).toInt64))), .second, .val (.int (10 : Int32))]) (Ls' := #[.val (.ref a), .val (.long (((((((0 : Int64) <<< ((8 : Int32) &&& 0x3f).toInt64)) ||| ((b9 &&& (255 : Int32)).toInt64)) <<< ((8 : Int32) &&& 0x3f).toInt64)) ||| ((b10 &&& (255 : Int32)).toInt64))), .second, .val (.int (11 : Int32))]) (rest := []) w d2_25 rfl rfl rfl ?_
      refine ggoto (pc' := 5) w d2_28 (by decide) rfl ?_
      refine giloadN (pc' := 6) (Ls := #[.val (.ref a), .val (.long (((((((0 : Int64) <<< ((8 : Int32) &&& 0x3f).toInt64)) ||| ((b9 &&& (255 : Int32)).toInt64)) <<< ((8 : Int32) &&& 0x3f).toInt64)) ||| ((b10 &&& (255 : Int32)).toInt64))), .second, .val (.int (11 : Int32))]) (rest := []) w d2_5 rfl rfl ?_
      refine gbipush (v := (17 : Int32)) (pc' := 8) w d2_6 rfl rfl ?_
      refine gicmp (pt := 31) (pf := 11) w d2_8  (by decide) rfl rfl (fun (c8_2 : ¬ (11 : Int32) < (17 : Int32)) => ?_) (fun (c8_2 : (11 : Int32) < (17 : Int32)) => ?_)
      · exact absurd c8_2 (by decide)
      · refine glloadN (pc' := 12) (Ls := #[.val (.ref a), .val (.long (((((((0 : Int64) <<< ((8 : Int32) &&& 0x3f).toInt64)) ||| ((b9 &&& (255 : Int32)).toInt64)) <<< ((8 : Int32) &&& 0x3f).toInt64)) ||| ((b10 &&& (255 : Int32)).toInt64))), .second, .val (.int (11 : Int32))]) (rest := []) w d2_11 rfl rfl ?_
        refine gbipush (v := (8 : Int32)) (pc' := 14) w d2_12 rfl rfl ?_
        refine glshl (pc' := 15) w d2_14 rfl ?_
        refine galoadN (pc' := 16) (Ls := #[.val (.ref a), .val (.long (((((((0 : Int64) <<< ((8 : Int32) &&& 0x3f).toInt64)) ||| ((b9 &&& (255 : Int32)).toInt64)) <<< ((8 : Int32) &&& 0x3f).toInt64)) ||| ((b10 &&& (255 : Int32)).toInt64))), .second, .val (.int (11 : Int32))]) (rest := [(.long (((((((((0 : Int64) <<< ((8 : Int32) &&& 0x3f).toInt64)) ||| ((b9 &&& (255 : Int32)).toInt64)) <<< ((8 : Int32) &&& 0x3f).toInt64)) ||| ((b10 &&& (255 : Int32)).toInt64)) <<< ((8 : Int32) &&& 0x3f).toInt64)))]) w d2_15 rfl rfl rfl ?_
        refine giloadN (pc' := 17) (Ls := #[.val (.ref a), .val (.long (((((((0 : Int64) <<< ((8 : Int32) &&& 0x3f).toInt64)) ||| ((b9 &&& (255 : Int32)).toInt64)) <<< ((8 : Int32) &&& 0x3f).toInt64)) ||| ((b10 &&& (255 : Int32)).toInt64))), .second, .val (.int (11 : Int32))]) (rest := [(.ref a), (.long (((((((((0 : Int64) <<< ((8 : Int32) &&& 0x3f).toInt64)) ||| ((b9 &&& (255 : Int32)).toInt64)) <<< ((8 : Int32) &&& 0x3f).toInt64)) ||| ((b10 &&& (255 : Int32)).toInt64)) <<< ((8 : Int32) &&& 0x3f).toInt64)))]) w d2_16 rfl rfl ?_
        refine gbaload (pc' := 18) (v := (.int b11)) w d2_17 V ⟨by decide, Int32.lt_of_le_of_lt (by decide) hz⟩ v11 rfl ?_
        refine gsipush (v := (255 : Int32)) (pc' := 21) w d2_18 rfl rfl ?_
        refine giand (pc' := 22) w d2_21 rfl ?_
        refine gi2l (pc' := 23) w d2_22 rfl ?_
        refine glor (pc' := 24) w d2_23 rfl ?_
        refine glstoreN (pc' := 25) (Ls := #[.val (.ref a), .val (.long (((((((0 : Int64) <<< ((8 : Int32) &&& 0x3f).toInt64)) ||| ((b9 &&& (255 : Int32)).toInt64)) <<< ((8 : Int32) &&& 0x3f).toInt64)) ||| ((b10 &&& (255 : Int32)).toInt64))), .second, .val (.int (11 : Int32))]) (Ls' := #[.val (.ref a), .val (.long ((((((((((0 : Int64) <<< ((8 : Int32) &&& 0x3f).toInt64)) ||| ((b9 &&& (255 : Int32)).toInt64)) <<< ((8 : Int32) &&& 0x3f).toInt64)) ||| ((b10 &&& (255 : Int32)).toInt64)) <<< ((8 : Int32) &&& 0x3f).toInt64)) ||| ((b11 &&& (255 : Int32)).toInt64))), .second, .val (.int (11 : Int32))]) (rest := []) w d2_24 rfl rfl ?_
        refine giinc (pc' := 28) (Ls := #[.val (.ref a), .val (.long ((((((((((0 : Int64) <<< ((8 : Int32) &&& 0x3f).toInt64)) ||| ((b9 &&& (255 : Int32)).toInt64)) <<< ((8 : Int32) &&& 0x3f).toInt64)) ||| ((b10 &&& (255 : Int32)).toInt64)) <<< ((8 : Int32) &&& 0x3f).toInt64)) ||| ((b11 &&& (255 : Int32)).toInt64))), .second, .val (.int (11 : Int32))]) (Ls' := #[.val (.ref a), .val (.long ((((((((((0 : Int64) <<< ((8 : Int32) &&& 0x3f).toInt64)) ||| ((b9 &&& (255 : Int32)).toInt64)) <<< ((8 : Int32) &&& 0x3f).toInt64)) ||| ((b10 &&& (255 : Int32)).toInt64)) <<< ((8 : Int32) &&& 0x3f).toInt64)) ||| ((b11 &&& (255 : Int32)).toInt64))), .second, .val (.int (12 : Int32))]) (rest := []) w d2_25 rfl rfl rfl ?_
        refine ggoto (pc' := 5) w d2_28 (by decide) rfl ?_
        refine giloadN (pc' := 6) (Ls := #[.val (.ref a), .val (.long ((((((((((0 : Int64) <<< ((8 : Int32) &&& 0x3f).toInt64)) ||| ((b9 &&& (255 : Int32)).toInt64)) <<< ((8 : Int32) &&& 0x3f).toInt64)) ||| ((b10 &&& (255 : Int32)).toInt64)) <<< ((8 : Int32) &&& 0x3f).toInt64)) ||| ((b11 &&& (255 : Int32)).toInt64))), .second, .val (.int (12 : Int32))]) (rest := []) w d2_5 rfl rfl ?_
        refine gbipush (v := (17 : Int32)) (pc' := 8) w d2_6 rfl rfl ?_
        refine gicmp (pt := 31) (pf := 11) w d2_8  (by decide) rfl rfl (fun (c8_3 : ¬ (12 : Int32) < (17 : Int32)) => ?_) (fun (c8_3 : (12 : Int32) < (17 : Int32)) => ?_)
        · exact absurd c8_3 (by decide)
        · refine glloadN (pc' := 12) (Ls := #[.val (.ref a), .val (.long ((((((((((0 : Int64) <<< ((8 : Int32) &&& 0x3f).toInt64)) ||| ((b9 &&& (255 : Int32)).toInt64)) <<< ((8 : Int32) &&& 0x3f).toInt64)) ||| ((b10 &&& (255 : Int32)).toInt64)) <<< ((8 : Int32) &&& 0x3f).toInt64)) ||| ((b11 &&& (255 : Int32)).toInt64))), .second, .val (.int (12 : Int32))]) (rest := []) w d2_11 rfl rfl ?_
          refine gbipush (v := (8 : Int32)) (pc' := 14) w d2_12 rfl rfl ?_
          refine glshl (pc' := 15) w d2_14 rfl ?_
          refine galoadN (pc' := 16) (Ls := #[.val (.ref a), .val (.long ((((((((((0 : Int64) <<< ((8 : Int32) &&& 0x3f).toInt64)) ||| ((b9 &&& (255 : Int32)).toInt64)) <<< ((8 : Int32) &&& 0x3f).toInt64)) ||| ((b10 &&& (255 : Int32)).toInt64)) <<< ((8 : Int32) &&& 0x3f).toInt64)) ||| ((b11 &&& (255 : Int32)).toInt64))), .second, .val (.int (12 : Int32))]) (rest := [(.long ((((((((((((0 : Int64) <<< ((8 : Int32) &&& 0x3f).toInt64)) ||| ((b9 &&& (255 : Int32)).toInt64)) <<< ((8 : Int32) &&& 0x3f).toInt64)) ||| ((b10 &&& (255 : Int32)).toInt64)) <<< ((8 : Int32) &&& 0x3f).toInt64)) ||| ((b11 &&& (255 : Int32)).toInt64)) <<< ((8 : Int32) &&& 0x3f).toInt64)))]) w d2_15 rfl rfl rfl ?_
          refine giloadN (pc' := 17) (Ls := #[.val (.ref a), .val (.long ((((((((((0 : Int64) <<< ((8 : Int32) &&& 0x3f).toInt64)) ||| ((b9 &&& (255 : Int32)).toInt64)) <<< ((8 : Int32) &&& 0x3f).toInt64)) ||| ((b10 &&& (255 : Int32)).toInt64)) <<< ((8 : Int32) &&& 0x3f).toInt64)) ||| ((b11 &&& (255 : Int32)).toInt64))), .second, .val (.int (12 : Int32))]) (rest := [(.ref a), (.long ((((((((((((0 : Int64) <<< ((8 : Int32) &&& 0x3f).toInt64)) ||| ((b9 &&& (255 : Int32)).toInt64)) <<< ((8 : Int32) &&& 0x3f).toInt64)) ||| ((b10 &&& (255 : Int32)).toInt64)) <<< ((8 : Int32) &&& 0x3f).toInt64)) ||| ((b11 &&& (255 : Int32)).toInt64)) <<< ((8 : Int32) &&& 0x3f).toInt64)))]) w d2_16 rfl rfl ?_
          refine gbaload (pc' := 18) (v := (.int b12)) w d2_17 V ⟨by decide, Int32.lt_of_le_of_lt (by decide) hz⟩ v12 rfl ?_
          refine gsipush (v := (255 : Int32)) (pc' := 21) w d2_18 rfl rfl ?_
          refine giand (pc' := 22) w d2_21 rfl ?_
          refine gi2l (pc' := 23) w d2_22 rfl ?_
          refine glor (pc' := 24) w d2_23 rfl ?_
          refine glstoreN (pc' := 25) (Ls := #[.val (.ref a), .val (.long ((((((((((0 : Int64) <<< ((8 : Int32) &&& 0x3f).toInt64)) ||| ((b9 &&& (255 : Int32)).toInt64)) <<< ((8 : Int32) &&& 0x3f).toInt64)) ||| ((b10 &&& (255 : Int32)).toInt64)) <<< ((8 : Int32) &&& 0x3f).toInt64)) ||| ((b11 &&& (255 : Int32)).toInt64))), .second, .val (.int (12 : Int32))]) (Ls' := #[.val (.ref a), .val (.long (((((((((((((0 : Int64) <<< ((8 : Int32) &&& 0x3f).toInt64)) ||| ((b9 &&& (255 : Int32)).toInt64)) <<< ((8 : Int32) &&& 0x3f).toInt64)) ||| ((b10 &&& (255 : Int32)).toInt64)) <<< ((8 : Int32) &&& 0x3f).toInt64)) ||| ((b11 &&& (255 : Int32)).toInt64)) <<< ((8 : Int32) &&& 0x3f).toInt64)) ||| ((b12 &&& (255 : Int32)).toInt64))), .second, .val (.int (12 : Int32))]) (rest := []) w d2_24 rfl rfl ?_
          refine giinc (pc' := 28) (Ls := #[.val (.ref a), .val (.long (((((((((((((0 : Int64) <<< ((8 : Int32) &&& 0x3f).toInt64)) ||| ((b9 &&& (255 : Int32)).toInt64)) <<< ((8 : Int32) &&& 0x3f).toInt64)) ||| ((b10 &&& (255 : Int32)).toInt64)) <<< ((8 : Int32) &&& 0x3f).toInt64)) ||| ((b11 &&& (255 : Int32)).toInt64)) <<< ((8 : Int32) &&& 0x3f).toInt64)) ||| ((b12 &&& (255 : Int32)).toInt64))), .second, .val (.int (12 : Int32))]) (Ls' := #[.val (.ref a), .val (.long (((((((((((((0 : Int64) <<< ((8 : Int32) &&& 0x3f).toInt64)) ||| ((b9 &&& (255 : Int32)).toInt64)) <<< ((8 : Int32) &&& 0x3f).toInt64)) ||| ((b10 &&& (255 : Int32)).toInt64)) <<< ((8 : Int32) &&& 0x3f).toInt64)) ||| ((b11 &&& (255 : Int32)).toInt64)) <<< ((8 : Int32) &&& 0x3f).toInt64)) ||| ((b12 &&& (255 : Int32)).toInt64))), .second, .val (.int (13 : Int32))]) (rest := []) w d2_25 rfl rfl rfl ?_
          refine ggoto (pc' := 5) w d2_28 (by decide) rfl ?_
          refine giloadN (pc' := 6) (Ls := #[.val (.ref a), .val (.long (((((((((((((0 : Int64) <<< ((8 : Int32) &&& 0x3f).toInt64)) ||| ((b9 &&& (255 : Int32)).toInt64)) <<< ((8 : Int32) &&& 0x3f).toInt64)) ||| ((b10 &&& (255 : Int32)).toInt64)) <<< ((8 : Int32) &&& 0x3f).toInt64)) ||| ((b11 &&& (255 : Int32)).toInt64)) <<< ((8 : Int32) &&& 0x3f).toInt64)) ||| ((b12 &&& (255 : Int32)).toInt64))), .second, .val (.int (13 : Int32))]) (rest := []) w d2_5 rfl rfl ?_
          refine gbipush (v := (17 : Int32)) (pc' := 8) w d2_6 rfl rfl ?_
          refine gicmp (pt := 31) (pf := 11) w d2_8  (by decide) rfl rfl (fun (c8_4 : ¬ (13 : Int32) < (17 : Int32)) => ?_) (fun (c8_4 : (13 : Int32) < (17 : Int32)) => ?_)
          · exact absurd c8_4 (by decide)
          · refine glloadN (pc' := 12) (Ls := #[.val (.ref a), .val (.long (((((((((((((0 : Int64) <<< ((8 : Int32) &&& 0x3f).toInt64)) ||| ((b9 &&& (255 : Int32)).toInt64)) <<< ((8 : Int32) &&& 0x3f).toInt64)) ||| ((b10 &&& (255 : Int32)).toInt64)) <<< ((8 : Int32) &&& 0x3f).toInt64)) ||| ((b11 &&& (255 : Int32)).toInt64)) <<< ((8 : Int32) &&& 0x3f).toInt64)) ||| ((b12 &&& (255 : Int32)).toInt64))), .second, .val (.int (13 : Int32))]) (rest := []) w d2_11 rfl rfl ?_
            refine gbipush (v := (8 : Int32)) (pc' := 14) w d2_12 rfl rfl ?_
            refine glshl (pc' := 15) w d2_14 rfl ?_
            refine galoadN (pc' := 16) (Ls := #[.val (.ref a), .val (.long (((((((((((((0 : Int64) <<< ((8 : Int32) &&& 0x3f).toInt64)) ||| ((b9 &&& (255 : Int32)).toInt64)) <<< ((8 : Int32) &&& 0x3f).toInt64)) ||| ((b10 &&& (255 : Int32)).toInt64)) <<< ((8 : Int32) &&& 0x3f).toInt64)) ||| ((b11 &&& (255 : Int32)).toInt64)) <<< ((8 : Int32) &&& 0x3f).toInt64)) ||| ((b12 &&& (255 : Int32)).toInt64))), .second, .val (.int (13 : Int32))]) (rest := [(.long (((((((((((((((0 : Int64) <<< ((8 : Int32) &&& 0x3f).toInt64)) ||| ((b9 &&& (255 : Int32)).toInt64)) <<< ((8 : Int32) &&& 0x3f).toInt64)) ||| ((b10 &&& (255 : Int32)).toInt64)) <<< ((8 : Int32) &&& 0x3f).toInt64)) ||| ((b11 &&& (255 : Int32)).toInt64)) <<< ((8 : Int32) &&& 0x3f).toInt64)) ||| ((b12 &&& (255 : Int32)).toInt64)) <<< ((8 : Int32) &&& 0x3f).toInt64)))]) w d2_15 rfl rfl rfl ?_
            refine giloadN (pc' := 17) (Ls := #[.val (.ref a), .val (.long (((((((((((((0 : Int64) <<< ((8 : Int32) &&& 0x3f).toInt64)) ||| ((b9 &&& (255 : Int32)).toInt64)) <<< ((8 : Int32) &&& 0x3f).toInt64)) ||| ((b10 &&& (255 : Int32)).toInt64)) <<< ((8 : Int32) &&& 0x3f).toInt64)) ||| ((b11 &&& (255 : Int32)).toInt64)) <<< ((8 : Int32) &&& 0x3f).toInt64)) ||| ((b12 &&& (255 : Int32)).toInt64))), .second, .val (.int (13 : Int32))]) (rest := [(.ref a), (.long (((((((((((((((0 : Int64) <<< ((8 : Int32) &&& 0x3f).toInt64)) ||| ((b9 &&& (255 : Int32)).toInt64)) <<< ((8 : Int32) &&& 0x3f).toInt64)) ||| ((b10 &&& (255 : Int32)).toInt64)) <<< ((8 : Int32) &&& 0x3f).toInt64)) ||| ((b11 &&& (255 : Int32)).toInt64)) <<< ((8 : Int32) &&& 0x3f).toInt64)) ||| ((b12 &&& (255 : Int32)).toInt64)) <<< ((8 : Int32) &&& 0x3f).toInt64)))]) w d2_16 rfl rfl ?_
            refine gbaload (pc' := 18) (v := (.int b13)) w d2_17 V ⟨by decide, Int32.lt_of_le_of_lt (by decide) hz⟩ v13 rfl ?_
            refine gsipush (v := (255 : Int32)) (pc' := 21) w d2_18 rfl rfl ?_
            refine giand (pc' := 22) w d2_21 rfl ?_
            refine gi2l (pc' := 23) w d2_22 rfl ?_
            refine glor (pc' := 24) w d2_23 rfl ?_
            refine glstoreN (pc' := 25) (Ls := #[.val (.ref a), .val (.long (((((((((((((0 : Int64) <<< ((8 : Int32) &&& 0x3f).toInt64)) ||| ((b9 &&& (255 : Int32)).toInt64)) <<< ((8 : Int32) &&& 0x3f).toInt64)) ||| ((b10 &&& (255 : Int32)).toInt64)) <<< ((8 : Int32) &&& 0x3f).toInt64)) ||| ((b11 &&& (255 : Int32)).toInt64)) <<< ((8 : Int32) &&& 0x3f).toInt64)) ||| ((b12 &&& (255 : Int32)).toInt64))), .second, .val (.int (13 : Int32))]) (Ls' := #[.val (.ref a), .val (.long ((((((((((((((((0 : Int64) <<< ((8 : Int32) &&& 0x3f).toInt64)) ||| ((b9 &&& (255 : Int32)).toInt64)) <<< ((8 : Int32) &&& 0x3f).toInt64)) ||| ((b10 &&& (255 : Int32)).toInt64)) <<< ((8 : Int32) &&& 0x3f).toInt64)) ||| ((b11 &&& (255 : Int32)).toInt64)) <<< ((8 : Int32) &&& 0x3f).toInt64)) ||| ((b12 &&& (255 : Int32)).toInt64)) <<< ((8 : Int32) &&& 0x3f).toInt64)) ||| ((b13 &&& (255 : Int32)).toInt64))), .second, .val (.int (13 : Int32))]) (rest := []) w d2_24 rfl rfl ?_
            refine giinc (pc' := 28) (Ls := #[.val (.ref a), .val (.long ((((((((((((((((0 : Int64) <<< ((8 : Int32) &&& 0x3f).toInt64)) ||| ((b9 &&& (255 : Int32)).toInt64)) <<< ((8 : Int32) &&& 0x3f).toInt64)) ||| ((b10 &&& (255 : Int32)).toInt64)) <<< ((8 : Int32) &&& 0x3f).toInt64)) ||| ((b11 &&& (255 : Int32)).toInt64)) <<< ((8 : Int32) &&& 0x3f).toInt64)) ||| ((b12 &&& (255 : Int32)).toInt64)) <<< ((8 : Int32) &&& 0x3f).toInt64)) ||| ((b13 &&& (255 : Int32)).toInt64))), .second, .val (.int (13 : Int32))]) (Ls' := #[.val (.ref a), .val (.long ((((((((((((((((0 : Int64) <<< ((8 : Int32) &&& 0x3f).toInt64)) ||| ((b9 &&& (255 : Int32)).toInt64)) <<< ((8 : Int32) &&& 0x3f).toInt64)) ||| ((b10 &&& (255 : Int32)).toInt64)) <<< ((8 : Int32) &&& 0x3f).toInt64)) ||| ((b11 &&& (255 : Int32)).toInt64)) <<< ((8 : Int32) &&& 0x3f).toInt64)) ||| ((b12 &&& (255 : Int32)).toInt64)) <<< ((8 : Int32) &&& 0x3f).toInt64)) ||| ((b13 &&& (255 : Int32)).toInt64))), .second, .val (.int (14 : Int32))]) (rest := []) w d2_25 rfl rfl rfl ?_
            refine ggoto (pc' := 5) w d2_28 (by decide) rfl ?_
            refine giloadN (pc' := 6) (Ls := #[.val (.ref a), .val (.long ((((((((((((((((0 : Int64) <<< ((8 : Int32) &&& 0x3f).toInt64)) ||| ((b9 &&& (255 : Int32)).toInt64)) <<< ((8 : Int32) &&& 0x3f).toInt64)) ||| ((b10 &&& (255 : Int32)).toInt64)) <<< ((8 : Int32) &&& 0x3f).toInt64)) ||| ((b11 &&& (255 : Int32)).toInt64)) <<< ((8 : Int32) &&& 0x3f).toInt64)) ||| ((b12 &&& (255 : Int32)).toInt64)) <<< ((8 : Int32) &&& 0x3f).toInt64)) ||| ((b13 &&& (255 : Int32)).toInt64))), .second, .val (.int (14 : Int32))]) (rest := []) w d2_5 rfl rfl ?_
            refine gbipush (v := (17 : Int32)) (pc' := 8) w d2_6 rfl rfl ?_
            refine gicmp (pt := 31) (pf := 11) w d2_8  (by decide) rfl rfl (fun (c8_5 : ¬ (14 : Int32) < (17 : Int32)) => ?_) (fun (c8_5 : (14 : Int32) < (17 : Int32)) => ?_)
            · exact absurd c8_5 (by decide)
            · refine glloadN (pc' := 12) (Ls := #[.val (.ref a), .val (.long ((((((((((((((((0 : Int64) <<< ((8 : Int32) &&& 0x3f).toInt64)) ||| ((b9 &&& (255 : Int32)).toInt64)) <<< ((8 : Int32) &&& 0x3f).toInt64)) ||| ((b10 &&& (255 : Int32)).toInt64)) <<< ((8 : Int32) &&& 0x3f).toInt64)) ||| ((b11 &&& (255 : Int32)).toInt64)) <<< ((8 : Int32) &&& 0x3f).toInt64)) ||| ((b12 &&& (255 : Int32)).toInt64)) <<< ((8 : Int32) &&& 0x3f).toInt64)) ||| ((b13 &&& (255 : Int32)).toInt64))), .second, .val (.int (14 : Int32))]) (rest := []) w d2_11 rfl rfl ?_
              refine gbipush (v := (8 : Int32)) (pc' := 14) w d2_12 rfl rfl ?_
              refine glshl (pc' := 15) w d2_14 rfl ?_
              refine galoadN (pc' := 16) (Ls := #[.val (.ref a), .val (.long ((((((((((((((((0 : Int64) <<< ((8 : Int32) &&& 0x3f).toInt64)) ||| ((b9 &&& (255 : Int32)).toInt64)) <<< ((8 : Int32) &&& 0x3f).toInt64)) ||| ((b10 &&& (255 : Int32)).toInt64)) <<< ((8 : Int32) &&& 0x3f).toInt64)) ||| ((b11 &&& (255 : Int32)).toInt64)) <<< ((8 : Int32) &&& 0x3f).toInt64)) ||| ((b12 &&& (255 : Int32)).toInt64)) <<< ((8 : Int32) &&& 0x3f).toInt64)) ||| ((b13 &&& (255 : Int32)).toInt64))), .second, .val (.int (14 : Int32))]) (rest := [(.long ((((((((((((((((((0 : Int64) <<< ((8 : Int32) &&& 0x3f).toInt64)) ||| ((b9 &&& (255 : Int32)).toInt64)) <<< ((8 : Int32) &&& 0x3f).toInt64)) ||| ((b10 &&& (255 : Int32)).toInt64)) <<< ((8 : Int32) &&& 0x3f).toInt64)) ||| ((b11 &&& (255 : Int32)).toInt64)) <<< ((8 : Int32) &&& 0x3f).toInt64)) ||| ((b12 &&& (255 : Int32)).toInt64)) <<< ((8 : Int32) &&& 0x3f).toInt64)) ||| ((b13 &&& (255 : Int32)).toInt64)) <<< ((8 : Int32) &&& 0x3f).toInt64)))]) w d2_15 rfl rfl rfl ?_
              refine giloadN (pc' := 17) (Ls := #[.val (.ref a), .val (.long ((((((((((((((((0 : Int64) <<< ((8 : Int32) &&& 0x3f).toInt64)) ||| ((b9 &&& (255 : Int32)).toInt64)) <<< ((8 : Int32) &&& 0x3f).toInt64)) ||| ((b10 &&& (255 : Int32)).toInt64)) <<< ((8 : Int32) &&& 0x3f).toInt64)) ||| ((b11 &&& (255 : Int32)).toInt64)) <<< ((8 : Int32) &&& 0x3f).toInt64)) ||| ((b12 &&& (255 : Int32)).toInt64)) <<< ((8 : Int32) &&& 0x3f).toInt64)) ||| ((b13 &&& (255 : Int32)).toInt64))), .second, .val (.int (14 : Int32))]) (rest := [(.ref a), (.long ((((((((((((((((((0 : Int64) <<< ((8 : Int32) &&& 0x3f).toInt64)) ||| ((b9 &&& (255 : Int32)).toInt64)) <<< ((8 : Int32) &&& 0x3f).toInt64)) ||| ((b10 &&& (255 : Int32)).toInt64)) <<< ((8 : Int32) &&& 0x3f).toInt64)) ||| ((b11 &&& (255 : Int32)).toInt64)) <<< ((8 : Int32) &&& 0x3f).toInt64)) ||| ((b12 &&& (255 : Int32)).toInt64)) <<< ((8 : Int32) &&& 0x3f).toInt64)) ||| ((b13 &&& (255 : Int32)).toInt64)) <<< ((8 : Int32) &&& 0x3f).toInt64)))]) w d2_16 rfl rfl ?_
              refine gbaload (pc' := 18) (v := (.int b14)) w d2_17 V ⟨by decide, Int32.lt_of_le_of_lt (by decide) hz⟩ v14 rfl ?_
              refine gsipush (v := (255 : Int32)) (pc' := 21) w d2_18 rfl rfl ?_
              refine giand (pc' := 22) w d2_21 rfl ?_
              refine gi2l (pc' := 23) w d2_22 rfl ?_
              refine glor (pc' := 24) w d2_23 rfl ?_
              refine glstoreN (pc' := 25) (Ls := #[.val (.ref a), .val (.long ((((((((((((((((0 : Int64) <<< ((8 : Int32) &&& 0x3f).toInt64)) ||| ((b9 &&& (255 : Int32)).toInt64)) <<< ((8 : Int32) &&& 0x3f).toInt64)) ||| ((b10 &&& (255 : Int32)).toInt64)) <<< ((8 : Int32) &&& 0x3f).toInt64)) ||| ((b11 &&& (255 : Int32)).toInt64)) <<< ((8 : Int32) &&& 0x3f).toInt64)) ||| ((b12 &&& (255 : Int32)).toInt64)) <<< ((8 : Int32) &&& 0x3f).toInt64)) ||| ((b13 &&& (255 : Int32)).toInt64))), .second, .val (.int (14 : Int32))]) (Ls' := #[.val (.ref a), .val (.long (((((((((((((((((((0 : Int64) <<< ((8 : Int32) &&& 0x3f).toInt64)) ||| ((b9 &&& (255 : Int32)).toInt64)) <<< ((8 : Int32) &&& 0x3f).toInt64)) ||| ((b10 &&& (255 : Int32)).toInt64)) <<< ((8 : Int32) &&& 0x3f).toInt64)) ||| ((b11 &&& (255 : Int32)).toInt64)) <<< ((8 : Int32) &&& 0x3f).toInt64)) ||| ((b12 &&& (255 : Int32)).toInt64)) <<< ((8 : Int32) &&& 0x3f).toInt64)) ||| ((b13 &&& (255 : Int32)).toInt64)) <<< ((8 : Int32) &&& 0x3f).toInt64)) ||| ((b14 &&& (255 : Int32)).toInt64))), .second, .val (.int (14 : Int32))]) (rest := []) w d2_24 rfl rfl ?_
              refine giinc (pc' := 28) (Ls := #[.val (.ref a), .val (.long (((((((((((((((((((0 : Int64) <<< ((8 : Int32) &&& 0x3f).toInt64)) ||| ((b9 &&& (255 : Int32)).toInt64)) <<< ((8 : Int32) &&& 0x3f).toInt64)) ||| ((b10 &&& (255 : Int32)).toInt64)) <<< ((8 : Int32) &&& 0x3f).toInt64)) ||| ((b11 &&& (255 : Int32)).toInt64)) <<< ((8 : Int32) &&& 0x3f).toInt64)) ||| ((b12 &&& (255 : Int32)).toInt64)) <<< ((8 : Int32) &&& 0x3f).toInt64)) ||| ((b13 &&& (255 : Int32)).toInt64)) <<< ((8 : Int32) &&& 0x3f).toInt64)) ||| ((b14 &&& (255 : Int32)).toInt64))), .second, .val (.int (14 : Int32))]) (Ls' := #[.val (.ref a), .val (.long (((((((((((((((((((0 : Int64) <<< ((8 : Int32) &&& 0x3f).toInt64)) ||| ((b9 &&& (255 : Int32)).toInt64)) <<< ((8 : Int32) &&& 0x3f).toInt64)) ||| ((b10 &&& (255 : Int32)).toInt64)) <<< ((8 : Int32) &&& 0x3f).toInt64)) ||| ((b11 &&& (255 : Int32)).toInt64)) <<< ((8 : Int32) &&& 0x3f).toInt64)) ||| ((b12 &&& (255 : Int32)).toInt64)) <<< ((8 : Int32) &&& 0x3f).toInt64)) ||| ((b13 &&& (255 : Int32)).toInt64)) <<< ((8 : Int32) &&& 0x3f).toInt64)) ||| ((b14 &&& (255 : Int32)).toInt64))), .second, .val (.int (15 : Int32))]) (rest := []) w d2_25 rfl rfl rfl ?_
              refine ggoto (pc' := 5) w d2_28 (by decide) rfl ?_
              refine giloadN (pc' := 6) (Ls := #[.val (.ref a), .val (.long (((((((((((((((((((0 : Int64) <<< ((8 : Int32) &&& 0x3f).toInt64)) ||| ((b9 &&& (255 : Int32)).toInt64)) <<< ((8 : Int32) &&& 0x3f).toInt64)) ||| ((b10 &&& (255 : Int32)).toInt64)) <<< ((8 : Int32) &&& 0x3f).toInt64)) ||| ((b11 &&& (255 : Int32)).toInt64)) <<< ((8 : Int32) &&& 0x3f).toInt64)) ||| ((b12 &&& (255 : Int32)).toInt64)) <<< ((8 : Int32) &&& 0x3f).toInt64)) ||| ((b13 &&& (255 : Int32)).toInt64)) <<< ((8 : Int32) &&& 0x3f).toInt64)) ||| ((b14 &&& (255 : Int32)).toInt64))), .second, .val (.int (15 : Int32))]) (rest := []) w d2_5 rfl rfl ?_
              refine gbipush (v := (17 : Int32)) (pc' := 8) w d2_6 rfl rfl ?_
              refine gicmp (pt := 31) (pf := 11) w d2_8  (by decide) rfl rfl (fun (c8_6 : ¬ (15 : Int32) < (17 : Int32)) => ?_) (fun (c8_6 : (15 : Int32) < (17 : Int32)) => ?_)
              · exact absurd c8_6 (by decide)
              · refine glloadN (pc' := 12) (Ls := #[.val (.ref a), .val (.long (((((((((((((((((((0 : Int64) <<< ((8 : Int32) &&& 0x3f).toInt64)) ||| ((b9 &&& (255 : Int32)).toInt64)) <<< ((8 : Int32) &&& 0x3f).toInt64)) ||| ((b10 &&& (255 : Int32)).toInt64)) <<< ((8 : Int32) &&& 0x3f).toInt64)) ||| ((b11 &&& (255 : Int32)).toInt64)) <<< ((8 : Int32) &&& 0x3f).toInt64)) ||| ((b12 &&& (255 : Int32)).toInt64)) <<< ((8 : Int32) &&& 0x3f).toInt64)) ||| ((b13 &&& (255 : Int32)).toInt64)) <<< ((8 : Int32) &&& 0x3f).toInt64)) ||| ((b14 &&& (255 : Int32)).toInt64))), .second, .val (.int (15 : Int32))]) (rest := []) w d2_11 rfl rfl ?_
                refine gbipush (v := (8 : Int32)) (pc' := 14) w d2_12 rfl rfl ?_
                refine glshl (pc' := 15) w d2_14 rfl ?_
                refine galoadN (pc' := 16) (Ls := #[.val (.ref a), .val (.long (((((((((((((((((((0 : Int64) <<< ((8 : Int32) &&& 0x3f).toInt64)) ||| ((b9 &&& (255 : Int32)).toInt64)) <<< ((8 : Int32) &&& 0x3f).toInt64)) ||| ((b10 &&& (255 : Int32)).toInt64)) <<< ((8 : Int32) &&& 0x3f).toInt64)) ||| ((b11 &&& (255 : Int32)).toInt64)) <<< ((8 : Int32) &&& 0x3f).toInt64)) ||| ((b12 &&& (255 : Int32)).toInt64)) <<< ((8 : Int32) &&& 0x3f).toInt64)) ||| ((b13 &&& (255 : Int32)).toInt64)) <<< ((8 : Int32) &&& 0x3f).toInt64)) ||| ((b14 &&& (255 : Int32)).toInt64))), .second, .val (.int (15 : Int32))]) (rest := [(.long (((((((((((((((((((((0 : Int64) <<< ((8 : Int32) &&& 0x3f).toInt64)) ||| ((b9 &&& (255 : Int32)).toInt64)) <<< ((8 : Int32) &&& 0x3f).toInt64)) ||| ((b10 &&& (255 : Int32)).toInt64)) <<< ((8 : Int32) &&& 0x3f).toInt64)) ||| ((b11 &&& (255 : Int32)).toInt64)) <<< ((8 : Int32) &&& 0x3f).toInt64)) ||| ((b12 &&& (255 : Int32)).toInt64)) <<< ((8 : Int32) &&& 0x3f).toInt64)) ||| ((b13 &&& (255 : Int32)).toInt64)) <<< ((8 : Int32) &&& 0x3f).toInt64)) ||| ((b14 &&& (255 : Int32)).toInt64)) <<< ((8 : Int32) &&& 0x3f).toInt64)))]) w d2_15 rfl rfl rfl ?_
                refine giloadN (pc' := 17) (Ls := #[.val (.ref a), .val (.long (((((((((((((((((((0 : Int64) <<< ((8 : Int32) &&& 0x3f).toInt64)) ||| ((b9 &&& (255 : Int32)).toInt64)) <<< ((8 : Int32) &&& 0x3f).toInt64)) ||| ((b10 &&& (255 : Int32)).toInt64)) <<< ((8 : Int32) &&& 0x3f).toInt64)) ||| ((b11 &&& (255 : Int32)).toInt64)) <<< ((8 : Int32) &&& 0x3f).toInt64)) ||| ((b12 &&& (255 : Int32)).toInt64)) <<< ((8 : Int32) &&& 0x3f).toInt64)) ||| ((b13 &&& (255 : Int32)).toInt64)) <<< ((8 : Int32) &&& 0x3f).toInt64)) ||| ((b14 &&& (255 : Int32)).toInt64))), .second, .val (.int (15 : Int32))]) (rest := [(.ref a), (.long (((((((((((((((((((((0 : Int64) <<< ((8 : Int32) &&& 0x3f).toInt64)) ||| ((b9 &&& (255 : Int32)).toInt64)) <<< ((8 : Int32) &&& 0x3f).toInt64)) ||| ((b10 &&& (255 : Int32)).toInt64)) <<< ((8 : Int32) &&& 0x3f).toInt64)) ||| ((b11 &&& (255 : Int32)).toInt64)) <<< ((8 : Int32) &&& 0x3f).toInt64)) ||| ((b12 &&& (255 : Int32)).toInt64)) <<< ((8 : Int32) &&& 0x3f).toInt64)) ||| ((b13 &&& (255 : Int32)).toInt64)) <<< ((8 : Int32) &&& 0x3f).toInt64)) ||| ((b14 &&& (255 : Int32)).toInt64)) <<< ((8 : Int32) &&& 0x3f).toInt64)))]) w d2_16 rfl rfl ?_
                refine gbaload (pc' := 18) (v := (.int b15)) w d2_17 V ⟨by decide, Int32.lt_of_le_of_lt (by decide) hz⟩ v15 rfl ?_
                refine gsipush (v := (255 : Int32)) (pc' := 21) w d2_18 rfl rfl ?_
                refine giand (pc' := 22) w d2_21 rfl ?_
                refine gi2l (pc' := 23) w d2_22 rfl ?_
                refine glor (pc' := 24) w d2_23 rfl ?_
                refine glstoreN (pc' := 25) (Ls := #[.val (.ref a), .val (.long (((((((((((((((((((0 : Int64) <<< ((8 : Int32) &&& 0x3f).toInt64)) ||| ((b9 &&& (255 : Int32)).toInt64)) <<< ((8 : Int32) &&& 0x3f).toInt64)) ||| ((b10 &&& (255 : Int32)).toInt64)) <<< ((8 : Int32) &&& 0x3f).toInt64)) ||| ((b11 &&& (255 : Int32)).toInt64)) <<< ((8 : Int32) &&& 0x3f).toInt64)) ||| ((b12 &&& (255 : Int32)).toInt64)) <<< ((8 : Int32) &&& 0x3f).toInt64)) ||| ((b13 &&& (255 : Int32)).toInt64)) <<< ((8 : Int32) &&& 0x3f).toInt64)) ||| ((b14 &&& (255 : Int32)).toInt64))), .second, .val (.int (15 : Int32))]) (Ls' := #[.val (.ref a), .val (.long ((((((((((((((((((((((0 : Int64) <<< ((8 : Int32) &&& 0x3f).toInt64)) ||| ((b9 &&& (255 : Int32)).toInt64)) <<< ((8 : Int32) &&& 0x3f).toInt64)) ||| ((b10 &&& (255 : Int32)).toInt64)) <<< ((8 : Int32) &&& 0x3f).toInt64)) ||| ((b11 &&& (255 : Int32)).toInt64)) <<< ((8 : Int32) &&& 0x3f).toInt64)) ||| ((b12 &&& (255 : Int32)).toInt64)) <<< ((8 : Int32) &&& 0x3f).toInt64)) ||| ((b13 &&& (255 : Int32)).toInt64)) <<< ((8 : Int32) &&& 0x3f).toInt64)) ||| ((b14 &&& (255 : Int32)).toInt64)) <<< ((8 : Int32) &&& 0x3f).toInt64)) ||| ((b15 &&& (255 : Int32)).toInt64))), .second, .val (.int (15 : Int32))]) (rest := []) w d2_24 rfl rfl ?_
                refine giinc (pc' := 28) (Ls := #[.val (.ref a), .val (.long ((((((((((((((((((((((0 : Int64) <<< ((8 : Int32) &&& 0x3f).toInt64)) ||| ((b9 &&& (255 : Int32)).toInt64)) <<< ((8 : Int32) &&& 0x3f).toInt64)) ||| ((b10 &&& (255 : Int32)).toInt64)) <<< ((8 : Int32) &&& 0x3f).toInt64)) ||| ((b11 &&& (255 : Int32)).toInt64)) <<< ((8 : Int32) &&& 0x3f).toInt64)) ||| ((b12 &&& (255 : Int32)).toInt64)) <<< ((8 : Int32) &&& 0x3f).toInt64)) ||| ((b13 &&& (255 : Int32)).toInt64)) <<< ((8 : Int32) &&& 0x3f).toInt64)) ||| ((b14 &&& (255 : Int32)).toInt64)) <<< ((8 : Int32) &&& 0x3f).toInt64)) ||| ((b15 &&& (255 : Int32)).toInt64))), .second, .val (.int (15 : Int32))]) (Ls' := #[.val (.ref a), .val (.long ((((((((((((((((((((((0 : Int64) <<< ((8 : Int32) &&& 0x3f).toInt64)) ||| ((b9 &&& (255 : Int32)).toInt64)) <<< ((8 : Int32) &&& 0x3f).toInt64)) ||| ((b10 &&& (255 : Int32)).toInt64)) <<< ((8 : Int32) &&& 0x3f).toInt64)) ||| ((b11 &&& (255 : Int32)).toInt64)) <<< ((8 : Int32) &&& 0x3f).toInt64)) ||| ((b12 &&& (255 : Int32)).toInt64)) <<< ((8 : Int32) &&& 0x3f).toInt64)) ||| ((b13 &&& (255 : Int32)).toInt64)) <<< ((8 : Int32) &&& 0x3f).toInt64)) ||| ((b14 &&& (255 : Int32)).toInt64)) <<< ((8 : Int32) &&& 0x3f).toInt64)) ||| ((b15 &&& (255 : Int32)).toInt64))), .second, .val (.int (16 : Int32))]) (rest := []) w d2_25 rfl rfl rfl ?_
                refine ggoto (pc' := 5) w d2_28 (by decide) rfl ?_
                refine giloadN (pc' := 6) (Ls := #[.val (.ref a), .val (.long ((((((((((((((((((((((0 : Int64) <<< ((8 : Int32) &&& 0x3f).toInt64)) ||| ((b9 &&& (255 : Int32)).toInt64)) <<< ((8 : Int32) &&& 0x3f).toInt64)) ||| ((b10 &&& (255 : Int32)).toInt64)) <<< ((8 : Int32) &&& 0x3f).toInt64)) ||| ((b11 &&& (255 : Int32)).toInt64)) <<< ((8 : Int32) &&& 0x3f).toInt64)) ||| ((b12 &&& (255 : Int32)).toInt64)) <<< ((8 : Int32) &&& 0x3f).toInt64)) ||| ((b13 &&& (255 : Int32)).toInt64)) <<< ((8 : Int32) &&& 0x3f).toInt64)) ||| ((b14 &&& (255 : Int32)).toInt64)) <<< ((8 : Int32) &&& 0x3f).toInt64)) ||| ((b15 &&& (255 : Int32)).toInt64))), .second, .val (.int (16 : Int32))]) (rest := []) w d2_5 rfl rfl ?_
                refine gbipush (v := (17 : Int32)) (pc' := 8) w d2_6 rfl rfl ?_
                refine gicmp (pt := 31) (pf := 11) w d2_8  (by decide) rfl rfl (fun (c8_7 : ¬ (16 : Int32) < (17 : Int32)) => ?_) (fun (c8_7 : (16 : Int32) < (17 : Int32)) => ?_)
                · exact absurd c8_7 (by decide)
                · refine glloadN (pc' := 12) (Ls := #[.val (.ref a), .val (.long ((((((((((((((((((((((0 : Int64) <<< ((8 : Int32) &&& 0x3f).toInt64)) ||| ((b9 &&& (255 : Int32)).toInt64)) <<< ((8 : Int32) &&& 0x3f).toInt64)) ||| ((b10 &&& (255 : Int32)).toInt64)) <<< ((8 : Int32) &&& 0x3f).toInt64)) ||| ((b11 &&& (255 : Int32)).toInt64)) <<< ((8 : Int32) &&& 0x3f).toInt64)) ||| ((b12 &&& (255 : Int32)).toInt64)) <<< ((8 : Int32) &&& 0x3f).toInt64)) ||| ((b13 &&& (255 : Int32)).toInt64)) <<< ((8 : Int32) &&& 0x3f).toInt64)) ||| ((b14 &&& (255 : Int32)).toInt64)) <<< ((8 : Int32) &&& 0x3f).toInt64)) ||| ((b15 &&& (255 : Int32)).toInt64))), .second, .val (.int (16 : Int32))]) (rest := []) w d2_11 rfl rfl ?_
                  refine gbipush (v := (8 : Int32)) (pc' := 14) w d2_12 rfl rfl ?_
                  refine glshl (pc' := 15) w d2_14 rfl ?_
                  refine galoadN (pc' := 16) (Ls := #[.val (.ref a), .val (.long ((((((((((((((((((((((0 : Int64) <<< ((8 : Int32) &&& 0x3f).toInt64)) ||| ((b9 &&& (255 : Int32)).toInt64)) <<< ((8 : Int32) &&& 0x3f).toInt64)) ||| ((b10 &&& (255 : Int32)).toInt64)) <<< ((8 : Int32) &&& 0x3f).toInt64)) ||| ((b11 &&& (255 : Int32)).toInt64)) <<< ((8 : Int32) &&& 0x3f).toInt64)) ||| ((b12 &&& (255 : Int32)).toInt64)) <<< ((8 : Int32) &&& 0x3f).toInt64)) ||| ((b13 &&& (255 : Int32)).toInt64)) <<< ((8 : Int32) &&& 0x3f).toInt64)) ||| ((b14 &&& (255 : Int32)).toInt64)) <<< ((8 : Int32) &&& 0x3f).toInt64)) ||| ((b15 &&& (255 : Int32)).toInt64))), .second, .val (.int (16 : Int32))]) (rest := [(.long ((((((((((((((((((((((((0 : Int64) <<< ((8 : Int32) &&& 0x3f).toInt64)) ||| ((b9 &&& (255 : Int32)).toInt64)) <<< ((8 : Int32) &&& 0x3f).toInt64)) ||| ((b10 &&& (255 : Int32)).toInt64)) <<< ((8 : Int32) &&& 0x3f).toInt64)) ||| ((b11 &&& (255 : Int32)).toInt64)) <<< ((8 : Int32) &&& 0x3f).toInt64)) ||| ((b12 &&& (255 : Int32)).toInt64)) <<< ((8 : Int32) &&& 0x3f).toInt64)) ||| ((b13 &&& (255 : Int32)).toInt64)) <<< ((8 : Int32) &&& 0x3f).toInt64)) ||| ((b14 &&& (255 : Int32)).toInt64)) <<< ((8 : Int32) &&& 0x3f).toInt64)) ||| ((b15 &&& (255 : Int32)).toInt64)) <<< ((8 : Int32) &&& 0x3f).toInt64)))]) w d2_15 rfl rfl rfl ?_
                  refine giloadN (pc' := 17) (Ls := #[.val (.ref a), .val (.long ((((((((((((((((((((((0 : Int64) <<< ((8 : Int32) &&& 0x3f).toInt64)) ||| ((b9 &&& (255 : Int32)).toInt64)) <<< ((8 : Int32) &&& 0x3f).toInt64)) ||| ((b10 &&& (255 : Int32)).toInt64)) <<< ((8 : Int32) &&& 0x3f).toInt64)) ||| ((b11 &&& (255 : Int32)).toInt64)) <<< ((8 : Int32) &&& 0x3f).toInt64)) ||| ((b12 &&& (255 : Int32)).toInt64)) <<< ((8 : Int32) &&& 0x3f).toInt64)) ||| ((b13 &&& (255 : Int32)).toInt64)) <<< ((8 : Int32) &&& 0x3f).toInt64)) ||| ((b14 &&& (255 : Int32)).toInt64)) <<< ((8 : Int32) &&& 0x3f).toInt64)) ||| ((b15 &&& (255 : Int32)).toInt64))), .second, .val (.int (16 : Int32))]) (rest := [(.ref a), (.long ((((((((((((((((((((((((0 : Int64) <<< ((8 : Int32) &&& 0x3f).toInt64)) ||| ((b9 &&& (255 : Int32)).toInt64)) <<< ((8 : Int32) &&& 0x3f).toInt64)) ||| ((b10 &&& (255 : Int32)).toInt64)) <<< ((8 : Int32) &&& 0x3f).toInt64)) ||| ((b11 &&& (255 : Int32)).toInt64)) <<< ((8 : Int32) &&& 0x3f).toInt64)) ||| ((b12 &&& (255 : Int32)).toInt64)) <<< ((8 : Int32) &&& 0x3f).toInt64)) ||| ((b13 &&& (255 : Int32)).toInt64)) <<< ((8 : Int32) &&& 0x3f).toInt64)) ||| ((b14 &&& (255 : Int32)).toInt64)) <<< ((8 : Int32) &&& 0x3f).toInt64)) ||| ((b15 &&& (255 : Int32)).toInt64)) <<< ((8 : Int32) &&& 0x3f).toInt64)))]) w d2_16 rfl rfl ?_
                  refine gbaload (pc' := 18) (v := (.int b16)) w d2_17 V ⟨by decide, Int32.lt_of_le_of_lt (by decide) hz⟩ v16 rfl ?_
                  refine gsipush (v := (255 : Int32)) (pc' := 21) w d2_18 rfl rfl ?_
                  refine giand (pc' := 22) w d2_21 rfl ?_
                  refine gi2l (pc' := 23) w d2_22 rfl ?_
                  refine glor (pc' := 24) w d2_23 rfl ?_
                  refine glstoreN (pc' := 25) (Ls := #[.val (.ref a), .val (.long ((((((((((((((((((((((0 : Int64) <<< ((8 : Int32) &&& 0x3f).toInt64)) ||| ((b9 &&& (255 : Int32)).toInt64)) <<< ((8 : Int32) &&& 0x3f).toInt64)) ||| ((b10 &&& (255 : Int32)).toInt64)) <<< ((8 : Int32) &&& 0x3f).toInt64)) ||| ((b11 &&& (255 : Int32)).toInt64)) <<< ((8 : Int32) &&& 0x3f).toInt64)) ||| ((b12 &&& (255 : Int32)).toInt64)) <<< ((8 : Int32) &&& 0x3f).toInt64)) ||| ((b13 &&& (255 : Int32)).toInt64)) <<< ((8 : Int32) &&& 0x3f).toInt64)) ||| ((b14 &&& (255 : Int32)).toInt64)) <<< ((8 : Int32) &&& 0x3f).toInt64)) ||| ((b15 &&& (255 : Int32)).toInt64))), .second, .val (.int (16 : Int32))]) (Ls' := #[.val (.ref a), .val (.long (((((((((((((((((((((((((0 : Int64) <<< ((8 : Int32) &&& 0x3f).toInt64)) ||| ((b9 &&& (255 : Int32)).toInt64)) <<< ((8 : Int32) &&& 0x3f).toInt64)) ||| ((b10 &&& (255 : Int32)).toInt64)) <<< ((8 : Int32) &&& 0x3f).toInt64)) ||| ((b11 &&& (255 : Int32)).toInt64)) <<< ((8 : Int32) &&& 0x3f).toInt64)) ||| ((b12 &&& (255 : Int32)).toInt64)) <<< ((8 : Int32) &&& 0x3f).toInt64)) ||| ((b13 &&& (255 : Int32)).toInt64)) <<< ((8 : Int32) &&& 0x3f).toInt64)) ||| ((b14 &&& (255 : Int32)).toInt64)) <<< ((8 : Int32) &&& 0x3f).toInt64)) ||| ((b15 &&& (255 : Int32)).toInt64)) <<< ((8 : Int32) &&& 0x3f).toInt64)) ||| ((b16 &&& (255 : Int32)).toInt64))), .second, .val (.int (16 : Int32))]) (rest := []) w d2_24 rfl rfl ?_
                  refine giinc (pc' := 28) (Ls := #[.val (.ref a), .val (.long (((((((((((((((((((((((((0 : Int64) <<< ((8 : Int32) &&& 0x3f).toInt64)) ||| ((b9 &&& (255 : Int32)).toInt64)) <<< ((8 : Int32) &&& 0x3f).toInt64)) ||| ((b10 &&& (255 : Int32)).toInt64)) <<< ((8 : Int32) &&& 0x3f).toInt64)) ||| ((b11 &&& (255 : Int32)).toInt64)) <<< ((8 : Int32) &&& 0x3f).toInt64)) ||| ((b12 &&& (255 : Int32)).toInt64)) <<< ((8 : Int32) &&& 0x3f).toInt64)) ||| ((b13 &&& (255 : Int32)).toInt64)) <<< ((8 : Int32) &&& 0x3f).toInt64)) ||| ((b14 &&& (255 : Int32)).toInt64)) <<< ((8 : Int32) &&& 0x3f).toInt64)) ||| ((b15 &&& (255 : Int32)).toInt64)) <<< ((8 : Int32) &&& 0x3f).toInt64)) ||| ((b16 &&& (255 : Int32)).toInt64))), .second, .val (.int (16 : Int32))]) (Ls' := #[.val (.ref a), .val (.long (((((((((((((((((((((((((0 : Int64) <<< ((8 : Int32) &&& 0x3f).toInt64)) ||| ((b9 &&& (255 : Int32)).toInt64)) <<< ((8 : Int32) &&& 0x3f).toInt64)) ||| ((b10 &&& (255 : Int32)).toInt64)) <<< ((8 : Int32) &&& 0x3f).toInt64)) ||| ((b11 &&& (255 : Int32)).toInt64)) <<< ((8 : Int32) &&& 0x3f).toInt64)) ||| ((b12 &&& (255 : Int32)).toInt64)) <<< ((8 : Int32) &&& 0x3f).toInt64)) ||| ((b13 &&& (255 : Int32)).toInt64)) <<< ((8 : Int32) &&& 0x3f).toInt64)) ||| ((b14 &&& (255 : Int32)).toInt64)) <<< ((8 : Int32) &&& 0x3f).toInt64)) ||| ((b15 &&& (255 : Int32)).toInt64)) <<< ((8 : Int32) &&& 0x3f).toInt64)) ||| ((b16 &&& (255 : Int32)).toInt64))), .second, .val (.int (17 : Int32))]) (rest := []) w d2_25 rfl rfl rfl ?_
                  refine ggoto (pc' := 5) w d2_28 (by decide) rfl ?_
                  refine giloadN (pc' := 6) (Ls := #[.val (.ref a), .val (.long (((((((((((((((((((((((((0 : Int64) <<< ((8 : Int32) &&& 0x3f).toInt64)) ||| ((b9 &&& (255 : Int32)).toInt64)) <<< ((8 : Int32) &&& 0x3f).toInt64)) ||| ((b10 &&& (255 : Int32)).toInt64)) <<< ((8 : Int32) &&& 0x3f).toInt64)) ||| ((b11 &&& (255 : Int32)).toInt64)) <<< ((8 : Int32) &&& 0x3f).toInt64)) ||| ((b12 &&& (255 : Int32)).toInt64)) <<< ((8 : Int32) &&& 0x3f).toInt64)) ||| ((b13 &&& (255 : Int32)).toInt64)) <<< ((8 : Int32) &&& 0x3f).toInt64)) ||| ((b14 &&& (255 : Int32)).toInt64)) <<< ((8 : Int32) &&& 0x3f).toInt64)) ||| ((b15 &&& (255 : Int32)).toInt64)) <<< ((8 : Int32) &&& 0x3f).toInt64)) ||| ((b16 &&& (255 : Int32)).toInt64))), .second, .val (.int (17 : Int32))]) (rest := []) w d2_5 rfl rfl ?_
                  refine gbipush (v := (17 : Int32)) (pc' := 8) w d2_6 rfl rfl ?_
                  refine gicmp (pt := 31) (pf := 11) w d2_8  (by decide) rfl rfl (fun (c8_8 : ¬ (17 : Int32) < (17 : Int32)) => ?_) (fun (c8_8 : (17 : Int32) < (17 : Int32)) => ?_)
                  · refine glloadN (pc' := 32) (Ls := #[.val (.ref a), .val (.long (((((((((((((((((((((((((0 : Int64) <<< ((8 : Int32) &&& 0x3f).toInt64)) ||| ((b9 &&& (255 : Int32)).toInt64)) <<< ((8 : Int32) &&& 0x3f).toInt64)) ||| ((b10 &&& (255 : Int32)).toInt64)) <<< ((8 : Int32) &&& 0x3f).toInt64)) ||| ((b11 &&& (255 : Int32)).toInt64)) <<< ((8 : Int32) &&& 0x3f).toInt64)) ||| ((b12 &&& (255 : Int32)).toInt64)) <<< ((8 : Int32) &&& 0x3f).toInt64)) ||| ((b13 &&& (255 : Int32)).toInt64)) <<< ((8 : Int32) &&& 0x3f).toInt64)) ||| ((b14 &&& (255 : Int32)).toInt64)) <<< ((8 : Int32) &&& 0x3f).toInt64)) ||| ((b15 &&& (255 : Int32)).toInt64)) <<< ((8 : Int32) &&& 0x3f).toInt64)) ||| ((b16 &&& (255 : Int32)).toInt64))), .second, .val (.int (17 : Int32))]) (rest := []) w d2_31 rfl rfl ?_
                    exact gretJ w d2_32 (by decide) (by decide) ⟨rfl, rfl⟩
                  · exact absurd c8_8 (by decide)
set_option maxRecDepth 65536 in
set_option maxHeartbeats 4000000 in
theorem own_put1 (hw : ∀ d ∈ tables_1, d.before a0 Z = true) (a : Addr) (q : Int64) (ka : ClassId) (z : Int32) (vs : List Value) (dv : Value) (ga : n0 ≤ a) (V : Arv Z h a ka .byte z vs dv) (hz : (16 : Int32) < z) (hl : 17 ≤ vs.length) :
    Ctr l (⟨"com/example/vellum_keys/vellumkeys/storage/KeyCodecSequenceNumberOfPinLaw", "put", "([BIJ)V"⟩ : MethodName) method_2_code 4 none ({ frames := 0, cells := 0, slots := 0, locals := 0 } : Room) Z #[(.ref a), (.int (1 : Int32)), (.long q)] h n0 (fun v h' => v = none ∧ Arv Z h' a ka .byte z ((((((((vs.set 1 (.int (((((q).toUInt64 >>> ((56 : Int32) &&& 0x3f).toInt64.toUInt64).toInt64).toInt32).toInt8.toInt32))).set 2 (.int (((((q).toUInt64 >>> ((48 : Int32) &&& 0x3f).toInt64.toUInt64).toInt64).toInt32).toInt8.toInt32))).set 3 (.int (((((q).toUInt64 >>> ((40 : Int32) &&& 0x3f).toInt64.toUInt64).toInt64).toInt32).toInt8.toInt32))).set 4 (.int (((((q).toUInt64 >>> ((32 : Int32) &&& 0x3f).toInt64.toUInt64).toInt64).toInt32).toInt8.toInt32))).set 5 (.int (((((q).toUInt64 >>> ((24 : Int32) &&& 0x3f).toInt64.toUInt64).toInt64).toInt32).toInt8.toInt32))).set 6 (.int (((((q).toUInt64 >>> ((16 : Int32) &&& 0x3f).toInt64.toUInt64).toInt64).toInt32).toInt8.toInt32))).set 7 (.int (((((q).toUInt64 >>> ((8 : Int32) &&& 0x3f).toInt64.toUInt64).toInt64).toInt32).toInt8.toInt32))).set 8 (.int ((q.toInt32).toInt8.toInt32))) dv) [] := by
  refine metGo (Ls := #[.val (.ref a), .val (.int (1 : Int32)), .val (.long q), .second]) pn_d1 (fun m => by first | rfl | (simp [entryFrame, mkF, argsToLocals, Value.category]; done) | (simp [entryFrame, mkF, argsToLocals, Value.category, maxLocals]; done)) ?_
  intro p e s m below meth c T w
  refine galoadN (pc' := 1) (Ls := #[.val (.ref a), .val (.int (1 : Int32)), .val (.long q), .second]) (rest := []) w d1_0 rfl rfl rfl ?_
  refine giloadN (pc' := 2) (Ls := #[.val (.ref a), .val (.int (1 : Int32)), .val (.long q), .second]) (rest := [(.ref a)]) w d1_1 rfl rfl ?_
  refine glloadN (pc' := 3) (Ls := #[.val (.ref a), .val (.int (1 : Int32)), .val (.long q), .second]) (rest := [(.int (1 : Int32)), (.ref a)]) w d1_2 rfl rfl ?_
  refine gbipush (v := (56 : Int32)) (pc' := 5) w d1_3 rfl rfl ?_
  refine glushr (pc' := 6) w d1_5 rfl ?_
  refine gl2i (pc' := 7) w d1_6 rfl ?_
  refine gi2b (pc' := 8) w d1_7 rfl ?_
  refine gbastore (pc' := 9) (x' := (((((q).toUInt64 >>> ((56 : Int32) &&& 0x3f).toInt64.toUInt64).toInt64).toInt32).toInt8.toInt32)) w d1_8 (own_bb _) V ⟨by decide, Int32.lt_of_le_of_lt (by decide) hz⟩ (1) rfl (by first | exact Nat.lt_of_lt_of_le (by decide) hl | (simp only [List.length_set]; exact Nat.lt_of_lt_of_le (by decide) hl)) ga rfl (fun T1 h2 w3 W4 V5 => ?_)
  have V6 : Arv Z h2 a ka .byte z (vs.set 1 (.int (((((q).toUInt64 >>> ((56 : Int32) &&& 0x3f).toInt64.toUInt64).toInt64).toInt32).toInt8.toInt32))) dv := V5
  refine galoadN (pc' := 10) (Ls := #[.val (.ref a), .val (.int (1 : Int32)), .val (.long q), .second]) (rest := []) w3 d1_9 rfl rfl rfl ?_
  refine giloadN (pc' := 11) (Ls := #[.val (.ref a), .val (.int (1 : Int32)), .val (.long q), .second]) (rest := [(.ref a)]) w3 d1_10 rfl rfl ?_
  refine giconst (v := (1 : Int32)) (pc' := 12) w3 d1_11 rfl rfl ?_
  refine giadd (pc' := 13) w3 d1_12 rfl ?_
  refine glloadN (pc' := 14) (Ls := #[.val (.ref a), .val (.int (1 : Int32)), .val (.long q), .second]) (rest := [(.int ((1 : Int32) + (1 : Int32))), (.ref a)]) w3 d1_13 rfl rfl ?_
  refine gbipush (v := (48 : Int32)) (pc' := 16) w3 d1_14 rfl rfl ?_
  refine glushr (pc' := 17) w3 d1_16 rfl ?_
  refine gl2i (pc' := 18) w3 d1_17 rfl ?_
  refine gi2b (pc' := 19) w3 d1_18 rfl ?_
  refine gbastore (pc' := 20) (x' := (((((q).toUInt64 >>> ((48 : Int32) &&& 0x3f).toInt64.toUInt64).toInt64).toInt32).toInt8.toInt32)) w3 d1_19 (own_bb _) V6 ⟨by decide, Int32.lt_of_le_of_lt (by decide) hz⟩ (2) rfl (by first | exact Nat.lt_of_lt_of_le (by decide) hl | (simp only [List.length_set]; exact Nat.lt_of_lt_of_le (by decide) hl)) ga rfl (fun T7 h8 w9 W10 V11 => ?_)
  have V12 : Arv Z h8 a ka .byte z ((vs.set 1 (.int (((((q).toUInt64 >>> ((56 : Int32) &&& 0x3f).toInt64.toUInt64).toInt64).toInt32).toInt8.toInt32))).set 2 (.int (((((q).toUInt64 >>> ((48 : Int32) &&& 0x3f).toInt64.toUInt64).toInt64).toInt32).toInt8.toInt32))) dv := V11
  refine galoadN (pc' := 21) (Ls := #[.val (.ref a), .val (.int (1 : Int32)), .val (.long q), .second]) (rest := []) w9 d1_20 rfl rfl rfl ?_
  refine giloadN (pc' := 22) (Ls := #[.val (.ref a), .val (.int (1 : Int32)), .val (.long q), .second]) (rest := [(.ref a)]) w9 d1_21 rfl rfl ?_
  refine giconst (v := (2 : Int32)) (pc' := 23) w9 d1_22 rfl rfl ?_
  refine giadd (pc' := 24) w9 d1_23 rfl ?_
  refine glloadN (pc' := 25) (Ls := #[.val (.ref a), .val (.int (1 : Int32)), .val (.long q), .second]) (rest := [(.int ((1 : Int32) + (2 : Int32))), (.ref a)]) w9 d1_24 rfl rfl ?_
  refine gbipush (v := (40 : Int32)) (pc' := 27) w9 d1_25 rfl rfl ?_
  refine glushr (pc' := 28) w9 d1_27 rfl ?_
  refine gl2i (pc' := 29) w9 d1_28 rfl ?_
  refine gi2b (pc' := 30) w9 d1_29 rfl ?_
  refine gbastore (pc' := 31) (x' := (((((q).toUInt64 >>> ((40 : Int32) &&& 0x3f).toInt64.toUInt64).toInt64).toInt32).toInt8.toInt32)) w9 d1_30 (own_bb _) V12 ⟨by decide, Int32.lt_of_le_of_lt (by decide) hz⟩ (3) rfl (by first | exact Nat.lt_of_lt_of_le (by decide) hl | (simp only [List.length_set]; exact Nat.lt_of_lt_of_le (by decide) hl)) ga rfl (fun T13 h14 w15 W16 V17 => ?_)
  have V18 : Arv Z h14 a ka .byte z (((vs.set 1 (.int (((((q).toUInt64 >>> ((56 : Int32) &&& 0x3f).toInt64.toUInt64).toInt64).toInt32).toInt8.toInt32))).set 2 (.int (((((q).toUInt64 >>> ((48 : Int32) &&& 0x3f).toInt64.toUInt64).toInt64).toInt32).toInt8.toInt32))).set 3 (.int (((((q).toUInt64 >>> ((40 : Int32) &&& 0x3f).toInt64.toUInt64).toInt64).toInt32).toInt8.toInt32))) dv := V17
  refine galoadN (pc' := 32) (Ls := #[.val (.ref a), .val (.int (1 : Int32)), .val (.long q), .second]) (rest := []) w15 d1_31 rfl rfl rfl ?_
  refine giloadN (pc' := 33) (Ls := #[.val (.ref a), .val (.int (1 : Int32)), .val (.long q), .second]) (rest := [(.ref a)]) w15 d1_32 rfl rfl ?_
  refine giconst (v := (3 : Int32)) (pc' := 34) w15 d1_33 rfl rfl ?_
  refine giadd (pc' := 35) w15 d1_34 rfl ?_
  refine glloadN (pc' := 36) (Ls := #[.val (.ref a), .val (.int (1 : Int32)), .val (.long q), .second]) (rest := [(.int ((1 : Int32) + (3 : Int32))), (.ref a)]) w15 d1_35 rfl rfl ?_
  refine gbipush (v := (32 : Int32)) (pc' := 38) w15 d1_36 rfl rfl ?_
  refine glushr (pc' := 39) w15 d1_38 rfl ?_
  refine gl2i (pc' := 40) w15 d1_39 rfl ?_
  refine gi2b (pc' := 41) w15 d1_40 rfl ?_
  refine gbastore (pc' := 42) (x' := (((((q).toUInt64 >>> ((32 : Int32) &&& 0x3f).toInt64.toUInt64).toInt64).toInt32).toInt8.toInt32)) w15 d1_41 (own_bb _) V18 ⟨by decide, Int32.lt_of_le_of_lt (by decide) hz⟩ (4) rfl (by first | exact Nat.lt_of_lt_of_le (by decide) hl | (simp only [List.length_set]; exact Nat.lt_of_lt_of_le (by decide) hl)) ga rfl (fun T19 h20 w21 W22 V23 => ?_)
  have V24 : Arv Z h20 a ka .byte z ((((vs.set 1 (.int (((((q).toUInt64 >>> ((56 : Int32) &&& 0x3f).toInt64.toUInt64).toInt64).toInt32).toInt8.toInt32))).set 2 (.int (((((q).toUInt64 >>> ((48 : Int32) &&& 0x3f).toInt64.toUInt64).toInt64).toInt32).toInt8.toInt32))).set 3 (.int (((((q).toUInt64 >>> ((40 : Int32) &&& 0x3f).toInt64.toUInt64).toInt64).toInt32).toInt8.toInt32))).set 4 (.int (((((q).toUInt64 >>> ((32 : Int32) &&& 0x3f).toInt64.toUInt64).toInt64).toInt32).toInt8.toInt32))) dv := V23
  refine galoadN (pc' := 43) (Ls := #[.val (.ref a), .val (.int (1 : Int32)), .val (.long q), .second]) (rest := []) w21 d1_42 rfl rfl rfl ?_
  refine giloadN (pc' := 44) (Ls := #[.val (.ref a), .val (.int (1 : Int32)), .val (.long q), .second]) (rest := [(.ref a)]) w21 d1_43 rfl rfl ?_
  refine giconst (v := (4 : Int32)) (pc' := 45) w21 d1_44 rfl rfl ?_
  refine giadd (pc' := 46) w21 d1_45 rfl ?_
  refine glloadN (pc' := 47) (Ls := #[.val (.ref a), .val (.int (1 : Int32)), .val (.long q), .second]) (rest := [(.int ((1 : Int32) + (4 : Int32))), (.ref a)]) w21 d1_46 rfl rfl ?_
  refine gbipush (v := (24 : Int32)) (pc' := 49) w21 d1_47 rfl rfl ?_
  refine glushr (pc' := 50) w21 d1_49 rfl ?_
  refine gl2i (pc' := 51) w21 d1_50 rfl ?_
  refine gi2b (pc' := 52) w21 d1_51 rfl ?_
  refine gbastore (pc' := 53) (x' := (((((q).toUInt64 >>> ((24 : Int32) &&& 0x3f).toInt64.toUInt64).toInt64).toInt32).toInt8.toInt32)) w21 d1_52 (own_bb _) V24 ⟨by decide, Int32.lt_of_le_of_lt (by decide) hz⟩ (5) rfl (by first | exact Nat.lt_of_lt_of_le (by decide) hl | (simp only [List.length_set]; exact Nat.lt_of_lt_of_le (by decide) hl)) ga rfl (fun T25 h26 w27 W28 V29 => ?_)
  have V30 : Arv Z h26 a ka .byte z (((((vs.set 1 (.int (((((q).toUInt64 >>> ((56 : Int32) &&& 0x3f).toInt64.toUInt64).toInt64).toInt32).toInt8.toInt32))).set 2 (.int (((((q).toUInt64 >>> ((48 : Int32) &&& 0x3f).toInt64.toUInt64).toInt64).toInt32).toInt8.toInt32))).set 3 (.int (((((q).toUInt64 >>> ((40 : Int32) &&& 0x3f).toInt64.toUInt64).toInt64).toInt32).toInt8.toInt32))).set 4 (.int (((((q).toUInt64 >>> ((32 : Int32) &&& 0x3f).toInt64.toUInt64).toInt64).toInt32).toInt8.toInt32))).set 5 (.int (((((q).toUInt64 >>> ((24 : Int32) &&& 0x3f).toInt64.toUInt64).toInt64).toInt32).toInt8.toInt32))) dv := V29
  refine galoadN (pc' := 54) (Ls := #[.val (.ref a), .val (.int (1 : Int32)), .val (.long q), .second]) (rest := []) w27 d1_53 rfl rfl rfl ?_
  refine giloadN (pc' := 55) (Ls := #[.val (.ref a), .val (.int (1 : Int32)), .val (.long q), .second]) (rest := [(.ref a)]) w27 d1_54 rfl rfl ?_
  refine giconst (v := (5 : Int32)) (pc' := 56) w27 d1_55 rfl rfl ?_
  refine giadd (pc' := 57) w27 d1_56 rfl ?_
  refine glloadN (pc' := 58) (Ls := #[.val (.ref a), .val (.int (1 : Int32)), .val (.long q), .second]) (rest := [(.int ((1 : Int32) + (5 : Int32))), (.ref a)]) w27 d1_57 rfl rfl ?_
  refine gbipush (v := (16 : Int32)) (pc' := 60) w27 d1_58 rfl rfl ?_
  refine glushr (pc' := 61) w27 d1_60 rfl ?_
  refine gl2i (pc' := 62) w27 d1_61 rfl ?_
  refine gi2b (pc' := 63) w27 d1_62 rfl ?_
  refine gbastore (pc' := 64) (x' := (((((q).toUInt64 >>> ((16 : Int32) &&& 0x3f).toInt64.toUInt64).toInt64).toInt32).toInt8.toInt32)) w27 d1_63 (own_bb _) V30 ⟨by decide, Int32.lt_of_le_of_lt (by decide) hz⟩ (6) rfl (by first | exact Nat.lt_of_lt_of_le (by decide) hl | (simp only [List.length_set]; exact Nat.lt_of_lt_of_le (by decide) hl)) ga rfl (fun T31 h32 w33 W34 V35 => ?_)
  have V36 : Arv Z h32 a ka .byte z ((((((vs.set 1 (.int (((((q).toUInt64 >>> ((56 : Int32) &&& 0x3f).toInt64.toUInt64).toInt64).toInt32).toInt8.toInt32))).set 2 (.int (((((q).toUInt64 >>> ((48 : Int32) &&& 0x3f).toInt64.toUInt64).toInt64).toInt32).toInt8.toInt32))).set 3 (.int (((((q).toUInt64 >>> ((40 : Int32) &&& 0x3f).toInt64.toUInt64).toInt64).toInt32).toInt8.toInt32))).set 4 (.int (((((q).toUInt64 >>> ((32 : Int32) &&& 0x3f).toInt64.toUInt64).toInt64).toInt32).toInt8.toInt32))).set 5 (.int (((((q).toUInt64 >>> ((24 : Int32) &&& 0x3f).toInt64.toUInt64).toInt64).toInt32).toInt8.toInt32))).set 6 (.int (((((q).toUInt64 >>> ((16 : Int32) &&& 0x3f).toInt64.toUInt64).toInt64).toInt32).toInt8.toInt32))) dv := V35
  refine galoadN (pc' := 65) (Ls := #[.val (.ref a), .val (.int (1 : Int32)), .val (.long q), .second]) (rest := []) w33 d1_64 rfl rfl rfl ?_
  refine giloadN (pc' := 66) (Ls := #[.val (.ref a), .val (.int (1 : Int32)), .val (.long q), .second]) (rest := [(.ref a)]) w33 d1_65 rfl rfl ?_
  refine gbipush (v := (6 : Int32)) (pc' := 68) w33 d1_66 rfl rfl ?_
  refine giadd (pc' := 69) w33 d1_68 rfl ?_
  refine glloadN (pc' := 70) (Ls := #[.val (.ref a), .val (.int (1 : Int32)), .val (.long q), .second]) (rest := [(.int ((1 : Int32) + (6 : Int32))), (.ref a)]) w33 d1_69 rfl rfl ?_
  refine gbipush (v := (8 : Int32)) (pc' := 72) w33 d1_70 rfl rfl ?_
  refine glushr (pc' := 73) w33 d1_72 rfl ?_
  refine gl2i (pc' := 74) w33 d1_73 rfl ?_
  refine gi2b (pc' := 75) w33 d1_74 rfl ?_
  refine gbastore (pc' := 76) (x' := (((((q).toUInt64 >>> ((8 : Int32) &&& 0x3f).toInt64.toUInt64).toInt64).toInt32).toInt8.toInt32)) w33 d1_75 (own_bb _) V36 ⟨by decide, Int32.lt_of_le_of_lt (by decide) hz⟩ (7) rfl (by first | exact Nat.lt_of_lt_of_le (by decide) hl | (simp only [List.length_set]; exact Nat.lt_of_lt_of_le (by decide) hl)) ga rfl (fun T37 h38 w39 W40 V41 => ?_)
  have V42 : Arv Z h38 a ka .byte z (((((((vs.set 1 (.int (((((q).toUInt64 >>> ((56 : Int32) &&& 0x3f).toInt64.toUInt64).toInt64).toInt32).toInt8.toInt32))).set 2 (.int (((((q).toUInt64 >>> ((48 : Int32) &&& 0x3f).toInt64.toUInt64).toInt64).toInt32).toInt8.toInt32))).set 3 (.int (((((q).toUInt64 >>> ((40 : Int32) &&& 0x3f).toInt64.toUInt64).toInt64).toInt32).toInt8.toInt32))).set 4 (.int (((((q).toUInt64 >>> ((32 : Int32) &&& 0x3f).toInt64.toUInt64).toInt64).toInt32).toInt8.toInt32))).set 5 (.int (((((q).toUInt64 >>> ((24 : Int32) &&& 0x3f).toInt64.toUInt64).toInt64).toInt32).toInt8.toInt32))).set 6 (.int (((((q).toUInt64 >>> ((16 : Int32) &&& 0x3f).toInt64.toUInt64).toInt64).toInt32).toInt8.toInt32))).set 7 (.int (((((q).toUInt64 >>> ((8 : Int32) &&& 0x3f).toInt64.toUInt64).toInt64).toInt32).toInt8.toInt32))) dv := V41
  refine galoadN (pc' := 77) (Ls := #[.val (.ref a), .val (.int (1 : Int32)), .val (.long q), .second]) (rest := []) w39 d1_76 rfl rfl rfl ?_
  refine giloadN (pc' := 78) (Ls := #[.val (.ref a), .val (.int (1 : Int32)), .val (.long q), .second]) (rest := [(.ref a)]) w39 d1_77 rfl rfl ?_
  refine gbipush (v := (7 : Int32)) (pc' := 80) w39 d1_78 rfl rfl ?_
  refine giadd (pc' := 81) w39 d1_80 rfl ?_
  refine glloadN (pc' := 82) (Ls := #[.val (.ref a), .val (.int (1 : Int32)), .val (.long q), .second]) (rest := [(.int ((1 : Int32) + (7 : Int32))), (.ref a)]) w39 d1_81 rfl rfl ?_
  refine gl2i (pc' := 83) w39 d1_82 rfl ?_
  refine gi2b (pc' := 84) w39 d1_83 rfl ?_
  refine gbastore (pc' := 85) (x' := ((q.toInt32).toInt8.toInt32)) w39 d1_84 (own_bb _) V42 ⟨by decide, Int32.lt_of_le_of_lt (by decide) hz⟩ (8) rfl (by first | exact Nat.lt_of_lt_of_le (by decide) hl | (simp only [List.length_set]; exact Nat.lt_of_lt_of_le (by decide) hl)) ga rfl (fun T43 h44 w45 W46 V47 => ?_)
  have V48 : Arv Z h44 a ka .byte z ((((((((vs.set 1 (.int (((((q).toUInt64 >>> ((56 : Int32) &&& 0x3f).toInt64.toUInt64).toInt64).toInt32).toInt8.toInt32))).set 2 (.int (((((q).toUInt64 >>> ((48 : Int32) &&& 0x3f).toInt64.toUInt64).toInt64).toInt32).toInt8.toInt32))).set 3 (.int (((((q).toUInt64 >>> ((40 : Int32) &&& 0x3f).toInt64.toUInt64).toInt64).toInt32).toInt8.toInt32))).set 4 (.int (((((q).toUInt64 >>> ((32 : Int32) &&& 0x3f).toInt64.toUInt64).toInt64).toInt32).toInt8.toInt32))).set 5 (.int (((((q).toUInt64 >>> ((24 : Int32) &&& 0x3f).toInt64.toUInt64).toInt64).toInt32).toInt8.toInt32))).set 6 (.int (((((q).toUInt64 >>> ((16 : Int32) &&& 0x3f).toInt64.toUInt64).toInt64).toInt32).toInt8.toInt32))).set 7 (.int (((((q).toUInt64 >>> ((8 : Int32) &&& 0x3f).toInt64.toUInt64).toInt64).toInt32).toInt8.toInt32))).set 8 (.int ((q.toInt32).toInt8.toInt32))) dv := V47
  exact gret0 w45 d1_85 (by decide) (by decide) ⟨rfl, V48⟩
set_option maxRecDepth 65536 in
set_option maxHeartbeats 4000000 in
theorem own_put9 (hw : ∀ d ∈ tables_1, d.before a0 Z = true) (a : Addr) (q : Int64) (ka : ClassId) (z : Int32) (vs : List Value) (dv : Value) (ga : n0 ≤ a) (V : Arv Z h a ka .byte z vs dv) (hz : (16 : Int32) < z) (hl : 17 ≤ vs.length) :
    Ctr l (⟨"com/example/vellum_keys/vellumkeys/storage/KeyCodecSequenceNumberOfPinLaw", "put", "([BIJ)V"⟩ : MethodName) method_2_code 4 none ({ frames := 0, cells := 0, slots := 0, locals := 0 } : Room) Z #[(.ref a), (.int (9 : Int32)), (.long q)] h n0 (fun v h' => v = none ∧ Arv Z h' a ka .byte z ((((((((vs.set 9 (.int (((((q).toUInt64 >>> ((56 : Int32) &&& 0x3f).toInt64.toUInt64).toInt64).toInt32).toInt8.toInt32))).set 10 (.int (((((q).toUInt64 >>> ((48 : Int32) &&& 0x3f).toInt64.toUInt64).toInt64).toInt32).toInt8.toInt32))).set 11 (.int (((((q).toUInt64 >>> ((40 : Int32) &&& 0x3f).toInt64.toUInt64).toInt64).toInt32).toInt8.toInt32))).set 12 (.int (((((q).toUInt64 >>> ((32 : Int32) &&& 0x3f).toInt64.toUInt64).toInt64).toInt32).toInt8.toInt32))).set 13 (.int (((((q).toUInt64 >>> ((24 : Int32) &&& 0x3f).toInt64.toUInt64).toInt64).toInt32).toInt8.toInt32))).set 14 (.int (((((q).toUInt64 >>> ((16 : Int32) &&& 0x3f).toInt64.toUInt64).toInt64).toInt32).toInt8.toInt32))).set 15 (.int (((((q).toUInt64 >>> ((8 : Int32) &&& 0x3f).toInt64.toUInt64).toInt64).toInt32).toInt8.toInt32))).set 16 (.int ((q.toInt32).toInt8.toInt32))) dv) [] := by
  refine metGo (Ls := #[.val (.ref a), .val (.int (9 : Int32)), .val (.long q), .second]) pn_d1 (fun m => by first | rfl | (simp [entryFrame, mkF, argsToLocals, Value.category]; done) | (simp [entryFrame, mkF, argsToLocals, Value.category, maxLocals]; done)) ?_
  intro p e s m below meth c T w
  refine galoadN (pc' := 1) (Ls := #[.val (.ref a), .val (.int (9 : Int32)), .val (.long q), .second]) (rest := []) w d1_0 rfl rfl rfl ?_
  refine giloadN (pc' := 2) (Ls := #[.val (.ref a), .val (.int (9 : Int32)), .val (.long q), .second]) (rest := [(.ref a)]) w d1_1 rfl rfl ?_
  refine glloadN (pc' := 3) (Ls := #[.val (.ref a), .val (.int (9 : Int32)), .val (.long q), .second]) (rest := [(.int (9 : Int32)), (.ref a)]) w d1_2 rfl rfl ?_
  refine gbipush (v := (56 : Int32)) (pc' := 5) w d1_3 rfl rfl ?_
  refine glushr (pc' := 6) w d1_5 rfl ?_
  refine gl2i (pc' := 7) w d1_6 rfl ?_
  refine gi2b (pc' := 8) w d1_7 rfl ?_
  refine gbastore (pc' := 9) (x' := (((((q).toUInt64 >>> ((56 : Int32) &&& 0x3f).toInt64.toUInt64).toInt64).toInt32).toInt8.toInt32)) w d1_8 (own_bb _) V ⟨by decide, Int32.lt_of_le_of_lt (by decide) hz⟩ (9) rfl (by first | exact Nat.lt_of_lt_of_le (by decide) hl | (simp only [List.length_set]; exact Nat.lt_of_lt_of_le (by decide) hl)) ga rfl (fun T49 h50 w51 W52 V53 => ?_)
  have V54 : Arv Z h50 a ka .byte z (vs.set 9 (.int (((((q).toUInt64 >>> ((56 : Int32) &&& 0x3f).toInt64.toUInt64).toInt64).toInt32).toInt8.toInt32))) dv := V53
  refine galoadN (pc' := 10) (Ls := #[.val (.ref a), .val (.int (9 : Int32)), .val (.long q), .second]) (rest := []) w51 d1_9 rfl rfl rfl ?_
  refine giloadN (pc' := 11) (Ls := #[.val (.ref a), .val (.int (9 : Int32)), .val (.long q), .second]) (rest := [(.ref a)]) w51 d1_10 rfl rfl ?_
  refine giconst (v := (1 : Int32)) (pc' := 12) w51 d1_11 rfl rfl ?_
  refine giadd (pc' := 13) w51 d1_12 rfl ?_
  refine glloadN (pc' := 14) (Ls := #[.val (.ref a), .val (.int (9 : Int32)), .val (.long q), .second]) (rest := [(.int ((9 : Int32) + (1 : Int32))), (.ref a)]) w51 d1_13 rfl rfl ?_
  refine gbipush (v := (48 : Int32)) (pc' := 16) w51 d1_14 rfl rfl ?_
  refine glushr (pc' := 17) w51 d1_16 rfl ?_
  refine gl2i (pc' := 18) w51 d1_17 rfl ?_
  refine gi2b (pc' := 19) w51 d1_18 rfl ?_
  refine gbastore (pc' := 20) (x' := (((((q).toUInt64 >>> ((48 : Int32) &&& 0x3f).toInt64.toUInt64).toInt64).toInt32).toInt8.toInt32)) w51 d1_19 (own_bb _) V54 ⟨by decide, Int32.lt_of_le_of_lt (by decide) hz⟩ (10) rfl (by first | exact Nat.lt_of_lt_of_le (by decide) hl | (simp only [List.length_set]; exact Nat.lt_of_lt_of_le (by decide) hl)) ga rfl (fun T55 h56 w57 W58 V59 => ?_)
  have V60 : Arv Z h56 a ka .byte z ((vs.set 9 (.int (((((q).toUInt64 >>> ((56 : Int32) &&& 0x3f).toInt64.toUInt64).toInt64).toInt32).toInt8.toInt32))).set 10 (.int (((((q).toUInt64 >>> ((48 : Int32) &&& 0x3f).toInt64.toUInt64).toInt64).toInt32).toInt8.toInt32))) dv := V59
  refine galoadN (pc' := 21) (Ls := #[.val (.ref a), .val (.int (9 : Int32)), .val (.long q), .second]) (rest := []) w57 d1_20 rfl rfl rfl ?_
  refine giloadN (pc' := 22) (Ls := #[.val (.ref a), .val (.int (9 : Int32)), .val (.long q), .second]) (rest := [(.ref a)]) w57 d1_21 rfl rfl ?_
  refine giconst (v := (2 : Int32)) (pc' := 23) w57 d1_22 rfl rfl ?_
  refine giadd (pc' := 24) w57 d1_23 rfl ?_
  refine glloadN (pc' := 25) (Ls := #[.val (.ref a), .val (.int (9 : Int32)), .val (.long q), .second]) (rest := [(.int ((9 : Int32) + (2 : Int32))), (.ref a)]) w57 d1_24 rfl rfl ?_
  refine gbipush (v := (40 : Int32)) (pc' := 27) w57 d1_25 rfl rfl ?_
  refine glushr (pc' := 28) w57 d1_27 rfl ?_
  refine gl2i (pc' := 29) w57 d1_28 rfl ?_
  refine gi2b (pc' := 30) w57 d1_29 rfl ?_
  refine gbastore (pc' := 31) (x' := (((((q).toUInt64 >>> ((40 : Int32) &&& 0x3f).toInt64.toUInt64).toInt64).toInt32).toInt8.toInt32)) w57 d1_30 (own_bb _) V60 ⟨by decide, Int32.lt_of_le_of_lt (by decide) hz⟩ (11) rfl (by first | exact Nat.lt_of_lt_of_le (by decide) hl | (simp only [List.length_set]; exact Nat.lt_of_lt_of_le (by decide) hl)) ga rfl (fun T61 h62 w63 W64 V65 => ?_)
  have V66 : Arv Z h62 a ka .byte z (((vs.set 9 (.int (((((q).toUInt64 >>> ((56 : Int32) &&& 0x3f).toInt64.toUInt64).toInt64).toInt32).toInt8.toInt32))).set 10 (.int (((((q).toUInt64 >>> ((48 : Int32) &&& 0x3f).toInt64.toUInt64).toInt64).toInt32).toInt8.toInt32))).set 11 (.int (((((q).toUInt64 >>> ((40 : Int32) &&& 0x3f).toInt64.toUInt64).toInt64).toInt32).toInt8.toInt32))) dv := V65
  refine galoadN (pc' := 32) (Ls := #[.val (.ref a), .val (.int (9 : Int32)), .val (.long q), .second]) (rest := []) w63 d1_31 rfl rfl rfl ?_
  refine giloadN (pc' := 33) (Ls := #[.val (.ref a), .val (.int (9 : Int32)), .val (.long q), .second]) (rest := [(.ref a)]) w63 d1_32 rfl rfl ?_
  refine giconst (v := (3 : Int32)) (pc' := 34) w63 d1_33 rfl rfl ?_
  refine giadd (pc' := 35) w63 d1_34 rfl ?_
  refine glloadN (pc' := 36) (Ls := #[.val (.ref a), .val (.int (9 : Int32)), .val (.long q), .second]) (rest := [(.int ((9 : Int32) + (3 : Int32))), (.ref a)]) w63 d1_35 rfl rfl ?_
  refine gbipush (v := (32 : Int32)) (pc' := 38) w63 d1_36 rfl rfl ?_
  refine glushr (pc' := 39) w63 d1_38 rfl ?_
  refine gl2i (pc' := 40) w63 d1_39 rfl ?_
  refine gi2b (pc' := 41) w63 d1_40 rfl ?_
  refine gbastore (pc' := 42) (x' := (((((q).toUInt64 >>> ((32 : Int32) &&& 0x3f).toInt64.toUInt64).toInt64).toInt32).toInt8.toInt32)) w63 d1_41 (own_bb _) V66 ⟨by decide, Int32.lt_of_le_of_lt (by decide) hz⟩ (12) rfl (by first | exact Nat.lt_of_lt_of_le (by decide) hl | (simp only [List.length_set]; exact Nat.lt_of_lt_of_le (by decide) hl)) ga rfl (fun T67 h68 w69 W70 V71 => ?_)
  have V72 : Arv Z h68 a ka .byte z ((((vs.set 9 (.int (((((q).toUInt64 >>> ((56 : Int32) &&& 0x3f).toInt64.toUInt64).toInt64).toInt32).toInt8.toInt32))).set 10 (.int (((((q).toUInt64 >>> ((48 : Int32) &&& 0x3f).toInt64.toUInt64).toInt64).toInt32).toInt8.toInt32))).set 11 (.int (((((q).toUInt64 >>> ((40 : Int32) &&& 0x3f).toInt64.toUInt64).toInt64).toInt32).toInt8.toInt32))).set 12 (.int (((((q).toUInt64 >>> ((32 : Int32) &&& 0x3f).toInt64.toUInt64).toInt64).toInt32).toInt8.toInt32))) dv := V71
  refine galoadN (pc' := 43) (Ls := #[.val (.ref a), .val (.int (9 : Int32)), .val (.long q), .second]) (rest := []) w69 d1_42 rfl rfl rfl ?_
  refine giloadN (pc' := 44) (Ls := #[.val (.ref a), .val (.int (9 : Int32)), .val (.long q), .second]) (rest := [(.ref a)]) w69 d1_43 rfl rfl ?_
  refine giconst (v := (4 : Int32)) (pc' := 45) w69 d1_44 rfl rfl ?_
  refine giadd (pc' := 46) w69 d1_45 rfl ?_
  refine glloadN (pc' := 47) (Ls := #[.val (.ref a), .val (.int (9 : Int32)), .val (.long q), .second]) (rest := [(.int ((9 : Int32) + (4 : Int32))), (.ref a)]) w69 d1_46 rfl rfl ?_
  refine gbipush (v := (24 : Int32)) (pc' := 49) w69 d1_47 rfl rfl ?_
  refine glushr (pc' := 50) w69 d1_49 rfl ?_
  refine gl2i (pc' := 51) w69 d1_50 rfl ?_
  refine gi2b (pc' := 52) w69 d1_51 rfl ?_
  refine gbastore (pc' := 53) (x' := (((((q).toUInt64 >>> ((24 : Int32) &&& 0x3f).toInt64.toUInt64).toInt64).toInt32).toInt8.toInt32)) w69 d1_52 (own_bb _) V72 ⟨by decide, Int32.lt_of_le_of_lt (by decide) hz⟩ (13) rfl (by first | exact Nat.lt_of_lt_of_le (by decide) hl | (simp only [List.length_set]; exact Nat.lt_of_lt_of_le (by decide) hl)) ga rfl (fun T73 h74 w75 W76 V77 => ?_)
  have V78 : Arv Z h74 a ka .byte z (((((vs.set 9 (.int (((((q).toUInt64 >>> ((56 : Int32) &&& 0x3f).toInt64.toUInt64).toInt64).toInt32).toInt8.toInt32))).set 10 (.int (((((q).toUInt64 >>> ((48 : Int32) &&& 0x3f).toInt64.toUInt64).toInt64).toInt32).toInt8.toInt32))).set 11 (.int (((((q).toUInt64 >>> ((40 : Int32) &&& 0x3f).toInt64.toUInt64).toInt64).toInt32).toInt8.toInt32))).set 12 (.int (((((q).toUInt64 >>> ((32 : Int32) &&& 0x3f).toInt64.toUInt64).toInt64).toInt32).toInt8.toInt32))).set 13 (.int (((((q).toUInt64 >>> ((24 : Int32) &&& 0x3f).toInt64.toUInt64).toInt64).toInt32).toInt8.toInt32))) dv := V77
  refine galoadN (pc' := 54) (Ls := #[.val (.ref a), .val (.int (9 : Int32)), .val (.long q), .second]) (rest := []) w75 d1_53 rfl rfl rfl ?_
  refine giloadN (pc' := 55) (Ls := #[.val (.ref a), .val (.int (9 : Int32)), .val (.long q), .second]) (rest := [(.ref a)]) w75 d1_54 rfl rfl ?_
  refine giconst (v := (5 : Int32)) (pc' := 56) w75 d1_55 rfl rfl ?_
  refine giadd (pc' := 57) w75 d1_56 rfl ?_
  refine glloadN (pc' := 58) (Ls := #[.val (.ref a), .val (.int (9 : Int32)), .val (.long q), .second]) (rest := [(.int ((9 : Int32) + (5 : Int32))), (.ref a)]) w75 d1_57 rfl rfl ?_
  refine gbipush (v := (16 : Int32)) (pc' := 60) w75 d1_58 rfl rfl ?_
  refine glushr (pc' := 61) w75 d1_60 rfl ?_
  refine gl2i (pc' := 62) w75 d1_61 rfl ?_
  refine gi2b (pc' := 63) w75 d1_62 rfl ?_
  refine gbastore (pc' := 64) (x' := (((((q).toUInt64 >>> ((16 : Int32) &&& 0x3f).toInt64.toUInt64).toInt64).toInt32).toInt8.toInt32)) w75 d1_63 (own_bb _) V78 ⟨by decide, Int32.lt_of_le_of_lt (by decide) hz⟩ (14) rfl (by first | exact Nat.lt_of_lt_of_le (by decide) hl | (simp only [List.length_set]; exact Nat.lt_of_lt_of_le (by decide) hl)) ga rfl (fun T79 h80 w81 W82 V83 => ?_)
  have V84 : Arv Z h80 a ka .byte z ((((((vs.set 9 (.int (((((q).toUInt64 >>> ((56 : Int32) &&& 0x3f).toInt64.toUInt64).toInt64).toInt32).toInt8.toInt32))).set 10 (.int (((((q).toUInt64 >>> ((48 : Int32) &&& 0x3f).toInt64.toUInt64).toInt64).toInt32).toInt8.toInt32))).set 11 (.int (((((q).toUInt64 >>> ((40 : Int32) &&& 0x3f).toInt64.toUInt64).toInt64).toInt32).toInt8.toInt32))).set 12 (.int (((((q).toUInt64 >>> ((32 : Int32) &&& 0x3f).toInt64.toUInt64).toInt64).toInt32).toInt8.toInt32))).set 13 (.int (((((q).toUInt64 >>> ((24 : Int32) &&& 0x3f).toInt64.toUInt64).toInt64).toInt32).toInt8.toInt32))).set 14 (.int (((((q).toUInt64 >>> ((16 : Int32) &&& 0x3f).toInt64.toUInt64).toInt64).toInt32).toInt8.toInt32))) dv := V83
  refine galoadN (pc' := 65) (Ls := #[.val (.ref a), .val (.int (9 : Int32)), .val (.long q), .second]) (rest := []) w81 d1_64 rfl rfl rfl ?_
  refine giloadN (pc' := 66) (Ls := #[.val (.ref a), .val (.int (9 : Int32)), .val (.long q), .second]) (rest := [(.ref a)]) w81 d1_65 rfl rfl ?_
  refine gbipush (v := (6 : Int32)) (pc' := 68) w81 d1_66 rfl rfl ?_
  refine giadd (pc' := 69) w81 d1_68 rfl ?_
  refine glloadN (pc' := 70) (Ls := #[.val (.ref a), .val (.int (9 : Int32)), .val (.long q), .second]) (rest := [(.int ((9 : Int32) + (6 : Int32))), (.ref a)]) w81 d1_69 rfl rfl ?_
  refine gbipush (v := (8 : Int32)) (pc' := 72) w81 d1_70 rfl rfl ?_
  refine glushr (pc' := 73) w81 d1_72 rfl ?_
  refine gl2i (pc' := 74) w81 d1_73 rfl ?_
  refine gi2b (pc' := 75) w81 d1_74 rfl ?_
  refine gbastore (pc' := 76) (x' := (((((q).toUInt64 >>> ((8 : Int32) &&& 0x3f).toInt64.toUInt64).toInt64).toInt32).toInt8.toInt32)) w81 d1_75 (own_bb _) V84 ⟨by decide, Int32.lt_of_le_of_lt (by decide) hz⟩ (15) rfl (by first | exact Nat.lt_of_lt_of_le (by decide) hl | (simp only [List.length_set]; exact Nat.lt_of_lt_of_le (by decide) hl)) ga rfl (fun T85 h86 w87 W88 V89 => ?_)
  have V90 : Arv Z h86 a ka .byte z (((((((vs.set 9 (.int (((((q).toUInt64 >>> ((56 : Int32) &&& 0x3f).toInt64.toUInt64).toInt64).toInt32).toInt8.toInt32))).set 10 (.int (((((q).toUInt64 >>> ((48 : Int32) &&& 0x3f).toInt64.toUInt64).toInt64).toInt32).toInt8.toInt32))).set 11 (.int (((((q).toUInt64 >>> ((40 : Int32) &&& 0x3f).toInt64.toUInt64).toInt64).toInt32).toInt8.toInt32))).set 12 (.int (((((q).toUInt64 >>> ((32 : Int32) &&& 0x3f).toInt64.toUInt64).toInt64).toInt32).toInt8.toInt32))).set 13 (.int (((((q).toUInt64 >>> ((24 : Int32) &&& 0x3f).toInt64.toUInt64).toInt64).toInt32).toInt8.toInt32))).set 14 (.int (((((q).toUInt64 >>> ((16 : Int32) &&& 0x3f).toInt64.toUInt64).toInt64).toInt32).toInt8.toInt32))).set 15 (.int (((((q).toUInt64 >>> ((8 : Int32) &&& 0x3f).toInt64.toUInt64).toInt64).toInt32).toInt8.toInt32))) dv := V89
  refine galoadN (pc' := 77) (Ls := #[.val (.ref a), .val (.int (9 : Int32)), .val (.long q), .second]) (rest := []) w87 d1_76 rfl rfl rfl ?_
  refine giloadN (pc' := 78) (Ls := #[.val (.ref a), .val (.int (9 : Int32)), .val (.long q), .second]) (rest := [(.ref a)]) w87 d1_77 rfl rfl ?_
  refine gbipush (v := (7 : Int32)) (pc' := 80) w87 d1_78 rfl rfl ?_
  refine giadd (pc' := 81) w87 d1_80 rfl ?_
  refine glloadN (pc' := 82) (Ls := #[.val (.ref a), .val (.int (9 : Int32)), .val (.long q), .second]) (rest := [(.int ((9 : Int32) + (7 : Int32))), (.ref a)]) w87 d1_81 rfl rfl ?_
  refine gl2i (pc' := 83) w87 d1_82 rfl ?_
  refine gi2b (pc' := 84) w87 d1_83 rfl ?_
  refine gbastore (pc' := 85) (x' := ((q.toInt32).toInt8.toInt32)) w87 d1_84 (own_bb _) V90 ⟨by decide, Int32.lt_of_le_of_lt (by decide) hz⟩ (16) rfl (by first | exact Nat.lt_of_lt_of_le (by decide) hl | (simp only [List.length_set]; exact Nat.lt_of_lt_of_le (by decide) hl)) ga rfl (fun T91 h92 w93 W94 V95 => ?_)
  have V96 : Arv Z h92 a ka .byte z ((((((((vs.set 9 (.int (((((q).toUInt64 >>> ((56 : Int32) &&& 0x3f).toInt64.toUInt64).toInt64).toInt32).toInt8.toInt32))).set 10 (.int (((((q).toUInt64 >>> ((48 : Int32) &&& 0x3f).toInt64.toUInt64).toInt64).toInt32).toInt8.toInt32))).set 11 (.int (((((q).toUInt64 >>> ((40 : Int32) &&& 0x3f).toInt64.toUInt64).toInt64).toInt32).toInt8.toInt32))).set 12 (.int (((((q).toUInt64 >>> ((32 : Int32) &&& 0x3f).toInt64.toUInt64).toInt64).toInt32).toInt8.toInt32))).set 13 (.int (((((q).toUInt64 >>> ((24 : Int32) &&& 0x3f).toInt64.toUInt64).toInt64).toInt32).toInt8.toInt32))).set 14 (.int (((((q).toUInt64 >>> ((16 : Int32) &&& 0x3f).toInt64.toUInt64).toInt64).toInt32).toInt8.toInt32))).set 15 (.int (((((q).toUInt64 >>> ((8 : Int32) &&& 0x3f).toInt64.toUInt64).toInt64).toInt32).toInt8.toInt32))).set 16 (.int ((q.toInt32).toInt8.toInt32))) dv := V95
  exact gret0 w93 d1_85 (by decide) (by decide) ⟨rfl, V96⟩
set_option maxRecDepth 65536 in
set_option maxHeartbeats 4000000 in
theorem own_law (hw : ∀ d ∈ tables_1, d.before a0 Z = true) (sid id : Int64) (hd ta : Int32) (z0 : n0 ≤ h.size) :
    Ctr l x code maxLocals ret room_1 Z #[(.long sid), (.long id), (.int hd), (.int ta)] h n0 (fun v _ => v = some (.int 1)) tables_1 := by
  refine metGo (Ls := #[.val (.long sid), .second, .val (.long id), .second, .val (.int hd), .val (.int ta), .unset, .unset]) pn_at (fun m => by first | rfl | (simp [entryFrame, mkF, argsToLocals, Value.category]; done) | (simp [entryFrame, mkF, argsToLocals, Value.category, maxLocals]; done)) ?_
  intro p e s m below meth c T w
  refine giload (pc' := 2) (Ls := #[.val (.long sid), .second, .val (.long id), .second, .val (.int hd), .val (.int ta), .unset, .unset]) (rest := []) w at_0 rfl rfl ?_
  refine giconst (v := (1 : Int32)) (pc' := 3) w at_2 rfl rfl ?_
  refine giand (pc' := 4) w at_3 rfl ?_
  refine gif (pt := 11) (pf := 7) w at_4  (by decide) rfl rfl (fun (c4 : (ta &&& (1 : Int32)) = (0 : Int32)) => ?_) (fun (c4 : ¬ (ta &&& (1 : Int32)) = (0 : Int32)) => ?_)
  · refine giconst (v := (0 : Int32)) (pc' := 12) w at_11 rfl rfl ?_
    refine gistore (pc' := 14) (Ls := #[.val (.long sid), .second, .val (.long id), .second, .val (.int hd), .val (.int ta), .unset, .unset]) (Ls' := #[.val (.long sid), .second, .val (.long id), .second, .val (.int hd), .val (.int ta), .val (.int (0 : Int32)), .unset]) (rest := []) w at_12 rfl rfl ?_
    refine giload (pc' := 16) (Ls := #[.val (.long sid), .second, .val (.long id), .second, .val (.int hd), .val (.int ta), .val (.int (0 : Int32)), .unset]) (rest := []) w at_14 rfl rfl ?_
    refine gif (pt := 26) (pf := 19) w at_16  (by decide) rfl rfl (fun (c16 : (0 : Int32) = (0 : Int32)) => ?_) (fun (c16 : ¬ (0 : Int32) = (0 : Int32)) => ?_)
    · refine gbipush (v := (17 : Int32)) (pc' := 28) w at_26 rfl rfl ?_
      refine gnewP (pc' := 30) (cap := 17) (ty := .byte) w at_28 rfl (hw _ (List.mem_of_getElem? (i := 0) rfl)) (by decide) (by decide) (by decide) (by decide) (by decide) rfl (fun T98 h99 a97 k_a97 s100 w101 E102 V103 => ?_)
      have g_a97 : n0 ≤ a97 := Nat.le_trans z0 (Nat.le_of_eq s100)
      have z105 := Nat.le_trans z0 E102.1
      have V104 : Arv Z h99 a97 k_a97 .byte (17 : Int32) [(.int (0 : Int32)), (.int (0 : Int32)), (.int (0 : Int32)), (.int (0 : Int32)), (.int (0 : Int32)), (.int (0 : Int32)), (.int (0 : Int32)), (.int (0 : Int32)), (.int (0 : Int32)), (.int (0 : Int32)), (.int (0 : Int32)), (.int (0 : Int32)), (.int (0 : Int32)), (.int (0 : Int32)), (.int (0 : Int32)), (.int (0 : Int32)), (.int (0 : Int32))] (.int (0 : Int32)) := V103.pad (pad_rep [] _ 17)
      refine gastore (pc' := 32) (Ls := #[.val (.long sid), .second, .val (.long id), .second, .val (.int hd), .val (.int ta), .val (.int (0 : Int32)), .unset]) (Ls' := #[.val (.long sid), .second, .val (.long id), .second, .val (.int hd), .val (.int ta), .val (.int (0 : Int32)), .val (.ref a97)]) (rest := []) w101 at_30 rfl rfl rfl ?_
      refine gaload (pc' := 34) (Ls := #[.val (.long sid), .second, .val (.long id), .second, .val (.int hd), .val (.int ta), .val (.int (0 : Int32)), .val (.ref a97)]) (rest := []) w101 at_32 rfl rfl rfl ?_
      refine giconst (v := (0 : Int32)) (pc' := 35) w101 at_34 rfl rfl ?_
      refine giload (pc' := 37) (Ls := #[.val (.long sid), .second, .val (.long id), .second, .val (.int hd), .val (.int ta), .val (.int (0 : Int32)), .val (.ref a97)]) (rest := [(.int (0 : Int32)), (.ref a97)]) w101 at_35 rfl rfl ?_
      refine gi2b (pc' := 38) w101 at_37 rfl ?_
      refine gbastore (pc' := 39) (x' := (hd.toInt8.toInt32)) w101 at_38 (own_bb _) V104 (by decide) (0) rfl (by simp) g_a97 rfl (fun T106 h107 w108 W109 V110 => ?_)
      have z112 : n0 ≤ h107.size := by rw [W109.size]; exact z105
      have V111 : Arv Z h107 a97 k_a97 .byte (17 : Int32) [(.int (hd.toInt8.toInt32)), (.int (0 : Int32)), (.int (0 : Int32)), (.int (0 : Int32)), (.int (0 : Int32)), (.int (0 : Int32)), (.int (0 : Int32)), (.int (0 : Int32)), (.int (0 : Int32)), (.int (0 : Int32)), (.int (0 : Int32)), (.int (0 : Int32)), (.int (0 : Int32)), (.int (0 : Int32)), (.int (0 : Int32)), (.int (0 : Int32)), (.int (0 : Int32))] (.int (0 : Int32)) := V110
      refine gaload (pc' := 41) (Ls := #[.val (.long sid), .second, .val (.long id), .second, .val (.int hd), .val (.int ta), .val (.int (0 : Int32)), .val (.ref a97)]) (rest := []) w108 at_39 rfl rfl rfl ?_
      refine giconst (v := (1 : Int32)) (pc' := 42) w108 at_41 rfl rfl ?_
      refine glloadN (pc' := 43) (Ls := #[.val (.long sid), .second, .val (.long id), .second, .val (.int hd), .val (.int ta), .val (.int (0 : Int32)), .val (.ref a97)]) (rest := [(.int (1 : Int32)), (.ref a97)]) w108 at_42 rfl rfl ?_
      refine gcallS (pc' := 46) (argsL := [(.ref a97), (.int (1 : Int32)), (.long sid)]) (rest := []) (Wt := 0) w108 at_43 (hw _ (List.mem_of_getElem? (i := 1) rfl)) (hw _ (List.mem_of_getElem? (i := 2) rfl)) (hw _ (List.mem_of_getElem? (i := 3) rfl)) (hw _ (List.mem_of_getElem? (i := 4) rfl)) (by decide) pd_d1 (own_put1 hw a97 sid k_a97 (17 : Int32) _ _ g_a97 V111 (by decide) (Nat.le_of_ble_eq_true rfl)) rfl rfl rfl rfl (Nat.le_of_eq rfl) (by decide) (by decide) (by decide) (by decide) rfl (fun v113 T114 h115 w116 q117 => ?_)
      obtain ⟨rfl, VP⟩ := q117
      show Go _ _ _ _ _ _ _ _ _ (mkF m 46 #[.val (.long sid), .second, .val (.long id), .second, .val (.int hd), .val (.int ta), .val (.int (0 : Int32)), .val (.ref a97)] [])
      have V118 : Arv Z h115 a97 k_a97 .byte (17 : Int32) [(.int (hd.toInt8.toInt32)), (.int (((sid.toUInt64 >>> ((56 : Int32) &&& 0x3f).toInt64.toUInt64).toInt64).toInt32.toInt8.toInt32)), (.int (((sid.toUInt64 >>> ((48 : Int32) &&& 0x3f).toInt64.toUInt64).toInt64).toInt32.toInt8.toInt32)), (.int (((sid.toUInt64 >>> ((40 : Int32) &&& 0x3f).toInt64.toUInt64).toInt64).toInt32.toInt8.toInt32)), (.int (((sid.toUInt64 >>> ((32 : Int32) &&& 0x3f).toInt64.toUInt64).toInt64).toInt32.toInt8.toInt32)), (.int (((sid.toUInt64 >>> ((24 : Int32) &&& 0x3f).toInt64.toUInt64).toInt64).toInt32.toInt8.toInt32)), (.int (((sid.toUInt64 >>> ((16 : Int32) &&& 0x3f).toInt64.toUInt64).toInt64).toInt32.toInt8.toInt32)), (.int (((sid.toUInt64 >>> ((8 : Int32) &&& 0x3f).toInt64.toUInt64).toInt64).toInt32.toInt8.toInt32)), (.int (sid.toInt32.toInt8.toInt32)), (.int (0 : Int32)), (.int (0 : Int32)), (.int (0 : Int32)), (.int (0 : Int32)), (.int (0 : Int32)), (.int (0 : Int32)), (.int (0 : Int32)), (.int (0 : Int32))] (.int (0 : Int32)) := VP
      refine gaload (pc' := 48) (Ls := #[.val (.long sid), .second, .val (.long id), .second, .val (.int hd), .val (.int ta), .val (.int (0 : Int32)), .val (.ref a97)]) (rest := []) w116 at_46 rfl rfl rfl ?_
      refine gbipush (v := (9 : Int32)) (pc' := 50) w116 at_48 rfl rfl ?_
      refine glloadN (pc' := 51) (Ls := #[.val (.long sid), .second, .val (.long id), .second, .val (.int hd), .val (.int ta), .val (.int (0 : Int32)), .val (.ref a97)]) (rest := [(.int (9 : Int32)), (.ref a97)]) w116 at_50 rfl rfl ?_
      refine gcallS (pc' := 54) (argsL := [(.ref a97), (.int (9 : Int32)), (.long id)]) (rest := []) (Wt := 0) w116 at_51 (hw _ (List.mem_of_getElem? (i := 1) rfl)) (hw _ (List.mem_of_getElem? (i := 2) rfl)) (hw _ (List.mem_of_getElem? (i := 3) rfl)) (hw _ (List.mem_of_getElem? (i := 4) rfl)) (by decide) pd_d1 (own_put9 hw a97 id k_a97 (17 : Int32) _ _ g_a97 V118 (by decide) (Nat.le_of_ble_eq_true rfl)) rfl rfl rfl rfl (Nat.le_of_eq rfl) (by decide) (by decide) (by decide) (by decide) rfl (fun v119 T120 h121 w122 q123 => ?_)
      obtain ⟨rfl, VP⟩ := q123
      show Go _ _ _ _ _ _ _ _ _ (mkF m 54 #[.val (.long sid), .second, .val (.long id), .second, .val (.int hd), .val (.int ta), .val (.int (0 : Int32)), .val (.ref a97)] [])
      have V124 : Arv Z h121 a97 k_a97 .byte (17 : Int32) [(.int (hd.toInt8.toInt32)), (.int (((sid.toUInt64 >>> ((56 : Int32) &&& 0x3f).toInt64.toUInt64).toInt64).toInt32.toInt8.toInt32)), (.int (((sid.toUInt64 >>> ((48 : Int32) &&& 0x3f).toInt64.toUInt64).toInt64).toInt32.toInt8.toInt32)), (.int (((sid.toUInt64 >>> ((40 : Int32) &&& 0x3f).toInt64.toUInt64).toInt64).toInt32.toInt8.toInt32)), (.int (((sid.toUInt64 >>> ((32 : Int32) &&& 0x3f).toInt64.toUInt64).toInt64).toInt32.toInt8.toInt32)), (.int (((sid.toUInt64 >>> ((24 : Int32) &&& 0x3f).toInt64.toUInt64).toInt64).toInt32.toInt8.toInt32)), (.int (((sid.toUInt64 >>> ((16 : Int32) &&& 0x3f).toInt64.toUInt64).toInt64).toInt32.toInt8.toInt32)), (.int (((sid.toUInt64 >>> ((8 : Int32) &&& 0x3f).toInt64.toUInt64).toInt64).toInt32.toInt8.toInt32)), (.int (sid.toInt32.toInt8.toInt32)), (.int (((id.toUInt64 >>> ((56 : Int32) &&& 0x3f).toInt64.toUInt64).toInt64).toInt32.toInt8.toInt32)), (.int (((id.toUInt64 >>> ((48 : Int32) &&& 0x3f).toInt64.toUInt64).toInt64).toInt32.toInt8.toInt32)), (.int (((id.toUInt64 >>> ((40 : Int32) &&& 0x3f).toInt64.toUInt64).toInt64).toInt32.toInt8.toInt32)), (.int (((id.toUInt64 >>> ((32 : Int32) &&& 0x3f).toInt64.toUInt64).toInt64).toInt32.toInt8.toInt32)), (.int (((id.toUInt64 >>> ((24 : Int32) &&& 0x3f).toInt64.toUInt64).toInt64).toInt32.toInt8.toInt32)), (.int (((id.toUInt64 >>> ((16 : Int32) &&& 0x3f).toInt64.toUInt64).toInt64).toInt32.toInt8.toInt32)), (.int (((id.toUInt64 >>> ((8 : Int32) &&& 0x3f).toInt64.toUInt64).toInt64).toInt32.toInt8.toInt32)), (.int (id.toInt32.toInt8.toInt32))] (.int (0 : Int32)) := VP
      refine giload (pc' := 56) (Ls := #[.val (.long sid), .second, .val (.long id), .second, .val (.int hd), .val (.int ta), .val (.int (0 : Int32)), .val (.ref a97)]) (rest := []) w122 at_54 rfl rfl ?_
      refine gif (pt := 92) (pf := 59) w122 at_56  (by decide) rfl rfl (fun (c56 : (0 : Int32) = (0 : Int32)) => ?_) (fun (c56 : ¬ (0 : Int32) = (0 : Int32)) => ?_)
      · refine gaload (pc' := 94) (Ls := #[.val (.long sid), .second, .val (.long id), .second, .val (.int hd), .val (.int ta), .val (.int (0 : Int32)), .val (.ref a97)]) (rest := []) w122 at_92 rfl rfl rfl ?_
        refine gcallS (pc' := 97) (argsL := [(.ref a97)]) (rest := []) (Wt := 0) w122 at_94 (hw _ (List.mem_of_getElem? (i := 5) rfl)) (hw _ (List.mem_of_getElem? (i := 6) rfl)) (hw _ (List.mem_of_getElem? (i := 7) rfl)) (hw _ (List.mem_of_getElem? (i := 8) rfl)) (by decide) pd_d2 (own_c1 hw a97 k_a97 (17 : Int32) _ _ (((id.toUInt64 >>> ((56 : Int32) &&& 0x3f).toInt64.toUInt64).toInt64).toInt32.toInt8.toInt32) (((id.toUInt64 >>> ((48 : Int32) &&& 0x3f).toInt64.toUInt64).toInt64).toInt32.toInt8.toInt32) (((id.toUInt64 >>> ((40 : Int32) &&& 0x3f).toInt64.toUInt64).toInt64).toInt32.toInt8.toInt32) (((id.toUInt64 >>> ((32 : Int32) &&& 0x3f).toInt64.toUInt64).toInt64).toInt32.toInt8.toInt32) (((id.toUInt64 >>> ((24 : Int32) &&& 0x3f).toInt64.toUInt64).toInt64).toInt32.toInt8.toInt32) (((id.toUInt64 >>> ((16 : Int32) &&& 0x3f).toInt64.toUInt64).toInt64).toInt32.toInt8.toInt32) (((id.toUInt64 >>> ((8 : Int32) &&& 0x3f).toInt64.toUInt64).toInt64).toInt32.toInt8.toInt32) (id.toInt32.toInt8.toInt32) V124 (by decide) rfl rfl rfl rfl rfl rfl rfl rfl) rfl rfl rfl rfl (Nat.le_of_eq rfl) (by decide) (by decide) (by decide) (by decide) rfl (fun v125 T126 h127 w128 q129 => ?_)
        obtain ⟨rfl, eh⟩ := q129
        show Go _ _ _ _ _ _ _ _ _ (mkF m 97 #[.val (.long sid), .second, .val (.long id), .second, .val (.int hd), .val (.int ta), .val (.int (0 : Int32)), .val (.ref a97)] [(.long (own_acc (((id.toUInt64 >>> ((56 : Int32) &&& 0x3f).toInt64.toUInt64).toInt64).toInt32.toInt8.toInt32) (((id.toUInt64 >>> ((48 : Int32) &&& 0x3f).toInt64.toUInt64).toInt64).toInt32.toInt8.toInt32) (((id.toUInt64 >>> ((40 : Int32) &&& 0x3f).toInt64.toUInt64).toInt64).toInt32.toInt8.toInt32) (((id.toUInt64 >>> ((32 : Int32) &&& 0x3f).toInt64.toUInt64).toInt64).toInt32.toInt8.toInt32) (((id.toUInt64 >>> ((24 : Int32) &&& 0x3f).toInt64.toUInt64).toInt64).toInt32.toInt8.toInt32) (((id.toUInt64 >>> ((16 : Int32) &&& 0x3f).toInt64.toUInt64).toInt64).toInt32.toInt8.toInt32) (((id.toUInt64 >>> ((8 : Int32) &&& 0x3f).toInt64.toUInt64).toInt64).toInt32.toInt8.toInt32) (id.toInt32.toInt8.toInt32)))])
        rw [eh] at w128
        refine glloadN (pc' := 98) (Ls := #[.val (.long sid), .second, .val (.long id), .second, .val (.int hd), .val (.int ta), .val (.int (0 : Int32)), .val (.ref a97)]) (rest := [(.long (own_acc (((id.toUInt64 >>> ((56 : Int32) &&& 0x3f).toInt64.toUInt64).toInt64).toInt32.toInt8.toInt32) (((id.toUInt64 >>> ((48 : Int32) &&& 0x3f).toInt64.toUInt64).toInt64).toInt32.toInt8.toInt32) (((id.toUInt64 >>> ((40 : Int32) &&& 0x3f).toInt64.toUInt64).toInt64).toInt32.toInt8.toInt32) (((id.toUInt64 >>> ((32 : Int32) &&& 0x3f).toInt64.toUInt64).toInt64).toInt32.toInt8.toInt32) (((id.toUInt64 >>> ((24 : Int32) &&& 0x3f).toInt64.toUInt64).toInt64).toInt32.toInt8.toInt32) (((id.toUInt64 >>> ((16 : Int32) &&& 0x3f).toInt64.toUInt64).toInt64).toInt32.toInt8.toInt32) (((id.toUInt64 >>> ((8 : Int32) &&& 0x3f).toInt64.toUInt64).toInt64).toInt32.toInt8.toInt32) (id.toInt32.toInt8.toInt32)))]) w128 at_97 rfl rfl ?_
        refine glcmpif (pm := 99) (pt := 106) (pf := 102) w128 at_98 rfl at_99 (by decide) rfl rfl (fun (c98 : ¬ (own_acc (((id.toUInt64 >>> ((56 : Int32) &&& 0x3f).toInt64.toUInt64).toInt64).toInt32.toInt8.toInt32) (((id.toUInt64 >>> ((48 : Int32) &&& 0x3f).toInt64.toUInt64).toInt64).toInt32.toInt8.toInt32) (((id.toUInt64 >>> ((40 : Int32) &&& 0x3f).toInt64.toUInt64).toInt64).toInt32.toInt8.toInt32) (((id.toUInt64 >>> ((32 : Int32) &&& 0x3f).toInt64.toUInt64).toInt64).toInt32.toInt8.toInt32) (((id.toUInt64 >>> ((24 : Int32) &&& 0x3f).toInt64.toUInt64).toInt64).toInt32.toInt8.toInt32) (((id.toUInt64 >>> ((16 : Int32) &&& 0x3f).toInt64.toUInt64).toInt64).toInt32.toInt8.toInt32) (((id.toUInt64 >>> ((8 : Int32) &&& 0x3f).toInt64.toUInt64).toInt64).toInt32.toInt8.toInt32) (id.toInt32.toInt8.toInt32)) = id) => ?_) (fun (c98 : (own_acc (((id.toUInt64 >>> ((56 : Int32) &&& 0x3f).toInt64.toUInt64).toInt64).toInt32.toInt8.toInt32) (((id.toUInt64 >>> ((48 : Int32) &&& 0x3f).toInt64.toUInt64).toInt64).toInt32.toInt8.toInt32) (((id.toUInt64 >>> ((40 : Int32) &&& 0x3f).toInt64.toUInt64).toInt64).toInt32.toInt8.toInt32) (((id.toUInt64 >>> ((32 : Int32) &&& 0x3f).toInt64.toUInt64).toInt64).toInt32.toInt8.toInt32) (((id.toUInt64 >>> ((24 : Int32) &&& 0x3f).toInt64.toUInt64).toInt64).toInt32.toInt8.toInt32) (((id.toUInt64 >>> ((16 : Int32) &&& 0x3f).toInt64.toUInt64).toInt64).toInt32.toInt8.toInt32) (((id.toUInt64 >>> ((8 : Int32) &&& 0x3f).toInt64.toUInt64).toInt64).toInt32.toInt8.toInt32) (id.toInt32.toInt8.toInt32)) = id) => ?_)
        · refine giconst (v := (0 : Int32)) (pc' := 107) w128 at_106 rfl rfl ?_
          exact absurd (own_id id) c98
        · refine giconst (v := (1 : Int32)) (pc' := 103) w128 at_102 rfl rfl ?_
          refine ggoto (pc' := 107) w128 at_103 (by decide) rfl ?_
          exact gretZ w128 at_107 rfl (by decide) (by decide) rfl
      · exact absurd c56 (by decide)
    · exact absurd c16 (by decide)
  · refine giconst (v := (1 : Int32)) (pc' := 8) w at_7 rfl rfl ?_
    refine ggoto (pc' := 12) w at_8 (by decide) rfl ?_
    refine gistore (pc' := 14) (Ls := #[.val (.long sid), .second, .val (.long id), .second, .val (.int hd), .val (.int ta), .unset, .unset]) (Ls' := #[.val (.long sid), .second, .val (.long id), .second, .val (.int hd), .val (.int ta), .val (.int (1 : Int32)), .unset]) (rest := []) w at_12 rfl rfl ?_
    refine giload (pc' := 16) (Ls := #[.val (.long sid), .second, .val (.long id), .second, .val (.int hd), .val (.int ta), .val (.int (1 : Int32)), .unset]) (rest := []) w at_14 rfl rfl ?_
    refine gif (pt := 26) (pf := 19) w at_16  (by decide) rfl rfl (fun (c16 : (1 : Int32) = (0 : Int32)) => ?_) (fun (c16 : ¬ (1 : Int32) = (0 : Int32)) => ?_)
    · exact absurd c16 (by decide)
    · refine gbipush (v := (20 : Int32)) (pc' := 21) w at_19 rfl rfl ?_
      refine gnewP (pc' := 23) (cap := 20) (ty := .byte) w at_21 rfl (hw _ (List.mem_of_getElem? (i := 0) rfl)) (by decide) (by decide) (by decide) (by decide) (by decide) rfl (fun T131 h132 a130 k_a130 s133 w134 E135 V136 => ?_)
      have g_a130 : n0 ≤ a130 := Nat.le_trans z0 (Nat.le_of_eq s133)
      have z138 := Nat.le_trans z0 E135.1
      have V137 : Arv Z h132 a130 k_a130 .byte (20 : Int32) [(.int (0 : Int32)), (.int (0 : Int32)), (.int (0 : Int32)), (.int (0 : Int32)), (.int (0 : Int32)), (.int (0 : Int32)), (.int (0 : Int32)), (.int (0 : Int32)), (.int (0 : Int32)), (.int (0 : Int32)), (.int (0 : Int32)), (.int (0 : Int32)), (.int (0 : Int32)), (.int (0 : Int32)), (.int (0 : Int32)), (.int (0 : Int32)), (.int (0 : Int32)), (.int (0 : Int32)), (.int (0 : Int32)), (.int (0 : Int32))] (.int (0 : Int32)) := V136.pad (pad_rep [] _ 20)
      refine ggoto (pc' := 30) w134 at_23 (by decide) rfl ?_
      refine gastore (pc' := 32) (Ls := #[.val (.long sid), .second, .val (.long id), .second, .val (.int hd), .val (.int ta), .val (.int (1 : Int32)), .unset]) (Ls' := #[.val (.long sid), .second, .val (.long id), .second, .val (.int hd), .val (.int ta), .val (.int (1 : Int32)), .val (.ref a130)]) (rest := []) w134 at_30 rfl rfl rfl ?_
      refine gaload (pc' := 34) (Ls := #[.val (.long sid), .second, .val (.long id), .second, .val (.int hd), .val (.int ta), .val (.int (1 : Int32)), .val (.ref a130)]) (rest := []) w134 at_32 rfl rfl rfl ?_
      refine giconst (v := (0 : Int32)) (pc' := 35) w134 at_34 rfl rfl ?_
      refine giload (pc' := 37) (Ls := #[.val (.long sid), .second, .val (.long id), .second, .val (.int hd), .val (.int ta), .val (.int (1 : Int32)), .val (.ref a130)]) (rest := [(.int (0 : Int32)), (.ref a130)]) w134 at_35 rfl rfl ?_
      refine gi2b (pc' := 38) w134 at_37 rfl ?_
      refine gbastore (pc' := 39) (x' := (hd.toInt8.toInt32)) w134 at_38 (own_bb _) V137 (by decide) (0) rfl (by simp) g_a130 rfl (fun T139 h140 w141 W142 V143 => ?_)
      have z145 : n0 ≤ h140.size := by rw [W142.size]; exact z138
      have V144 : Arv Z h140 a130 k_a130 .byte (20 : Int32) [(.int (hd.toInt8.toInt32)), (.int (0 : Int32)), (.int (0 : Int32)), (.int (0 : Int32)), (.int (0 : Int32)), (.int (0 : Int32)), (.int (0 : Int32)), (.int (0 : Int32)), (.int (0 : Int32)), (.int (0 : Int32)), (.int (0 : Int32)), (.int (0 : Int32)), (.int (0 : Int32)), (.int (0 : Int32)), (.int (0 : Int32)), (.int (0 : Int32)), (.int (0 : Int32)), (.int (0 : Int32)), (.int (0 : Int32)), (.int (0 : Int32))] (.int (0 : Int32)) := V143
      refine gaload (pc' := 41) (Ls := #[.val (.long sid), .second, .val (.long id), .second, .val (.int hd), .val (.int ta), .val (.int (1 : Int32)), .val (.ref a130)]) (rest := []) w141 at_39 rfl rfl rfl ?_
      refine giconst (v := (1 : Int32)) (pc' := 42) w141 at_41 rfl rfl ?_
      refine glloadN (pc' := 43) (Ls := #[.val (.long sid), .second, .val (.long id), .second, .val (.int hd), .val (.int ta), .val (.int (1 : Int32)), .val (.ref a130)]) (rest := [(.int (1 : Int32)), (.ref a130)]) w141 at_42 rfl rfl ?_
      refine gcallS (pc' := 46) (argsL := [(.ref a130), (.int (1 : Int32)), (.long sid)]) (rest := []) (Wt := 0) w141 at_43 (hw _ (List.mem_of_getElem? (i := 1) rfl)) (hw _ (List.mem_of_getElem? (i := 2) rfl)) (hw _ (List.mem_of_getElem? (i := 3) rfl)) (hw _ (List.mem_of_getElem? (i := 4) rfl)) (by decide) pd_d1 (own_put1 hw a130 sid k_a130 (20 : Int32) _ _ g_a130 V144 (by decide) (Nat.le_of_ble_eq_true rfl)) rfl rfl rfl rfl (Nat.le_of_eq rfl) (by decide) (by decide) (by decide) (by decide) rfl (fun v146 T147 h148 w149 q150 => ?_)
      obtain ⟨rfl, VP⟩ := q150
      show Go _ _ _ _ _ _ _ _ _ (mkF m 46 #[.val (.long sid), .second, .val (.long id), .second, .val (.int hd), .val (.int ta), .val (.int (1 : Int32)), .val (.ref a130)] [])
      have V151 : Arv Z h148 a130 k_a130 .byte (20 : Int32) [(.int (hd.toInt8.toInt32)), (.int (((sid.toUInt64 >>> ((56 : Int32) &&& 0x3f).toInt64.toUInt64).toInt64).toInt32.toInt8.toInt32)), (.int (((sid.toUInt64 >>> ((48 : Int32) &&& 0x3f).toInt64.toUInt64).toInt64).toInt32.toInt8.toInt32)), (.int (((sid.toUInt64 >>> ((40 : Int32) &&& 0x3f).toInt64.toUInt64).toInt64).toInt32.toInt8.toInt32)), (.int (((sid.toUInt64 >>> ((32 : Int32) &&& 0x3f).toInt64.toUInt64).toInt64).toInt32.toInt8.toInt32)), (.int (((sid.toUInt64 >>> ((24 : Int32) &&& 0x3f).toInt64.toUInt64).toInt64).toInt32.toInt8.toInt32)), (.int (((sid.toUInt64 >>> ((16 : Int32) &&& 0x3f).toInt64.toUInt64).toInt64).toInt32.toInt8.toInt32)), (.int (((sid.toUInt64 >>> ((8 : Int32) &&& 0x3f).toInt64.toUInt64).toInt64).toInt32.toInt8.toInt32)), (.int (sid.toInt32.toInt8.toInt32)), (.int (0 : Int32)), (.int (0 : Int32)), (.int (0 : Int32)), (.int (0 : Int32)), (.int (0 : Int32)), (.int (0 : Int32)), (.int (0 : Int32)), (.int (0 : Int32)), (.int (0 : Int32)), (.int (0 : Int32)), (.int (0 : Int32))] (.int (0 : Int32)) := VP
      refine gaload (pc' := 48) (Ls := #[.val (.long sid), .second, .val (.long id), .second, .val (.int hd), .val (.int ta), .val (.int (1 : Int32)), .val (.ref a130)]) (rest := []) w149 at_46 rfl rfl rfl ?_
      refine gbipush (v := (9 : Int32)) (pc' := 50) w149 at_48 rfl rfl ?_
      refine glloadN (pc' := 51) (Ls := #[.val (.long sid), .second, .val (.long id), .second, .val (.int hd), .val (.int ta), .val (.int (1 : Int32)), .val (.ref a130)]) (rest := [(.int (9 : Int32)), (.ref a130)]) w149 at_50 rfl rfl ?_
      refine gcallS (pc' := 54) (argsL := [(.ref a130), (.int (9 : Int32)), (.long id)]) (rest := []) (Wt := 0) w149 at_51 (hw _ (List.mem_of_getElem? (i := 1) rfl)) (hw _ (List.mem_of_getElem? (i := 2) rfl)) (hw _ (List.mem_of_getElem? (i := 3) rfl)) (hw _ (List.mem_of_getElem? (i := 4) rfl)) (by decide) pd_d1 (own_put9 hw a130 id k_a130 (20 : Int32) _ _ g_a130 V151 (by decide) (Nat.le_of_ble_eq_true rfl)) rfl rfl rfl rfl (Nat.le_of_eq rfl) (by decide) (by decide) (by decide) (by decide) rfl (fun v152 T153 h154 w155 q156 => ?_)
      obtain ⟨rfl, VP⟩ := q156
      show Go _ _ _ _ _ _ _ _ _ (mkF m 54 #[.val (.long sid), .second, .val (.long id), .second, .val (.int hd), .val (.int ta), .val (.int (1 : Int32)), .val (.ref a130)] [])
      have V157 : Arv Z h154 a130 k_a130 .byte (20 : Int32) [(.int (hd.toInt8.toInt32)), (.int (((sid.toUInt64 >>> ((56 : Int32) &&& 0x3f).toInt64.toUInt64).toInt64).toInt32.toInt8.toInt32)), (.int (((sid.toUInt64 >>> ((48 : Int32) &&& 0x3f).toInt64.toUInt64).toInt64).toInt32.toInt8.toInt32)), (.int (((sid.toUInt64 >>> ((40 : Int32) &&& 0x3f).toInt64.toUInt64).toInt64).toInt32.toInt8.toInt32)), (.int (((sid.toUInt64 >>> ((32 : Int32) &&& 0x3f).toInt64.toUInt64).toInt64).toInt32.toInt8.toInt32)), (.int (((sid.toUInt64 >>> ((24 : Int32) &&& 0x3f).toInt64.toUInt64).toInt64).toInt32.toInt8.toInt32)), (.int (((sid.toUInt64 >>> ((16 : Int32) &&& 0x3f).toInt64.toUInt64).toInt64).toInt32.toInt8.toInt32)), (.int (((sid.toUInt64 >>> ((8 : Int32) &&& 0x3f).toInt64.toUInt64).toInt64).toInt32.toInt8.toInt32)), (.int (sid.toInt32.toInt8.toInt32)), (.int (((id.toUInt64 >>> ((56 : Int32) &&& 0x3f).toInt64.toUInt64).toInt64).toInt32.toInt8.toInt32)), (.int (((id.toUInt64 >>> ((48 : Int32) &&& 0x3f).toInt64.toUInt64).toInt64).toInt32.toInt8.toInt32)), (.int (((id.toUInt64 >>> ((40 : Int32) &&& 0x3f).toInt64.toUInt64).toInt64).toInt32.toInt8.toInt32)), (.int (((id.toUInt64 >>> ((32 : Int32) &&& 0x3f).toInt64.toUInt64).toInt64).toInt32.toInt8.toInt32)), (.int (((id.toUInt64 >>> ((24 : Int32) &&& 0x3f).toInt64.toUInt64).toInt64).toInt32.toInt8.toInt32)), (.int (((id.toUInt64 >>> ((16 : Int32) &&& 0x3f).toInt64.toUInt64).toInt64).toInt32.toInt8.toInt32)), (.int (((id.toUInt64 >>> ((8 : Int32) &&& 0x3f).toInt64.toUInt64).toInt64).toInt32.toInt8.toInt32)), (.int (id.toInt32.toInt8.toInt32)), (.int (0 : Int32)), (.int (0 : Int32)), (.int (0 : Int32))] (.int (0 : Int32)) := VP
      refine giload (pc' := 56) (Ls := #[.val (.long sid), .second, .val (.long id), .second, .val (.int hd), .val (.int ta), .val (.int (1 : Int32)), .val (.ref a130)]) (rest := []) w155 at_54 rfl rfl ?_
      refine gif (pt := 92) (pf := 59) w155 at_56  (by decide) rfl rfl (fun (c56 : (1 : Int32) = (0 : Int32)) => ?_) (fun (c56 : ¬ (1 : Int32) = (0 : Int32)) => ?_)
      · exact absurd c56 (by decide)
      · refine gaload (pc' := 61) (Ls := #[.val (.long sid), .second, .val (.long id), .second, .val (.int hd), .val (.int ta), .val (.int (1 : Int32)), .val (.ref a130)]) (rest := []) w155 at_59 rfl rfl rfl ?_
        refine gbipush (v := (17 : Int32)) (pc' := 63) w155 at_61 rfl rfl ?_
        refine giload (pc' := 65) (Ls := #[.val (.long sid), .second, .val (.long id), .second, .val (.int hd), .val (.int ta), .val (.int (1 : Int32)), .val (.ref a130)]) (rest := [(.int (17 : Int32)), (.ref a130)]) w155 at_63 rfl rfl ?_
        refine gbipush (v := (8 : Int32)) (pc' := 67) w155 at_65 rfl rfl ?_
        refine giushr (pc' := 68) w155 at_67 rfl ?_
        refine gi2b (pc' := 69) w155 at_68 rfl ?_
        refine gbastore (pc' := 70) (x' := ((((ta).toUInt32 >>> ((8 : Int32) &&& 31).toUInt32).toInt32).toInt8.toInt32)) w155 at_69 (own_bb _) V157 (by decide) (17) rfl (by simp) g_a130 rfl (fun T158 h159 w160 W161 V162 => ?_)
        have V163 : Arv Z h159 a130 k_a130 .byte (20 : Int32) [(.int (hd.toInt8.toInt32)), (.int (((sid.toUInt64 >>> ((56 : Int32) &&& 0x3f).toInt64.toUInt64).toInt64).toInt32.toInt8.toInt32)), (.int (((sid.toUInt64 >>> ((48 : Int32) &&& 0x3f).toInt64.toUInt64).toInt64).toInt32.toInt8.toInt32)), (.int (((sid.toUInt64 >>> ((40 : Int32) &&& 0x3f).toInt64.toUInt64).toInt64).toInt32.toInt8.toInt32)), (.int (((sid.toUInt64 >>> ((32 : Int32) &&& 0x3f).toInt64.toUInt64).toInt64).toInt32.toInt8.toInt32)), (.int (((sid.toUInt64 >>> ((24 : Int32) &&& 0x3f).toInt64.toUInt64).toInt64).toInt32.toInt8.toInt32)), (.int (((sid.toUInt64 >>> ((16 : Int32) &&& 0x3f).toInt64.toUInt64).toInt64).toInt32.toInt8.toInt32)), (.int (((sid.toUInt64 >>> ((8 : Int32) &&& 0x3f).toInt64.toUInt64).toInt64).toInt32.toInt8.toInt32)), (.int (sid.toInt32.toInt8.toInt32)), (.int (((id.toUInt64 >>> ((56 : Int32) &&& 0x3f).toInt64.toUInt64).toInt64).toInt32.toInt8.toInt32)), (.int (((id.toUInt64 >>> ((48 : Int32) &&& 0x3f).toInt64.toUInt64).toInt64).toInt32.toInt8.toInt32)), (.int (((id.toUInt64 >>> ((40 : Int32) &&& 0x3f).toInt64.toUInt64).toInt64).toInt32.toInt8.toInt32)), (.int (((id.toUInt64 >>> ((32 : Int32) &&& 0x3f).toInt64.toUInt64).toInt64).toInt32.toInt8.toInt32)), (.int (((id.toUInt64 >>> ((24 : Int32) &&& 0x3f).toInt64.toUInt64).toInt64).toInt32.toInt8.toInt32)), (.int (((id.toUInt64 >>> ((16 : Int32) &&& 0x3f).toInt64.toUInt64).toInt64).toInt32.toInt8.toInt32)), (.int (((id.toUInt64 >>> ((8 : Int32) &&& 0x3f).toInt64.toUInt64).toInt64).toInt32.toInt8.toInt32)), (.int (id.toInt32.toInt8.toInt32)), (.int ((((ta).toUInt32 >>> ((8 : Int32) &&& 31).toUInt32).toInt32).toInt8.toInt32)), (.int (0 : Int32)), (.int (0 : Int32))] (.int (0 : Int32)) := V162
        refine gaload (pc' := 72) (Ls := #[.val (.long sid), .second, .val (.long id), .second, .val (.int hd), .val (.int ta), .val (.int (1 : Int32)), .val (.ref a130)]) (rest := []) w160 at_70 rfl rfl rfl ?_
        refine gbipush (v := (18 : Int32)) (pc' := 74) w160 at_72 rfl rfl ?_
        refine giload (pc' := 76) (Ls := #[.val (.long sid), .second, .val (.long id), .second, .val (.int hd), .val (.int ta), .val (.int (1 : Int32)), .val (.ref a130)]) (rest := [(.int (18 : Int32)), (.ref a130)]) w160 at_74 rfl rfl ?_
        refine gbipush (v := (16 : Int32)) (pc' := 78) w160 at_76 rfl rfl ?_
        refine giushr (pc' := 79) w160 at_78 rfl ?_
        refine gi2b (pc' := 80) w160 at_79 rfl ?_
        refine gbastore (pc' := 81) (x' := ((((ta).toUInt32 >>> ((16 : Int32) &&& 31).toUInt32).toInt32).toInt8.toInt32)) w160 at_80 (own_bb _) V163 (by decide) (18) rfl (by simp) g_a130 rfl (fun T164 h165 w166 W167 V168 => ?_)
        have V169 : Arv Z h165 a130 k_a130 .byte (20 : Int32) [(.int (hd.toInt8.toInt32)), (.int (((sid.toUInt64 >>> ((56 : Int32) &&& 0x3f).toInt64.toUInt64).toInt64).toInt32.toInt8.toInt32)), (.int (((sid.toUInt64 >>> ((48 : Int32) &&& 0x3f).toInt64.toUInt64).toInt64).toInt32.toInt8.toInt32)), (.int (((sid.toUInt64 >>> ((40 : Int32) &&& 0x3f).toInt64.toUInt64).toInt64).toInt32.toInt8.toInt32)), (.int (((sid.toUInt64 >>> ((32 : Int32) &&& 0x3f).toInt64.toUInt64).toInt64).toInt32.toInt8.toInt32)), (.int (((sid.toUInt64 >>> ((24 : Int32) &&& 0x3f).toInt64.toUInt64).toInt64).toInt32.toInt8.toInt32)), (.int (((sid.toUInt64 >>> ((16 : Int32) &&& 0x3f).toInt64.toUInt64).toInt64).toInt32.toInt8.toInt32)), (.int (((sid.toUInt64 >>> ((8 : Int32) &&& 0x3f).toInt64.toUInt64).toInt64).toInt32.toInt8.toInt32)), (.int (sid.toInt32.toInt8.toInt32)), (.int (((id.toUInt64 >>> ((56 : Int32) &&& 0x3f).toInt64.toUInt64).toInt64).toInt32.toInt8.toInt32)), (.int (((id.toUInt64 >>> ((48 : Int32) &&& 0x3f).toInt64.toUInt64).toInt64).toInt32.toInt8.toInt32)), (.int (((id.toUInt64 >>> ((40 : Int32) &&& 0x3f).toInt64.toUInt64).toInt64).toInt32.toInt8.toInt32)), (.int (((id.toUInt64 >>> ((32 : Int32) &&& 0x3f).toInt64.toUInt64).toInt64).toInt32.toInt8.toInt32)), (.int (((id.toUInt64 >>> ((24 : Int32) &&& 0x3f).toInt64.toUInt64).toInt64).toInt32.toInt8.toInt32)), (.int (((id.toUInt64 >>> ((16 : Int32) &&& 0x3f).toInt64.toUInt64).toInt64).toInt32.toInt8.toInt32)), (.int (((id.toUInt64 >>> ((8 : Int32) &&& 0x3f).toInt64.toUInt64).toInt64).toInt32.toInt8.toInt32)), (.int (id.toInt32.toInt8.toInt32)), (.int ((((ta).toUInt32 >>> ((8 : Int32) &&& 31).toUInt32).toInt32).toInt8.toInt32)), (.int ((((ta).toUInt32 >>> ((16 : Int32) &&& 31).toUInt32).toInt32).toInt8.toInt32)), (.int (0 : Int32))] (.int (0 : Int32)) := V168
        refine gaload (pc' := 83) (Ls := #[.val (.long sid), .second, .val (.long id), .second, .val (.int hd), .val (.int ta), .val (.int (1 : Int32)), .val (.ref a130)]) (rest := []) w166 at_81 rfl rfl rfl ?_
        refine gbipush (v := (19 : Int32)) (pc' := 85) w166 at_83 rfl rfl ?_
        refine giload (pc' := 87) (Ls := #[.val (.long sid), .second, .val (.long id), .second, .val (.int hd), .val (.int ta), .val (.int (1 : Int32)), .val (.ref a130)]) (rest := [(.int (19 : Int32)), (.ref a130)]) w166 at_85 rfl rfl ?_
        refine gbipush (v := (24 : Int32)) (pc' := 89) w166 at_87 rfl rfl ?_
        refine giushr (pc' := 90) w166 at_89 rfl ?_
        refine gi2b (pc' := 91) w166 at_90 rfl ?_
        refine gbastore (pc' := 92) (x' := ((((ta).toUInt32 >>> ((24 : Int32) &&& 31).toUInt32).toInt32).toInt8.toInt32)) w166 at_91 (own_bb _) V169 (by decide) (19) rfl (by simp) g_a130 rfl (fun T170 h171 w172 W173 V174 => ?_)
        have V175 : Arv Z h171 a130 k_a130 .byte (20 : Int32) [(.int (hd.toInt8.toInt32)), (.int (((sid.toUInt64 >>> ((56 : Int32) &&& 0x3f).toInt64.toUInt64).toInt64).toInt32.toInt8.toInt32)), (.int (((sid.toUInt64 >>> ((48 : Int32) &&& 0x3f).toInt64.toUInt64).toInt64).toInt32.toInt8.toInt32)), (.int (((sid.toUInt64 >>> ((40 : Int32) &&& 0x3f).toInt64.toUInt64).toInt64).toInt32.toInt8.toInt32)), (.int (((sid.toUInt64 >>> ((32 : Int32) &&& 0x3f).toInt64.toUInt64).toInt64).toInt32.toInt8.toInt32)), (.int (((sid.toUInt64 >>> ((24 : Int32) &&& 0x3f).toInt64.toUInt64).toInt64).toInt32.toInt8.toInt32)), (.int (((sid.toUInt64 >>> ((16 : Int32) &&& 0x3f).toInt64.toUInt64).toInt64).toInt32.toInt8.toInt32)), (.int (((sid.toUInt64 >>> ((8 : Int32) &&& 0x3f).toInt64.toUInt64).toInt64).toInt32.toInt8.toInt32)), (.int (sid.toInt32.toInt8.toInt32)), (.int (((id.toUInt64 >>> ((56 : Int32) &&& 0x3f).toInt64.toUInt64).toInt64).toInt32.toInt8.toInt32)), (.int (((id.toUInt64 >>> ((48 : Int32) &&& 0x3f).toInt64.toUInt64).toInt64).toInt32.toInt8.toInt32)), (.int (((id.toUInt64 >>> ((40 : Int32) &&& 0x3f).toInt64.toUInt64).toInt64).toInt32.toInt8.toInt32)), (.int (((id.toUInt64 >>> ((32 : Int32) &&& 0x3f).toInt64.toUInt64).toInt64).toInt32.toInt8.toInt32)), (.int (((id.toUInt64 >>> ((24 : Int32) &&& 0x3f).toInt64.toUInt64).toInt64).toInt32.toInt8.toInt32)), (.int (((id.toUInt64 >>> ((16 : Int32) &&& 0x3f).toInt64.toUInt64).toInt64).toInt32.toInt8.toInt32)), (.int (((id.toUInt64 >>> ((8 : Int32) &&& 0x3f).toInt64.toUInt64).toInt64).toInt32.toInt8.toInt32)), (.int (id.toInt32.toInt8.toInt32)), (.int ((((ta).toUInt32 >>> ((8 : Int32) &&& 31).toUInt32).toInt32).toInt8.toInt32)), (.int ((((ta).toUInt32 >>> ((16 : Int32) &&& 31).toUInt32).toInt32).toInt8.toInt32)), (.int ((((ta).toUInt32 >>> ((24 : Int32) &&& 31).toUInt32).toInt32).toInt8.toInt32))] (.int (0 : Int32)) := V174
        refine gaload (pc' := 94) (Ls := #[.val (.long sid), .second, .val (.long id), .second, .val (.int hd), .val (.int ta), .val (.int (1 : Int32)), .val (.ref a130)]) (rest := []) w172 at_92 rfl rfl rfl ?_
        refine gcallS (pc' := 97) (argsL := [(.ref a130)]) (rest := []) (Wt := 0) w172 at_94 (hw _ (List.mem_of_getElem? (i := 5) rfl)) (hw _ (List.mem_of_getElem? (i := 6) rfl)) (hw _ (List.mem_of_getElem? (i := 7) rfl)) (hw _ (List.mem_of_getElem? (i := 8) rfl)) (by decide) pd_d2 (own_c1 hw a130 k_a130 (20 : Int32) _ _ (((id.toUInt64 >>> ((56 : Int32) &&& 0x3f).toInt64.toUInt64).toInt64).toInt32.toInt8.toInt32) (((id.toUInt64 >>> ((48 : Int32) &&& 0x3f).toInt64.toUInt64).toInt64).toInt32.toInt8.toInt32) (((id.toUInt64 >>> ((40 : Int32) &&& 0x3f).toInt64.toUInt64).toInt64).toInt32.toInt8.toInt32) (((id.toUInt64 >>> ((32 : Int32) &&& 0x3f).toInt64.toUInt64).toInt64).toInt32.toInt8.toInt32) (((id.toUInt64 >>> ((24 : Int32) &&& 0x3f).toInt64.toUInt64).toInt64).toInt32.toInt8.toInt32) (((id.toUInt64 >>> ((16 : Int32) &&& 0x3f).toInt64.toUInt64).toInt64).toInt32.toInt8.toInt32) (((id.toUInt64 >>> ((8 : Int32) &&& 0x3f).toInt64.toUInt64).toInt64).toInt32.toInt8.toInt32) (id.toInt32.toInt8.toInt32) V175 (by decide) rfl rfl rfl rfl rfl rfl rfl rfl) rfl rfl rfl rfl (Nat.le_of_eq rfl) (by decide) (by decide) (by decide) (by decide) rfl (fun v176 T177 h178 w179 q180 => ?_)
        obtain ⟨rfl, eh⟩ := q180
        show Go _ _ _ _ _ _ _ _ _ (mkF m 97 #[.val (.long sid), .second, .val (.long id), .second, .val (.int hd), .val (.int ta), .val (.int (1 : Int32)), .val (.ref a130)] [(.long (own_acc (((id.toUInt64 >>> ((56 : Int32) &&& 0x3f).toInt64.toUInt64).toInt64).toInt32.toInt8.toInt32) (((id.toUInt64 >>> ((48 : Int32) &&& 0x3f).toInt64.toUInt64).toInt64).toInt32.toInt8.toInt32) (((id.toUInt64 >>> ((40 : Int32) &&& 0x3f).toInt64.toUInt64).toInt64).toInt32.toInt8.toInt32) (((id.toUInt64 >>> ((32 : Int32) &&& 0x3f).toInt64.toUInt64).toInt64).toInt32.toInt8.toInt32) (((id.toUInt64 >>> ((24 : Int32) &&& 0x3f).toInt64.toUInt64).toInt64).toInt32.toInt8.toInt32) (((id.toUInt64 >>> ((16 : Int32) &&& 0x3f).toInt64.toUInt64).toInt64).toInt32.toInt8.toInt32) (((id.toUInt64 >>> ((8 : Int32) &&& 0x3f).toInt64.toUInt64).toInt64).toInt32.toInt8.toInt32) (id.toInt32.toInt8.toInt32)))])
        rw [eh] at w179
        refine glloadN (pc' := 98) (Ls := #[.val (.long sid), .second, .val (.long id), .second, .val (.int hd), .val (.int ta), .val (.int (1 : Int32)), .val (.ref a130)]) (rest := [(.long (own_acc (((id.toUInt64 >>> ((56 : Int32) &&& 0x3f).toInt64.toUInt64).toInt64).toInt32.toInt8.toInt32) (((id.toUInt64 >>> ((48 : Int32) &&& 0x3f).toInt64.toUInt64).toInt64).toInt32.toInt8.toInt32) (((id.toUInt64 >>> ((40 : Int32) &&& 0x3f).toInt64.toUInt64).toInt64).toInt32.toInt8.toInt32) (((id.toUInt64 >>> ((32 : Int32) &&& 0x3f).toInt64.toUInt64).toInt64).toInt32.toInt8.toInt32) (((id.toUInt64 >>> ((24 : Int32) &&& 0x3f).toInt64.toUInt64).toInt64).toInt32.toInt8.toInt32) (((id.toUInt64 >>> ((16 : Int32) &&& 0x3f).toInt64.toUInt64).toInt64).toInt32.toInt8.toInt32) (((id.toUInt64 >>> ((8 : Int32) &&& 0x3f).toInt64.toUInt64).toInt64).toInt32.toInt8.toInt32) (id.toInt32.toInt8.toInt32)))]) w179 at_97 rfl rfl ?_
        refine glcmpif (pm := 99) (pt := 106) (pf := 102) w179 at_98 rfl at_99 (by decide) rfl rfl (fun (c98 : ¬ (own_acc (((id.toUInt64 >>> ((56 : Int32) &&& 0x3f).toInt64.toUInt64).toInt64).toInt32.toInt8.toInt32) (((id.toUInt64 >>> ((48 : Int32) &&& 0x3f).toInt64.toUInt64).toInt64).toInt32.toInt8.toInt32) (((id.toUInt64 >>> ((40 : Int32) &&& 0x3f).toInt64.toUInt64).toInt64).toInt32.toInt8.toInt32) (((id.toUInt64 >>> ((32 : Int32) &&& 0x3f).toInt64.toUInt64).toInt64).toInt32.toInt8.toInt32) (((id.toUInt64 >>> ((24 : Int32) &&& 0x3f).toInt64.toUInt64).toInt64).toInt32.toInt8.toInt32) (((id.toUInt64 >>> ((16 : Int32) &&& 0x3f).toInt64.toUInt64).toInt64).toInt32.toInt8.toInt32) (((id.toUInt64 >>> ((8 : Int32) &&& 0x3f).toInt64.toUInt64).toInt64).toInt32.toInt8.toInt32) (id.toInt32.toInt8.toInt32)) = id) => ?_) (fun (c98 : (own_acc (((id.toUInt64 >>> ((56 : Int32) &&& 0x3f).toInt64.toUInt64).toInt64).toInt32.toInt8.toInt32) (((id.toUInt64 >>> ((48 : Int32) &&& 0x3f).toInt64.toUInt64).toInt64).toInt32.toInt8.toInt32) (((id.toUInt64 >>> ((40 : Int32) &&& 0x3f).toInt64.toUInt64).toInt64).toInt32.toInt8.toInt32) (((id.toUInt64 >>> ((32 : Int32) &&& 0x3f).toInt64.toUInt64).toInt64).toInt32.toInt8.toInt32) (((id.toUInt64 >>> ((24 : Int32) &&& 0x3f).toInt64.toUInt64).toInt64).toInt32.toInt8.toInt32) (((id.toUInt64 >>> ((16 : Int32) &&& 0x3f).toInt64.toUInt64).toInt64).toInt32.toInt8.toInt32) (((id.toUInt64 >>> ((8 : Int32) &&& 0x3f).toInt64.toUInt64).toInt64).toInt32.toInt8.toInt32) (id.toInt32.toInt8.toInt32)) = id) => ?_)
        · refine giconst (v := (0 : Int32)) (pc' := 107) w179 at_106 rfl rfl ?_
          exact absurd (own_id id) c98
        · refine giconst (v := (1 : Int32)) (pc' := 103) w179 at_102 rfl rfl ?_
          refine ggoto (pc' := 107) w179 at_103 (by decide) rfl ?_
          exact gretZ w179 at_107 rfl (by decide) (by decide) rfl
theorem comes_1 {Post : Tables → Env → Array Value → State → Outcome → State → Prop} (hpost : ∀ tb e args s v u, (limb_1_1.after args s (.returned v) u = true ∧ limb_1_2.after args s (.returned v) u = true ∧ True) → FrameEnd s (.returned v) u (Jvm.fieldLocs frame_1_writes args s ++ Jvm.arrayLocs frame_1_arrays args s ++ Jvm.staticLocs frame_1_statics s) 16 128 → Post tb e args s (.returned v) u) :
    ArmFor flags0 classFile x code maxLocals ret World_1 tables_1 room_1 Calls_1 rest_1 Pre_1 Post := by
  intro l hfl _ _ p e ha hc hk s m args below hf hA hF happ hP
  obtain ⟨hcalls, hrest, hpre⟩ := hP
  obtain ⟨-, -, -, hnamed, -, -, -, hat⟩ := (Spec.applies_iff hf).mp happ
  obtain ⟨hg, hn⟩ := and_e (Cond.before_iff.mp (show (Jvm.Cond.and given_1 narrow_1).before args s = true from hpre))
  obtain ⟨hcount, g0⟩ := and_e hg
  obtain ⟨a0, g1⟩ := and_e g0
  obtain ⟨a1, g2⟩ := and_e g1
  obtain ⟨a2, g3⟩ := and_e g2
  obtain ⟨w0, w1, w2, w3, rfl⟩ : ∃ w0 w1 w2 w3 : Value, args = #[w0, w1, w2, w3] := by
    have hs : args.size = 4 := by simpa [Cond.value, given_1] using hcount
    obtain ⟨L⟩ := args
    match L, hs with
    | [w0, w1, w2, w3], _ => exact ⟨w0, w1, w2, w3, rfl⟩
  have hw := fun d (hd : d ∈ tables_1) => atoms_spec (ws := Jvm.Cond.code x code maxLocals ret :: tables_1) hat d (List.mem_cons_of_mem _ hd)
  have hfit : Fit s := fun {y c} hc i hi => by
    obtain ⟨ha, rfl⟩ := Array.getElem?_eq_some_iff.mp hc
    have q := List.all_eq_true.mp ((Array.all_eq_true_iff_forall_mem.mp hF) _ (Array.getElem_mem ha)) i (List.mem_range.mpr hi)
    simpa [Array.getElem?_eq_getElem hi] using q
  obtain ⟨i0, e0⟩ := isL_v a0
  obtain rfl : w0 = (.long i0) := Option.some.inj e0
  obtain ⟨i1, e1⟩ := isL_v a1
  obtain rfl : w1 = (.long i1) := Option.some.inj e1
  obtain ⟨i2, e2⟩ := is_v a2
  obtain rfl : w2 = (.int i2) := Option.some.inj e2
  obtain ⟨i3, e3⟩ := is_v g3
  obtain rfl : w3 = (.int i3) := Option.some.inj e3
  obtain ⟨n, o, h1, h2, h3, _, L, rfl, ⟨N, rfl⟩, hq⟩ := (own_law (h := s.heap) (n0 := s.heap.size) hw i0 i1 i2 i3 (Nat.le_refl _)) p e ha hc hk s m _ below hf ((Spec.applies_iff_loose hf).mp happ).1 ⟨rfl, State.Warmed39.refl s, rfl⟩ trivial
  refine ⟨n, _, h1, h2, h3, hpost _ _ _ _ _ _ ⟨Cond.after_iff.mpr rfl, Cond.after_iff.mpr (eq_i res_at (Term.int_eval (1)) rfl), trivial⟩ ⟨hq.1, hq.2.1, (hq.2.2.sift fun y hy => Or.inr (N y hy)).mono (by decide) (by decide)⟩⟩
theorem main_1_1 : Claimed_1_1 := comes_1 fun _ _ _ _ _ _ h hF => ⟨h.1, hF⟩
theorem main_1_2 : Claimed_1_2 := comes_1 fun _ _ _ _ _ _ h hF => ⟨h.2.1, hF⟩
end Jvm.Pilot.@@N@@
namespace Jvm.Pilot.@@N@@
open Jvm Jvm.ClassFile Sem Op Lib Jvm.Free Jvm.Stand Jvm.Pilot.@@N@@.Jvm.D
/-! MADE BY PROGRAM (witnessworld.py) out of the Statement's table words and the real class files: 9 classes; the members and pool entries that the words name. The judged class is class 1, her method 2. -/
namespace start1
open Jvm.ClassFile
def u (s : String) : CpInfo := .utf8 (stringToUtf16 s)
/-- a pool by its gaps: so many unusable entries, then the entry; so many at the end -/
def gap : Nat → List CpInfo → List CpInfo
  | 0, r => r
  | n + 1, r => .unusable :: gap n r
def poolList (es : List (Nat × CpInfo)) (last : Nat) : List CpInfo := es.foldr (fun e r => gap e.1 (e.2 :: r)) (gap last [])
def pool (es : List (Nat × CpInfo)) (last : Nat) : Array CpInfo := ⟨poolList es last⟩
def fileOf (pool : Array CpInfo) (this : Nat) (attrs : Array Attribute := #[]) (ms : Array MethodInfo := #[]) (fl : Nat := 33) (sup : Nat := 0) (ifs : Array Nat := #[]) (fds : Array FieldInfo := #[]) : ClassFile where
  minorVersion := 0
  majorVersion := 65
  constantPool := pool
  accessFlags := fl
  thisClass := this
  superClass := sup
  interfaces := ifs
  fields := fds
  methods := ms
  attributes := attrs
def plain (name : String) (sup : Option ClassId) : Class where
  name := name
  kind := .ordinary
  loader := none
  accessFlags := 33
  super := sup
  interfaces := #[]
  cf := none
  fields := #[]
  methods := #[]
  instanceTypes := #[]
  staticTypes := #[]
  resolved := #[]
  callSites := []
  init := .initialized
  statics := none
  mirror := none

def pool0 : Array CpInfo := pool [(5, u "<init>"), (0, u "()V"), (1, .class_ 10), (1, u "java/lang/Object")] 113

def k0m0 : Method := { name := "<init>", desc := "()V", sig := { parameters := [], returnType := none }, accessFlags := 1, code := none }
/-- java/lang/Object -/
def k0 : Class := { plain "java/lang/Object" none with
  accessFlags := 33
  interfaces := #[]
  cf := some (fileOf pool0 8 #[] #[{ accessFlags := 1, nameIndex := 5, descriptorIndex := 6, attributes := #[] }] 33 0 #[] #[])
  fields := #[]
  methods := #[k0m0]
  instanceTypes := #[]
  staticTypes := #[]
  resolved := Array.replicate 124 none
  statics := none }

def pool1 : Array CpInfo := pool [(2, .class_ 4), (1, u "java/lang/Object"), (0, u "<init>"), (0, u "()V"), (0, .methodref 8 9), (0, .class_ 10), (0, .nameAndType 11 12), (0, u "com/example/vellum_keys/vellumkeys/storage/KeyCodecSequenceNumberOfPinLaw"), (0, u "put"), (0, u "([BIJ)V"), (0, .methodref 14 15), (0, .class_ 16), (0, .nameAndType 17 18), (0, u "com/example/vellum_keys/vellumkeys/storage/KeyCodec"), (0, u "sequenceNumberOf"), (0, u "([B)J"), (2, u "law"), (0, u "(JJII)Z")] 5

def k1m0 : Method := { name := "<init>", desc := "()V", sig := { parameters := [], returnType := none }, accessFlags := 2, code := none }
def k1c1 : Code := { maxStack := 5, maxLocals := 4, code := method_2_code, exceptionTable := #[], attributes := #[] }
def k1m1 : Method := { name := "put", desc := "([BIJ)V", sig := { parameters := [(.array .byte), .int, .long], returnType := none }, accessFlags := 10, code := some k1c1 }
def k1c2 : Code := { maxStack := 4, maxLocals := 8, code := code, exceptionTable := #[], attributes := #[] }
def k1m2 : Method := { name := "law", desc := "(JJII)Z", sig := { parameters := [.long, .long, .int, .int], returnType := some .boolean }, accessFlags := 9, code := some k1c2 }
/-- com/example/vellum_keys/vellumkeys/storage/KeyCodecSequenceNumberOfPinLaw -/
def k1 : Class := { plain "com/example/vellum_keys/vellumkeys/storage/KeyCodecSequenceNumberOfPinLaw" (some 0) with
  accessFlags := 49
  interfaces := #[]
  cf := some (fileOf pool1 8 #[] #[{ accessFlags := 2, nameIndex := 5, descriptorIndex := 6, attributes := #[] }, { accessFlags := 10, nameIndex := 11, descriptorIndex := 12, attributes := #[] }, { accessFlags := 9, nameIndex := 21, descriptorIndex := 22, attributes := #[] }] 49 2 #[] #[])
  fields := #[]
  methods := #[k1m0, k1m1, k1m2]
  instanceTypes := #[]
  staticTypes := #[]
  resolved := Array.replicate 28 none
  statics := none }

def pool2 : Array CpInfo := pool [(2, .class_ 4), (1, u "java/lang/Object"), (0, u "<init>"), (0, u "()V"), (5, .class_ 13), (0, u "com/example/vellum_keys/vellumkeys/storage/KeyCodec"), (48, .class_ 64), (1, u "com/example/vellum_keys/vellumkeys/storage/KeyCodec$SortLayout"), (78, u "TERMINATOR"), (0, u "[B"), (5, u "ZERO_BYTE"), (1, .class_ 154), (1, u "com/example/vellum_keys/vellumkeys/storage/KeyCodec$1"), (115, u "ITEM_SPACE"), (0, u "B"), (2, u "UNHASHED_ITEM_SPACE"), (1, u "NEGATIVE"), (0, u "I"), (1, u "ZERO"), (1, u "POSITIVE"), (1, u "EXPONENT_BIAS"), (0, u "NEGATIVE_END"), (1, u "ESCAPED_ZERO"), (0, u "TABLE_PREFIX_LENGTH"), (1, u "HASHES"), (0, u "J"), (0, u "FNV_OFFSET_BASIS"), (0, u "FNV_PRIME"), (0, u "MIX_FIRST"), (0, u "MIX_SECOND"), (3, u "([B)J"), (8, u "sequenceNumberOf")] 49

def k2m0 : Method := { name := "<init>", desc := "()V", sig := { parameters := [], returnType := none }, accessFlags := 2, code := none }
def k2c1 : Code := { maxStack := 4, maxLocals := 4, code := prog_98_method_8_code, exceptionTable := #[], attributes := #[] }
def k2m1 : Method := { name := "sequenceNumberOf", desc := "([B)J", sig := { parameters := [(.array .byte)], returnType := some .long }, accessFlags := 8, code := some k2c1 }
/-- com/example/vellum_keys/vellumkeys/storage/KeyCodec -/
def k2 : Class := { plain "com/example/vellum_keys/vellumkeys/storage/KeyCodec" (some 0) with
  accessFlags := 32
  interfaces := #[]
  cf := some (fileOf pool2 12 #[.nestMembers #[152, 62]] #[{ accessFlags := 2, nameIndex := 5, descriptorIndex := 6, attributes := #[] }, { accessFlags := 8, nameIndex := 307, descriptorIndex := 298, attributes := #[] }] 32 2 #[] #[{ accessFlags := 24, nameIndex := 270, descriptorIndex := 271, attributes := #[] }, { accessFlags := 24, nameIndex := 274, descriptorIndex := 271, attributes := #[] }, { accessFlags := 26, nameIndex := 276, descriptorIndex := 277, attributes := #[] }, { accessFlags := 26, nameIndex := 279, descriptorIndex := 277, attributes := #[] }, { accessFlags := 26, nameIndex := 281, descriptorIndex := 277, attributes := #[] }, { accessFlags := 26, nameIndex := 283, descriptorIndex := 277, attributes := #[] }, { accessFlags := 26, nameIndex := 284, descriptorIndex := 277, attributes := #[] }, { accessFlags := 26, nameIndex := 150, descriptorIndex := 144, attributes := #[] }, { accessFlags := 26, nameIndex := 286, descriptorIndex := 277, attributes := #[] }, { accessFlags := 26, nameIndex := 143, descriptorIndex := 144, attributes := #[] }, { accessFlags := 26, nameIndex := 287, descriptorIndex := 277, attributes := #[] }, { accessFlags := 26, nameIndex := 289, descriptorIndex := 290, attributes := #[] }, { accessFlags := 26, nameIndex := 291, descriptorIndex := 290, attributes := #[] }, { accessFlags := 26, nameIndex := 292, descriptorIndex := 290, attributes := #[] }, { accessFlags := 26, nameIndex := 293, descriptorIndex := 290, attributes := #[] }, { accessFlags := 26, nameIndex := 294, descriptorIndex := 290, attributes := #[] }])
  fields := #[{ name := "ITEM_SPACE", type := .byte, accessFlags := 24, slot := 0, constantValue := 0 }, { name := "UNHASHED_ITEM_SPACE", type := .byte, accessFlags := 24, slot := 1, constantValue := 0 }, { name := "NEGATIVE", type := .int, accessFlags := 26, slot := 2, constantValue := 0 }, { name := "ZERO", type := .int, accessFlags := 26, slot := 3, constantValue := 0 }, { name := "POSITIVE", type := .int, accessFlags := 26, slot := 4, constantValue := 0 }, { name := "EXPONENT_BIAS", type := .int, accessFlags := 26, slot := 5, constantValue := 0 }, { name := "NEGATIVE_END", type := .int, accessFlags := 26, slot := 6, constantValue := 0 }, { name := "ZERO_BYTE", type := (.array .byte), accessFlags := 26, slot := 7, constantValue := 0 }, { name := "ESCAPED_ZERO", type := .int, accessFlags := 26, slot := 8, constantValue := 0 }, { name := "TERMINATOR", type := (.array .byte), accessFlags := 26, slot := 9, constantValue := 0 }, { name := "TABLE_PREFIX_LENGTH", type := .int, accessFlags := 26, slot := 10, constantValue := 0 }, { name := "HASHES", type := .long, accessFlags := 26, slot := 11, constantValue := 0 }, { name := "FNV_OFFSET_BASIS", type := .long, accessFlags := 26, slot := 12, constantValue := 0 }, { name := "FNV_PRIME", type := .long, accessFlags := 26, slot := 13, constantValue := 0 }, { name := "MIX_FIRST", type := .long, accessFlags := 26, slot := 14, constantValue := 0 }, { name := "MIX_SECOND", type := .long, accessFlags := 26, slot := 15, constantValue := 0 }]
  methods := #[k2m0, k2m1]
  instanceTypes := #[]
  staticTypes := #[.byte, .byte, .int, .int, .int, .int, .int, (.array .byte), .int, (.array .byte), .int, .long, .long, .long, .long, .long]
  resolved := Array.replicate 357 none
  statics := none }

def pool3 : Array CpInfo := pool [(1, u "java/lang/Cloneable"), (0, .class_ 1), (0, u "java/lang/Object"), (0, .class_ 3)] 3

/-- java/lang/Cloneable -/
def k3 : Class := { plain "java/lang/Cloneable" (some 0) with
  accessFlags := 1537
  interfaces := #[]
  cf := some (fileOf pool3 2 #[] #[] 1537 4 #[] #[])
  fields := #[]
  methods := #[]
  instanceTypes := #[]
  staticTypes := #[]
  resolved := Array.replicate 8 none
  statics := none }

def pool4 : Array CpInfo := pool [(1, u "java/io/Serializable"), (0, .class_ 1), (0, u "java/lang/Object"), (0, .class_ 3)] 3

/-- java/io/Serializable -/
def k4 : Class := { plain "java/io/Serializable" (some 0) with
  accessFlags := 1537
  interfaces := #[]
  cf := some (fileOf pool4 2 #[] #[] 1537 4 #[] #[])
  fields := #[]
  methods := #[]
  instanceTypes := #[]
  staticTypes := #[]
  resolved := Array.replicate 8 none
  statics := none }

/-- the primitive byte -/
def k5 : Class := { plain "byte" none with kind := .primitive 'B', accessFlags := 0x411 }
/-- [B -/
def k6 : Class := { plain "[B" (some 0) with kind := .array 5 .byte, interfaces := #[3, 4], accessFlags := 1041 }

/-- the primitive int -/
def k7 : Class := { plain "int" none with kind := .primitive 'I', accessFlags := 0x411 }
/-- [I -/
def k8 : Class := { plain "[I" (some 0) with kind := .array 7 .int, interfaces := #[3, 4], accessFlags := 1041 }

def heap : Heap := #[]
def classes : Array Class := #[k0, k1, k2, k3, k4, k5, k6, k7, k8]
def interned : List (Array UInt16 × Addr) := []
def slotsUsed : Nat := 0
def theMethod : MethodId := ⟨1, 2⟩
def args0 : Array Value := #[.long 5, .long 3, .int 2, .int 1]
def aboutOver (below : List Frame) : State where
  vm := { classes := classes, interned := interned.toArray }
  heap := heap
  slotsUsed := slotsUsed
  threads := #[{ frames := .invoking theMethod args0 :: below }]
def below0 : List Frame := [.native { method := ⟨0, 0⟩, args := #[] }]
def about1 : State := aboutOver below0
def p0 : Program := .bare "" "" ""
def e0 : Env := launch0.env 0 0 0
theorem w_frames : about1.frames = Frame.invoking theMethod args0 :: below0 := rfl
set_option maxRecDepth 65536 in
theorem w_args : argsFit about1.vm theMethod args0 = true := by decide +kernel
set_option maxRecDepth 65536 in
theorem w_heap : heapFits about1 = true := by decide +kernel
set_option maxRecDepth 65536 in
theorem w_runnable : about1.curStatus? = some .runnable := by decide +kernel
set_option maxRecDepth 65536 in
theorem w_alone : about1.alone = true := by decide +kernel
set_option maxRecDepth 65536 in
theorem w_named : about1.methodNamed? x = some theMethod := by decide +kernel
set_option maxRecDepth 65536 in
theorem w_hears : about1.hears theMethod below0 = true := by decide +kernel
set_option maxRecDepth 65536 in
theorem w_ripe : about1.ripe theMethod args0 below0 = true := by decide +kernel
theorem w_running : about1.status = .running := rfl
set_option maxRecDepth 65536 in
theorem w_room : about1.hasRoom e0.platform room_1 = true :=
  launch0.hasRoom_least _ room_1 (by decide +kernel) (by decide +kernel) (by decide +kernel) (by decide +kernel) (by decide +kernel) (by decide +kernel)
theorem allAtoms_all (ts : List Jvm.Cond) (a : Array Jvm.Value) (st : Jvm.State) : (allAtoms ts).before a st = ts.all (fun c => c.before a st) := by
  induction ts with
  | nil => rfl
  | cons c t ih =>
    show (Jvm.Cond.and c (allAtoms t)).before a st = _
    rw [Jvm.Cond.before_and, ih, List.all_cons]
def words1 : List Jvm.Cond := Jvm.Cond.code x code maxLocals ret :: tables_1
/-- a 'code' word, met by the world's own term for the bytes: nothing is compared byte by byte -/
theorem code_word {y : MethodName} {bytes : ByteArray} {mx : Nat} {rt : Option FieldType} {a : Array Value} {s : State} {m : MethodId} {meth : Method} {c : Code} (h1 : s.methodNamed? y = some m) (h2 : s.vm.method? m = some meth) (h3 : meth.code = some c) (h4 : c.code = bytes)
    (h5 : (c.maxLocals == mx && c.exceptionTable.isEmpty && decide (c.maxStack ≤ mostOperands) && decide (meth.sig.returnType = rt) && !meth.locks && decide (parseMethodDescriptor y.desc = some meth.sig)) = true) : (Jvm.Cond.code y bytes mx rt).before a s = true := by
  simp only [Bool.and_eq_true, beq_iff_eq, Bool.not_eq_true', decide_eq_true_eq] at h5
  obtain ⟨⟨⟨⟨⟨g1, g2⟩, g3⟩, g4⟩, g5⟩, g6⟩ := h5
  simp [Cond.before, Cond.holds, Cond.value, h1, h2, h3, h4, g1, g2, g3, g4, g5, g6]
def isCode : Jvm.Cond → Bool
  | .code _ _ _ _ => true
  | _ => false
theorem all_split {L : List Jvm.Cond} {P : Jvm.Cond → Bool} (h1 : L.all (fun c => isCode c || P c) = true) (h2 : ∀ c ∈ L.filter isCode, P c = true) : L.all P = true := by
  refine List.all_eq_true.mpr fun c hc => ?_
  have h := List.all_eq_true.mp h1 c hc
  rcases Bool.eq_false_or_eq_true (isCode c) with hi | hi
  · exact h2 c (List.mem_filter.mpr ⟨hc, hi⟩)
  · simpa [hi] using h
set_option maxRecDepth 65536 in
theorem w_c0 : (Jvm.Cond.code x code maxLocals ret).before args0 about1 = true := code_word (m := ⟨1, 2⟩) (meth := k1m2) (c := k1c2) (by decide +kernel) rfl rfl rfl (by decide +kernel)
set_option maxRecDepth 65536 in
theorem w_c1 : (Jvm.Cond.code ({ cls := "com/example/vellum_keys/vellumkeys/storage/KeyCodecSequenceNumberOfPinLaw", name := "put", desc := "([BIJ)V" } : Jvm.MethodName) method_2_code (4 : Nat) (Option.none : Option Jvm.ClassFile.FieldType)).before args0 about1 = true := code_word (m := ⟨1, 1⟩) (meth := k1m1) (c := k1c1) (by decide +kernel) rfl rfl rfl (by decide +kernel)
set_option maxRecDepth 65536 in
theorem w_c2 : (Jvm.Cond.code ({ cls := "com/example/vellum_keys/vellumkeys/storage/KeyCodec", name := "sequenceNumberOf", desc := "([B)J" } : Jvm.MethodName) prog_98_method_8_code (4 : Nat) (Option.some Jvm.ClassFile.FieldType.long)).before args0 about1 = true := code_word (m := ⟨2, 1⟩) (meth := k2m1) (c := k2c1) (by decide +kernel) rfl rfl rfl (by decide +kernel)
def codes1 : List Jvm.Cond := [Jvm.Cond.code x code maxLocals ret, Jvm.Cond.code ({ cls := "com/example/vellum_keys/vellumkeys/storage/KeyCodecSequenceNumberOfPinLaw", name := "put", desc := "([BIJ)V" } : Jvm.MethodName) method_2_code (4 : Nat) (Option.none : Option Jvm.ClassFile.FieldType), Jvm.Cond.code ({ cls := "com/example/vellum_keys/vellumkeys/storage/KeyCodec", name := "sequenceNumberOf", desc := "([B)J" } : Jvm.MethodName) prog_98_method_8_code (4 : Nat) (Option.some Jvm.ClassFile.FieldType.long)]
set_option maxRecDepth 65536 in
theorem codes_eq : words1.filter isCode = codes1 := rfl
theorem w_codes : ∀ c ∈ words1.filter isCode, c.before args0 about1 = true := by
  rw [codes_eq]
  intro c hc
  simp only [codes1, List.mem_cons, List.not_mem_nil, or_false] at hc
  rcases hc with rfl | rfl | rfl
  · exact w_c0
  · exact w_c1
  · exact w_c2
set_option maxRecDepth 65536 in
theorem w_t1 : words1.all (fun c => isCode c || c.before args0 about1) = true := by decide +kernel
theorem w_tables : (allAtoms (Jvm.Cond.code x code maxLocals ret :: tables_1)).before args0 about1 = true := by
  rw [allAtoms_all]
  show words1.all (fun c => c.before args0 about1) = true
  refine all_split ?_ w_codes
  rw [w_t1]
set_option maxRecDepth 65536 in
theorem w_case : (Jvm.Cond.and given_1 narrow_1).before args0 about1 = true := by decide +kernel
theorem w_applies : (headSpec (Jvm.Cond.code x code maxLocals ret :: tables_1) room_1).applies x e0.platform about1 = true :=
  (Spec.applies_iff w_frames).mpr ⟨w_running, w_runnable, w_alone, w_named, w_hears, w_ripe, w_room, w_tables⟩
theorem atStart : AtStart classFile x code maxLocals ret World_1 tables_1 room_1 Calls_1 rest_1 Pre_1 launch0 p0 e0 about1 theMethod args0 below0 :=
  ⟨lists_1, trivial, launch0.admits_env _ _ _, launch0.least_env, fairChoices_fair.cas, fairChoices_fair.clock, w_frames, w_args, w_heap, w_applies, trivial, trivial, w_case⟩
end start1
theorem witness_1 : WitnessClaimed_1 := ⟨start1.p0, start1.e0, start1.about1, start1.theMethod, start1.args0, start1.below0, start1.atStart⟩
end Jvm.Pilot.@@N@@
