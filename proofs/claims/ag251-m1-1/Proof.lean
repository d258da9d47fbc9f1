import JvmDerived
import JvmDerived.Pilot.@@N@@Statement
import JvmDerived.Pilot.@@N@@Code
set_option linter.unusedVariables false
set_option linter.unusedSimpArgs false
@@BLOCK:NumsL.lean.txt@@
namespace Jvm.Pilot.@@N@@
open Jvm Jvm.ClassFile Sem Op Lib Jvm.Free Jvm.Stand Jvm.LawKit Jvm.RoadKit Bundle Jvm.Pilot.@@N@@.Jvm.D
section GoKit
variable {p : Program} {l : Launch} {e : Env} {R : Room} {s : State} {m : MethodId} {args : Array Value} {below : List Frame} {meth : Method} {c : Code} {T : State} {Z : State} {own nm : String} {bytes : ByteArray} {mx : Nat} {rt : Option FieldType} {n0 k n : Nat} {h : Heap} {Q : Option Value → Heap → Prop} {CC NN : Nat} {a0 : Array Value} {Ls Ls' : Array Slot} {rest : List Value} {pc pc' : Nat}
/-- where a walk stands -/
def W (Z : State) (own nm : String) (bytes : ByteArray) (mx : Nat) (rt : Option FieldType) (n0 : Nat) (p : Program) (l : Launch) (e : Env) (R : Room) (s : State) (m : MethodId) (args : Array Value) (below : List Frame) (meth : Method) (c : Code) (k n : Nat) (T : State) (h : Heap) : Prop :=
  p.tables.exec = Jvm.exec ∧ c.code = bytes ∧ s.vm.findClass own = some m.cls ∧ Z.Warmed39 s.vm ∧ c.maxLocals = mx ∧ meth.name = nm ∧ meth.sig.returnType = rt ∧ meth.locks = false ∧ (∃ L, Stand p l e R s m args below meth c T L k n ∧ Fr n0 L) ∧ T.heap = h
/-- from this frame the method ends well -/
def Go (n0 : Nat) (p : Program) (e : Env) (below : List Frame) (s : State) (Q : Option Value → Heap → Prop) (CC NN : Nat) (T : State) (g : JFrame) : Prop :=
  ∃ s₂ o, Steps p.tables e below (T.setTop g) s₂ ∧ s₂.status = .running ∧ Ended s₂ below o ∧ ∃ v L, o = .returned v ∧ (Fr n0 L ∧ Q v s₂.heap) ∧ FrameEnd s o s₂ L CC NN
/-- a body's contract: of these arguments, at this heap -/
def Ctr (l : Launch) (y : MethodName) (yb : ByteArray) (ymx : Nat) (yr : Option FieldType) (rm : Room) (Z : State) (as : Array Value) (h0 : Heap) (n0 : Nat) (Q : Option Value → Heap → Prop) (ws : List Jvm.Cond) : Prop :=
  MetFree l y (head1 (Jvm.Cond.code y yb ymx yr :: ws) rm) (fun a U => a = as ∧ Z.Warmed39 U.vm ∧ U.heap = h0) (fun _ _ _ _ _ => True) (fun _ U o U' => ∃ v L, o = .returned v ∧ (Fr n0 L ∧ Q v U'.heap) ∧ FrameEnd U o U' L rm.cells rm.slots)
theorem metGo {y : MethodName} {rm : Room} {as : Array Value} {ws : List Jvm.Cond} (hpn : plainFor y = true) (hef : ∀ m, entryFrame m as mx = mkF m 0 Ls [])
    (H : ∀ (p : Program) (e : Env) (s : State) (m : MethodId) (below : List Frame) (meth : Method) (c : Code) (T : State), W Z y.cls y.name bytes mx rt n0 p l e rm s m as below meth c 0 0 T h → Go n0 p e below s Q rm.cells rm.slots T (mkF m 0 Ls [])) : Ctr l y bytes mx rt rm Z as h n0 Q ws := by
  refine MetFree.of_bodySF hpn hisR ?_
  intro p e s m args below meth c s₁ Bd hml0 hP hK
  obtain ⟨rfl, hZ, hh⟩ := hP
  have e0 : s₁.heap = h := by rw [← hh, Bd.state]; rfl
  obtain ⟨s₂, o, st, r⟩ := H p e s m below meth c s₁ ⟨Bd.exec, Bd.bytes, findClass_of_methodNamed Bd.named, hZ, hml0, (name_of_methodNamed Bd.named Bd.method).1, Bd.returns, Bd.notSynchronized, ⟨[], Stand.of_body Bd, Fr.nil n0⟩, e0⟩
  exact ⟨s₂, o, castTop (hef m) st, r⟩
def cY : ClassFile.Cond → Int32 → Int32 → Prop
  | .eq, x, y => x = y
  | .ne, x, y => ¬ x = y
  | .lt, x, y => x < y
  | .ge, x, y => ¬ x < y
  | .gt, x, y => y < x
  | .le, x, y => ¬ y < x
def cN : ClassFile.Cond → Int32 → Int32 → Prop
  | .eq, x, y => ¬ x = y
  | .ne, x, y => x = y
  | .lt, x, y => ¬ x < y
  | .ge, x, y => x < y
  | .gt, x, y => ¬ y < x
  | .le, x, y => y < x
def lY : ClassFile.Cond → Int64 → Int64 → Prop
  | .eq, x, y => x = y
  | .ne, x, y => ¬ x = y
  | .lt, x, y => x < y
  | .ge, x, y => ¬ x < y
  | .gt, x, y => y < x
  | .le, x, y => ¬ y < x
def lN : ClassFile.Cond → Int64 → Int64 → Prop
  | .eq, x, y => ¬ x = y
  | .ne, x, y => x = y
  | .lt, x, y => ¬ x < y
  | .ge, x, y => x < y
  | .gt, x, y => ¬ y < x
  | .le, x, y => y < x
theorem c_or (cd : ClassFile.Cond) (x y : Int32) : (cY cd x y ∧ if_icmp.holds cd x y = true) ∨ (cN cd x y ∧ if_icmp.holds cd x y = false) := by
  cases cd
  · by_cases q : x = y
    · exact Or.inl ⟨q, (teq q).1⟩
    · exact Or.inr ⟨q, (feq q).1⟩
  · by_cases q : x = y
    · exact Or.inr ⟨q, (teq q).2⟩
    · exact Or.inl ⟨q, (feq q).2⟩
  · by_cases q : x < y
    · exact Or.inl ⟨q, (tlt q).1⟩
    · exact Or.inr ⟨q, (flt q).1⟩
  · by_cases q : x < y
    · exact Or.inr ⟨q, (tlt q).2.1⟩
    · exact Or.inl ⟨q, (flt q).2.1⟩
  · by_cases q : y < x
    · exact Or.inl ⟨q, (tlt q).2.2.1⟩
    · exact Or.inr ⟨q, (flt q).2.2.1⟩
  · by_cases q : y < x
    · exact Or.inr ⟨q, (tlt q).2.2.2⟩
    · exact Or.inl ⟨q, (flt q).2.2.2⟩
theorem lY_of (cd : ClassFile.Cond) (x y : Int64) (q : cY cd (lcmpW x y) 0) : lY cd x y := by
  cases cd
  · exact (lw_eq x y).mp q
  · exact fun r => q ((lw_eq x y).mpr r)
  · exact (lw_lt x y).mp q
  · exact fun r => q ((lw_lt x y).mpr r)
  · exact (lw_gt x y).mp q
  · exact fun r => q ((lw_gt x y).mpr r)
theorem lN_of (cd : ClassFile.Cond) (x y : Int64) (q : cN cd (lcmpW x y) 0) : lN cd x y := by
  cases cd
  · exact fun r => q ((lw_eq x y).mpr r)
  · exact (lw_eq x y).mp q
  · exact fun r => q ((lw_lt x y).mpr r)
  · exact (lw_lt x y).mp q
  · exact fun r => q ((lw_gt x y).mpr r)
  · exact (lw_gt x y).mp q

theorem giload (w : W Z own nm bytes mx rt n0 p l e R s m args below meth c k n T h) {j : Nat} {v : Int32} (hd : decode bytes pc = .ok (.iload j, 2)) (hl : Ls[j]? = some (.val (.int v))) (hp : pc + 2 = pc') (K : Go n0 p e below s Q CC NN T (mkF m pc' Ls (.int v :: rest))) : Go n0 p e below s Q CC NN T (mkF m pc Ls (rest)) := by
  obtain ⟨hx, hb, -, -, -, -, -, -, ⟨L, X, -⟩, -⟩ := w
  obtain ⟨s₂, o, st, r⟩ := K
  subst hp hb
  exact ⟨s₂, o, XS.iload X.here hx rfl hd hl st, r⟩
theorem giloadN (w : W Z own nm bytes mx rt n0 p l e R s m args below meth c k n T h) {j : Fin 4} {v : Int32} (hd : decode bytes pc = .ok (.iload_n j, 1)) (hl : Ls[j.val]? = some (.val (.int v))) (hp : pc + 1 = pc') (K : Go n0 p e below s Q CC NN T (mkF m pc' Ls (.int v :: rest))) : Go n0 p e below s Q CC NN T (mkF m pc Ls (rest)) := by
  obtain ⟨hx, hb, -, -, -, -, -, -, ⟨L, X, -⟩, -⟩ := w
  obtain ⟨s₂, o, st, r⟩ := K
  subst hp hb
  exact ⟨s₂, o, XS.iloadN X.here hx rfl hd hl st, r⟩
theorem glload (w : W Z own nm bytes mx rt n0 p l e R s m args below meth c k n T h) {j : Nat} {v : Int64} (hd : decode bytes pc = .ok (.lload j, 2)) (hl : Ls[j]? = some (.val (.long v))) (hp : pc + 2 = pc') (K : Go n0 p e below s Q CC NN T (mkF m pc' Ls (.long v :: rest))) : Go n0 p e below s Q CC NN T (mkF m pc Ls (rest)) := by
  obtain ⟨hx, hb, -, -, -, -, -, -, ⟨L, X, -⟩, -⟩ := w
  obtain ⟨s₂, o, st, r⟩ := K
  subst hp hb
  exact ⟨s₂, o, XS.lload X.here hx rfl hd hl st, r⟩
theorem glloadN (w : W Z own nm bytes mx rt n0 p l e R s m args below meth c k n T h) {j : Fin 4} {v : Int64} (hd : decode bytes pc = .ok (.lload_n j, 1)) (hl : Ls[j.val]? = some (.val (.long v))) (hp : pc + 1 = pc') (K : Go n0 p e below s Q CC NN T (mkF m pc' Ls (.long v :: rest))) : Go n0 p e below s Q CC NN T (mkF m pc Ls (rest)) := by
  obtain ⟨hx, hb, -, -, -, -, -, -, ⟨L, X, -⟩, -⟩ := w
  obtain ⟨s₂, o, st, r⟩ := K
  subst hp hb
  exact ⟨s₂, o, XS.lloadN X.here hx rfl hd hl st, r⟩
theorem gaload (w : W Z own nm bytes mx rt n0 p l e R s m args below meth c k n T h) {j : Nat} {v : Value} (hd : decode bytes pc = .ok (.aload j, 2)) (hl : Ls[j]? = some (.val v)) (hv : v.isRef = true) (hp : pc + 2 = pc') (K : Go n0 p e below s Q CC NN T (mkF m pc' Ls (v :: rest))) : Go n0 p e below s Q CC NN T (mkF m pc Ls (rest)) := by
  obtain ⟨hx, hb, -, -, -, -, -, -, ⟨L, X, -⟩, -⟩ := w
  obtain ⟨s₂, o, st, r⟩ := K
  subst hp hb
  exact ⟨s₂, o, XS.aload X.here hx rfl hd hl hv st, r⟩
theorem galoadN (w : W Z own nm bytes mx rt n0 p l e R s m args below meth c k n T h) {j : Fin 4} {v : Value} (hd : decode bytes pc = .ok (.aload_n j, 1)) (hl : Ls[j.val]? = some (.val v)) (hv : v.isRef = true) (hp : pc + 1 = pc') (K : Go n0 p e below s Q CC NN T (mkF m pc' Ls (v :: rest))) : Go n0 p e below s Q CC NN T (mkF m pc Ls (rest)) := by
  obtain ⟨hx, hb, -, -, -, -, -, -, ⟨L, X, -⟩, -⟩ := w
  obtain ⟨s₂, o, st, r⟩ := K
  subst hp hb
  exact ⟨s₂, o, XS.aloadN X.here hx rfl hd hl hv st, r⟩
theorem gistore (w : W Z own nm bytes mx rt n0 p l e R s m args below meth c k n T h) {j : Nat} {v : Int32} (hd : decode bytes pc = .ok (.istore j, 2)) (hl : storeLocals Ls j (.int v) = some Ls') (hp : pc + 2 = pc') (K : Go n0 p e below s Q CC NN T (mkF m pc' Ls' (rest))) : Go n0 p e below s Q CC NN T (mkF m pc Ls (.int v :: rest)) := by
  obtain ⟨hx, hb, -, -, -, -, -, -, ⟨L, X, -⟩, -⟩ := w
  obtain ⟨s₂, o, st, r⟩ := K
  subst hp hb
  exact ⟨s₂, o, XS.istore X.here hx rfl hd rfl hl st, r⟩
theorem gistoreN (w : W Z own nm bytes mx rt n0 p l e R s m args below meth c k n T h) {j : Fin 4} {v : Int32} (hd : decode bytes pc = .ok (.istore_n j, 1)) (hl : storeLocals Ls j.val (.int v) = some Ls') (hp : pc + 1 = pc') (K : Go n0 p e below s Q CC NN T (mkF m pc' Ls' (rest))) : Go n0 p e below s Q CC NN T (mkF m pc Ls (.int v :: rest)) := by
  obtain ⟨hx, hb, -, -, -, -, -, -, ⟨L, X, -⟩, -⟩ := w
  obtain ⟨s₂, o, st, r⟩ := K
  subst hp hb
  exact ⟨s₂, o, XS.istoreN X.here hx rfl hd rfl hl st, r⟩
theorem glstore (w : W Z own nm bytes mx rt n0 p l e R s m args below meth c k n T h) {j : Nat} {v : Int64} (hd : decode bytes pc = .ok (.lstore j, 2)) (hl : storeLocals Ls j (.long v) = some Ls') (hp : pc + 2 = pc') (K : Go n0 p e below s Q CC NN T (mkF m pc' Ls' (rest))) : Go n0 p e below s Q CC NN T (mkF m pc Ls (.long v :: rest)) := by
  obtain ⟨hx, hb, -, -, -, -, -, -, ⟨L, X, -⟩, -⟩ := w
  obtain ⟨s₂, o, st, r⟩ := K
  subst hp hb
  exact ⟨s₂, o, XS.lstore X.here hx rfl hd rfl hl st, r⟩
theorem glstoreN (w : W Z own nm bytes mx rt n0 p l e R s m args below meth c k n T h) {j : Fin 4} {v : Int64} (hd : decode bytes pc = .ok (.lstore_n j, 1)) (hl : storeLocals Ls j.val (.long v) = some Ls') (hp : pc + 1 = pc') (K : Go n0 p e below s Q CC NN T (mkF m pc' Ls' (rest))) : Go n0 p e below s Q CC NN T (mkF m pc Ls (.long v :: rest)) := by
  obtain ⟨hx, hb, -, -, -, -, -, -, ⟨L, X, -⟩, -⟩ := w
  obtain ⟨s₂, o, st, r⟩ := K
  subst hp hb
  exact ⟨s₂, o, XS.lstoreN X.here hx rfl hd rfl hl st, r⟩
theorem gastore (w : W Z own nm bytes mx rt n0 p l e R s m args below meth c k n T h) {j : Nat} {v : Value} (hd : decode bytes pc = .ok (.astore j, 2)) (hv : v.isRef = true) (hl : storeLocals Ls j v = some Ls') (hp : pc + 2 = pc') (K : Go n0 p e below s Q CC NN T (mkF m pc' Ls' (rest))) : Go n0 p e below s Q CC NN T (mkF m pc Ls (v :: rest)) := by
  obtain ⟨hx, hb, -, -, -, -, -, -, ⟨L, X, -⟩, -⟩ := w
  obtain ⟨s₂, o, st, r⟩ := K
  subst hp hb
  exact ⟨s₂, o, XS.astore X.here hx rfl hd rfl hv hl st, r⟩
theorem gastoreN (w : W Z own nm bytes mx rt n0 p l e R s m args below meth c k n T h) {j : Fin 4} {v : Value} (hd : decode bytes pc = .ok (.astore_n j, 1)) (hv : v.isRef = true) (hl : storeLocals Ls j.val v = some Ls') (hp : pc + 1 = pc') (K : Go n0 p e below s Q CC NN T (mkF m pc' Ls' (rest))) : Go n0 p e below s Q CC NN T (mkF m pc Ls (v :: rest)) := by
  obtain ⟨hx, hb, -, -, -, -, -, -, ⟨L, X, -⟩, -⟩ := w
  obtain ⟨s₂, o, st, r⟩ := K
  subst hp hb
  exact ⟨s₂, o, XS.astoreN X.here hx rfl hd rfl hv hl st, r⟩
theorem giinc (w : W Z own nm bytes mx rt n0 p l e R s m args below meth c k n T h) {j : Nat} {i : Int} {v : Int32} (hd : decode bytes pc = .ok (.iinc j i, 3)) (hl : Ls[j]? = some (.val (.int v))) (hl' : storeLocals Ls j (.int (v + Int32.ofInt i)) = some Ls') (hp : pc + 3 = pc') (K : Go n0 p e below s Q CC NN T (mkF m pc' Ls' (rest))) : Go n0 p e below s Q CC NN T (mkF m pc Ls (rest)) := by
  obtain ⟨hx, hb, -, -, -, -, -, -, ⟨L, X, -⟩, -⟩ := w
  obtain ⟨s₂, o, st, r⟩ := K
  subst hp hb
  exact ⟨s₂, o, XS.iinc X.here hx rfl hd hl hl' st, r⟩
theorem giconst (w : W Z own nm bytes mx rt n0 p l e R s m args below meth c k n T h) {i : Int} {v : Int32} (hd : decode bytes pc = .ok (.iconst i, 1)) (hv : Int32.ofInt i = v) (hp : pc + 1 = pc') (K : Go n0 p e below s Q CC NN T (mkF m pc' Ls (.int v :: rest))) : Go n0 p e below s Q CC NN T (mkF m pc Ls (rest)) := by
  obtain ⟨hx, hb, -, -, -, -, -, -, ⟨L, X, -⟩, -⟩ := w
  obtain ⟨s₂, o, st, r⟩ := K
  subst hp hb hv
  exact ⟨s₂, o, XS.iconst X.here hx rfl hd st, r⟩
theorem gbipush (w : W Z own nm bytes mx rt n0 p l e R s m args below meth c k n T h) {i : Int} {v : Int32} (hd : decode bytes pc = .ok (.bipush i, 2)) (hv : (Int8.ofInt i).toInt32 = v) (hp : pc + 2 = pc') (K : Go n0 p e below s Q CC NN T (mkF m pc' Ls (.int v :: rest))) : Go n0 p e below s Q CC NN T (mkF m pc Ls (rest)) := by
  obtain ⟨hx, hb, -, -, -, -, -, -, ⟨L, X, -⟩, -⟩ := w
  obtain ⟨s₂, o, st, r⟩ := K
  subst hp hb hv
  exact ⟨s₂, o, XS.bipush X.here hx rfl hd st, r⟩
theorem gsipush (w : W Z own nm bytes mx rt n0 p l e R s m args below meth c k n T h) {i : Int} {v : Int32} (hd : decode bytes pc = .ok (.sipush i, 3)) (hv : (Int16.ofInt i).toInt32 = v) (hp : pc + 3 = pc') (K : Go n0 p e below s Q CC NN T (mkF m pc' Ls (.int v :: rest))) : Go n0 p e below s Q CC NN T (mkF m pc Ls (rest)) := by
  obtain ⟨hx, hb, -, -, -, -, -, -, ⟨L, X, -⟩, -⟩ := w
  obtain ⟨s₂, o, st, r⟩ := K
  subst hp hb hv
  exact ⟨s₂, o, XS.sipush X.here hx rfl hd st, r⟩
theorem glconst (w : W Z own nm bytes mx rt n0 p l e R s m args below meth c k n T h) {i : Fin 2} {v : Int64} (hd : decode bytes pc = .ok (.lconst i, 1)) (hv : Int64.ofNat i = v) (hp : pc + 1 = pc') (K : Go n0 p e below s Q CC NN T (mkF m pc' Ls (.long v :: rest))) : Go n0 p e below s Q CC NN T (mkF m pc Ls (rest)) := by
  obtain ⟨hx, hb, -, -, -, -, -, -, ⟨L, X, -⟩, -⟩ := w
  obtain ⟨s₂, o, st, r⟩ := K
  subst hp hb hv
  exact ⟨s₂, o, XS.lconst X.here hx rfl hd st, r⟩
theorem gnull (w : W Z own nm bytes mx rt n0 p l e R s m args below meth c k n T h) (hd : decode bytes pc = .ok (.aconst_null, 1)) (hp : pc + 1 = pc') (K : Go n0 p e below s Q CC NN T (mkF m pc' Ls (.null :: rest))) : Go n0 p e below s Q CC NN T (mkF m pc Ls (rest)) := by
  obtain ⟨hx, hb, -, -, -, -, -, -, ⟨L, X, -⟩, -⟩ := w
  obtain ⟨s₂, o, st, r⟩ := K
  subst hp hb
  exact ⟨s₂, o, XS.aconstNull X.here hx rfl hd  st, r⟩
theorem giadd (w : W Z own nm bytes mx rt n0 p l e R s m args below meth c k n T h) {x y : Int32} (hd : decode bytes pc = .ok (.iadd, 1)) (hp : pc + 1 = pc') (K : Go n0 p e below s Q CC NN T (mkF m pc' Ls (.int (x + y) :: rest))) : Go n0 p e below s Q CC NN T (mkF m pc Ls (.int y :: .int x :: rest)) := by
  obtain ⟨hx, hb, -, -, -, -, -, -, ⟨L, X, -⟩, -⟩ := w
  obtain ⟨s₂, o, st, r⟩ := K
  subst hp hb
  exact ⟨s₂, o, XS.iadd X.here hx rfl hd rfl st, r⟩
theorem gladd (w : W Z own nm bytes mx rt n0 p l e R s m args below meth c k n T h) {x y : Int64} (hd : decode bytes pc = .ok (.ladd, 1)) (hp : pc + 1 = pc') (K : Go n0 p e below s Q CC NN T (mkF m pc' Ls (.long (x + y) :: rest))) : Go n0 p e below s Q CC NN T (mkF m pc Ls (.long y :: .long x :: rest)) := by
  obtain ⟨hx, hb, -, -, -, -, -, -, ⟨L, X, -⟩, -⟩ := w
  obtain ⟨s₂, o, st, r⟩ := K
  subst hp hb
  exact ⟨s₂, o, XS.ladd X.here hx rfl hd rfl st, r⟩
theorem gisub (w : W Z own nm bytes mx rt n0 p l e R s m args below meth c k n T h) {x y : Int32} (hd : decode bytes pc = .ok (.isub, 1)) (hp : pc + 1 = pc') (K : Go n0 p e below s Q CC NN T (mkF m pc' Ls (.int (x - y) :: rest))) : Go n0 p e below s Q CC NN T (mkF m pc Ls (.int y :: .int x :: rest)) := by
  obtain ⟨hx, hb, -, -, -, -, -, -, ⟨L, X, -⟩, -⟩ := w
  obtain ⟨s₂, o, st, r⟩ := K
  subst hp hb
  exact ⟨s₂, o, XS.isub X.here hx rfl hd rfl st, r⟩
theorem glsub (w : W Z own nm bytes mx rt n0 p l e R s m args below meth c k n T h) {x y : Int64} (hd : decode bytes pc = .ok (.lsub, 1)) (hp : pc + 1 = pc') (K : Go n0 p e below s Q CC NN T (mkF m pc' Ls (.long (x - y) :: rest))) : Go n0 p e below s Q CC NN T (mkF m pc Ls (.long y :: .long x :: rest)) := by
  obtain ⟨hx, hb, -, -, -, -, -, -, ⟨L, X, -⟩, -⟩ := w
  obtain ⟨s₂, o, st, r⟩ := K
  subst hp hb
  exact ⟨s₂, o, XS.lsub X.here hx rfl hd rfl st, r⟩
theorem gimul (w : W Z own nm bytes mx rt n0 p l e R s m args below meth c k n T h) {x y : Int32} (hd : decode bytes pc = .ok (.imul, 1)) (hp : pc + 1 = pc') (K : Go n0 p e below s Q CC NN T (mkF m pc' Ls (.int (x * y) :: rest))) : Go n0 p e below s Q CC NN T (mkF m pc Ls (.int y :: .int x :: rest)) := by
  obtain ⟨hx, hb, -, -, -, -, -, -, ⟨L, X, -⟩, -⟩ := w
  obtain ⟨s₂, o, st, r⟩ := K
  subst hp hb
  exact ⟨s₂, o, XS.imul X.here hx rfl hd rfl st, r⟩
theorem glmul (w : W Z own nm bytes mx rt n0 p l e R s m args below meth c k n T h) {x y : Int64} (hd : decode bytes pc = .ok (.lmul, 1)) (hp : pc + 1 = pc') (K : Go n0 p e below s Q CC NN T (mkF m pc' Ls (.long (x * y) :: rest))) : Go n0 p e below s Q CC NN T (mkF m pc Ls (.long y :: .long x :: rest)) := by
  obtain ⟨hx, hb, -, -, -, -, -, -, ⟨L, X, -⟩, -⟩ := w
  obtain ⟨s₂, o, st, r⟩ := K
  subst hp hb
  exact ⟨s₂, o, XS.lmul X.here hx rfl hd rfl st, r⟩
theorem giand (w : W Z own nm bytes mx rt n0 p l e R s m args below meth c k n T h) {x y : Int32} (hd : decode bytes pc = .ok (.iand, 1)) (hp : pc + 1 = pc') (K : Go n0 p e below s Q CC NN T (mkF m pc' Ls (.int (x &&& y) :: rest))) : Go n0 p e below s Q CC NN T (mkF m pc Ls (.int y :: .int x :: rest)) := by
  obtain ⟨hx, hb, -, -, -, -, -, -, ⟨L, X, -⟩, -⟩ := w
  obtain ⟨s₂, o, st, r⟩ := K
  subst hp hb
  exact ⟨s₂, o, XS.iand X.here hx rfl hd rfl st, r⟩
theorem gland (w : W Z own nm bytes mx rt n0 p l e R s m args below meth c k n T h) {x y : Int64} (hd : decode bytes pc = .ok (.land, 1)) (hp : pc + 1 = pc') (K : Go n0 p e below s Q CC NN T (mkF m pc' Ls (.long (x &&& y) :: rest))) : Go n0 p e below s Q CC NN T (mkF m pc Ls (.long y :: .long x :: rest)) := by
  obtain ⟨hx, hb, -, -, -, -, -, -, ⟨L, X, -⟩, -⟩ := w
  obtain ⟨s₂, o, st, r⟩ := K
  subst hp hb
  exact ⟨s₂, o, XS.land X.here hx rfl hd rfl st, r⟩
theorem gior (w : W Z own nm bytes mx rt n0 p l e R s m args below meth c k n T h) {x y : Int32} (hd : decode bytes pc = .ok (.ior, 1)) (hp : pc + 1 = pc') (K : Go n0 p e below s Q CC NN T (mkF m pc' Ls (.int (x ||| y) :: rest))) : Go n0 p e below s Q CC NN T (mkF m pc Ls (.int y :: .int x :: rest)) := by
  obtain ⟨hx, hb, -, -, -, -, -, -, ⟨L, X, -⟩, -⟩ := w
  obtain ⟨s₂, o, st, r⟩ := K
  subst hp hb
  exact ⟨s₂, o, XS.ior X.here hx rfl hd rfl st, r⟩
theorem glor (w : W Z own nm bytes mx rt n0 p l e R s m args below meth c k n T h) {x y : Int64} (hd : decode bytes pc = .ok (.lor, 1)) (hp : pc + 1 = pc') (K : Go n0 p e below s Q CC NN T (mkF m pc' Ls (.long (x ||| y) :: rest))) : Go n0 p e below s Q CC NN T (mkF m pc Ls (.long y :: .long x :: rest)) := by
  obtain ⟨hx, hb, -, -, -, -, -, -, ⟨L, X, -⟩, -⟩ := w
  obtain ⟨s₂, o, st, r⟩ := K
  subst hp hb
  exact ⟨s₂, o, XS.lor X.here hx rfl hd rfl st, r⟩
theorem gixor (w : W Z own nm bytes mx rt n0 p l e R s m args below meth c k n T h) {x y : Int32} (hd : decode bytes pc = .ok (.ixor, 1)) (hp : pc + 1 = pc') (K : Go n0 p e below s Q CC NN T (mkF m pc' Ls (.int (x ^^^ y) :: rest))) : Go n0 p e below s Q CC NN T (mkF m pc Ls (.int y :: .int x :: rest)) := by
  obtain ⟨hx, hb, -, -, -, -, -, -, ⟨L, X, -⟩, -⟩ := w
  obtain ⟨s₂, o, st, r⟩ := K
  subst hp hb
  exact ⟨s₂, o, XS.ixor X.here hx rfl hd rfl st, r⟩
theorem glxor (w : W Z own nm bytes mx rt n0 p l e R s m args below meth c k n T h) {x y : Int64} (hd : decode bytes pc = .ok (.lxor, 1)) (hp : pc + 1 = pc') (K : Go n0 p e below s Q CC NN T (mkF m pc' Ls (.long (x ^^^ y) :: rest))) : Go n0 p e below s Q CC NN T (mkF m pc Ls (.long y :: .long x :: rest)) := by
  obtain ⟨hx, hb, -, -, -, -, -, -, ⟨L, X, -⟩, -⟩ := w
  obtain ⟨s₂, o, st, r⟩ := K
  subst hp hb
  exact ⟨s₂, o, XS.lxor X.here hx rfl hd rfl st, r⟩
theorem gineg (w : W Z own nm bytes mx rt n0 p l e R s m args below meth c k n T h) {x : Int32} (hd : decode bytes pc = .ok (.ineg, 1)) (hp : pc + 1 = pc') (K : Go n0 p e below s Q CC NN T (mkF m pc' Ls (.int (-x) :: rest))) : Go n0 p e below s Q CC NN T (mkF m pc Ls (.int x :: rest)) := by
  obtain ⟨hx, hb, -, -, -, -, -, -, ⟨L, X, -⟩, -⟩ := w
  obtain ⟨s₂, o, st, r⟩ := K
  subst hp hb
  exact ⟨s₂, o, XS.ineg X.here hx rfl hd rfl st, r⟩
theorem gidiv (w : W Z own nm bytes mx rt n0 p l e R s m args below meth c k n T h) {x y : Int32} (hd : decode bytes pc = .ok (.idiv, 1)) (hy : y ≠ 0) (hp : pc + 1 = pc') (K : Go n0 p e below s Q CC NN T (mkF m pc' Ls (.int (x / y) :: rest))) : Go n0 p e below s Q CC NN T (mkF m pc Ls (.int y :: .int x :: rest)) := by
  obtain ⟨hx, hb, -, -, -, -, -, -, ⟨L, X, -⟩, -⟩ := w
  obtain ⟨s₂, o, st, r⟩ := K
  subst hp hb
  exact ⟨s₂, o, XS.idiv X.here hx rfl hd rfl hy st, r⟩
theorem gldiv (w : W Z own nm bytes mx rt n0 p l e R s m args below meth c k n T h) {x y : Int64} (hd : decode bytes pc = .ok (.ldiv, 1)) (hy : y ≠ 0) (hp : pc + 1 = pc') (K : Go n0 p e below s Q CC NN T (mkF m pc' Ls (.long (x / y) :: rest))) : Go n0 p e below s Q CC NN T (mkF m pc Ls (.long y :: .long x :: rest)) := by
  obtain ⟨hx, hb, -, -, -, -, -, -, ⟨L, X, -⟩, -⟩ := w
  obtain ⟨s₂, o, st, r⟩ := K
  subst hp hb
  exact ⟨s₂, o, XS.ldiv X.here hx rfl hd rfl hy st, r⟩
theorem girem (w : W Z own nm bytes mx rt n0 p l e R s m args below meth c k n T h) {x y : Int32} (hd : decode bytes pc = .ok (.irem, 1)) (hy : y ≠ 0) (hp : pc + 1 = pc') (K : Go n0 p e below s Q CC NN T (mkF m pc' Ls (.int (x - (x / y) * y) :: rest))) : Go n0 p e below s Q CC NN T (mkF m pc Ls (.int y :: .int x :: rest)) := by
  obtain ⟨hx, hb, -, -, -, -, -, -, ⟨L, X, -⟩, -⟩ := w
  obtain ⟨s₂, o, st, r⟩ := K
  subst hp hb
  exact ⟨s₂, o, XS.irem X.here hx rfl hd rfl hy st, r⟩
theorem glrem (w : W Z own nm bytes mx rt n0 p l e R s m args below meth c k n T h) {x y : Int64} (hd : decode bytes pc = .ok (.lrem, 1)) (hy : y ≠ 0) (hp : pc + 1 = pc') (K : Go n0 p e below s Q CC NN T (mkF m pc' Ls (.long (x - (x / y) * y) :: rest))) : Go n0 p e below s Q CC NN T (mkF m pc Ls (.long y :: .long x :: rest)) := by
  obtain ⟨hx, hb, -, -, -, -, -, -, ⟨L, X, -⟩, -⟩ := w
  obtain ⟨s₂, o, st, r⟩ := K
  subst hp hb
  exact ⟨s₂, o, XS.lrem X.here hx rfl hd rfl hy st, r⟩
theorem gishl (w : W Z own nm bytes mx rt n0 p l e R s m args below meth c k n T h) {x : Int32} {y : Int32} (hd : decode bytes pc = .ok (.ishl, 1)) (hp : pc + 1 = pc') (K : Go n0 p e below s Q CC NN T (mkF m pc' Ls (.int (x <<< (y &&& 31)) :: rest))) : Go n0 p e below s Q CC NN T (mkF m pc Ls (.int y :: .int x :: rest)) := by
  obtain ⟨hx, hb, -, -, -, -, -, -, ⟨L, X, -⟩, -⟩ := w
  obtain ⟨s₂, o, st, r⟩ := K
  subst hp hb
  exact ⟨s₂, o, XS.ishl X.here hx rfl hd rfl st, r⟩
theorem gishr (w : W Z own nm bytes mx rt n0 p l e R s m args below meth c k n T h) {x : Int32} {y : Int32} (hd : decode bytes pc = .ok (.ishr, 1)) (hp : pc + 1 = pc') (K : Go n0 p e below s Q CC NN T (mkF m pc' Ls (.int (x >>> (y &&& 31)) :: rest))) : Go n0 p e below s Q CC NN T (mkF m pc Ls (.int y :: .int x :: rest)) := by
  obtain ⟨hx, hb, -, -, -, -, -, -, ⟨L, X, -⟩, -⟩ := w
  obtain ⟨s₂, o, st, r⟩ := K
  subst hp hb
  exact ⟨s₂, o, XS.ishr X.here hx rfl hd rfl st, r⟩
theorem giushr (w : W Z own nm bytes mx rt n0 p l e R s m args below meth c k n T h) {x : Int32} {y : Int32} (hd : decode bytes pc = .ok (.iushr, 1)) (hp : pc + 1 = pc') (K : Go n0 p e below s Q CC NN T (mkF m pc' Ls (.int ((x.toUInt32 >>> (y &&& 31).toUInt32).toInt32) :: rest))) : Go n0 p e below s Q CC NN T (mkF m pc Ls (.int y :: .int x :: rest)) := by
  obtain ⟨hx, hb, -, -, -, -, -, -, ⟨L, X, -⟩, -⟩ := w
  obtain ⟨s₂, o, st, r⟩ := K
  subst hp hb
  exact ⟨s₂, o, XS.iushr X.here hx rfl hd rfl st, r⟩
theorem glshl (w : W Z own nm bytes mx rt n0 p l e R s m args below meth c k n T h) {x : Int64} {y : Int32} (hd : decode bytes pc = .ok (.lshl, 1)) (hp : pc + 1 = pc') (K : Go n0 p e below s Q CC NN T (mkF m pc' Ls (.long (x <<< (y &&& 0x3f).toInt64) :: rest))) : Go n0 p e below s Q CC NN T (mkF m pc Ls (.int y :: .long x :: rest)) := by
  obtain ⟨hx, hb, -, -, -, -, -, -, ⟨L, X, -⟩, -⟩ := w
  obtain ⟨s₂, o, st, r⟩ := K
  subst hp hb
  exact ⟨s₂, o, XS.lshl X.here hx rfl hd rfl st, r⟩
theorem glshr (w : W Z own nm bytes mx rt n0 p l e R s m args below meth c k n T h) {x : Int64} {y : Int32} (hd : decode bytes pc = .ok (.lshr, 1)) (hp : pc + 1 = pc') (K : Go n0 p e below s Q CC NN T (mkF m pc' Ls (.long (x >>> (y &&& 0x3f).toInt64) :: rest))) : Go n0 p e below s Q CC NN T (mkF m pc Ls (.int y :: .long x :: rest)) := by
  obtain ⟨hx, hb, -, -, -, -, -, -, ⟨L, X, -⟩, -⟩ := w
  obtain ⟨s₂, o, st, r⟩ := K
  subst hp hb
  exact ⟨s₂, o, XS.lshr X.here hx rfl hd rfl st, r⟩
theorem glushr (w : W Z own nm bytes mx rt n0 p l e R s m args below meth c k n T h) {x : Int64} {y : Int32} (hd : decode bytes pc = .ok (.lushr, 1)) (hp : pc + 1 = pc') (K : Go n0 p e below s Q CC NN T (mkF m pc' Ls (.long ((x.toUInt64 >>> (y &&& 0x3f).toInt64.toUInt64).toInt64) :: rest))) : Go n0 p e below s Q CC NN T (mkF m pc Ls (.int y :: .long x :: rest)) := by
  obtain ⟨hx, hb, -, -, -, -, -, -, ⟨L, X, -⟩, -⟩ := w
  obtain ⟨s₂, o, st, r⟩ := K
  subst hp hb
  exact ⟨s₂, o, XS.lushr X.here hx rfl hd rfl st, r⟩
theorem gi2b (w : W Z own nm bytes mx rt n0 p l e R s m args below meth c k n T h) {v : Int32} (hd : decode bytes pc = .ok (.i2b, 1)) (hp : pc + 1 = pc') (K : Go n0 p e below s Q CC NN T (mkF m pc' Ls (.int (v.toInt8.toInt32) :: rest))) : Go n0 p e below s Q CC NN T (mkF m pc Ls (.int v :: rest)) := by
  obtain ⟨hx, hb, -, -, -, -, -, -, ⟨L, X, -⟩, -⟩ := w
  obtain ⟨s₂, o, st, r⟩ := K
  subst hp hb
  exact ⟨s₂, o, XS.i2b X.here hx rfl hd rfl st, r⟩
theorem gi2c (w : W Z own nm bytes mx rt n0 p l e R s m args below meth c k n T h) {v : Int32} (hd : decode bytes pc = .ok (.i2c, 1)) (hp : pc + 1 = pc') (K : Go n0 p e below s Q CC NN T (mkF m pc' Ls (.int (v.toUInt32.toUInt16.toUInt32.toInt32) :: rest))) : Go n0 p e below s Q CC NN T (mkF m pc Ls (.int v :: rest)) := by
  obtain ⟨hx, hb, -, -, -, -, -, -, ⟨L, X, -⟩, -⟩ := w
  obtain ⟨s₂, o, st, r⟩ := K
  subst hp hb
  exact ⟨s₂, o, XS.i2c X.here hx rfl hd rfl st, r⟩
theorem gi2l (w : W Z own nm bytes mx rt n0 p l e R s m args below meth c k n T h) {v : Int32} (hd : decode bytes pc = .ok (.i2l, 1)) (hp : pc + 1 = pc') (K : Go n0 p e below s Q CC NN T (mkF m pc' Ls (.long (v.toInt64) :: rest))) : Go n0 p e below s Q CC NN T (mkF m pc Ls (.int v :: rest)) := by
  obtain ⟨hx, hb, -, -, -, -, -, -, ⟨L, X, -⟩, -⟩ := w
  obtain ⟨s₂, o, st, r⟩ := K
  subst hp hb
  exact ⟨s₂, o, XS.i2l X.here hx rfl hd rfl st, r⟩
theorem gl2i (w : W Z own nm bytes mx rt n0 p l e R s m args below meth c k n T h) {v : Int64} (hd : decode bytes pc = .ok (.l2i, 1)) (hp : pc + 1 = pc') (K : Go n0 p e below s Q CC NN T (mkF m pc' Ls (.int (v.toInt32) :: rest))) : Go n0 p e below s Q CC NN T (mkF m pc Ls (.long v :: rest)) := by
  obtain ⟨hx, hb, -, -, -, -, -, -, ⟨L, X, -⟩, -⟩ := w
  obtain ⟨s₂, o, st, r⟩ := K
  subst hp hb
  exact ⟨s₂, o, XS.l2i X.here hx rfl hd rfl st, r⟩
theorem gdup (w : W Z own nm bytes mx rt n0 p l e R s m args below meth c k n T h) {x : Value} (hd : decode bytes pc = .ok (.dup, 1)) (hc : x.category = 1) (hp : pc + 1 = pc') (K : Go n0 p e below s Q CC NN T (mkF m pc' Ls (x :: x :: rest))) : Go n0 p e below s Q CC NN T (mkF m pc Ls (x :: rest)) := by
  obtain ⟨hx, hb, -, -, -, -, -, -, ⟨L, X, -⟩, -⟩ := w
  obtain ⟨s₂, o, st, r⟩ := K
  subst hp hb
  exact ⟨s₂, o, XS.dup X.here hx rfl hd rfl hc st, r⟩
theorem gpop (w : W Z own nm bytes mx rt n0 p l e R s m args below meth c k n T h) {x : Value} (hd : decode bytes pc = .ok (.pop, 1)) (hc : x.category = 1) (hp : pc + 1 = pc') (K : Go n0 p e below s Q CC NN T (mkF m pc' Ls (rest))) : Go n0 p e below s Q CC NN T (mkF m pc Ls (x :: rest)) := by
  obtain ⟨hx, hb, -, -, -, -, -, -, ⟨L, X, -⟩, -⟩ := w
  obtain ⟨s₂, o, st, r⟩ := K
  subst hp hb
  exact ⟨s₂, o, XS.pop X.here hx rfl hd rfl hc st, r⟩
theorem gdupx1 (w : W Z own nm bytes mx rt n0 p l e R s m args below meth c k n T h) {x y : Value} (hd : decode bytes pc = .ok (.dup_x1, 1)) (hc : x.category = 1) (hc2 : y.category = 1) (hp : pc + 1 = pc') (K : Go n0 p e below s Q CC NN T (mkF m pc' Ls (x :: y :: x :: rest))) : Go n0 p e below s Q CC NN T (mkF m pc Ls (x :: y :: rest)) := by
  obtain ⟨hx, hb, -, -, -, -, -, -, ⟨L, X, -⟩, -⟩ := w
  obtain ⟨s₂, o, st, r⟩ := K
  subst hp hb
  exact ⟨s₂, o, XS.dupX1 X.here hx rfl hd rfl hc hc2 st, r⟩
theorem ggoto (w : W Z own nm bytes mx rt n0 p l e R s m args below meth c k n T h) {o : Int} (hd : decode bytes pc = .ok (.goto o, 3)) (ho : 0 ≤ (pc : Int) + o) (hp : ((pc : Int) + o).toNat = pc') (K : Go n0 p e below s Q CC NN T (mkF m pc' Ls rest)) : Go n0 p e below s Q CC NN T (mkF m pc Ls rest) := by
  obtain ⟨hx, hb, -, -, -, -, -, -, ⟨L, X, -⟩, -⟩ := w
  obtain ⟨s₂, q, st, r⟩ := K
  subst hb
  exact ⟨s₂, q, XS.goto X.here hx rfl rfl hd ho hp st, r⟩
theorem gif (w : W Z own nm bytes mx rt n0 p l e R s m args below meth c k n T h) {cd : ClassFile.Cond} {x : Int32} {o : Int} {pt pf : Nat} (hd : decode bytes pc = .ok (.ifCond cd o, 3)) (ho : 0 ≤ (pc : Int) + o) (ht : ((pc : Int) + o).toNat = pt) (hf : pc + 3 = pf)
    (Kt : cY cd x 0 → Go n0 p e below s Q CC NN T (mkF m pt Ls rest)) (Kf : cN cd x 0 → Go n0 p e below s Q CC NN T (mkF m pf Ls rest)) : Go n0 p e below s Q CC NN T (mkF m pc Ls (.int x :: rest)) := by
  obtain ⟨hx, hb, -, -, -, -, -, -, ⟨L, X, -⟩, -⟩ := w
  subst hb hf
  rcases c_or cd x 0 with ⟨q, q'⟩ | ⟨q, q'⟩
  · obtain ⟨s₂, z, st, r⟩ := Kt q
    exact ⟨s₂, z, XS.ifYes X.here hx rfl rfl hd rfl ((if0 _ _).trans q') ho ht st, r⟩
  · obtain ⟨s₂, z, st, r⟩ := Kf q
    exact ⟨s₂, z, XS.ifNo X.here hx rfl hd rfl ((if0 _ _).trans q') st, r⟩
theorem gicmp (w : W Z own nm bytes mx rt n0 p l e R s m args below meth c k n T h) {cd : ClassFile.Cond} {x y : Int32} {o : Int} {pt pf : Nat} (hd : decode bytes pc = .ok (.if_icmp cd o, 3)) (ho : 0 ≤ (pc : Int) + o) (ht : ((pc : Int) + o).toNat = pt) (hf : pc + 3 = pf)
    (Kt : cY cd x y → Go n0 p e below s Q CC NN T (mkF m pt Ls rest)) (Kf : cN cd x y → Go n0 p e below s Q CC NN T (mkF m pf Ls rest)) : Go n0 p e below s Q CC NN T (mkF m pc Ls (.int y :: .int x :: rest)) := by
  obtain ⟨hx, hb, -, -, -, -, -, -, ⟨L, X, -⟩, -⟩ := w
  subst hb hf
  rcases c_or cd x y with ⟨q, q'⟩ | ⟨q, q'⟩
  · obtain ⟨s₂, z, st, r⟩ := Kt q
    exact ⟨s₂, z, XS.icmpYes X.here hx rfl rfl hd rfl q' ho ht st, r⟩
  · obtain ⟨s₂, z, st, r⟩ := Kf q
    exact ⟨s₂, z, XS.icmpNo X.here hx rfl hd rfl q' st, r⟩
theorem glcmpif (w : W Z own nm bytes mx rt n0 p l e R s m args below meth c k n T h) {cd : ClassFile.Cond} {x y : Int64} {o : Int} {pm pt pf : Nat} (hd0 : decode bytes pc = .ok (.lcmp, 1)) (hm : pc + 1 = pm) (hd : decode bytes pm = .ok (.ifCond cd o, 3)) (ho : 0 ≤ (pm : Int) + o) (ht : ((pm : Int) + o).toNat = pt) (hf : pm + 3 = pf)
    (Kt : lY cd x y → Go n0 p e below s Q CC NN T (mkF m pt Ls rest)) (Kf : lN cd x y → Go n0 p e below s Q CC NN T (mkF m pf Ls rest)) : Go n0 p e below s Q CC NN T (mkF m pc Ls (.long y :: .long x :: rest)) := by
  have K : Go n0 p e below s Q CC NN T (mkF m pm Ls (.int (lcmpW x y) :: rest)) := gif w hd ho ht hf (fun q => Kt (lY_of cd x y q)) (fun q => Kf (lN_of cd x y q))
  obtain ⟨hx, hb, -, -, -, -, -, -, ⟨L, X, -⟩, -⟩ := w
  obtain ⟨s₂, z, st, r⟩ := K
  subst hb hm
  exact ⟨s₂, z, XS.lcmp X.here hx rfl hd0 rfl st, r⟩
theorem gacmp (w : W Z own nm bytes mx rt n0 p l e R s m args below meth c k n T h) {cd : ClassFile.ACond} {x y : Value} {o : Int} {pt pf : Nat} (hd : decode bytes pc = .ok (.if_acmp cd o, 3)) (ho : 0 ≤ (pc : Int) + o) (h1 : x.isRef = true) (h2 : y.isRef = true) (ht : (if acV cd true = true then ((pc : Int) + o).toNat else pc + 3) = pt) (hf : (if acV cd false = true then ((pc : Int) + o).toNat else pc + 3) = pf)
    (Ke : x = y → Go n0 p e below s Q CC NN T (mkF m pt Ls rest)) (Kn : ¬ x = y → Go n0 p e below s Q CC NN T (mkF m pf Ls rest)) : Go n0 p e below s Q CC NN T (mkF m pc Ls (y :: x :: rest)) := by
  obtain ⟨hx, hb, -, -, -, -, -, -, ⟨L, X, -⟩, -⟩ := w
  subst hb
  by_cases q : x = y
  · obtain ⟨s₂, z, st, r⟩ := Ke q
    exact ⟨s₂, z, Jvm.RoadKit.acmp (g := mkF m pc Ls (y :: x :: rest)) X hx rfl h1 h2 (same := true) rfl hd rfl (decide_eq_true q) ho ht.symm st, r⟩
  · obtain ⟨s₂, z, st, r⟩ := Kn q
    exact ⟨s₂, z, Jvm.RoadKit.acmp (g := mkF m pc Ls (y :: x :: rest)) X hx rfl h1 h2 (same := false) rfl hd rfl (decide_eq_false q) ho hf.symm st, r⟩
theorem gifnullY (w : W Z own nm bytes mx rt n0 p l e R s m args below meth c k n T h) {o : Int} (hd : decode bytes pc = .ok (.ifnull o, 3)) (ho : 0 ≤ (pc : Int) + o) (hp : ((pc : Int) + o).toNat = pc') (K : Go n0 p e below s Q CC NN T (mkF m pc' Ls rest)) : Go n0 p e below s Q CC NN T (mkF m pc Ls (.null :: rest)) := by
  obtain ⟨hx, hb, -, -, -, -, -, -, ⟨L, X, -⟩, -⟩ := w
  obtain ⟨s₂, q, st, r⟩ := K
  subst hb
  exact ⟨s₂, q, XS.ifnullYes X.here hx rfl rfl hd rfl ho hp st, r⟩
theorem gifnullN (w : W Z own nm bytes mx rt n0 p l e R s m args below meth c k n T h) {o : Int} {b : Addr} (hd : decode bytes pc = .ok (.ifnull o, 3)) (hp : pc + 3 = pc') (K : Go n0 p e below s Q CC NN T (mkF m pc' Ls rest)) : Go n0 p e below s Q CC NN T (mkF m pc Ls (.ref b :: rest)) := by
  obtain ⟨hx, hb, -, -, -, -, -, -, ⟨L, X, -⟩, -⟩ := w
  obtain ⟨s₂, q, st, r⟩ := K
  subst hb hp
  exact ⟨s₂, q, XS.ifnullNo X.here hx rfl hd rfl st, r⟩
theorem gifnonnullY (w : W Z own nm bytes mx rt n0 p l e R s m args below meth c k n T h) {o : Int} {b : Addr} (hd : decode bytes pc = .ok (.ifnonnull o, 3)) (ho : 0 ≤ (pc : Int) + o) (hp : ((pc : Int) + o).toNat = pc') (K : Go n0 p e below s Q CC NN T (mkF m pc' Ls rest)) : Go n0 p e below s Q CC NN T (mkF m pc Ls (.ref b :: rest)) := by
  obtain ⟨hx, hb, -, -, -, -, -, -, ⟨L, X, -⟩, -⟩ := w
  obtain ⟨s₂, q, st, r⟩ := K
  subst hb
  exact ⟨s₂, q, XS.ifnonnullYes X.here hx rfl rfl hd rfl ho hp st, r⟩
theorem gifnonnullN (w : W Z own nm bytes mx rt n0 p l e R s m args below meth c k n T h) {o : Int} (hd : decode bytes pc = .ok (.ifnonnull o, 3)) (hp : pc + 3 = pc') (K : Go n0 p e below s Q CC NN T (mkF m pc' Ls rest)) : Go n0 p e below s Q CC NN T (mkF m pc Ls (.null :: rest)) := by
  obtain ⟨hx, hb, -, -, -, -, -, -, ⟨L, X, -⟩, -⟩ := w
  obtain ⟨s₂, q, st, r⟩ := K
  subst hb hp
  exact ⟨s₂, q, XS.ifnonnullNo X.here hx rfl hd rfl st, r⟩
theorem gldc2 (w : W Z own nm bytes mx rt n0 p l e R s m args below meth c k n T h) {index : Nat} {v : Int64} (hd : decode bytes pc = .ok (.ldc2_w index, 3)) (w1 : (Jvm.Cond.constantLong own index v).before a0 Z = true) (hp : pc + 3 = pc') (K : Go n0 p e below s Q CC NN T (mkF m pc' Ls (.long v :: rest))) : Go n0 p e below s Q CC NN T (mkF m pc Ls rest) := by
  obtain ⟨hx, hb, hown, hZ, -, -, -, -, ⟨L, X, -⟩, -⟩ := w
  obtain ⟨s₂, q, st, r⟩ := K
  subst hb hp
  exact ⟨s₂, q, X.ldc2Long hx hown (mvT hZ w1) (g := mkF m pc Ls rest) rfl hd _ st, r⟩
theorem gldcI (w : W Z own nm bytes mx rt n0 p l e R s m args below meth c k n T h) {index : Nat} {v : Int32} (hd : decode bytes pc = .ok (.ldc index, 2)) (w1 : (Jvm.Cond.constant own index v).before a0 Z = true) (hp : pc + 2 = pc') (K : Go n0 p e below s Q CC NN T (mkF m pc' Ls (.int v :: rest))) : Go n0 p e below s Q CC NN T (mkF m pc Ls rest) := by
  obtain ⟨hx, hb, hown, hZ, -, -, -, -, ⟨L, X, -⟩, -⟩ := w
  obtain ⟨s₂, q, st, r⟩ := K
  subst hb hp
  exact ⟨s₂, q, X.ldcInt hx hown (mvT hZ w1) (g := mkF m pc Ls rest) rfl hd _ st, r⟩

theorem ggetF (w : W Z own nm bytes mx rt n0 p l e R s m args below meth c k n T h) {index : Nat} {O n' d : String} {a : Addr} {v : Value} (hd : decode bytes pc = .ok (.getfield index, 3)) (w1 : (Jvm.Cond.fieldLink own index O n' d).before a0 Z = true) (F : Fld Z h a O n' d v) (hp : pc + 3 = pc')
    (K : ∀ T', W Z own nm bytes mx rt n0 p l e R s m args below meth c k n T' h → Go n0 p e below s Q CC NN T' (mkF m pc' Ls (v :: rest))) : Go n0 p e below s Q CC NN T (mkF m pc Ls (.ref a :: rest)) := by
  obtain ⟨hx, hb, hown, hZ, r1, r2, r3, r4, ⟨L, X, N⟩, eT⟩ := w
  obtain ⟨T', X', e', st⟩ := getF X hx hZ hown (host := "") (Or.inl w1) Via.refl eT F (g := mkF m pc Ls (.ref a :: rest)) rfl rfl (by rw [hb]; exact hd)
  obtain ⟨s₂, q, st', r⟩ := K T' ⟨hx, hb, hown, hZ, r1, r2, r3, r4, ⟨L, X', N⟩, e'⟩
  subst hp
  exact ⟨s₂, q, st _ st', r⟩
theorem ggetS (w : W Z own nm bytes mx rt n0 p l e R s m args below meth c k n T h) {index : Nat} {O n' d : String} {v : Value} (hd : decode bytes pc = .ok (.getstatic index, 3)) (w1 : (Jvm.Cond.fieldLink own index O n' d).before a0 Z = true) (F : Sta Z h O n' d v) (hp : pc + 3 = pc')
    (K : ∀ T', W Z own nm bytes mx rt n0 p l e R s m args below meth c k n T' h → Go n0 p e below s Q CC NN T' (mkF m pc' Ls (v :: rest))) : Go n0 p e below s Q CC NN T (mkF m pc Ls rest) := by
  obtain ⟨hx, hb, hown, hZ, r1, r2, r3, r4, ⟨L, X, N⟩, eT⟩ := w
  obtain ⟨T', X', e', st⟩ := getS (host := "") X hx hZ hown w1 Via.refl eT F (g := mkF m pc Ls rest) rfl (by rw [hb]; exact hd)
  obtain ⟨s₂, q, st', r⟩ := K T' ⟨hx, hb, hown, hZ, r1, r2, r3, r4, ⟨L, X', N⟩, e'⟩
  subst hp
  exact ⟨s₂, q, st _ st', r⟩
theorem ggetSN (w : W Z own nm bytes mx rt n0 p l e R s m args below meth c k n T h) {index : Nat} {O n' d host : String} {v : Value} (hd : decode bytes pc = .ok (.getstatic index, 3)) (w1 : (Jvm.Cond.fieldLinkNest own index O n' d host).before a0 Z = true) (F : Sta Z h O n' d v) (hp : pc + 3 = pc')
    (K : ∀ T', W Z own nm bytes mx rt n0 p l e R s m args below meth c k n T' h → Go n0 p e below s Q CC NN T' (mkF m pc' Ls (v :: rest))) : Go n0 p e below s Q CC NN T (mkF m pc Ls rest) := by
  obtain ⟨hx, hb, hown, hZ, r1, r2, r3, r4, ⟨L, X, N⟩, eT⟩ := w
  obtain ⟨T', X', e', st⟩ := getS2 X hx hZ hown (Or.inr w1) Via.refl eT F (g := mkF m pc Ls rest) rfl (by rw [hb]; exact hd)
  obtain ⟨s₂, q, st', r⟩ := K T' ⟨hx, hb, hown, hZ, r1, r2, r3, r4, ⟨L, X', N⟩, e'⟩
  subst hp
  exact ⟨s₂, q, st _ st', r⟩
/-- putfield: what is written may be narrowed (v to v') -/
theorem gputF (w : W Z own nm bytes mx rt n0 p l e R s m args below meth c k n T h) {index kk : Nat} {O n' d C : String} {ty : FieldType} {a : Addr} {v v' old : Value} (hd : decode bytes pc = .ok (.putfield index, 3)) (w1 : (Jvm.Cond.fieldLink own index O n' d).before a0 Z = true) (F : Fld Z h a O n' d old) (E : Exa Z h a C)
    (LL : (Jvm.Cond.lays C O n' d).before a0 Z = true ∨ ((Jvm.Cond.laysFinal C O n' d).before a0 Z = true ∧ own = O ∧ nm = "<init>")) (wi : (Jvm.Cond.instantiable C kk).before a0 Z = true) (hty : parseFieldDescriptor d = some ty) (hn : narrow ty v = v') (hf : fits ty v' = true) (hna : n0 ≤ a) (hp : pc + 3 = pc')
    (K : ∀ T' h', W Z own nm bytes mx rt n0 p l e R s m args below meth c k n T' h' → Wr h h' a (Jvm.RoadKit.slotOf Z O n' d) v' → Go n0 p e below s Q CC NN T' (mkF m pc' Ls rest)) : Go n0 p e below s Q CC NN T (mkF m pc Ls (v :: .ref a :: rest)) := by
  obtain ⟨hx, hb, hown, hZ, r1, r2, r3, r4, ⟨L, X, N⟩, eT⟩ := w
  obtain ⟨T', h', X', e', Wx, st⟩ := putFN X hx hZ hown w1 Via.refl eT F E (LL.imp id fun q => ⟨q.1, q.2.1, r2.trans q.2.2⟩) wi hty hn hf (g := mkF m pc Ls (v :: .ref a :: rest)) rfl rfl (by rw [hb]; exact hd)
  obtain ⟨s₂, q, st', r⟩ := K T' h' ⟨hx, hb, hown, hZ, r1, r2, r3, r4, ⟨_, X', Fr.snoc X' N hna⟩, e'⟩ Wx
  subst hp
  exact ⟨s₂, q, st _ st', r⟩
theorem gnewO (w : W Z own nm bytes mx rt n0 p l e R s m args below meth c k n T h) {index j : Nat} {C : String} (hd : decode bytes pc = .ok (.new index, 3)) (w1 : (Jvm.Cond.classLink own index C).before a0 Z = true) (wi : (Jvm.Cond.instantiable C j).before a0 Z = true) (wz : (Jvm.Cond.initialized C).before a0 Z = true) (hc : k + 1 ≤ R.cells) (hl : n + j ≤ R.slots) (hp : pc + 3 = pc')
    (K : ∀ T' h' a, h.size = a → W Z own nm bytes mx rt n0 p l e R s m args below meth c (k + 1) (n + j) T' h' → Ext h h' → Exa Z h' a C → (∀ {O f d : String} {ty : FieldType}, Laid Z a0 C O f d → parseFieldDescriptor d = some ty → Fld Z h' a O f d (defaultValue ty)) → Go n0 p e below s Q CC NN T' (mkF m pc' Ls (.ref a :: rest))) : Go n0 p e below s Q CC NN T (mkF m pc Ls rest) := by
  obtain ⟨hx, hb, hown, hZ, r1, r2, r3, r4, ⟨L, X, N⟩, eT⟩ := w
  obtain ⟨T', h', X', e', E, A, D, -, st⟩ := newO X hx hZ hown w1 wi wz eT (g := mkF m pc Ls rest) rfl (by rw [hb]; exact hd) hc hl
  obtain ⟨s₂, q, st', r⟩ := K T' h' _ rfl ⟨hx, hb, hown, hZ, r1, r2, r3, r4, ⟨_, X', N⟩, e'⟩ E A D
  subst hp
  exact ⟨s₂, q, st _ st', r⟩
theorem gnewP (w : W Z own nm bytes mx rt n0 p l e R s m args below meth c k n T h) {aty : ArrayType} {z : Int32} {cap : Nat} {ty : FieldType} (hd : decode bytes pc = .ok (.newarray aty, 2)) (hty : newarray.typeOf aty = ty) (w1 : (Jvm.Cond.arrayClass ty).before a0 Z = true) (hn : ¬ z < 0) (hcap : z.toNatClampNeg ≤ cap) (hb8 : cap * 8 ≤ 536870912) (hc : k + 1 ≤ R.cells) (hl : n + cap ≤ R.slots) (hp : pc + 2 = pc')
    (K : ∀ T' h' a kA, h.size = a → W Z own nm bytes mx rt n0 p l e R s m args below meth c (k + 1) (n + cap) T' h' → Ext h h' → Arv Z h' a kA ty z [] (defaultValue ty) → Go n0 p e below s Q CC NN T' (mkF m pc' Ls (.ref a :: rest))) : Go n0 p e below s Q CC NN T (mkF m pc Ls (.int z :: rest)) := by
  obtain ⟨hx, hb, hown, hZ, r1, r2, r3, r4, ⟨L, X, N⟩, eT⟩ := w
  subst hty
  obtain ⟨T', h', cA, X', e', E, A, st⟩ := newP X hx hZ w1 eT (g := mkF m pc Ls (.int z :: rest)) rfl (by rw [hb]; exact hd) rfl hn hcap hb8 hc hl
  obtain ⟨s₂, q, st', r⟩ := K T' h' _ cA rfl ⟨hx, hb, hown, hZ, r1, r2, r3, r4, ⟨_, X', N⟩, e'⟩ E (Arv.new A hn)
  subst hp
  exact ⟨s₂, q, st _ st', r⟩
theorem ginitO (w : W Z own nm bytes mx rt n0 p l e R s m args below meth c k n T h) {index : Nat} {a : Addr} {Wt : Nat} (hd : decode bytes pc = .ok (.invokespecial index, 3)) (w1 : (Jvm.Cond.methodLink own index Lib.objectInit).before a0 Z = true) (w2 : (Jvm.Cond.instanceMethod Lib.objectInit).before a0 Z = true) (w3 : (Jvm.Cond.code Lib.objectInit ⟨#[0xb1]⟩ 1 none).before a0 Z = true)
    (hsz : Ls.size = mx) (hf : 1 ≤ R.frames) (hW : (rest.map fun v => v.category).sum ≤ Wt) (hl : Wt + 12 ≤ R.locals) (hp : pc + 3 = pc')
    (K : ∀ T', W Z own nm bytes mx rt n0 p l e R s m args below meth c k n T' h → Go n0 p e below s Q CC NN T' (mkF m pc' Ls rest)) : Go n0 p e below s Q CC NN T (mkF m pc Ls (.ref a :: rest)) := by
  obtain ⟨hx, hb, hown, hZ, r1, r2, r3, r4, ⟨L, X, N⟩, eT⟩ := w
  obtain ⟨T', X', e', st⟩ := initO X hx hZ hown w1 w2 w3 eT (g := mkF m pc Ls (.ref a :: rest)) rfl (hsz.trans r1.symm) rfl (by rw [hb]; exact hd) hf (W := Wt) (by show 2 * 0 + _ ≤ _; omega) hl
  obtain ⟨s₂, q, st', r⟩ := K T' ⟨hx, hb, hown, hZ, r1, r2, r3, r4, ⟨L, X', N⟩, e'⟩
  subst hp
  exact ⟨s₂, q, st _ st', r⟩
theorem glen (w : W Z own nm bytes mx rt n0 p l e R s m args below meth c k n T h) {a : Addr} {kA : ClassId} {ty : FieldType} {z : Int32} {vs : List Value} {dv : Value} (hd : decode bytes pc = .ok (.arraylength, 1)) (V : Arv Z h a kA ty z vs dv) (hp : pc + 1 = pc') (K : Go n0 p e below s Q CC NN T (mkF m pc' Ls (.int z :: rest))) : Go n0 p e below s Q CC NN T (mkF m pc Ls (.ref a :: rest)) := by
  obtain ⟨hx, hb, hown, hZ, r1, r2, r3, r4, ⟨L, X, N⟩, eT⟩ := w
  obtain ⟨cl, A, -, S, N1, -, -⟩ := V
  obtain ⟨s₂, q, st', r⟩ := K
  subst hp
  refine ⟨s₂, q, X.arraylength hx (by rw [eT]; exact A.1) (State.isArrayOf_alike hZ.alike A.2.1) (g := mkF m pc Ls (.ref a :: rest)) rfl rfl (by rw [hb]; exact hd) _ ?_, r⟩
  rw [len_of S N1]
  exact st'

theorem gbaload (w : W Z own nm bytes mx rt n0 p l e R s m args below meth c k n T h) {a : Addr} {kA : ClassId} {z j : Int32} {vs : List Value} {dv v : Value} (hd : decode bytes pc = .ok (.baload, 1)) (V : Arv Z h a kA .byte z vs dv) (hj : ¬ j < 0 ∧ j < z) (hv : vs.getD j.toNatClampNeg dv = v) (hp : pc + 1 = pc') (K : Go n0 p e below s Q CC NN T (mkF m pc' Ls (v :: rest))) : Go n0 p e below s Q CC NN T (mkF m pc Ls (.int j :: .ref a :: rest)) := by
  obtain ⟨hx, hb, hown, hZ, r1, r2, r3, r4, ⟨L, X, N⟩, eT⟩ := w
  obtain ⟨cl, A, -, S, -, H, -⟩ := V
  obtain ⟨s₂, q, st', r⟩ := K
  subst hp
  exact ⟨s₂, q, X.baloadBytes hx (j := j) (v := v) (by rw [eT]; exact A.1) (State.isArrayOf_alike hZ.alike A.2.1) A.2.2 (inb_of S hj) (H.at (inb_of S hj) hv) (g := mkF m pc Ls (.int j :: .ref a :: rest)) rfl rfl (by rw [hb]; exact hd) _ st', r⟩

theorem giaload (w : W Z own nm bytes mx rt n0 p l e R s m args below meth c k n T h) {a : Addr} {kA : ClassId} {z j : Int32} {vs : List Value} {dv v : Value} (hd : decode bytes pc = .ok (.iaload, 1)) (V : Arv Z h a kA .int z vs dv) (hj : ¬ j < 0 ∧ j < z) (hv : vs.getD j.toNatClampNeg dv = v) (hp : pc + 1 = pc') (K : Go n0 p e below s Q CC NN T (mkF m pc' Ls (v :: rest))) : Go n0 p e below s Q CC NN T (mkF m pc Ls (.int j :: .ref a :: rest)) := by
  obtain ⟨hx, hb, hown, hZ, r1, r2, r3, r4, ⟨L, X, N⟩, eT⟩ := w
  obtain ⟨cl, A, -, S, -, H, -⟩ := V
  obtain ⟨s₂, q, st', r⟩ := K
  subst hp
  exact ⟨s₂, q, X.iaload hx (j := j) (v := v) (by rw [eT]; exact A.1) (State.isArrayOf_alike hZ.alike A.2.1) A.2.2 (inb_of S hj) (H.at (inb_of S hj) hv) (g := mkF m pc Ls (.int j :: .ref a :: rest)) rfl rfl (by rw [hb]; exact hd) _ st', r⟩

theorem gbastore (w : W Z own nm bytes mx rt n0 p l e R s m args below meth c k n T h) {a : Addr} {kA : ClassId} {z j x x' : Int32} {vs : List Value} {dv : Value} (hd : decode bytes pc = .ok (.bastore, 1)) (hxv : x.toInt8.toInt32 = x') (V : Arv Z h a kA .byte z vs dv) (hj : ¬ j < 0 ∧ j < z) (i : Nat) (hi : j.toNatClampNeg = i) (hlt : i < vs.length) (hna : n0 ≤ a) (hp : pc + 1 = pc')
    (K : ∀ T' h', W Z own nm bytes mx rt n0 p l e R s m args below meth c k n T' h' → Wr h h' a i (.int x') → Arv Z h' a kA .byte z (vs.set i (.int x')) dv → Go n0 p e below s Q CC NN T' (mkF m pc' Ls rest)) : Go n0 p e below s Q CC NN T (mkF m pc Ls (.int x :: .int j :: .ref a :: rest)) := by
  obtain ⟨hx, hb, hown, hZ, r1, r2, r3, r4, ⟨L, X, N⟩, eT⟩ := w
  obtain ⟨cl, A, q1, S, N1, H, Gf⟩ := V
  subst hxv
  obtain ⟨T', h', X', e', Wx, st⟩ := stB X hx hZ eT A (j := j) (x := x) (inb_of S hj) (g := mkF m pc Ls (.int x :: .int j :: .ref a :: rest)) rfl rfl (by rw [hb]; exact hd)
  obtain ⟨s₂, q, st', r⟩ := K T' h' ⟨hx, hb, hown, hZ, r1, r2, r3, r4, ⟨_, X', Fr.snoc X' N hna⟩, e'⟩ (hi ▸ Wx) (Arv.set A q1 S N1 H Gf (fits_nar_byte _) Wx i hi hlt)
  subst hp
  exact ⟨s₂, q, st _ st', r⟩

theorem giastore (w : W Z own nm bytes mx rt n0 p l e R s m args below meth c k n T h) {a : Addr} {kA : ClassId} {z j x x' : Int32} {vs : List Value} {dv : Value} (hd : decode bytes pc = .ok (.iastore, 1)) (hxv : x = x') (V : Arv Z h a kA .int z vs dv) (hj : ¬ j < 0 ∧ j < z) (i : Nat) (hi : j.toNatClampNeg = i) (hlt : i < vs.length) (hna : n0 ≤ a) (hp : pc + 1 = pc')
    (K : ∀ T' h', W Z own nm bytes mx rt n0 p l e R s m args below meth c k n T' h' → Wr h h' a i (.int x') → Arv Z h' a kA .int z (vs.set i (.int x')) dv → Go n0 p e below s Q CC NN T' (mkF m pc' Ls rest)) : Go n0 p e below s Q CC NN T (mkF m pc Ls (.int x :: .int j :: .ref a :: rest)) := by
  obtain ⟨hx, hb, hown, hZ, r1, r2, r3, r4, ⟨L, X, N⟩, eT⟩ := w
  obtain ⟨cl, A, q1, S, N1, H, Gf⟩ := V
  subst hxv
  obtain ⟨T', h', X', e', Wx, st⟩ := stI X hx hZ eT A (j := j) (x := x) (inb_of S hj) (g := mkF m pc Ls (.int x :: .int j :: .ref a :: rest)) rfl rfl (by rw [hb]; exact hd)
  obtain ⟨s₂, q, st', r⟩ := K T' h' ⟨hx, hb, hown, hZ, r1, r2, r3, r4, ⟨_, X', Fr.snoc X' N hna⟩, e'⟩ (hi ▸ Wx) (Arv.set A q1 S N1 H Gf rfl Wx i hi hlt)
  subst hp
  exact ⟨s₂, q, st _ st', r⟩

theorem gret0 (w : W Z own nm bytes mx none n0 p l e R s m args below meth c k n T h) (hd : decode bytes pc = .ok (.return_, 1)) (hk : k ≤ CC) (hn : n ≤ NN) (hQ : Q none h) : Go n0 p e below s Q CC NN T (mkF m pc Ls []) := by
  obtain ⟨hx, hb, hown, hZ, r1, r2, r3, r4, ⟨L, X, N⟩, eT⟩ := w
  obtain ⟨fs, hr, hrun, hended, hW, hsame⟩ := X.leave (v := none) (fun _ => rfl) r4
  refine ⟨_, _, X.returnOut hx r3 (by rw [hb]; exact hd) hr, hrun, hended, _, _, rfl, ⟨N, ?_⟩, ⟨_, rfl⟩, hW, hsame.mono hk hn⟩
  show Q none T.heap
  rw [eT]; exact hQ
theorem gret {t : FieldType} (w : W Z own nm bytes mx (some t) n0 p l e R s m args below meth c k n T h) {v : Value} {i : Instr} (hd : decode bytes pc = .ok (i, 1)) (hn' : narrow t v = v)
    (hi : (i = .ireturn ∧ (t = .int ∨ t = .boolean ∨ t = .byte ∨ t = .char ∨ t = .short) ∧ ∃ z, v = .int z) ∨ (i = .lreturn ∧ t = .long ∧ ∃ z, v = .long z) ∨ (i = .dreturn ∧ t = .double ∧ ∃ z, v = .double z) ∨ (i = .freturn ∧ t = .float ∧ ∃ z, v = .float z) ∨ (i = .areturn ∧ t.isReference = true ∧ v.isRef = true))
    (hk : k ≤ CC) (hn : n ≤ NN) (hQ : Q (some v) h) : Go n0 p e below s Q CC NN T (mkF m pc Ls (v :: rest)) := by
  obtain ⟨hx, hb, hown, hZ, r1, r2, r3, r4, ⟨L, X, N⟩, eT⟩ := w
  obtain ⟨fs, hr, hrun, hended, hW, hsame⟩ := X.leave (v := some v) (fun q => by rw [r3] at q; cases q) r4
  refine ⟨_, _, retOut X hx r3 hn' hi (by rw [hb]; exact hd) hr, hrun, hended, _, _, rfl, ⟨N, ?_⟩, ⟨_, rfl⟩, hW, hsame.mono hk hn⟩
  show Q (some v) T.heap
  rw [eT]; exact hQ
theorem gretI (w : W Z own nm bytes mx (some .int) n0 p l e R s m args below meth c k n T h) {v : Int32} (hd : decode bytes pc = .ok (.ireturn, 1)) (hk : k ≤ CC) (hn : n ≤ NN) (hQ : Q (some (.int v)) h) : Go n0 p e below s Q CC NN T (mkF m pc Ls (.int v :: rest)) :=
  gret w hd rfl (Or.inl ⟨rfl, Or.inl rfl, _, rfl⟩) hk hn hQ
theorem gretJ (w : W Z own nm bytes mx (some .long) n0 p l e R s m args below meth c k n T h) {v : Int64} (hd : decode bytes pc = .ok (.lreturn, 1)) (hk : k ≤ CC) (hn : n ≤ NN) (hQ : Q (some (.long v)) h) : Go n0 p e below s Q CC NN T (mkF m pc Ls (.long v :: rest)) :=
  gret w hd rfl (Or.inr (Or.inl ⟨rfl, rfl, _, rfl⟩)) hk hn hQ
theorem gretZ (w : W Z own nm bytes mx (some .boolean) n0 p l e R s m args below meth c k n T h) {v : Int32} (hd : decode bytes pc = .ok (.ireturn, 1)) (hv : narrow .boolean (.int v) = .int v) (hk : k ≤ CC) (hn : n ≤ NN) (hQ : Q (some (.int v)) h) : Go n0 p e below s Q CC NN T (mkF m pc Ls (.int v :: rest)) :=
  gret w hd hv (Or.inl ⟨rfl, Or.inr (Or.inl rfl), _, rfl⟩) hk hn hQ
theorem gretB (w : W Z own nm bytes mx (some .byte) n0 p l e R s m args below meth c k n T h) {v : Int32} (hd : decode bytes pc = .ok (.ireturn, 1)) (hv : narrow .byte (.int v) = .int v) (hk : k ≤ CC) (hn : n ≤ NN) (hQ : Q (some (.int v)) h) : Go n0 p e below s Q CC NN T (mkF m pc Ls (.int v :: rest)) :=
  gret w hd hv (Or.inl ⟨rfl, Or.inr (Or.inr (Or.inl rfl)), _, rfl⟩) hk hn hQ
theorem gretA {t : FieldType} (w : W Z own nm bytes mx (some t) n0 p l e R s m args below meth c k n T h) {v : Value} (hd : decode bytes pc = .ok (.areturn, 1)) (ht : t.isReference = true) (hv : v.isRef = true) (hn' : narrow t v = v) (hk : k ≤ CC) (hn : n ≤ NN) (hQ : Q (some v) h) : Go n0 p e below s Q CC NN T (mkF m pc Ls (v :: rest)) :=
  gret w hd hn' (Or.inr (Or.inr (Or.inr (Or.inr ⟨rfl, ht, hv⟩)))) hk hn hQ

theorem gcast (w : W Z own nm bytes mx rt n0 p l e R s m args below meth c k n T h) {index : Nat} {Kc : String} {a : Addr} (hd : decode bytes pc = .ok (.checkcast index, 3)) (w1 : (Jvm.Cond.classLink own index Kc).before a0 Z = true) (F : Ins Z h a Kc true) (hp : pc + 3 = pc')
    (K : ∀ T', W Z own nm bytes mx rt n0 p l e R s m args below meth c k n T' h → Go n0 p e below s Q CC NN T' (mkF m pc' Ls (.ref a :: rest))) : Go n0 p e below s Q CC NN T (mkF m pc Ls (.ref a :: rest)) := by
  obtain ⟨hx, hb, hown, hZ, r1, r2, r3, r4, ⟨L, X, N⟩, eT⟩ := w
  obtain ⟨T', X', e', st⟩ := castY X hx hZ hown w1 eT F (g := mkF m pc Ls (.ref a :: rest)) rfl rfl (by rw [hb]; exact hd)
  obtain ⟨s₂, q, st', r⟩ := K T' ⟨hx, hb, hown, hZ, r1, r2, r3, r4, ⟨L, X', N⟩, e'⟩
  subst hp
  exact ⟨s₂, q, st _ st', r⟩
theorem ginstY (w : W Z own nm bytes mx rt n0 p l e R s m args below meth c k n T h) {index : Nat} {Kc : String} {a : Addr} (hd : decode bytes pc = .ok (.instanceof index, 3)) (w1 : (Jvm.Cond.classLink own index Kc).before a0 Z = true) (F : Ins Z h a Kc true) (hp : pc + 3 = pc')
    (K : ∀ T', W Z own nm bytes mx rt n0 p l e R s m args below meth c k n T' h → Go n0 p e below s Q CC NN T' (mkF m pc' Ls (.int 1 :: rest))) : Go n0 p e below s Q CC NN T (mkF m pc Ls (.ref a :: rest)) := by
  obtain ⟨hx, hb, hown, hZ, r1, r2, r3, r4, ⟨L, X, N⟩, eT⟩ := w
  obtain ⟨T', X', e', st⟩ := instY X hx hZ hown w1 eT F (g := mkF m pc Ls (.ref a :: rest)) rfl rfl (by rw [hb]; exact hd)
  obtain ⟨s₂, q, st', r⟩ := K T' ⟨hx, hb, hown, hZ, r1, r2, r3, r4, ⟨L, X', N⟩, e'⟩
  subst hp
  exact ⟨s₂, q, st _ st', r⟩

theorem gcallS (w : W Z own nm bytes mx rt n0 p l e R s m args below meth c k n T h) {index : Nat} {y : MethodName} {yb : ByteArray} {ymx : Nat} {yr : Option FieldType} {rm : Room} {as : Array Value} {Q' : Option Value → Heap → Prop} {argsL : List Value} {stk : List Value} {ps : List FieldType} {ro : Option FieldType} {Wt : Nat} (hd : decode bytes pc = .ok (.invokestatic index, 3)) (w1 : (Jvm.Cond.methodLink own index y).before a0 Z = true) (w2 : (Jvm.Cond.static y).before a0 Z = true) (w3 : (Jvm.Cond.initialized y.cls).before a0 Z = true) (w4 : (Jvm.Cond.code y yb ymx yr).before a0 Z = true)
    (hy : y.cls ≠ "java/lang/invoke/MethodHandle" ∧ y.cls ≠ "java/lang/invoke/VarHandle") (hpd : parseMethodDescriptor y.desc = some ⟨ps, ro⟩) (ctr : Ctr l y yb ymx yr rm Z as h n0 Q' []) (has : argsL.toArray = as) (hlen : argsL.length = ps.length) (hst : stk = argsL.reverse ++ rest) (hsz : Ls.size = mx) (hW : (rest.map fun v => v.category).sum ≤ Wt) (hf : rm.frames + 1 ≤ R.frames) (hl : Wt + (ymx + 11) + rm.locals ≤ R.locals) (hc : k + rm.cells ≤ R.cells) (hs : n + rm.slots ≤ R.slots) (hp : pc + 3 = pc')
    (K : ∀ v T' h', W Z own nm bytes mx rt n0 p l e R s m args below meth c (k + rm.cells) (n + rm.slots) T' h' → Q' v h' → Go n0 p e below s Q CC NN T' (mkF m pc' Ls (v.toList ++ rest))) : Go n0 p e below s Q CC NN T (mkF m pc Ls stk) := by
  obtain ⟨hx, hb, hown, hZ, r1, r2, r3, r4, ⟨L, X, N⟩, eT⟩ := w
  obtain ⟨v, _, ⟨T', L', k', n'⟩, -, X', ⟨Lc, hQ, hl1, hc1, hs1⟩, st⟩ := Jvm.LawKit.callS X hx (y := y) hown (mvT hZ w1) (mvT hZ w2) (mvT hZ w3) (mvT hZ w4) hy (backOf (W := Wt) (Q := fun v h L => Fr n0 L ∧ Q' v h) ctr hZ w4 w3 hf hl) (g := mkF m pc Ls stk) rfl (hsz.trans r1.symm) (argsL := argsL) (rest := rest) (lenOf hpd hlen) hst (by show 2 * 0 + _ ≤ _; omega) (by rw [hb]; exact hd) (fun _ _ => ⟨has, eT, hc, hs⟩)
  dsimp only [Pt.U, Pt.locs, Pt.cells, Pt.slots] at X' st hQ hl1 hc1 hs1
  subst hl1 hc1 hs1
  obtain ⟨s₂, q, st', r⟩ := K v T' T'.heap ⟨hx, hb, hown, hZ, r1, r2, r3, r4, ⟨_, X', Fr.app N hQ.1⟩, rfl⟩ hQ.2
  subst hp
  exact ⟨s₂, q, st _ st', r⟩
theorem gcallN (w : W Z own nm bytes mx rt n0 p l e R s m args below meth c k n T h) {index : Nat} {y : MethodName} {yb : ByteArray} {ymx : Nat} {rm : Room} {as : Array Value} {Q' : Option Value → Heap → Prop} {argsL : List Value} {stk : List Value} {ps : List FieldType} {ro : Option FieldType} {Wt : Nat} {a : Addr} (hd : decode bytes pc = .ok (.invokespecial index, 3)) (w1 : (Jvm.Cond.methodLink own index y).before a0 Z = true) (w2 : (Jvm.Cond.instanceMethod y).before a0 Z = true) (w3 : (Jvm.Cond.initialized y.cls).before a0 Z = true) (w4 : (Jvm.Cond.code y yb ymx none).before a0 Z = true) (hyn : y.name = "<init>")
    (hy : y.cls ≠ "java/lang/invoke/MethodHandle" ∧ y.cls ≠ "java/lang/invoke/VarHandle") (hpd : parseMethodDescriptor y.desc = some ⟨ps, ro⟩) (ctr : Ctr l y yb ymx none rm Z as h n0 Q' []) (has : (.ref a :: argsL).toArray = as) (hlen : argsL.length = ps.length) (hst : stk = argsL.reverse ++ .ref a :: rest) (hsz : Ls.size = mx) (hW : (rest.map fun v => v.category).sum ≤ Wt) (hf : rm.frames + 1 ≤ R.frames) (hl : Wt + (ymx + 11) + rm.locals ≤ R.locals) (hc : k + rm.cells ≤ R.cells) (hs : n + rm.slots ≤ R.slots) (hp : pc + 3 = pc')
    (K : ∀ v T' h', W Z own nm bytes mx rt n0 p l e R s m args below meth c (k + rm.cells) (n + rm.slots) T' h' → Q' v h' → Go n0 p e below s Q CC NN T' (mkF m pc' Ls (v.toList ++ rest))) : Go n0 p e below s Q CC NN T (mkF m pc Ls stk) := by
  obtain ⟨hx, hb, hown, hZ, r1, r2, r3, r4, ⟨L, X, N⟩, eT⟩ := w
  obtain ⟨v, _, ⟨T', L', k', n'⟩, -, X', ⟨Lc, hQ, hl1, hc1, hs1⟩, st⟩ := X.specialBack hx (y := y) hyn hown (mvT hZ w1) (mvT hZ w2) (mvT hZ w4) hy (backOf (W := Wt) (Q := fun v h L => Fr n0 L ∧ Q' v h) ctr hZ w4 w3 hf hl) (g := mkF m pc Ls stk) rfl (hsz.trans r1.symm) (Steps.refl _) (a := a) (argsL := argsL) (rest := rest) (lenOf hpd hlen) hst (by show 2 * 0 + _ ≤ _; omega) (by rw [hb]; exact hd) (fun _ _ => ⟨has, eT, hc, hs⟩)
  dsimp only [Pt.U, Pt.locs, Pt.cells, Pt.slots] at X' st hQ hl1 hc1 hs1
  subst hl1 hc1 hs1
  obtain ⟨s₂, q, st', r⟩ := K v T' T'.heap ⟨hx, hb, hown, hZ, r1, r2, r3, r4, ⟨_, X', Fr.app N hQ.1⟩, rfl⟩ hQ.2
  subst hp
  exact ⟨s₂, q, st.trans st', r⟩
theorem gcallV (w : W Z own nm bytes mx rt n0 p l e R s m args below meth c k n T h) {index : Nat} {y : MethodName} {yb : ByteArray} {ymx : Nat} {yr : Option FieldType} {rm : Room} {as : Array Value} {Q' : Option Value → Heap → Prop} {argsL : List Value} {stk : List Value} {ps : List FieldType} {ro : Option FieldType} {Wt : Nat} {a : Addr} {C : String} (hd : decode bytes pc = .ok (.invokevirtual index, 3)) (w1 : (Jvm.Cond.methodLink own index y).before a0 Z = true) (w2 : (Jvm.Cond.declares y).before a0 Z = true) (w5 : (Jvm.Cond.selects C y y).before a0 Z = true) (w6 : (Jvm.Cond.instanceMethod y).before a0 Z = true) (w3 : (Jvm.Cond.initialized y.cls).before a0 Z = true) (w4 : (Jvm.Cond.code y yb ymx yr).before a0 Z = true)
    (E : Exa Z h a C) (hC : y.cls = C) (hy : y.cls ≠ "java/lang/invoke/MethodHandle" ∧ y.cls ≠ "java/lang/invoke/VarHandle") (hpd : parseMethodDescriptor y.desc = some ⟨ps, ro⟩) (ctr : Ctr l y yb ymx yr rm Z as h n0 Q' []) (has : (.ref a :: argsL).toArray = as) (hlen : argsL.length = ps.length) (hst : stk = argsL.reverse ++ .ref a :: rest) (hsz : Ls.size = mx) (hW : (rest.map fun v => v.category).sum ≤ Wt) (hf : rm.frames + 1 ≤ R.frames) (hl : Wt + (ymx + 11) + rm.locals ≤ R.locals) (hc : k + rm.cells ≤ R.cells) (hs : n + rm.slots ≤ R.slots) (hp : pc + 3 = pc')
    (K : ∀ v T' h', W Z own nm bytes mx rt n0 p l e R s m args below meth c (k + rm.cells) (n + rm.slots) T' h' → Q' v h' → Go n0 p e below s Q CC NN T' (mkF m pc' Ls (v.toList ++ rest))) : Go n0 p e below s Q CC NN T (mkF m pc Ls stk) := by
  obtain ⟨hx, hb, hown, hZ, r1, r2, r3, r4, ⟨L, X, N⟩, eT⟩ := w
  obtain ⟨cq, kq, qa, qb, qc⟩ := isOf hZ eT E
  subst hC
  obtain ⟨v, _, ⟨T', L', k', n'⟩, -, X', ⟨Lc, hQ, hl1, hc1, hs1⟩, st⟩ := X.virtualBack hx (y := y) (z := y) hown (mvT hZ w1) (mvT hZ w2) (notFace_of_selects (args := #[]) (mvT hZ w5)) (mvT hZ w5) (mvT hZ w6) hy (backOf (W := Wt) (Q := fun v h L => Fr n0 L ∧ Q' v h) ctr hZ w4 w3 hf hl) qa qc (g := mkF m pc Ls stk) rfl (hsz.trans r1.symm) (Steps.refl _) (argsL := argsL) (rest := rest) (lenOf hpd hlen) hst (by show 2 * 0 + _ ≤ _; omega) (by rw [hb]; exact hd) (fun _ _ => ⟨has, eT, hc, hs⟩)
  dsimp only [Pt.U, Pt.locs, Pt.cells, Pt.slots] at X' st hQ hl1 hc1 hs1
  subst hl1 hc1 hs1
  obtain ⟨s₂, q, st', r⟩ := K v T' T'.heap ⟨hx, hb, hown, hZ, r1, r2, r3, r4, ⟨_, X', Fr.app N hQ.1⟩, rfl⟩ hQ.2
  subst hp
  exact ⟨s₂, q, st.trans st', r⟩
theorem gaaload (w : W Z own nm bytes mx rt n0 p l e R s m args below meth c k n T h) {a : Addr} {cl : Cell} {ty : FieldType} {j : Int32} {v : Value} (hd : decode bytes pc = .ok (.aaload, 1)) (A : Arr Z h a cl ty) (hty : ty.isReference = true) (hin : ¬ (j < 0 ∨ cl.slots.size ≤ j.toNatClampNeg)) (hv : cl.slots[j.toNatClampNeg]? = some v) (hp : pc + 1 = pc') (K : Go n0 p e below s Q CC NN T (mkF m pc' Ls (v :: rest))) : Go n0 p e below s Q CC NN T (mkF m pc Ls (.int j :: .ref a :: rest)) := by
  obtain ⟨hx, hb, hown, hZ, r1, r2, r3, r4, ⟨L, X, N⟩, eT⟩ := w
  obtain ⟨s₂, q, st', r⟩ := K
  subst hp
  exact ⟨s₂, q, X.aaload hx (j := j) (v := v) (by rw [eT]; exact A.1) (State.isArrayOf_alike hZ.alike A.2.1) hty A.2.2 hin hv (g := mkF m pc Ls (.int j :: .ref a :: rest)) rfl rfl (by rw [hb]; exact hd) _ st', r⟩
theorem glenA (w : W Z own nm bytes mx rt n0 p l e R s m args below meth c k n T h) {a : Addr} {cl : Cell} {ty : FieldType} {z : Int32} (hd : decode bytes pc = .ok (.arraylength, 1)) (A : Arr Z h a cl ty) (hz : cl.slots.size.toInt32 = z) (hp : pc + 1 = pc') (K : Go n0 p e below s Q CC NN T (mkF m pc' Ls (.int z :: rest))) : Go n0 p e below s Q CC NN T (mkF m pc Ls (.ref a :: rest)) := by
  obtain ⟨hx, hb, hown, hZ, r1, r2, r3, r4, ⟨L, X, N⟩, eT⟩ := w
  obtain ⟨s₂, q, st', r⟩ := K
  subst hp hz
  exact ⟨s₂, q, X.arraylength hx (by rw [eT]; exact A.1) (State.isArrayOf_alike hZ.alike A.2.1) (g := mkF m pc Ls (.ref a :: rest)) rfl rfl (by rw [hb]; exact hd) _ st', r⟩
theorem gclone (w : W Z own nm bytes mx rt n0 p l e R s m args below meth c k n T h) {index Wt cap : Nat} {ad : String} {a : Addr} {cl : Cell} {ty : FieldType} (hd : decode bytes pc = .ok (.invokevirtual index, 3)) (w1 : (Jvm.Cond.methodLink own index ⟨ad, "clone", "()Ljava/lang/Object;"⟩).before a0 Z = true) (w2 : (Jvm.Cond.sameMethod ad "java/lang/Object" "clone" "()Ljava/lang/Object;").before a0 Z = true) (w3 : (Jvm.Cond.native ⟨"java/lang/Object", "clone", "()Ljava/lang/Object;"⟩).before a0 Z = true)
    (w4 : (Jvm.Cond.instanceMethod ⟨"java/lang/Object", "clone", "()Ljava/lang/Object;"⟩).before a0 Z = true) (w5 : (Jvm.Cond.selects ad ⟨ad, "clone", "()Ljava/lang/Object;"⟩ ⟨"java/lang/Object", "clone", "()Ljava/lang/Object;"⟩).before a0 Z = true) (w6 : (Jvm.Cond.castable ad "java/lang/Cloneable").before a0 Z = true)
    (A : Arr Z h a cl ty) (E : Exa Z h a ad) (F : FitC Z cl) (hsz : Ls.size = mx) (hf : 1 ≤ R.frames) (hW : (rest.map fun v => v.category).sum ≤ Wt) (hl : Wt + 14 ≤ R.locals) (hcap : cl.slots.size ≤ cap) (hc : k + 1 ≤ R.cells) (hsl : n + cap ≤ R.slots) (hp : pc + 3 = pc')
    (K : ∀ T' h' a', h.size = a' → W Z own nm bytes mx rt n0 p l e R s m args below meth c (k + 1) (n + cap) T' h' → Ext h h' → Arr Z h' a' (cloneOf cl) ty → Exa Z h' a' ad → Go n0 p e below s Q CC NN T' (mkF m pc' Ls (.ref a' :: rest))) : Go n0 p e below s Q CC NN T (mkF m pc Ls (.ref a :: rest)) := by
  obtain ⟨hx, hb, hown, hZ, r1, r2, r3, r4, ⟨L, X, N⟩, eT⟩ := w
  obtain ⟨T', h', X', e', Ex, A', E', st⟩ := cloneA X hx hZ hown w1 w2 w3 w4 w5 w6 eT A E F (g := mkF m pc Ls (.ref a :: rest)) rfl (hsz.trans r1.symm) rfl (by rw [hb]; exact hd) hf (W := Wt) (by show 2 * 0 + _ ≤ _; omega) hl hcap hc hsl
  obtain ⟨s₂, q, st', r⟩ := K T' h' _ rfl ⟨hx, hb, hown, hZ, r1, r2, r3, r4, ⟨_, X', N⟩, e'⟩ Ex A' E'
  subst hp
  exact ⟨s₂, q, st _ st', r⟩
theorem metGoH {y : MethodName} {rm : Room} {as : Array Value} {ws : List Jvm.Cond} (hpn : plainFor y = true) (hef : ∀ m, entryFrame m as mx = mkF m 0 Ls [])
    (H : ∀ (p : Program) (e : Env) (s : State) (m : MethodId) (below : List Frame) (meth : Method) (c : Code) (T : State), W Z y.cls y.name bytes mx rt n0 p l e rm s m as below meth c 0 0 T h → s.heap = h → Go n0 p e below s Q rm.cells rm.slots T (mkF m 0 Ls [])) : Ctr l y bytes mx rt rm Z as h n0 Q ws := by
  refine MetFree.of_bodySF hpn hisR ?_
  intro p e s m args below meth c s₁ Bd hml0 hP hK
  obtain ⟨rfl, hZ, hh⟩ := hP
  have e0 : s₁.heap = h := by rw [← hh, Bd.state]; rfl
  obtain ⟨s₂, o, st, r⟩ := H p e s m below meth c s₁ ⟨Bd.exec, Bd.bytes, findClass_of_methodNamed Bd.named, hZ, hml0, (name_of_methodNamed Bd.named Bd.method).1, Bd.returns, Bd.notSynchronized, ⟨[], Stand.of_body Bd, Fr.nil n0⟩, e0⟩ hh
  exact ⟨s₂, o, castTop (hef m) st, r⟩
theorem ginst0 (w : W Z own nm bytes mx rt n0 p l e R s m args below meth c k n T h) {index : Nat} (hd : decode bytes pc = .ok (.instanceof index, 3)) (hp : pc + 3 = pc') (K : Go n0 p e below s Q CC NN T (mkF m pc' Ls (.int 0 :: rest))) : Go n0 p e below s Q CC NN T (mkF m pc Ls (.null :: rest)) := by
  obtain ⟨hx, hb, -, -, -, -, -, -, ⟨L, X, -⟩, -⟩ := w
  obtain ⟨s₂, q, st, r⟩ := K
  subst hb hp
  exact ⟨s₂, q, X.instanceofNull hx (g := mkF m pc Ls (.null :: rest)) rfl rfl hd _ st, r⟩
theorem ginstN (w : W Z own nm bytes mx rt n0 p l e R s m args below meth c k n T h) (hs : s.heap = h) {index : Nat} {Kc C : String} {a : Addr} (hd : decode bytes pc = .ok (.instanceof index, 3)) (w1 : (Jvm.Cond.classLink own index Kc).before a0 Z = true) (F : Ins Z h a Kc false) (E : Exa Z h a C) (hp : pc + 3 = pc')
    (K : ∀ T', W Z own nm bytes mx rt n0 p l e R s m args below meth c k n T' h → Go n0 p e below s Q CC NN T' (mkF m pc' Ls (.int 0 :: rest))) : Go n0 p e below s Q CC NN T (mkF m pc Ls (.ref a :: rest)) := by
  obtain ⟨hx, hb, hown, hZ, r1, r2, r3, r4, ⟨L, X, N⟩, eT⟩ := w
  obtain ⟨T', X', e', st⟩ := instN X hx hZ hown w1 eT (hs ▸ F) (hs ▸ E) (g := mkF m pc Ls (.ref a :: rest)) rfl rfl (by rw [hb]; exact hd)
  obtain ⟨s₂, q, st', r⟩ := K T' ⟨hx, hb, hown, hZ, r1, r2, r3, r4, ⟨L, X', N⟩, e'⟩
  subst hp
  exact ⟨s₂, q, st _ st', r⟩
theorem gcopy (w : W Z own nm bytes mx rt n0 p l e R s m args below meth c k n T h) {index Wt : Nat} {a b : Addr} {ka kb : ClassId} {z z' sp dp nn : Int32} {vs vd : List Value} {dv dd : Value} (hd : decode bytes pc = .ok (.invokestatic index, 3)) (w1 : (Jvm.Cond.methodLink own index Jvm.Stand.acN).before a0 Z = true) (w2 : (Jvm.Cond.native Jvm.Stand.acN).before a0 Z = true) (w3 : (Jvm.Cond.static Jvm.Stand.acN).before a0 Z = true) (w4 : (Jvm.Cond.initialized "java/lang/System").before a0 Z = true)
    (A : Arv Z h a ka .byte z vs dv) (B : Arv Z h b kb .byte z' vd dd) (h1 : ¬ sp < 0) (h2 : ¬ dp < 0) (h3 : ¬ nn < 0) (h4 : sp.toNatClampNeg + nn.toNatClampNeg ≤ z.toNatClampNeg) (h5 : dp.toNatClampNeg + nn.toNatClampNeg ≤ z'.toNatClampNeg) (hlv : dp.toNatClampNeg + nn.toNatClampNeg ≤ vd.length) (ge : n0 ≤ b)
    (hsz : Ls.size = mx) (hf : 1 ≤ R.frames) (hW : (rest.map fun v => v.category).sum ≤ Wt) (hlo : Wt + (nativeFrameWords "java/lang/System" "arraycopy" 5 + 11) ≤ R.locals) (hp : pc + 3 = pc')
    (K : ∀ T' h' us, W Z own nm bytes mx rt n0 p l e R s m args below meth c k n T' h' → Keep h h' [b] → us.length = nn.toNatClampNeg → Arv Z h' b kb .byte z' (vd.take dp.toNatClampNeg ++ us ++ vd.drop (dp.toNatClampNeg + nn.toNatClampNeg)) dd → Go n0 p e below s Q CC NN T' (mkF m pc' Ls rest)) : Go n0 p e below s Q CC NN T (mkF m pc Ls (.int nn :: .int dp :: .ref b :: .int sp :: .ref a :: rest)) := by
  obtain ⟨hx, hb, hown, hZ, r1, r2, r3, r4, ⟨L, X, N⟩, eT⟩ := w
  obtain ⟨T', h', L', X', e', N', Kp, V', st⟩ := cpA X hx hZ hown w1 w2 w3 w4 eT A B (Or.inl ⟨rfl, rfl⟩) h1 h2 h3 h4 h5 rfl hlv N ge (g := mkF m pc Ls (.int nn :: .int dp :: .ref b :: .int sp :: .ref a :: rest)) rfl (hsz.trans r1.symm) rfl (by rw [hb]; exact hd) hf (W := Wt) (by show 2 * 0 + _ ≤ _; omega) hlo
  obtain ⟨s₂, q, st', r⟩ := K T' h' _ ⟨hx, hb, hown, hZ, r1, r2, r3, r4, ⟨_, X', N'⟩, e'⟩ Kp (by rw [List.length_map, List.length_range]) V'
  subst hp
  exact ⟨s₂, q, st _ st', r⟩
theorem gifnullV (w : W Z own nm bytes mx rt n0 p l e R s m args below meth c k n T h) {v : Value} {o : Int} {pt pf : Nat} (hd : decode bytes pc = .ok (.ifnull o, 3)) (ho : 0 ≤ (pc : Int) + o) (ht : ((pc : Int) + o).toNat = pt) (hf : pc + 3 = pf) (hv : v.isRef = true) (Kt : v = .null → Go n0 p e below s Q CC NN T (mkF m pt Ls rest)) (Kf : ¬ v = .null → Go n0 p e below s Q CC NN T (mkF m pf Ls rest)) : Go n0 p e below s Q CC NN T (mkF m pc Ls (v :: rest)) := by
  rcases ref_cases hv with rfl | ⟨a, rfl⟩
  · exact gifnullY w hd ho ht (Kt rfl)
  · exact gifnullN w hd hf (Kf nofun)
theorem wmono (w : W Z own nm bytes mx rt n0 p l e R s m args below meth c k n T h) {k' n' : Nat} (hk : k ≤ k') (hn : n ≤ n') : W Z own nm bytes mx rt n0 p l e R s m args below meth c k' n' T h := by
  obtain ⟨hx, hb, hown, hZ, r1, r2, r3, r4, ⟨L, X, N⟩, eT⟩ := w
  exact ⟨hx, hb, hown, hZ, r1, r2, r3, r4, ⟨L, ⟨X.admits, X.cas, X.clock, X.frames, X.room, X.hears, X.method, X.code, X.here, X.tail, X.warmed, X.limits, X.bytes, X.same.mono hk hn⟩, N⟩, eT⟩
theorem gcallP (w : W Z own nm bytes mx rt n0 p l e R s m args below meth c k n T h) {index : Nat} {y : MethodName} {yb : ByteArray} {ymx : Nat} {yr : Option FieldType} {rm : Room} {as : Array Value} {Q' : Option Value → Heap → Prop} {argsL : List Value} {stk : List Value} {ps : List FieldType} {ro : Option FieldType} {Wt : Nat} {a : Addr} {C : String} {ji : Nat} (hd : decode bytes pc = .ok (.invokevirtual index, 3)) (w1 : (Jvm.Cond.methodLink own index y).before a0 Z = true) (w2 : (Jvm.Cond.instanceMethod y).before a0 Z = true) (w5 : (Jvm.Cond.instantiable y.cls ji).before a0 Z = true) (w6 : (Jvm.Cond.privateMethod y).before a0 Z = true) (w3 : (Jvm.Cond.initialized y.cls).before a0 Z = true) (w4 : (Jvm.Cond.code y yb ymx yr).before a0 Z = true)
    (E : Exa Z h a C) (hy : y.cls ≠ "java/lang/invoke/MethodHandle" ∧ y.cls ≠ "java/lang/invoke/VarHandle") (hpd : parseMethodDescriptor y.desc = some ⟨ps, ro⟩) (ctr : Ctr l y yb ymx yr rm Z as h n0 Q' []) (has : (.ref a :: argsL).toArray = as) (hlen : argsL.length = ps.length) (hst : stk = argsL.reverse ++ .ref a :: rest) (hsz : Ls.size = mx) (hW : (rest.map fun v => v.category).sum ≤ Wt) (hf : rm.frames + 1 ≤ R.frames) (hl : Wt + (ymx + 11) + rm.locals ≤ R.locals) (hc : k + rm.cells ≤ R.cells) (hs : n + rm.slots ≤ R.slots) (hp : pc + 3 = pc')
    (K : ∀ v T' h', W Z own nm bytes mx rt n0 p l e R s m args below meth c (k + rm.cells) (n + rm.slots) T' h' → Q' v h' → Go n0 p e below s Q CC NN T' (mkF m pc' Ls (v.toList ++ rest))) : Go n0 p e below s Q CC NN T (mkF m pc Ls stk) := by
  obtain ⟨hx, hb, hown, hZ, r1, r2, r3, r4, ⟨L, X, N⟩, eT⟩ := w
  obtain ⟨cq, qa, qb⟩ := E.cell
  obtain ⟨ci, ki, i1, i2, -, i4, -, -⟩ := Cond.instantiable_spec (mvT hZ w5 (args := #[]))
  have hni : ki.isInterface = false := (Bool.or_eq_false_iff.mp i4).1
  have hpr := Cond.privateMethod_at (mvP hZ w6 (args := #[]))
  have hsel := selects_self_of_private (args := args) i1 i2 hni hpr (mvT hZ w2) hy
  obtain ⟨v, _, ⟨T', L', k', n'⟩, -, X', ⟨Lc, hQ, hl1, hc1, hs1⟩, st⟩ := X.privateBack hx (y := y) hown (mvT hZ w1) (mvT hZ w2) hsel hpr (mvT hZ w4) hy (backOf (W := Wt) (Q := fun v h L => Fr n0 L ∧ Q' v h) ctr hZ w4 w3 hf hl) (g := mkF m pc Ls stk) rfl (hsz.trans r1.symm) (Steps.refl _) (a := a) (by rw [eT]; exact qa) qb (argsL := argsL) (rest := rest) (lenOf hpd hlen) hst (by show 2 * 0 + _ ≤ _; omega) (by rw [hb]; exact hd) (fun _ _ => ⟨has, eT, hc, hs⟩)
  dsimp only [Pt.U, Pt.locs, Pt.cells, Pt.slots] at X' st hQ hl1 hc1 hs1
  subst hl1 hc1 hs1
  obtain ⟨s₂, q, st', r⟩ := K v T' T'.heap ⟨hx, hb, hown, hZ, r1, r2, r3, r4, ⟨_, X', Fr.app N hQ.1⟩, rfl⟩ hQ.2
  subst hp
  exact ⟨s₂, q, st.trans st', r⟩
theorem own_bb (y : Int32) : y.toInt8.toInt32.toInt8.toInt32 = y.toInt8.toInt32 := by rw [Int8.toInt8_toInt32]
end GoKit

theorem d1_0 : decode prog_166_method_1_code 0 = .ok (.aload_n 0, 1) := by decide +kernel
theorem d1_1 : decode prog_166_method_1_code 1 = .ok (.invokespecial 1, 3) := by decide +kernel
theorem d1_4 : decode prog_166_method_1_code 4 = .ok (.aload_n 0, 1) := by decide +kernel
theorem d1_5 : decode prog_166_method_1_code 5 = .ok (.iload_n 1, 1) := by decide +kernel
theorem d1_6 : decode prog_166_method_1_code 6 = .ok (.putfield 7, 3) := by decide +kernel
theorem d1_9 : decode prog_166_method_1_code 9 = .ok (.aload_n 0, 1) := by decide +kernel
theorem d1_10 : decode prog_166_method_1_code 10 = .ok (.lload_n 2, 1) := by decide +kernel
theorem d1_11 : decode prog_166_method_1_code 11 = .ok (.putfield 13, 3) := by decide +kernel
theorem d1_14 : decode prog_166_method_1_code 14 = .ok (.return_, 1) := by decide +kernel
theorem pn_d1 : plainFor (⟨"com/example/halyard/halyard/wire/TypeIdentifier$Text", "<init>", "(IJ)V"⟩ : MethodName) = true := by first | (refine plainFor_of_name ?_; simp [plainName, overriddenIn]; done) | decide +kernel
theorem pd_d1 : parseMethodDescriptor "(IJ)V" = some ⟨[.int, .long], none⟩ := by decide +kernel
theorem d2_0 : decode jdk_30_method_1_code 0 = .ok (.aload_n 0, 1) := by decide +kernel
theorem d2_1 : decode jdk_30_method_1_code 1 = .ok (.invokespecial 1, 3) := by decide +kernel
theorem d2_4 : decode jdk_30_method_1_code 4 = .ok (.return_, 1) := by decide +kernel
theorem pn_d2 : plainFor (⟨"java/lang/Record", "<init>", "()V"⟩ : MethodName) = true := by first | (refine plainFor_of_name ?_; simp [plainName, overriddenIn]; done) | decide +kernel
theorem pd_d2 : parseMethodDescriptor "()V" = some ⟨[], none⟩ := by decide +kernel
theorem d4_0 : decode prog_166_method_3_code 0 = .ok (.aload_n 0, 1) := by decide +kernel
theorem d4_1 : decode prog_166_method_3_code 1 = .ok (.getfield 7, 3) := by decide +kernel
theorem d4_4 : decode prog_166_method_3_code 4 = .ok (.bipush 114, 2) := by decide +kernel
theorem d4_6 : decode prog_166_method_3_code 6 = .ok (.if_icmp .eq 12, 3) := by decide +kernel
theorem d4_9 : decode prog_166_method_3_code 9 = .ok (.aload_n 0, 1) := by decide +kernel
theorem d4_10 : decode prog_166_method_3_code 10 = .ok (.getfield 7, 3) := by decide +kernel
theorem d4_13 : decode prog_166_method_3_code 13 = .ok (.bipush 115, 2) := by decide +kernel
theorem d4_15 : decode prog_166_method_3_code 15 = .ok (.if_icmp .ne 7, 3) := by decide +kernel
theorem d4_18 : decode prog_166_method_3_code 18 = .ok (.iconst 1, 1) := by decide +kernel
theorem d4_19 : decode prog_166_method_3_code 19 = .ok (.goto 4, 3) := by decide +kernel
theorem d4_22 : decode prog_166_method_3_code 22 = .ok (.iconst 0, 1) := by decide +kernel
theorem d4_23 : decode prog_166_method_3_code 23 = .ok (.ireturn, 1) := by decide +kernel
theorem pn_d4 : plainFor (⟨"com/example/halyard/halyard/wire/TypeIdentifier$Text", "wide", "()Z"⟩ : MethodName) = true := by first | (refine plainFor_of_name ?_; simp [plainName, overriddenIn]; done) | decide +kernel
theorem pd_d4 : parseMethodDescriptor "()Z" = some ⟨[], some .boolean⟩ := by decide +kernel
theorem pn_at0 : plainName "com/example/halyard/halyard/wire/TextWidePinLaw" = true := by first | (simp [plainName, overriddenIn]; done) | decide +kernel
theorem pn_at : plainFor x = true := plainFor_of_name pn_at0
variable {p : Program} {l : Launch} {e : Env} {s : State} {m : MethodId} {args : Array Value} {below : List Frame} {meth : Method} {c : Code} {T : State} {Z : State} {n0 : Nat} {h : Heap} {a0 : Array Value}
theorem own_wide {k : Int32} (q : (k &&& (-2 : Int32)) = (114 : Int32)) : k = (114 : Int32) ∨ k = (115 : Int32) := by
  have h : (k &&& (-2 : Int32)).toBitVec.toNat = 114 := by rw [q]; rfl
  rw [Int32.toBitVec_and, BitVec.toNat_and, show (-2 : Int32).toBitVec.toNat = 4294967294 from by decide] at h
  have r := k.toBitVec.isLt
  have s : (k.toBitVec.toNat &&& 4294967294) >>> 1 = k.toBitVec.toNat >>> 1 := by
    rw [Nat.shiftRight_and_distrib, show 4294967294 >>> 1 = 2 ^ 31 - 1 from by decide, Nat.and_two_pow_sub_one_eq_mod]
    apply Nat.mod_eq_of_lt
    rw [Nat.shiftRight_eq_div_pow]
    omega
  rw [h, Nat.shiftRight_eq_div_pow, Nat.shiftRight_eq_div_pow] at s
  have t : k.toBitVec.toNat = 114 ∨ k.toBitVec.toNat = 115 := by omega
  rcases t with t | t
  · exact Or.inl (Int32.toBitVec_inj.mp (BitVec.eq_of_toNat_eq t))
  · exact Or.inr (Int32.toBitVec_inj.mp (BitVec.eq_of_toNat_eq t))
set_option maxRecDepth 65536 in
set_option maxHeartbeats 4000000 in
theorem own_c2 (hw : ∀ d ∈ tables_1, d.before a0 Z = true) (a : Addr) :
    Ctr l (⟨"java/lang/Record", "<init>", "()V"⟩ : MethodName) jdk_30_method_1_code 1 none ({ frames := 1, cells := 0, slots := 0, locals := 16 } : Room) Z #[(.ref a)] h n0 (fun v h' => v = none ∧ h' = h) [] := by
  refine metGo (Ls := #[.val (.ref a)]) pn_d2 (fun m => by first | rfl | (simp [entryFrame, mkF, argsToLocals, Value.category]; done) | (simp [entryFrame, mkF, argsToLocals, Value.category, maxLocals]; done)) ?_
  intro p e s m below meth c T w
  refine galoadN (pc' := 1) (Ls := #[.val (.ref a)]) (rest := []) w d2_0 rfl rfl rfl ?_
  refine ginitO (pc' := 4) (Wt := 0) w d2_1 (hw _ (List.mem_of_getElem? (i := 11) rfl)) (hw _ (List.mem_of_getElem? (i := 12) rfl)) (hw _ (List.mem_of_getElem? (i := 13) rfl)) rfl (by decide) (Nat.le_of_eq rfl) (by decide) rfl (fun T2 w1 => ?_)
  exact gret0 w1 d2_4 (by decide) (by decide) ⟨rfl, rfl⟩
set_option maxRecDepth 65536 in
set_option maxHeartbeats 4000000 in
theorem own_c1 (hw : ∀ d ∈ tables_1, d.before a0 Z = true) (a : Addr) (kd : Int32) (bd : Int64) (z0 : n0 ≤ h.size) (ga : n0 ≤ a) (E0 : Exa Z h a "com/example/halyard/halyard/wire/TypeIdentifier$Text") (F1 : Fld Z h a "com/example/halyard/halyard/wire/TypeIdentifier$Text" "kind" "I" (.int (0 : Int32))) (F2 : Fld Z h a "com/example/halyard/halyard/wire/TypeIdentifier$Text" "bound" "J" (.long (0 : Int64))) :
    Ctr l (⟨"com/example/halyard/halyard/wire/TypeIdentifier$Text", "<init>", "(IJ)V"⟩ : MethodName) prog_166_method_1_code 4 none ({ frames := 2, cells := 0, slots := 0, locals := 40 } : Room) Z #[(.ref a), (.int kd), (.long bd)] h n0 (fun v h' => v = none ∧ Exa Z h' a "com/example/halyard/halyard/wire/TypeIdentifier$Text" ∧ Fld Z h' a "com/example/halyard/halyard/wire/TypeIdentifier$Text" "kind" "I" (.int kd)) [] := by
  refine metGo (Ls := #[.val (.ref a), .val (.int kd), .val (.long bd), .second]) pn_d1 (fun m => by first | rfl | (simp [entryFrame, mkF, argsToLocals, Value.category]; done) | (simp [entryFrame, mkF, argsToLocals, Value.category, maxLocals]; done)) ?_
  intro p e s m below meth c T w
  refine galoadN (pc' := 1) (Ls := #[.val (.ref a), .val (.int kd), .val (.long bd), .second]) (rest := []) w d1_0 rfl rfl rfl ?_
  refine gcallN (pc' := 4) (argsL := []) (rest := []) (Wt := 0) w d1_1 (hw _ (List.mem_of_getElem? (i := 6) rfl)) (hw _ (List.mem_of_getElem? (i := 7) rfl)) (hw _ (List.mem_of_getElem? (i := 9) rfl)) (hw _ (List.mem_of_getElem? (i := 10) rfl)) rfl (by decide) pd_d2 (own_c2 hw a) rfl rfl rfl rfl (Nat.le_of_eq rfl) (by decide) (by decide) (by decide) (by decide) rfl (fun v3 T4 h5 w6 q7 => ?_)
  obtain ⟨rfl, eh⟩ := q7
  show Go _ _ _ _ _ _ _ _ _ (mkF m 4 #[.val (.ref a), .val (.int kd), .val (.long bd), .second] [])
  rw [eh] at w6
  refine galoadN (pc' := 5) (Ls := #[.val (.ref a), .val (.int kd), .val (.long bd), .second]) (rest := []) w6 d1_4 rfl rfl rfl ?_
  refine giloadN (pc' := 6) (Ls := #[.val (.ref a), .val (.int kd), .val (.long bd), .second]) (rest := [(.ref a)]) w6 d1_5 rfl rfl ?_
  refine gputF (pc' := 9) (v' := (.int kd)) (ty := .int) w6 d1_6 (hw _ (List.mem_of_getElem? (i := 14) rfl)) F1 E0 (Or.inr ⟨(hw _ (List.mem_of_getElem? (i := 15) rfl)), rfl, rfl⟩) (hw _ (List.mem_of_getElem? (i := 1) rfl)) (by decide) rfl rfl ga rfl (fun T8 h9 w10 W11 => ?_)
  have E12 := E0.wr W11
  have F13 := F1.same W11
  have F14 := F2.other W11 (Or.inr (slot_ne (t := .long) (t' := .int) (Or.inr (hw _ (List.mem_of_getElem? (i := 17) rfl))) (Or.inr (hw _ (List.mem_of_getElem? (i := 15) rfl))) (by decide) (by decide) (by decide)))
  have z15 : n0 ≤ h9.size := by rw [W11.size]; exact z0
  refine galoadN (pc' := 10) (Ls := #[.val (.ref a), .val (.int kd), .val (.long bd), .second]) (rest := []) w10 d1_9 rfl rfl rfl ?_
  refine glloadN (pc' := 11) (Ls := #[.val (.ref a), .val (.int kd), .val (.long bd), .second]) (rest := [(.ref a)]) w10 d1_10 rfl rfl ?_
  refine gputF (pc' := 14) (v' := (.long bd)) (ty := .long) w10 d1_11 (hw _ (List.mem_of_getElem? (i := 16) rfl)) F14 E12 (Or.inr ⟨(hw _ (List.mem_of_getElem? (i := 17) rfl)), rfl, rfl⟩) (hw _ (List.mem_of_getElem? (i := 1) rfl)) (by decide) rfl rfl ga rfl (fun T16 h17 w18 W19 => ?_)
  have E20 := E12.wr W19
  have F21 := F13.other W19 (Or.inr (slot_ne (t := .int) (t' := .long) (Or.inr (hw _ (List.mem_of_getElem? (i := 15) rfl))) (Or.inr (hw _ (List.mem_of_getElem? (i := 17) rfl))) (by decide) (by decide) (by decide)))
  have F22 := F14.same W19
  have z23 : n0 ≤ h17.size := by rw [W19.size]; exact z15
  exact gret0 w18 d1_14 (by decide) (by decide) ⟨rfl, E20, F21⟩
def own_w (k : Int32) : Int32 := if k = (114 : Int32) then 1 else if k = (115 : Int32) then 1 else 0
set_option maxRecDepth 65536 in
set_option maxHeartbeats 4000000 in
theorem own_c3 (hw : ∀ d ∈ tables_1, d.before a0 Z = true) (a : Addr) (kd : Int32) (F1 : Fld Z h a "com/example/halyard/halyard/wire/TypeIdentifier$Text" "kind" "I" (.int kd)) :
    Ctr l (⟨"com/example/halyard/halyard/wire/TypeIdentifier$Text", "wide", "()Z"⟩ : MethodName) prog_166_method_3_code 1 (some .boolean) ({ frames := 0, cells := 0, slots := 0, locals := 0 } : Room) Z #[(.ref a)] h n0 (fun v h' => v = some (.int (own_w kd)) ∧ h' = h) [] := by
  refine metGo (Ls := #[.val (.ref a)]) pn_d4 (fun m => by first | rfl | (simp [entryFrame, mkF, argsToLocals, Value.category]; done) | (simp [entryFrame, mkF, argsToLocals, Value.category, maxLocals]; done)) ?_
  intro p e s m below meth c T w
  refine galoadN (pc' := 1) (Ls := #[.val (.ref a)]) (rest := []) w d4_0 rfl rfl rfl ?_
  refine ggetF (pc' := 4) w d4_1 (hw _ (List.mem_of_getElem? (i := 14) rfl)) F1 rfl (fun T24 w25 => ?_)
  refine gbipush (v := (114 : Int32)) (pc' := 6) w25 d4_4 rfl rfl ?_
  refine gicmp (pt := 18) (pf := 9) w25 d4_6  (by decide) rfl rfl (fun (c6 : kd = (114 : Int32)) => ?_) (fun (c6 : ¬ kd = (114 : Int32)) => ?_)
  · refine giconst (v := (1 : Int32)) (pc' := 19) w25 d4_18 rfl rfl ?_
    refine ggoto (pc' := 23) w25 d4_19 (by decide) rfl ?_
    exact gretZ w25 d4_23 rfl (by decide) (by decide) ⟨by simp [own_w, c6], rfl⟩
  · refine galoadN (pc' := 10) (Ls := #[.val (.ref a)]) (rest := []) w25 d4_9 rfl rfl rfl ?_
    refine ggetF (pc' := 13) w25 d4_10 (hw _ (List.mem_of_getElem? (i := 14) rfl)) F1 rfl (fun T26 w27 => ?_)
    refine gbipush (v := (115 : Int32)) (pc' := 15) w27 d4_13 rfl rfl ?_
    refine gicmp (pt := 22) (pf := 18) w27 d4_15  (by decide) rfl rfl (fun (c15 : ¬ kd = (115 : Int32)) => ?_) (fun (c15 : kd = (115 : Int32)) => ?_)
    · refine giconst (v := (0 : Int32)) (pc' := 23) w27 d4_22 rfl rfl ?_
      exact gretZ w27 d4_23 rfl (by decide) (by decide) ⟨by simp [own_w, c6, c15], rfl⟩
    · refine giconst (v := (1 : Int32)) (pc' := 19) w27 d4_18 rfl rfl ?_
      refine ggoto (pc' := 23) w27 d4_19 (by decide) rfl ?_
      exact gretZ w27 d4_23 rfl (by decide) (by decide) ⟨by simp [own_w, c6, c15], rfl⟩
set_option maxRecDepth 65536 in
set_option maxHeartbeats 4000000 in
theorem own_b20 (hw : ∀ d ∈ tables_1, d.before a0 Z = true) (w : W Z "com/example/halyard/halyard/wire/TextWidePinLaw" "law" code maxLocals ret n0 p l e room_1 s m args below meth c 0 0 T h) (a b kd : Int32) (d : Int64) (z0 : n0 ≤ h.size) :
    Go n0 p e below s (fun v _ => v = some (.int 1)) room_1.cells room_1.slots T (mkF m 20 #[.val (.int a), .val (.int b), .val (.long d), .second, .val (.int kd), .unset, .unset] []) := by
  refine gnewO (pc' := 23) w at_20 (hw _ (List.mem_of_getElem? (i := 0) rfl)) (hw _ (List.mem_of_getElem? (i := 1) rfl)) (hw _ (List.mem_of_getElem? (i := 2) rfl)) (by decide) (by decide) rfl (fun T29 h30 a28 s31 w32 E33 A34 D35 => ?_)
  have g_a28 : n0 ≤ a28 := Nat.le_trans z0 (Nat.le_of_eq s31)
  have z36 := Nat.le_trans z0 E33.1
  have F37 : Fld Z h30 a28 "com/example/halyard/halyard/wire/TypeIdentifier$Text" "kind" "I" (.int (0 : Int32)) := D35 (Or.inr (hw _ (List.mem_of_getElem? (i := 15) rfl))) (ty := .int) (by decide)
  have F38 : Fld Z h30 a28 "com/example/halyard/halyard/wire/TypeIdentifier$Text" "bound" "J" (.long (0 : Int64)) := D35 (Or.inr (hw _ (List.mem_of_getElem? (i := 17) rfl))) (ty := .long) (by decide)
  refine gdup (pc' := 24) w32 at_23 rfl rfl ?_
  refine giload (pc' := 26) (Ls := #[.val (.int a), .val (.int b), .val (.long d), .second, .val (.int kd), .unset, .unset]) (rest := [(.ref a28), (.ref a28)]) w32 at_24 rfl rfl ?_
  refine glloadN (pc' := 27) (Ls := #[.val (.int a), .val (.int b), .val (.long d), .second, .val (.int kd), .unset, .unset]) (rest := [(.int kd), (.ref a28), (.ref a28)]) w32 at_26 rfl rfl ?_
  refine gcallN (pc' := 30) (argsL := [(.int kd), (.long d)]) (rest := [(.ref a28)]) (Wt := 1) w32 at_27 (hw _ (List.mem_of_getElem? (i := 3) rfl)) (hw _ (List.mem_of_getElem? (i := 4) rfl)) (hw _ (List.mem_of_getElem? (i := 2) rfl)) (hw _ (List.mem_of_getElem? (i := 5) rfl)) rfl (by decide) pd_d1 (own_c1 hw a28 kd d z36 g_a28 A34 F37 F38) rfl rfl rfl rfl (Nat.le_of_eq rfl) (by decide) (by decide) (by decide) (by decide) rfl (fun v39 T40 h41 w42 q43 => ?_)
  obtain ⟨rfl, EE, FF⟩ := q43
  show Go _ _ _ _ _ _ _ _ _ (mkF m 30 #[.val (.int a), .val (.int b), .val (.long d), .second, .val (.int kd), .unset, .unset] [(.ref a28)])
  refine gastore (pc' := 32) (Ls := #[.val (.int a), .val (.int b), .val (.long d), .second, .val (.int kd), .unset, .unset]) (Ls' := #[.val (.int a), .val (.int b), .val (.long d), .second, .val (.int kd), .val (.ref a28), .unset]) (rest := []) w42 at_30 rfl rfl rfl ?_
  refine giload (pc' := 34) (Ls := #[.val (.int a), .val (.int b), .val (.long d), .second, .val (.int kd), .val (.ref a28), .unset]) (rest := []) w42 at_32 rfl rfl ?_
  refine gbipush (v := (-2 : Int32)) (pc' := 36) w42 at_34 rfl rfl ?_
  refine giand (pc' := 37) w42 at_36 rfl ?_
  refine gbipush (v := (114 : Int32)) (pc' := 39) w42 at_37 rfl rfl ?_
  refine gicmp (pt := 46) (pf := 42) w42 at_39  (by decide) rfl rfl (fun (c39 : ¬ (kd &&& (-2 : Int32)) = (114 : Int32)) => ?_) (fun (c39 : (kd &&& (-2 : Int32)) = (114 : Int32)) => ?_)
  · refine giconst (v := (0 : Int32)) (pc' := 47) w42 at_46 rfl rfl ?_
    refine gistore (pc' := 49) (Ls := #[.val (.int a), .val (.int b), .val (.long d), .second, .val (.int kd), .val (.ref a28), .unset]) (Ls' := #[.val (.int a), .val (.int b), .val (.long d), .second, .val (.int kd), .val (.ref a28), .val (.int (0 : Int32))]) (rest := []) w42 at_47 rfl rfl ?_
    refine gaload (pc' := 51) (Ls := #[.val (.int a), .val (.int b), .val (.long d), .second, .val (.int kd), .val (.ref a28), .val (.int (0 : Int32))]) (rest := []) w42 at_49 rfl rfl rfl ?_
    refine gcallV (pc' := 54) (argsL := []) (rest := []) (Wt := 0) w42 at_51 (hw _ (List.mem_of_getElem? (i := 18) rfl)) (hw _ (List.mem_of_getElem? (i := 19) rfl)) (hw _ (List.mem_of_getElem? (i := 21) rfl)) (hw _ (List.mem_of_getElem? (i := 20) rfl)) (hw _ (List.mem_of_getElem? (i := 2) rfl)) (hw _ (List.mem_of_getElem? (i := 22) rfl)) EE rfl (by decide) pd_d4 (own_c3 hw a28 kd FF) rfl rfl rfl rfl (Nat.le_of_eq rfl) (by decide) (by decide) (by decide) (by decide) rfl (fun v44 T45 h46 w47 q48 => ?_)
    obtain ⟨rfl, eh⟩ := q48
    show Go _ _ _ _ _ _ _ _ _ (mkF m 54 #[.val (.int a), .val (.int b), .val (.long d), .second, .val (.int kd), .val (.ref a28), .val (.int (0 : Int32))] [(.int (own_w kd))])
    rw [eh] at w47
    refine giload (pc' := 56) (Ls := #[.val (.int a), .val (.int b), .val (.long d), .second, .val (.int kd), .val (.ref a28), .val (.int (0 : Int32))]) (rest := [(.int (own_w kd))]) w47 at_54 rfl rfl ?_
    refine gicmp (pt := 63) (pf := 59) w47 at_56  (by decide) rfl rfl (fun (c56 : ¬ (own_w kd) = (0 : Int32)) => ?_) (fun (c56 : (own_w kd) = (0 : Int32)) => ?_)
    · refine giconst (v := (0 : Int32)) (pc' := 64) w47 at_63 rfl rfl ?_
      refine absurd ?_ c56
      unfold own_w
      rw [if_neg (fun r => c39 (by rw [r]; decide)), if_neg (fun r => c39 (by rw [r]; decide))]
    · refine giconst (v := (1 : Int32)) (pc' := 60) w47 at_59 rfl rfl ?_
      refine ggoto (pc' := 64) w47 at_60 (by decide) rfl ?_
      exact gretZ w47 at_64 rfl (by decide) (by decide) rfl
  · refine giconst (v := (1 : Int32)) (pc' := 43) w42 at_42 rfl rfl ?_
    refine ggoto (pc' := 47) w42 at_43 (by decide) rfl ?_
    refine gistore (pc' := 49) (Ls := #[.val (.int a), .val (.int b), .val (.long d), .second, .val (.int kd), .val (.ref a28), .unset]) (Ls' := #[.val (.int a), .val (.int b), .val (.long d), .second, .val (.int kd), .val (.ref a28), .val (.int (1 : Int32))]) (rest := []) w42 at_47 rfl rfl ?_
    refine gaload (pc' := 51) (Ls := #[.val (.int a), .val (.int b), .val (.long d), .second, .val (.int kd), .val (.ref a28), .val (.int (1 : Int32))]) (rest := []) w42 at_49 rfl rfl rfl ?_
    refine gcallV (pc' := 54) (argsL := []) (rest := []) (Wt := 0) w42 at_51 (hw _ (List.mem_of_getElem? (i := 18) rfl)) (hw _ (List.mem_of_getElem? (i := 19) rfl)) (hw _ (List.mem_of_getElem? (i := 21) rfl)) (hw _ (List.mem_of_getElem? (i := 20) rfl)) (hw _ (List.mem_of_getElem? (i := 2) rfl)) (hw _ (List.mem_of_getElem? (i := 22) rfl)) EE rfl (by decide) pd_d4 (own_c3 hw a28 kd FF) rfl rfl rfl rfl (Nat.le_of_eq rfl) (by decide) (by decide) (by decide) (by decide) rfl (fun v49 T50 h51 w52 q53 => ?_)
    obtain ⟨rfl, eh⟩ := q53
    show Go _ _ _ _ _ _ _ _ _ (mkF m 54 #[.val (.int a), .val (.int b), .val (.long d), .second, .val (.int kd), .val (.ref a28), .val (.int (1 : Int32))] [(.int (own_w kd))])
    rw [eh] at w52
    refine giload (pc' := 56) (Ls := #[.val (.int a), .val (.int b), .val (.long d), .second, .val (.int kd), .val (.ref a28), .val (.int (1 : Int32))]) (rest := [(.int (own_w kd))]) w52 at_54 rfl rfl ?_
    refine gicmp (pt := 63) (pf := 59) w52 at_56  (by decide) rfl rfl (fun (c56 : ¬ (own_w kd) = (1 : Int32)) => ?_) (fun (c56 : (own_w kd) = (1 : Int32)) => ?_)
    · refine giconst (v := (0 : Int32)) (pc' := 64) w52 at_63 rfl rfl ?_
      rcases own_wide c39 with r | r <;> exact absurd (by rw [r]; decide) c56
    · refine giconst (v := (1 : Int32)) (pc' := 60) w52 at_59 rfl rfl ?_
      refine ggoto (pc' := 64) w52 at_60 (by decide) rfl ?_
      exact gretZ w52 at_64 rfl (by decide) (by decide) rfl
set_option maxRecDepth 65536 in
set_option maxHeartbeats 4000000 in
theorem own_law (hw : ∀ d ∈ tables_1, d.before a0 Z = true) (a b : Int32) (d : Int64) (z0 : n0 ≤ h.size) :
    Ctr l x code maxLocals ret room_1 Z #[(.int a), (.int b), (.long d)] h n0 (fun v _ => v = some (.int 1)) tables_1 := by
  refine metGo (Ls := #[.val (.int a), .val (.int b), .val (.long d), .second, .unset, .unset, .unset]) pn_at (fun m => by first | rfl | (simp [entryFrame, mkF, argsToLocals, Value.category]; done) | (simp [entryFrame, mkF, argsToLocals, Value.category, maxLocals]; done)) ?_
  intro p e s m below meth c T w
  refine giloadN (pc' := 1) (Ls := #[.val (.int a), .val (.int b), .val (.long d), .second, .unset, .unset, .unset]) (rest := []) w at_0 rfl rfl ?_
  refine giconst (v := (4 : Int32)) (pc' := 2) w at_1 rfl rfl ?_
  refine giand (pc' := 3) w at_2 rfl ?_
  refine gif (pt := 17) (pf := 6) w at_3  (by decide) rfl rfl (fun (c3 : ¬ (a &&& (4 : Int32)) = (0 : Int32)) => ?_) (fun (c3 : (a &&& (4 : Int32)) = (0 : Int32)) => ?_)
  · refine giloadN (pc' := 18) (Ls := #[.val (.int a), .val (.int b), .val (.long d), .second, .unset, .unset, .unset]) (rest := []) w at_17 rfl rfl ?_
    refine gistore (pc' := 20) (Ls := #[.val (.int a), .val (.int b), .val (.long d), .second, .unset, .unset, .unset]) (Ls' := #[.val (.int a), .val (.int b), .val (.long d), .second, .val (.int b), .unset, .unset]) (rest := []) w at_18 rfl rfl ?_
    exact own_b20 hw w a b b d z0
  · refine gbipush (v := (112 : Int32)) (pc' := 8) w at_6 rfl rfl ?_
    refine giloadN (pc' := 9) (Ls := #[.val (.int a), .val (.int b), .val (.long d), .second, .unset, .unset, .unset]) (rest := [(.int (112 : Int32))]) w at_8 rfl rfl ?_
    refine giconst (v := (3 : Int32)) (pc' := 10) w at_9 rfl rfl ?_
    refine giand (pc' := 11) w at_10 rfl ?_
    refine giadd (pc' := 12) w at_11 rfl ?_
    refine gistore (pc' := 14) (Ls := #[.val (.int a), .val (.int b), .val (.long d), .second, .unset, .unset, .unset]) (Ls' := #[.val (.int a), .val (.int b), .val (.long d), .second, .val (.int ((112 : Int32) + (a &&& (3 : Int32)))), .unset, .unset]) (rest := []) w at_12 rfl rfl ?_
    refine ggoto (pc' := 20) w at_14 (by decide) rfl ?_
    exact own_b20 hw w a b ((112 : Int32) + (a &&& (3 : Int32))) d z0
theorem comes_1 {Post : Tables → Env → Array Value → State → Outcome → State → Prop} (hpost : ∀ tb e args s v u, (limb_1_1.after args s (.returned v) u = true ∧ limb_1_2.after args s (.returned v) u = true ∧ True) → FrameEnd s (.returned v) u (Jvm.fieldLocs frame_1_writes args s ++ Jvm.arrayLocs frame_1_arrays args s ++ Jvm.staticLocs frame_1_statics s) 16 128 → Post tb e args s (.returned v) u) :
    ArmFor flags0 classFile x code maxLocals ret World_1 tables_1 room_1 Calls_1 rest_1 Pre_1 Post := by
  intro l hfl _ _ p e ha hc hk s m args below hf hA hF happ hP
  obtain ⟨hcalls, hrest, hpre⟩ := hP
  obtain ⟨-, -, -, hnamed, -, -, -, hat⟩ := (Spec.applies_iff hf).mp happ
  obtain ⟨hg, hn⟩ := and_e (Cond.before_iff.mp (show (Jvm.Cond.and given_1 narrow_1).before args s = true from hpre))
  obtain ⟨hcount, g0⟩ := and_e hg
  obtain ⟨a0, g1⟩ := and_e g0
  obtain ⟨a1, g2⟩ := and_e g1
  obtain ⟨w0, w1, w2, rfl⟩ : ∃ w0 w1 w2 : Value, args = #[w0, w1, w2] := by
    have hs : args.size = 3 := by simpa [Cond.value, given_1] using hcount
    obtain ⟨L⟩ := args
    match L, hs with
    | [w0, w1, w2], _ => exact ⟨w0, w1, w2, rfl⟩
  have hw := fun d (hd : d ∈ tables_1) => atoms_spec (ws := Jvm.Cond.code x code maxLocals ret :: tables_1) hat d (List.mem_cons_of_mem _ hd)
  have hfit : Fit s := fun {y c} hc i hi => by
    obtain ⟨ha, rfl⟩ := Array.getElem?_eq_some_iff.mp hc
    have q := List.all_eq_true.mp ((Array.all_eq_true_iff_forall_mem.mp hF) _ (Array.getElem_mem ha)) i (List.mem_range.mpr hi)
    simpa [Array.getElem?_eq_getElem hi] using q
  obtain ⟨i0, e0⟩ := is_v a0
  obtain rfl : w0 = (.int i0) := Option.some.inj e0
  obtain ⟨i1, e1⟩ := is_v a1
  obtain rfl : w1 = (.int i1) := Option.some.inj e1
  obtain ⟨i2, e2⟩ := isL_v g2
  obtain rfl : w2 = (.long i2) := Option.some.inj e2
  obtain ⟨n, o, h1, h2, h3, _, L, rfl, ⟨N, rfl⟩, hq⟩ := (own_law (h := s.heap) (n0 := s.heap.size) hw i0 i1 i2 (Nat.le_refl _)) p e ha hc hk s m _ below hf ((Spec.applies_iff_loose hf).mp happ).1 ⟨rfl, State.Warmed39.refl s, rfl⟩ trivial
  refine ⟨n, _, h1, h2, h3, hpost _ _ _ _ _ _ ⟨Cond.after_iff.mpr rfl, Cond.after_iff.mpr (eq_i res_at (Term.int_eval (1)) rfl), trivial⟩ ⟨hq.1, hq.2.1, (hq.2.2.sift fun y hy => Or.inr (N y hy)).mono (by decide) (by decide)⟩⟩
theorem main_1_1 : Claimed_1_1 := comes_1 fun _ _ _ _ _ _ h hF => ⟨h.1, hF⟩
theorem main_1_2 : Claimed_1_2 := comes_1 fun _ _ _ _ _ _ h hF => ⟨h.2.1, hF⟩
end Jvm.Pilot.@@N@@
namespace Jvm.Pilot.@@N@@
open Jvm Jvm.ClassFile Sem Op Lib Jvm.Free Jvm.Stand Jvm.Pilot.@@N@@.Jvm.D
/-! MADE BY PROGRAM (witnessworld.py) out of the Statement's table words and the real class files: 11 classes; the members and pool entries that the words name. The judged class is class 1, her method 1. -/
namespace start1
open Jvm.ClassFile
def u (s : String) : CpInfo := .utf8 (stringToUtf16 s)
/-- a pool by its gaps: so many unusable entries, then the entry; so many at the end -/
def gap : Nat → List CpInfo → List CpInfo
  | 0, r => r
  | n + 1, r => .unusable :: gap n r
def poolList (es : List (Nat × CpInfo)) (last : Nat) : List CpInfo := es.foldr (fun e r => gap e.1 (e.2 :: r)) (gap last [])
def pool (es : List (Nat × CpInfo)) (last : Nat) : Array CpInfo := ⟨poolList es last⟩
def fileOf (pool : Array CpInfo) (this : Nat) (attrs : Array Attribute := #[]) (ms : Array MethodInfo := #[]) (fl : Nat := 33) (sup : Nat := 0) (ifs : Array Nat := #[]) (fds : Array FieldInfo := #[]) : ClassFile where
  minorVersion := 0
  majorVersion := 65
  constantPool := pool
  accessFlags := fl
  thisClass := this
  superClass := sup
  interfaces := ifs
  fields := fds
  methods := ms
  attributes := attrs
def plain (name : String) (sup : Option ClassId) : Class where
  name := name
  kind := .ordinary
  loader := none
  accessFlags := 33
  super := sup
  interfaces := #[]
  cf := none
  fields := #[]
  methods := #[]
  instanceTypes := #[]
  staticTypes := #[]
  resolved := #[]
  callSites := []
  init := .initialized
  statics := none
  mirror := none

def pool0 : Array CpInfo := pool [(5, u "<init>"), (0, u "()V"), (1, .class_ 10), (1, u "java/lang/Object")] 113

def k0c0 : Code := { maxStack := 0, maxLocals := 1, code := object_method_1_code, exceptionTable := #[], attributes := #[] }
def k0m0 : Method := { name := "<init>", desc := "()V", sig := { parameters := [], returnType := none }, accessFlags := 1, code := some k0c0 }
/-- java/lang/Object -/
def k0 : Class := { plain "java/lang/Object" none with
  accessFlags := 33
  interfaces := #[]
  cf := some (fileOf pool0 8 #[] #[{ accessFlags := 1, nameIndex := 5, descriptorIndex := 6, attributes := #[] }] 33 0 #[] #[])
  fields := #[]
  methods := #[k0m0]
  instanceTypes := #[]
  staticTypes := #[]
  resolved := Array.replicate 124 none
  statics := none }

def pool1 : Array CpInfo := pool [(2, .class_ 4), (1, u "java/lang/Object"), (0, u "<init>"), (0, u "()V"), (0, .class_ 8), (0, u "com/example/halyard/halyard/wire/TypeIdentifier$Text"), (0, .methodref 7 10), (0, .nameAndType 5 11), (0, u "(IJ)V"), (0, .methodref 7 13), (0, .nameAndType 14 15), (0, u "wide"), (0, u "()Z"), (0, .class_ 17), (0, u "com/example/halyard/halyard/wire/TextWidePinLaw"), (2, u "law"), (0, u "(IIJ)Z")] 7

def k1m0 : Method := { name := "<init>", desc := "()V", sig := { parameters := [], returnType := none }, accessFlags := 1, code := none }
def k1c1 : Code := { maxStack := 5, maxLocals := 7, code := code, exceptionTable := #[], attributes := #[] }
def k1m1 : Method := { name := "law", desc := "(IIJ)Z", sig := { parameters := [.int, .int, .long], returnType := some .boolean }, accessFlags := 9, code := some k1c1 }
/-- com/example/halyard/halyard/wire/TextWidePinLaw -/
def k1 : Class := { plain "com/example/halyard/halyard/wire/TextWidePinLaw" (some 0) with
  accessFlags := 49
  interfaces := #[]
  cf := some (fileOf pool1 16 #[] #[{ accessFlags := 1, nameIndex := 5, descriptorIndex := 6, attributes := #[] }, { accessFlags := 9, nameIndex := 20, descriptorIndex := 21, attributes := #[] }] 49 2 #[] #[])
  fields := #[]
  methods := #[k1m0, k1m1]
  instanceTypes := #[]
  staticTypes := #[]
  resolved := Array.replicate 29 none
  statics := none }

def pool2 : Array CpInfo := pool [(1, .methodref 2 3), (0, .class_ 4), (0, .nameAndType 5 6), (0, u "java/lang/Object"), (0, u "<init>"), (0, u "()V"), (0, .class_ 8), (0, u "java/lang/Record")] 13

def k2c0 : Code := { maxStack := 1, maxLocals := 1, code := jdk_30_method_1_code, exceptionTable := #[], attributes := #[] }
def k2m0 : Method := { name := "<init>", desc := "()V", sig := { parameters := [], returnType := none }, accessFlags := 4, code := some k2c0 }
/-- java/lang/Record -/
def k2 : Class := { plain "java/lang/Record" (some 0) with
  accessFlags := 1057
  interfaces := #[]
  cf := some (fileOf pool2 7 #[] #[{ accessFlags := 4, nameIndex := 5, descriptorIndex := 6, attributes := #[] }] 1057 2 #[] #[])
  fields := #[]
  methods := #[k2m0]
  instanceTypes := #[]
  staticTypes := #[]
  resolved := Array.replicate 22 none
  statics := none }

def pool3 : Array CpInfo := pool [(2, .class_ 4), (1, u "com/example/halyard/halyard/wire/TypeIdentifier"), (16, .class_ 22), (0, u "com/example/halyard/halyard/wire/TypeIdentifier$Plain"), (3, .class_ 27), (0, u "com/example/halyard/halyard/wire/TypeIdentifier$Text"), (8, .class_ 38), (1, u "com/example/halyard/halyard/wire/TypeIdentifier$Collection"), (7, .class_ 47), (0, u "com/example/halyard/halyard/wire/TypeIdentifier$Component"), (7, .class_ 56), (0, u "com/example/halyard/halyard/wire/TypeIdentifier$Hashed"), (7, .class_ 65), (0, u "com/example/halyard/halyard/wire/TypeIdentifier$Extended"), (18, .class_ 85), (0, u "java/lang/Object"), (0, u "EK_MINIMAL"), (0, u "I"), (2, u "EK_COMPLETE"), (1, u "EK_BOTH"), (1, u "TK_NONE"), (1, u "HASH_LENGTH"), (1, u "LAST_NUMBER"), (1, u "CHAR8"), (1, u "CHAR16"), (1, u "STRING8_SMALL"), (1, u "STRING8_LARGE"), (1, u "STRING16_SMALL"), (1, u "STRING16_LARGE"), (1, u "PLAIN_SEQUENCE_SMALL"), (1, u "PLAIN_SEQUENCE_LARGE"), (1, u "PLAIN_ARRAY_SMALL"), (1, u "PLAIN_ARRAY_LARGE"), (1, u "PLAIN_MAP_SMALL"), (1, u "PLAIN_MAP_LARGE"), (1, u "STRONGLY_CONNECTED_COMPONENT"), (1, u "MAX_SMALL_BOUND"), (0, u "J"), (2, u "MAX_NESTING")] 27

/-- com/example/halyard/halyard/wire/TypeIdentifier -/
def k3 : Class := { plain "com/example/halyard/halyard/wire/TypeIdentifier" (some 0) with
  accessFlags := 1536
  interfaces := #[]
  cf := some (fileOf pool3 2 #[.nestMembers #[64, 55, 46, 36, 26, 21]] #[] 1536 84 #[] #[{ accessFlags := 25, nameIndex := 86, descriptorIndex := 87, attributes := #[] }, { accessFlags := 25, nameIndex := 90, descriptorIndex := 87, attributes := #[] }, { accessFlags := 25, nameIndex := 92, descriptorIndex := 87, attributes := #[] }, { accessFlags := 25, nameIndex := 94, descriptorIndex := 87, attributes := #[] }, { accessFlags := 25, nameIndex := 96, descriptorIndex := 87, attributes := #[] }, { accessFlags := 25, nameIndex := 98, descriptorIndex := 87, attributes := #[] }, { accessFlags := 25, nameIndex := 100, descriptorIndex := 87, attributes := #[] }, { accessFlags := 25, nameIndex := 102, descriptorIndex := 87, attributes := #[] }, { accessFlags := 25, nameIndex := 104, descriptorIndex := 87, attributes := #[] }, { accessFlags := 25, nameIndex := 106, descriptorIndex := 87, attributes := #[] }, { accessFlags := 25, nameIndex := 108, descriptorIndex := 87, attributes := #[] }, { accessFlags := 25, nameIndex := 110, descriptorIndex := 87, attributes := #[] }, { accessFlags := 25, nameIndex := 112, descriptorIndex := 87, attributes := #[] }, { accessFlags := 25, nameIndex := 114, descriptorIndex := 87, attributes := #[] }, { accessFlags := 25, nameIndex := 116, descriptorIndex := 87, attributes := #[] }, { accessFlags := 25, nameIndex := 118, descriptorIndex := 87, attributes := #[] }, { accessFlags := 25, nameIndex := 120, descriptorIndex := 87, attributes := #[] }, { accessFlags := 25, nameIndex := 122, descriptorIndex := 87, attributes := #[] }, { accessFlags := 25, nameIndex := 124, descriptorIndex := 87, attributes := #[] }, { accessFlags := 25, nameIndex := 126, descriptorIndex := 127, attributes := #[] }, { accessFlags := 25, nameIndex := 130, descriptorIndex := 87, attributes := #[] }])
  fields := #[{ name := "EK_MINIMAL", type := .int, accessFlags := 25, slot := 0, constantValue := 0 }, { name := "EK_COMPLETE", type := .int, accessFlags := 25, slot := 1, constantValue := 0 }, { name := "EK_BOTH", type := .int, accessFlags := 25, slot := 2, constantValue := 0 }, { name := "TK_NONE", type := .int, accessFlags := 25, slot := 3, constantValue := 0 }, { name := "HASH_LENGTH", type := .int, accessFlags := 25, slot := 4, constantValue := 0 }, { name := "LAST_NUMBER", type := .int, accessFlags := 25, slot := 5, constantValue := 0 }, { name := "CHAR8", type := .int, accessFlags := 25, slot := 6, constantValue := 0 }, { name := "CHAR16", type := .int, accessFlags := 25, slot := 7, constantValue := 0 }, { name := "STRING8_SMALL", type := .int, accessFlags := 25, slot := 8, constantValue := 0 }, { name := "STRING8_LARGE", type := .int, accessFlags := 25, slot := 9, constantValue := 0 }, { name := "STRING16_SMALL", type := .int, accessFlags := 25, slot := 10, constantValue := 0 }, { name := "STRING16_LARGE", type := .int, accessFlags := 25, slot := 11, constantValue := 0 }, { name := "PLAIN_SEQUENCE_SMALL", type := .int, accessFlags := 25, slot := 12, constantValue := 0 }, { name := "PLAIN_SEQUENCE_LARGE", type := .int, accessFlags := 25, slot := 13, constantValue := 0 }, { name := "PLAIN_ARRAY_SMALL", type := .int, accessFlags := 25, slot := 14, constantValue := 0 }, { name := "PLAIN_ARRAY_LARGE", type := .int, accessFlags := 25, slot := 15, constantValue := 0 }, { name := "PLAIN_MAP_SMALL", type := .int, accessFlags := 25, slot := 16, constantValue := 0 }, { name := "PLAIN_MAP_LARGE", type := .int, accessFlags := 25, slot := 17, constantValue := 0 }, { name := "STRONGLY_CONNECTED_COMPONENT", type := .int, accessFlags := 25, slot := 18, constantValue := 0 }, { name := "MAX_SMALL_BOUND", type := .long, accessFlags := 25, slot := 19, constantValue := 0 }, { name := "MAX_NESTING", type := .int, accessFlags := 25, slot := 20, constantValue := 0 }]
  methods := #[]
  instanceTypes := #[]
  staticTypes := #[.int, .int, .int, .int, .int, .int, .int, .int, .int, .int, .int, .int, .int, .int, .int, .int, .int, .int, .int, .long, .int]
  resolved := Array.replicate 158 none
  statics := none }

def pool4 : Array CpInfo := pool [(1, .methodref 2 3), (0, .class_ 4), (0, .nameAndType 5 6), (0, u "java/lang/Record"), (0, u "<init>"), (0, u "()V"), (0, .fieldref 8 9), (0, .class_ 10), (0, .nameAndType 11 12), (0, u "com/example/halyard/halyard/wire/TypeIdentifier$Text"), (0, u "kind"), (0, u "I"), (0, .fieldref 8 14), (0, .nameAndType 15 16), (0, u "bound"), (0, u "J"), (0, .class_ 18), (0, u "com/example/halyard/halyard/wire/TypeIdentifier"), (21, u "(IJ)V"), (4, u "()Z"), (0, u "wide")] 30

def k4c0 : Code := { maxStack := 3, maxLocals := 4, code := prog_166_method_1_code, exceptionTable := #[], attributes := #[] }
def k4m0 : Method := { name := "<init>", desc := "(IJ)V", sig := { parameters := [.int, .long], returnType := none }, accessFlags := 1, code := some k4c0 }
def k4c1 : Code := { maxStack := 2, maxLocals := 1, code := prog_166_method_3_code, exceptionTable := #[], attributes := #[] }
def k4m1 : Method := { name := "wide", desc := "()Z", sig := { parameters := [], returnType := some .boolean }, accessFlags := 0, code := some k4c1 }
/-- com/example/halyard/halyard/wire/TypeIdentifier$Text -/
def k4 : Class := { plain "com/example/halyard/halyard/wire/TypeIdentifier$Text" (some 2) with
  accessFlags := 49
  interfaces := #[3]
  cf := some (fileOf pool4 8 #[.nestHost 17] #[{ accessFlags := 1, nameIndex := 5, descriptorIndex := 40, attributes := #[] }, { accessFlags := 0, nameIndex := 46, descriptorIndex := 45, attributes := #[] }] 49 2 #[17] #[{ accessFlags := 18, nameIndex := 11, descriptorIndex := 12, attributes := #[] }, { accessFlags := 18, nameIndex := 15, descriptorIndex := 16, attributes := #[] }])
  fields := #[{ name := "kind", type := .int, accessFlags := 18, slot := 0, constantValue := 0 }, { name := "bound", type := .long, accessFlags := 18, slot := 1, constantValue := 0 }]
  methods := #[k4m0, k4m1]
  instanceTypes := #[.int, .long]
  staticTypes := #[]
  resolved := Array.replicate 77 none
  statics := none }

def pool5 : Array CpInfo := pool [(1, u "java/lang/Cloneable"), (0, .class_ 1), (0, u "java/lang/Object"), (0, .class_ 3)] 3

/-- java/lang/Cloneable -/
def k5 : Class := { plain "java/lang/Cloneable" (some 0) with
  accessFlags := 1537
  interfaces := #[]
  cf := some (fileOf pool5 2 #[] #[] 1537 4 #[] #[])
  fields := #[]
  methods := #[]
  instanceTypes := #[]
  staticTypes := #[]
  resolved := Array.replicate 8 none
  statics := none }

def pool6 : Array CpInfo := pool [(1, u "java/io/Serializable"), (0, .class_ 1), (0, u "java/lang/Object"), (0, .class_ 3)] 3

/-- java/io/Serializable -/
def k6 : Class := { plain "java/io/Serializable" (some 0) with
  accessFlags := 1537
  interfaces := #[]
  cf := some (fileOf pool6 2 #[] #[] 1537 4 #[] #[])
  fields := #[]
  methods := #[]
  instanceTypes := #[]
  staticTypes := #[]
  resolved := Array.replicate 8 none
  statics := none }

/-- the primitive byte -/
def k7 : Class := { plain "byte" none with kind := .primitive 'B', accessFlags := 0x411 }
/-- [B -/
def k8 : Class := { plain "[B" (some 0) with kind := .array 7 .byte, interfaces := #[5, 6], accessFlags := 1041 }

/-- the primitive int -/
def k9 : Class := { plain "int" none with kind := .primitive 'I', accessFlags := 0x411 }
/-- [I -/
def k10 : Class := { plain "[I" (some 0) with kind := .array 9 .int, interfaces := #[5, 6], accessFlags := 1041 }

def heap : Heap := #[]
def classes : Array Class := #[k0, k1, k2, k3, k4, k5, k6, k7, k8, k9, k10]
def interned : List (Array UInt16 × Addr) := []
def slotsUsed : Nat := 0
def theMethod : MethodId := ⟨1, 1⟩
def args0 : Array Value := #[.int 5, .int 3, .long 0]
def aboutOver (below : List Frame) : State where
  vm := { classes := classes, interned := interned.toArray }
  heap := heap
  slotsUsed := slotsUsed
  threads := #[{ frames := .invoking theMethod args0 :: below }]
def below0 : List Frame := [.native { method := ⟨0, 0⟩, args := #[] }]
def about1 : State := aboutOver below0
def p0 : Program := .bare "" "" ""
def e0 : Env := launch0.env 0 0 0
theorem w_frames : about1.frames = Frame.invoking theMethod args0 :: below0 := rfl
set_option maxRecDepth 65536 in
theorem w_args : argsFit about1.vm theMethod args0 = true := by decide +kernel
set_option maxRecDepth 65536 in
theorem w_heap : heapFits about1 = true := by decide +kernel
set_option maxRecDepth 65536 in
theorem w_runnable : about1.curStatus? = some .runnable := by decide +kernel
set_option maxRecDepth 65536 in
theorem w_alone : about1.alone = true := by decide +kernel
set_option maxRecDepth 65536 in
theorem w_named : about1.methodNamed? x = some theMethod := by decide +kernel
set_option maxRecDepth 65536 in
theorem w_hears : about1.hears theMethod below0 = true := by decide +kernel
set_option maxRecDepth 65536 in
theorem w_ripe : about1.ripe theMethod args0 below0 = true := by decide +kernel
theorem w_running : about1.status = .running := rfl
set_option maxRecDepth 65536 in
theorem w_room : about1.hasRoom e0.platform room_1 = true :=
  launch0.hasRoom_least _ room_1 (by decide +kernel) (by decide +kernel) (by decide +kernel) (by decide +kernel) (by decide +kernel) (by decide +kernel)
theorem allAtoms_all (ts : List Jvm.Cond) (a : Array Jvm.Value) (st : Jvm.State) : (allAtoms ts).before a st = ts.all (fun c => c.before a st) := by
  induction ts with
  | nil => rfl
  | cons c t ih =>
    show (Jvm.Cond.and c (allAtoms t)).before a st = _
    rw [Jvm.Cond.before_and, ih, List.all_cons]
def words1 : List Jvm.Cond := Jvm.Cond.code x code maxLocals ret :: tables_1
/-- a 'code' word, met by the world's own term for the bytes: nothing is compared byte by byte -/
theorem code_word {y : MethodName} {bytes : ByteArray} {mx : Nat} {rt : Option FieldType} {a : Array Value} {s : State} {m : MethodId} {meth : Method} {c : Code} (h1 : s.methodNamed? y = some m) (h2 : s.vm.method? m = some meth) (h3 : meth.code = some c) (h4 : c.code = bytes)
    (h5 : (c.maxLocals == mx && c.exceptionTable.isEmpty && decide (c.maxStack ≤ mostOperands) && decide (meth.sig.returnType = rt) && !meth.locks && decide (parseMethodDescriptor y.desc = some meth.sig)) = true) : (Jvm.Cond.code y bytes mx rt).before a s = true := by
  simp only [Bool.and_eq_true, beq_iff_eq, Bool.not_eq_true', decide_eq_true_eq] at h5
  obtain ⟨⟨⟨⟨⟨g1, g2⟩, g3⟩, g4⟩, g5⟩, g6⟩ := h5
  simp [Cond.before, Cond.holds, Cond.value, h1, h2, h3, h4, g1, g2, g3, g4, g5, g6]
def isCode : Jvm.Cond → Bool
  | .code _ _ _ _ => true
  | _ => false
theorem all_split {L : List Jvm.Cond} {P : Jvm.Cond → Bool} (h1 : L.all (fun c => isCode c || P c) = true) (h2 : ∀ c ∈ L.filter isCode, P c = true) : L.all P = true := by
  refine List.all_eq_true.mpr fun c hc => ?_
  have h := List.all_eq_true.mp h1 c hc
  rcases Bool.eq_false_or_eq_true (isCode c) with hi | hi
  · exact h2 c (List.mem_filter.mpr ⟨hc, hi⟩)
  · simpa [hi] using h
set_option maxRecDepth 65536 in
theorem w_c0 : (Jvm.Cond.code x code maxLocals ret).before args0 about1 = true := code_word (m := ⟨1, 1⟩) (meth := k1m1) (c := k1c1) (by decide +kernel) rfl rfl rfl (by decide +kernel)
set_option maxRecDepth 65536 in
theorem w_c1 : (Jvm.Cond.code ({ cls := "com/example/halyard/halyard/wire/TypeIdentifier$Text", name := "<init>", desc := "(IJ)V" } : Jvm.MethodName) prog_166_method_1_code (4 : Nat) (Option.none : Option Jvm.ClassFile.FieldType)).before args0 about1 = true := code_word (m := ⟨4, 0⟩) (meth := k4m0) (c := k4c0) (by decide +kernel) rfl rfl rfl (by decide +kernel)
set_option maxRecDepth 65536 in
theorem w_c2 : (Jvm.Cond.code ({ cls := "java/lang/Record", name := "<init>", desc := "()V" } : Jvm.MethodName) jdk_30_method_1_code (1 : Nat) (Option.none : Option Jvm.ClassFile.FieldType)).before args0 about1 = true := code_word (m := ⟨2, 0⟩) (meth := k2m0) (c := k2c0) (by decide +kernel) rfl rfl rfl (by decide +kernel)
set_option maxRecDepth 65536 in
theorem w_c3 : (Jvm.Cond.code ({ cls := "java/lang/Object", name := "<init>", desc := "()V" } : Jvm.MethodName) object_method_1_code (1 : Nat) (Option.none : Option Jvm.ClassFile.FieldType)).before args0 about1 = true := code_word (m := ⟨0, 0⟩) (meth := k0m0) (c := k0c0) (by decide +kernel) rfl rfl rfl (by decide +kernel)
set_option maxRecDepth 65536 in
theorem w_c4 : (Jvm.Cond.code ({ cls := "com/example/halyard/halyard/wire/TypeIdentifier$Text", name := "wide", desc := "()Z" } : Jvm.MethodName) prog_166_method_3_code (1 : Nat) (Option.some Jvm.ClassFile.FieldType.boolean)).before args0 about1 = true := code_word (m := ⟨4, 1⟩) (meth := k4m1) (c := k4c1) (by decide +kernel) rfl rfl rfl (by decide +kernel)
def codes1 : List Jvm.Cond := [Jvm.Cond.code x code maxLocals ret, Jvm.Cond.code ({ cls := "com/example/halyard/halyard/wire/TypeIdentifier$Text", name := "<init>", desc := "(IJ)V" } : Jvm.MethodName) prog_166_method_1_code (4 : Nat) (Option.none : Option Jvm.ClassFile.FieldType), Jvm.Cond.code ({ cls := "java/lang/Record", name := "<init>", desc := "()V" } : Jvm.MethodName) jdk_30_method_1_code (1 : Nat) (Option.none : Option Jvm.ClassFile.FieldType), Jvm.Cond.code ({ cls := "java/lang/Object", name := "<init>", desc := "()V" } : Jvm.MethodName) object_method_1_code (1 : Nat) (Option.none : Option Jvm.ClassFile.FieldType), Jvm.Cond.code ({ cls := "com/example/halyard/halyard/wire/TypeIdentifier$Text", name := "wide", desc := "()Z" } : Jvm.MethodName) prog_166_method_3_code (1 : Nat) (Option.some Jvm.ClassFile.FieldType.boolean)]
set_option maxRecDepth 65536 in
theorem codes_eq : words1.filter isCode = codes1 := rfl
theorem w_codes : ∀ c ∈ words1.filter isCode, c.before args0 about1 = true := by
  rw [codes_eq]
  intro c hc
  simp only [codes1, List.mem_cons, List.not_mem_nil, or_false] at hc
  rcases hc with rfl | rfl | rfl | rfl | rfl
  · exact w_c0
  · exact w_c1
  · exact w_c2
  · exact w_c3
  · exact w_c4
set_option maxRecDepth 65536 in
theorem w_t1 : words1.all (fun c => isCode c || c.before args0 about1) = true := by decide +kernel
theorem w_tables : (allAtoms (Jvm.Cond.code x code maxLocals ret :: tables_1)).before args0 about1 = true := by
  rw [allAtoms_all]
  show words1.all (fun c => c.before args0 about1) = true
  refine all_split ?_ w_codes
  rw [w_t1]
set_option maxRecDepth 65536 in
theorem w_case : (Jvm.Cond.and given_1 narrow_1).before args0 about1 = true := by decide +kernel
theorem w_applies : (headSpec (Jvm.Cond.code x code maxLocals ret :: tables_1) room_1).applies x e0.platform about1 = true :=
  (Spec.applies_iff w_frames).mpr ⟨w_running, w_runnable, w_alone, w_named, w_hears, w_ripe, w_room, w_tables⟩
theorem atStart : AtStart classFile x code maxLocals ret World_1 tables_1 room_1 Calls_1 rest_1 Pre_1 launch0 p0 e0 about1 theMethod args0 below0 :=
  ⟨lists_1, trivial, launch0.admits_env _ _ _, launch0.least_env, fairChoices_fair.cas, fairChoices_fair.clock, w_frames, w_args, w_heap, w_applies, trivial, trivial, w_case⟩
end start1
theorem witness_1 : WitnessClaimed_1 := ⟨start1.p0, start1.e0, start1.about1, start1.theMethod, start1.args0, start1.below0, start1.atStart⟩
end Jvm.Pilot.@@N@@
