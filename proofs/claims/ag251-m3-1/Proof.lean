import JvmDerived
import JvmDerived.Pilot.@@N@@Statement
import JvmDerived.Pilot.@@N@@Code
set_option linter.unusedVariables false
set_option linter.unusedSimpArgs false
@@BLOCK:NumsL.lean.txt@@
namespace Jvm.Pilot.@@N@@
open Jvm Jvm.ClassFile Sem Op Lib Jvm.Free Jvm.Stand Jvm.LawKit Jvm.RoadKit Bundle Jvm.Pilot.@@N@@.Jvm.D
section GoKit
variable {p : Program} {l : Launch} {e : Env} {R : Room} {s : State} {m : MethodId} {args : Array Value} {below : List Frame} {meth : Method} {c : Code} {T : State} {Z : State} {own nm : String} {bytes : ByteArray} {mx : Nat} {rt : Option FieldType} {n0 k n : Nat} {h : Heap} {Q : Option Value → Heap → Prop} {CC NN : Nat} {a0 : Array Value} {Ls Ls' : Array Slot} {rest : List Value} {pc pc' : Nat}
/-- where a walk stands -/
def W (Z : State) (own nm : String) (bytes : ByteArray) (mx : Nat) (rt : Option FieldType) (n0 : Nat) (p : Program) (l : Launch) (e : Env) (R : Room) (s : State) (m : MethodId) (args : Array Value) (below : List Frame) (meth : Method) (c : Code) (k n : Nat) (T : State) (h : Heap) : Prop :=
  p.tables.exec = Jvm.exec ∧ c.code = bytes ∧ s.vm.findClass own = some m.cls ∧ Z.Warmed39 s.vm ∧ c.maxLocals = mx ∧ meth.name = nm ∧ meth.sig.returnType = rt ∧ meth.locks = false ∧ (∃ L, Stand p l e R s m args below meth c T L k n ∧ Fr n0 L) ∧ T.heap = h
/-- from this frame the method ends well -/
def Go (n0 : Nat) (p : Program) (e : Env) (below : List Frame) (s : State) (Q : Option Value → Heap → Prop) (CC NN : Nat) (T : State) (g : JFrame) : Prop :=
  ∃ s₂ o, Steps p.tables e below (T.setTop g) s₂ ∧ s₂.status = .running ∧ Ended s₂ below o ∧ ∃ v L, o = .returned v ∧ (Fr n0 L ∧ Q v s₂.heap) ∧ FrameEnd s o s₂ L CC NN
/-- a body's contract: of these arguments, at this heap -/
def Ctr (l : Launch) (y : MethodName) (yb : ByteArray) (ymx : Nat) (yr : Option FieldType) (rm : Room) (Z : State) (as : Array Value) (h0 : Heap) (n0 : Nat) (Q : Option Value → Heap → Prop) (ws : List Jvm.Cond) : Prop :=
  MetFree l y (head1 (Jvm.Cond.code y yb ymx yr :: ws) rm) (fun a U => a = as ∧ Z.Warmed39 U.vm ∧ U.heap = h0) (fun _ _ _ _ _ => True) (fun _ U o U' => ∃ v L, o = .returned v ∧ (Fr n0 L ∧ Q v U'.heap) ∧ FrameEnd U o U' L rm.cells rm.slots)
theorem metGo {y : MethodName} {rm : Room} {as : Array Value} {ws : List Jvm.Cond} (hpn : plainFor y = true) (hef : ∀ m, entryFrame m as mx = mkF m 0 Ls [])
    (H : ∀ (p : Program) (e : Env) (s : State) (m : MethodId) (below : List Frame) (meth : Method) (c : Code) (T : State), W Z y.cls y.name bytes mx rt n0 p l e rm s m as below meth c 0 0 T h → Go n0 p e below s Q rm.cells rm.slots T (mkF m 0 Ls [])) : Ctr l y bytes mx rt rm Z as h n0 Q ws := by
  refine MetFree.of_bodySF hpn hisR ?_
  intro p e s m args below meth c s₁ Bd hml0 hP hK
  obtain ⟨rfl, hZ, hh⟩ := hP
  have e0 : s₁.heap = h := by rw [← hh, Bd.state]; rfl
  obtain ⟨s₂, o, st, r⟩ := H p e s m below meth c s₁ ⟨Bd.exec, Bd.bytes, findClass_of_methodNamed Bd.named, hZ, hml0, (name_of_methodNamed Bd.named Bd.method).1, Bd.returns, Bd.notSynchronized, ⟨[], Stand.of_body Bd, Fr.nil n0⟩, e0⟩
  exact ⟨s₂, o, castTop (hef m) st, r⟩
def cY : ClassFile.Cond → Int32 → Int32 → Prop
  | .eq, x, y => x = y
  | .ne, x, y => ¬ x = y
  | .lt, x, y => x < y
  | .ge, x, y => ¬ x < y
  | .gt, x, y => y < x
  | .le, x, y => ¬ y < x
def cN : ClassFile.Cond → Int32 → Int32 → Prop
  | .eq, x, y => ¬ x = y
  | .ne, x, y => x = y
  | .lt, x, y => ¬ x < y
  | .ge, x, y => x < y
  | .gt, x, y => ¬ y < x
  | .le, x, y => y < x
def lY : ClassFile.Cond → Int64 → Int64 → Prop
  | .eq, x, y => x = y
  | .ne, x, y => ¬ x = y
  | .lt, x, y => x < y
  | .ge, x, y => ¬ x < y
  | .gt, x, y => y < x
  | .le, x, y => ¬ y < x
def lN : ClassFile.Cond → Int64 → Int64 → Prop
  | .eq, x, y => ¬ x = y
  | .ne, x, y => x = y
  | .lt, x, y => ¬ x < y
  | .ge, x, y => x < y
  | .gt, x, y => ¬ y < x
  | .le, x, y => y < x
theorem c_or (cd : ClassFile.Cond) (x y : Int32) : (cY cd x y ∧ if_icmp.holds cd x y = true) ∨ (cN cd x y ∧ if_icmp.holds cd x y = false) := by
  cases cd
  · by_cases q : x = y
    · exact Or.inl ⟨q, (teq q).1⟩
    · exact Or.inr ⟨q, (feq q).1⟩
  · by_cases q : x = y
    · exact Or.inr ⟨q, (teq q).2⟩
    · exact Or.inl ⟨q, (feq q).2⟩
  · by_cases q : x < y
    · exact Or.inl ⟨q, (tlt q).1⟩
    · exact Or.inr ⟨q, (flt q).1⟩
  · by_cases q : x < y
    · exact Or.inr ⟨q, (tlt q).2.1⟩
    · exact Or.inl ⟨q, (flt q).2.1⟩
  · by_cases q : y < x
    · exact Or.inl ⟨q, (tlt q).2.2.1⟩
    · exact Or.inr ⟨q, (flt q).2.2.1⟩
  · by_cases q : y < x
    · exact Or.inr ⟨q, (tlt q).2.2.2⟩
    · exact Or.inl ⟨q, (flt q).2.2.2⟩
theorem lY_of (cd : ClassFile.Cond) (x y : Int64) (q : cY cd (lcmpW x y) 0) : lY cd x y := by
  cases cd
  · exact (lw_eq x y).mp q
  · exact fun r => q ((lw_eq x y).mpr r)
  · exact (lw_lt x y).mp q
  · exact fun r => q ((lw_lt x y).mpr r)
  · exact (lw_gt x y).mp q
  · exact fun r => q ((lw_gt x y).mpr r)
theorem lN_of (cd : ClassFile.Cond) (x y : Int64) (q : cN cd (lcmpW x y) 0) : lN cd x y := by
  cases cd
  · exact fun r => q ((lw_eq x y).mpr r)
  · exact (lw_eq x y).mp q
  · exact fun r => q ((lw_lt x y).mpr r)
  · exact (lw_lt x y).mp q
  · exact fun r => q ((lw_gt x y).mpr r)
  · exact (lw_gt x y).mp q

theorem giload (w : W Z own nm bytes mx rt n0 p l e R s m args below meth c k n T h) {j : Nat} {v : Int32} (hd : decode bytes pc = .ok (.iload j, 2)) (hl : Ls[j]? = some (.val (.int v))) (hp : pc + 2 = pc') (K : Go n0 p e below s Q CC NN T (mkF m pc' Ls (.int v :: rest))) : Go n0 p e below s Q CC NN T (mkF m pc Ls (rest)) := by
  obtain ⟨hx, hb, -, -, -, -, -, -, ⟨L, X, -⟩, -⟩ := w
  obtain ⟨s₂, o, st, r⟩ := K
  subst hp hb
  exact ⟨s₂, o, XS.iload X.here hx rfl hd hl st, r⟩
theorem giloadN (w : W Z own nm bytes mx rt n0 p l e R s m args below meth c k n T h) {j : Fin 4} {v : Int32} (hd : decode bytes pc = .ok (.iload_n j, 1)) (hl : Ls[j.val]? = some (.val (.int v))) (hp : pc + 1 = pc') (K : Go n0 p e below s Q CC NN T (mkF m pc' Ls (.int v :: rest))) : Go n0 p e below s Q CC NN T (mkF m pc Ls (rest)) := by
  obtain ⟨hx, hb, -, -, -, -, -, -, ⟨L, X, -⟩, -⟩ := w
  obtain ⟨s₂, o, st, r⟩ := K
  subst hp hb
  exact ⟨s₂, o, XS.iloadN X.here hx rfl hd hl st, r⟩
theorem glload (w : W Z own nm bytes mx rt n0 p l e R s m args below meth c k n T h) {j : Nat} {v : Int64} (hd : decode bytes pc = .ok (.lload j, 2)) (hl : Ls[j]? = some (.val (.long v))) (hp : pc + 2 = pc') (K : Go n0 p e below s Q CC NN T (mkF m pc' Ls (.long v :: rest))) : Go n0 p e below s Q CC NN T (mkF m pc Ls (rest)) := by
  obtain ⟨hx, hb, -, -, -, -, -, -, ⟨L, X, -⟩, -⟩ := w
  obtain ⟨s₂, o, st, r⟩ := K
  subst hp hb
  exact ⟨s₂, o, XS.lload X.here hx rfl hd hl st, r⟩
theorem glloadN (w : W Z own nm bytes mx rt n0 p l e R s m args below meth c k n T h) {j : Fin 4} {v : Int64} (hd : decode bytes pc = .ok (.lload_n j, 1)) (hl : Ls[j.val]? = some (.val (.long v))) (hp : pc + 1 = pc') (K : Go n0 p e below s Q CC NN T (mkF m pc' Ls (.long v :: rest))) : Go n0 p e below s Q CC NN T (mkF m pc Ls (rest)) := by
  obtain ⟨hx, hb, -, -, -, -, -, -, ⟨L, X, -⟩, -⟩ := w
  obtain ⟨s₂, o, st, r⟩ := K
  subst hp hb
  exact ⟨s₂, o, XS.lloadN X.here hx rfl hd hl st, r⟩
theorem gaload (w : W Z own nm bytes mx rt n0 p l e R s m args below meth c k n T h) {j : Nat} {v : Value} (hd : decode bytes pc = .ok (.aload j, 2)) (hl : Ls[j]? = some (.val v)) (hv : v.isRef = true) (hp : pc + 2 = pc') (K : Go n0 p e below s Q CC NN T (mkF m pc' Ls (v :: rest))) : Go n0 p e below s Q CC NN T (mkF m pc Ls (rest)) := by
  obtain ⟨hx, hb, -, -, -, -, -, -, ⟨L, X, -⟩, -⟩ := w
  obtain ⟨s₂, o, st, r⟩ := K
  subst hp hb
  exact ⟨s₂, o, XS.aload X.here hx rfl hd hl hv st, r⟩
theorem galoadN (w : W Z own nm bytes mx rt n0 p l e R s m args below meth c k n T h) {j : Fin 4} {v : Value} (hd : decode bytes pc = .ok (.aload_n j, 1)) (hl : Ls[j.val]? = some (.val v)) (hv : v.isRef = true) (hp : pc + 1 = pc') (K : Go n0 p e below s Q CC NN T (mkF m pc' Ls (v :: rest))) : Go n0 p e below s Q CC NN T (mkF m pc Ls (rest)) := by
  obtain ⟨hx, hb, -, -, -, -, -, -, ⟨L, X, -⟩, -⟩ := w
  obtain ⟨s₂, o, st, r⟩ := K
  subst hp hb
  exact ⟨s₂, o, XS.aloadN X.here hx rfl hd hl hv st, r⟩
theorem gistore (w : W Z own nm bytes mx rt n0 p l e R s m args below meth c k n T h) {j : Nat} {v : Int32} (hd : decode bytes pc = .ok (.istore j, 2)) (hl : storeLocals Ls j (.int v) = some Ls') (hp : pc + 2 = pc') (K : Go n0 p e below s Q CC NN T (mkF m pc' Ls' (rest))) : Go n0 p e below s Q CC NN T (mkF m pc Ls (.int v :: rest)) := by
  obtain ⟨hx, hb, -, -, -, -, -, -, ⟨L, X, -⟩, -⟩ := w
  obtain ⟨s₂, o, st, r⟩ := K
  subst hp hb
  exact ⟨s₂, o, XS.istore X.here hx rfl hd rfl hl st, r⟩
theorem gistoreN (w : W Z own nm bytes mx rt n0 p l e R s m args below meth c k n T h) {j : Fin 4} {v : Int32} (hd : decode bytes pc = .ok (.istore_n j, 1)) (hl : storeLocals Ls j.val (.int v) = some Ls') (hp : pc + 1 = pc') (K : Go n0 p e below s Q CC NN T (mkF m pc' Ls' (rest))) : Go n0 p e below s Q CC NN T (mkF m pc Ls (.int v :: rest)) := by
  obtain ⟨hx, hb, -, -, -, -, -, -, ⟨L, X, -⟩, -⟩ := w
  obtain ⟨s₂, o, st, r⟩ := K
  subst hp hb
  exact ⟨s₂, o, XS.istoreN X.here hx rfl hd rfl hl st, r⟩
theorem glstore (w : W Z own nm bytes mx rt n0 p l e R s m args below meth c k n T h) {j : Nat} {v : Int64} (hd : decode bytes pc = .ok (.lstore j, 2)) (hl : storeLocals Ls j (.long v) = some Ls') (hp : pc + 2 = pc') (K : Go n0 p e below s Q CC NN T (mkF m pc' Ls' (rest))) : Go n0 p e below s Q CC NN T (mkF m pc Ls (.long v :: rest)) := by
  obtain ⟨hx, hb, -, -, -, -, -, -, ⟨L, X, -⟩, -⟩ := w
  obtain ⟨s₂, o, st, r⟩ := K
  subst hp hb
  exact ⟨s₂, o, XS.lstore X.here hx rfl hd rfl hl st, r⟩
theorem glstoreN (w : W Z own nm bytes mx rt n0 p l e R s m args below meth c k n T h) {j : Fin 4} {v : Int64} (hd : decode bytes pc = .ok (.lstore_n j, 1)) (hl : storeLocals Ls j.val (.long v) = some Ls') (hp : pc + 1 = pc') (K : Go n0 p e below s Q CC NN T (mkF m pc' Ls' (rest))) : Go n0 p e below s Q CC NN T (mkF m pc Ls (.long v :: rest)) := by
  obtain ⟨hx, hb, -, -, -, -, -, -, ⟨L, X, -⟩, -⟩ := w
  obtain ⟨s₂, o, st, r⟩ := K
  subst hp hb
  exact ⟨s₂, o, XS.lstoreN X.here hx rfl hd rfl hl st, r⟩
theorem gastore (w : W Z own nm bytes mx rt n0 p l e R s m args below meth c k n T h) {j : Nat} {v : Value} (hd : decode bytes pc = .ok (.astore j, 2)) (hv : v.isRef = true) (hl : storeLocals Ls j v = some Ls') (hp : pc + 2 = pc') (K : Go n0 p e below s Q CC NN T (mkF m pc' Ls' (rest))) : Go n0 p e below s Q CC NN T (mkF m pc Ls (v :: rest)) := by
  obtain ⟨hx, hb, -, -, -, -, -, -, ⟨L, X, -⟩, -⟩ := w
  obtain ⟨s₂, o, st, r⟩ := K
  subst hp hb
  exact ⟨s₂, o, XS.astore X.here hx rfl hd rfl hv hl st, r⟩
theorem gastoreN (w : W Z own nm bytes mx rt n0 p l e R s m args below meth c k n T h) {j : Fin 4} {v : Value} (hd : decode bytes pc = .ok (.astore_n j, 1)) (hv : v.isRef = true) (hl : storeLocals Ls j.val v = some Ls') (hp : pc + 1 = pc') (K : Go n0 p e below s Q CC NN T (mkF m pc' Ls' (rest))) : Go n0 p e below s Q CC NN T (mkF m pc Ls (v :: rest)) := by
  obtain ⟨hx, hb, -, -, -, -, -, -, ⟨L, X, -⟩, -⟩ := w
  obtain ⟨s₂, o, st, r⟩ := K
  subst hp hb
  exact ⟨s₂, o, XS.astoreN X.here hx rfl hd rfl hv hl st, r⟩
theorem giinc (w : W Z own nm bytes mx rt n0 p l e R s m args below meth c k n T h) {j : Nat} {i : Int} {v : Int32} (hd : decode bytes pc = .ok (.iinc j i, 3)) (hl : Ls[j]? = some (.val (.int v))) (hl' : storeLocals Ls j (.int (v + Int32.ofInt i)) = some Ls') (hp : pc + 3 = pc') (K : Go n0 p e below s Q CC NN T (mkF m pc' Ls' (rest))) : Go n0 p e below s Q CC NN T (mkF m pc Ls (rest)) := by
  obtain ⟨hx, hb, -, -, -, -, -, -, ⟨L, X, -⟩, -⟩ := w
  obtain ⟨s₂, o, st, r⟩ := K
  subst hp hb
  exact ⟨s₂, o, XS.iinc X.here hx rfl hd hl hl' st, r⟩
theorem giconst (w : W Z own nm bytes mx rt n0 p l e R s m args below meth c k n T h) {i : Int} {v : Int32} (hd : decode bytes pc = .ok (.iconst i, 1)) (hv : Int32.ofInt i = v) (hp : pc + 1 = pc') (K : Go n0 p e below s Q CC NN T (mkF m pc' Ls (.int v :: rest))) : Go n0 p e below s Q CC NN T (mkF m pc Ls (rest)) := by
  obtain ⟨hx, hb, -, -, -, -, -, -, ⟨L, X, -⟩, -⟩ := w
  obtain ⟨s₂, o, st, r⟩ := K
  subst hp hb hv
  exact ⟨s₂, o, XS.iconst X.here hx rfl hd st, r⟩
theorem gbipush (w : W Z own nm bytes mx rt n0 p l e R s m args below meth c k n T h) {i : Int} {v : Int32} (hd : decode bytes pc = .ok (.bipush i, 2)) (hv : (Int8.ofInt i).toInt32 = v) (hp : pc + 2 = pc') (K : Go n0 p e below s Q CC NN T (mkF m pc' Ls (.int v :: rest))) : Go n0 p e below s Q CC NN T (mkF m pc Ls (rest)) := by
  obtain ⟨hx, hb, -, -, -, -, -, -, ⟨L, X, -⟩, -⟩ := w
  obtain ⟨s₂, o, st, r⟩ := K
  subst hp hb hv
  exact ⟨s₂, o, XS.bipush X.here hx rfl hd st, r⟩
theorem gsipush (w : W Z own nm bytes mx rt n0 p l e R s m args below meth c k n T h) {i : Int} {v : Int32} (hd : decode bytes pc = .ok (.sipush i, 3)) (hv : (Int16.ofInt i).toInt32 = v) (hp : pc + 3 = pc') (K : Go n0 p e below s Q CC NN T (mkF m pc' Ls (.int v :: rest))) : Go n0 p e below s Q CC NN T (mkF m pc Ls (rest)) := by
  obtain ⟨hx, hb, -, -, -, -, -, -, ⟨L, X, -⟩, -⟩ := w
  obtain ⟨s₂, o, st, r⟩ := K
  subst hp hb hv
  exact ⟨s₂, o, XS.sipush X.here hx rfl hd st, r⟩
theorem glconst (w : W Z own nm bytes mx rt n0 p l e R s m args below meth c k n T h) {i : Fin 2} {v : Int64} (hd : decode bytes pc = .ok (.lconst i, 1)) (hv : Int64.ofNat i = v) (hp : pc + 1 = pc') (K : Go n0 p e below s Q CC NN T (mkF m pc' Ls (.long v :: rest))) : Go n0 p e below s Q CC NN T (mkF m pc Ls (rest)) := by
  obtain ⟨hx, hb, -, -, -, -, -, -, ⟨L, X, -⟩, -⟩ := w
  obtain ⟨s₂, o, st, r⟩ := K
  subst hp hb hv
  exact ⟨s₂, o, XS.lconst X.here hx rfl hd st, r⟩
theorem gnull (w : W Z own nm bytes mx rt n0 p l e R s m args below meth c k n T h) (hd : decode bytes pc = .ok (.aconst_null, 1)) (hp : pc + 1 = pc') (K : Go n0 p e below s Q CC NN T (mkF m pc' Ls (.null :: rest))) : Go n0 p e below s Q CC NN T (mkF m pc Ls (rest)) := by
  obtain ⟨hx, hb, -, -, -, -, -, -, ⟨L, X, -⟩, -⟩ := w
  obtain ⟨s₂, o, st, r⟩ := K
  subst hp hb
  exact ⟨s₂, o, XS.aconstNull X.here hx rfl hd  st, r⟩
theorem giadd (w : W Z own nm bytes mx rt n0 p l e R s m args below meth c k n T h) {x y : Int32} (hd : decode bytes pc = .ok (.iadd, 1)) (hp : pc + 1 = pc') (K : Go n0 p e below s Q CC NN T (mkF m pc' Ls (.int (x + y) :: rest))) : Go n0 p e below s Q CC NN T (mkF m pc Ls (.int y :: .int x :: rest)) := by
  obtain ⟨hx, hb, -, -, -, -, -, -, ⟨L, X, -⟩, -⟩ := w
  obtain ⟨s₂, o, st, r⟩ := K
  subst hp hb
  exact ⟨s₂, o, XS.iadd X.here hx rfl hd rfl st, r⟩
theorem gladd (w : W Z own nm bytes mx rt n0 p l e R s m args below meth c k n T h) {x y : Int64} (hd : decode bytes pc = .ok (.ladd, 1)) (hp : pc + 1 = pc') (K : Go n0 p e below s Q CC NN T (mkF m pc' Ls (.long (x + y) :: rest))) : Go n0 p e below s Q CC NN T (mkF m pc Ls (.long y :: .long x :: rest)) := by
  obtain ⟨hx, hb, -, -, -, -, -, -, ⟨L, X, -⟩, -⟩ := w
  obtain ⟨s₂, o, st, r⟩ := K
  subst hp hb
  exact ⟨s₂, o, XS.ladd X.here hx rfl hd rfl st, r⟩
theorem gisub (w : W Z own nm bytes mx rt n0 p l e R s m args below meth c k n T h) {x y : Int32} (hd : decode bytes pc = .ok (.isub, 1)) (hp : pc + 1 = pc') (K : Go n0 p e below s Q CC NN T (mkF m pc' Ls (.int (x - y) :: rest))) : Go n0 p e below s Q CC NN T (mkF m pc Ls (.int y :: .int x :: rest)) := by
  obtain ⟨hx, hb, -, -, -, -, -, -, ⟨L, X, -⟩, -⟩ := w
  obtain ⟨s₂, o, st, r⟩ := K
  subst hp hb
  exact ⟨s₂, o, XS.isub X.here hx rfl hd rfl st, r⟩
theorem glsub (w : W Z own nm bytes mx rt n0 p l e R s m args below meth c k n T h) {x y : Int64} (hd : decode bytes pc = .ok (.lsub, 1)) (hp : pc + 1 = pc') (K : Go n0 p e below s Q CC NN T (mkF m pc' Ls (.long (x - y) :: rest))) : Go n0 p e below s Q CC NN T (mkF m pc Ls (.long y :: .long x :: rest)) := by
  obtain ⟨hx, hb, -, -, -, -, -, -, ⟨L, X, -⟩, -⟩ := w
  obtain ⟨s₂, o, st, r⟩ := K
  subst hp hb
  exact ⟨s₂, o, XS.lsub X.here hx rfl hd rfl st, r⟩
theorem gimul (w : W Z own nm bytes mx rt n0 p l e R s m args below meth c k n T h) {x y : Int32} (hd : decode bytes pc = .ok (.imul, 1)) (hp : pc + 1 = pc') (K : Go n0 p e below s Q CC NN T (mkF m pc' Ls (.int (x * y) :: rest))) : Go n0 p e below s Q CC NN T (mkF m pc Ls (.int y :: .int x :: rest)) := by
  obtain ⟨hx, hb, -, -, -, -, -, -, ⟨L, X, -⟩, -⟩ := w
  obtain ⟨s₂, o, st, r⟩ := K
  subst hp hb
  exact ⟨s₂, o, XS.imul X.here hx rfl hd rfl st, r⟩
theorem glmul (w : W Z own nm bytes mx rt n0 p l e R s m args below meth c k n T h) {x y : Int64} (hd : decode bytes pc = .ok (.lmul, 1)) (hp : pc + 1 = pc') (K : Go n0 p e below s Q CC NN T (mkF m pc' Ls (.long (x * y) :: rest))) : Go n0 p e below s Q CC NN T (mkF m pc Ls (.long y :: .long x :: rest)) := by
  obtain ⟨hx, hb, -, -, -, -, -, -, ⟨L, X, -⟩, -⟩ := w
  obtain ⟨s₂, o, st, r⟩ := K
  subst hp hb
  exact ⟨s₂, o, XS.lmul X.here hx rfl hd rfl st, r⟩
theorem giand (w : W Z own nm bytes mx rt n0 p l e R s m args below meth c k n T h) {x y : Int32} (hd : decode bytes pc = .ok (.iand, 1)) (hp : pc + 1 = pc') (K : Go n0 p e below s Q CC NN T (mkF m pc' Ls (.int (x &&& y) :: rest))) : Go n0 p e below s Q CC NN T (mkF m pc Ls (.int y :: .int x :: rest)) := by
  obtain ⟨hx, hb, -, -, -, -, -, -, ⟨L, X, -⟩, -⟩ := w
  obtain ⟨s₂, o, st, r⟩ := K
  subst hp hb
  exact ⟨s₂, o, XS.iand X.here hx rfl hd rfl st, r⟩
theorem gland (w : W Z own nm bytes mx rt n0 p l e R s m args below meth c k n T h) {x y : Int64} (hd : decode bytes pc = .ok (.land, 1)) (hp : pc + 1 = pc') (K : Go n0 p e below s Q CC NN T (mkF m pc' Ls (.long (x &&& y) :: rest))) : Go n0 p e below s Q CC NN T (mkF m pc Ls (.long y :: .long x :: rest)) := by
  obtain ⟨hx, hb, -, -, -, -, -, -, ⟨L, X, -⟩, -⟩ := w
  obtain ⟨s₂, o, st, r⟩ := K
  subst hp hb
  exact ⟨s₂, o, XS.land X.here hx rfl hd rfl st, r⟩
theorem gior (w : W Z own nm bytes mx rt n0 p l e R s m args below meth c k n T h) {x y : Int32} (hd : decode bytes pc = .ok (.ior, 1)) (hp : pc + 1 = pc') (K : Go n0 p e below s Q CC NN T (mkF m pc' Ls (.int (x ||| y) :: rest))) : Go n0 p e below s Q CC NN T (mkF m pc Ls (.int y :: .int x :: rest)) := by
  obtain ⟨hx, hb, -, -, -, -, -, -, ⟨L, X, -⟩, -⟩ := w
  obtain ⟨s₂, o, st, r⟩ := K
  subst hp hb
  exact ⟨s₂, o, XS.ior X.here hx rfl hd rfl st, r⟩
theorem glor (w : W Z own nm bytes mx rt n0 p l e R s m args below meth c k n T h) {x y : Int64} (hd : decode bytes pc = .ok (.lor, 1)) (hp : pc + 1 = pc') (K : Go n0 p e below s Q CC NN T (mkF m pc' Ls (.long (x ||| y) :: rest))) : Go n0 p e below s Q CC NN T (mkF m pc Ls (.long y :: .long x :: rest)) := by
  obtain ⟨hx, hb, -, -, -, -, -, -, ⟨L, X, -⟩, -⟩ := w
  obtain ⟨s₂, o, st, r⟩ := K
  subst hp hb
  exact ⟨s₂, o, XS.lor X.here hx rfl hd rfl st, r⟩
theorem gixor (w : W Z own nm bytes mx rt n0 p l e R s m args below meth c k n T h) {x y : Int32} (hd : decode bytes pc = .ok (.ixor, 1)) (hp : pc + 1 = pc') (K : Go n0 p e below s Q CC NN T (mkF m pc' Ls (.int (x ^^^ y) :: rest))) : Go n0 p e below s Q CC NN T (mkF m pc Ls (.int y :: .int x :: rest)) := by
  obtain ⟨hx, hb, -, -, -, -, -, -, ⟨L, X, -⟩, -⟩ := w
  obtain ⟨s₂, o, st, r⟩ := K
  subst hp hb
  exact ⟨s₂, o, XS.ixor X.here hx rfl hd rfl st, r⟩
theorem glxor (w : W Z own nm bytes mx rt n0 p l e R s m args below meth c k n T h) {x y : Int64} (hd : decode bytes pc = .ok (.lxor, 1)) (hp : pc + 1 = pc') (K : Go n0 p e below s Q CC NN T (mkF m pc' Ls (.long (x ^^^ y) :: rest))) : Go n0 p e below s Q CC NN T (mkF m pc Ls (.long y :: .long x :: rest)) := by
  obtain ⟨hx, hb, -, -, -, -, -, -, ⟨L, X, -⟩, -⟩ := w
  obtain ⟨s₂, o, st, r⟩ := K
  subst hp hb
  exact ⟨s₂, o, XS.lxor X.here hx rfl hd rfl st, r⟩
theorem gineg (w : W Z own nm bytes mx rt n0 p l e R s m args below meth c k n T h) {x : Int32} (hd : decode bytes pc = .ok (.ineg, 1)) (hp : pc + 1 = pc') (K : Go n0 p e below s Q CC NN T (mkF m pc' Ls (.int (-x) :: rest))) : Go n0 p e below s Q CC NN T (mkF m pc Ls (.int x :: rest)) := by
  obtain ⟨hx, hb, -, -, -, -, -, -, ⟨L, X, -⟩, -⟩ := w
  obtain ⟨s₂, o, st, r⟩ := K
  subst hp hb
  exact ⟨s₂, o, XS.ineg X.here hx rfl hd rfl st, r⟩
theorem gidiv (w : W Z own nm bytes mx rt n0 p l e R s m args below meth c k n T h) {x y : Int32} (hd : decode bytes pc = .ok (.idiv, 1)) (hy : y ≠ 0) (hp : pc + 1 = pc') (K : Go n0 p e below s Q CC NN T (mkF m pc' Ls (.int (x / y) :: rest))) : Go n0 p e below s Q CC NN T (mkF m pc Ls (.int y :: .int x :: rest)) := by
  obtain ⟨hx, hb, -, -, -, -, -, -, ⟨L, X, -⟩, -⟩ := w
  obtain ⟨s₂, o, st, r⟩ := K
  subst hp hb
  exact ⟨s₂, o, XS.idiv X.here hx rfl hd rfl hy st, r⟩
theorem gldiv (w : W Z own nm bytes mx rt n0 p l e R s m args below meth c k n T h) {x y : Int64} (hd : decode bytes pc = .ok (.ldiv, 1)) (hy : y ≠ 0) (hp : pc + 1 = pc') (K : Go n0 p e below s Q CC NN T (mkF m pc' Ls (.long (x / y) :: rest))) : Go n0 p e below s Q CC NN T (mkF m pc Ls (.long y :: .long x :: rest)) := by
  obtain ⟨hx, hb, -, -, -, -, -, -, ⟨L, X, -⟩, -⟩ := w
  obtain ⟨s₂, o, st, r⟩ := K
  subst hp hb
  exact ⟨s₂, o, XS.ldiv X.here hx rfl hd rfl hy st, r⟩
theorem girem (w : W Z own nm bytes mx rt n0 p l e R s m args below meth c k n T h) {x y : Int32} (hd : decode bytes pc = .ok (.irem, 1)) (hy : y ≠ 0) (hp : pc + 1 = pc') (K : Go n0 p e below s Q CC NN T (mkF m pc' Ls (.int (x - (x / y) * y) :: rest))) : Go n0 p e below s Q CC NN T (mkF m pc Ls (.int y :: .int x :: rest)) := by
  obtain ⟨hx, hb, -, -, -, -, -, -, ⟨L, X, -⟩, -⟩ := w
  obtain ⟨s₂, o, st, r⟩ := K
  subst hp hb
  exact ⟨s₂, o, XS.irem X.here hx rfl hd rfl hy st, r⟩
theorem glrem (w : W Z own nm bytes mx rt n0 p l e R s m args below meth c k n T h) {x y : Int64} (hd : decode bytes pc = .ok (.lrem, 1)) (hy : y ≠ 0) (hp : pc + 1 = pc') (K : Go n0 p e below s Q CC NN T (mkF m pc' Ls (.long (x - (x / y) * y) :: rest))) : Go n0 p e below s Q CC NN T (mkF m pc Ls (.long y :: .long x :: rest)) := by
  obtain ⟨hx, hb, -, -, -, -, -, -, ⟨L, X, -⟩, -⟩ := w
  obtain ⟨s₂, o, st, r⟩ := K
  subst hp hb
  exact ⟨s₂, o, XS.lrem X.here hx rfl hd rfl hy st, r⟩
theorem gishl (w : W Z own nm bytes mx rt n0 p l e R s m args below meth c k n T h) {x : Int32} {y : Int32} (hd : decode bytes pc = .ok (.ishl, 1)) (hp : pc + 1 = pc') (K : Go n0 p e below s Q CC NN T (mkF m pc' Ls (.int (x <<< (y &&& 31)) :: rest))) : Go n0 p e below s Q CC NN T (mkF m pc Ls (.int y :: .int x :: rest)) := by
  obtain ⟨hx, hb, -, -, -, -, -, -, ⟨L, X, -⟩, -⟩ := w
  obtain ⟨s₂, o, st, r⟩ := K
  subst hp hb
  exact ⟨s₂, o, XS.ishl X.here hx rfl hd rfl st, r⟩
theorem gishr (w : W Z own nm bytes mx rt n0 p l e R s m args below meth c k n T h) {x : Int32} {y : Int32} (hd : decode bytes pc = .ok (.ishr, 1)) (hp : pc + 1 = pc') (K : Go n0 p e below s Q CC NN T (mkF m pc' Ls (.int (x >>> (y &&& 31)) :: rest))) : Go n0 p e below s Q CC NN T (mkF m pc Ls (.int y :: .int x :: rest)) := by
  obtain ⟨hx, hb, -, -, -, -, -, -, ⟨L, X, -⟩, -⟩ := w
  obtain ⟨s₂, o, st, r⟩ := K
  subst hp hb
  exact ⟨s₂, o, XS.ishr X.here hx rfl hd rfl st, r⟩
theorem giushr (w : W Z own nm bytes mx rt n0 p l e R s m args below meth c k n T h) {x : Int32} {y : Int32} (hd : decode bytes pc = .ok (.iushr, 1)) (hp : pc + 1 = pc') (K : Go n0 p e below s Q CC NN T (mkF m pc' Ls (.int ((x.toUInt32 >>> (y &&& 31).toUInt32).toInt32) :: rest))) : Go n0 p e below s Q CC NN T (mkF m pc Ls (.int y :: .int x :: rest)) := by
  obtain ⟨hx, hb, -, -, -, -, -, -, ⟨L, X, -⟩, -⟩ := w
  obtain ⟨s₂, o, st, r⟩ := K
  subst hp hb
  exact ⟨s₂, o, XS.iushr X.here hx rfl hd rfl st, r⟩
theorem glshl (w : W Z own nm bytes mx rt n0 p l e R s m args below meth c k n T h) {x : Int64} {y : Int32} (hd : decode bytes pc = .ok (.lshl, 1)) (hp : pc + 1 = pc') (K : Go n0 p e below s Q CC NN T (mkF m pc' Ls (.long (x <<< (y &&& 0x3f).toInt64) :: rest))) : Go n0 p e below s Q CC NN T (mkF m pc Ls (.int y :: .long x :: rest)) := by
  obtain ⟨hx, hb, -, -, -, -, -, -, ⟨L, X, -⟩, -⟩ := w
  obtain ⟨s₂, o, st, r⟩ := K
  subst hp hb
  exact ⟨s₂, o, XS.lshl X.here hx rfl hd rfl st, r⟩
theorem glshr (w : W Z own nm bytes mx rt n0 p l e R s m args below meth c k n T h) {x : Int64} {y : Int32} (hd : decode bytes pc = .ok (.lshr, 1)) (hp : pc + 1 = pc') (K : Go n0 p e below s Q CC NN T (mkF m pc' Ls (.long (x >>> (y &&& 0x3f).toInt64) :: rest))) : Go n0 p e below s Q CC NN T (mkF m pc Ls (.int y :: .long x :: rest)) := by
  obtain ⟨hx, hb, -, -, -, -, -, -, ⟨L, X, -⟩, -⟩ := w
  obtain ⟨s₂, o, st, r⟩ := K
  subst hp hb
  exact ⟨s₂, o, XS.lshr X.here hx rfl hd rfl st, r⟩
theorem glushr (w : W Z own nm bytes mx rt n0 p l e R s m args below meth c k n T h) {x : Int64} {y : Int32} (hd : decode bytes pc = .ok (.lushr, 1)) (hp : pc + 1 = pc') (K : Go n0 p e below s Q CC NN T (mkF m pc' Ls (.long ((x.toUInt64 >>> (y &&& 0x3f).toInt64.toUInt64).toInt64) :: rest))) : Go n0 p e below s Q CC NN T (mkF m pc Ls (.int y :: .long x :: rest)) := by
  obtain ⟨hx, hb, -, -, -, -, -, -, ⟨L, X, -⟩, -⟩ := w
  obtain ⟨s₂, o, st, r⟩ := K
  subst hp hb
  exact ⟨s₂, o, XS.lushr X.here hx rfl hd rfl st, r⟩
theorem gi2b (w : W Z own nm bytes mx rt n0 p l e R s m args below meth c k n T h) {v : Int32} (hd : decode bytes pc = .ok (.i2b, 1)) (hp : pc + 1 = pc') (K : Go n0 p e below s Q CC NN T (mkF m pc' Ls (.int (v.toInt8.toInt32) :: rest))) : Go n0 p e below s Q CC NN T (mkF m pc Ls (.int v :: rest)) := by
  obtain ⟨hx, hb, -, -, -, -, -, -, ⟨L, X, -⟩, -⟩ := w
  obtain ⟨s₂, o, st, r⟩ := K
  subst hp hb
  exact ⟨s₂, o, XS.i2b X.here hx rfl hd rfl st, r⟩
theorem gi2c (w : W Z own nm bytes mx rt n0 p l e R s m args below meth c k n T h) {v : Int32} (hd : decode bytes pc = .ok (.i2c, 1)) (hp : pc + 1 = pc') (K : Go n0 p e below s Q CC NN T (mkF m pc' Ls (.int (v.toUInt32.toUInt16.toUInt32.toInt32) :: rest))) : Go n0 p e below s Q CC NN T (mkF m pc Ls (.int v :: rest)) := by
  obtain ⟨hx, hb, -, -, -, -, -, -, ⟨L, X, -⟩, -⟩ := w
  obtain ⟨s₂, o, st, r⟩ := K
  subst hp hb
  exact ⟨s₂, o, XS.i2c X.here hx rfl hd rfl st, r⟩
theorem gi2l (w : W Z own nm bytes mx rt n0 p l e R s m args below meth c k n T h) {v : Int32} (hd : decode bytes pc = .ok (.i2l, 1)) (hp : pc + 1 = pc') (K : Go n0 p e below s Q CC NN T (mkF m pc' Ls (.long (v.toInt64) :: rest))) : Go n0 p e below s Q CC NN T (mkF m pc Ls (.int v :: rest)) := by
  obtain ⟨hx, hb, -, -, -, -, -, -, ⟨L, X, -⟩, -⟩ := w
  obtain ⟨s₂, o, st, r⟩ := K
  subst hp hb
  exact ⟨s₂, o, XS.i2l X.here hx rfl hd rfl st, r⟩
theorem gl2i (w : W Z own nm bytes mx rt n0 p l e R s m args below meth c k n T h) {v : Int64} (hd : decode bytes pc = .ok (.l2i, 1)) (hp : pc + 1 = pc') (K : Go n0 p e below s Q CC NN T (mkF m pc' Ls (.int (v.toInt32) :: rest))) : Go n0 p e below s Q CC NN T (mkF m pc Ls (.long v :: rest)) := by
  obtain ⟨hx, hb, -, -, -, -, -, -, ⟨L, X, -⟩, -⟩ := w
  obtain ⟨s₂, o, st, r⟩ := K
  subst hp hb
  exact ⟨s₂, o, XS.l2i X.here hx rfl hd rfl st, r⟩
theorem gdup (w : W Z own nm bytes mx rt n0 p l e R s m args below meth c k n T h) {x : Value} (hd : decode bytes pc = .ok (.dup, 1)) (hc : x.category = 1) (hp : pc + 1 = pc') (K : Go n0 p e below s Q CC NN T (mkF m pc' Ls (x :: x :: rest))) : Go n0 p e below s Q CC NN T (mkF m pc Ls (x :: rest)) := by
  obtain ⟨hx, hb, -, -, -, -, -, -, ⟨L, X, -⟩, -⟩ := w
  obtain ⟨s₂, o, st, r⟩ := K
  subst hp hb
  exact ⟨s₂, o, XS.dup X.here hx rfl hd rfl hc st, r⟩
theorem gpop (w : W Z own nm bytes mx rt n0 p l e R s m args below meth c k n T h) {x : Value} (hd : decode bytes pc = .ok (.pop, 1)) (hc : x.category = 1) (hp : pc + 1 = pc') (K : Go n0 p e below s Q CC NN T (mkF m pc' Ls (rest))) : Go n0 p e below s Q CC NN T (mkF m pc Ls (x :: rest)) := by
  obtain ⟨hx, hb, -, -, -, -, -, -, ⟨L, X, -⟩, -⟩ := w
  obtain ⟨s₂, o, st, r⟩ := K
  subst hp hb
  exact ⟨s₂, o, XS.pop X.here hx rfl hd rfl hc st, r⟩
theorem gdupx1 (w : W Z own nm bytes mx rt n0 p l e R s m args below meth c k n T h) {x y : Value} (hd : decode bytes pc = .ok (.dup_x1, 1)) (hc : x.category = 1) (hc2 : y.category = 1) (hp : pc + 1 = pc') (K : Go n0 p e below s Q CC NN T (mkF m pc' Ls (x :: y :: x :: rest))) : Go n0 p e below s Q CC NN T (mkF m pc Ls (x :: y :: rest)) := by
  obtain ⟨hx, hb, -, -, -, -, -, -, ⟨L, X, -⟩, -⟩ := w
  obtain ⟨s₂, o, st, r⟩ := K
  subst hp hb
  exact ⟨s₂, o, XS.dupX1 X.here hx rfl hd rfl hc hc2 st, r⟩
theorem ggoto (w : W Z own nm bytes mx rt n0 p l e R s m args below meth c k n T h) {o : Int} (hd : decode bytes pc = .ok (.goto o, 3)) (ho : 0 ≤ (pc : Int) + o) (hp : ((pc : Int) + o).toNat = pc') (K : Go n0 p e below s Q CC NN T (mkF m pc' Ls rest)) : Go n0 p e below s Q CC NN T (mkF m pc Ls rest) := by
  obtain ⟨hx, hb, -, -, -, -, -, -, ⟨L, X, -⟩, -⟩ := w
  obtain ⟨s₂, q, st, r⟩ := K
  subst hb
  exact ⟨s₂, q, XS.goto X.here hx rfl rfl hd ho hp st, r⟩
theorem gif (w : W Z own nm bytes mx rt n0 p l e R s m args below meth c k n T h) {cd : ClassFile.Cond} {x : Int32} {o : Int} {pt pf : Nat} (hd : decode bytes pc = .ok (.ifCond cd o, 3)) (ho : 0 ≤ (pc : Int) + o) (ht : ((pc : Int) + o).toNat = pt) (hf : pc + 3 = pf)
    (Kt : cY cd x 0 → Go n0 p e below s Q CC NN T (mkF m pt Ls rest)) (Kf : cN cd x 0 → Go n0 p e below s Q CC NN T (mkF m pf Ls rest)) : Go n0 p e below s Q CC NN T (mkF m pc Ls (.int x :: rest)) := by
  obtain ⟨hx, hb, -, -, -, -, -, -, ⟨L, X, -⟩, -⟩ := w
  subst hb hf
  rcases c_or cd x 0 with ⟨q, q'⟩ | ⟨q, q'⟩
  · obtain ⟨s₂, z, st, r⟩ := Kt q
    exact ⟨s₂, z, XS.ifYes X.here hx rfl rfl hd rfl ((if0 _ _).trans q') ho ht st, r⟩
  · obtain ⟨s₂, z, st, r⟩ := Kf q
    exact ⟨s₂, z, XS.ifNo X.here hx rfl hd rfl ((if0 _ _).trans q') st, r⟩
theorem gicmp (w : W Z own nm bytes mx rt n0 p l e R s m args below meth c k n T h) {cd : ClassFile.Cond} {x y : Int32} {o : Int} {pt pf : Nat} (hd : decode bytes pc = .ok (.if_icmp cd o, 3)) (ho : 0 ≤ (pc : Int) + o) (ht : ((pc : Int) + o).toNat = pt) (hf : pc + 3 = pf)
    (Kt : cY cd x y → Go n0 p e below s Q CC NN T (mkF m pt Ls rest)) (Kf : cN cd x y → Go n0 p e below s Q CC NN T (mkF m pf Ls rest)) : Go n0 p e below s Q CC NN T (mkF m pc Ls (.int y :: .int x :: rest)) := by
  obtain ⟨hx, hb, -, -, -, -, -, -, ⟨L, X, -⟩, -⟩ := w
  subst hb hf
  rcases c_or cd x y with ⟨q, q'⟩ | ⟨q, q'⟩
  · obtain ⟨s₂, z, st, r⟩ := Kt q
    exact ⟨s₂, z, XS.icmpYes X.here hx rfl rfl hd rfl q' ho ht st, r⟩
  · obtain ⟨s₂, z, st, r⟩ := Kf q
    exact ⟨s₂, z, XS.icmpNo X.here hx rfl hd rfl q' st, r⟩
theorem glcmpif (w : W Z own nm bytes mx rt n0 p l e R s m args below meth c k n T h) {cd : ClassFile.Cond} {x y : Int64} {o : Int} {pm pt pf : Nat} (hd0 : decode bytes pc = .ok (.lcmp, 1)) (hm : pc + 1 = pm) (hd : decode bytes pm = .ok (.ifCond cd o, 3)) (ho : 0 ≤ (pm : Int) + o) (ht : ((pm : Int) + o).toNat = pt) (hf : pm + 3 = pf)
    (Kt : lY cd x y → Go n0 p e below s Q CC NN T (mkF m pt Ls rest)) (Kf : lN cd x y → Go n0 p e below s Q CC NN T (mkF m pf Ls rest)) : Go n0 p e below s Q CC NN T (mkF m pc Ls (.long y :: .long x :: rest)) := by
  have K : Go n0 p e below s Q CC NN T (mkF m pm Ls (.int (lcmpW x y) :: rest)) := gif w hd ho ht hf (fun q => Kt (lY_of cd x y q)) (fun q => Kf (lN_of cd x y q))
  obtain ⟨hx, hb, -, -, -, -, -, -, ⟨L, X, -⟩, -⟩ := w
  obtain ⟨s₂, z, st, r⟩ := K
  subst hb hm
  exact ⟨s₂, z, XS.lcmp X.here hx rfl hd0 rfl st, r⟩
theorem gacmp (w : W Z own nm bytes mx rt n0 p l e R s m args below meth c k n T h) {cd : ClassFile.ACond} {x y : Value} {o : Int} {pt pf : Nat} (hd : decode bytes pc = .ok (.if_acmp cd o, 3)) (ho : 0 ≤ (pc : Int) + o) (h1 : x.isRef = true) (h2 : y.isRef = true) (ht : (if acV cd true = true then ((pc : Int) + o).toNat else pc + 3) = pt) (hf : (if acV cd false = true then ((pc : Int) + o).toNat else pc + 3) = pf)
    (Ke : x = y → Go n0 p e below s Q CC NN T (mkF m pt Ls rest)) (Kn : ¬ x = y → Go n0 p e below s Q CC NN T (mkF m pf Ls rest)) : Go n0 p e below s Q CC NN T (mkF m pc Ls (y :: x :: rest)) := by
  obtain ⟨hx, hb, -, -, -, -, -, -, ⟨L, X, -⟩, -⟩ := w
  subst hb
  by_cases q : x = y
  · obtain ⟨s₂, z, st, r⟩ := Ke q
    exact ⟨s₂, z, Jvm.RoadKit.acmp (g := mkF m pc Ls (y :: x :: rest)) X hx rfl h1 h2 (same := true) rfl hd rfl (decide_eq_true q) ho ht.symm st, r⟩
  · obtain ⟨s₂, z, st, r⟩ := Kn q
    exact ⟨s₂, z, Jvm.RoadKit.acmp (g := mkF m pc Ls (y :: x :: rest)) X hx rfl h1 h2 (same := false) rfl hd rfl (decide_eq_false q) ho hf.symm st, r⟩
theorem gifnullY (w : W Z own nm bytes mx rt n0 p l e R s m args below meth c k n T h) {o : Int} (hd : decode bytes pc = .ok (.ifnull o, 3)) (ho : 0 ≤ (pc : Int) + o) (hp : ((pc : Int) + o).toNat = pc') (K : Go n0 p e below s Q CC NN T (mkF m pc' Ls rest)) : Go n0 p e below s Q CC NN T (mkF m pc Ls (.null :: rest)) := by
  obtain ⟨hx, hb, -, -, -, -, -, -, ⟨L, X, -⟩, -⟩ := w
  obtain ⟨s₂, q, st, r⟩ := K
  subst hb
  exact ⟨s₂, q, XS.ifnullYes X.here hx rfl rfl hd rfl ho hp st, r⟩
theorem gifnullN (w : W Z own nm bytes mx rt n0 p l e R s m args below meth c k n T h) {o : Int} {b : Addr} (hd : decode bytes pc = .ok (.ifnull o, 3)) (hp : pc + 3 = pc') (K : Go n0 p e below s Q CC NN T (mkF m pc' Ls rest)) : Go n0 p e below s Q CC NN T (mkF m pc Ls (.ref b :: rest)) := by
  obtain ⟨hx, hb, -, -, -, -, -, -, ⟨L, X, -⟩, -⟩ := w
  obtain ⟨s₂, q, st, r⟩ := K
  subst hb hp
  exact ⟨s₂, q, XS.ifnullNo X.here hx rfl hd rfl st, r⟩
theorem gifnonnullY (w : W Z own nm bytes mx rt n0 p l e R s m args below meth c k n T h) {o : Int} {b : Addr} (hd : decode bytes pc = .ok (.ifnonnull o, 3)) (ho : 0 ≤ (pc : Int) + o) (hp : ((pc : Int) + o).toNat = pc') (K : Go n0 p e below s Q CC NN T (mkF m pc' Ls rest)) : Go n0 p e below s Q CC NN T (mkF m pc Ls (.ref b :: rest)) := by
  obtain ⟨hx, hb, -, -, -, -, -, -, ⟨L, X, -⟩, -⟩ := w
  obtain ⟨s₂, q, st, r⟩ := K
  subst hb
  exact ⟨s₂, q, XS.ifnonnullYes X.here hx rfl rfl hd rfl ho hp st, r⟩
theorem gifnonnullN (w : W Z own nm bytes mx rt n0 p l e R s m args below meth c k n T h) {o : Int} (hd : decode bytes pc = .ok (.ifnonnull o, 3)) (hp : pc + 3 = pc') (K : Go n0 p e below s Q CC NN T (mkF m pc' Ls rest)) : Go n0 p e below s Q CC NN T (mkF m pc Ls (.null :: rest)) := by
  obtain ⟨hx, hb, -, -, -, -, -, -, ⟨L, X, -⟩, -⟩ := w
  obtain ⟨s₂, q, st, r⟩ := K
  subst hb hp
  exact ⟨s₂, q, XS.ifnonnullNo X.here hx rfl hd rfl st, r⟩
theorem gldc2 (w : W Z own nm bytes mx rt n0 p l e R s m args below meth c k n T h) {index : Nat} {v : Int64} (hd : decode bytes pc = .ok (.ldc2_w index, 3)) (w1 : (Jvm.Cond.constantLong own index v).before a0 Z = true) (hp : pc + 3 = pc') (K : Go n0 p e below s Q CC NN T (mkF m pc' Ls (.long v :: rest))) : Go n0 p e below s Q CC NN T (mkF m pc Ls rest) := by
  obtain ⟨hx, hb, hown, hZ, -, -, -, -, ⟨L, X, -⟩, -⟩ := w
  obtain ⟨s₂, q, st, r⟩ := K
  subst hb hp
  exact ⟨s₂, q, X.ldc2Long hx hown (mvT hZ w1) (g := mkF m pc Ls rest) rfl hd _ st, r⟩
theorem gldcI (w : W Z own nm bytes mx rt n0 p l e R s m args below meth c k n T h) {index : Nat} {v : Int32} (hd : decode bytes pc = .ok (.ldc index, 2)) (w1 : (Jvm.Cond.constant own index v).before a0 Z = true) (hp : pc + 2 = pc') (K : Go n0 p e below s Q CC NN T (mkF m pc' Ls (.int v :: rest))) : Go n0 p e below s Q CC NN T (mkF m pc Ls rest) := by
  obtain ⟨hx, hb, hown, hZ, -, -, -, -, ⟨L, X, -⟩, -⟩ := w
  obtain ⟨s₂, q, st, r⟩ := K
  subst hb hp
  exact ⟨s₂, q, X.ldcInt hx hown (mvT hZ w1) (g := mkF m pc Ls rest) rfl hd _ st, r⟩

theorem ggetF (w : W Z own nm bytes mx rt n0 p l e R s m args below meth c k n T h) {index : Nat} {O n' d : String} {a : Addr} {v : Value} (hd : decode bytes pc = .ok (.getfield index, 3)) (w1 : (Jvm.Cond.fieldLink own index O n' d).before a0 Z = true) (F : Fld Z h a O n' d v) (hp : pc + 3 = pc')
    (K : ∀ T', W Z own nm bytes mx rt n0 p l e R s m args below meth c k n T' h → Go n0 p e below s Q CC NN T' (mkF m pc' Ls (v :: rest))) : Go n0 p e below s Q CC NN T (mkF m pc Ls (.ref a :: rest)) := by
  obtain ⟨hx, hb, hown, hZ, r1, r2, r3, r4, ⟨L, X, N⟩, eT⟩ := w
  obtain ⟨T', X', e', st⟩ := getF X hx hZ hown (host := "") (Or.inl w1) Via.refl eT F (g := mkF m pc Ls (.ref a :: rest)) rfl rfl (by rw [hb]; exact hd)
  obtain ⟨s₂, q, st', r⟩ := K T' ⟨hx, hb, hown, hZ, r1, r2, r3, r4, ⟨L, X', N⟩, e'⟩
  subst hp
  exact ⟨s₂, q, st _ st', r⟩
theorem ggetS (w : W Z own nm bytes mx rt n0 p l e R s m args below meth c k n T h) {index : Nat} {O n' d : String} {v : Value} (hd : decode bytes pc = .ok (.getstatic index, 3)) (w1 : (Jvm.Cond.fieldLink own index O n' d).before a0 Z = true) (F : Sta Z h O n' d v) (hp : pc + 3 = pc')
    (K : ∀ T', W Z own nm bytes mx rt n0 p l e R s m args below meth c k n T' h → Go n0 p e below s Q CC NN T' (mkF m pc' Ls (v :: rest))) : Go n0 p e below s Q CC NN T (mkF m pc Ls rest) := by
  obtain ⟨hx, hb, hown, hZ, r1, r2, r3, r4, ⟨L, X, N⟩, eT⟩ := w
  obtain ⟨T', X', e', st⟩ := getS (host := "") X hx hZ hown w1 Via.refl eT F (g := mkF m pc Ls rest) rfl (by rw [hb]; exact hd)
  obtain ⟨s₂, q, st', r⟩ := K T' ⟨hx, hb, hown, hZ, r1, r2, r3, r4, ⟨L, X', N⟩, e'⟩
  subst hp
  exact ⟨s₂, q, st _ st', r⟩
theorem ggetSN (w : W Z own nm bytes mx rt n0 p l e R s m args below meth c k n T h) {index : Nat} {O n' d host : String} {v : Value} (hd : decode bytes pc = .ok (.getstatic index, 3)) (w1 : (Jvm.Cond.fieldLinkNest own index O n' d host).before a0 Z = true) (F : Sta Z h O n' d v) (hp : pc + 3 = pc')
    (K : ∀ T', W Z own nm bytes mx rt n0 p l e R s m args below meth c k n T' h → Go n0 p e below s Q CC NN T' (mkF m pc' Ls (v :: rest))) : Go n0 p e below s Q CC NN T (mkF m pc Ls rest) := by
  obtain ⟨hx, hb, hown, hZ, r1, r2, r3, r4, ⟨L, X, N⟩, eT⟩ := w
  obtain ⟨T', X', e', st⟩ := getS2 X hx hZ hown (Or.inr w1) Via.refl eT F (g := mkF m pc Ls rest) rfl (by rw [hb]; exact hd)
  obtain ⟨s₂, q, st', r⟩ := K T' ⟨hx, hb, hown, hZ, r1, r2, r3, r4, ⟨L, X', N⟩, e'⟩
  subst hp
  exact ⟨s₂, q, st _ st', r⟩
/-- putfield: what is written may be narrowed (v to v') -/
theorem gputF (w : W Z own nm bytes mx rt n0 p l e R s m args below meth c k n T h) {index kk : Nat} {O n' d C : String} {ty : FieldType} {a : Addr} {v v' old : Value} (hd : decode bytes pc = .ok (.putfield index, 3)) (w1 : (Jvm.Cond.fieldLink own index O n' d).before a0 Z = true) (F : Fld Z h a O n' d old) (E : Exa Z h a C)
    (LL : (Jvm.Cond.lays C O n' d).before a0 Z = true ∨ ((Jvm.Cond.laysFinal C O n' d).before a0 Z = true ∧ own = O ∧ nm = "<init>")) (wi : (Jvm.Cond.instantiable C kk).before a0 Z = true) (hty : parseFieldDescriptor d = some ty) (hn : narrow ty v = v') (hf : fits ty v' = true) (hna : n0 ≤ a) (hp : pc + 3 = pc')
    (K : ∀ T' h', W Z own nm bytes mx rt n0 p l e R s m args below meth c k n T' h' → Wr h h' a (Jvm.RoadKit.slotOf Z O n' d) v' → Go n0 p e below s Q CC NN T' (mkF m pc' Ls rest)) : Go n0 p e below s Q CC NN T (mkF m pc Ls (v :: .ref a :: rest)) := by
  obtain ⟨hx, hb, hown, hZ, r1, r2, r3, r4, ⟨L, X, N⟩, eT⟩ := w
  obtain ⟨T', h', X', e', Wx, st⟩ := putFN X hx hZ hown w1 Via.refl eT F E (LL.imp id fun q => ⟨q.1, q.2.1, r2.trans q.2.2⟩) wi hty hn hf (g := mkF m pc Ls (v :: .ref a :: rest)) rfl rfl (by rw [hb]; exact hd)
  obtain ⟨s₂, q, st', r⟩ := K T' h' ⟨hx, hb, hown, hZ, r1, r2, r3, r4, ⟨_, X', Fr.snoc X' N hna⟩, e'⟩ Wx
  subst hp
  exact ⟨s₂, q, st _ st', r⟩
theorem gnewO (w : W Z own nm bytes mx rt n0 p l e R s m args below meth c k n T h) {index j : Nat} {C : String} (hd : decode bytes pc = .ok (.new index, 3)) (w1 : (Jvm.Cond.classLink own index C).before a0 Z = true) (wi : (Jvm.Cond.instantiable C j).before a0 Z = true) (wz : (Jvm.Cond.initialized C).before a0 Z = true) (hc : k + 1 ≤ R.cells) (hl : n + j ≤ R.slots) (hp : pc + 3 = pc')
    (K : ∀ T' h' a, h.size = a → W Z own nm bytes mx rt n0 p l e R s m args below meth c (k + 1) (n + j) T' h' → Ext h h' → Exa Z h' a C → (∀ {O f d : String} {ty : FieldType}, Laid Z a0 C O f d → parseFieldDescriptor d = some ty → Fld Z h' a O f d (defaultValue ty)) → Go n0 p e below s Q CC NN T' (mkF m pc' Ls (.ref a :: rest))) : Go n0 p e below s Q CC NN T (mkF m pc Ls rest) := by
  obtain ⟨hx, hb, hown, hZ, r1, r2, r3, r4, ⟨L, X, N⟩, eT⟩ := w
  obtain ⟨T', h', X', e', E, A, D, -, st⟩ := newO X hx hZ hown w1 wi wz eT (g := mkF m pc Ls rest) rfl (by rw [hb]; exact hd) hc hl
  obtain ⟨s₂, q, st', r⟩ := K T' h' _ rfl ⟨hx, hb, hown, hZ, r1, r2, r3, r4, ⟨_, X', N⟩, e'⟩ E A D
  subst hp
  exact ⟨s₂, q, st _ st', r⟩
theorem gnewP (w : W Z own nm bytes mx rt n0 p l e R s m args below meth c k n T h) {aty : ArrayType} {z : Int32} {cap : Nat} {ty : FieldType} (hd : decode bytes pc = .ok (.newarray aty, 2)) (hty : newarray.typeOf aty = ty) (w1 : (Jvm.Cond.arrayClass ty).before a0 Z = true) (hn : ¬ z < 0) (hcap : z.toNatClampNeg ≤ cap) (hb8 : cap * 8 ≤ 536870912) (hc : k + 1 ≤ R.cells) (hl : n + cap ≤ R.slots) (hp : pc + 2 = pc')
    (K : ∀ T' h' a kA, h.size = a → W Z own nm bytes mx rt n0 p l e R s m args below meth c (k + 1) (n + cap) T' h' → Ext h h' → Arv Z h' a kA ty z [] (defaultValue ty) → Go n0 p e below s Q CC NN T' (mkF m pc' Ls (.ref a :: rest))) : Go n0 p e below s Q CC NN T (mkF m pc Ls (.int z :: rest)) := by
  obtain ⟨hx, hb, hown, hZ, r1, r2, r3, r4, ⟨L, X, N⟩, eT⟩ := w
  subst hty
  obtain ⟨T', h', cA, X', e', E, A, st⟩ := newP X hx hZ w1 eT (g := mkF m pc Ls (.int z :: rest)) rfl (by rw [hb]; exact hd) rfl hn hcap hb8 hc hl
  obtain ⟨s₂, q, st', r⟩ := K T' h' _ cA rfl ⟨hx, hb, hown, hZ, r1, r2, r3, r4, ⟨_, X', N⟩, e'⟩ E (Arv.new A hn)
  subst hp
  exact ⟨s₂, q, st _ st', r⟩
theorem ginitO (w : W Z own nm bytes mx rt n0 p l e R s m args below meth c k n T h) {index : Nat} {a : Addr} {Wt : Nat} (hd : decode bytes pc = .ok (.invokespecial index, 3)) (w1 : (Jvm.Cond.methodLink own index Lib.objectInit).before a0 Z = true) (w2 : (Jvm.Cond.instanceMethod Lib.objectInit).before a0 Z = true) (w3 : (Jvm.Cond.code Lib.objectInit ⟨#[0xb1]⟩ 1 none).before a0 Z = true)
    (hsz : Ls.size = mx) (hf : 1 ≤ R.frames) (hW : (rest.map fun v => v.category).sum ≤ Wt) (hl : Wt + 12 ≤ R.locals) (hp : pc + 3 = pc')
    (K : ∀ T', W Z own nm bytes mx rt n0 p l e R s m args below meth c k n T' h → Go n0 p e below s Q CC NN T' (mkF m pc' Ls rest)) : Go n0 p e below s Q CC NN T (mkF m pc Ls (.ref a :: rest)) := by
  obtain ⟨hx, hb, hown, hZ, r1, r2, r3, r4, ⟨L, X, N⟩, eT⟩ := w
  obtain ⟨T', X', e', st⟩ := initO X hx hZ hown w1 w2 w3 eT (g := mkF m pc Ls (.ref a :: rest)) rfl (hsz.trans r1.symm) rfl (by rw [hb]; exact hd) hf (W := Wt) (by show 2 * 0 + _ ≤ _; omega) hl
  obtain ⟨s₂, q, st', r⟩ := K T' ⟨hx, hb, hown, hZ, r1, r2, r3, r4, ⟨L, X', N⟩, e'⟩
  subst hp
  exact ⟨s₂, q, st _ st', r⟩
theorem glen (w : W Z own nm bytes mx rt n0 p l e R s m args below meth c k n T h) {a : Addr} {kA : ClassId} {ty : FieldType} {z : Int32} {vs : List Value} {dv : Value} (hd : decode bytes pc = .ok (.arraylength, 1)) (V : Arv Z h a kA ty z vs dv) (hp : pc + 1 = pc') (K : Go n0 p e below s Q CC NN T (mkF m pc' Ls (.int z :: rest))) : Go n0 p e below s Q CC NN T (mkF m pc Ls (.ref a :: rest)) := by
  obtain ⟨hx, hb, hown, hZ, r1, r2, r3, r4, ⟨L, X, N⟩, eT⟩ := w
  obtain ⟨cl, A, -, S, N1, -, -⟩ := V
  obtain ⟨s₂, q, st', r⟩ := K
  subst hp
  refine ⟨s₂, q, X.arraylength hx (by rw [eT]; exact A.1) (State.isArrayOf_alike hZ.alike A.2.1) (g := mkF m pc Ls (.ref a :: rest)) rfl rfl (by rw [hb]; exact hd) _ ?_, r⟩
  rw [len_of S N1]
  exact st'

theorem gbaload (w : W Z own nm bytes mx rt n0 p l e R s m args below meth c k n T h) {a : Addr} {kA : ClassId} {z j : Int32} {vs : List Value} {dv v : Value} (hd : decode bytes pc = .ok (.baload, 1)) (V : Arv Z h a kA .byte z vs dv) (hj : ¬ j < 0 ∧ j < z) (hv : vs.getD j.toNatClampNeg dv = v) (hp : pc + 1 = pc') (K : Go n0 p e below s Q CC NN T (mkF m pc' Ls (v :: rest))) : Go n0 p e below s Q CC NN T (mkF m pc Ls (.int j :: .ref a :: rest)) := by
  obtain ⟨hx, hb, hown, hZ, r1, r2, r3, r4, ⟨L, X, N⟩, eT⟩ := w
  obtain ⟨cl, A, -, S, -, H, -⟩ := V
  obtain ⟨s₂, q, st', r⟩ := K
  subst hp
  exact ⟨s₂, q, X.baloadBytes hx (j := j) (v := v) (by rw [eT]; exact A.1) (State.isArrayOf_alike hZ.alike A.2.1) A.2.2 (inb_of S hj) (H.at (inb_of S hj) hv) (g := mkF m pc Ls (.int j :: .ref a :: rest)) rfl rfl (by rw [hb]; exact hd) _ st', r⟩

theorem giaload (w : W Z own nm bytes mx rt n0 p l e R s m args below meth c k n T h) {a : Addr} {kA : ClassId} {z j : Int32} {vs : List Value} {dv v : Value} (hd : decode bytes pc = .ok (.iaload, 1)) (V : Arv Z h a kA .int z vs dv) (hj : ¬ j < 0 ∧ j < z) (hv : vs.getD j.toNatClampNeg dv = v) (hp : pc + 1 = pc') (K : Go n0 p e below s Q CC NN T (mkF m pc' Ls (v :: rest))) : Go n0 p e below s Q CC NN T (mkF m pc Ls (.int j :: .ref a :: rest)) := by
  obtain ⟨hx, hb, hown, hZ, r1, r2, r3, r4, ⟨L, X, N⟩, eT⟩ := w
  obtain ⟨cl, A, -, S, -, H, -⟩ := V
  obtain ⟨s₂, q, st', r⟩ := K
  subst hp
  exact ⟨s₂, q, X.iaload hx (j := j) (v := v) (by rw [eT]; exact A.1) (State.isArrayOf_alike hZ.alike A.2.1) A.2.2 (inb_of S hj) (H.at (inb_of S hj) hv) (g := mkF m pc Ls (.int j :: .ref a :: rest)) rfl rfl (by rw [hb]; exact hd) _ st', r⟩

theorem gbastore (w : W Z own nm bytes mx rt n0 p l e R s m args below meth c k n T h) {a : Addr} {kA : ClassId} {z j x x' : Int32} {vs : List Value} {dv : Value} (hd : decode bytes pc = .ok (.bastore, 1)) (hxv : x.toInt8.toInt32 = x') (V : Arv Z h a kA .byte z vs dv) (hj : ¬ j < 0 ∧ j < z) (i : Nat) (hi : j.toNatClampNeg = i) (hlt : i < vs.length) (hna : n0 ≤ a) (hp : pc + 1 = pc')
    (K : ∀ T' h', W Z own nm bytes mx rt n0 p l e R s m args below meth c k n T' h' → Wr h h' a i (.int x') → Arv Z h' a kA .byte z (vs.set i (.int x')) dv → Go n0 p e below s Q CC NN T' (mkF m pc' Ls rest)) : Go n0 p e below s Q CC NN T (mkF m pc Ls (.int x :: .int j :: .ref a :: rest)) := by
  obtain ⟨hx, hb, hown, hZ, r1, r2, r3, r4, ⟨L, X, N⟩, eT⟩ := w
  obtain ⟨cl, A, q1, S, N1, H, Gf⟩ := V
  subst hxv
  obtain ⟨T', h', X', e', Wx, st⟩ := stB X hx hZ eT A (j := j) (x := x) (inb_of S hj) (g := mkF m pc Ls (.int x :: .int j :: .ref a :: rest)) rfl rfl (by rw [hb]; exact hd)
  obtain ⟨s₂, q, st', r⟩ := K T' h' ⟨hx, hb, hown, hZ, r1, r2, r3, r4, ⟨_, X', Fr.snoc X' N hna⟩, e'⟩ (hi ▸ Wx) (Arv.set A q1 S N1 H Gf (fits_nar_byte _) Wx i hi hlt)
  subst hp
  exact ⟨s₂, q, st _ st', r⟩

theorem giastore (w : W Z own nm bytes mx rt n0 p l e R s m args below meth c k n T h) {a : Addr} {kA : ClassId} {z j x x' : Int32} {vs : List Value} {dv : Value} (hd : decode bytes pc = .ok (.iastore, 1)) (hxv : x = x') (V : Arv Z h a kA .int z vs dv) (hj : ¬ j < 0 ∧ j < z) (i : Nat) (hi : j.toNatClampNeg = i) (hlt : i < vs.length) (hna : n0 ≤ a) (hp : pc + 1 = pc')
    (K : ∀ T' h', W Z own nm bytes mx rt n0 p l e R s m args below meth c k n T' h' → Wr h h' a i (.int x') → Arv Z h' a kA .int z (vs.set i (.int x')) dv → Go n0 p e below s Q CC NN T' (mkF m pc' Ls rest)) : Go n0 p e below s Q CC NN T (mkF m pc Ls (.int x :: .int j :: .ref a :: rest)) := by
  obtain ⟨hx, hb, hown, hZ, r1, r2, r3, r4, ⟨L, X, N⟩, eT⟩ := w
  obtain ⟨cl, A, q1, S, N1, H, Gf⟩ := V
  subst hxv
  obtain ⟨T', h', X', e', Wx, st⟩ := stI X hx hZ eT A (j := j) (x := x) (inb_of S hj) (g := mkF m pc Ls (.int x :: .int j :: .ref a :: rest)) rfl rfl (by rw [hb]; exact hd)
  obtain ⟨s₂, q, st', r⟩ := K T' h' ⟨hx, hb, hown, hZ, r1, r2, r3, r4, ⟨_, X', Fr.snoc X' N hna⟩, e'⟩ (hi ▸ Wx) (Arv.set A q1 S N1 H Gf rfl Wx i hi hlt)
  subst hp
  exact ⟨s₂, q, st _ st', r⟩

theorem gret0 (w : W Z own nm bytes mx none n0 p l e R s m args below meth c k n T h) (hd : decode bytes pc = .ok (.return_, 1)) (hk : k ≤ CC) (hn : n ≤ NN) (hQ : Q none h) : Go n0 p e below s Q CC NN T (mkF m pc Ls []) := by
  obtain ⟨hx, hb, hown, hZ, r1, r2, r3, r4, ⟨L, X, N⟩, eT⟩ := w
  obtain ⟨fs, hr, hrun, hended, hW, hsame⟩ := X.leave (v := none) (fun _ => rfl) r4
  refine ⟨_, _, X.returnOut hx r3 (by rw [hb]; exact hd) hr, hrun, hended, _, _, rfl, ⟨N, ?_⟩, ⟨_, rfl⟩, hW, hsame.mono hk hn⟩
  show Q none T.heap
  rw [eT]; exact hQ
theorem gret {t : FieldType} (w : W Z own nm bytes mx (some t) n0 p l e R s m args below meth c k n T h) {v : Value} {i : Instr} (hd : decode bytes pc = .ok (i, 1)) (hn' : narrow t v = v)
    (hi : (i = .ireturn ∧ (t = .int ∨ t = .boolean ∨ t = .byte ∨ t = .char ∨ t = .short) ∧ ∃ z, v = .int z) ∨ (i = .lreturn ∧ t = .long ∧ ∃ z, v = .long z) ∨ (i = .dreturn ∧ t = .double ∧ ∃ z, v = .double z) ∨ (i = .freturn ∧ t = .float ∧ ∃ z, v = .float z) ∨ (i = .areturn ∧ t.isReference = true ∧ v.isRef = true))
    (hk : k ≤ CC) (hn : n ≤ NN) (hQ : Q (some v) h) : Go n0 p e below s Q CC NN T (mkF m pc Ls (v :: rest)) := by
  obtain ⟨hx, hb, hown, hZ, r1, r2, r3, r4, ⟨L, X, N⟩, eT⟩ := w
  obtain ⟨fs, hr, hrun, hended, hW, hsame⟩ := X.leave (v := some v) (fun q => by rw [r3] at q; cases q) r4
  refine ⟨_, _, retOut X hx r3 hn' hi (by rw [hb]; exact hd) hr, hrun, hended, _, _, rfl, ⟨N, ?_⟩, ⟨_, rfl⟩, hW, hsame.mono hk hn⟩
  show Q (some v) T.heap
  rw [eT]; exact hQ
theorem gretI (w : W Z own nm bytes mx (some .int) n0 p l e R s m args below meth c k n T h) {v : Int32} (hd : decode bytes pc = .ok (.ireturn, 1)) (hk : k ≤ CC) (hn : n ≤ NN) (hQ : Q (some (.int v)) h) : Go n0 p e below s Q CC NN T (mkF m pc Ls (.int v :: rest)) :=
  gret w hd rfl (Or.inl ⟨rfl, Or.inl rfl, _, rfl⟩) hk hn hQ
theorem gretJ (w : W Z own nm bytes mx (some .long) n0 p l e R s m args below meth c k n T h) {v : Int64} (hd : decode bytes pc = .ok (.lreturn, 1)) (hk : k ≤ CC) (hn : n ≤ NN) (hQ : Q (some (.long v)) h) : Go n0 p e below s Q CC NN T (mkF m pc Ls (.long v :: rest)) :=
  gret w hd rfl (Or.inr (Or.inl ⟨rfl, rfl, _, rfl⟩)) hk hn hQ
theorem gretZ (w : W Z own nm bytes mx (some .boolean) n0 p l e R s m args below meth c k n T h) {v : Int32} (hd : decode bytes pc = .ok (.ireturn, 1)) (hv : narrow .boolean (.int v) = .int v) (hk : k ≤ CC) (hn : n ≤ NN) (hQ : Q (some (.int v)) h) : Go n0 p e below s Q CC NN T (mkF m pc Ls (.int v :: rest)) :=
  gret w hd hv (Or.inl ⟨rfl, Or.inr (Or.inl rfl), _, rfl⟩) hk hn hQ
theorem gretB (w : W Z own nm bytes mx (some .byte) n0 p l e R s m args below meth c k n T h) {v : Int32} (hd : decode bytes pc = .ok (.ireturn, 1)) (hv : narrow .byte (.int v) = .int v) (hk : k ≤ CC) (hn : n ≤ NN) (hQ : Q (some (.int v)) h) : Go n0 p e below s Q CC NN T (mkF m pc Ls (.int v :: rest)) :=
  gret w hd hv (Or.inl ⟨rfl, Or.inr (Or.inr (Or.inl rfl)), _, rfl⟩) hk hn hQ
theorem gretA {t : FieldType} (w : W Z own nm bytes mx (some t) n0 p l e R s m args below meth c k n T h) {v : Value} (hd : decode bytes pc = .ok (.areturn, 1)) (ht : t.isReference = true) (hv : v.isRef = true) (hn' : narrow t v = v) (hk : k ≤ CC) (hn : n ≤ NN) (hQ : Q (some v) h) : Go n0 p e below s Q CC NN T (mkF m pc Ls (v :: rest)) :=
  gret w hd hn' (Or.inr (Or.inr (Or.inr (Or.inr ⟨rfl, ht, hv⟩)))) hk hn hQ

theorem gcast (w : W Z own nm bytes mx rt n0 p l e R s m args below meth c k n T h) {index : Nat} {Kc : String} {a : Addr} (hd : decode bytes pc = .ok (.checkcast index, 3)) (w1 : (Jvm.Cond.classLink own index Kc).before a0 Z = true) (F : Ins Z h a Kc true) (hp : pc + 3 = pc')
    (K : ∀ T', W Z own nm bytes mx rt n0 p l e R s m args below meth c k n T' h → Go n0 p e below s Q CC NN T' (mkF m pc' Ls (.ref a :: rest))) : Go n0 p e below s Q CC NN T (mkF m pc Ls (.ref a :: rest)) := by
  obtain ⟨hx, hb, hown, hZ, r1, r2, r3, r4, ⟨L, X, N⟩, eT⟩ := w
  obtain ⟨T', X', e', st⟩ := castY X hx hZ hown w1 eT F (g := mkF m pc Ls (.ref a :: rest)) rfl rfl (by rw [hb]; exact hd)
  obtain ⟨s₂, q, st', r⟩ := K T' ⟨hx, hb, hown, hZ, r1, r2, r3, r4, ⟨L, X', N⟩, e'⟩
  subst hp
  exact ⟨s₂, q, st _ st', r⟩
theorem ginstY (w : W Z own nm bytes mx rt n0 p l e R s m args below meth c k n T h) {index : Nat} {Kc : String} {a : Addr} (hd : decode bytes pc = .ok (.instanceof index, 3)) (w1 : (Jvm.Cond.classLink own index Kc).before a0 Z = true) (F : Ins Z h a Kc true) (hp : pc + 3 = pc')
    (K : ∀ T', W Z own nm bytes mx rt n0 p l e R s m args below meth c k n T' h → Go n0 p e below s Q CC NN T' (mkF m pc' Ls (.int 1 :: rest))) : Go n0 p e below s Q CC NN T (mkF m pc Ls (.ref a :: rest)) := by
  obtain ⟨hx, hb, hown, hZ, r1, r2, r3, r4, ⟨L, X, N⟩, eT⟩ := w
  obtain ⟨T', X', e', st⟩ := instY X hx hZ hown w1 eT F (g := mkF m pc Ls (.ref a :: rest)) rfl rfl (by rw [hb]; exact hd)
  obtain ⟨s₂, q, st', r⟩ := K T' ⟨hx, hb, hown, hZ, r1, r2, r3, r4, ⟨L, X', N⟩, e'⟩
  subst hp
  exact ⟨s₂, q, st _ st', r⟩

theorem gcallS (w : W Z own nm bytes mx rt n0 p l e R s m args below meth c k n T h) {index : Nat} {y : MethodName} {yb : ByteArray} {ymx : Nat} {yr : Option FieldType} {rm : Room} {as : Array Value} {Q' : Option Value → Heap → Prop} {argsL : List Value} {stk : List Value} {ps : List FieldType} {ro : Option FieldType} {Wt : Nat} (hd : decode bytes pc = .ok (.invokestatic index, 3)) (w1 : (Jvm.Cond.methodLink own index y).before a0 Z = true) (w2 : (Jvm.Cond.static y).before a0 Z = true) (w3 : (Jvm.Cond.initialized y.cls).before a0 Z = true) (w4 : (Jvm.Cond.code y yb ymx yr).before a0 Z = true)
    (hy : y.cls ≠ "java/lang/invoke/MethodHandle" ∧ y.cls ≠ "java/lang/invoke/VarHandle") (hpd : parseMethodDescriptor y.desc = some ⟨ps, ro⟩) (ctr : Ctr l y yb ymx yr rm Z as h n0 Q' []) (has : argsL.toArray = as) (hlen : argsL.length = ps.length) (hst : stk = argsL.reverse ++ rest) (hsz : Ls.size = mx) (hW : (rest.map fun v => v.category).sum ≤ Wt) (hf : rm.frames + 1 ≤ R.frames) (hl : Wt + (ymx + 11) + rm.locals ≤ R.locals) (hc : k + rm.cells ≤ R.cells) (hs : n + rm.slots ≤ R.slots) (hp : pc + 3 = pc')
    (K : ∀ v T' h', W Z own nm bytes mx rt n0 p l e R s m args below meth c (k + rm.cells) (n + rm.slots) T' h' → Q' v h' → Go n0 p e below s Q CC NN T' (mkF m pc' Ls (v.toList ++ rest))) : Go n0 p e below s Q CC NN T (mkF m pc Ls stk) := by
  obtain ⟨hx, hb, hown, hZ, r1, r2, r3, r4, ⟨L, X, N⟩, eT⟩ := w
  obtain ⟨v, _, ⟨T', L', k', n'⟩, -, X', ⟨Lc, hQ, hl1, hc1, hs1⟩, st⟩ := Jvm.LawKit.callS X hx (y := y) hown (mvT hZ w1) (mvT hZ w2) (mvT hZ w3) (mvT hZ w4) hy (backOf (W := Wt) (Q := fun v h L => Fr n0 L ∧ Q' v h) ctr hZ w4 w3 hf hl) (g := mkF m pc Ls stk) rfl (hsz.trans r1.symm) (argsL := argsL) (rest := rest) (lenOf hpd hlen) hst (by show 2 * 0 + _ ≤ _; omega) (by rw [hb]; exact hd) (fun _ _ => ⟨has, eT, hc, hs⟩)
  dsimp only [Pt.U, Pt.locs, Pt.cells, Pt.slots] at X' st hQ hl1 hc1 hs1
  subst hl1 hc1 hs1
  obtain ⟨s₂, q, st', r⟩ := K v T' T'.heap ⟨hx, hb, hown, hZ, r1, r2, r3, r4, ⟨_, X', Fr.app N hQ.1⟩, rfl⟩ hQ.2
  subst hp
  exact ⟨s₂, q, st _ st', r⟩
theorem gcallN (w : W Z own nm bytes mx rt n0 p l e R s m args below meth c k n T h) {index : Nat} {y : MethodName} {yb : ByteArray} {ymx : Nat} {rm : Room} {as : Array Value} {Q' : Option Value → Heap → Prop} {argsL : List Value} {stk : List Value} {ps : List FieldType} {ro : Option FieldType} {Wt : Nat} {a : Addr} (hd : decode bytes pc = .ok (.invokespecial index, 3)) (w1 : (Jvm.Cond.methodLink own index y).before a0 Z = true) (w2 : (Jvm.Cond.instanceMethod y).before a0 Z = true) (w3 : (Jvm.Cond.initialized y.cls).before a0 Z = true) (w4 : (Jvm.Cond.code y yb ymx none).before a0 Z = true) (hyn : y.name = "<init>")
    (hy : y.cls ≠ "java/lang/invoke/MethodHandle" ∧ y.cls ≠ "java/lang/invoke/VarHandle") (hpd : parseMethodDescriptor y.desc = some ⟨ps, ro⟩) (ctr : Ctr l y yb ymx none rm Z as h n0 Q' []) (has : (.ref a :: argsL).toArray = as) (hlen : argsL.length = ps.length) (hst : stk = argsL.reverse ++ .ref a :: rest) (hsz : Ls.size = mx) (hW : (rest.map fun v => v.category).sum ≤ Wt) (hf : rm.frames + 1 ≤ R.frames) (hl : Wt + (ymx + 11) + rm.locals ≤ R.locals) (hc : k + rm.cells ≤ R.cells) (hs : n + rm.slots ≤ R.slots) (hp : pc + 3 = pc')
    (K : ∀ v T' h', W Z own nm bytes mx rt n0 p l e R s m args below meth c (k + rm.cells) (n + rm.slots) T' h' → Q' v h' → Go n0 p e below s Q CC NN T' (mkF m pc' Ls (v.toList ++ rest))) : Go n0 p e below s Q CC NN T (mkF m pc Ls stk) := by
  obtain ⟨hx, hb, hown, hZ, r1, r2, r3, r4, ⟨L, X, N⟩, eT⟩ := w
  obtain ⟨v, _, ⟨T', L', k', n'⟩, -, X', ⟨Lc, hQ, hl1, hc1, hs1⟩, st⟩ := X.specialBack hx (y := y) hyn hown (mvT hZ w1) (mvT hZ w2) (mvT hZ w4) hy (backOf (W := Wt) (Q := fun v h L => Fr n0 L ∧ Q' v h) ctr hZ w4 w3 hf hl) (g := mkF m pc Ls stk) rfl (hsz.trans r1.symm) (Steps.refl _) (a := a) (argsL := argsL) (rest := rest) (lenOf hpd hlen) hst (by show 2 * 0 + _ ≤ _; omega) (by rw [hb]; exact hd) (fun _ _ => ⟨has, eT, hc, hs⟩)
  dsimp only [Pt.U, Pt.locs, Pt.cells, Pt.slots] at X' st hQ hl1 hc1 hs1
  subst hl1 hc1 hs1
  obtain ⟨s₂, q, st', r⟩ := K v T' T'.heap ⟨hx, hb, hown, hZ, r1, r2, r3, r4, ⟨_, X', Fr.app N hQ.1⟩, rfl⟩ hQ.2
  subst hp
  exact ⟨s₂, q, st.trans st', r⟩
theorem gcallV (w : W Z own nm bytes mx rt n0 p l e R s m args below meth c k n T h) {index : Nat} {y : MethodName} {yb : ByteArray} {ymx : Nat} {yr : Option FieldType} {rm : Room} {as : Array Value} {Q' : Option Value → Heap → Prop} {argsL : List Value} {stk : List Value} {ps : List FieldType} {ro : Option FieldType} {Wt : Nat} {a : Addr} {C : String} (hd : decode bytes pc = .ok (.invokevirtual index, 3)) (w1 : (Jvm.Cond.methodLink own index y).before a0 Z = true) (w2 : (Jvm.Cond.declares y).before a0 Z = true) (w5 : (Jvm.Cond.selects C y y).before a0 Z = true) (w6 : (Jvm.Cond.instanceMethod y).before a0 Z = true) (w3 : (Jvm.Cond.initialized y.cls).before a0 Z = true) (w4 : (Jvm.Cond.code y yb ymx yr).before a0 Z = true)
    (E : Exa Z h a C) (hC : y.cls = C) (hy : y.cls ≠ "java/lang/invoke/MethodHandle" ∧ y.cls ≠ "java/lang/invoke/VarHandle") (hpd : parseMethodDescriptor y.desc = some ⟨ps, ro⟩) (ctr : Ctr l y yb ymx yr rm Z as h n0 Q' []) (has : (.ref a :: argsL).toArray = as) (hlen : argsL.length = ps.length) (hst : stk = argsL.reverse ++ .ref a :: rest) (hsz : Ls.size = mx) (hW : (rest.map fun v => v.category).sum ≤ Wt) (hf : rm.frames + 1 ≤ R.frames) (hl : Wt + (ymx + 11) + rm.locals ≤ R.locals) (hc : k + rm.cells ≤ R.cells) (hs : n + rm.slots ≤ R.slots) (hp : pc + 3 = pc')
    (K : ∀ v T' h', W Z own nm bytes mx rt n0 p l e R s m args below meth c (k + rm.cells) (n + rm.slots) T' h' → Q' v h' → Go n0 p e below s Q CC NN T' (mkF m pc' Ls (v.toList ++ rest))) : Go n0 p e below s Q CC NN T (mkF m pc Ls stk) := by
  obtain ⟨hx, hb, hown, hZ, r1, r2, r3, r4, ⟨L, X, N⟩, eT⟩ := w
  obtain ⟨cq, kq, qa, qb, qc⟩ := isOf hZ eT E
  subst hC
  obtain ⟨v, _, ⟨T', L', k', n'⟩, -, X', ⟨Lc, hQ, hl1, hc1, hs1⟩, st⟩ := X.virtualBack hx (y := y) (z := y) hown (mvT hZ w1) (mvT hZ w2) (notFace_of_selects (args := #[]) (mvT hZ w5)) (mvT hZ w5) (mvT hZ w6) hy (backOf (W := Wt) (Q := fun v h L => Fr n0 L ∧ Q' v h) ctr hZ w4 w3 hf hl) qa qc (g := mkF m pc Ls stk) rfl (hsz.trans r1.symm) (Steps.refl _) (argsL := argsL) (rest := rest) (lenOf hpd hlen) hst (by show 2 * 0 + _ ≤ _; omega) (by rw [hb]; exact hd) (fun _ _ => ⟨has, eT, hc, hs⟩)
  dsimp only [Pt.U, Pt.locs, Pt.cells, Pt.slots] at X' st hQ hl1 hc1 hs1
  subst hl1 hc1 hs1
  obtain ⟨s₂, q, st', r⟩ := K v T' T'.heap ⟨hx, hb, hown, hZ, r1, r2, r3, r4, ⟨_, X', Fr.app N hQ.1⟩, rfl⟩ hQ.2
  subst hp
  exact ⟨s₂, q, st.trans st', r⟩
theorem gaaload (w : W Z own nm bytes mx rt n0 p l e R s m args below meth c k n T h) {a : Addr} {cl : Cell} {ty : FieldType} {j : Int32} {v : Value} (hd : decode bytes pc = .ok (.aaload, 1)) (A : Arr Z h a cl ty) (hty : ty.isReference = true) (hin : ¬ (j < 0 ∨ cl.slots.size ≤ j.toNatClampNeg)) (hv : cl.slots[j.toNatClampNeg]? = some v) (hp : pc + 1 = pc') (K : Go n0 p e below s Q CC NN T (mkF m pc' Ls (v :: rest))) : Go n0 p e below s Q CC NN T (mkF m pc Ls (.int j :: .ref a :: rest)) := by
  obtain ⟨hx, hb, hown, hZ, r1, r2, r3, r4, ⟨L, X, N⟩, eT⟩ := w
  obtain ⟨s₂, q, st', r⟩ := K
  subst hp
  exact ⟨s₂, q, X.aaload hx (j := j) (v := v) (by rw [eT]; exact A.1) (State.isArrayOf_alike hZ.alike A.2.1) hty A.2.2 hin hv (g := mkF m pc Ls (.int j :: .ref a :: rest)) rfl rfl (by rw [hb]; exact hd) _ st', r⟩
theorem glenA (w : W Z own nm bytes mx rt n0 p l e R s m args below meth c k n T h) {a : Addr} {cl : Cell} {ty : FieldType} {z : Int32} (hd : decode bytes pc = .ok (.arraylength, 1)) (A : Arr Z h a cl ty) (hz : cl.slots.size.toInt32 = z) (hp : pc + 1 = pc') (K : Go n0 p e below s Q CC NN T (mkF m pc' Ls (.int z :: rest))) : Go n0 p e below s Q CC NN T (mkF m pc Ls (.ref a :: rest)) := by
  obtain ⟨hx, hb, hown, hZ, r1, r2, r3, r4, ⟨L, X, N⟩, eT⟩ := w
  obtain ⟨s₂, q, st', r⟩ := K
  subst hp hz
  exact ⟨s₂, q, X.arraylength hx (by rw [eT]; exact A.1) (State.isArrayOf_alike hZ.alike A.2.1) (g := mkF m pc Ls (.ref a :: rest)) rfl rfl (by rw [hb]; exact hd) _ st', r⟩
theorem gclone (w : W Z own nm bytes mx rt n0 p l e R s m args below meth c k n T h) {index Wt cap : Nat} {ad : String} {a : Addr} {cl : Cell} {ty : FieldType} (hd : decode bytes pc = .ok (.invokevirtual index, 3)) (w1 : (Jvm.Cond.methodLink own index ⟨ad, "clone", "()Ljava/lang/Object;"⟩).before a0 Z = true) (w2 : (Jvm.Cond.sameMethod ad "java/lang/Object" "clone" "()Ljava/lang/Object;").before a0 Z = true) (w3 : (Jvm.Cond.native ⟨"java/lang/Object", "clone", "()Ljava/lang/Object;"⟩).before a0 Z = true)
    (w4 : (Jvm.Cond.instanceMethod ⟨"java/lang/Object", "clone", "()Ljava/lang/Object;"⟩).before a0 Z = true) (w5 : (Jvm.Cond.selects ad ⟨ad, "clone", "()Ljava/lang/Object;"⟩ ⟨"java/lang/Object", "clone", "()Ljava/lang/Object;"⟩).before a0 Z = true) (w6 : (Jvm.Cond.castable ad "java/lang/Cloneable").before a0 Z = true)
    (A : Arr Z h a cl ty) (E : Exa Z h a ad) (F : FitC Z cl) (hsz : Ls.size = mx) (hf : 1 ≤ R.frames) (hW : (rest.map fun v => v.category).sum ≤ Wt) (hl : Wt + 14 ≤ R.locals) (hcap : cl.slots.size ≤ cap) (hc : k + 1 ≤ R.cells) (hsl : n + cap ≤ R.slots) (hp : pc + 3 = pc')
    (K : ∀ T' h' a', h.size = a' → W Z own nm bytes mx rt n0 p l e R s m args below meth c (k + 1) (n + cap) T' h' → Ext h h' → Arr Z h' a' (cloneOf cl) ty → Exa Z h' a' ad → Go n0 p e below s Q CC NN T' (mkF m pc' Ls (.ref a' :: rest))) : Go n0 p e below s Q CC NN T (mkF m pc Ls (.ref a :: rest)) := by
  obtain ⟨hx, hb, hown, hZ, r1, r2, r3, r4, ⟨L, X, N⟩, eT⟩ := w
  obtain ⟨T', h', X', e', Ex, A', E', st⟩ := cloneA X hx hZ hown w1 w2 w3 w4 w5 w6 eT A E F (g := mkF m pc Ls (.ref a :: rest)) rfl (hsz.trans r1.symm) rfl (by rw [hb]; exact hd) hf (W := Wt) (by show 2 * 0 + _ ≤ _; omega) hl hcap hc hsl
  obtain ⟨s₂, q, st', r⟩ := K T' h' _ rfl ⟨hx, hb, hown, hZ, r1, r2, r3, r4, ⟨_, X', N⟩, e'⟩ Ex A' E'
  subst hp
  exact ⟨s₂, q, st _ st', r⟩
theorem metGoH {y : MethodName} {rm : Room} {as : Array Value} {ws : List Jvm.Cond} (hpn : plainFor y = true) (hef : ∀ m, entryFrame m as mx = mkF m 0 Ls [])
    (H : ∀ (p : Program) (e : Env) (s : State) (m : MethodId) (below : List Frame) (meth : Method) (c : Code) (T : State), W Z y.cls y.name bytes mx rt n0 p l e rm s m as below meth c 0 0 T h → s.heap = h → Go n0 p e below s Q rm.cells rm.slots T (mkF m 0 Ls [])) : Ctr l y bytes mx rt rm Z as h n0 Q ws := by
  refine MetFree.of_bodySF hpn hisR ?_
  intro p e s m args below meth c s₁ Bd hml0 hP hK
  obtain ⟨rfl, hZ, hh⟩ := hP
  have e0 : s₁.heap = h := by rw [← hh, Bd.state]; rfl
  obtain ⟨s₂, o, st, r⟩ := H p e s m below meth c s₁ ⟨Bd.exec, Bd.bytes, findClass_of_methodNamed Bd.named, hZ, hml0, (name_of_methodNamed Bd.named Bd.method).1, Bd.returns, Bd.notSynchronized, ⟨[], Stand.of_body Bd, Fr.nil n0⟩, e0⟩ hh
  exact ⟨s₂, o, castTop (hef m) st, r⟩
theorem ginst0 (w : W Z own nm bytes mx rt n0 p l e R s m args below meth c k n T h) {index : Nat} (hd : decode bytes pc = .ok (.instanceof index, 3)) (hp : pc + 3 = pc') (K : Go n0 p e below s Q CC NN T (mkF m pc' Ls (.int 0 :: rest))) : Go n0 p e below s Q CC NN T (mkF m pc Ls (.null :: rest)) := by
  obtain ⟨hx, hb, -, -, -, -, -, -, ⟨L, X, -⟩, -⟩ := w
  obtain ⟨s₂, q, st, r⟩ := K
  subst hb hp
  exact ⟨s₂, q, X.instanceofNull hx (g := mkF m pc Ls (.null :: rest)) rfl rfl hd _ st, r⟩
theorem ginstN (w : W Z own nm bytes mx rt n0 p l e R s m args below meth c k n T h) (hs : s.heap = h) {index : Nat} {Kc C : String} {a : Addr} (hd : decode bytes pc = .ok (.instanceof index, 3)) (w1 : (Jvm.Cond.classLink own index Kc).before a0 Z = true) (F : Ins Z h a Kc false) (E : Exa Z h a C) (hp : pc + 3 = pc')
    (K : ∀ T', W Z own nm bytes mx rt n0 p l e R s m args below meth c k n T' h → Go n0 p e below s Q CC NN T' (mkF m pc' Ls (.int 0 :: rest))) : Go n0 p e below s Q CC NN T (mkF m pc Ls (.ref a :: rest)) := by
  obtain ⟨hx, hb, hown, hZ, r1, r2, r3, r4, ⟨L, X, N⟩, eT⟩ := w
  obtain ⟨T', X', e', st⟩ := instN X hx hZ hown w1 eT (hs ▸ F) (hs ▸ E) (g := mkF m pc Ls (.ref a :: rest)) rfl rfl (by rw [hb]; exact hd)
  obtain ⟨s₂, q, st', r⟩ := K T' ⟨hx, hb, hown, hZ, r1, r2, r3, r4, ⟨L, X', N⟩, e'⟩
  subst hp
  exact ⟨s₂, q, st _ st', r⟩
theorem gcopy (w : W Z own nm bytes mx rt n0 p l e R s m args below meth c k n T h) {index Wt : Nat} {a b : Addr} {ka kb : ClassId} {z z' sp dp nn : Int32} {vs vd : List Value} {dv dd : Value} (hd : decode bytes pc = .ok (.invokestatic index, 3)) (w1 : (Jvm.Cond.methodLink own index Jvm.Stand.acN).before a0 Z = true) (w2 : (Jvm.Cond.native Jvm.Stand.acN).before a0 Z = true) (w3 : (Jvm.Cond.static Jvm.Stand.acN).before a0 Z = true) (w4 : (Jvm.Cond.initialized "java/lang/System").before a0 Z = true)
    (A : Arv Z h a ka .byte z vs dv) (B : Arv Z h b kb .byte z' vd dd) (h1 : ¬ sp < 0) (h2 : ¬ dp < 0) (h3 : ¬ nn < 0) (h4 : sp.toNatClampNeg + nn.toNatClampNeg ≤ z.toNatClampNeg) (h5 : dp.toNatClampNeg + nn.toNatClampNeg ≤ z'.toNatClampNeg) (hlv : dp.toNatClampNeg + nn.toNatClampNeg ≤ vd.length) (ge : n0 ≤ b)
    (hsz : Ls.size = mx) (hf : 1 ≤ R.frames) (hW : (rest.map fun v => v.category).sum ≤ Wt) (hlo : Wt + (nativeFrameWords "java/lang/System" "arraycopy" 5 + 11) ≤ R.locals) (hp : pc + 3 = pc')
    (K : ∀ T' h' us, W Z own nm bytes mx rt n0 p l e R s m args below meth c k n T' h' → Keep h h' [b] → us.length = nn.toNatClampNeg → Arv Z h' b kb .byte z' (vd.take dp.toNatClampNeg ++ us ++ vd.drop (dp.toNatClampNeg + nn.toNatClampNeg)) dd → Go n0 p e below s Q CC NN T' (mkF m pc' Ls rest)) : Go n0 p e below s Q CC NN T (mkF m pc Ls (.int nn :: .int dp :: .ref b :: .int sp :: .ref a :: rest)) := by
  obtain ⟨hx, hb, hown, hZ, r1, r2, r3, r4, ⟨L, X, N⟩, eT⟩ := w
  obtain ⟨T', h', L', X', e', N', Kp, V', st⟩ := cpA X hx hZ hown w1 w2 w3 w4 eT A B (Or.inl ⟨rfl, rfl⟩) h1 h2 h3 h4 h5 rfl hlv N ge (g := mkF m pc Ls (.int nn :: .int dp :: .ref b :: .int sp :: .ref a :: rest)) rfl (hsz.trans r1.symm) rfl (by rw [hb]; exact hd) hf (W := Wt) (by show 2 * 0 + _ ≤ _; omega) hlo
  obtain ⟨s₂, q, st', r⟩ := K T' h' _ ⟨hx, hb, hown, hZ, r1, r2, r3, r4, ⟨_, X', N'⟩, e'⟩ Kp (by rw [List.length_map, List.length_range]) V'
  subst hp
  exact ⟨s₂, q, st _ st', r⟩
theorem gifnullV (w : W Z own nm bytes mx rt n0 p l e R s m args below meth c k n T h) {v : Value} {o : Int} {pt pf : Nat} (hd : decode bytes pc = .ok (.ifnull o, 3)) (ho : 0 ≤ (pc : Int) + o) (ht : ((pc : Int) + o).toNat = pt) (hf : pc + 3 = pf) (hv : v.isRef = true) (Kt : v = .null → Go n0 p e below s Q CC NN T (mkF m pt Ls rest)) (Kf : ¬ v = .null → Go n0 p e below s Q CC NN T (mkF m pf Ls rest)) : Go n0 p e below s Q CC NN T (mkF m pc Ls (v :: rest)) := by
  rcases ref_cases hv with rfl | ⟨a, rfl⟩
  · exact gifnullY w hd ho ht (Kt rfl)
  · exact gifnullN w hd hf (Kf nofun)
theorem wmono (w : W Z own nm bytes mx rt n0 p l e R s m args below meth c k n T h) {k' n' : Nat} (hk : k ≤ k') (hn : n ≤ n') : W Z own nm bytes mx rt n0 p l e R s m args below meth c k' n' T h := by
  obtain ⟨hx, hb, hown, hZ, r1, r2, r3, r4, ⟨L, X, N⟩, eT⟩ := w
  exact ⟨hx, hb, hown, hZ, r1, r2, r3, r4, ⟨L, ⟨X.admits, X.cas, X.clock, X.frames, X.room, X.hears, X.method, X.code, X.here, X.tail, X.warmed, X.limits, X.bytes, X.same.mono hk hn⟩, N⟩, eT⟩
theorem gcallP (w : W Z own nm bytes mx rt n0 p l e R s m args below meth c k n T h) {index : Nat} {y : MethodName} {yb : ByteArray} {ymx : Nat} {yr : Option FieldType} {rm : Room} {as : Array Value} {Q' : Option Value → Heap → Prop} {argsL : List Value} {stk : List Value} {ps : List FieldType} {ro : Option FieldType} {Wt : Nat} {a : Addr} {C : String} {ji : Nat} (hd : decode bytes pc = .ok (.invokevirtual index, 3)) (w1 : (Jvm.Cond.methodLink own index y).before a0 Z = true) (w2 : (Jvm.Cond.instanceMethod y).before a0 Z = true) (w5 : (Jvm.Cond.instantiable y.cls ji).before a0 Z = true) (w6 : (Jvm.Cond.privateMethod y).before a0 Z = true) (w3 : (Jvm.Cond.initialized y.cls).before a0 Z = true) (w4 : (Jvm.Cond.code y yb ymx yr).before a0 Z = true)
    (E : Exa Z h a C) (hy : y.cls ≠ "java/lang/invoke/MethodHandle" ∧ y.cls ≠ "java/lang/invoke/VarHandle") (hpd : parseMethodDescriptor y.desc = some ⟨ps, ro⟩) (ctr : Ctr l y yb ymx yr rm Z as h n0 Q' []) (has : (.ref a :: argsL).toArray = as) (hlen : argsL.length = ps.length) (hst : stk = argsL.reverse ++ .ref a :: rest) (hsz : Ls.size = mx) (hW : (rest.map fun v => v.category).sum ≤ Wt) (hf : rm.frames + 1 ≤ R.frames) (hl : Wt + (ymx + 11) + rm.locals ≤ R.locals) (hc : k + rm.cells ≤ R.cells) (hs : n + rm.slots ≤ R.slots) (hp : pc + 3 = pc')
    (K : ∀ v T' h', W Z own nm bytes mx rt n0 p l e R s m args below meth c (k + rm.cells) (n + rm.slots) T' h' → Q' v h' → Go n0 p e below s Q CC NN T' (mkF m pc' Ls (v.toList ++ rest))) : Go n0 p e below s Q CC NN T (mkF m pc Ls stk) := by
  obtain ⟨hx, hb, hown, hZ, r1, r2, r3, r4, ⟨L, X, N⟩, eT⟩ := w
  obtain ⟨cq, qa, qb⟩ := E.cell
  obtain ⟨ci, ki, i1, i2, -, i4, -, -⟩ := Cond.instantiable_spec (mvT hZ w5 (args := #[]))
  have hni : ki.isInterface = false := (Bool.or_eq_false_iff.mp i4).1
  have hpr := Cond.privateMethod_at (mvP hZ w6 (args := #[]))
  have hsel := selects_self_of_private (args := args) i1 i2 hni hpr (mvT hZ w2) hy
  obtain ⟨v, _, ⟨T', L', k', n'⟩, -, X', ⟨Lc, hQ, hl1, hc1, hs1⟩, st⟩ := X.privateBack hx (y := y) hown (mvT hZ w1) (mvT hZ w2) hsel hpr (mvT hZ w4) hy (backOf (W := Wt) (Q := fun v h L => Fr n0 L ∧ Q' v h) ctr hZ w4 w3 hf hl) (g := mkF m pc Ls stk) rfl (hsz.trans r1.symm) (Steps.refl _) (a := a) (by rw [eT]; exact qa) qb (argsL := argsL) (rest := rest) (lenOf hpd hlen) hst (by show 2 * 0 + _ ≤ _; omega) (by rw [hb]; exact hd) (fun _ _ => ⟨has, eT, hc, hs⟩)
  dsimp only [Pt.U, Pt.locs, Pt.cells, Pt.slots] at X' st hQ hl1 hc1 hs1
  subst hl1 hc1 hs1
  obtain ⟨s₂, q, st', r⟩ := K v T' T'.heap ⟨hx, hb, hown, hZ, r1, r2, r3, r4, ⟨_, X', Fr.app N hQ.1⟩, rfl⟩ hQ.2
  subst hp
  exact ⟨s₂, q, st.trans st', r⟩
theorem ref_cat {v : Value} (h : v.isRef = true) : v.category = 1 := by
  rcases ref_cases h with rfl | ⟨a, rfl⟩ <;> rfl
theorem own_bb (y : Int32) : y.toInt8.toInt32.toInt8.toInt32 = y.toInt8.toInt32 := by rw [Int8.toInt8_toInt32]
end GoKit

theorem d1_0 : decode prog_115_method_3_code 0 = .ok (.aload_n 0, 1) := by decide +kernel
theorem d1_1 : decode prog_115_method_3_code 1 = .ok (.iload_n 1, 1) := by decide +kernel
theorem d1_2 : decode prog_115_method_3_code 2 = .ok (.iload_n 2, 1) := by decide +kernel
theorem d1_3 : decode prog_115_method_3_code 3 = .ok (.iload_n 3, 1) := by decide +kernel
theorem d1_4 : decode prog_115_method_3_code 4 = .ok (.iconst 0, 1) := by decide +kernel
theorem d1_5 : decode prog_115_method_3_code 5 = .ok (.invokespecial 12, 3) := by decide +kernel
theorem d1_8 : decode prog_115_method_3_code 8 = .ok (.return_, 1) := by decide +kernel
theorem pn_d1 : plainFor (⟨"com/example/halyard/halyard/wire/CdrWriter", "<init>", "(III)V"⟩ : MethodName) = true := by first | (refine plainFor_of_name ?_; simp [plainName, overriddenIn]; done) | decide +kernel
theorem pd_d1 : parseMethodDescriptor "(III)V" = some ⟨[.int, .int, .int], none⟩ := by decide +kernel
theorem d2_0 : decode prog_115_method_4_code 0 = .ok (.aload_n 0, 1) := by decide +kernel
theorem d2_1 : decode prog_115_method_4_code 1 = .ok (.invokespecial 15, 3) := by decide +kernel
theorem d2_4 : decode prog_115_method_4_code 4 = .ok (.aload_n 0, 1) := by decide +kernel
theorem d2_5 : decode prog_115_method_4_code 5 = .ok (.iload_n 1, 1) := by decide +kernel
theorem d2_6 : decode prog_115_method_4_code 6 = .ok (.putfield 20, 3) := by decide +kernel
theorem d2_9 : decode prog_115_method_4_code 9 = .ok (.aload_n 0, 1) := by decide +kernel
theorem d2_10 : decode prog_115_method_4_code 10 = .ok (.iload 4, 2) := by decide +kernel
theorem d2_12 : decode prog_115_method_4_code 12 = .ok (.putfield 24, 3) := by decide +kernel
theorem d2_15 : decode prog_115_method_4_code 15 = .ok (.aload_n 0, 1) := by decide +kernel
theorem d2_16 : decode prog_115_method_4_code 16 = .ok (.iload_n 2, 1) := by decide +kernel
theorem d2_17 : decode prog_115_method_4_code 17 = .ok (.putfield 28, 3) := by decide +kernel
theorem d2_20 : decode prog_115_method_4_code 20 = .ok (.aload_n 0, 1) := by decide +kernel
theorem d2_21 : decode prog_115_method_4_code 21 = .ok (.iload_n 3, 1) := by decide +kernel
theorem d2_22 : decode prog_115_method_4_code 22 = .ok (.iload_n 2, 1) := by decide +kernel
theorem d2_23 : decode prog_115_method_4_code 23 = .ok (.invokestatic 31, 3) := by decide +kernel
theorem d2_26 : decode prog_115_method_4_code 26 = .ok (.newarray .byte, 2) := by decide +kernel
theorem d2_28 : decode prog_115_method_4_code 28 = .ok (.putfield 37, 3) := by decide +kernel
theorem d2_31 : decode prog_115_method_4_code 31 = .ok (.return_, 1) := by decide +kernel
theorem pn_d2 : plainFor (⟨"com/example/halyard/halyard/wire/CdrWriter", "<init>", "(IIIZ)V"⟩ : MethodName) = true := by first | (refine plainFor_of_name ?_; simp [plainName, overriddenIn]; done) | decide +kernel
theorem pd_d2 : parseMethodDescriptor "(IIIZ)V" = some ⟨[.int, .int, .int, .boolean], none⟩ := by decide +kernel
theorem d4_0 : decode jdk_29_method_65_code 0 = .ok (.iload_n 0, 1) := by decide +kernel
theorem d4_1 : decode jdk_29_method_65_code 1 = .ok (.iload_n 1, 1) := by decide +kernel
theorem d4_2 : decode jdk_29_method_65_code 2 = .ok (.if_icmp .lt 7, 3) := by decide +kernel
theorem d4_5 : decode jdk_29_method_65_code 5 = .ok (.iload_n 0, 1) := by decide +kernel
theorem d4_6 : decode jdk_29_method_65_code 6 = .ok (.goto 4, 3) := by decide +kernel
theorem d4_9 : decode jdk_29_method_65_code 9 = .ok (.iload_n 1, 1) := by decide +kernel
theorem d4_10 : decode jdk_29_method_65_code 10 = .ok (.ireturn, 1) := by decide +kernel
theorem pn_d4 : plainFor (⟨"java/lang/Math", "max", "(II)I"⟩ : MethodName) = true := by first | (refine plainFor_of_name ?_; simp [plainName, overriddenIn]; done) | decide +kernel
theorem pd_d4 : parseMethodDescriptor "(II)I" = some ⟨[.int, .int], some .int⟩ := by decide +kernel
theorem d10_0 : decode jdk_29_method_69_code 0 = .ok (.iload_n 0, 1) := by decide +kernel
theorem d10_1 : decode jdk_29_method_69_code 1 = .ok (.iload_n 1, 1) := by decide +kernel
theorem d10_2 : decode jdk_29_method_69_code 2 = .ok (.if_icmp .gt 7, 3) := by decide +kernel
theorem d10_5 : decode jdk_29_method_69_code 5 = .ok (.iload_n 0, 1) := by decide +kernel
theorem d10_6 : decode jdk_29_method_69_code 6 = .ok (.goto 4, 3) := by decide +kernel
theorem d10_9 : decode jdk_29_method_69_code 9 = .ok (.iload_n 1, 1) := by decide +kernel
theorem d10_10 : decode jdk_29_method_69_code 10 = .ok (.ireturn, 1) := by decide +kernel
theorem pn_d10 : plainFor (⟨"java/lang/Math", "min", "(II)I"⟩ : MethodName) = true := by first | (refine plainFor_of_name ?_; simp [plainName, overriddenIn]; done) | decide +kernel
theorem pd_d10 : parseMethodDescriptor "(II)I" = some ⟨[.int, .int], some .int⟩ := by decide +kernel
theorem d5_0 : decode prog_115_method_7_code 0 = .ok (.aload_n 0, 1) := by decide +kernel
theorem d5_1 : decode prog_115_method_7_code 1 = .ok (.getfield 20, 3) := by decide +kernel
theorem d5_4 : decode prog_115_method_7_code 4 = .ok (.iconst 4, 1) := by decide +kernel
theorem d5_5 : decode prog_115_method_7_code 5 = .ok (.if_icmp .ne 7, 3) := by decide +kernel
theorem d5_8 : decode prog_115_method_7_code 8 = .ok (.iconst 1, 1) := by decide +kernel
theorem d5_9 : decode prog_115_method_7_code 9 = .ok (.goto 4, 3) := by decide +kernel
theorem d5_12 : decode prog_115_method_7_code 12 = .ok (.iconst 0, 1) := by decide +kernel
theorem d5_13 : decode prog_115_method_7_code 13 = .ok (.ireturn, 1) := by decide +kernel
theorem pn_d5 : plainFor (⟨"com/example/halyard/halyard/wire/CdrWriter", "xcdr2", "()Z"⟩ : MethodName) = true := by first | (refine plainFor_of_name ?_; simp [plainName, overriddenIn]; done) | decide +kernel
theorem pd_d5 : parseMethodDescriptor "()Z" = some ⟨[], some .boolean⟩ := by decide +kernel
theorem d6_0 : decode prog_115_method_9_code 0 = .ok (.aload_n 0, 1) := by decide +kernel
theorem d6_1 : decode prog_115_method_9_code 1 = .ok (.iconst 1, 1) := by decide +kernel
theorem d6_2 : decode prog_115_method_9_code 2 = .ok (.invokevirtual 47, 3) := by decide +kernel
theorem d6_5 : decode prog_115_method_9_code 5 = .ok (.aload_n 0, 1) := by decide +kernel
theorem d6_6 : decode prog_115_method_9_code 6 = .ok (.getfield 37, 3) := by decide +kernel
theorem d6_9 : decode prog_115_method_9_code 9 = .ok (.aload_n 0, 1) := by decide +kernel
theorem d6_10 : decode prog_115_method_9_code 10 = .ok (.dup, 1) := by decide +kernel
theorem d6_11 : decode prog_115_method_9_code 11 = .ok (.getfield 41, 3) := by decide +kernel
theorem d6_14 : decode prog_115_method_9_code 14 = .ok (.dup_x1, 1) := by decide +kernel
theorem d6_15 : decode prog_115_method_9_code 15 = .ok (.iconst 1, 1) := by decide +kernel
theorem d6_16 : decode prog_115_method_9_code 16 = .ok (.iadd, 1) := by decide +kernel
theorem d6_17 : decode prog_115_method_9_code 17 = .ok (.putfield 41, 3) := by decide +kernel
theorem d6_20 : decode prog_115_method_9_code 20 = .ok (.iload_n 1, 1) := by decide +kernel
theorem d6_21 : decode prog_115_method_9_code 21 = .ok (.i2b, 1) := by decide +kernel
theorem d6_22 : decode prog_115_method_9_code 22 = .ok (.bastore, 1) := by decide +kernel
theorem d6_23 : decode prog_115_method_9_code 23 = .ok (.return_, 1) := by decide +kernel
theorem pn_d6 : plainFor (⟨"com/example/halyard/halyard/wire/CdrWriter", "writeByte", "(I)V"⟩ : MethodName) = true := by first | (refine plainFor_of_name ?_; simp [plainName, overriddenIn]; done) | decide +kernel
theorem pd_d6 : parseMethodDescriptor "(I)V" = some ⟨[.int], none⟩ := by decide +kernel
theorem d7_0 : decode prog_115_method_39_code 0 = .ok (.aload_n 0, 1) := by decide +kernel
theorem d7_1 : decode prog_115_method_39_code 1 = .ok (.getfield 37, 3) := by decide +kernel
theorem d7_4 : decode prog_115_method_39_code 4 = .ok (.arraylength, 1) := by decide +kernel
theorem d7_5 : decode prog_115_method_39_code 5 = .ok (.aload_n 0, 1) := by decide +kernel
theorem d7_6 : decode prog_115_method_39_code 6 = .ok (.getfield 41, 3) := by decide +kernel
theorem d7_9 : decode prog_115_method_39_code 9 = .ok (.isub, 1) := by decide +kernel
theorem d7_10 : decode prog_115_method_39_code 10 = .ok (.iload_n 1, 1) := by decide +kernel
theorem d7_11 : decode prog_115_method_39_code 11 = .ok (.if_icmp .ge 30, 3) := by decide +kernel
theorem d7_14 : decode prog_115_method_39_code 14 = .ok (.aload_n 0, 1) := by decide +kernel
theorem d7_15 : decode prog_115_method_39_code 15 = .ok (.aload_n 0, 1) := by decide +kernel
theorem d7_16 : decode prog_115_method_39_code 16 = .ok (.getfield 37, 3) := by decide +kernel
theorem d7_19 : decode prog_115_method_39_code 19 = .ok (.aload_n 0, 1) := by decide +kernel
theorem d7_20 : decode prog_115_method_39_code 20 = .ok (.getfield 37, 3) := by decide +kernel
theorem d7_23 : decode prog_115_method_39_code 23 = .ok (.arraylength, 1) := by decide +kernel
theorem d7_24 : decode prog_115_method_39_code 24 = .ok (.iconst 2, 1) := by decide +kernel
theorem d7_25 : decode prog_115_method_39_code 25 = .ok (.imul, 1) := by decide +kernel
theorem d7_26 : decode prog_115_method_39_code 26 = .ok (.aload_n 0, 1) := by decide +kernel
theorem d7_27 : decode prog_115_method_39_code 27 = .ok (.getfield 41, 3) := by decide +kernel
theorem d7_30 : decode prog_115_method_39_code 30 = .ok (.iload_n 1, 1) := by decide +kernel
theorem d7_31 : decode prog_115_method_39_code 31 = .ok (.iadd, 1) := by decide +kernel
theorem d7_32 : decode prog_115_method_39_code 32 = .ok (.invokestatic 31, 3) := by decide +kernel
theorem d7_35 : decode prog_115_method_39_code 35 = .ok (.invokestatic 192, 3) := by decide +kernel
theorem d7_38 : decode prog_115_method_39_code 38 = .ok (.putfield 37, 3) := by decide +kernel
theorem d7_41 : decode prog_115_method_39_code 41 = .ok (.return_, 1) := by decide +kernel
theorem pn_d7 : plainFor (⟨"com/example/halyard/halyard/wire/CdrWriter", "room", "(I)V"⟩ : MethodName) = true := by first | (refine plainFor_of_name ?_; simp [plainName, overriddenIn]; done) | decide +kernel
theorem pd_d7 : parseMethodDescriptor "(I)V" = some ⟨[.int], none⟩ := by decide +kernel
theorem d8_0 : decode prog_115_method_13_code 0 = .ok (.aload_n 0, 1) := by decide +kernel
theorem d8_1 : decode prog_115_method_13_code 1 = .ok (.bipush 8, 2) := by decide +kernel
theorem d8_3 : decode prog_115_method_13_code 3 = .ok (.invokevirtual 59, 3) := by decide +kernel
theorem d8_6 : decode prog_115_method_13_code 6 = .ok (.aload_n 0, 1) := by decide +kernel
theorem d8_7 : decode prog_115_method_13_code 7 = .ok (.bipush 8, 2) := by decide +kernel
theorem d8_9 : decode prog_115_method_13_code 9 = .ok (.invokevirtual 47, 3) := by decide +kernel
theorem d8_12 : decode prog_115_method_13_code 12 = .ok (.aload_n 0, 1) := by decide +kernel
theorem d8_13 : decode prog_115_method_13_code 13 = .ok (.aload_n 0, 1) := by decide +kernel
theorem d8_14 : decode prog_115_method_13_code 14 = .ok (.getfield 41, 3) := by decide +kernel
theorem d8_17 : decode prog_115_method_13_code 17 = .ok (.aload_n 0, 1) := by decide +kernel
theorem d8_18 : decode prog_115_method_13_code 18 = .ok (.getfield 24, 3) := by decide +kernel
theorem d8_21 : decode prog_115_method_13_code 21 = .ok (.ifCond .eq 10, 3) := by decide +kernel
theorem d8_24 : decode prog_115_method_13_code 24 = .ok (.lload_n 1, 1) := by decide +kernel
theorem d8_25 : decode prog_115_method_13_code 25 = .ok (.bipush 32, 2) := by decide +kernel
theorem d8_27 : decode prog_115_method_13_code 27 = .ok (.lushr, 1) := by decide +kernel
theorem d8_28 : decode prog_115_method_13_code 28 = .ok (.goto 4, 3) := by decide +kernel
theorem d8_31 : decode prog_115_method_13_code 31 = .ok (.lload_n 1, 1) := by decide +kernel
theorem d8_32 : decode prog_115_method_13_code 32 = .ok (.l2i, 1) := by decide +kernel
theorem d8_33 : decode prog_115_method_13_code 33 = .ok (.iconst 4, 1) := by decide +kernel
theorem d8_34 : decode prog_115_method_13_code 34 = .ok (.invokevirtual 62, 3) := by decide +kernel
theorem d8_37 : decode prog_115_method_13_code 37 = .ok (.aload_n 0, 1) := by decide +kernel
theorem d8_38 : decode prog_115_method_13_code 38 = .ok (.aload_n 0, 1) := by decide +kernel
theorem d8_39 : decode prog_115_method_13_code 39 = .ok (.getfield 41, 3) := by decide +kernel
theorem d8_42 : decode prog_115_method_13_code 42 = .ok (.iconst 4, 1) := by decide +kernel
theorem d8_43 : decode prog_115_method_13_code 43 = .ok (.iadd, 1) := by decide +kernel
theorem d8_44 : decode prog_115_method_13_code 44 = .ok (.aload_n 0, 1) := by decide +kernel
theorem d8_45 : decode prog_115_method_13_code 45 = .ok (.getfield 24, 3) := by decide +kernel
theorem d8_48 : decode prog_115_method_13_code 48 = .ok (.ifCond .eq 7, 3) := by decide +kernel
theorem d8_51 : decode prog_115_method_13_code 51 = .ok (.lload_n 1, 1) := by decide +kernel
theorem d8_52 : decode prog_115_method_13_code 52 = .ok (.goto 7, 3) := by decide +kernel
theorem d8_55 : decode prog_115_method_13_code 55 = .ok (.lload_n 1, 1) := by decide +kernel
theorem d8_56 : decode prog_115_method_13_code 56 = .ok (.bipush 32, 2) := by decide +kernel
theorem d8_58 : decode prog_115_method_13_code 58 = .ok (.lushr, 1) := by decide +kernel
theorem d8_59 : decode prog_115_method_13_code 59 = .ok (.l2i, 1) := by decide +kernel
theorem d8_60 : decode prog_115_method_13_code 60 = .ok (.iconst 4, 1) := by decide +kernel
theorem d8_61 : decode prog_115_method_13_code 61 = .ok (.invokevirtual 62, 3) := by decide +kernel
theorem d8_64 : decode prog_115_method_13_code 64 = .ok (.aload_n 0, 1) := by decide +kernel
theorem d8_65 : decode prog_115_method_13_code 65 = .ok (.dup, 1) := by decide +kernel
theorem d8_66 : decode prog_115_method_13_code 66 = .ok (.getfield 41, 3) := by decide +kernel
theorem d8_69 : decode prog_115_method_13_code 69 = .ok (.bipush 8, 2) := by decide +kernel
theorem d8_71 : decode prog_115_method_13_code 71 = .ok (.iadd, 1) := by decide +kernel
theorem d8_72 : decode prog_115_method_13_code 72 = .ok (.putfield 41, 3) := by decide +kernel
theorem d8_75 : decode prog_115_method_13_code 75 = .ok (.return_, 1) := by decide +kernel
theorem pn_d8 : plainFor (⟨"com/example/halyard/halyard/wire/CdrWriter", "writeLong", "(J)V"⟩ : MethodName) = true := by first | (refine plainFor_of_name ?_; simp [plainName, overriddenIn]; done) | decide +kernel
theorem pd_d8 : parseMethodDescriptor "(J)V" = some ⟨[.long], none⟩ := by decide +kernel
theorem d9_0 : decode prog_115_method_8_code 0 = .ok (.iload_n 1, 1) := by decide +kernel
theorem d9_1 : decode prog_115_method_8_code 1 = .ok (.aload_n 0, 1) := by decide +kernel
theorem d9_2 : decode prog_115_method_8_code 2 = .ok (.getfield 20, 3) := by decide +kernel
theorem d9_5 : decode prog_115_method_8_code 5 = .ok (.invokestatic 44, 3) := by decide +kernel
theorem d9_8 : decode prog_115_method_8_code 8 = .ok (.istore_n 2, 1) := by decide +kernel
theorem d9_9 : decode prog_115_method_8_code 9 = .ok (.aload_n 0, 1) := by decide +kernel
theorem d9_10 : decode prog_115_method_8_code 10 = .ok (.getfield 41, 3) := by decide +kernel
theorem d9_13 : decode prog_115_method_8_code 13 = .ok (.aload_n 0, 1) := by decide +kernel
theorem d9_14 : decode prog_115_method_8_code 14 = .ok (.getfield 28, 3) := by decide +kernel
theorem d9_17 : decode prog_115_method_8_code 17 = .ok (.isub, 1) := by decide +kernel
theorem d9_18 : decode prog_115_method_8_code 18 = .ok (.ineg, 1) := by decide +kernel
theorem d9_19 : decode prog_115_method_8_code 19 = .ok (.iload_n 2, 1) := by decide +kernel
theorem d9_20 : decode prog_115_method_8_code 20 = .ok (.iconst 1, 1) := by decide +kernel
theorem d9_21 : decode prog_115_method_8_code 21 = .ok (.isub, 1) := by decide +kernel
theorem d9_22 : decode prog_115_method_8_code 22 = .ok (.iand, 1) := by decide +kernel
theorem d9_23 : decode prog_115_method_8_code 23 = .ok (.istore_n 3, 1) := by decide +kernel
theorem d9_24 : decode prog_115_method_8_code 24 = .ok (.iload_n 3, 1) := by decide +kernel
theorem d9_25 : decode prog_115_method_8_code 25 = .ok (.ifCond .le 36, 3) := by decide +kernel
theorem d9_28 : decode prog_115_method_8_code 28 = .ok (.aload_n 0, 1) := by decide +kernel
theorem d9_29 : decode prog_115_method_8_code 29 = .ok (.iload_n 3, 1) := by decide +kernel
theorem d9_30 : decode prog_115_method_8_code 30 = .ok (.invokevirtual 47, 3) := by decide +kernel
theorem d9_33 : decode prog_115_method_8_code 33 = .ok (.aload_n 0, 1) := by decide +kernel
theorem d9_34 : decode prog_115_method_8_code 34 = .ok (.getfield 37, 3) := by decide +kernel
theorem d9_37 : decode prog_115_method_8_code 37 = .ok (.aload_n 0, 1) := by decide +kernel
theorem d9_38 : decode prog_115_method_8_code 38 = .ok (.getfield 41, 3) := by decide +kernel
theorem d9_41 : decode prog_115_method_8_code 41 = .ok (.aload_n 0, 1) := by decide +kernel
theorem d9_42 : decode prog_115_method_8_code 42 = .ok (.getfield 41, 3) := by decide +kernel
theorem d9_45 : decode prog_115_method_8_code 45 = .ok (.iload_n 3, 1) := by decide +kernel
theorem d9_46 : decode prog_115_method_8_code 46 = .ok (.iadd, 1) := by decide +kernel
theorem d9_47 : decode prog_115_method_8_code 47 = .ok (.iconst 0, 1) := by decide +kernel
theorem d9_48 : decode prog_115_method_8_code 48 = .ok (.invokestatic 50, 3) := by decide +kernel
theorem d9_51 : decode prog_115_method_8_code 51 = .ok (.aload_n 0, 1) := by decide +kernel
theorem d9_52 : decode prog_115_method_8_code 52 = .ok (.dup, 1) := by decide +kernel
theorem d9_53 : decode prog_115_method_8_code 53 = .ok (.getfield 41, 3) := by decide +kernel
theorem d9_56 : decode prog_115_method_8_code 56 = .ok (.iload_n 3, 1) := by decide +kernel
theorem d9_57 : decode prog_115_method_8_code 57 = .ok (.iadd, 1) := by decide +kernel
theorem d9_58 : decode prog_115_method_8_code 58 = .ok (.putfield 41, 3) := by decide +kernel
theorem d9_61 : decode prog_115_method_8_code 61 = .ok (.return_, 1) := by decide +kernel
theorem pn_d9 : plainFor (⟨"com/example/halyard/halyard/wire/CdrWriter", "align", "(I)V"⟩ : MethodName) = true := by first | (refine plainFor_of_name ?_; simp [plainName, overriddenIn]; done) | decide +kernel
theorem pd_d9 : parseMethodDescriptor "(I)V" = some ⟨[.int], none⟩ := by decide +kernel
theorem d11_0 : decode jdk_65_method_110_code 0 = .ok (.aload_n 0, 1) := by decide +kernel
theorem d11_1 : decode jdk_65_method_110_code 1 = .ok (.arraylength, 1) := by decide +kernel
theorem d11_2 : decode jdk_65_method_110_code 2 = .ok (.iload_n 1, 1) := by decide +kernel
theorem d11_3 : decode jdk_65_method_110_code 3 = .ok (.iload_n 2, 1) := by decide +kernel
theorem d11_4 : decode jdk_65_method_110_code 4 = .ok (.invokestatic 13, 3) := by decide +kernel
theorem d11_7 : decode jdk_65_method_110_code 7 = .ok (.iload_n 1, 1) := by decide +kernel
theorem d11_8 : decode jdk_65_method_110_code 8 = .ok (.istore 4, 2) := by decide +kernel
theorem d11_10 : decode jdk_65_method_110_code 10 = .ok (.iload 4, 2) := by decide +kernel
theorem d11_12 : decode jdk_65_method_110_code 12 = .ok (.iload_n 2, 1) := by decide +kernel
theorem d11_13 : decode jdk_65_method_110_code 13 = .ok (.if_icmp .ge 14, 3) := by decide +kernel
theorem d11_16 : decode jdk_65_method_110_code 16 = .ok (.aload_n 0, 1) := by decide +kernel
theorem d11_17 : decode jdk_65_method_110_code 17 = .ok (.iload 4, 2) := by decide +kernel
theorem d11_19 : decode jdk_65_method_110_code 19 = .ok (.iload_n 3, 1) := by decide +kernel
theorem d11_20 : decode jdk_65_method_110_code 20 = .ok (.bastore, 1) := by decide +kernel
theorem d11_21 : decode jdk_65_method_110_code 21 = .ok (.iinc 4 1, 3) := by decide +kernel
theorem d11_24 : decode jdk_65_method_110_code 24 = .ok (.goto (-14), 3) := by decide +kernel
theorem d11_27 : decode jdk_65_method_110_code 27 = .ok (.return_, 1) := by decide +kernel
theorem pn_d11 : plainFor (⟨"java/util/Arrays", "fill", "([BIIB)V"⟩ : MethodName) = true := by first | (refine plainFor_of_name ?_; simp [plainName, overriddenIn]; done) | decide +kernel
theorem pd_d11 : parseMethodDescriptor "([BIIB)V" = some ⟨[(.array .byte), .int, .int, .byte], none⟩ := by decide +kernel
theorem d12_0 : decode jdk_65_method_30_code 0 = .ok (.iload_n 1, 1) := by decide +kernel
theorem d12_1 : decode jdk_65_method_30_code 1 = .ok (.iload_n 2, 1) := by decide +kernel
theorem d12_2 : decode jdk_65_method_30_code 2 = .ok (.if_icmp .le 44, 3) := by decide +kernel
theorem d12_5 : decode jdk_65_method_30_code 5 = .ok (.new 43, 3) := by decide +kernel
theorem d12_8 : decode jdk_65_method_30_code 8 = .ok (.dup, 1) := by decide +kernel
theorem d12_9 : decode jdk_65_method_30_code 9 = .ok (.new 45, 3) := by decide +kernel
theorem d12_12 : decode jdk_65_method_30_code 12 = .ok (.dup, 1) := by decide +kernel
theorem d12_13 : decode jdk_65_method_30_code 13 = .ok (.invokespecial 47, 3) := by decide +kernel
theorem d12_16 : decode jdk_65_method_30_code 16 = .ok (.ldc 48, 2) := by decide +kernel
theorem d12_18 : decode jdk_65_method_30_code 18 = .ok (.invokevirtual 50, 3) := by decide +kernel
theorem d12_21 : decode jdk_65_method_30_code 21 = .ok (.iload_n 1, 1) := by decide +kernel
theorem d12_22 : decode jdk_65_method_30_code 22 = .ok (.invokevirtual 54, 3) := by decide +kernel
theorem d12_25 : decode jdk_65_method_30_code 25 = .ok (.ldc 57, 2) := by decide +kernel
theorem d12_27 : decode jdk_65_method_30_code 27 = .ok (.invokevirtual 50, 3) := by decide +kernel
theorem d12_30 : decode jdk_65_method_30_code 30 = .ok (.iload_n 2, 1) := by decide +kernel
theorem d12_31 : decode jdk_65_method_30_code 31 = .ok (.invokevirtual 54, 3) := by decide +kernel
theorem d12_34 : decode jdk_65_method_30_code 34 = .ok (.ldc 59, 2) := by decide +kernel
theorem d12_36 : decode jdk_65_method_30_code 36 = .ok (.invokevirtual 50, 3) := by decide +kernel
theorem d12_39 : decode jdk_65_method_30_code 39 = .ok (.invokevirtual 61, 3) := by decide +kernel
theorem d12_42 : decode jdk_65_method_30_code 42 = .ok (.invokespecial 65, 3) := by decide +kernel
theorem d12_45 : decode jdk_65_method_30_code 45 = .ok (.athrow, 1) := by decide +kernel
theorem d12_46 : decode jdk_65_method_30_code 46 = .ok (.iload_n 1, 1) := by decide +kernel
theorem d12_47 : decode jdk_65_method_30_code 47 = .ok (.ifCond .ge 12, 3) := by decide +kernel
theorem d12_50 : decode jdk_65_method_30_code 50 = .ok (.new 68, 3) := by decide +kernel
theorem d12_53 : decode jdk_65_method_30_code 53 = .ok (.dup, 1) := by decide +kernel
theorem d12_54 : decode jdk_65_method_30_code 54 = .ok (.iload_n 1, 1) := by decide +kernel
theorem d12_55 : decode jdk_65_method_30_code 55 = .ok (.invokespecial 70, 3) := by decide +kernel
theorem d12_58 : decode jdk_65_method_30_code 58 = .ok (.athrow, 1) := by decide +kernel
theorem d12_59 : decode jdk_65_method_30_code 59 = .ok (.iload_n 2, 1) := by decide +kernel
theorem d12_60 : decode jdk_65_method_30_code 60 = .ok (.iload_n 0, 1) := by decide +kernel
theorem d12_61 : decode jdk_65_method_30_code 61 = .ok (.if_icmp .le 12, 3) := by decide +kernel
theorem d12_64 : decode jdk_65_method_30_code 64 = .ok (.new 68, 3) := by decide +kernel
theorem d12_67 : decode jdk_65_method_30_code 67 = .ok (.dup, 1) := by decide +kernel
theorem d12_68 : decode jdk_65_method_30_code 68 = .ok (.iload_n 2, 1) := by decide +kernel
theorem d12_69 : decode jdk_65_method_30_code 69 = .ok (.invokespecial 70, 3) := by decide +kernel
theorem d12_72 : decode jdk_65_method_30_code 72 = .ok (.athrow, 1) := by decide +kernel
theorem d12_73 : decode jdk_65_method_30_code 73 = .ok (.return_, 1) := by decide +kernel
theorem pn_d12 : plainFor (⟨"java/util/Arrays", "rangeCheck", "(III)V"⟩ : MethodName) = true := by first | (refine plainFor_of_name ?_; simp [plainName, overriddenIn]; done) | decide +kernel
theorem pd_d12 : parseMethodDescriptor "(III)V" = some ⟨[.int, .int, .int], none⟩ := by decide +kernel
theorem d13_0 : decode prog_115_method_38_code 0 = .ok (.iconst 0, 1) := by decide +kernel
theorem d13_1 : decode prog_115_method_38_code 1 = .ok (.istore 4, 2) := by decide +kernel
theorem d13_3 : decode prog_115_method_38_code 3 = .ok (.iload 4, 2) := by decide +kernel
theorem d13_5 : decode prog_115_method_38_code 5 = .ok (.iload_n 3, 1) := by decide +kernel
theorem d13_6 : decode prog_115_method_38_code 6 = .ok (.if_icmp .ge 46, 3) := by decide +kernel
theorem d13_9 : decode prog_115_method_38_code 9 = .ok (.aload_n 0, 1) := by decide +kernel
theorem d13_10 : decode prog_115_method_38_code 10 = .ok (.getfield 24, 3) := by decide +kernel
theorem d13_13 : decode prog_115_method_38_code 13 = .ok (.ifCond .eq 12, 3) := by decide +kernel
theorem d13_16 : decode prog_115_method_38_code 16 = .ok (.iload_n 3, 1) := by decide +kernel
theorem d13_17 : decode prog_115_method_38_code 17 = .ok (.iconst 1, 1) := by decide +kernel
theorem d13_18 : decode prog_115_method_38_code 18 = .ok (.isub, 1) := by decide +kernel
theorem d13_19 : decode prog_115_method_38_code 19 = .ok (.iload 4, 2) := by decide +kernel
theorem d13_21 : decode prog_115_method_38_code 21 = .ok (.isub, 1) := by decide +kernel
theorem d13_22 : decode prog_115_method_38_code 22 = .ok (.goto 5, 3) := by decide +kernel
theorem d13_25 : decode prog_115_method_38_code 25 = .ok (.iload 4, 2) := by decide +kernel
theorem d13_27 : decode prog_115_method_38_code 27 = .ok (.istore 5, 2) := by decide +kernel
theorem d13_29 : decode prog_115_method_38_code 29 = .ok (.aload_n 0, 1) := by decide +kernel
theorem d13_30 : decode prog_115_method_38_code 30 = .ok (.getfield 37, 3) := by decide +kernel
theorem d13_33 : decode prog_115_method_38_code 33 = .ok (.iload_n 1, 1) := by decide +kernel
theorem d13_34 : decode prog_115_method_38_code 34 = .ok (.iload 4, 2) := by decide +kernel
theorem d13_36 : decode prog_115_method_38_code 36 = .ok (.iadd, 1) := by decide +kernel
theorem d13_37 : decode prog_115_method_38_code 37 = .ok (.iload_n 2, 1) := by decide +kernel
theorem d13_38 : decode prog_115_method_38_code 38 = .ok (.bipush 8, 2) := by decide +kernel
theorem d13_40 : decode prog_115_method_38_code 40 = .ok (.iload 5, 2) := by decide +kernel
theorem d13_42 : decode prog_115_method_38_code 42 = .ok (.imul, 1) := by decide +kernel
theorem d13_43 : decode prog_115_method_38_code 43 = .ok (.iushr, 1) := by decide +kernel
theorem d13_44 : decode prog_115_method_38_code 44 = .ok (.i2b, 1) := by decide +kernel
theorem d13_45 : decode prog_115_method_38_code 45 = .ok (.bastore, 1) := by decide +kernel
theorem d13_46 : decode prog_115_method_38_code 46 = .ok (.iinc 4 1, 3) := by decide +kernel
theorem d13_49 : decode prog_115_method_38_code 49 = .ok (.goto (-46), 3) := by decide +kernel
theorem d13_52 : decode prog_115_method_38_code 52 = .ok (.return_, 1) := by decide +kernel
theorem pn_d13 : plainFor (⟨"com/example/halyard/halyard/wire/CdrWriter", "put", "(III)V"⟩ : MethodName) = true := by first | (refine plainFor_of_name ?_; simp [plainName, overriddenIn]; done) | decide +kernel
theorem pd_d13 : parseMethodDescriptor "(III)V" = some ⟨[.int, .int, .int], none⟩ := by decide +kernel
theorem d14_0 : decode prog_115_method_6_code 0 = .ok (.aload_n 0, 1) := by decide +kernel
theorem d14_1 : decode prog_115_method_6_code 1 = .ok (.getfield 41, 3) := by decide +kernel
theorem d14_4 : decode prog_115_method_6_code 4 = .ok (.ireturn, 1) := by decide +kernel
theorem pn_d14 : plainFor (⟨"com/example/halyard/halyard/wire/CdrWriter", "position", "()I"⟩ : MethodName) = true := by first | (refine plainFor_of_name ?_; simp [plainName, overriddenIn]; done) | decide +kernel
theorem pd_d14 : parseMethodDescriptor "()I" = some ⟨[], some .int⟩ := by decide +kernel
theorem d15_0 : decode jdk_65_method_121_code 0 = .ok (.iload_n 1, 1) := by decide +kernel
theorem d15_1 : decode jdk_65_method_121_code 1 = .ok (.aload_n 0, 1) := by decide +kernel
theorem d15_2 : decode jdk_65_method_121_code 2 = .ok (.arraylength, 1) := by decide +kernel
theorem d15_3 : decode jdk_65_method_121_code 3 = .ok (.if_icmp .ne 11, 3) := by decide +kernel
theorem d15_6 : decode jdk_65_method_121_code 6 = .ok (.aload_n 0, 1) := by decide +kernel
theorem d15_7 : decode jdk_65_method_121_code 7 = .ok (.invokevirtual 310, 3) := by decide +kernel
theorem d15_10 : decode jdk_65_method_121_code 10 = .ok (.checkcast 311, 3) := by decide +kernel
theorem d15_13 : decode jdk_65_method_121_code 13 = .ok (.areturn, 1) := by decide +kernel
theorem d15_14 : decode jdk_65_method_121_code 14 = .ok (.iload_n 1, 1) := by decide +kernel
theorem d15_15 : decode jdk_65_method_121_code 15 = .ok (.newarray .byte, 2) := by decide +kernel
theorem d15_17 : decode jdk_65_method_121_code 17 = .ok (.astore_n 2, 1) := by decide +kernel
theorem d15_18 : decode jdk_65_method_121_code 18 = .ok (.aload_n 0, 1) := by decide +kernel
theorem d15_19 : decode jdk_65_method_121_code 19 = .ok (.iconst 0, 1) := by decide +kernel
theorem d15_20 : decode jdk_65_method_121_code 20 = .ok (.aload_n 2, 1) := by decide +kernel
theorem d15_21 : decode jdk_65_method_121_code 21 = .ok (.iconst 0, 1) := by decide +kernel
theorem d15_22 : decode jdk_65_method_121_code 22 = .ok (.aload_n 0, 1) := by decide +kernel
theorem d15_23 : decode jdk_65_method_121_code 23 = .ok (.arraylength, 1) := by decide +kernel
theorem d15_24 : decode jdk_65_method_121_code 24 = .ok (.iload_n 1, 1) := by decide +kernel
theorem d15_25 : decode jdk_65_method_121_code 25 = .ok (.invokestatic 304, 3) := by decide +kernel
theorem d15_28 : decode jdk_65_method_121_code 28 = .ok (.invokestatic 150, 3) := by decide +kernel
theorem d15_31 : decode jdk_65_method_121_code 31 = .ok (.aload_n 2, 1) := by decide +kernel
theorem d15_32 : decode jdk_65_method_121_code 32 = .ok (.areturn, 1) := by decide +kernel
theorem pn_d15 : plainFor (⟨"java/util/Arrays", "copyOf", "([BI)[B"⟩ : MethodName) = true := by first | (refine plainFor_of_name ?_; simp [plainName, overriddenIn]; done) | decide +kernel
theorem pd_d15 : parseMethodDescriptor "([BI)[B" = some ⟨[(.array .byte), .int], some (.array .byte)⟩ := by decide +kernel
theorem pn_at0 : plainName "com/example/halyard/halyard/wire/CdrWriterXcdr2PinLaw" = true := by first | (simp [plainName, overriddenIn]; done) | decide +kernel
theorem pn_at : plainFor x = true := plainFor_of_name pn_at0
variable {p : Program} {l : Launch} {e : Env} {s : State} {m : MethodId} {args : Array Value} {below : List Frame} {meth : Method} {c : Code} {T : State} {Z : State} {n0 : Nat} {h : Heap} {a0 : Array Value}
theorem own_et {h1 h2 h3 : Heap} (E : Ext h1 h2) (E' : Ext h2 h3) : Ext h1 h3 := ⟨Nat.le_trans E.1 E'.1, fun a c q => E'.2 a c (E.2 a c q)⟩
theorem own_er (h : Heap) : Ext h h := ⟨Nat.le_refl _, fun _ _ q => q⟩
theorem own_ek {h1 h2 h3 : Heap} {a : Addr} (E : Ext h1 h2) (K : Keep h2 h3 [a]) (q : h1.size ≤ a) : Ext h1 h3 :=
  ⟨Nat.le_trans E.1 K.1, fun x c r => K.2.1 x c (E.2 x c r) (fun z => by cases List.mem_singleton.mp z; exact absurd (Array.getElem?_eq_some_iff.mp r).1 (Nat.not_lt.mpr q))⟩
theorem own_ew {h1 h2 h3 : Heap} {a : Addr} {sl : Nat} {v : Value} (E : Ext h1 h2) (K : Wr h2 h3 a sl v) (q : h1.size ≤ a) : Ext h1 h3 := own_ek E (Keep.of_wr K) q
def own_B (Z : State) (h : Heap) (b : Addr) (z : Int32) : Prop := ∃ k vs dv, 64 ≤ vs.length ∧ Arv Z h b k .byte z vs dv
def own_WT (Z : State) (h : Heap) (a b : Addr) (md p z : Int32) : Prop := Exa Z h a "com/example/halyard/halyard/wire/CdrWriter" ∧ Fld Z h a "com/example/halyard/halyard/wire/CdrWriter" "maxAlignment" "I" (.int md) ∧ Fld Z h a "com/example/halyard/halyard/wire/CdrWriter" "bigEndian" "Z" (.int (0 : Int32)) ∧ Fld Z h a "com/example/halyard/halyard/wire/CdrWriter" "origin" "I" (.int (0 : Int32)) ∧ Fld Z h a "com/example/halyard/halyard/wire/CdrWriter" "out" "[B" (.ref b) ∧ Fld Z h a "com/example/halyard/halyard/wire/CdrWriter" "position" "I" (.int p) ∧ own_B Z h b z ∧ a ≠ b
theorem own_Bpad {b : Addr} {k : ClassId} {z : Int32} {vs : List Value} {dv : Value} (V : Arv Z h b k .byte z vs dv) : own_B Z h b z :=
  ⟨k, vs ++ List.replicate 64 dv, dv, by rw [List.length_append, List.length_replicate]; omega, V.pad (pad_rep vs dv 64)⟩
def own_max (x y : Int32) : Int32 := if x < y then y else x
def own_min (x y : Int32) : Int32 := if y < x then y else x
theorem own_lt {j z q : Int32} (h1 : ¬ j < 0) (h2 : j < q) (h3 : ¬ z < q) : ¬ j < 0 ∧ j < z := by
  refine ⟨h1, ?_⟩
  rw [Int32.lt_iff_toInt_lt] at *
  omega
theorem own_nz {b : Addr} {z : Int32} (q : own_B Z h b z) : ¬ z < 0 := by
  obtain ⟨k, vs, dv, -, cl, -, -, -, r, -⟩ := q
  exact r
set_option maxRecDepth 65536 in
set_option maxHeartbeats 4000000 in
theorem own_cmax (hw : ∀ d ∈ tables_1, d.before a0 Z = true) (x y : Int32) :
    Ctr l (⟨"java/lang/Math", "max", "(II)I"⟩ : MethodName) jdk_29_method_65_code 2 (some .int) ({ frames := 0, cells := 0, slots := 0, locals := 0 } : Room) Z #[(.int x), (.int y)] h n0 (fun v h' => v = some (.int (own_max x y)) ∧ h' = h) [] := by
  refine metGo (Ls := #[.val (.int x), .val (.int y)]) pn_d4 (fun m => by first | rfl | (simp [entryFrame, mkF, argsToLocals, Value.category]; done) | (simp [entryFrame, mkF, argsToLocals, Value.category, maxLocals]; done)) ?_
  intro p e s m below meth c T w
  refine giloadN (pc' := 1) (Ls := #[.val (.int x), .val (.int y)]) (rest := []) w d4_0 rfl rfl ?_
  refine giloadN (pc' := 2) (Ls := #[.val (.int x), .val (.int y)]) (rest := [(.int x)]) w d4_1 rfl rfl ?_
  refine gicmp (pt := 9) (pf := 5) w d4_2  (by decide) rfl rfl (fun (c2 : x < y) => ?_) (fun (c2 : ¬ x < y) => ?_)
  · refine giloadN (pc' := 10) (Ls := #[.val (.int x), .val (.int y)]) (rest := []) w d4_9 rfl rfl ?_
    exact gretI w d4_10 (by decide) (by decide) ⟨by unfold own_max; rw [if_pos c2], rfl⟩
  · refine giloadN (pc' := 6) (Ls := #[.val (.int x), .val (.int y)]) (rest := []) w d4_5 rfl rfl ?_
    refine ggoto (pc' := 10) w d4_6 (by decide) rfl ?_
    exact gretI w d4_10 (by decide) (by decide) ⟨by unfold own_max; rw [if_neg c2], rfl⟩
set_option maxRecDepth 65536 in
set_option maxHeartbeats 4000000 in
theorem own_cmin (hw : ∀ d ∈ tables_1, d.before a0 Z = true) (x y : Int32) :
    Ctr l (⟨"java/lang/Math", "min", "(II)I"⟩ : MethodName) jdk_29_method_69_code 2 (some .int) ({ frames := 0, cells := 0, slots := 0, locals := 0 } : Room) Z #[(.int x), (.int y)] h n0 (fun v h' => v = some (.int (own_min x y)) ∧ h' = h) [] := by
  refine metGo (Ls := #[.val (.int x), .val (.int y)]) pn_d10 (fun m => by first | rfl | (simp [entryFrame, mkF, argsToLocals, Value.category]; done) | (simp [entryFrame, mkF, argsToLocals, Value.category, maxLocals]; done)) ?_
  intro p e s m below meth c T w
  refine giloadN (pc' := 1) (Ls := #[.val (.int x), .val (.int y)]) (rest := []) w d10_0 rfl rfl ?_
  refine giloadN (pc' := 2) (Ls := #[.val (.int x), .val (.int y)]) (rest := [(.int x)]) w d10_1 rfl rfl ?_
  refine gicmp (pt := 9) (pf := 5) w d10_2  (by decide) rfl rfl (fun (c2 : y < x) => ?_) (fun (c2 : ¬ y < x) => ?_)
  · refine giloadN (pc' := 10) (Ls := #[.val (.int x), .val (.int y)]) (rest := []) w d10_9 rfl rfl ?_
    exact gretI w d10_10 (by decide) (by decide) ⟨by unfold own_min; rw [if_pos c2], rfl⟩
  · refine giloadN (pc' := 6) (Ls := #[.val (.int x), .val (.int y)]) (rest := []) w d10_5 rfl rfl ?_
    refine ggoto (pc' := 10) w d10_6 (by decide) rfl ?_
    exact gretI w d10_10 (by decide) (by decide) ⟨by unfold own_min; rw [if_neg c2], rfl⟩
theorem own_mm {z nl : Int32} (hz : ¬ z < 0) (hzn : z < nl) (hn : ¬ 32 < nl) : ¬ nl < 0 ∧ nl.toNatClampNeg ≤ 32 ∧ ¬ own_min z nl < 0 ∧ (0 : Int32).toNatClampNeg + (own_min z nl).toNatClampNeg ≤ z.toNatClampNeg ∧ (0 : Int32).toNatClampNeg + (own_min z nl).toNatClampNeg ≤ nl.toNatClampNeg ∧ (0 : Int32).toNatClampNeg + (own_min z nl).toNatClampNeg ≤ ([] ++ List.replicate 64 (defaultValue .byte)).length := by
  have e : own_min z nl = z := by
    unfold own_min; rw [if_neg]
    rw [Int32.lt_iff_toInt_lt] at *; omega
  rw [e]
  have hnl : ¬ nl < 0 := by rw [Int32.lt_iff_toInt_lt] at *; omega
  have e1 := nat_of hz
  have e2 := nat_of hnl
  rw [Int32.lt_iff_toInt_lt] at hzn hn
  have k : (32 : Int32).toInt = 32 := rfl
  have k0 : (0 : Int32).toNatClampNeg = 0 := rfl
  rw [k0, List.nil_append, List.length_replicate]
  refine ⟨hnl, ?_, hz, ?_, ?_, ?_⟩ <;> omega
set_option maxRecDepth 65536 in
set_option maxHeartbeats 4000000 in
theorem own_cpy (hw : ∀ d ∈ tables_1, d.before a0 Z = true) (b : Addr) (nl z : Int32) (z0 : n0 ≤ h.size) (BB : own_B Z h b z) (hzn : z < nl) (hn : ¬ 32 < nl) :
    Ctr l (⟨"java/util/Arrays", "copyOf", "([BI)[B"⟩ : MethodName) jdk_65_method_121_code 3 (some (.array .byte)) ({ frames := 1, cells := 1, slots := 32, locals := 40 } : Room) Z #[(.ref b), (.int nl)] h n0 (fun v h' => ∃ c, v = some (.ref c) ∧ Ext h h' ∧ own_B Z h' c nl ∧ h.size ≤ c) [] := by
  refine metGo (Ls := #[.val (.ref b), .val (.int nl), .unset]) pn_d15 (fun m => by first | rfl | (simp [entryFrame, mkF, argsToLocals, Value.category]; done) | (simp [entryFrame, mkF, argsToLocals, Value.category, maxLocals]; done)) ?_
  intro p e s m below meth c T w
  have hz := own_nz BB
  obtain ⟨kb, vb, db, lb, Vb⟩ := BB
  obtain ⟨hn0, hcap, hm0, hm1, hm2, hm3⟩ := own_mm hz hzn hn
  refine giloadN (pc' := 1) (Ls := #[.val (.ref b), .val (.int nl), .unset]) (rest := []) w d15_0 rfl rfl ?_
  refine galoadN (pc' := 2) (Ls := #[.val (.ref b), .val (.int nl), .unset]) (rest := [(.int nl)]) w d15_1 rfl rfl rfl ?_
  refine glen (pc' := 3) w d15_2 Vb rfl ?_
  refine gicmp (pt := 14) (pf := 6) w d15_3  (by decide) rfl rfl (fun (c3 : ¬ nl = z) => ?_) (fun (c3 : nl = z) => ?_)
  · refine giloadN (pc' := 15) (Ls := #[.val (.ref b), .val (.int nl), .unset]) (rest := []) w d15_14 rfl rfl ?_
    refine gnewP (pc' := 17) (cap := 32) (ty := .byte) w d15_15 rfl (hw _ (List.mem_of_getElem? (i := 22) rfl)) hn0 hcap (by decide) (by decide) (by decide) rfl (fun T1 h2 c kc s3 w4 E5 V6 => ?_)
    have g_c : n0 ≤ c := Nat.le_trans z0 (Nat.le_of_eq s3)
    have hz_c : h.size ≤ c := Nat.le_trans (own_er h).1 (Nat.le_of_eq s3)
    have ne_b_c : b ≠ c := Nat.ne_of_lt (s3 ▸ Vb.lt)
    have V7 := Vb.ext E5
    have X8 := own_et (own_er h) E5
    have z9 := Nat.le_trans z0 E5.1
    have VC := V6.pad (pad_rep [] (defaultValue .byte) 64)
    refine gastoreN (pc' := 18) (Ls := #[.val (.ref b), .val (.int nl), .unset]) (Ls' := #[.val (.ref b), .val (.int nl), .val (.ref c)]) (rest := []) w4 d15_17 rfl rfl rfl ?_
    refine galoadN (pc' := 19) (Ls := #[.val (.ref b), .val (.int nl), .val (.ref c)]) (rest := []) w4 d15_18 rfl rfl rfl ?_
    refine giconst (v := (0 : Int32)) (pc' := 20) w4 d15_19 rfl rfl ?_
    refine galoadN (pc' := 21) (Ls := #[.val (.ref b), .val (.int nl), .val (.ref c)]) (rest := [(.int (0 : Int32)), (.ref b)]) w4 d15_20 rfl rfl rfl ?_
    refine giconst (v := (0 : Int32)) (pc' := 22) w4 d15_21 rfl rfl ?_
    refine galoadN (pc' := 23) (Ls := #[.val (.ref b), .val (.int nl), .val (.ref c)]) (rest := [(.int (0 : Int32)), (.ref c), (.int (0 : Int32)), (.ref b)]) w4 d15_22 rfl rfl rfl ?_
    refine glen (pc' := 24) w4 d15_23 V7 rfl ?_
    refine giloadN (pc' := 25) (Ls := #[.val (.ref b), .val (.int nl), .val (.ref c)]) (rest := [(.int z), (.int (0 : Int32)), (.ref c), (.int (0 : Int32)), (.ref b)]) w4 d15_24 rfl rfl ?_
    refine gcallS (pc' := 28) (argsL := [(.int z), (.int nl)]) (rest := [(.int (0 : Int32)), (.ref c), (.int (0 : Int32)), (.ref b)]) (Wt := 4) w4 d15_25 (hw _ (List.mem_of_getElem? (i := 73) rfl)) (hw _ (List.mem_of_getElem? (i := 52) rfl)) (hw _ (List.mem_of_getElem? (i := 20) rfl)) (hw _ (List.mem_of_getElem? (i := 53) rfl)) (by decide) pd_d10 (own_cmin hw z nl) rfl rfl rfl rfl (Nat.le_of_eq rfl) (by decide) (by decide) (by decide) (by decide) rfl (fun v10 T11 h12 w13 q14 => ?_)
    obtain ⟨rfl, eh⟩ := q14
    show Go _ _ _ _ _ _ _ _ _ (mkF m 28 #[.val (.ref b), .val (.int nl), .val (.ref c)] [(.int (own_min z nl)), (.int (0 : Int32)), (.ref c), (.int (0 : Int32)), (.ref b)])
    rw [eh] at w13
    refine gcopy (pc' := 31) (Wt := 0) w13 d15_28 (hw _ (List.mem_of_getElem? (i := 74) rfl)) (hw _ (List.mem_of_getElem? (i := 77) rfl)) (hw _ (List.mem_of_getElem? (i := 75) rfl)) (hw _ (List.mem_of_getElem? (i := 76) rfl)) V7 VC (by decide) (by decide) hm0 hm1 hm2 hm3 g_c rfl (by decide) (Nat.le_of_eq rfl) (by decide) rfl (fun T17 h16 us w15 KC ul VD => ?_)
    have X18 := own_ek X8 KC hz_c
    have V19 := V7.keep KC (ninS ne_b_c nin0)
    have z20 := Nat.le_trans z9 KC.1
    refine galoadN (pc' := 32) (Ls := #[.val (.ref b), .val (.int nl), .val (.ref c)]) (rest := []) w15 d15_31 rfl rfl rfl ?_
    exact gretA w15 d15_32 rfl rfl rfl (by decide) (by decide) ⟨c, rfl, X18, own_Bpad VD, hz_c⟩
  · exact absurd (c3 ▸ hzn) (by rw [Int32.lt_iff_toInt_lt]; omega)
theorem own_grow {z p n q : Int32} (hp : p.toInt + n.toInt = q.toInt) (hz : ¬ z < 0) (hp0 : 0 ≤ p.toInt) (hq : q.toInt ≤ 16) (hn1 : 1 ≤ n.toInt) (c : (z - p) < n) : z < own_max (z * 2) q ∧ ¬ 32 < own_max (z * 2) q ∧ ¬ own_max (z * 2) q < q := by
  have a1 := c_isub z p
  have a2 := c_imul z 2
  have r1 := rng32 (z - p)
  have r2 := rng32 z
  have r3 := rng32 (z * 2)
  have k2 : (2 : Int32).toInt = 2 := rfl
  have k0 : (0 : Int32).toInt = 0 := rfl
  have k32 : (32 : Int32).toInt = 32 := rfl
  rw [k2] at a2
  rw [Int32.lt_iff_toInt_lt] at c hz
  unfold own_max
  split
  · rename_i u
    rw [Int32.lt_iff_toInt_lt] at u
    refine ⟨?_, ?_, ?_⟩ <;> rw [Int32.lt_iff_toInt_lt] <;> omega
  · rename_i u
    rw [Int32.lt_iff_toInt_lt] at u
    refine ⟨?_, ?_, ?_⟩ <;> rw [Int32.lt_iff_toInt_lt] <;> omega
theorem own_stay {z p n q : Int32} (hp : p.toInt + n.toInt = q.toInt) (hz : ¬ z < 0) (hp0 : 0 ≤ p.toInt) (hq : q.toInt ≤ 16) (hn1 : 1 ≤ n.toInt) (c : ¬ (z - p) < n) : ¬ z < q := by
  have a1 := c_isub z p
  have r1 := rng32 (z - p)
  have r2 := rng32 z
  have k0 : (0 : Int32).toInt = 0 := rfl
  rw [Int32.lt_iff_toInt_lt] at c hz ⊢
  omega
set_option maxRecDepth 65536 in
set_option maxHeartbeats 4000000 in
theorem own_room0_1 (hw : ∀ d ∈ tables_1, d.before a0 Z = true) (a b : Addr) (md : Int32) (z : Int32) (z0 : n0 ≤ h.size) (ga : n0 ≤ a) (gb : n0 ≤ b) (WT : own_WT Z h a b md (0 : Int32) z) :
    Ctr l (⟨"com/example/halyard/halyard/wire/CdrWriter", "room", "(I)V"⟩ : MethodName) prog_115_method_39_code 2 none ({ frames := 2, cells := 1, slots := 32, locals := 64 } : Room) Z #[(.ref a), (.int (1 : Int32))] h n0 (fun v h' => v = none ∧ ∃ b' z', own_WT Z h' a b' md (0 : Int32) z' ∧ ¬ z' < (1 : Int32) ∧ n0 ≤ b' ∧ n0 ≤ h'.size) [] := by
  refine metGo (Ls := #[.val (.ref a), .val (.int (1 : Int32))]) pn_d7 (fun m => by first | rfl | (simp [entryFrame, mkF, argsToLocals, Value.category]; done) | (simp [entryFrame, mkF, argsToLocals, Value.category, maxLocals]; done)) ?_
  intro p e s m below meth c T w
  obtain ⟨E0, Fm, Fb, Fg, Fo, Fp, ⟨kb, vb, db, lb, Vb⟩, nab⟩ := WT
  refine galoadN (pc' := 1) (Ls := #[.val (.ref a), .val (.int (1 : Int32))]) (rest := []) w d7_0 rfl rfl rfl ?_
  refine ggetF (pc' := 4) w d7_1 (hw _ (List.mem_of_getElem? (i := 23) rfl)) Fo rfl (fun T21 w22 => ?_)
  refine glen (pc' := 5) w22 d7_4 Vb rfl ?_
  refine galoadN (pc' := 6) (Ls := #[.val (.ref a), .val (.int (1 : Int32))]) (rest := [(.int z)]) w22 d7_5 rfl rfl rfl ?_
  refine ggetF (pc' := 9) w22 d7_6 (hw _ (List.mem_of_getElem? (i := 39) rfl)) Fp rfl (fun T23 w24 => ?_)
  refine gisub (pc' := 10) w24 d7_9 rfl ?_
  refine giloadN (pc' := 11) (Ls := #[.val (.ref a), .val (.int (1 : Int32))]) (rest := [(.int (z - (0 : Int32)))]) w24 d7_10 rfl rfl ?_
  refine gicmp (pt := 41) (pf := 14) w24 d7_11  (by decide) rfl rfl (fun (c11 : ¬ (z - (0 : Int32)) < (1 : Int32)) => ?_) (fun (c11 : (z - (0 : Int32)) < (1 : Int32)) => ?_)
  · exact gret0 w24 d7_41 (by decide) (by decide) ⟨rfl, b, z, ⟨E0, Fm, Fb, Fg, Fo, Fp, own_Bpad Vb, nab⟩, own_stay (q := (1 : Int32)) (by decide) (own_nz ⟨kb, vb, db, lb, Vb⟩) (by decide) (by decide) (by decide) c11, gb, z0⟩
  · refine galoadN (pc' := 15) (Ls := #[.val (.ref a), .val (.int (1 : Int32))]) (rest := []) w24 d7_14 rfl rfl rfl ?_
    refine galoadN (pc' := 16) (Ls := #[.val (.ref a), .val (.int (1 : Int32))]) (rest := [(.ref a)]) w24 d7_15 rfl rfl rfl ?_
    refine ggetF (pc' := 19) w24 d7_16 (hw _ (List.mem_of_getElem? (i := 23) rfl)) Fo rfl (fun T25 w26 => ?_)
    refine galoadN (pc' := 20) (Ls := #[.val (.ref a), .val (.int (1 : Int32))]) (rest := [(.ref b), (.ref a)]) w26 d7_19 rfl rfl rfl ?_
    refine ggetF (pc' := 23) w26 d7_20 (hw _ (List.mem_of_getElem? (i := 23) rfl)) Fo rfl (fun T27 w28 => ?_)
    refine glen (pc' := 24) w28 d7_23 Vb rfl ?_
    refine giconst (v := (2 : Int32)) (pc' := 25) w28 d7_24 rfl rfl ?_
    refine gimul (pc' := 26) w28 d7_25 rfl ?_
    refine galoadN (pc' := 27) (Ls := #[.val (.ref a), .val (.int (1 : Int32))]) (rest := [(.int (z * (2 : Int32))), (.ref b), (.ref a)]) w28 d7_26 rfl rfl rfl ?_
    refine ggetF (pc' := 30) w28 d7_27 (hw _ (List.mem_of_getElem? (i := 39) rfl)) Fp rfl (fun T29 w30 => ?_)
    refine giloadN (pc' := 31) (Ls := #[.val (.ref a), .val (.int (1 : Int32))]) (rest := [(.int (0 : Int32)), (.int (z * (2 : Int32))), (.ref b), (.ref a)]) w30 d7_30 rfl rfl ?_
    refine giadd (pc' := 32) w30 d7_31 rfl ?_
    refine gcallS (pc' := 35) (argsL := [(.int (z * (2 : Int32))), (.int ((0 : Int32) + (1 : Int32)))]) (rest := [(.ref b), (.ref a)]) (Wt := 2) w30 d7_32 (hw _ (List.mem_of_getElem? (i := 18) rfl)) (hw _ (List.mem_of_getElem? (i := 19) rfl)) (hw _ (List.mem_of_getElem? (i := 20) rfl)) (hw _ (List.mem_of_getElem? (i := 21) rfl)) (by decide) pd_d4 (own_cmax hw (z * (2 : Int32)) ((0 : Int32) + (1 : Int32))) rfl rfl rfl rfl (Nat.le_of_eq rfl) (by decide) (by decide) (by decide) (by decide) rfl (fun v31 T32 h33 w34 q35 => ?_)
    obtain ⟨rfl, eh⟩ := q35
    show Go _ _ _ _ _ _ _ _ _ (mkF m 35 #[.val (.ref a), .val (.int (1 : Int32))] [(.int (own_max (z * (2 : Int32)) (1 : Int32))), (.ref b), (.ref a)])
    rw [eh] at w34
    have gr := own_grow (q := (1 : Int32)) (by decide) (own_nz ⟨kb, vb, db, lb, Vb⟩) (by decide) (by decide) (by decide) c11
    refine gcallS (pc' := 38) (argsL := [(.ref b), (.int (own_max (z * (2 : Int32)) (1 : Int32)))]) (rest := [(.ref a)]) (Wt := 1) w34 d7_35 (hw _ (List.mem_of_getElem? (i := 70) rfl)) (hw _ (List.mem_of_getElem? (i := 71) rfl)) (hw _ (List.mem_of_getElem? (i := 56) rfl)) (hw _ (List.mem_of_getElem? (i := 72) rfl)) (by decide) pd_d15 (own_cpy hw b (own_max (z * (2 : Int32)) (1 : Int32)) z z0 ⟨kb, vb, db, lb, Vb⟩ gr.1 gr.2.1) rfl rfl rfl rfl (Nat.le_of_eq rfl) (by decide) (by decide) (by decide) (by decide) rfl (fun v36 T37 h38 w39 q40 => ?_)
    obtain ⟨c, rfl, XC, BC, hc⟩ := q40
    show Go _ _ _ _ _ _ _ _ _ (mkF m 38 #[.val (.ref a), .val (.int (1 : Int32))] [(.ref c), (.ref a)])
    have E41 := E0.ext XC
    have F42 := Fm.ext XC
    have F43 := Fb.ext XC
    have F44 := Fg.ext XC
    have F45 := Fo.ext XC
    have F46 := Fp.ext XC
    have V47 := Vb.ext XC
    have z48 := Nat.le_trans z0 XC.1
    have nac : a ≠ c := Nat.ne_of_lt (Nat.lt_of_lt_of_le E0.lt hc)
    have gc : n0 ≤ c := Nat.le_trans z0 hc
    obtain ⟨kc, vc, dc, lc, VC⟩ := BC
    refine gputF (pc' := 41) (v' := (.ref c)) (ty := (.array .byte)) w39 d7_38 (hw _ (List.mem_of_getElem? (i := 23) rfl)) F45 E41 (Or.inl (hw _ (List.mem_of_getElem? (i := 24) rfl))) (hw _ (List.mem_of_getElem? (i := 1) rfl)) (by decide) rfl rfl ga rfl (fun T49 h50 w51 W52 => ?_)
    have E53 := E41.wr W52
    have F54 := F42.other W52 (Or.inr (slot_ne (t := .int) (t' := (.array .byte)) (Or.inr (hw _ (List.mem_of_getElem? (i := 13) rfl))) (Or.inl (hw _ (List.mem_of_getElem? (i := 24) rfl))) (by decide) (by decide) (by decide)))
    have F55 := F43.other W52 (Or.inr (slot_ne (t := .boolean) (t' := (.array .byte)) (Or.inr (hw _ (List.mem_of_getElem? (i := 15) rfl))) (Or.inl (hw _ (List.mem_of_getElem? (i := 24) rfl))) (by decide) (by decide) (by decide)))
    have F56 := F44.other W52 (Or.inr (slot_ne (t := .int) (t' := (.array .byte)) (Or.inl (hw _ (List.mem_of_getElem? (i := 17) rfl))) (Or.inl (hw _ (List.mem_of_getElem? (i := 24) rfl))) (by decide) (by decide) (by decide)))
    have F57 := F45.same W52
    have F58 := F46.other W52 (Or.inr (slot_ne (t := .int) (t' := (.array .byte)) (Or.inl (hw _ (List.mem_of_getElem? (i := 40) rfl))) (Or.inl (hw _ (List.mem_of_getElem? (i := 24) rfl))) (by decide) (by decide) (by decide)))
    have V59 := VC.other W52 (Ne.symm nac)
    have z60 : n0 ≤ h50.size := by rw [W52.size]; exact z48
    exact gret0 w51 d7_41 (by decide) (by decide) ⟨rfl, c, _, ⟨E53, F54, F55, F56, F57, F58, own_Bpad V59, nac⟩, gr.2.2, gc, z60⟩
set_option maxRecDepth 65536 in
set_option maxHeartbeats 4000000 in
theorem own_room1_3 (hw : ∀ d ∈ tables_1, d.before a0 Z = true) (a b : Addr) (md : Int32) (z : Int32) (z0 : n0 ≤ h.size) (ga : n0 ≤ a) (gb : n0 ≤ b) (WT : own_WT Z h a b md (1 : Int32) z) :
    Ctr l (⟨"com/example/halyard/halyard/wire/CdrWriter", "room", "(I)V"⟩ : MethodName) prog_115_method_39_code 2 none ({ frames := 2, cells := 1, slots := 32, locals := 64 } : Room) Z #[(.ref a), (.int (3 : Int32))] h n0 (fun v h' => v = none ∧ ∃ b' z', own_WT Z h' a b' md (1 : Int32) z' ∧ ¬ z' < (4 : Int32) ∧ n0 ≤ b' ∧ n0 ≤ h'.size) [] := by
  refine metGo (Ls := #[.val (.ref a), .val (.int (3 : Int32))]) pn_d7 (fun m => by first | rfl | (simp [entryFrame, mkF, argsToLocals, Value.category]; done) | (simp [entryFrame, mkF, argsToLocals, Value.category, maxLocals]; done)) ?_
  intro p e s m below meth c T w
  obtain ⟨E0, Fm, Fb, Fg, Fo, Fp, ⟨kb, vb, db, lb, Vb⟩, nab⟩ := WT
  refine galoadN (pc' := 1) (Ls := #[.val (.ref a), .val (.int (3 : Int32))]) (rest := []) w d7_0 rfl rfl rfl ?_
  refine ggetF (pc' := 4) w d7_1 (hw _ (List.mem_of_getElem? (i := 23) rfl)) Fo rfl (fun T61 w62 => ?_)
  refine glen (pc' := 5) w62 d7_4 Vb rfl ?_
  refine galoadN (pc' := 6) (Ls := #[.val (.ref a), .val (.int (3 : Int32))]) (rest := [(.int z)]) w62 d7_5 rfl rfl rfl ?_
  refine ggetF (pc' := 9) w62 d7_6 (hw _ (List.mem_of_getElem? (i := 39) rfl)) Fp rfl (fun T63 w64 => ?_)
  refine gisub (pc' := 10) w64 d7_9 rfl ?_
  refine giloadN (pc' := 11) (Ls := #[.val (.ref a), .val (.int (3 : Int32))]) (rest := [(.int (z - (1 : Int32)))]) w64 d7_10 rfl rfl ?_
  refine gicmp (pt := 41) (pf := 14) w64 d7_11  (by decide) rfl rfl (fun (c11 : ¬ (z - (1 : Int32)) < (3 : Int32)) => ?_) (fun (c11 : (z - (1 : Int32)) < (3 : Int32)) => ?_)
  · exact gret0 w64 d7_41 (by decide) (by decide) ⟨rfl, b, z, ⟨E0, Fm, Fb, Fg, Fo, Fp, own_Bpad Vb, nab⟩, own_stay (q := (4 : Int32)) (by decide) (own_nz ⟨kb, vb, db, lb, Vb⟩) (by decide) (by decide) (by decide) c11, gb, z0⟩
  · refine galoadN (pc' := 15) (Ls := #[.val (.ref a), .val (.int (3 : Int32))]) (rest := []) w64 d7_14 rfl rfl rfl ?_
    refine galoadN (pc' := 16) (Ls := #[.val (.ref a), .val (.int (3 : Int32))]) (rest := [(.ref a)]) w64 d7_15 rfl rfl rfl ?_
    refine ggetF (pc' := 19) w64 d7_16 (hw _ (List.mem_of_getElem? (i := 23) rfl)) Fo rfl (fun T65 w66 => ?_)
    refine galoadN (pc' := 20) (Ls := #[.val (.ref a), .val (.int (3 : Int32))]) (rest := [(.ref b), (.ref a)]) w66 d7_19 rfl rfl rfl ?_
    refine ggetF (pc' := 23) w66 d7_20 (hw _ (List.mem_of_getElem? (i := 23) rfl)) Fo rfl (fun T67 w68 => ?_)
    refine glen (pc' := 24) w68 d7_23 Vb rfl ?_
    refine giconst (v := (2 : Int32)) (pc' := 25) w68 d7_24 rfl rfl ?_
    refine gimul (pc' := 26) w68 d7_25 rfl ?_
    refine galoadN (pc' := 27) (Ls := #[.val (.ref a), .val (.int (3 : Int32))]) (rest := [(.int (z * (2 : Int32))), (.ref b), (.ref a)]) w68 d7_26 rfl rfl rfl ?_
    refine ggetF (pc' := 30) w68 d7_27 (hw _ (List.mem_of_getElem? (i := 39) rfl)) Fp rfl (fun T69 w70 => ?_)
    refine giloadN (pc' := 31) (Ls := #[.val (.ref a), .val (.int (3 : Int32))]) (rest := [(.int (1 : Int32)), (.int (z * (2 : Int32))), (.ref b), (.ref a)]) w70 d7_30 rfl rfl ?_
    refine giadd (pc' := 32) w70 d7_31 rfl ?_
    refine gcallS (pc' := 35) (argsL := [(.int (z * (2 : Int32))), (.int ((1 : Int32) + (3 : Int32)))]) (rest := [(.ref b), (.ref a)]) (Wt := 2) w70 d7_32 (hw _ (List.mem_of_getElem? (i := 18) rfl)) (hw _ (List.mem_of_getElem? (i := 19) rfl)) (hw _ (List.mem_of_getElem? (i := 20) rfl)) (hw _ (List.mem_of_getElem? (i := 21) rfl)) (by decide) pd_d4 (own_cmax hw (z * (2 : Int32)) ((1 : Int32) + (3 : Int32))) rfl rfl rfl rfl (Nat.le_of_eq rfl) (by decide) (by decide) (by decide) (by decide) rfl (fun v71 T72 h73 w74 q75 => ?_)
    obtain ⟨rfl, eh⟩ := q75
    show Go _ _ _ _ _ _ _ _ _ (mkF m 35 #[.val (.ref a), .val (.int (3 : Int32))] [(.int (own_max (z * (2 : Int32)) (4 : Int32))), (.ref b), (.ref a)])
    rw [eh] at w74
    have gr := own_grow (q := (4 : Int32)) (by decide) (own_nz ⟨kb, vb, db, lb, Vb⟩) (by decide) (by decide) (by decide) c11
    refine gcallS (pc' := 38) (argsL := [(.ref b), (.int (own_max (z * (2 : Int32)) (4 : Int32)))]) (rest := [(.ref a)]) (Wt := 1) w74 d7_35 (hw _ (List.mem_of_getElem? (i := 70) rfl)) (hw _ (List.mem_of_getElem? (i := 71) rfl)) (hw _ (List.mem_of_getElem? (i := 56) rfl)) (hw _ (List.mem_of_getElem? (i := 72) rfl)) (by decide) pd_d15 (own_cpy hw b (own_max (z * (2 : Int32)) (4 : Int32)) z z0 ⟨kb, vb, db, lb, Vb⟩ gr.1 gr.2.1) rfl rfl rfl rfl (Nat.le_of_eq rfl) (by decide) (by decide) (by decide) (by decide) rfl (fun v76 T77 h78 w79 q80 => ?_)
    obtain ⟨c, rfl, XC, BC, hc⟩ := q80
    show Go _ _ _ _ _ _ _ _ _ (mkF m 38 #[.val (.ref a), .val (.int (3 : Int32))] [(.ref c), (.ref a)])
    have E81 := E0.ext XC
    have F82 := Fm.ext XC
    have F83 := Fb.ext XC
    have F84 := Fg.ext XC
    have F85 := Fo.ext XC
    have F86 := Fp.ext XC
    have V87 := Vb.ext XC
    have z88 := Nat.le_trans z0 XC.1
    have nac : a ≠ c := Nat.ne_of_lt (Nat.lt_of_lt_of_le E0.lt hc)
    have gc : n0 ≤ c := Nat.le_trans z0 hc
    obtain ⟨kc, vc, dc, lc, VC⟩ := BC
    refine gputF (pc' := 41) (v' := (.ref c)) (ty := (.array .byte)) w79 d7_38 (hw _ (List.mem_of_getElem? (i := 23) rfl)) F85 E81 (Or.inl (hw _ (List.mem_of_getElem? (i := 24) rfl))) (hw _ (List.mem_of_getElem? (i := 1) rfl)) (by decide) rfl rfl ga rfl (fun T89 h90 w91 W92 => ?_)
    have E93 := E81.wr W92
    have F94 := F82.other W92 (Or.inr (slot_ne (t := .int) (t' := (.array .byte)) (Or.inr (hw _ (List.mem_of_getElem? (i := 13) rfl))) (Or.inl (hw _ (List.mem_of_getElem? (i := 24) rfl))) (by decide) (by decide) (by decide)))
    have F95 := F83.other W92 (Or.inr (slot_ne (t := .boolean) (t' := (.array .byte)) (Or.inr (hw _ (List.mem_of_getElem? (i := 15) rfl))) (Or.inl (hw _ (List.mem_of_getElem? (i := 24) rfl))) (by decide) (by decide) (by decide)))
    have F96 := F84.other W92 (Or.inr (slot_ne (t := .int) (t' := (.array .byte)) (Or.inl (hw _ (List.mem_of_getElem? (i := 17) rfl))) (Or.inl (hw _ (List.mem_of_getElem? (i := 24) rfl))) (by decide) (by decide) (by decide)))
    have F97 := F85.same W92
    have F98 := F86.other W92 (Or.inr (slot_ne (t := .int) (t' := (.array .byte)) (Or.inl (hw _ (List.mem_of_getElem? (i := 40) rfl))) (Or.inl (hw _ (List.mem_of_getElem? (i := 24) rfl))) (by decide) (by decide) (by decide)))
    have V99 := VC.other W92 (Ne.symm nac)
    have z100 : n0 ≤ h90.size := by rw [W92.size]; exact z88
    exact gret0 w91 d7_41 (by decide) (by decide) ⟨rfl, c, _, ⟨E93, F94, F95, F96, F97, F98, own_Bpad V99, nac⟩, gr.2.2, gc, z100⟩
set_option maxRecDepth 65536 in
set_option maxHeartbeats 4000000 in
theorem own_room1_7 (hw : ∀ d ∈ tables_1, d.before a0 Z = true) (a b : Addr) (md : Int32) (z : Int32) (z0 : n0 ≤ h.size) (ga : n0 ≤ a) (gb : n0 ≤ b) (WT : own_WT Z h a b md (1 : Int32) z) :
    Ctr l (⟨"com/example/halyard/halyard/wire/CdrWriter", "room", "(I)V"⟩ : MethodName) prog_115_method_39_code 2 none ({ frames := 2, cells := 1, slots := 32, locals := 64 } : Room) Z #[(.ref a), (.int (7 : Int32))] h n0 (fun v h' => v = none ∧ ∃ b' z', own_WT Z h' a b' md (1 : Int32) z' ∧ ¬ z' < (8 : Int32) ∧ n0 ≤ b' ∧ n0 ≤ h'.size) [] := by
  refine metGo (Ls := #[.val (.ref a), .val (.int (7 : Int32))]) pn_d7 (fun m => by first | rfl | (simp [entryFrame, mkF, argsToLocals, Value.category]; done) | (simp [entryFrame, mkF, argsToLocals, Value.category, maxLocals]; done)) ?_
  intro p e s m below meth c T w
  obtain ⟨E0, Fm, Fb, Fg, Fo, Fp, ⟨kb, vb, db, lb, Vb⟩, nab⟩ := WT
  refine galoadN (pc' := 1) (Ls := #[.val (.ref a), .val (.int (7 : Int32))]) (rest := []) w d7_0 rfl rfl rfl ?_
  refine ggetF (pc' := 4) w d7_1 (hw _ (List.mem_of_getElem? (i := 23) rfl)) Fo rfl (fun T101 w102 => ?_)
  refine glen (pc' := 5) w102 d7_4 Vb rfl ?_
  refine galoadN (pc' := 6) (Ls := #[.val (.ref a), .val (.int (7 : Int32))]) (rest := [(.int z)]) w102 d7_5 rfl rfl rfl ?_
  refine ggetF (pc' := 9) w102 d7_6 (hw _ (List.mem_of_getElem? (i := 39) rfl)) Fp rfl (fun T103 w104 => ?_)
  refine gisub (pc' := 10) w104 d7_9 rfl ?_
  refine giloadN (pc' := 11) (Ls := #[.val (.ref a), .val (.int (7 : Int32))]) (rest := [(.int (z - (1 : Int32)))]) w104 d7_10 rfl rfl ?_
  refine gicmp (pt := 41) (pf := 14) w104 d7_11  (by decide) rfl rfl (fun (c11 : ¬ (z - (1 : Int32)) < (7 : Int32)) => ?_) (fun (c11 : (z - (1 : Int32)) < (7 : Int32)) => ?_)
  · exact gret0 w104 d7_41 (by decide) (by decide) ⟨rfl, b, z, ⟨E0, Fm, Fb, Fg, Fo, Fp, own_Bpad Vb, nab⟩, own_stay (q := (8 : Int32)) (by decide) (own_nz ⟨kb, vb, db, lb, Vb⟩) (by decide) (by decide) (by decide) c11, gb, z0⟩
  · refine galoadN (pc' := 15) (Ls := #[.val (.ref a), .val (.int (7 : Int32))]) (rest := []) w104 d7_14 rfl rfl rfl ?_
    refine galoadN (pc' := 16) (Ls := #[.val (.ref a), .val (.int (7 : Int32))]) (rest := [(.ref a)]) w104 d7_15 rfl rfl rfl ?_
    refine ggetF (pc' := 19) w104 d7_16 (hw _ (List.mem_of_getElem? (i := 23) rfl)) Fo rfl (fun T105 w106 => ?_)
    refine galoadN (pc' := 20) (Ls := #[.val (.ref a), .val (.int (7 : Int32))]) (rest := [(.ref b), (.ref a)]) w106 d7_19 rfl rfl rfl ?_
    refine ggetF (pc' := 23) w106 d7_20 (hw _ (List.mem_of_getElem? (i := 23) rfl)) Fo rfl (fun T107 w108 => ?_)
    refine glen (pc' := 24) w108 d7_23 Vb rfl ?_
    refine giconst (v := (2 : Int32)) (pc' := 25) w108 d7_24 rfl rfl ?_
    refine gimul (pc' := 26) w108 d7_25 rfl ?_
    refine galoadN (pc' := 27) (Ls := #[.val (.ref a), .val (.int (7 : Int32))]) (rest := [(.int (z * (2 : Int32))), (.ref b), (.ref a)]) w108 d7_26 rfl rfl rfl ?_
    refine ggetF (pc' := 30) w108 d7_27 (hw _ (List.mem_of_getElem? (i := 39) rfl)) Fp rfl (fun T109 w110 => ?_)
    refine giloadN (pc' := 31) (Ls := #[.val (.ref a), .val (.int (7 : Int32))]) (rest := [(.int (1 : Int32)), (.int (z * (2 : Int32))), (.ref b), (.ref a)]) w110 d7_30 rfl rfl ?_
    refine giadd (pc' := 32) w110 d7_31 rfl ?_
    refine gcallS (pc' := 35) (argsL := [(.int (z * (2 : Int32))), (.int ((1 : Int32) + (7 : Int32)))]) (rest := [(.ref b), (.ref a)]) (Wt := 2) w110 d7_32 (hw _ (List.mem_of_getElem? (i := 18) rfl)) (hw _ (List.mem_of_getElem? (i := 19) rfl)) (hw _ (List.mem_of_getElem? (i := 20) rfl)) (hw _ (List.mem_of_getElem? (i := 21) rfl)) (by decide) pd_d4 (own_cmax hw (z * (2 : Int32)) ((1 : Int32) + (7 : Int32))) rfl rfl rfl rfl (Nat.le_of_eq rfl) (by decide) (by decide) (by decide) (by decide) rfl (fun v111 T112 h113 w114 q115 => ?_)
    obtain ⟨rfl, eh⟩ := q115
    show Go _ _ _ _ _ _ _ _ _ (mkF m 35 #[.val (.ref a), .val (.int (7 : Int32))] [(.int (own_max (z * (2 : Int32)) (8 : Int32))), (.ref b), (.ref a)])
    rw [eh] at w114
    have gr := own_grow (q := (8 : Int32)) (by decide) (own_nz ⟨kb, vb, db, lb, Vb⟩) (by decide) (by decide) (by decide) c11
    refine gcallS (pc' := 38) (argsL := [(.ref b), (.int (own_max (z * (2 : Int32)) (8 : Int32)))]) (rest := [(.ref a)]) (Wt := 1) w114 d7_35 (hw _ (List.mem_of_getElem? (i := 70) rfl)) (hw _ (List.mem_of_getElem? (i := 71) rfl)) (hw _ (List.mem_of_getElem? (i := 56) rfl)) (hw _ (List.mem_of_getElem? (i := 72) rfl)) (by decide) pd_d15 (own_cpy hw b (own_max (z * (2 : Int32)) (8 : Int32)) z z0 ⟨kb, vb, db, lb, Vb⟩ gr.1 gr.2.1) rfl rfl rfl rfl (Nat.le_of_eq rfl) (by decide) (by decide) (by decide) (by decide) rfl (fun v116 T117 h118 w119 q120 => ?_)
    obtain ⟨c, rfl, XC, BC, hc⟩ := q120
    show Go _ _ _ _ _ _ _ _ _ (mkF m 38 #[.val (.ref a), .val (.int (7 : Int32))] [(.ref c), (.ref a)])
    have E121 := E0.ext XC
    have F122 := Fm.ext XC
    have F123 := Fb.ext XC
    have F124 := Fg.ext XC
    have F125 := Fo.ext XC
    have F126 := Fp.ext XC
    have V127 := Vb.ext XC
    have z128 := Nat.le_trans z0 XC.1
    have nac : a ≠ c := Nat.ne_of_lt (Nat.lt_of_lt_of_le E0.lt hc)
    have gc : n0 ≤ c := Nat.le_trans z0 hc
    obtain ⟨kc, vc, dc, lc, VC⟩ := BC
    refine gputF (pc' := 41) (v' := (.ref c)) (ty := (.array .byte)) w119 d7_38 (hw _ (List.mem_of_getElem? (i := 23) rfl)) F125 E121 (Or.inl (hw _ (List.mem_of_getElem? (i := 24) rfl))) (hw _ (List.mem_of_getElem? (i := 1) rfl)) (by decide) rfl rfl ga rfl (fun T129 h130 w131 W132 => ?_)
    have E133 := E121.wr W132
    have F134 := F122.other W132 (Or.inr (slot_ne (t := .int) (t' := (.array .byte)) (Or.inr (hw _ (List.mem_of_getElem? (i := 13) rfl))) (Or.inl (hw _ (List.mem_of_getElem? (i := 24) rfl))) (by decide) (by decide) (by decide)))
    have F135 := F123.other W132 (Or.inr (slot_ne (t := .boolean) (t' := (.array .byte)) (Or.inr (hw _ (List.mem_of_getElem? (i := 15) rfl))) (Or.inl (hw _ (List.mem_of_getElem? (i := 24) rfl))) (by decide) (by decide) (by decide)))
    have F136 := F124.other W132 (Or.inr (slot_ne (t := .int) (t' := (.array .byte)) (Or.inl (hw _ (List.mem_of_getElem? (i := 17) rfl))) (Or.inl (hw _ (List.mem_of_getElem? (i := 24) rfl))) (by decide) (by decide) (by decide)))
    have F137 := F125.same W132
    have F138 := F126.other W132 (Or.inr (slot_ne (t := .int) (t' := (.array .byte)) (Or.inl (hw _ (List.mem_of_getElem? (i := 40) rfl))) (Or.inl (hw _ (List.mem_of_getElem? (i := 24) rfl))) (by decide) (by decide) (by decide)))
    have V139 := VC.other W132 (Ne.symm nac)
    have z140 : n0 ≤ h130.size := by rw [W132.size]; exact z128
    exact gret0 w131 d7_41 (by decide) (by decide) ⟨rfl, c, _, ⟨E133, F134, F135, F136, F137, F138, own_Bpad V139, nac⟩, gr.2.2, gc, z140⟩
set_option maxRecDepth 65536 in
set_option maxHeartbeats 4000000 in
theorem own_room4_8 (hw : ∀ d ∈ tables_1, d.before a0 Z = true) (a b : Addr) (md : Int32) (z : Int32) (z0 : n0 ≤ h.size) (ga : n0 ≤ a) (gb : n0 ≤ b) (WT : own_WT Z h a b md (4 : Int32) z) :
    Ctr l (⟨"com/example/halyard/halyard/wire/CdrWriter", "room", "(I)V"⟩ : MethodName) prog_115_method_39_code 2 none ({ frames := 2, cells := 1, slots := 32, locals := 64 } : Room) Z #[(.ref a), (.int (8 : Int32))] h n0 (fun v h' => v = none ∧ ∃ b' z', own_WT Z h' a b' md (4 : Int32) z' ∧ ¬ z' < (12 : Int32) ∧ n0 ≤ b' ∧ n0 ≤ h'.size) [] := by
  refine metGo (Ls := #[.val (.ref a), .val (.int (8 : Int32))]) pn_d7 (fun m => by first | rfl | (simp [entryFrame, mkF, argsToLocals, Value.category]; done) | (simp [entryFrame, mkF, argsToLocals, Value.category, maxLocals]; done)) ?_
  intro p e s m below meth c T w
  obtain ⟨E0, Fm, Fb, Fg, Fo, Fp, ⟨kb, vb, db, lb, Vb⟩, nab⟩ := WT
  refine galoadN (pc' := 1) (Ls := #[.val (.ref a), .val (.int (8 : Int32))]) (rest := []) w d7_0 rfl rfl rfl ?_
  refine ggetF (pc' := 4) w d7_1 (hw _ (List.mem_of_getElem? (i := 23) rfl)) Fo rfl (fun T141 w142 => ?_)
  refine glen (pc' := 5) w142 d7_4 Vb rfl ?_
  refine galoadN (pc' := 6) (Ls := #[.val (.ref a), .val (.int (8 : Int32))]) (rest := [(.int z)]) w142 d7_5 rfl rfl rfl ?_
  refine ggetF (pc' := 9) w142 d7_6 (hw _ (List.mem_of_getElem? (i := 39) rfl)) Fp rfl (fun T143 w144 => ?_)
  refine gisub (pc' := 10) w144 d7_9 rfl ?_
  refine giloadN (pc' := 11) (Ls := #[.val (.ref a), .val (.int (8 : Int32))]) (rest := [(.int (z - (4 : Int32)))]) w144 d7_10 rfl rfl ?_
  refine gicmp (pt := 41) (pf := 14) w144 d7_11  (by decide) rfl rfl (fun (c11 : ¬ (z - (4 : Int32)) < (8 : Int32)) => ?_) (fun (c11 : (z - (4 : Int32)) < (8 : Int32)) => ?_)
  · exact gret0 w144 d7_41 (by decide) (by decide) ⟨rfl, b, z, ⟨E0, Fm, Fb, Fg, Fo, Fp, own_Bpad Vb, nab⟩, own_stay (q := (12 : Int32)) (by decide) (own_nz ⟨kb, vb, db, lb, Vb⟩) (by decide) (by decide) (by decide) c11, gb, z0⟩
  · refine galoadN (pc' := 15) (Ls := #[.val (.ref a), .val (.int (8 : Int32))]) (rest := []) w144 d7_14 rfl rfl rfl ?_
    refine galoadN (pc' := 16) (Ls := #[.val (.ref a), .val (.int (8 : Int32))]) (rest := [(.ref a)]) w144 d7_15 rfl rfl rfl ?_
    refine ggetF (pc' := 19) w144 d7_16 (hw _ (List.mem_of_getElem? (i := 23) rfl)) Fo rfl (fun T145 w146 => ?_)
    refine galoadN (pc' := 20) (Ls := #[.val (.ref a), .val (.int (8 : Int32))]) (rest := [(.ref b), (.ref a)]) w146 d7_19 rfl rfl rfl ?_
    refine ggetF (pc' := 23) w146 d7_20 (hw _ (List.mem_of_getElem? (i := 23) rfl)) Fo rfl (fun T147 w148 => ?_)
    refine glen (pc' := 24) w148 d7_23 Vb rfl ?_
    refine giconst (v := (2 : Int32)) (pc' := 25) w148 d7_24 rfl rfl ?_
    refine gimul (pc' := 26) w148 d7_25 rfl ?_
    refine galoadN (pc' := 27) (Ls := #[.val (.ref a), .val (.int (8 : Int32))]) (rest := [(.int (z * (2 : Int32))), (.ref b), (.ref a)]) w148 d7_26 rfl rfl rfl ?_
    refine ggetF (pc' := 30) w148 d7_27 (hw _ (List.mem_of_getElem? (i := 39) rfl)) Fp rfl (fun T149 w150 => ?_)
    refine giloadN (pc' := 31) (Ls := #[.val (.ref a), .val (.int (8 : Int32))]) (rest := [(.int (4 : Int32)), (.int (z * (2 : Int32))), (.ref b), (.ref a)]) w150 d7_30 rfl rfl ?_
    refine giadd (pc' := 32) w150 d7_31 rfl ?_
    refine gcallS (pc' := 35) (argsL := [(.int (z * (2 : Int32))), (.int ((4 : Int32) + (8 : Int32)))]) (rest := [(.ref b), (.ref a)]) (Wt := 2) w150 d7_32 (hw _ (List.mem_of_getElem? (i := 18) rfl)) (hw _ (List.mem_of_getElem? (i := 19) rfl)) (hw _ (List.mem_of_getElem? (i := 20) rfl)) (hw _ (List.mem_of_getElem? (i := 21) rfl)) (by decide) pd_d4 (own_cmax hw (z * (2 : Int32)) ((4 : Int32) + (8 : Int32))) rfl rfl rfl rfl (Nat.le_of_eq rfl) (by decide) (by decide) (by decide) (by decide) rfl (fun v151 T152 h153 w154 q155 => ?_)
    obtain ⟨rfl, eh⟩ := q155
    show Go _ _ _ _ _ _ _ _ _ (mkF m 35 #[.val (.ref a), .val (.int (8 : Int32))] [(.int (own_max (z * (2 : Int32)) (12 : Int32))), (.ref b), (.ref a)])
    rw [eh] at w154
    have gr := own_grow (q := (12 : Int32)) (by decide) (own_nz ⟨kb, vb, db, lb, Vb⟩) (by decide) (by decide) (by decide) c11
    refine gcallS (pc' := 38) (argsL := [(.ref b), (.int (own_max (z * (2 : Int32)) (12 : Int32)))]) (rest := [(.ref a)]) (Wt := 1) w154 d7_35 (hw _ (List.mem_of_getElem? (i := 70) rfl)) (hw _ (List.mem_of_getElem? (i := 71) rfl)) (hw _ (List.mem_of_getElem? (i := 56) rfl)) (hw _ (List.mem_of_getElem? (i := 72) rfl)) (by decide) pd_d15 (own_cpy hw b (own_max (z * (2 : Int32)) (12 : Int32)) z z0 ⟨kb, vb, db, lb, Vb⟩ gr.1 gr.2.1) rfl rfl rfl rfl (Nat.le_of_eq rfl) (by decide) (by decide) (by decide) (by decide) rfl (fun v156 T157 h158 w159 q160 => ?_)
    obtain ⟨c, rfl, XC, BC, hc⟩ := q160
    show Go _ _ _ _ _ _ _ _ _ (mkF m 38 #[.val (.ref a), .val (.int (8 : Int32))] [(.ref c), (.ref a)])
    have E161 := E0.ext XC
    have F162 := Fm.ext XC
    have F163 := Fb.ext XC
    have F164 := Fg.ext XC
    have F165 := Fo.ext XC
    have F166 := Fp.ext XC
    have V167 := Vb.ext XC
    have z168 := Nat.le_trans z0 XC.1
    have nac : a ≠ c := Nat.ne_of_lt (Nat.lt_of_lt_of_le E0.lt hc)
    have gc : n0 ≤ c := Nat.le_trans z0 hc
    obtain ⟨kc, vc, dc, lc, VC⟩ := BC
    refine gputF (pc' := 41) (v' := (.ref c)) (ty := (.array .byte)) w159 d7_38 (hw _ (List.mem_of_getElem? (i := 23) rfl)) F165 E161 (Or.inl (hw _ (List.mem_of_getElem? (i := 24) rfl))) (hw _ (List.mem_of_getElem? (i := 1) rfl)) (by decide) rfl rfl ga rfl (fun T169 h170 w171 W172 => ?_)
    have E173 := E161.wr W172
    have F174 := F162.other W172 (Or.inr (slot_ne (t := .int) (t' := (.array .byte)) (Or.inr (hw _ (List.mem_of_getElem? (i := 13) rfl))) (Or.inl (hw _ (List.mem_of_getElem? (i := 24) rfl))) (by decide) (by decide) (by decide)))
    have F175 := F163.other W172 (Or.inr (slot_ne (t := .boolean) (t' := (.array .byte)) (Or.inr (hw _ (List.mem_of_getElem? (i := 15) rfl))) (Or.inl (hw _ (List.mem_of_getElem? (i := 24) rfl))) (by decide) (by decide) (by decide)))
    have F176 := F164.other W172 (Or.inr (slot_ne (t := .int) (t' := (.array .byte)) (Or.inl (hw _ (List.mem_of_getElem? (i := 17) rfl))) (Or.inl (hw _ (List.mem_of_getElem? (i := 24) rfl))) (by decide) (by decide) (by decide)))
    have F177 := F165.same W172
    have F178 := F166.other W172 (Or.inr (slot_ne (t := .int) (t' := (.array .byte)) (Or.inl (hw _ (List.mem_of_getElem? (i := 40) rfl))) (Or.inl (hw _ (List.mem_of_getElem? (i := 24) rfl))) (by decide) (by decide) (by decide)))
    have V179 := VC.other W172 (Ne.symm nac)
    have z180 : n0 ≤ h170.size := by rw [W172.size]; exact z168
    exact gret0 w171 d7_41 (by decide) (by decide) ⟨rfl, c, _, ⟨E173, F174, F175, F176, F177, F178, own_Bpad V179, nac⟩, gr.2.2, gc, z180⟩
set_option maxRecDepth 65536 in
set_option maxHeartbeats 4000000 in
theorem own_room8_8 (hw : ∀ d ∈ tables_1, d.before a0 Z = true) (a b : Addr) (md : Int32) (z : Int32) (z0 : n0 ≤ h.size) (ga : n0 ≤ a) (gb : n0 ≤ b) (WT : own_WT Z h a b md (8 : Int32) z) :
    Ctr l (⟨"com/example/halyard/halyard/wire/CdrWriter", "room", "(I)V"⟩ : MethodName) prog_115_method_39_code 2 none ({ frames := 2, cells := 1, slots := 32, locals := 64 } : Room) Z #[(.ref a), (.int (8 : Int32))] h n0 (fun v h' => v = none ∧ ∃ b' z', own_WT Z h' a b' md (8 : Int32) z' ∧ ¬ z' < (16 : Int32) ∧ n0 ≤ b' ∧ n0 ≤ h'.size) [] := by
  refine metGo (Ls := #[.val (.ref a), .val (.int (8 : Int32))]) pn_d7 (fun m => by first | rfl | (simp [entryFrame, mkF, argsToLocals, Value.category]; done) | (simp [entryFrame, mkF, argsToLocals, Value.category, maxLocals]; done)) ?_
  intro p e s m below meth c T w
  obtain ⟨E0, Fm, Fb, Fg, Fo, Fp, ⟨kb, vb, db, lb, Vb⟩, nab⟩ := WT
  refine galoadN (pc' := 1) (Ls := #[.val (.ref a), .val (.int (8 : Int32))]) (rest := []) w d7_0 rfl rfl rfl ?_
  refine ggetF (pc' := 4) w d7_1 (hw _ (List.mem_of_getElem? (i := 23) rfl)) Fo rfl (fun T181 w182 => ?_)
  refine glen (pc' := 5) w182 d7_4 Vb rfl ?_
  refine galoadN (pc' := 6) (Ls := #[.val (.ref a), .val (.int (8 : Int32))]) (rest := [(.int z)]) w182 d7_5 rfl rfl rfl ?_
  refine ggetF (pc' := 9) w182 d7_6 (hw _ (List.mem_of_getElem? (i := 39) rfl)) Fp rfl (fun T183 w184 => ?_)
  refine gisub (pc' := 10) w184 d7_9 rfl ?_
  refine giloadN (pc' := 11) (Ls := #[.val (.ref a), .val (.int (8 : Int32))]) (rest := [(.int (z - (8 : Int32)))]) w184 d7_10 rfl rfl ?_
  refine gicmp (pt := 41) (pf := 14) w184 d7_11  (by decide) rfl rfl (fun (c11 : ¬ (z - (8 : Int32)) < (8 : Int32)) => ?_) (fun (c11 : (z - (8 : Int32)) < (8 : Int32)) => ?_)
  · exact gret0 w184 d7_41 (by decide) (by decide) ⟨rfl, b, z, ⟨E0, Fm, Fb, Fg, Fo, Fp, own_Bpad Vb, nab⟩, own_stay (q := (16 : Int32)) (by decide) (own_nz ⟨kb, vb, db, lb, Vb⟩) (by decide) (by decide) (by decide) c11, gb, z0⟩
  · refine galoadN (pc' := 15) (Ls := #[.val (.ref a), .val (.int (8 : Int32))]) (rest := []) w184 d7_14 rfl rfl rfl ?_
    refine galoadN (pc' := 16) (Ls := #[.val (.ref a), .val (.int (8 : Int32))]) (rest := [(.ref a)]) w184 d7_15 rfl rfl rfl ?_
    refine ggetF (pc' := 19) w184 d7_16 (hw _ (List.mem_of_getElem? (i := 23) rfl)) Fo rfl (fun T185 w186 => ?_)
    refine galoadN (pc' := 20) (Ls := #[.val (.ref a), .val (.int (8 : Int32))]) (rest := [(.ref b), (.ref a)]) w186 d7_19 rfl rfl rfl ?_
    refine ggetF (pc' := 23) w186 d7_20 (hw _ (List.mem_of_getElem? (i := 23) rfl)) Fo rfl (fun T187 w188 => ?_)
    refine glen (pc' := 24) w188 d7_23 Vb rfl ?_
    refine giconst (v := (2 : Int32)) (pc' := 25) w188 d7_24 rfl rfl ?_
    refine gimul (pc' := 26) w188 d7_25 rfl ?_
    refine galoadN (pc' := 27) (Ls := #[.val (.ref a), .val (.int (8 : Int32))]) (rest := [(.int (z * (2 : Int32))), (.ref b), (.ref a)]) w188 d7_26 rfl rfl rfl ?_
    refine ggetF (pc' := 30) w188 d7_27 (hw _ (List.mem_of_getElem? (i := 39) rfl)) Fp rfl (fun T189 w190 => ?_)
    refine giloadN (pc' := 31) (Ls := #[.val (.ref a), .val (.int (8 : Int32))]) (rest := [(.int (8 : Int32)), (.int (z * (2 : Int32))), (.ref b), (.ref a)]) w190 d7_30 rfl rfl ?_
    refine giadd (pc' := 32) w190 d7_31 rfl ?_
    refine gcallS (pc' := 35) (argsL := [(.int (z * (2 : Int32))), (.int ((8 : Int32) + (8 : Int32)))]) (rest := [(.ref b), (.ref a)]) (Wt := 2) w190 d7_32 (hw _ (List.mem_of_getElem? (i := 18) rfl)) (hw _ (List.mem_of_getElem? (i := 19) rfl)) (hw _ (List.mem_of_getElem? (i := 20) rfl)) (hw _ (List.mem_of_getElem? (i := 21) rfl)) (by decide) pd_d4 (own_cmax hw (z * (2 : Int32)) ((8 : Int32) + (8 : Int32))) rfl rfl rfl rfl (Nat.le_of_eq rfl) (by decide) (by decide) (by decide) (by decide) rfl (fun v191 T192 h193 w194 q195 => ?_)
    obtain ⟨rfl, eh⟩ := q195
    show Go _ _ _ _ _ _ _ _ _ (mkF m 35 #[.val (.ref a), .val (.int (8 : Int32))] [(.int (own_max (z * (2 : Int32)) (16 : Int32))), (.ref b), (.ref a)])
    rw [eh] at w194
    have gr := own_grow (q := (16 : Int32)) (by decide) (own_nz ⟨kb, vb, db, lb, Vb⟩) (by decide) (by decide) (by decide) c11
    refine gcallS (pc' := 38) (argsL := [(.ref b), (.int (own_max (z * (2 : Int32)) (16 : Int32)))]) (rest := [(.ref a)]) (Wt := 1) w194 d7_35 (hw _ (List.mem_of_getElem? (i := 70) rfl)) (hw _ (List.mem_of_getElem? (i := 71) rfl)) (hw _ (List.mem_of_getElem? (i := 56) rfl)) (hw _ (List.mem_of_getElem? (i := 72) rfl)) (by decide) pd_d15 (own_cpy hw b (own_max (z * (2 : Int32)) (16 : Int32)) z z0 ⟨kb, vb, db, lb, Vb⟩ gr.1 gr.2.1) rfl rfl rfl rfl (Nat.le_of_eq rfl) (by decide) (by decide) (by decide) (by decide) rfl (fun v196 T197 h198 w199 q200 => ?_)
    obtain ⟨c, rfl, XC, BC, hc⟩ := q200
    show Go _ _ _ _ _ _ _ _ _ (mkF m 38 #[.val (.ref a), .val (.int (8 : Int32))] [(.ref c), (.ref a)])
    have E201 := E0.ext XC
    have F202 := Fm.ext XC
    have F203 := Fb.ext XC
    have F204 := Fg.ext XC
    have F205 := Fo.ext XC
    have F206 := Fp.ext XC
    have V207 := Vb.ext XC
    have z208 := Nat.le_trans z0 XC.1
    have nac : a ≠ c := Nat.ne_of_lt (Nat.lt_of_lt_of_le E0.lt hc)
    have gc : n0 ≤ c := Nat.le_trans z0 hc
    obtain ⟨kc, vc, dc, lc, VC⟩ := BC
    refine gputF (pc' := 41) (v' := (.ref c)) (ty := (.array .byte)) w199 d7_38 (hw _ (List.mem_of_getElem? (i := 23) rfl)) F205 E201 (Or.inl (hw _ (List.mem_of_getElem? (i := 24) rfl))) (hw _ (List.mem_of_getElem? (i := 1) rfl)) (by decide) rfl rfl ga rfl (fun T209 h210 w211 W212 => ?_)
    have E213 := E201.wr W212
    have F214 := F202.other W212 (Or.inr (slot_ne (t := .int) (t' := (.array .byte)) (Or.inr (hw _ (List.mem_of_getElem? (i := 13) rfl))) (Or.inl (hw _ (List.mem_of_getElem? (i := 24) rfl))) (by decide) (by decide) (by decide)))
    have F215 := F203.other W212 (Or.inr (slot_ne (t := .boolean) (t' := (.array .byte)) (Or.inr (hw _ (List.mem_of_getElem? (i := 15) rfl))) (Or.inl (hw _ (List.mem_of_getElem? (i := 24) rfl))) (by decide) (by decide) (by decide)))
    have F216 := F204.other W212 (Or.inr (slot_ne (t := .int) (t' := (.array .byte)) (Or.inl (hw _ (List.mem_of_getElem? (i := 17) rfl))) (Or.inl (hw _ (List.mem_of_getElem? (i := 24) rfl))) (by decide) (by decide) (by decide)))
    have F217 := F205.same W212
    have F218 := F206.other W212 (Or.inr (slot_ne (t := .int) (t' := (.array .byte)) (Or.inl (hw _ (List.mem_of_getElem? (i := 40) rfl))) (Or.inl (hw _ (List.mem_of_getElem? (i := 24) rfl))) (by decide) (by decide) (by decide)))
    have V219 := VC.other W212 (Ne.symm nac)
    have z220 : n0 ≤ h210.size := by rw [W212.size]; exact z208
    exact gret0 w211 d7_41 (by decide) (by decide) ⟨rfl, c, _, ⟨E213, F214, F215, F216, F217, F218, own_Bpad V219, nac⟩, gr.2.2, gc, z220⟩
set_option maxRecDepth 65536 in
set_option maxHeartbeats 4000000 in
theorem own_wb (hw : ∀ d ∈ tables_1, d.before a0 Z = true) (a b : Addr) (md : Int32) (z : Int32) (z0 : n0 ≤ h.size) (ga : n0 ≤ a) (gb : n0 ≤ b) (WT : own_WT Z h a b md (0 : Int32) z) :
    Ctr l (⟨"com/example/halyard/halyard/wire/CdrWriter", "writeByte", "(I)V"⟩ : MethodName) prog_115_method_9_code 2 none ({ frames := 3, cells := 1, slots := 32, locals := 96 } : Room) Z #[(.ref a), (.int (1 : Int32))] h n0 (fun v h' => v = none ∧ ∃ b' z', own_WT Z h' a b' md (1 : Int32) z' ∧ n0 ≤ b' ∧ n0 ≤ h'.size) [] := by
  refine metGo (Ls := #[.val (.ref a), .val (.int (1 : Int32))]) pn_d6 (fun m => by first | rfl | (simp [entryFrame, mkF, argsToLocals, Value.category]; done) | (simp [entryFrame, mkF, argsToLocals, Value.category, maxLocals]; done)) ?_
  intro p e s m below meth c T w
  obtain ⟨E0, Fm, Fb, Fg, Fo, Fp, ⟨kb, vb, db, lb, Vb⟩, nab⟩ := WT
  refine galoadN (pc' := 1) (Ls := #[.val (.ref a), .val (.int (1 : Int32))]) (rest := []) w d6_0 rfl rfl rfl ?_
  refine giconst (v := (1 : Int32)) (pc' := 2) w d6_1 rfl rfl ?_
  refine gcallP (pc' := 5) (argsL := [(.int (1 : Int32))]) (rest := []) (Wt := 0) w d6_2 (hw _ (List.mem_of_getElem? (i := 35) rfl)) (hw _ (List.mem_of_getElem? (i := 36) rfl)) (hw _ (List.mem_of_getElem? (i := 1) rfl)) (hw _ (List.mem_of_getElem? (i := 37) rfl)) (hw _ (List.mem_of_getElem? (i := 2) rfl)) (hw _ (List.mem_of_getElem? (i := 38) rfl)) E0 (by decide) pd_d7 (own_room0_1 hw a b md z z0 ga gb ⟨E0, Fm, Fb, Fg, Fo, Fp, own_Bpad Vb, nab⟩) rfl rfl rfl rfl (Nat.le_of_eq rfl) (by decide) (by decide) (by decide) (by decide) rfl (fun v222 T223 h224 w225 q226 => ?_)
  obtain ⟨rfl, b_221, z_221, ⟨E0_221, Fm_221, Fb_221, Fg_221, Fo_221, Fp_221, ⟨kb_221, vb_221, db_221, lb_221, Vb_221⟩, nab_221⟩, hq_221, gb_221, zz_221⟩ := q226
  show Go _ _ _ _ _ _ _ _ _ (mkF m 5 #[.val (.ref a), .val (.int (1 : Int32))] [])
  refine galoadN (pc' := 6) (Ls := #[.val (.ref a), .val (.int (1 : Int32))]) (rest := []) w225 d6_5 rfl rfl rfl ?_
  refine ggetF (pc' := 9) w225 d6_6 (hw _ (List.mem_of_getElem? (i := 23) rfl)) Fo_221 rfl (fun T227 w228 => ?_)
  refine galoadN (pc' := 10) (Ls := #[.val (.ref a), .val (.int (1 : Int32))]) (rest := [(.ref b_221)]) w228 d6_9 rfl rfl rfl ?_
  refine gdup (pc' := 11) w228 d6_10 rfl rfl ?_
  refine ggetF (pc' := 14) w228 d6_11 (hw _ (List.mem_of_getElem? (i := 39) rfl)) Fp_221 rfl (fun T229 w230 => ?_)
  refine gdupx1 (pc' := 15) w230 d6_14 rfl rfl rfl ?_
  refine giconst (v := (1 : Int32)) (pc' := 16) w230 d6_15 rfl rfl ?_
  refine giadd (pc' := 17) w230 d6_16 rfl ?_
  refine gputF (pc' := 20) (v' := (.int ((0 : Int32) + (1 : Int32)))) (ty := .int) w230 d6_17 (hw _ (List.mem_of_getElem? (i := 39) rfl)) Fp_221 E0_221 (Or.inl (hw _ (List.mem_of_getElem? (i := 40) rfl))) (hw _ (List.mem_of_getElem? (i := 1) rfl)) (by decide) rfl rfl ga rfl (fun T231 h232 w233 W234 => ?_)
  have E235 := E0_221.wr W234
  have F236 := Fm_221.other W234 (Or.inr (slot_ne (t := .int) (t' := .int) (Or.inr (hw _ (List.mem_of_getElem? (i := 13) rfl))) (Or.inl (hw _ (List.mem_of_getElem? (i := 40) rfl))) (by decide) (by decide) (by decide)))
  have F237 := Fb_221.other W234 (Or.inr (slot_ne (t := .boolean) (t' := .int) (Or.inr (hw _ (List.mem_of_getElem? (i := 15) rfl))) (Or.inl (hw _ (List.mem_of_getElem? (i := 40) rfl))) (by decide) (by decide) (by decide)))
  have F238 := Fg_221.other W234 (Or.inr (slot_ne (t := .int) (t' := .int) (Or.inl (hw _ (List.mem_of_getElem? (i := 17) rfl))) (Or.inl (hw _ (List.mem_of_getElem? (i := 40) rfl))) (by decide) (by decide) (by decide)))
  have F239 := Fo_221.other W234 (Or.inr (slot_ne (t := (.array .byte)) (t' := .int) (Or.inl (hw _ (List.mem_of_getElem? (i := 24) rfl))) (Or.inl (hw _ (List.mem_of_getElem? (i := 40) rfl))) (by decide) (by decide) (by decide)))
  have F240 := Fp_221.same W234
  have V241 := Vb_221.other W234 (Ne.symm nab_221)
  have z242 : n0 ≤ h232.size := by rw [W234.size]; exact zz_221
  refine giloadN (pc' := 21) (Ls := #[.val (.ref a), .val (.int (1 : Int32))]) (rest := [(.int (0 : Int32)), (.ref b_221)]) w233 d6_20 rfl rfl ?_
  refine gi2b (pc' := 22) w233 d6_21 rfl ?_
  refine gbastore (pc' := 23) (x' := ((1 : Int32).toInt8.toInt32)) w233 d6_22 (own_bb _) V241 (own_lt (by decide) (by decide) hq_221) (0) rfl (by first | exact (Nat.lt_of_lt_of_le (by decide) lb_221) | (simp only [List.length_set]; exact (Nat.lt_of_lt_of_le (by decide) lb_221))) gb_221 rfl (fun T243 h244 w245 W246 V247 => ?_)
  have E249 := E235.wr W246
  have F250 := F236.other W246 (Or.inl nab_221)
  have F251 := F237.other W246 (Or.inl nab_221)
  have F252 := F238.other W246 (Or.inl nab_221)
  have F253 := F239.other W246 (Or.inl nab_221)
  have F254 := F240.other W246 (Or.inl nab_221)
  have z255 : n0 ≤ h244.size := by rw [W246.size]; exact z242
  have V248 : Arv Z h244 b_221 kb_221 .byte z_221 (vb_221.set 0 (.int ((1 : Int32).toInt8.toInt32))) db_221 := V247
  exact gret0 w245 d6_23 (by decide) (by decide) ⟨rfl, b_221, z_221, ⟨E249, F250, F251, F252, F253, F254, own_Bpad V248, nab_221⟩, gb_221, z255⟩
set_option maxRecDepth 65536 in
set_option maxHeartbeats 4000000 in
theorem own_rck4 (hw : ∀ d ∈ tables_1, d.before a0 Z = true) (z : Int32) (hz : ¬ z < (4 : Int32)) :
    Ctr l (⟨"java/util/Arrays", "rangeCheck", "(III)V"⟩ : MethodName) jdk_65_method_30_code 3 none ({ frames := 0, cells := 0, slots := 0, locals := 0 } : Room) Z #[(.int z), (.int (1 : Int32)), (.int (4 : Int32))] h n0 (fun v h' => v = none ∧ h' = h) [] := by
  refine metGo (Ls := #[.val (.int z), .val (.int (1 : Int32)), .val (.int (4 : Int32))]) pn_d12 (fun m => by first | rfl | (simp [entryFrame, mkF, argsToLocals, Value.category]; done) | (simp [entryFrame, mkF, argsToLocals, Value.category, maxLocals]; done)) ?_
  intro p e s m below meth c T w
  refine giloadN (pc' := 1) (Ls := #[.val (.int z), .val (.int (1 : Int32)), .val (.int (4 : Int32))]) (rest := []) w d12_0 rfl rfl ?_
  refine giloadN (pc' := 2) (Ls := #[.val (.int z), .val (.int (1 : Int32)), .val (.int (4 : Int32))]) (rest := [(.int (1 : Int32))]) w d12_1 rfl rfl ?_
  refine gicmp (pt := 46) (pf := 5) w d12_2  (by decide) rfl rfl (fun (c2 : ¬ (4 : Int32) < (1 : Int32)) => ?_) (fun (c2 : (4 : Int32) < (1 : Int32)) => ?_)
  · refine giloadN (pc' := 47) (Ls := #[.val (.int z), .val (.int (1 : Int32)), .val (.int (4 : Int32))]) (rest := []) w d12_46 rfl rfl ?_
    refine gif (pt := 59) (pf := 50) w d12_47  (by decide) rfl rfl (fun (c47 : ¬ (1 : Int32) < (0 : Int32)) => ?_) (fun (c47 : (1 : Int32) < (0 : Int32)) => ?_)
    · refine giloadN (pc' := 60) (Ls := #[.val (.int z), .val (.int (1 : Int32)), .val (.int (4 : Int32))]) (rest := []) w d12_59 rfl rfl ?_
      refine giloadN (pc' := 61) (Ls := #[.val (.int z), .val (.int (1 : Int32)), .val (.int (4 : Int32))]) (rest := [(.int (4 : Int32))]) w d12_60 rfl rfl ?_
      refine gicmp (pt := 73) (pf := 64) w d12_61  (by decide) rfl rfl (fun (c61 : ¬ z < (4 : Int32)) => ?_) (fun (c61 : z < (4 : Int32)) => ?_)
      · exact gret0 w d12_73 (by decide) (by decide) ⟨rfl, rfl⟩
      · exact absurd c61 hz
    · exact absurd c47 (by decide)
  · exact absurd c2 (by decide)
set_option maxRecDepth 65536 in
set_option maxHeartbeats 4000000 in
theorem own_fill4 (hw : ∀ d ∈ tables_1, d.before a0 Z = true) (b : Addr) (z : Int32) (gb : n0 ≤ b) (hz : ¬ z < (4 : Int32)) (BB : own_B Z h b z) :
    Ctr l (⟨"java/util/Arrays", "fill", "([BIIB)V"⟩ : MethodName) jdk_65_method_110_code 5 none ({ frames := 1, cells := 0, slots := 0, locals := 16 } : Room) Z #[(.ref b), (.int (1 : Int32)), (.int (4 : Int32)), (.int (0 : Int32))] h n0 (fun v h' => v = none ∧ Keep h h' [b] ∧ own_B Z h' b z) [] := by
  refine metGo (Ls := #[.val (.ref b), .val (.int (1 : Int32)), .val (.int (4 : Int32)), .val (.int (0 : Int32)), .unset]) pn_d11 (fun m => by first | rfl | (simp [entryFrame, mkF, argsToLocals, Value.category]; done) | (simp [entryFrame, mkF, argsToLocals, Value.category, maxLocals]; done)) ?_
  intro p e s m below meth c T w
  obtain ⟨kb, vb, db, lb, Vb⟩ := BB
  refine galoadN (pc' := 1) (Ls := #[.val (.ref b), .val (.int (1 : Int32)), .val (.int (4 : Int32)), .val (.int (0 : Int32)), .unset]) (rest := []) w d11_0 rfl rfl rfl ?_
  refine glen (pc' := 2) w d11_1 Vb rfl ?_
  refine giloadN (pc' := 3) (Ls := #[.val (.ref b), .val (.int (1 : Int32)), .val (.int (4 : Int32)), .val (.int (0 : Int32)), .unset]) (rest := [(.int z)]) w d11_2 rfl rfl ?_
  refine giloadN (pc' := 4) (Ls := #[.val (.ref b), .val (.int (1 : Int32)), .val (.int (4 : Int32)), .val (.int (0 : Int32)), .unset]) (rest := [(.int (1 : Int32)), (.int z)]) w d11_3 rfl rfl ?_
  refine gcallS (pc' := 7) (argsL := [(.int z), (.int (1 : Int32)), (.int (4 : Int32))]) (rest := []) (Wt := 0) w d11_4 (hw _ (List.mem_of_getElem? (i := 58) rfl)) (hw _ (List.mem_of_getElem? (i := 59) rfl)) (hw _ (List.mem_of_getElem? (i := 56) rfl)) (hw _ (List.mem_of_getElem? (i := 60) rfl)) (by decide) pd_d12 (own_rck4 hw z hz) rfl rfl rfl rfl (Nat.le_of_eq rfl) (by decide) (by decide) (by decide) (by decide) rfl (fun v256 T257 h258 w259 q260 => ?_)
  obtain ⟨rfl, eh⟩ := q260
  show Go _ _ _ _ _ _ _ _ _ (mkF m 7 #[.val (.ref b), .val (.int (1 : Int32)), .val (.int (4 : Int32)), .val (.int (0 : Int32)), .unset] [])
  rw [eh] at w259
  refine giloadN (pc' := 8) (Ls := #[.val (.ref b), .val (.int (1 : Int32)), .val (.int (4 : Int32)), .val (.int (0 : Int32)), .unset]) (rest := []) w259 d11_7 rfl rfl ?_
  refine gistore (pc' := 10) (Ls := #[.val (.ref b), .val (.int (1 : Int32)), .val (.int (4 : Int32)), .val (.int (0 : Int32)), .unset]) (Ls' := #[.val (.ref b), .val (.int (1 : Int32)), .val (.int (4 : Int32)), .val (.int (0 : Int32)), .val (.int (1 : Int32))]) (rest := []) w259 d11_8 rfl rfl ?_
  refine giload (pc' := 12) (Ls := #[.val (.ref b), .val (.int (1 : Int32)), .val (.int (4 : Int32)), .val (.int (0 : Int32)), .val (.int (1 : Int32))]) (rest := []) w259 d11_10 rfl rfl ?_
  refine giloadN (pc' := 13) (Ls := #[.val (.ref b), .val (.int (1 : Int32)), .val (.int (4 : Int32)), .val (.int (0 : Int32)), .val (.int (1 : Int32))]) (rest := [(.int (1 : Int32))]) w259 d11_12 rfl rfl ?_
  refine gicmp (pt := 27) (pf := 16) w259 d11_13  (by decide) rfl rfl (fun (c13 : ¬ (1 : Int32) < (4 : Int32)) => ?_) (fun (c13 : (1 : Int32) < (4 : Int32)) => ?_)
  · exact absurd c13 (by decide)
  · refine galoadN (pc' := 17) (Ls := #[.val (.ref b), .val (.int (1 : Int32)), .val (.int (4 : Int32)), .val (.int (0 : Int32)), .val (.int (1 : Int32))]) (rest := []) w259 d11_16 rfl rfl rfl ?_
    refine giload (pc' := 19) (Ls := #[.val (.ref b), .val (.int (1 : Int32)), .val (.int (4 : Int32)), .val (.int (0 : Int32)), .val (.int (1 : Int32))]) (rest := [(.ref b)]) w259 d11_17 rfl rfl ?_
    refine giloadN (pc' := 20) (Ls := #[.val (.ref b), .val (.int (1 : Int32)), .val (.int (4 : Int32)), .val (.int (0 : Int32)), .val (.int (1 : Int32))]) (rest := [(.int (1 : Int32)), (.ref b)]) w259 d11_19 rfl rfl ?_
    refine gbastore (pc' := 21) (x' := (0 : Int32).toInt8.toInt32) w259 d11_20 rfl Vb (own_lt (by decide) (by decide) hz) (1) rfl (by first | exact (Nat.lt_of_lt_of_le (by decide) lb) | (simp only [List.length_set]; exact (Nat.lt_of_lt_of_le (by decide) lb))) gb rfl (fun T261 h262 w263 W264 V265 => ?_)
    have K267 := (Keep.refl h [b]).wr W264 (Or.inl (List.mem_singleton.mpr rfl))
    have V266 : Arv Z h262 b kb .byte z (vb.set 1 (.int (0 : Int32).toInt8.toInt32)) db := V265
    refine giinc (pc' := 24) (Ls := #[.val (.ref b), .val (.int (1 : Int32)), .val (.int (4 : Int32)), .val (.int (0 : Int32)), .val (.int (1 : Int32))]) (Ls' := #[.val (.ref b), .val (.int (1 : Int32)), .val (.int (4 : Int32)), .val (.int (0 : Int32)), .val (.int (2 : Int32))]) (rest := []) w263 d11_21 rfl rfl rfl ?_
    refine ggoto (pc' := 10) w263 d11_24 (by decide) rfl ?_
    refine giload (pc' := 12) (Ls := #[.val (.ref b), .val (.int (1 : Int32)), .val (.int (4 : Int32)), .val (.int (0 : Int32)), .val (.int (2 : Int32))]) (rest := []) w263 d11_10 rfl rfl ?_
    refine giloadN (pc' := 13) (Ls := #[.val (.ref b), .val (.int (1 : Int32)), .val (.int (4 : Int32)), .val (.int (0 : Int32)), .val (.int (2 : Int32))]) (rest := [(.int (2 : Int32))]) w263 d11_12 rfl rfl ?_
    refine gicmp (pt := 27) (pf := 16) w263 d11_13  (by decide) rfl rfl (fun (c13_1 : ¬ (2 : Int32) < (4 : Int32)) => ?_) (fun (c13_1 : (2 : Int32) < (4 : Int32)) => ?_)
    · exact absurd c13_1 (by decide)
    · refine galoadN (pc' := 17) (Ls := #[.val (.ref b), .val (.int (1 : Int32)), .val (.int (4 : Int32)), .val (.int (0 : Int32)), .val (.int (2 : Int32))]) (rest := []) w263 d11_16 rfl rfl rfl ?_
      refine giload (pc' := 19) (Ls := #[.val (.ref b), .val (.int (1 : Int32)), .val (.int (4 : Int32)), .val (.int (0 : Int32)), .val (.int (2 : Int32))]) (rest := [(.ref b)]) w263 d11_17 rfl rfl ?_
      refine giloadN (pc' := 20) (Ls := #[.val (.ref b), .val (.int (1 : Int32)), .val (.int (4 : Int32)), .val (.int (0 : Int32)), .val (.int (2 : Int32))]) (rest := [(.int (2 : Int32)), (.ref b)]) w263 d11_19 rfl rfl ?_
      refine gbastore (pc' := 21) (x' := (0 : Int32).toInt8.toInt32) w263 d11_20 rfl V266 (own_lt (by decide) (by decide) hz) (2) rfl (by first | exact (Nat.lt_of_lt_of_le (by decide) lb) | (simp only [List.length_set]; exact (Nat.lt_of_lt_of_le (by decide) lb))) gb rfl (fun T268 h269 w270 W271 V272 => ?_)
      have K274 := K267.wr W271 (Or.inl (List.mem_singleton.mpr rfl))
      have V273 : Arv Z h269 b kb .byte z ((vb.set 1 (.int (0 : Int32).toInt8.toInt32)).set 2 (.int (0 : Int32).toInt8.toInt32)) db := V272
      refine giinc (pc' := 24) (Ls := #[.val (.ref b), .val (.int (1 : Int32)), .val (.int (4 : Int32)), .val (.int (0 : Int32)), .val (.int (2 : Int32))]) (Ls' := #[.val (.ref b), .val (.int (1 : Int32)), .val (.int (4 : Int32)), .val (.int (0 : Int32)), .val (.int (3 : Int32))]) (rest := []) w270 d11_21 rfl rfl rfl ?_
      refine ggoto (pc' := 10) w270 d11_24 (by decide) rfl ?_
      refine giload (pc' := 12) (Ls := #[.val (.ref b), .val (.int (1 : Int32)), .val (.int (4 : Int32)), .val (.int (0 : Int32)), .val (.int (3 : Int32))]) (rest := []) w270 d11_10 rfl rfl ?_
      refine giloadN (pc' := 13) (Ls := #[.val (.ref b), .val (.int (1 : Int32)), .val (.int (4 : Int32)), .val (.int (0 : Int32)), .val (.int (3 : Int32))]) (rest := [(.int (3 : Int32))]) w270 d11_12 rfl rfl ?_
      refine gicmp (pt := 27) (pf := 16) w270 d11_13  (by decide) rfl rfl (fun (c13_2 : ¬ (3 : Int32) < (4 : Int32)) => ?_) (fun (c13_2 : (3 : Int32) < (4 : Int32)) => ?_)
      · exact absurd c13_2 (by decide)
      · refine galoadN (pc' := 17) (Ls := #[.val (.ref b), .val (.int (1 : Int32)), .val (.int (4 : Int32)), .val (.int (0 : Int32)), .val (.int (3 : Int32))]) (rest := []) w270 d11_16 rfl rfl rfl ?_
        refine giload (pc' := 19) (Ls := #[.val (.ref b), .val (.int (1 : Int32)), .val (.int (4 : Int32)), .val (.int (0 : Int32)), .val (.int (3 : Int32))]) (rest := [(.ref b)]) w270 d11_17 rfl rfl ?_
        refine giloadN (pc' := 20) (Ls := #[.val (.ref b), .val (.int (1 : Int32)), .val (.int (4 : Int32)), .val (.int (0 : Int32)), .val (.int (3 : Int32))]) (rest := [(.int (3 : Int32)), (.ref b)]) w270 d11_19 rfl rfl ?_
        refine gbastore (pc' := 21) (x' := (0 : Int32).toInt8.toInt32) w270 d11_20 rfl V273 (own_lt (by decide) (by decide) hz) (3) rfl (by first | exact (Nat.lt_of_lt_of_le (by decide) lb) | (simp only [List.length_set]; exact (Nat.lt_of_lt_of_le (by decide) lb))) gb rfl (fun T275 h276 w277 W278 V279 => ?_)
        have K281 := K274.wr W278 (Or.inl (List.mem_singleton.mpr rfl))
        have V280 : Arv Z h276 b kb .byte z (((vb.set 1 (.int (0 : Int32).toInt8.toInt32)).set 2 (.int (0 : Int32).toInt8.toInt32)).set 3 (.int (0 : Int32).toInt8.toInt32)) db := V279
        refine giinc (pc' := 24) (Ls := #[.val (.ref b), .val (.int (1 : Int32)), .val (.int (4 : Int32)), .val (.int (0 : Int32)), .val (.int (3 : Int32))]) (Ls' := #[.val (.ref b), .val (.int (1 : Int32)), .val (.int (4 : Int32)), .val (.int (0 : Int32)), .val (.int (4 : Int32))]) (rest := []) w277 d11_21 rfl rfl rfl ?_
        refine ggoto (pc' := 10) w277 d11_24 (by decide) rfl ?_
        refine giload (pc' := 12) (Ls := #[.val (.ref b), .val (.int (1 : Int32)), .val (.int (4 : Int32)), .val (.int (0 : Int32)), .val (.int (4 : Int32))]) (rest := []) w277 d11_10 rfl rfl ?_
        refine giloadN (pc' := 13) (Ls := #[.val (.ref b), .val (.int (1 : Int32)), .val (.int (4 : Int32)), .val (.int (0 : Int32)), .val (.int (4 : Int32))]) (rest := [(.int (4 : Int32))]) w277 d11_12 rfl rfl ?_
        refine gicmp (pt := 27) (pf := 16) w277 d11_13  (by decide) rfl rfl (fun (c13_3 : ¬ (4 : Int32) < (4 : Int32)) => ?_) (fun (c13_3 : (4 : Int32) < (4 : Int32)) => ?_)
        · exact gret0 w277 d11_27 (by decide) (by decide) ⟨rfl, K281, own_Bpad V280⟩
        · exact absurd c13_3 (by decide)
set_option maxRecDepth 65536 in
set_option maxHeartbeats 4000000 in
theorem own_rck8 (hw : ∀ d ∈ tables_1, d.before a0 Z = true) (z : Int32) (hz : ¬ z < (8 : Int32)) :
    Ctr l (⟨"java/util/Arrays", "rangeCheck", "(III)V"⟩ : MethodName) jdk_65_method_30_code 3 none ({ frames := 0, cells := 0, slots := 0, locals := 0 } : Room) Z #[(.int z), (.int (1 : Int32)), (.int (8 : Int32))] h n0 (fun v h' => v = none ∧ h' = h) [] := by
  refine metGo (Ls := #[.val (.int z), .val (.int (1 : Int32)), .val (.int (8 : Int32))]) pn_d12 (fun m => by first | rfl | (simp [entryFrame, mkF, argsToLocals, Value.category]; done) | (simp [entryFrame, mkF, argsToLocals, Value.category, maxLocals]; done)) ?_
  intro p e s m below meth c T w
  refine giloadN (pc' := 1) (Ls := #[.val (.int z), .val (.int (1 : Int32)), .val (.int (8 : Int32))]) (rest := []) w d12_0 rfl rfl ?_
  refine giloadN (pc' := 2) (Ls := #[.val (.int z), .val (.int (1 : Int32)), .val (.int (8 : Int32))]) (rest := [(.int (1 : Int32))]) w d12_1 rfl rfl ?_
  refine gicmp (pt := 46) (pf := 5) w d12_2  (by decide) rfl rfl (fun (c2 : ¬ (8 : Int32) < (1 : Int32)) => ?_) (fun (c2 : (8 : Int32) < (1 : Int32)) => ?_)
  · refine giloadN (pc' := 47) (Ls := #[.val (.int z), .val (.int (1 : Int32)), .val (.int (8 : Int32))]) (rest := []) w d12_46 rfl rfl ?_
    refine gif (pt := 59) (pf := 50) w d12_47  (by decide) rfl rfl (fun (c47 : ¬ (1 : Int32) < (0 : Int32)) => ?_) (fun (c47 : (1 : Int32) < (0 : Int32)) => ?_)
    · refine giloadN (pc' := 60) (Ls := #[.val (.int z), .val (.int (1 : Int32)), .val (.int (8 : Int32))]) (rest := []) w d12_59 rfl rfl ?_
      refine giloadN (pc' := 61) (Ls := #[.val (.int z), .val (.int (1 : Int32)), .val (.int (8 : Int32))]) (rest := [(.int (8 : Int32))]) w d12_60 rfl rfl ?_
      refine gicmp (pt := 73) (pf := 64) w d12_61  (by decide) rfl rfl (fun (c61 : ¬ z < (8 : Int32)) => ?_) (fun (c61 : z < (8 : Int32)) => ?_)
      · exact gret0 w d12_73 (by decide) (by decide) ⟨rfl, rfl⟩
      · exact absurd c61 hz
    · exact absurd c47 (by decide)
  · exact absurd c2 (by decide)
set_option maxRecDepth 65536 in
set_option maxHeartbeats 4000000 in
theorem own_fill8 (hw : ∀ d ∈ tables_1, d.before a0 Z = true) (b : Addr) (z : Int32) (gb : n0 ≤ b) (hz : ¬ z < (8 : Int32)) (BB : own_B Z h b z) :
    Ctr l (⟨"java/util/Arrays", "fill", "([BIIB)V"⟩ : MethodName) jdk_65_method_110_code 5 none ({ frames := 1, cells := 0, slots := 0, locals := 16 } : Room) Z #[(.ref b), (.int (1 : Int32)), (.int (8 : Int32)), (.int (0 : Int32))] h n0 (fun v h' => v = none ∧ Keep h h' [b] ∧ own_B Z h' b z) [] := by
  refine metGo (Ls := #[.val (.ref b), .val (.int (1 : Int32)), .val (.int (8 : Int32)), .val (.int (0 : Int32)), .unset]) pn_d11 (fun m => by first | rfl | (simp [entryFrame, mkF, argsToLocals, Value.category]; done) | (simp [entryFrame, mkF, argsToLocals, Value.category, maxLocals]; done)) ?_
  intro p e s m below meth c T w
  obtain ⟨kb, vb, db, lb, Vb⟩ := BB
  refine galoadN (pc' := 1) (Ls := #[.val (.ref b), .val (.int (1 : Int32)), .val (.int (8 : Int32)), .val (.int (0 : Int32)), .unset]) (rest := []) w d11_0 rfl rfl rfl ?_
  refine glen (pc' := 2) w d11_1 Vb rfl ?_
  refine giloadN (pc' := 3) (Ls := #[.val (.ref b), .val (.int (1 : Int32)), .val (.int (8 : Int32)), .val (.int (0 : Int32)), .unset]) (rest := [(.int z)]) w d11_2 rfl rfl ?_
  refine giloadN (pc' := 4) (Ls := #[.val (.ref b), .val (.int (1 : Int32)), .val (.int (8 : Int32)), .val (.int (0 : Int32)), .unset]) (rest := [(.int (1 : Int32)), (.int z)]) w d11_3 rfl rfl ?_
  refine gcallS (pc' := 7) (argsL := [(.int z), (.int (1 : Int32)), (.int (8 : Int32))]) (rest := []) (Wt := 0) w d11_4 (hw _ (List.mem_of_getElem? (i := 58) rfl)) (hw _ (List.mem_of_getElem? (i := 59) rfl)) (hw _ (List.mem_of_getElem? (i := 56) rfl)) (hw _ (List.mem_of_getElem? (i := 60) rfl)) (by decide) pd_d12 (own_rck8 hw z hz) rfl rfl rfl rfl (Nat.le_of_eq rfl) (by decide) (by decide) (by decide) (by decide) rfl (fun v282 T283 h284 w285 q286 => ?_)
  obtain ⟨rfl, eh⟩ := q286
  show Go _ _ _ _ _ _ _ _ _ (mkF m 7 #[.val (.ref b), .val (.int (1 : Int32)), .val (.int (8 : Int32)), .val (.int (0 : Int32)), .unset] [])
  rw [eh] at w285
  refine giloadN (pc' := 8) (Ls := #[.val (.ref b), .val (.int (1 : Int32)), .val (.int (8 : Int32)), .val (.int (0 : Int32)), .unset]) (rest := []) w285 d11_7 rfl rfl ?_
  refine gistore (pc' := 10) (Ls := #[.val (.ref b), .val (.int (1 : Int32)), .val (.int (8 : Int32)), .val (.int (0 : Int32)), .unset]) (Ls' := #[.val (.ref b), .val (.int (1 : Int32)), .val (.int (8 : Int32)), .val (.int (0 : Int32)), .val (.int (1 : Int32))]) (rest := []) w285 d11_8 rfl rfl ?_
  refine giload (pc' := 12) (Ls := #[.val (.ref b), .val (.int (1 : Int32)), .val (.int (8 : Int32)), .val (.int (0 : Int32)), .val (.int (1 : Int32))]) (rest := []) w285 d11_10 rfl rfl ?_
  refine giloadN (pc' := 13) (Ls := #[.val (.ref b), .val (.int (1 : Int32)), .val (.int (8 : Int32)), .val (.int (0 : Int32)), .val (.int (1 : Int32))]) (rest := [(.int (1 : Int32))]) w285 d11_12 rfl rfl ?_
  refine gicmp (pt := 27) (pf := 16) w285 d11_13  (by decide) rfl rfl (fun (c13 : ¬ (1 : Int32) < (8 : Int32)) => ?_) (fun (c13 : (1 : Int32) < (8 : Int32)) => ?_)
  · exact absurd c13 (by decide)
  · refine galoadN (pc' := 17) (Ls := #[.val (.ref b), .val (.int (1 : Int32)), .val (.int (8 : Int32)), .val (.int (0 : Int32)), .val (.int (1 : Int32))]) (rest := []) w285 d11_16 rfl rfl rfl ?_
    refine giload (pc' := 19) (Ls := #[.val (.ref b), .val (.int (1 : Int32)), .val (.int (8 : Int32)), .val (.int (0 : Int32)), .val (.int (1 : Int32))]) (rest := [(.ref b)]) w285 d11_17 rfl rfl ?_
    refine giloadN (pc' := 20) (Ls := #[.val (.ref b), .val (.int (1 : Int32)), .val (.int (8 : Int32)), .val (.int (0 : Int32)), .val (.int (1 : Int32))]) (rest := [(.int (1 : Int32)), (.ref b)]) w285 d11_19 rfl rfl ?_
    refine gbastore (pc' := 21) (x' := (0 : Int32).toInt8.toInt32) w285 d11_20 rfl Vb (own_lt (by decide) (by decide) hz) (1) rfl (by first | exact (Nat.lt_of_lt_of_le (by decide) lb) | (simp only [List.length_set]; exact (Nat.lt_of_lt_of_le (by decide) lb))) gb rfl (fun T287 h288 w289 W290 V291 => ?_)
    have K293 := (Keep.refl h [b]).wr W290 (Or.inl (List.mem_singleton.mpr rfl))
    have V292 : Arv Z h288 b kb .byte z (vb.set 1 (.int (0 : Int32).toInt8.toInt32)) db := V291
    refine giinc (pc' := 24) (Ls := #[.val (.ref b), .val (.int (1 : Int32)), .val (.int (8 : Int32)), .val (.int (0 : Int32)), .val (.int (1 : Int32))]) (Ls' := #[.val (.ref b), .val (.int (1 : Int32)), .val (.int (8 : Int32)), .val (.int (0 : Int32)), .val (.int (2 : Int32))]) (rest := []) w289 d11_21 rfl rfl rfl ?_
    refine ggoto (pc' := 10) w289 d11_24 (by decide) rfl ?_
    refine giload (pc' := 12) (Ls := #[.val (.ref b), .val (.int (1 : Int32)), .val (.int (8 : Int32)), .val (.int (0 : Int32)), .val (.int (2 : Int32))]) (rest := []) w289 d11_10 rfl rfl ?_
    refine giloadN (pc' := 13) (Ls := #[.val (.ref b), .val (.int (1 : Int32)), .val (.int (8 : Int32)), .val (.int (0 : Int32)), .val (.int (2 : Int32))]) (rest := [(.int (2 : Int32))]) w289 d11_12 rfl rfl ?_
    refine gicmp (pt := 27) (pf := 16) w289 d11_13  (by decide) rfl rfl (fun (c13_1 : ¬ (2 : Int32) < (8 : Int32)) => ?_) (fun (c13_1 : (2 : Int32) < (8 : Int32)) => ?_)
    · exact absurd c13_1 (by decide)
    · refine galoadN (pc' := 17) (Ls := #[.val (.ref b), .val (.int (1 : Int32)), .val (.int (8 : Int32)), .val (.int (0 : Int32)), .val (.int (2 : Int32))]) (rest := []) w289 d11_16 rfl rfl rfl ?_
      refine giload (pc' := 19) (Ls := #[.val (.ref b), .val (.int (1 : Int32)), .val (.int (8 : Int32)), .val (.int (0 : Int32)), .val (.int (2 : Int32))]) (rest := [(.ref b)]) w289 d11_17 rfl rfl ?_
      refine giloadN (pc' := 20) (Ls := #[.val (.ref b), .val (.int (1 : Int32)), .val (.int (8 : Int32)), .val (.int (0 : Int32)), .val (.int (2 : Int32))]) (rest := [(.int (2 : Int32)), (.ref b)]) w289 d11_19 rfl rfl ?_
      refine gbastore (pc' := 21) (x' := (0 : Int32).toInt8.toInt32) w289 d11_20 rfl V292 (own_lt (by decide) (by decide) hz) (2) rfl (by first | exact (Nat.lt_of_lt_of_le (by decide) lb) | (simp only [List.length_set]; exact (Nat.lt_of_lt_of_le (by decide) lb))) gb rfl (fun T294 h295 w296 W297 V298 => ?_)
      have K300 := K293.wr W297 (Or.inl (List.mem_singleton.mpr rfl))
      have V299 : Arv Z h295 b kb .byte z ((vb.set 1 (.int (0 : Int32).toInt8.toInt32)).set 2 (.int (0 : Int32).toInt8.toInt32)) db := V298
      refine giinc (pc' := 24) (Ls := #[.val (.ref b), .val (.int (1 : Int32)), .val (.int (8 : Int32)), .val (.int (0 : Int32)), .val (.int (2 : Int32))]) (Ls' := #[.val (.ref b), .val (.int (1 : Int32)), .val (.int (8 : Int32)), .val (.int (0 : Int32)), .val (.int (3 : Int32))]) (rest := []) w296 d11_21 rfl rfl rfl ?_
      refine ggoto (pc' := 10) w296 d11_24 (by decide) rfl ?_
      refine giload (pc' := 12) (Ls := #[.val (.ref b), .val (.int (1 : Int32)), .val (.int (8 : Int32)), .val (.int (0 : Int32)), .val (.int (3 : Int32))]) (rest := []) w296 d11_10 rfl rfl ?_
      refine giloadN (pc' := 13) (Ls := #[.val (.ref b), .val (.int (1 : Int32)), .val (.int (8 : Int32)), .val (.int (0 : Int32)), .val (.int (3 : Int32))]) (rest := [(.int (3 : Int32))]) w296 d11_12 rfl rfl ?_
      refine gicmp (pt := 27) (pf := 16) w296 d11_13  (by decide) rfl rfl (fun (c13_2 : ¬ (3 : Int32) < (8 : Int32)) => ?_) (fun (c13_2 : (3 : Int32) < (8 : Int32)) => ?_)
      · exact absurd c13_2 (by decide)
      · refine galoadN (pc' := 17) (Ls := #[.val (.ref b), .val (.int (1 : Int32)), .val (.int (8 : Int32)), .val (.int (0 : Int32)), .val (.int (3 : Int32))]) (rest := []) w296 d11_16 rfl rfl rfl ?_
        refine giload (pc' := 19) (Ls := #[.val (.ref b), .val (.int (1 : Int32)), .val (.int (8 : Int32)), .val (.int (0 : Int32)), .val (.int (3 : Int32))]) (rest := [(.ref b)]) w296 d11_17 rfl rfl ?_
        refine giloadN (pc' := 20) (Ls := #[.val (.ref b), .val (.int (1 : Int32)), .val (.int (8 : Int32)), .val (.int (0 : Int32)), .val (.int (3 : Int32))]) (rest := [(.int (3 : Int32)), (.ref b)]) w296 d11_19 rfl rfl ?_
        refine gbastore (pc' := 21) (x' := (0 : Int32).toInt8.toInt32) w296 d11_20 rfl V299 (own_lt (by decide) (by decide) hz) (3) rfl (by first | exact (Nat.lt_of_lt_of_le (by decide) lb) | (simp only [List.length_set]; exact (Nat.lt_of_lt_of_le (by decide) lb))) gb rfl (fun T301 h302 w303 W304 V305 => ?_)
        have K307 := K300.wr W304 (Or.inl (List.mem_singleton.mpr rfl))
        have V306 : Arv Z h302 b kb .byte z (((vb.set 1 (.int (0 : Int32).toInt8.toInt32)).set 2 (.int (0 : Int32).toInt8.toInt32)).set 3 (.int (0 : Int32).toInt8.toInt32)) db := V305
        refine giinc (pc' := 24) (Ls := #[.val (.ref b), .val (.int (1 : Int32)), .val (.int (8 : Int32)), .val (.int (0 : Int32)), .val (.int (3 : Int32))]) (Ls' := #[.val (.ref b), .val (.int (1 : Int32)), .val (.int (8 : Int32)), .val (.int (0 : Int32)), .val (.int (4 : Int32))]) (rest := []) w303 d11_21 rfl rfl rfl ?_
        refine ggoto (pc' := 10) w303 d11_24 (by decide) rfl ?_
        refine giload (pc' := 12) (Ls := #[.val (.ref b), .val (.int (1 : Int32)), .val (.int (8 : Int32)), .val (.int (0 : Int32)), .val (.int (4 : Int32))]) (rest := []) w303 d11_10 rfl rfl ?_
        refine giloadN (pc' := 13) (Ls := #[.val (.ref b), .val (.int (1 : Int32)), .val (.int (8 : Int32)), .val (.int (0 : Int32)), .val (.int (4 : Int32))]) (rest := [(.int (4 : Int32))]) w303 d11_12 rfl rfl ?_
        refine gicmp (pt := 27) (pf := 16) w303 d11_13  (by decide) rfl rfl (fun (c13_3 : ¬ (4 : Int32) < (8 : Int32)) => ?_) (fun (c13_3 : (4 : Int32) < (8 : Int32)) => ?_)
        · exact absurd c13_3 (by decide)
        · refine galoadN (pc' := 17) (Ls := #[.val (.ref b), .val (.int (1 : Int32)), .val (.int (8 : Int32)), .val (.int (0 : Int32)), .val (.int (4 : Int32))]) (rest := []) w303 d11_16 rfl rfl rfl ?_
          refine giload (pc' := 19) (Ls := #[.val (.ref b), .val (.int (1 : Int32)), .val (.int (8 : Int32)), .val (.int (0 : Int32)), .val (.int (4 : Int32))]) (rest := [(.ref b)]) w303 d11_17 rfl rfl ?_
          refine giloadN (pc' := 20) (Ls := #[.val (.ref b), .val (.int (1 : Int32)), .val (.int (8 : Int32)), .val (.int (0 : Int32)), .val (.int (4 : Int32))]) (rest := [(.int (4 : Int32)), (.ref b)]) w303 d11_19 rfl rfl ?_
          refine gbastore (pc' := 21) (x' := (0 : Int32).toInt8.toInt32) w303 d11_20 rfl V306 (own_lt (by decide) (by decide) hz) (4) rfl (by first | exact (Nat.lt_of_lt_of_le (by decide) lb) | (simp only [List.length_set]; exact (Nat.lt_of_lt_of_le (by decide) lb))) gb rfl (fun T308 h309 w310 W311 V312 => ?_)
          have K314 := K307.wr W311 (Or.inl (List.mem_singleton.mpr rfl))
          have V313 : Arv Z h309 b kb .byte z ((((vb.set 1 (.int (0 : Int32).toInt8.toInt32)).set 2 (.int (0 : Int32).toInt8.toInt32)).set 3 (.int (0 : Int32).toInt8.toInt32)).set 4 (.int (0 : Int32).toInt8.toInt32)) db := V312
          refine giinc (pc' := 24) (Ls := #[.val (.ref b), .val (.int (1 : Int32)), .val (.int (8 : Int32)), .val (.int (0 : Int32)), .val (.int (4 : Int32))]) (Ls' := #[.val (.ref b), .val (.int (1 : Int32)), .val (.int (8 : Int32)), .val (.int (0 : Int32)), .val (.int (5 : Int32))]) (rest := []) w310 d11_21 rfl rfl rfl ?_
          refine ggoto (pc' := 10) w310 d11_24 (by decide) rfl ?_
          refine giload (pc' := 12) (Ls := #[.val (.ref b), .val (.int (1 : Int32)), .val (.int (8 : Int32)), .val (.int (0 : Int32)), .val (.int (5 : Int32))]) (rest := []) w310 d11_10 rfl rfl ?_
          refine giloadN (pc' := 13) (Ls := #[.val (.ref b), .val (.int (1 : Int32)), .val (.int (8 : Int32)), .val (.int (0 : Int32)), .val (.int (5 : Int32))]) (rest := [(.int (5 : Int32))]) w310 d11_12 rfl rfl ?_
          refine gicmp (pt := 27) (pf := 16) w310 d11_13  (by decide) rfl rfl (fun (c13_4 : ¬ (5 : Int32) < (8 : Int32)) => ?_) (fun (c13_4 : (5 : Int32) < (8 : Int32)) => ?_)
          · exact absurd c13_4 (by decide)
          · refine galoadN (pc' := 17) (Ls := #[.val (.ref b), .val (.int (1 : Int32)), .val (.int (8 : Int32)), .val (.int (0 : Int32)), .val (.int (5 : Int32))]) (rest := []) w310 d11_16 rfl rfl rfl ?_
            refine giload (pc' := 19) (Ls := #[.val (.ref b), .val (.int (1 : Int32)), .val (.int (8 : Int32)), .val (.int (0 : Int32)), .val (.int (5 : Int32))]) (rest := [(.ref b)]) w310 d11_17 rfl rfl ?_
            refine giloadN (pc' := 20) (Ls := #[.val (.ref b), .val (.int (1 : Int32)), .val (.int (8 : Int32)), .val (.int (0 : Int32)), .val (.int (5 : Int32))]) (rest := [(.int (5 : Int32)), (.ref b)]) w310 d11_19 rfl rfl ?_
            refine gbastore (pc' := 21) (x' := (0 : Int32).toInt8.toInt32) w310 d11_20 rfl V313 (own_lt (by decide) (by decide) hz) (5) rfl (by first | exact (Nat.lt_of_lt_of_le (by decide) lb) | (simp only [List.length_set]; exact (Nat.lt_of_lt_of_le (by decide) lb))) gb rfl (fun T315 h316 w317 W318 V319 => ?_)
            have K321 := K314.wr W318 (Or.inl (List.mem_singleton.mpr rfl))
            have V320 : Arv Z h316 b kb .byte z (((((vb.set 1 (.int (0 : Int32).toInt8.toInt32)).set 2 (.int (0 : Int32).toInt8.toInt32)).set 3 (.int (0 : Int32).toInt8.toInt32)).set 4 (.int (0 : Int32).toInt8.toInt32)).set 5 (.int (0 : Int32).toInt8.toInt32)) db := V319
            refine giinc (pc' := 24) (Ls := #[.val (.ref b), .val (.int (1 : Int32)), .val (.int (8 : Int32)), .val (.int (0 : Int32)), .val (.int (5 : Int32))]) (Ls' := #[.val (.ref b), .val (.int (1 : Int32)), .val (.int (8 : Int32)), .val (.int (0 : Int32)), .val (.int (6 : Int32))]) (rest := []) w317 d11_21 rfl rfl rfl ?_
            refine ggoto (pc' := 10) w317 d11_24 (by decide) rfl ?_
            refine giload (pc' := 12) (Ls := #[.val (.ref b), .val (.int (1 : Int32)), .val (.int (8 : Int32)), .val (.int (0 : Int32)), .val (.int (6 : Int32))]) (rest := []) w317 d11_10 rfl rfl ?_
            refine giloadN (pc' := 13) (Ls := #[.val (.ref b), .val (.int (1 : Int32)), .val (.int (8 : Int32)), .val (.int (0 : Int32)), .val (.int (6 : Int32))]) (rest := [(.int (6 : Int32))]) w317 d11_12 rfl rfl ?_
            refine gicmp (pt := 27) (pf := 16) w317 d11_13  (by decide) rfl rfl (fun (c13_5 : ¬ (6 : Int32) < (8 : Int32)) => ?_) (fun (c13_5 : (6 : Int32) < (8 : Int32)) => ?_)
            · exact absurd c13_5 (by decide)
            · refine galoadN (pc' := 17) (Ls := #[.val (.ref b), .val (.int (1 : Int32)), .val (.int (8 : Int32)), .val (.int (0 : Int32)), .val (.int (6 : Int32))]) (rest := []) w317 d11_16 rfl rfl rfl ?_
              refine giload (pc' := 19) (Ls := #[.val (.ref b), .val (.int (1 : Int32)), .val (.int (8 : Int32)), .val (.int (0 : Int32)), .val (.int (6 : Int32))]) (rest := [(.ref b)]) w317 d11_17 rfl rfl ?_
              refine giloadN (pc' := 20) (Ls := #[.val (.ref b), .val (.int (1 : Int32)), .val (.int (8 : Int32)), .val (.int (0 : Int32)), .val (.int (6 : Int32))]) (rest := [(.int (6 : Int32)), (.ref b)]) w317 d11_19 rfl rfl ?_
              refine gbastore (pc' := 21) (x' := (0 : Int32).toInt8.toInt32) w317 d11_20 rfl V320 (own_lt (by decide) (by decide) hz) (6) rfl (by first | exact (Nat.lt_of_lt_of_le (by decide) lb) | (simp only [List.length_set]; exact (Nat.lt_of_lt_of_le (by decide) lb))) gb rfl (fun T322 h323 w324 W325 V326 => ?_)
              have K328 := K321.wr W325 (Or.inl (List.mem_singleton.mpr rfl))
              have V327 : Arv Z h323 b kb .byte z ((((((vb.set 1 (.int (0 : Int32).toInt8.toInt32)).set 2 (.int (0 : Int32).toInt8.toInt32)).set 3 (.int (0 : Int32).toInt8.toInt32)).set 4 (.int (0 : Int32).toInt8.toInt32)).set 5 (.int (0 : Int32).toInt8.toInt32)).set 6 (.int (0 : Int32).toInt8.toInt32)) db := V326
              refine giinc (pc' := 24) (Ls := #[.val (.ref b), .val (.int (1 : Int32)), .val (.int (8 : Int32)), .val (.int (0 : Int32)), .val (.int (6 : Int32))]) (Ls' := #[.val (.ref b), .val (.int (1 : Int32)), .val (.int (8 : Int32)), .val (.int (0 : Int32)), .val (.int (7 : Int32))]) (rest := []) w324 d11_21 rfl rfl rfl ?_
              refine ggoto (pc' := 10) w324 d11_24 (by decide) rfl ?_
              refine giload (pc' := 12) (Ls := #[.val (.ref b), .val (.int (1 : Int32)), .val (.int (8 : Int32)), .val (.int (0 : Int32)), .val (.int (7 : Int32))]) (rest := []) w324 d11_10 rfl rfl ?_
              refine giloadN (pc' := 13) (Ls := #[.val (.ref b), .val (.int (1 : Int32)), .val (.int (8 : Int32)), .val (.int (0 : Int32)), .val (.int (7 : Int32))]) (rest := [(.int (7 : Int32))]) w324 d11_12 rfl rfl ?_
              refine gicmp (pt := 27) (pf := 16) w324 d11_13  (by decide) rfl rfl (fun (c13_6 : ¬ (7 : Int32) < (8 : Int32)) => ?_) (fun (c13_6 : (7 : Int32) < (8 : Int32)) => ?_)
              · exact absurd c13_6 (by decide)
              · refine galoadN (pc' := 17) (Ls := #[.val (.ref b), .val (.int (1 : Int32)), .val (.int (8 : Int32)), .val (.int (0 : Int32)), .val (.int (7 : Int32))]) (rest := []) w324 d11_16 rfl rfl rfl ?_
                refine giload (pc' := 19) (Ls := #[.val (.ref b), .val (.int (1 : Int32)), .val (.int (8 : Int32)), .val (.int (0 : Int32)), .val (.int (7 : Int32))]) (rest := [(.ref b)]) w324 d11_17 rfl rfl ?_
                refine giloadN (pc' := 20) (Ls := #[.val (.ref b), .val (.int (1 : Int32)), .val (.int (8 : Int32)), .val (.int (0 : Int32)), .val (.int (7 : Int32))]) (rest := [(.int (7 : Int32)), (.ref b)]) w324 d11_19 rfl rfl ?_
                refine gbastore (pc' := 21) (x' := (0 : Int32).toInt8.toInt32) w324 d11_20 rfl V327 (own_lt (by decide) (by decide) hz) (7) rfl (by first | exact (Nat.lt_of_lt_of_le (by decide) lb) | (simp only [List.length_set]; exact (Nat.lt_of_lt_of_le (by decide) lb))) gb rfl (fun T329 h330 w331 W332 V333 => ?_)
                have K335 := K328.wr W332 (Or.inl (List.mem_singleton.mpr rfl))
                have V334 : Arv Z h330 b kb .byte z (((((((vb.set 1 (.int (0 : Int32).toInt8.toInt32)).set 2 (.int (0 : Int32).toInt8.toInt32)).set 3 (.int (0 : Int32).toInt8.toInt32)).set 4 (.int (0 : Int32).toInt8.toInt32)).set 5 (.int (0 : Int32).toInt8.toInt32)).set 6 (.int (0 : Int32).toInt8.toInt32)).set 7 (.int (0 : Int32).toInt8.toInt32)) db := V333
                refine giinc (pc' := 24) (Ls := #[.val (.ref b), .val (.int (1 : Int32)), .val (.int (8 : Int32)), .val (.int (0 : Int32)), .val (.int (7 : Int32))]) (Ls' := #[.val (.ref b), .val (.int (1 : Int32)), .val (.int (8 : Int32)), .val (.int (0 : Int32)), .val (.int (8 : Int32))]) (rest := []) w331 d11_21 rfl rfl rfl ?_
                refine ggoto (pc' := 10) w331 d11_24 (by decide) rfl ?_
                refine giload (pc' := 12) (Ls := #[.val (.ref b), .val (.int (1 : Int32)), .val (.int (8 : Int32)), .val (.int (0 : Int32)), .val (.int (8 : Int32))]) (rest := []) w331 d11_10 rfl rfl ?_
                refine giloadN (pc' := 13) (Ls := #[.val (.ref b), .val (.int (1 : Int32)), .val (.int (8 : Int32)), .val (.int (0 : Int32)), .val (.int (8 : Int32))]) (rest := [(.int (8 : Int32))]) w331 d11_12 rfl rfl ?_
                refine gicmp (pt := 27) (pf := 16) w331 d11_13  (by decide) rfl rfl (fun (c13_7 : ¬ (8 : Int32) < (8 : Int32)) => ?_) (fun (c13_7 : (8 : Int32) < (8 : Int32)) => ?_)
                · exact gret0 w331 d11_27 (by decide) (by decide) ⟨rfl, K335, own_Bpad V334⟩
                · exact absurd c13_7 (by decide)
set_option maxRecDepth 65536 in
set_option maxHeartbeats 4000000 in
theorem own_al4 (hw : ∀ d ∈ tables_1, d.before a0 Z = true) (a b : Addr) (z : Int32) (z0 : n0 ≤ h.size) (ga : n0 ≤ a) (gb : n0 ≤ b) (WT : own_WT Z h a b (4 : Int32) (1 : Int32) z) :
    Ctr l (⟨"com/example/halyard/halyard/wire/CdrWriter", "align", "(I)V"⟩ : MethodName) prog_115_method_8_code 4 none ({ frames := 3, cells := 1, slots := 32, locals := 96 } : Room) Z #[(.ref a), (.int (8 : Int32))] h n0 (fun v h' => v = none ∧ ∃ b' z', own_WT Z h' a b' (4 : Int32) (4 : Int32) z' ∧ n0 ≤ b' ∧ n0 ≤ h'.size) [] := by
  refine metGo (Ls := #[.val (.ref a), .val (.int (8 : Int32)), .unset, .unset]) pn_d9 (fun m => by first | rfl | (simp [entryFrame, mkF, argsToLocals, Value.category]; done) | (simp [entryFrame, mkF, argsToLocals, Value.category, maxLocals]; done)) ?_
  intro p e s m below meth c T w
  obtain ⟨E0, Fm, Fb, Fg, Fo, Fp, ⟨kb, vb, db, lb, Vb⟩, nab⟩ := WT
  refine giloadN (pc' := 1) (Ls := #[.val (.ref a), .val (.int (8 : Int32)), .unset, .unset]) (rest := []) w d9_0 rfl rfl ?_
  refine galoadN (pc' := 2) (Ls := #[.val (.ref a), .val (.int (8 : Int32)), .unset, .unset]) (rest := [(.int (8 : Int32))]) w d9_1 rfl rfl rfl ?_
  refine ggetF (pc' := 5) w d9_2 (hw _ (List.mem_of_getElem? (i := 12) rfl)) Fm rfl (fun T336 w337 => ?_)
  refine gcallS (pc' := 8) (argsL := [(.int (8 : Int32)), (.int (4 : Int32))]) (rest := []) (Wt := 0) w337 d9_5 (hw _ (List.mem_of_getElem? (i := 51) rfl)) (hw _ (List.mem_of_getElem? (i := 52) rfl)) (hw _ (List.mem_of_getElem? (i := 20) rfl)) (hw _ (List.mem_of_getElem? (i := 53) rfl)) (by decide) pd_d10 (own_cmin hw (8 : Int32) (4 : Int32)) rfl rfl rfl rfl (Nat.le_of_eq rfl) (by decide) (by decide) (by decide) (by decide) rfl (fun v338 T339 h340 w341 q342 => ?_)
  obtain ⟨rfl, eh⟩ := q342
  show Go _ _ _ _ _ _ _ _ _ (mkF m 8 #[.val (.ref a), .val (.int (8 : Int32)), .unset, .unset] [(.int (4 : Int32))])
  rw [eh] at w341
  refine gistoreN (pc' := 9) (Ls := #[.val (.ref a), .val (.int (8 : Int32)), .unset, .unset]) (Ls' := #[.val (.ref a), .val (.int (8 : Int32)), .val (.int (4 : Int32)), .unset]) (rest := []) w341 d9_8 rfl rfl ?_
  refine galoadN (pc' := 10) (Ls := #[.val (.ref a), .val (.int (8 : Int32)), .val (.int (4 : Int32)), .unset]) (rest := []) w341 d9_9 rfl rfl rfl ?_
  refine ggetF (pc' := 13) w341 d9_10 (hw _ (List.mem_of_getElem? (i := 39) rfl)) Fp rfl (fun T343 w344 => ?_)
  refine galoadN (pc' := 14) (Ls := #[.val (.ref a), .val (.int (8 : Int32)), .val (.int (4 : Int32)), .unset]) (rest := [(.int (1 : Int32))]) w344 d9_13 rfl rfl rfl ?_
  refine ggetF (pc' := 17) w344 d9_14 (hw _ (List.mem_of_getElem? (i := 16) rfl)) Fg rfl (fun T345 w346 => ?_)
  refine gisub (pc' := 18) w346 d9_17 rfl ?_
  refine gineg (pc' := 19) w346 d9_18 rfl ?_
  refine giloadN (pc' := 20) (Ls := #[.val (.ref a), .val (.int (8 : Int32)), .val (.int (4 : Int32)), .unset]) (rest := [(.int ((-((1 : Int32) - (0 : Int32)))))]) w346 d9_19 rfl rfl ?_
  refine giconst (v := (1 : Int32)) (pc' := 21) w346 d9_20 rfl rfl ?_
  refine gisub (pc' := 22) w346 d9_21 rfl ?_
  refine giand (pc' := 23) w346 d9_22 rfl ?_
  refine gistoreN (pc' := 24) (Ls := #[.val (.ref a), .val (.int (8 : Int32)), .val (.int (4 : Int32)), .unset]) (Ls' := #[.val (.ref a), .val (.int (8 : Int32)), .val (.int (4 : Int32)), .val (.int (3 : Int32))]) (rest := []) w346 d9_23 rfl rfl ?_
  refine giloadN (pc' := 25) (Ls := #[.val (.ref a), .val (.int (8 : Int32)), .val (.int (4 : Int32)), .val (.int (3 : Int32))]) (rest := []) w346 d9_24 rfl rfl ?_
  refine gif (pt := 61) (pf := 28) w346 d9_25  (by decide) rfl rfl (fun (c25 : ¬ (0 : Int32) < (3 : Int32)) => ?_) (fun (c25 : (0 : Int32) < (3 : Int32)) => ?_)
  · exact absurd c25 (by decide)
  · refine galoadN (pc' := 29) (Ls := #[.val (.ref a), .val (.int (8 : Int32)), .val (.int (4 : Int32)), .val (.int (3 : Int32))]) (rest := []) w346 d9_28 rfl rfl rfl ?_
    refine giloadN (pc' := 30) (Ls := #[.val (.ref a), .val (.int (8 : Int32)), .val (.int (4 : Int32)), .val (.int (3 : Int32))]) (rest := [(.ref a)]) w346 d9_29 rfl rfl ?_
    refine gcallP (pc' := 33) (argsL := [(.int (3 : Int32))]) (rest := []) (Wt := 0) w346 d9_30 (hw _ (List.mem_of_getElem? (i := 35) rfl)) (hw _ (List.mem_of_getElem? (i := 36) rfl)) (hw _ (List.mem_of_getElem? (i := 1) rfl)) (hw _ (List.mem_of_getElem? (i := 37) rfl)) (hw _ (List.mem_of_getElem? (i := 2) rfl)) (hw _ (List.mem_of_getElem? (i := 38) rfl)) E0 (by decide) pd_d7 (own_room1_3 hw a b (4 : Int32) z z0 ga gb ⟨E0, Fm, Fb, Fg, Fo, Fp, own_Bpad Vb, nab⟩) rfl rfl rfl rfl (Nat.le_of_eq rfl) (by decide) (by decide) (by decide) (by decide) rfl (fun v348 T349 h350 w351 q352 => ?_)
    obtain ⟨rfl, b_347, z_347, ⟨E0_347, Fm_347, Fb_347, Fg_347, Fo_347, Fp_347, ⟨kb_347, vb_347, db_347, lb_347, Vb_347⟩, nab_347⟩, hq_347, gb_347, zz_347⟩ := q352
    show Go _ _ _ _ _ _ _ _ _ (mkF m 33 #[.val (.ref a), .val (.int (8 : Int32)), .val (.int (4 : Int32)), .val (.int (3 : Int32))] [])
    refine galoadN (pc' := 34) (Ls := #[.val (.ref a), .val (.int (8 : Int32)), .val (.int (4 : Int32)), .val (.int (3 : Int32))]) (rest := []) w351 d9_33 rfl rfl rfl ?_
    refine ggetF (pc' := 37) w351 d9_34 (hw _ (List.mem_of_getElem? (i := 23) rfl)) Fo_347 rfl (fun T353 w354 => ?_)
    refine galoadN (pc' := 38) (Ls := #[.val (.ref a), .val (.int (8 : Int32)), .val (.int (4 : Int32)), .val (.int (3 : Int32))]) (rest := [(.ref b_347)]) w354 d9_37 rfl rfl rfl ?_
    refine ggetF (pc' := 41) w354 d9_38 (hw _ (List.mem_of_getElem? (i := 39) rfl)) Fp_347 rfl (fun T355 w356 => ?_)
    refine galoadN (pc' := 42) (Ls := #[.val (.ref a), .val (.int (8 : Int32)), .val (.int (4 : Int32)), .val (.int (3 : Int32))]) (rest := [(.int (1 : Int32)), (.ref b_347)]) w356 d9_41 rfl rfl rfl ?_
    refine ggetF (pc' := 45) w356 d9_42 (hw _ (List.mem_of_getElem? (i := 39) rfl)) Fp_347 rfl (fun T357 w358 => ?_)
    refine giloadN (pc' := 46) (Ls := #[.val (.ref a), .val (.int (8 : Int32)), .val (.int (4 : Int32)), .val (.int (3 : Int32))]) (rest := [(.int (1 : Int32)), (.int (1 : Int32)), (.ref b_347)]) w358 d9_45 rfl rfl ?_
    refine giadd (pc' := 47) w358 d9_46 rfl ?_
    refine giconst (v := (0 : Int32)) (pc' := 48) w358 d9_47 rfl rfl ?_
    refine gcallS (pc' := 51) (argsL := [(.ref b_347), (.int (1 : Int32)), (.int ((1 : Int32) + (3 : Int32))), (.int (0 : Int32))]) (rest := []) (Wt := 0) w358 d9_48 (hw _ (List.mem_of_getElem? (i := 54) rfl)) (hw _ (List.mem_of_getElem? (i := 55) rfl)) (hw _ (List.mem_of_getElem? (i := 56) rfl)) (hw _ (List.mem_of_getElem? (i := 57) rfl)) (by decide) pd_d11 (own_fill4 hw b_347 z_347 gb_347 hq_347 (own_Bpad Vb_347)) rfl rfl rfl rfl (Nat.le_of_eq rfl) (by decide) (by decide) (by decide) (by decide) rfl (fun v360 T361 h362 w363 q364 => ?_)
    obtain ⟨rfl, KF_359, BF_359⟩ := q364
    show Go _ _ _ _ _ _ _ _ _ (mkF m 51 #[.val (.ref a), .val (.int (8 : Int32)), .val (.int (4 : Int32)), .val (.int (3 : Int32))] [])
    have E365 := E0_347.keep KF_359
    have F366 := Fm_347.keep KF_359 (ninS nab_347 nin0)
    have F367 := Fb_347.keep KF_359 (ninS nab_347 nin0)
    have F368 := Fg_347.keep KF_359 (ninS nab_347 nin0)
    have F369 := Fo_347.keep KF_359 (ninS nab_347 nin0)
    have F370 := Fp_347.keep KF_359 (ninS nab_347 nin0)
    have z371 := Nat.le_trans zz_347 KF_359.1
    obtain ⟨kf_359, vf_359, df_359, lf_359, VF_359⟩ := BF_359
    refine galoadN (pc' := 52) (Ls := #[.val (.ref a), .val (.int (8 : Int32)), .val (.int (4 : Int32)), .val (.int (3 : Int32))]) (rest := []) w363 d9_51 rfl rfl rfl ?_
    refine gdup (pc' := 53) w363 d9_52 rfl rfl ?_
    refine ggetF (pc' := 56) w363 d9_53 (hw _ (List.mem_of_getElem? (i := 39) rfl)) F370 rfl (fun T372 w373 => ?_)
    refine giloadN (pc' := 57) (Ls := #[.val (.ref a), .val (.int (8 : Int32)), .val (.int (4 : Int32)), .val (.int (3 : Int32))]) (rest := [(.int (1 : Int32)), (.ref a)]) w373 d9_56 rfl rfl ?_
    refine giadd (pc' := 58) w373 d9_57 rfl ?_
    refine gputF (pc' := 61) (v' := (.int ((1 : Int32) + (3 : Int32)))) (ty := .int) w373 d9_58 (hw _ (List.mem_of_getElem? (i := 39) rfl)) F370 E365 (Or.inl (hw _ (List.mem_of_getElem? (i := 40) rfl))) (hw _ (List.mem_of_getElem? (i := 1) rfl)) (by decide) rfl rfl ga rfl (fun T374 h375 w376 W377 => ?_)
    have E378 := E365.wr W377
    have F379 := F366.other W377 (Or.inr (slot_ne (t := .int) (t' := .int) (Or.inr (hw _ (List.mem_of_getElem? (i := 13) rfl))) (Or.inl (hw _ (List.mem_of_getElem? (i := 40) rfl))) (by decide) (by decide) (by decide)))
    have F380 := F367.other W377 (Or.inr (slot_ne (t := .boolean) (t' := .int) (Or.inr (hw _ (List.mem_of_getElem? (i := 15) rfl))) (Or.inl (hw _ (List.mem_of_getElem? (i := 40) rfl))) (by decide) (by decide) (by decide)))
    have F381 := F368.other W377 (Or.inr (slot_ne (t := .int) (t' := .int) (Or.inl (hw _ (List.mem_of_getElem? (i := 17) rfl))) (Or.inl (hw _ (List.mem_of_getElem? (i := 40) rfl))) (by decide) (by decide) (by decide)))
    have F382 := F369.other W377 (Or.inr (slot_ne (t := (.array .byte)) (t' := .int) (Or.inl (hw _ (List.mem_of_getElem? (i := 24) rfl))) (Or.inl (hw _ (List.mem_of_getElem? (i := 40) rfl))) (by decide) (by decide) (by decide)))
    have F383 := F370.same W377
    have V384 := VF_359.other W377 (Ne.symm nab_347)
    have z385 : n0 ≤ h375.size := by rw [W377.size]; exact z371
    exact gret0 w376 d9_61 (by decide) (by decide) ⟨rfl, b_347, z_347, ⟨E378, F379, F380, F381, F382, F383, own_Bpad V384, nab_347⟩, gb_347, z385⟩
set_option maxRecDepth 65536 in
set_option maxHeartbeats 4000000 in
theorem own_al8 (hw : ∀ d ∈ tables_1, d.before a0 Z = true) (a b : Addr) (z : Int32) (z0 : n0 ≤ h.size) (ga : n0 ≤ a) (gb : n0 ≤ b) (WT : own_WT Z h a b (8 : Int32) (1 : Int32) z) :
    Ctr l (⟨"com/example/halyard/halyard/wire/CdrWriter", "align", "(I)V"⟩ : MethodName) prog_115_method_8_code 4 none ({ frames := 3, cells := 1, slots := 32, locals := 96 } : Room) Z #[(.ref a), (.int (8 : Int32))] h n0 (fun v h' => v = none ∧ ∃ b' z', own_WT Z h' a b' (8 : Int32) (8 : Int32) z' ∧ n0 ≤ b' ∧ n0 ≤ h'.size) [] := by
  refine metGo (Ls := #[.val (.ref a), .val (.int (8 : Int32)), .unset, .unset]) pn_d9 (fun m => by first | rfl | (simp [entryFrame, mkF, argsToLocals, Value.category]; done) | (simp [entryFrame, mkF, argsToLocals, Value.category, maxLocals]; done)) ?_
  intro p e s m below meth c T w
  obtain ⟨E0, Fm, Fb, Fg, Fo, Fp, ⟨kb, vb, db, lb, Vb⟩, nab⟩ := WT
  refine giloadN (pc' := 1) (Ls := #[.val (.ref a), .val (.int (8 : Int32)), .unset, .unset]) (rest := []) w d9_0 rfl rfl ?_
  refine galoadN (pc' := 2) (Ls := #[.val (.ref a), .val (.int (8 : Int32)), .unset, .unset]) (rest := [(.int (8 : Int32))]) w d9_1 rfl rfl rfl ?_
  refine ggetF (pc' := 5) w d9_2 (hw _ (List.mem_of_getElem? (i := 12) rfl)) Fm rfl (fun T386 w387 => ?_)
  refine gcallS (pc' := 8) (argsL := [(.int (8 : Int32)), (.int (8 : Int32))]) (rest := []) (Wt := 0) w387 d9_5 (hw _ (List.mem_of_getElem? (i := 51) rfl)) (hw _ (List.mem_of_getElem? (i := 52) rfl)) (hw _ (List.mem_of_getElem? (i := 20) rfl)) (hw _ (List.mem_of_getElem? (i := 53) rfl)) (by decide) pd_d10 (own_cmin hw (8 : Int32) (8 : Int32)) rfl rfl rfl rfl (Nat.le_of_eq rfl) (by decide) (by decide) (by decide) (by decide) rfl (fun v388 T389 h390 w391 q392 => ?_)
  obtain ⟨rfl, eh⟩ := q392
  show Go _ _ _ _ _ _ _ _ _ (mkF m 8 #[.val (.ref a), .val (.int (8 : Int32)), .unset, .unset] [(.int (8 : Int32))])
  rw [eh] at w391
  refine gistoreN (pc' := 9) (Ls := #[.val (.ref a), .val (.int (8 : Int32)), .unset, .unset]) (Ls' := #[.val (.ref a), .val (.int (8 : Int32)), .val (.int (8 : Int32)), .unset]) (rest := []) w391 d9_8 rfl rfl ?_
  refine galoadN (pc' := 10) (Ls := #[.val (.ref a), .val (.int (8 : Int32)), .val (.int (8 : Int32)), .unset]) (rest := []) w391 d9_9 rfl rfl rfl ?_
  refine ggetF (pc' := 13) w391 d9_10 (hw _ (List.mem_of_getElem? (i := 39) rfl)) Fp rfl (fun T393 w394 => ?_)
  refine galoadN (pc' := 14) (Ls := #[.val (.ref a), .val (.int (8 : Int32)), .val (.int (8 : Int32)), .unset]) (rest := [(.int (1 : Int32))]) w394 d9_13 rfl rfl rfl ?_
  refine ggetF (pc' := 17) w394 d9_14 (hw _ (List.mem_of_getElem? (i := 16) rfl)) Fg rfl (fun T395 w396 => ?_)
  refine gisub (pc' := 18) w396 d9_17 rfl ?_
  refine gineg (pc' := 19) w396 d9_18 rfl ?_
  refine giloadN (pc' := 20) (Ls := #[.val (.ref a), .val (.int (8 : Int32)), .val (.int (8 : Int32)), .unset]) (rest := [(.int ((-((1 : Int32) - (0 : Int32)))))]) w396 d9_19 rfl rfl ?_
  refine giconst (v := (1 : Int32)) (pc' := 21) w396 d9_20 rfl rfl ?_
  refine gisub (pc' := 22) w396 d9_21 rfl ?_
  refine giand (pc' := 23) w396 d9_22 rfl ?_
  refine gistoreN (pc' := 24) (Ls := #[.val (.ref a), .val (.int (8 : Int32)), .val (.int (8 : Int32)), .unset]) (Ls' := #[.val (.ref a), .val (.int (8 : Int32)), .val (.int (8 : Int32)), .val (.int (7 : Int32))]) (rest := []) w396 d9_23 rfl rfl ?_
  refine giloadN (pc' := 25) (Ls := #[.val (.ref a), .val (.int (8 : Int32)), .val (.int (8 : Int32)), .val (.int (7 : Int32))]) (rest := []) w396 d9_24 rfl rfl ?_
  refine gif (pt := 61) (pf := 28) w396 d9_25  (by decide) rfl rfl (fun (c25 : ¬ (0 : Int32) < (7 : Int32)) => ?_) (fun (c25 : (0 : Int32) < (7 : Int32)) => ?_)
  · exact absurd c25 (by decide)
  · refine galoadN (pc' := 29) (Ls := #[.val (.ref a), .val (.int (8 : Int32)), .val (.int (8 : Int32)), .val (.int (7 : Int32))]) (rest := []) w396 d9_28 rfl rfl rfl ?_
    refine giloadN (pc' := 30) (Ls := #[.val (.ref a), .val (.int (8 : Int32)), .val (.int (8 : Int32)), .val (.int (7 : Int32))]) (rest := [(.ref a)]) w396 d9_29 rfl rfl ?_
    refine gcallP (pc' := 33) (argsL := [(.int (7 : Int32))]) (rest := []) (Wt := 0) w396 d9_30 (hw _ (List.mem_of_getElem? (i := 35) rfl)) (hw _ (List.mem_of_getElem? (i := 36) rfl)) (hw _ (List.mem_of_getElem? (i := 1) rfl)) (hw _ (List.mem_of_getElem? (i := 37) rfl)) (hw _ (List.mem_of_getElem? (i := 2) rfl)) (hw _ (List.mem_of_getElem? (i := 38) rfl)) E0 (by decide) pd_d7 (own_room1_7 hw a b (8 : Int32) z z0 ga gb ⟨E0, Fm, Fb, Fg, Fo, Fp, own_Bpad Vb, nab⟩) rfl rfl rfl rfl (Nat.le_of_eq rfl) (by decide) (by decide) (by decide) (by decide) rfl (fun v398 T399 h400 w401 q402 => ?_)
    obtain ⟨rfl, b_397, z_397, ⟨E0_397, Fm_397, Fb_397, Fg_397, Fo_397, Fp_397, ⟨kb_397, vb_397, db_397, lb_397, Vb_397⟩, nab_397⟩, hq_397, gb_397, zz_397⟩ := q402
    show Go _ _ _ _ _ _ _ _ _ (mkF m 33 #[.val (.ref a), .val (.int (8 : Int32)), .val (.int (8 : Int32)), .val (.int (7 : Int32))] [])
    refine galoadN (pc' := 34) (Ls := #[.val (.ref a), .val (.int (8 : Int32)), .val (.int (8 : Int32)), .val (.int (7 : Int32))]) (rest := []) w401 d9_33 rfl rfl rfl ?_
    refine ggetF (pc' := 37) w401 d9_34 (hw _ (List.mem_of_getElem? (i := 23) rfl)) Fo_397 rfl (fun T403 w404 => ?_)
    refine galoadN (pc' := 38) (Ls := #[.val (.ref a), .val (.int (8 : Int32)), .val (.int (8 : Int32)), .val (.int (7 : Int32))]) (rest := [(.ref b_397)]) w404 d9_37 rfl rfl rfl ?_
    refine ggetF (pc' := 41) w404 d9_38 (hw _ (List.mem_of_getElem? (i := 39) rfl)) Fp_397 rfl (fun T405 w406 => ?_)
    refine galoadN (pc' := 42) (Ls := #[.val (.ref a), .val (.int (8 : Int32)), .val (.int (8 : Int32)), .val (.int (7 : Int32))]) (rest := [(.int (1 : Int32)), (.ref b_397)]) w406 d9_41 rfl rfl rfl ?_
    refine ggetF (pc' := 45) w406 d9_42 (hw _ (List.mem_of_getElem? (i := 39) rfl)) Fp_397 rfl (fun T407 w408 => ?_)
    refine giloadN (pc' := 46) (Ls := #[.val (.ref a), .val (.int (8 : Int32)), .val (.int (8 : Int32)), .val (.int (7 : Int32))]) (rest := [(.int (1 : Int32)), (.int (1 : Int32)), (.ref b_397)]) w408 d9_45 rfl rfl ?_
    refine giadd (pc' := 47) w408 d9_46 rfl ?_
    refine giconst (v := (0 : Int32)) (pc' := 48) w408 d9_47 rfl rfl ?_
    refine gcallS (pc' := 51) (argsL := [(.ref b_397), (.int (1 : Int32)), (.int ((1 : Int32) + (7 : Int32))), (.int (0 : Int32))]) (rest := []) (Wt := 0) w408 d9_48 (hw _ (List.mem_of_getElem? (i := 54) rfl)) (hw _ (List.mem_of_getElem? (i := 55) rfl)) (hw _ (List.mem_of_getElem? (i := 56) rfl)) (hw _ (List.mem_of_getElem? (i := 57) rfl)) (by decide) pd_d11 (own_fill8 hw b_397 z_397 gb_397 hq_397 (own_Bpad Vb_397)) rfl rfl rfl rfl (Nat.le_of_eq rfl) (by decide) (by decide) (by decide) (by decide) rfl (fun v410 T411 h412 w413 q414 => ?_)
    obtain ⟨rfl, KF_409, BF_409⟩ := q414
    show Go _ _ _ _ _ _ _ _ _ (mkF m 51 #[.val (.ref a), .val (.int (8 : Int32)), .val (.int (8 : Int32)), .val (.int (7 : Int32))] [])
    have E415 := E0_397.keep KF_409
    have F416 := Fm_397.keep KF_409 (ninS nab_397 nin0)
    have F417 := Fb_397.keep KF_409 (ninS nab_397 nin0)
    have F418 := Fg_397.keep KF_409 (ninS nab_397 nin0)
    have F419 := Fo_397.keep KF_409 (ninS nab_397 nin0)
    have F420 := Fp_397.keep KF_409 (ninS nab_397 nin0)
    have z421 := Nat.le_trans zz_397 KF_409.1
    obtain ⟨kf_409, vf_409, df_409, lf_409, VF_409⟩ := BF_409
    refine galoadN (pc' := 52) (Ls := #[.val (.ref a), .val (.int (8 : Int32)), .val (.int (8 : Int32)), .val (.int (7 : Int32))]) (rest := []) w413 d9_51 rfl rfl rfl ?_
    refine gdup (pc' := 53) w413 d9_52 rfl rfl ?_
    refine ggetF (pc' := 56) w413 d9_53 (hw _ (List.mem_of_getElem? (i := 39) rfl)) F420 rfl (fun T422 w423 => ?_)
    refine giloadN (pc' := 57) (Ls := #[.val (.ref a), .val (.int (8 : Int32)), .val (.int (8 : Int32)), .val (.int (7 : Int32))]) (rest := [(.int (1 : Int32)), (.ref a)]) w423 d9_56 rfl rfl ?_
    refine giadd (pc' := 58) w423 d9_57 rfl ?_
    refine gputF (pc' := 61) (v' := (.int ((1 : Int32) + (7 : Int32)))) (ty := .int) w423 d9_58 (hw _ (List.mem_of_getElem? (i := 39) rfl)) F420 E415 (Or.inl (hw _ (List.mem_of_getElem? (i := 40) rfl))) (hw _ (List.mem_of_getElem? (i := 1) rfl)) (by decide) rfl rfl ga rfl (fun T424 h425 w426 W427 => ?_)
    have E428 := E415.wr W427
    have F429 := F416.other W427 (Or.inr (slot_ne (t := .int) (t' := .int) (Or.inr (hw _ (List.mem_of_getElem? (i := 13) rfl))) (Or.inl (hw _ (List.mem_of_getElem? (i := 40) rfl))) (by decide) (by decide) (by decide)))
    have F430 := F417.other W427 (Or.inr (slot_ne (t := .boolean) (t' := .int) (Or.inr (hw _ (List.mem_of_getElem? (i := 15) rfl))) (Or.inl (hw _ (List.mem_of_getElem? (i := 40) rfl))) (by decide) (by decide) (by decide)))
    have F431 := F418.other W427 (Or.inr (slot_ne (t := .int) (t' := .int) (Or.inl (hw _ (List.mem_of_getElem? (i := 17) rfl))) (Or.inl (hw _ (List.mem_of_getElem? (i := 40) rfl))) (by decide) (by decide) (by decide)))
    have F432 := F419.other W427 (Or.inr (slot_ne (t := (.array .byte)) (t' := .int) (Or.inl (hw _ (List.mem_of_getElem? (i := 24) rfl))) (Or.inl (hw _ (List.mem_of_getElem? (i := 40) rfl))) (by decide) (by decide) (by decide)))
    have F433 := F420.same W427
    have V434 := VF_409.other W427 (Ne.symm nab_397)
    have z435 : n0 ≤ h425.size := by rw [W427.size]; exact z421
    exact gret0 w426 d9_61 (by decide) (by decide) ⟨rfl, b_397, z_397, ⟨E428, F429, F430, F431, F432, F433, own_Bpad V434, nab_397⟩, gb_397, z435⟩
set_option maxRecDepth 65536 in
set_option maxHeartbeats 4000000 in
theorem own_put4 (hw : ∀ d ∈ tables_1, d.before a0 Z = true) (a b : Addr) (md p' z x : Int32) (z0 : n0 ≤ h.size) (gb : n0 ≤ b) (hz : ¬ z < (8 : Int32)) (WT : own_WT Z h a b md p' z) :
    Ctr l (⟨"com/example/halyard/halyard/wire/CdrWriter", "put", "(III)V"⟩ : MethodName) prog_115_method_38_code 6 none ({ frames := 0, cells := 0, slots := 0, locals := 0 } : Room) Z #[(.ref a), (.int (4 : Int32)), (.int x), (.int (4 : Int32))] h n0 (fun v h' => v = none ∧ own_WT Z h' a b md p' z ∧ n0 ≤ h'.size) [] := by
  refine metGo (Ls := #[.val (.ref a), .val (.int (4 : Int32)), .val (.int x), .val (.int (4 : Int32)), .unset, .unset]) pn_d13 (fun m => by first | rfl | (simp [entryFrame, mkF, argsToLocals, Value.category]; done) | (simp [entryFrame, mkF, argsToLocals, Value.category, maxLocals]; done)) ?_
  intro p e s m below meth c T w
  obtain ⟨E0, Fm, Fb, Fg, Fo, Fp, ⟨kb, vb, db, lb, Vb⟩, nab⟩ := WT
  refine giconst (v := (0 : Int32)) (pc' := 1) w d13_0 rfl rfl ?_
  refine gistore (pc' := 3) (Ls := #[.val (.ref a), .val (.int (4 : Int32)), .val (.int x), .val (.int (4 : Int32)), .unset, .unset]) (Ls' := #[.val (.ref a), .val (.int (4 : Int32)), .val (.int x), .val (.int (4 : Int32)), .val (.int (0 : Int32)), .unset]) (rest := []) w d13_1 rfl rfl ?_
  refine giload (pc' := 5) (Ls := #[.val (.ref a), .val (.int (4 : Int32)), .val (.int x), .val (.int (4 : Int32)), .val (.int (0 : Int32)), .unset]) (rest := []) w d13_3 rfl rfl ?_
  refine giloadN (pc' := 6) (Ls := #[.val (.ref a), .val (.int (4 : Int32)), .val (.int x), .val (.int (4 : Int32)), .val (.int (0 : Int32)), .unset]) (rest := [(.int (0 : Int32))]) w d13_5 rfl rfl ?_
  refine gicmp (pt := 52) (pf := 9) w d13_6  (by decide) rfl rfl (fun (c6 : ¬ (0 : Int32) < (4 : Int32)) => ?_) (fun (c6 : (0 : Int32) < (4 : Int32)) => ?_)
  · exact absurd c6 (by decide)
  · refine galoadN (pc' := 10) (Ls := #[.val (.ref a), .val (.int (4 : Int32)), .val (.int x), .val (.int (4 : Int32)), .val (.int (0 : Int32)), .unset]) (rest := []) w d13_9 rfl rfl rfl ?_
    refine ggetF (pc' := 13) w d13_10 (hw _ (List.mem_of_getElem? (i := 14) rfl)) Fb rfl (fun T436 w437 => ?_)
    refine gif (pt := 25) (pf := 16) w437 d13_13  (by decide) rfl rfl (fun (c13 : (0 : Int32) = (0 : Int32)) => ?_) (fun (c13 : ¬ (0 : Int32) = (0 : Int32)) => ?_)
    · refine giload (pc' := 27) (Ls := #[.val (.ref a), .val (.int (4 : Int32)), .val (.int x), .val (.int (4 : Int32)), .val (.int (0 : Int32)), .unset]) (rest := []) w437 d13_25 rfl rfl ?_
      refine gistore (pc' := 29) (Ls := #[.val (.ref a), .val (.int (4 : Int32)), .val (.int x), .val (.int (4 : Int32)), .val (.int (0 : Int32)), .unset]) (Ls' := #[.val (.ref a), .val (.int (4 : Int32)), .val (.int x), .val (.int (4 : Int32)), .val (.int (0 : Int32)), .val (.int (0 : Int32))]) (rest := []) w437 d13_27 rfl rfl ?_
      refine galoadN (pc' := 30) (Ls := #[.val (.ref a), .val (.int (4 : Int32)), .val (.int x), .val (.int (4 : Int32)), .val (.int (0 : Int32)), .val (.int (0 : Int32))]) (rest := []) w437 d13_29 rfl rfl rfl ?_
      refine ggetF (pc' := 33) w437 d13_30 (hw _ (List.mem_of_getElem? (i := 23) rfl)) Fo rfl (fun T438 w439 => ?_)
      refine giloadN (pc' := 34) (Ls := #[.val (.ref a), .val (.int (4 : Int32)), .val (.int x), .val (.int (4 : Int32)), .val (.int (0 : Int32)), .val (.int (0 : Int32))]) (rest := [(.ref b)]) w439 d13_33 rfl rfl ?_
      refine giload (pc' := 36) (Ls := #[.val (.ref a), .val (.int (4 : Int32)), .val (.int x), .val (.int (4 : Int32)), .val (.int (0 : Int32)), .val (.int (0 : Int32))]) (rest := [(.int (4 : Int32)), (.ref b)]) w439 d13_34 rfl rfl ?_
      refine giadd (pc' := 37) w439 d13_36 rfl ?_
      refine giloadN (pc' := 38) (Ls := #[.val (.ref a), .val (.int (4 : Int32)), .val (.int x), .val (.int (4 : Int32)), .val (.int (0 : Int32)), .val (.int (0 : Int32))]) (rest := [(.int ((4 : Int32) + (0 : Int32))), (.ref b)]) w439 d13_37 rfl rfl ?_
      refine gbipush (v := (8 : Int32)) (pc' := 40) w439 d13_38 rfl rfl ?_
      refine giload (pc' := 42) (Ls := #[.val (.ref a), .val (.int (4 : Int32)), .val (.int x), .val (.int (4 : Int32)), .val (.int (0 : Int32)), .val (.int (0 : Int32))]) (rest := [(.int (8 : Int32)), (.int x), (.int ((4 : Int32) + (0 : Int32))), (.ref b)]) w439 d13_40 rfl rfl ?_
      refine gimul (pc' := 43) w439 d13_42 rfl ?_
      refine giushr (pc' := 44) w439 d13_43 rfl ?_
      refine gi2b (pc' := 45) w439 d13_44 rfl ?_
      refine gbastore (pc' := 46) (x' := ((((x).toUInt32 >>> (((8 : Int32) * (0 : Int32)) &&& 31).toUInt32).toInt32).toInt8.toInt32)) w439 d13_45 (own_bb _) Vb (own_lt (by decide) (by decide) hz) (4) rfl (by first | exact (Nat.lt_of_lt_of_le (by decide) lb) | (simp only [List.length_set]; exact (Nat.lt_of_lt_of_le (by decide) lb))) gb rfl (fun T440 h441 w442 W443 V444 => ?_)
      have E446 := E0.wr W443
      have F447 := Fm.other W443 (Or.inl nab)
      have F448 := Fb.other W443 (Or.inl nab)
      have F449 := Fg.other W443 (Or.inl nab)
      have F450 := Fo.other W443 (Or.inl nab)
      have F451 := Fp.other W443 (Or.inl nab)
      have z452 : n0 ≤ h441.size := by rw [W443.size]; exact z0
      have V445 : Arv Z h441 b kb .byte z (vb.set 4 (.int ((((x).toUInt32 >>> (((8 : Int32) * (0 : Int32)) &&& 31).toUInt32).toInt32).toInt8.toInt32))) db := V444
      refine giinc (pc' := 49) (Ls := #[.val (.ref a), .val (.int (4 : Int32)), .val (.int x), .val (.int (4 : Int32)), .val (.int (0 : Int32)), .val (.int (0 : Int32))]) (Ls' := #[.val (.ref a), .val (.int (4 : Int32)), .val (.int x), .val (.int (4 : Int32)), .val (.int (1 : Int32)), .val (.int (0 : Int32))]) (rest := []) w442 d13_46 rfl rfl rfl ?_
      refine ggoto (pc' := 3) w442 d13_49 (by decide) rfl ?_
      refine giload (pc' := 5) (Ls := #[.val (.ref a), .val (.int (4 : Int32)), .val (.int x), .val (.int (4 : Int32)), .val (.int (1 : Int32)), .val (.int (0 : Int32))]) (rest := []) w442 d13_3 rfl rfl ?_
      refine giloadN (pc' := 6) (Ls := #[.val (.ref a), .val (.int (4 : Int32)), .val (.int x), .val (.int (4 : Int32)), .val (.int (1 : Int32)), .val (.int (0 : Int32))]) (rest := [(.int (1 : Int32))]) w442 d13_5 rfl rfl ?_
      refine gicmp (pt := 52) (pf := 9) w442 d13_6  (by decide) rfl rfl (fun (c6_1 : ¬ (1 : Int32) < (4 : Int32)) => ?_) (fun (c6_1 : (1 : Int32) < (4 : Int32)) => ?_)
      · exact absurd c6_1 (by decide)
      · refine galoadN (pc' := 10) (Ls := #[.val (.ref a), .val (.int (4 : Int32)), .val (.int x), .val (.int (4 : Int32)), .val (.int (1 : Int32)), .val (.int (0 : Int32))]) (rest := []) w442 d13_9 rfl rfl rfl ?_
        refine ggetF (pc' := 13) w442 d13_10 (hw _ (List.mem_of_getElem? (i := 14) rfl)) F448 rfl (fun T453 w454 => ?_)
        refine gif (pt := 25) (pf := 16) w454 d13_13  (by decide) rfl rfl (fun (c13_1 : (0 : Int32) = (0 : Int32)) => ?_) (fun (c13_1 : ¬ (0 : Int32) = (0 : Int32)) => ?_)
        · refine giload (pc' := 27) (Ls := #[.val (.ref a), .val (.int (4 : Int32)), .val (.int x), .val (.int (4 : Int32)), .val (.int (1 : Int32)), .val (.int (0 : Int32))]) (rest := []) w454 d13_25 rfl rfl ?_
          refine gistore (pc' := 29) (Ls := #[.val (.ref a), .val (.int (4 : Int32)), .val (.int x), .val (.int (4 : Int32)), .val (.int (1 : Int32)), .val (.int (0 : Int32))]) (Ls' := #[.val (.ref a), .val (.int (4 : Int32)), .val (.int x), .val (.int (4 : Int32)), .val (.int (1 : Int32)), .val (.int (1 : Int32))]) (rest := []) w454 d13_27 rfl rfl ?_
          refine galoadN (pc' := 30) (Ls := #[.val (.ref a), .val (.int (4 : Int32)), .val (.int x), .val (.int (4 : Int32)), .val (.int (1 : Int32)), .val (.int (1 : Int32))]) (rest := []) w454 d13_29 rfl rfl rfl ?_
          refine ggetF (pc' := 33) w454 d13_30 (hw _ (List.mem_of_getElem? (i := 23) rfl)) F450 rfl (fun T455 w456 => ?_)
          refine giloadN (pc' := 34) (Ls := #[.val (.ref a), .val (.int (4 : Int32)), .val (.int x), .val (.int (4 : Int32)), .val (.int (1 : Int32)), .val (.int (1 : Int32))]) (rest := [(.ref b)]) w456 d13_33 rfl rfl ?_
          refine giload (pc' := 36) (Ls := #[.val (.ref a), .val (.int (4 : Int32)), .val (.int x), .val (.int (4 : Int32)), .val (.int (1 : Int32)), .val (.int (1 : Int32))]) (rest := [(.int (4 : Int32)), (.ref b)]) w456 d13_34 rfl rfl ?_
          refine giadd (pc' := 37) w456 d13_36 rfl ?_
          refine giloadN (pc' := 38) (Ls := #[.val (.ref a), .val (.int (4 : Int32)), .val (.int x), .val (.int (4 : Int32)), .val (.int (1 : Int32)), .val (.int (1 : Int32))]) (rest := [(.int ((4 : Int32) + (1 : Int32))), (.ref b)]) w456 d13_37 rfl rfl ?_
          refine gbipush (v := (8 : Int32)) (pc' := 40) w456 d13_38 rfl rfl ?_
          refine giload (pc' := 42) (Ls := #[.val (.ref a), .val (.int (4 : Int32)), .val (.int x), .val (.int (4 : Int32)), .val (.int (1 : Int32)), .val (.int (1 : Int32))]) (rest := [(.int (8 : Int32)), (.int x), (.int ((4 : Int32) + (1 : Int32))), (.ref b)]) w456 d13_40 rfl rfl ?_
          refine gimul (pc' := 43) w456 d13_42 rfl ?_
          refine giushr (pc' := 44) w456 d13_43 rfl ?_
          refine gi2b (pc' := 45) w456 d13_44 rfl ?_
          refine gbastore (pc' := 46) (x' := ((((x).toUInt32 >>> (((8 : Int32) * (1 : Int32)) &&& 31).toUInt32).toInt32).toInt8.toInt32)) w456 d13_45 (own_bb _) V445 (own_lt (by decide) (by decide) hz) (5) rfl (by first | exact (Nat.lt_of_lt_of_le (by decide) lb) | (simp only [List.length_set]; exact (Nat.lt_of_lt_of_le (by decide) lb))) gb rfl (fun T457 h458 w459 W460 V461 => ?_)
          have E463 := E446.wr W460
          have F464 := F447.other W460 (Or.inl nab)
          have F465 := F448.other W460 (Or.inl nab)
          have F466 := F449.other W460 (Or.inl nab)
          have F467 := F450.other W460 (Or.inl nab)
          have F468 := F451.other W460 (Or.inl nab)
          have z469 : n0 ≤ h458.size := by rw [W460.size]; exact z452
          have V462 : Arv Z h458 b kb .byte z ((vb.set 4 (.int ((((x).toUInt32 >>> (((8 : Int32) * (0 : Int32)) &&& 31).toUInt32).toInt32).toInt8.toInt32))).set 5 (.int ((((x).toUInt32 >>> (((8 : Int32) * (1 : Int32)) &&& 31).toUInt32).toInt32).toInt8.toInt32))) db := V461
          refine giinc (pc' := 49) (Ls := #[.val (.ref a), .val (.int (4 : Int32)), .val (.int x), .val (.int (4 : Int32)), .val (.int (1 : Int32)), .val (.int (1 : Int32))]) (Ls' := #[.val (.ref a), .val (.int (4 : Int32)), .val (.int x), .val (.int (4 : Int32)), .val (.int (2 : Int32)), .val (.int (1 : Int32))]) (rest := []) w459 d13_46 rfl rfl rfl ?_
          refine ggoto (pc' := 3) w459 d13_49 (by decide) rfl ?_
          refine giload (pc' := 5) (Ls := #[.val (.ref a), .val (.int (4 : Int32)), .val (.int x), .val (.int (4 : Int32)), .val (.int (2 : Int32)), .val (.int (1 : Int32))]) (rest := []) w459 d13_3 rfl rfl ?_
          refine giloadN (pc' := 6) (Ls := #[.val (.ref a), .val (.int (4 : Int32)), .val (.int x), .val (.int (4 : Int32)), .val (.int (2 : Int32)), .val (.int (1 : Int32))]) (rest := [(.int (2 : Int32))]) w459 d13_5 rfl rfl ?_
          refine gicmp (pt := 52) (pf := 9) w459 d13_6  (by decide) rfl rfl (fun (c6_2 : ¬ (2 : Int32) < (4 : Int32)) => ?_) (fun (c6_2 : (2 : Int32) < (4 : Int32)) => ?_)
          · exact absurd c6_2 (by decide)
          · refine galoadN (pc' := 10) (Ls := #[.val (.ref a), .val (.int (4 : Int32)), .val (.int x), .val (.int (4 : Int32)), .val (.int (2 : Int32)), .val (.int (1 : Int32))]) (rest := []) w459 d13_9 rfl rfl rfl ?_
            refine ggetF (pc' := 13) w459 d13_10 (hw _ (List.mem_of_getElem? (i := 14) rfl)) F465 rfl (fun T470 w471 => ?_)
            refine gif (pt := 25) (pf := 16) w471 d13_13  (by decide) rfl rfl (fun (c13_2 : (0 : Int32) = (0 : Int32)) => ?_) (fun (c13_2 : ¬ (0 : Int32) = (0 : Int32)) => ?_)
            · refine giload (pc' := 27) (Ls := #[.val (.ref a), .val (.int (4 : Int32)), .val (.int x), .val (.int (4 : Int32)), .val (.int (2 : Int32)), .val (.int (1 : Int32))]) (rest := []) w471 d13_25 rfl rfl ?_
              refine gistore (pc' := 29) (Ls := #[.val (.ref a), .val (.int (4 : Int32)), .val (.int x), .val (.int (4 : Int32)), .val (.int (2 : Int32)), .val (.int (1 : Int32))]) (Ls' := #[.val (.ref a), .val (.int (4 : Int32)), .val (.int x), .val (.int (4 : Int32)), .val (.int (2 : Int32)), .val (.int (2 : Int32))]) (rest := []) w471 d13_27 rfl rfl ?_
              refine galoadN (pc' := 30) (Ls := #[.val (.ref a), .val (.int (4 : Int32)), .val (.int x), .val (.int (4 : Int32)), .val (.int (2 : Int32)), .val (.int (2 : Int32))]) (rest := []) w471 d13_29 rfl rfl rfl ?_
              refine ggetF (pc' := 33) w471 d13_30 (hw _ (List.mem_of_getElem? (i := 23) rfl)) F467 rfl (fun T472 w473 => ?_)
              refine giloadN (pc' := 34) (Ls := #[.val (.ref a), .val (.int (4 : Int32)), .val (.int x), .val (.int (4 : Int32)), .val (.int (2 : Int32)), .val (.int (2 : Int32))]) (rest := [(.ref b)]) w473 d13_33 rfl rfl ?_
              refine giload (pc' := 36) (Ls := #[.val (.ref a), .val (.int (4 : Int32)), .val (.int x), .val (.int (4 : Int32)), .val (.int (2 : Int32)), .val (.int (2 : Int32))]) (rest := [(.int (4 : Int32)), (.ref b)]) w473 d13_34 rfl rfl ?_
              refine giadd (pc' := 37) w473 d13_36 rfl ?_
              refine giloadN (pc' := 38) (Ls := #[.val (.ref a), .val (.int (4 : Int32)), .val (.int x), .val (.int (4 : Int32)), .val (.int (2 : Int32)), .val (.int (2 : Int32))]) (rest := [(.int ((4 : Int32) + (2 : Int32))), (.ref b)]) w473 d13_37 rfl rfl ?_
              refine gbipush (v := (8 : Int32)) (pc' := 40) w473 d13_38 rfl rfl ?_
              refine giload (pc' := 42) (Ls := #[.val (.ref a), .val (.int (4 : Int32)), .val (.int x), .val (.int (4 : Int32)), .val (.int (2 : Int32)), .val (.int (2 : Int32))]) (rest := [(.int (8 : Int32)), (.int x), (.int ((4 : Int32) + (2 : Int32))), (.ref b)]) w473 d13_40 rfl rfl ?_
              refine gimul (pc' := 43) w473 d13_42 rfl ?_
              refine giushr (pc' := 44) w473 d13_43 rfl ?_
              refine gi2b (pc' := 45) w473 d13_44 rfl ?_
              refine gbastore (pc' := 46) (x' := ((((x).toUInt32 >>> (((8 : Int32) * (2 : Int32)) &&& 31).toUInt32).toInt32).toInt8.toInt32)) w473 d13_45 (own_bb _) V462 (own_lt (by decide) (by decide) hz) (6) rfl (by first | exact (Nat.lt_of_lt_of_le (by decide) lb) | (simp only [List.length_set]; exact (Nat.lt_of_lt_of_le (by decide) lb))) gb rfl (fun T474 h475 w476 W477 V478 => ?_)
              have E480 := E463.wr W477
              have F481 := F464.other W477 (Or.inl nab)
              have F482 := F465.other W477 (Or.inl nab)
              have F483 := F466.other W477 (Or.inl nab)
              have F484 := F467.other W477 (Or.inl nab)
              have F485 := F468.other W477 (Or.inl nab)
              have z486 : n0 ≤ h475.size := by rw [W477.size]; exact z469
              have V479 : Arv Z h475 b kb .byte z (((vb.set 4 (.int ((((x).toUInt32 >>> (((8 : Int32) * (0 : Int32)) &&& 31).toUInt32).toInt32).toInt8.toInt32))).set 5 (.int ((((x).toUInt32 >>> (((8 : Int32) * (1 : Int32)) &&& 31).toUInt32).toInt32).toInt8.toInt32))).set 6 (.int ((((x).toUInt32 >>> (((8 : Int32) * (2 : Int32)) &&& 31).toUInt32).toInt32).toInt8.toInt32))) db := V478
              refine giinc (pc' := 49) (Ls := #[.val (.ref a), .val (.int (4 : Int32)), .val (.int x), .val (.int (4 : Int32)), .val (.int (2 : Int32)), .val (.int (2 : Int32))]) (Ls' := #[.val (.ref a), .val (.int (4 : Int32)), .val (.int x), .val (.int (4 : Int32)), .val (.int (3 : Int32)), .val (.int (2 : Int32))]) (rest := []) w476 d13_46 rfl rfl rfl ?_
              refine ggoto (pc' := 3) w476 d13_49 (by decide) rfl ?_
              refine giload (pc' := 5) (Ls := #[.val (.ref a), .val (.int (4 : Int32)), .val (.int x), .val (.int (4 : Int32)), .val (.int (3 : Int32)), .val (.int (2 : Int32))]) (rest := []) w476 d13_3 rfl rfl ?_
              refine giloadN (pc' := 6) (Ls := #[.val (.ref a), .val (.int (4 : Int32)), .val (.int x), .val (.int (4 : Int32)), .val (.int (3 : Int32)), .val (.int (2 : Int32))]) (rest := [(.int (3 : Int32))]) w476 d13_5 rfl rfl ?_
              refine gicmp (pt := 52) (pf := 9) w476 d13_6  (by decide) rfl rfl (fun (c6_3 : ¬ (3 : Int32) < (4 : Int32)) => ?_) (fun (c6_3 : (3 : Int32) < (4 : Int32)) => ?_)
              · exact absurd c6_3 (by decide)
              · refine galoadN (pc' := 10) (Ls := #[.val (.ref a), .val (.int (4 : Int32)), .val (.int x), .val (.int (4 : Int32)), .val (.int (3 : Int32)), .val (.int (2 : Int32))]) (rest := []) w476 d13_9 rfl rfl rfl ?_
                refine ggetF (pc' := 13) w476 d13_10 (hw _ (List.mem_of_getElem? (i := 14) rfl)) F482 rfl (fun T487 w488 => ?_)
                refine gif (pt := 25) (pf := 16) w488 d13_13  (by decide) rfl rfl (fun (c13_3 : (0 : Int32) = (0 : Int32)) => ?_) (fun (c13_3 : ¬ (0 : Int32) = (0 : Int32)) => ?_)
                · refine giload (pc' := 27) (Ls := #[.val (.ref a), .val (.int (4 : Int32)), .val (.int x), .val (.int (4 : Int32)), .val (.int (3 : Int32)), .val (.int (2 : Int32))]) (rest := []) w488 d13_25 rfl rfl ?_
                  refine gistore (pc' := 29) (Ls := #[.val (.ref a), .val (.int (4 : Int32)), .val (.int x), .val (.int (4 : Int32)), .val (.int (3 : Int32)), .val (.int (2 : Int32))]) (Ls' := #[.val (.ref a), .val (.int (4 : Int32)), .val (.int x), .val (.int (4 : Int32)), .val (.int (3 : Int32)), .val (.int (3 : Int32))]) (rest := []) w488 d13_27 rfl rfl ?_
                  refine galoadN (pc' := 30) (Ls := #[.val (.ref a), .val (.int (4 : Int32)), .val (.int x), .val (.int (4 : Int32)), .val (.int (3 : Int32)), .val (.int (3 : Int32))]) (rest := []) w488 d13_29 rfl rfl rfl ?_
                  refine ggetF (pc' := 33) w488 d13_30 (hw _ (List.mem_of_getElem? (i := 23) rfl)) F484 rfl (fun T489 w490 => ?_)
                  refine giloadN (pc' := 34) (Ls := #[.val (.ref a), .val (.int (4 : Int32)), .val (.int x), .val (.int (4 : Int32)), .val (.int (3 : Int32)), .val (.int (3 : Int32))]) (rest := [(.ref b)]) w490 d13_33 rfl rfl ?_
                  refine giload (pc' := 36) (Ls := #[.val (.ref a), .val (.int (4 : Int32)), .val (.int x), .val (.int (4 : Int32)), .val (.int (3 : Int32)), .val (.int (3 : Int32))]) (rest := [(.int (4 : Int32)), (.ref b)]) w490 d13_34 rfl rfl ?_
                  refine giadd (pc' := 37) w490 d13_36 rfl ?_
                  refine giloadN (pc' := 38) (Ls := #[.val (.ref a), .val (.int (4 : Int32)), .val (.int x), .val (.int (4 : Int32)), .val (.int (3 : Int32)), .val (.int (3 : Int32))]) (rest := [(.int ((4 : Int32) + (3 : Int32))), (.ref b)]) w490 d13_37 rfl rfl ?_
                  refine gbipush (v := (8 : Int32)) (pc' := 40) w490 d13_38 rfl rfl ?_
                  refine giload (pc' := 42) (Ls := #[.val (.ref a), .val (.int (4 : Int32)), .val (.int x), .val (.int (4 : Int32)), .val (.int (3 : Int32)), .val (.int (3 : Int32))]) (rest := [(.int (8 : Int32)), (.int x), (.int ((4 : Int32) + (3 : Int32))), (.ref b)]) w490 d13_40 rfl rfl ?_
                  refine gimul (pc' := 43) w490 d13_42 rfl ?_
                  refine giushr (pc' := 44) w490 d13_43 rfl ?_
                  refine gi2b (pc' := 45) w490 d13_44 rfl ?_
                  refine gbastore (pc' := 46) (x' := ((((x).toUInt32 >>> (((8 : Int32) * (3 : Int32)) &&& 31).toUInt32).toInt32).toInt8.toInt32)) w490 d13_45 (own_bb _) V479 (own_lt (by decide) (by decide) hz) (7) rfl (by first | exact (Nat.lt_of_lt_of_le (by decide) lb) | (simp only [List.length_set]; exact (Nat.lt_of_lt_of_le (by decide) lb))) gb rfl (fun T491 h492 w493 W494 V495 => ?_)
                  have E497 := E480.wr W494
                  have F498 := F481.other W494 (Or.inl nab)
                  have F499 := F482.other W494 (Or.inl nab)
                  have F500 := F483.other W494 (Or.inl nab)
                  have F501 := F484.other W494 (Or.inl nab)
                  have F502 := F485.other W494 (Or.inl nab)
                  have z503 : n0 ≤ h492.size := by rw [W494.size]; exact z486
                  have V496 : Arv Z h492 b kb .byte z ((((vb.set 4 (.int ((((x).toUInt32 >>> (((8 : Int32) * (0 : Int32)) &&& 31).toUInt32).toInt32).toInt8.toInt32))).set 5 (.int ((((x).toUInt32 >>> (((8 : Int32) * (1 : Int32)) &&& 31).toUInt32).toInt32).toInt8.toInt32))).set 6 (.int ((((x).toUInt32 >>> (((8 : Int32) * (2 : Int32)) &&& 31).toUInt32).toInt32).toInt8.toInt32))).set 7 (.int ((((x).toUInt32 >>> (((8 : Int32) * (3 : Int32)) &&& 31).toUInt32).toInt32).toInt8.toInt32))) db := V495
                  refine giinc (pc' := 49) (Ls := #[.val (.ref a), .val (.int (4 : Int32)), .val (.int x), .val (.int (4 : Int32)), .val (.int (3 : Int32)), .val (.int (3 : Int32))]) (Ls' := #[.val (.ref a), .val (.int (4 : Int32)), .val (.int x), .val (.int (4 : Int32)), .val (.int (4 : Int32)), .val (.int (3 : Int32))]) (rest := []) w493 d13_46 rfl rfl rfl ?_
                  refine ggoto (pc' := 3) w493 d13_49 (by decide) rfl ?_
                  refine giload (pc' := 5) (Ls := #[.val (.ref a), .val (.int (4 : Int32)), .val (.int x), .val (.int (4 : Int32)), .val (.int (4 : Int32)), .val (.int (3 : Int32))]) (rest := []) w493 d13_3 rfl rfl ?_
                  refine giloadN (pc' := 6) (Ls := #[.val (.ref a), .val (.int (4 : Int32)), .val (.int x), .val (.int (4 : Int32)), .val (.int (4 : Int32)), .val (.int (3 : Int32))]) (rest := [(.int (4 : Int32))]) w493 d13_5 rfl rfl ?_
                  refine gicmp (pt := 52) (pf := 9) w493 d13_6  (by decide) rfl rfl (fun (c6_4 : ¬ (4 : Int32) < (4 : Int32)) => ?_) (fun (c6_4 : (4 : Int32) < (4 : Int32)) => ?_)
                  · exact gret0 w493 d13_52 (by decide) (by decide) ⟨rfl, ⟨E497, F498, F499, F500, F501, F502, own_Bpad V496, nab⟩, z503⟩
                  · exact absurd c6_4 (by decide)
                · exact absurd c13_3 (by decide)
            · exact absurd c13_2 (by decide)
        · exact absurd c13_1 (by decide)
    · exact absurd c13 (by decide)
set_option maxRecDepth 65536 in
set_option maxHeartbeats 4000000 in
theorem own_put8 (hw : ∀ d ∈ tables_1, d.before a0 Z = true) (a b : Addr) (md p' z x : Int32) (z0 : n0 ≤ h.size) (gb : n0 ≤ b) (hz : ¬ z < (12 : Int32)) (WT : own_WT Z h a b md p' z) :
    Ctr l (⟨"com/example/halyard/halyard/wire/CdrWriter", "put", "(III)V"⟩ : MethodName) prog_115_method_38_code 6 none ({ frames := 0, cells := 0, slots := 0, locals := 0 } : Room) Z #[(.ref a), (.int (8 : Int32)), (.int x), (.int (4 : Int32))] h n0 (fun v h' => v = none ∧ own_WT Z h' a b md p' z ∧ n0 ≤ h'.size) [] := by
  refine metGo (Ls := #[.val (.ref a), .val (.int (8 : Int32)), .val (.int x), .val (.int (4 : Int32)), .unset, .unset]) pn_d13 (fun m => by first | rfl | (simp [entryFrame, mkF, argsToLocals, Value.category]; done) | (simp [entryFrame, mkF, argsToLocals, Value.category, maxLocals]; done)) ?_
  intro p e s m below meth c T w
  obtain ⟨E0, Fm, Fb, Fg, Fo, Fp, ⟨kb, vb, db, lb, Vb⟩, nab⟩ := WT
  refine giconst (v := (0 : Int32)) (pc' := 1) w d13_0 rfl rfl ?_
  refine gistore (pc' := 3) (Ls := #[.val (.ref a), .val (.int (8 : Int32)), .val (.int x), .val (.int (4 : Int32)), .unset, .unset]) (Ls' := #[.val (.ref a), .val (.int (8 : Int32)), .val (.int x), .val (.int (4 : Int32)), .val (.int (0 : Int32)), .unset]) (rest := []) w d13_1 rfl rfl ?_
  refine giload (pc' := 5) (Ls := #[.val (.ref a), .val (.int (8 : Int32)), .val (.int x), .val (.int (4 : Int32)), .val (.int (0 : Int32)), .unset]) (rest := []) w d13_3 rfl rfl ?_
  refine giloadN (pc' := 6) (Ls := #[.val (.ref a), .val (.int (8 : Int32)), .val (.int x), .val (.int (4 : Int32)), .val (.int (0 : Int32)), .unset]) (rest := [(.int (0 : Int32))]) w d13_5 rfl rfl ?_
  refine gicmp (pt := 52) (pf := 9) w d13_6  (by decide) rfl rfl (fun (c6 : ¬ (0 : Int32) < (4 : Int32)) => ?_) (fun (c6 : (0 : Int32) < (4 : Int32)) => ?_)
  · exact absurd c6 (by decide)
  · refine galoadN (pc' := 10) (Ls := #[.val (.ref a), .val (.int (8 : Int32)), .val (.int x), .val (.int (4 : Int32)), .val (.int (0 : Int32)), .unset]) (rest := []) w d13_9 rfl rfl rfl ?_
    refine ggetF (pc' := 13) w d13_10 (hw _ (List.mem_of_getElem? (i := 14) rfl)) Fb rfl (fun T504 w505 => ?_)
    refine gif (pt := 25) (pf := 16) w505 d13_13  (by decide) rfl rfl (fun (c13 : (0 : Int32) = (0 : Int32)) => ?_) (fun (c13 : ¬ (0 : Int32) = (0 : Int32)) => ?_)
    · refine giload (pc' := 27) (Ls := #[.val (.ref a), .val (.int (8 : Int32)), .val (.int x), .val (.int (4 : Int32)), .val (.int (0 : Int32)), .unset]) (rest := []) w505 d13_25 rfl rfl ?_
      refine gistore (pc' := 29) (Ls := #[.val (.ref a), .val (.int (8 : Int32)), .val (.int x), .val (.int (4 : Int32)), .val (.int (0 : Int32)), .unset]) (Ls' := #[.val (.ref a), .val (.int (8 : Int32)), .val (.int x), .val (.int (4 : Int32)), .val (.int (0 : Int32)), .val (.int (0 : Int32))]) (rest := []) w505 d13_27 rfl rfl ?_
      refine galoadN (pc' := 30) (Ls := #[.val (.ref a), .val (.int (8 : Int32)), .val (.int x), .val (.int (4 : Int32)), .val (.int (0 : Int32)), .val (.int (0 : Int32))]) (rest := []) w505 d13_29 rfl rfl rfl ?_
      refine ggetF (pc' := 33) w505 d13_30 (hw _ (List.mem_of_getElem? (i := 23) rfl)) Fo rfl (fun T506 w507 => ?_)
      refine giloadN (pc' := 34) (Ls := #[.val (.ref a), .val (.int (8 : Int32)), .val (.int x), .val (.int (4 : Int32)), .val (.int (0 : Int32)), .val (.int (0 : Int32))]) (rest := [(.ref b)]) w507 d13_33 rfl rfl ?_
      refine giload (pc' := 36) (Ls := #[.val (.ref a), .val (.int (8 : Int32)), .val (.int x), .val (.int (4 : Int32)), .val (.int (0 : Int32)), .val (.int (0 : Int32))]) (rest := [(.int (8 : Int32)), (.ref b)]) w507 d13_34 rfl rfl ?_
      refine giadd (pc' := 37) w507 d13_36 rfl ?_
      refine giloadN (pc' := 38) (Ls := #[.val (.ref a), .val (.int (8 : Int32)), .val (.int x), .val (.int (4 : Int32)), .val (.int (0 : Int32)), .val (.int (0 : Int32))]) (rest := [(.int ((8 : Int32) + (0 : Int32))), (.ref b)]) w507 d13_37 rfl rfl ?_
      refine gbipush (v := (8 : Int32)) (pc' := 40) w507 d13_38 rfl rfl ?_
      refine giload (pc' := 42) (Ls := #[.val (.ref a), .val (.int (8 : Int32)), .val (.int x), .val (.int (4 : Int32)), .val (.int (0 : Int32)), .val (.int (0 : Int32))]) (rest := [(.int (8 : Int32)), (.int x), (.int ((8 : Int32) + (0 : Int32))), (.ref b)]) w507 d13_40 rfl rfl ?_
      refine gimul (pc' := 43) w507 d13_42 rfl ?_
      refine giushr (pc' := 44) w507 d13_43 rfl ?_
      refine gi2b (pc' := 45) w507 d13_44 rfl ?_
      refine gbastore (pc' := 46) (x' := ((((x).toUInt32 >>> (((8 : Int32) * (0 : Int32)) &&& 31).toUInt32).toInt32).toInt8.toInt32)) w507 d13_45 (own_bb _) Vb (own_lt (by decide) (by decide) hz) (8) rfl (by first | exact (Nat.lt_of_lt_of_le (by decide) lb) | (simp only [List.length_set]; exact (Nat.lt_of_lt_of_le (by decide) lb))) gb rfl (fun T508 h509 w510 W511 V512 => ?_)
      have E514 := E0.wr W511
      have F515 := Fm.other W511 (Or.inl nab)
      have F516 := Fb.other W511 (Or.inl nab)
      have F517 := Fg.other W511 (Or.inl nab)
      have F518 := Fo.other W511 (Or.inl nab)
      have F519 := Fp.other W511 (Or.inl nab)
      have z520 : n0 ≤ h509.size := by rw [W511.size]; exact z0
      have V513 : Arv Z h509 b kb .byte z (vb.set 8 (.int ((((x).toUInt32 >>> (((8 : Int32) * (0 : Int32)) &&& 31).toUInt32).toInt32).toInt8.toInt32))) db := V512
      refine giinc (pc' := 49) (Ls := #[.val (.ref a), .val (.int (8 : Int32)), .val (.int x), .val (.int (4 : Int32)), .val (.int (0 : Int32)), .val (.int (0 : Int32))]) (Ls' := #[.val (.ref a), .val (.int (8 : Int32)), .val (.int x), .val (.int (4 : Int32)), .val (.int (1 : Int32)), .val (.int (0 : Int32))]) (rest := []) w510 d13_46 rfl rfl rfl ?_
      refine ggoto (pc' := 3) w510 d13_49 (by decide) rfl ?_
      refine giload (pc' := 5) (Ls := #[.val (.ref a), .val (.int (8 : Int32)), .val (.int x), .val (.int (4 : Int32)), .val (.int (1 : Int32)), .val (.int (0 : Int32))]) (rest := []) w510 d13_3 rfl rfl ?_
      refine giloadN (pc' := 6) (Ls := #[.val (.ref a), .val (.int (8 : Int32)), .val (.int x), .val (.int (4 : Int32)), .val (.int (1 : Int32)), .val (.int (0 : Int32))]) (rest := [(.int (1 : Int32))]) w510 d13_5 rfl rfl ?_
      refine gicmp (pt := 52) (pf := 9) w510 d13_6  (by decide) rfl rfl (fun (c6_1 : ¬ (1 : Int32) < (4 : Int32)) => ?_) (fun (c6_1 : (1 : Int32) < (4 : Int32)) => ?_)
      · exact absurd c6_1 (by decide)
      · refine galoadN (pc' := 10) (Ls := #[.val (.ref a), .val (.int (8 : Int32)), .val (.int x), .val (.int (4 : Int32)), .val (.int (1 : Int32)), .val (.int (0 : Int32))]) (rest := []) w510 d13_9 rfl rfl rfl ?_
        refine ggetF (pc' := 13) w510 d13_10 (hw _ (List.mem_of_getElem? (i := 14) rfl)) F516 rfl (fun T521 w522 => ?_)
        refine gif (pt := 25) (pf := 16) w522 d13_13  (by decide) rfl rfl (fun (c13_1 : (0 : Int32) = (0 : Int32)) => ?_) (fun (c13_1 : ¬ (0 : Int32) = (0 : Int32)) => ?_)
        · refine giload (pc' := 27) (Ls := #[.val (.ref a), .val (.int (8 : Int32)), .val (.int x), .val (.int (4 : Int32)), .val (.int (1 : Int32)), .val (.int (0 : Int32))]) (rest := []) w522 d13_25 rfl rfl ?_
          refine gistore (pc' := 29) (Ls := #[.val (.ref a), .val (.int (8 : Int32)), .val (.int x), .val (.int (4 : Int32)), .val (.int (1 : Int32)), .val (.int (0 : Int32))]) (Ls' := #[.val (.ref a), .val (.int (8 : Int32)), .val (.int x), .val (.int (4 : Int32)), .val (.int (1 : Int32)), .val (.int (1 : Int32))]) (rest := []) w522 d13_27 rfl rfl ?_
          refine galoadN (pc' := 30) (Ls := #[.val (.ref a), .val (.int (8 : Int32)), .val (.int x), .val (.int (4 : Int32)), .val (.int (1 : Int32)), .val (.int (1 : Int32))]) (rest := []) w522 d13_29 rfl rfl rfl ?_
          refine ggetF (pc' := 33) w522 d13_30 (hw _ (List.mem_of_getElem? (i := 23) rfl)) F518 rfl (fun T523 w524 => ?_)
          refine giloadN (pc' := 34) (Ls := #[.val (.ref a), .val (.int (8 : Int32)), .val (.int x), .val (.int (4 : Int32)), .val (.int (1 : Int32)), .val (.int (1 : Int32))]) (rest := [(.ref b)]) w524 d13_33 rfl rfl ?_
          refine giload (pc' := 36) (Ls := #[.val (.ref a), .val (.int (8 : Int32)), .val (.int x), .val (.int (4 : Int32)), .val (.int (1 : Int32)), .val (.int (1 : Int32))]) (rest := [(.int (8 : Int32)), (.ref b)]) w524 d13_34 rfl rfl ?_
          refine giadd (pc' := 37) w524 d13_36 rfl ?_
          refine giloadN (pc' := 38) (Ls := #[.val (.ref a), .val (.int (8 : Int32)), .val (.int x), .val (.int (4 : Int32)), .val (.int (1 : Int32)), .val (.int (1 : Int32))]) (rest := [(.int ((8 : Int32) + (1 : Int32))), (.ref b)]) w524 d13_37 rfl rfl ?_
          refine gbipush (v := (8 : Int32)) (pc' := 40) w524 d13_38 rfl rfl ?_
          refine giload (pc' := 42) (Ls := #[.val (.ref a), .val (.int (8 : Int32)), .val (.int x), .val (.int (4 : Int32)), .val (.int (1 : Int32)), .val (.int (1 : Int32))]) (rest := [(.int (8 : Int32)), (.int x), (.int ((8 : Int32) + (1 : Int32))), (.ref b)]) w524 d13_40 rfl rfl ?_
          refine gimul (pc' := 43) w524 d13_42 rfl ?_
          refine giushr (pc' := 44) w524 d13_43 rfl ?_
          refine gi2b (pc' := 45) w524 d13_44 rfl ?_
          refine gbastore (pc' := 46) (x' := ((((x).toUInt32 >>> (((8 : Int32) * (1 : Int32)) &&& 31).toUInt32).toInt32).toInt8.toInt32)) w524 d13_45 (own_bb _) V513 (own_lt (by decide) (by decide) hz) (9) rfl (by first | exact (Nat.lt_of_lt_of_le (by decide) lb) | (simp only [List.length_set]; exact (Nat.lt_of_lt_of_le (by decide) lb))) gb rfl (fun T525 h526 w527 W528 V529 => ?_)
          have E531 := E514.wr W528
          have F532 := F515.other W528 (Or.inl nab)
          have F533 := F516.other W528 (Or.inl nab)
          have F534 := F517.other W528 (Or.inl nab)
          have F535 := F518.other W528 (Or.inl nab)
          have F536 := F519.other W528 (Or.inl nab)
          have z537 : n0 ≤ h526.size := by rw [W528.size]; exact z520
          have V530 : Arv Z h526 b kb .byte z ((vb.set 8 (.int ((((x).toUInt32 >>> (((8 : Int32) * (0 : Int32)) &&& 31).toUInt32).toInt32).toInt8.toInt32))).set 9 (.int ((((x).toUInt32 >>> (((8 : Int32) * (1 : Int32)) &&& 31).toUInt32).toInt32).toInt8.toInt32))) db := V529
          refine giinc (pc' := 49) (Ls := #[.val (.ref a), .val (.int (8 : Int32)), .val (.int x), .val (.int (4 : Int32)), .val (.int (1 : Int32)), .val (.int (1 : Int32))]) (Ls' := #[.val (.ref a), .val (.int (8 : Int32)), .val (.int x), .val (.int (4 : Int32)), .val (.int (2 : Int32)), .val (.int (1 : Int32))]) (rest := []) w527 d13_46 rfl rfl rfl ?_
          refine ggoto (pc' := 3) w527 d13_49 (by decide) rfl ?_
          refine giload (pc' := 5) (Ls := #[.val (.ref a), .val (.int (8 : Int32)), .val (.int x), .val (.int (4 : Int32)), .val (.int (2 : Int32)), .val (.int (1 : Int32))]) (rest := []) w527 d13_3 rfl rfl ?_
          refine giloadN (pc' := 6) (Ls := #[.val (.ref a), .val (.int (8 : Int32)), .val (.int x), .val (.int (4 : Int32)), .val (.int (2 : Int32)), .val (.int (1 : Int32))]) (rest := [(.int (2 : Int32))]) w527 d13_5 rfl rfl ?_
          refine gicmp (pt := 52) (pf := 9) w527 d13_6  (by decide) rfl rfl (fun (c6_2 : ¬ (2 : Int32) < (4 : Int32)) => ?_) (fun (c6_2 : (2 : Int32) < (4 : Int32)) => ?_)
          · exact absurd c6_2 (by decide)
          · refine galoadN (pc' := 10) (Ls := #[.val (.ref a), .val (.int (8 : Int32)), .val (.int x), .val (.int (4 : Int32)), .val (.int (2 : Int32)), .val (.int (1 : Int32))]) (rest := []) w527 d13_9 rfl rfl rfl ?_
            refine ggetF (pc' := 13) w527 d13_10 (hw _ (List.mem_of_getElem? (i := 14) rfl)) F533 rfl (fun T538 w539 => ?_)
            refine gif (pt := 25) (pf := 16) w539 d13_13  (by decide) rfl rfl (fun (c13_2 : (0 : Int32) = (0 : Int32)) => ?_) (fun (c13_2 : ¬ (0 : Int32) = (0 : Int32)) => ?_)
            · refine giload (pc' := 27) (Ls := #[.val (.ref a), .val (.int (8 : Int32)), .val (.int x), .val (.int (4 : Int32)), .val (.int (2 : Int32)), .val (.int (1 : Int32))]) (rest := []) w539 d13_25 rfl rfl ?_
              refine gistore (pc' := 29) (Ls := #[.val (.ref a), .val (.int (8 : Int32)), .val (.int x), .val (.int (4 : Int32)), .val (.int (2 : Int32)), .val (.int (1 : Int32))]) (Ls' := #[.val (.ref a), .val (.int (8 : Int32)), .val (.int x), .val (.int (4 : Int32)), .val (.int (2 : Int32)), .val (.int (2 : Int32))]) (rest := []) w539 d13_27 rfl rfl ?_
              refine galoadN (pc' := 30) (Ls := #[.val (.ref a), .val (.int (8 : Int32)), .val (.int x), .val (.int (4 : Int32)), .val (.int (2 : Int32)), .val (.int (2 : Int32))]) (rest := []) w539 d13_29 rfl rfl rfl ?_
              refine ggetF (pc' := 33) w539 d13_30 (hw _ (List.mem_of_getElem? (i := 23) rfl)) F535 rfl (fun T540 w541 => ?_)
              refine giloadN (pc' := 34) (Ls := #[.val (.ref a), .val (.int (8 : Int32)), .val (.int x), .val (.int (4 : Int32)), .val (.int (2 : Int32)), .val (.int (2 : Int32))]) (rest := [(.ref b)]) w541 d13_33 rfl rfl ?_
              refine giload (pc' := 36) (Ls := #[.val (.ref a), .val (.int (8 : Int32)), .val (.int x), .val (.int (4 : Int32)), .val (.int (2 : Int32)), .val (.int (2 : Int32))]) (rest := [(.int (8 : Int32)), (.ref b)]) w541 d13_34 rfl rfl ?_
              refine giadd (pc' := 37) w541 d13_36 rfl ?_
              refine giloadN (pc' := 38) (Ls := #[.val (.ref a), .val (.int (8 : Int32)), .val (.int x), .val (.int (4 : Int32)), .val (.int (2 : Int32)), .val (.int (2 : Int32))]) (rest := [(.int ((8 : Int32) + (2 : Int32))), (.ref b)]) w541 d13_37 rfl rfl ?_
              refine gbipush (v := (8 : Int32)) (pc' := 40) w541 d13_38 rfl rfl ?_
              refine giload (pc' := 42) (Ls := #[.val (.ref a), .val (.int (8 : Int32)), .val (.int x), .val (.int (4 : Int32)), .val (.int (2 : Int32)), .val (.int (2 : Int32))]) (rest := [(.int (8 : Int32)), (.int x), (.int ((8 : Int32) + (2 : Int32))), (.ref b)]) w541 d13_40 rfl rfl ?_
              refine gimul (pc' := 43) w541 d13_42 rfl ?_
              refine giushr (pc' := 44) w541 d13_43 rfl ?_
              refine gi2b (pc' := 45) w541 d13_44 rfl ?_
              refine gbastore (pc' := 46) (x' := ((((x).toUInt32 >>> (((8 : Int32) * (2 : Int32)) &&& 31).toUInt32).toInt32).toInt8.toInt32)) w541 d13_45 (own_bb _) V530 (own_lt (by decide) (by decide) hz) (10) rfl (by first | exact (Nat.lt_of_lt_of_le (by decide) lb) | (simp only [List.length_set]; exact (Nat.lt_of_lt_of_le (by decide) lb))) gb rfl (fun T542 h543 w544 W545 V546 => ?_)
              have E548 := E531.wr W545
              have F549 := F532.other W545 (Or.inl nab)
              have F550 := F533.other W545 (Or.inl nab)
              have F551 := F534.other W545 (Or.inl nab)
              have F552 := F535.other W545 (Or.inl nab)
              have F553 := F536.other W545 (Or.inl nab)
              have z554 : n0 ≤ h543.size := by rw [W545.size]; exact z537
              have V547 : Arv Z h543 b kb .byte z (((vb.set 8 (.int ((((x).toUInt32 >>> (((8 : Int32) * (0 : Int32)) &&& 31).toUInt32).toInt32).toInt8.toInt32))).set 9 (.int ((((x).toUInt32 >>> (((8 : Int32) * (1 : Int32)) &&& 31).toUInt32).toInt32).toInt8.toInt32))).set 10 (.int ((((x).toUInt32 >>> (((8 : Int32) * (2 : Int32)) &&& 31).toUInt32).toInt32).toInt8.toInt32))) db := V546
              refine giinc (pc' := 49) (Ls := #[.val (.ref a), .val (.int (8 : Int32)), .val (.int x), .val (.int (4 : Int32)), .val (.int (2 : Int32)), .val (.int (2 : Int32))]) (Ls' := #[.val (.ref a), .val (.int (8 : Int32)), .val (.int x), .val (.int (4 : Int32)), .val (.int (3 : Int32)), .val (.int (2 : Int32))]) (rest := []) w544 d13_46 rfl rfl rfl ?_
              refine ggoto (pc' := 3) w544 d13_49 (by decide) rfl ?_
              refine giload (pc' := 5) (Ls := #[.val (.ref a), .val (.int (8 : Int32)), .val (.int x), .val (.int (4 : Int32)), .val (.int (3 : Int32)), .val (.int (2 : Int32))]) (rest := []) w544 d13_3 rfl rfl ?_
              refine giloadN (pc' := 6) (Ls := #[.val (.ref a), .val (.int (8 : Int32)), .val (.int x), .val (.int (4 : Int32)), .val (.int (3 : Int32)), .val (.int (2 : Int32))]) (rest := [(.int (3 : Int32))]) w544 d13_5 rfl rfl ?_
              refine gicmp (pt := 52) (pf := 9) w544 d13_6  (by decide) rfl rfl (fun (c6_3 : ¬ (3 : Int32) < (4 : Int32)) => ?_) (fun (c6_3 : (3 : Int32) < (4 : Int32)) => ?_)
              · exact absurd c6_3 (by decide)
              · refine galoadN (pc' := 10) (Ls := #[.val (.ref a), .val (.int (8 : Int32)), .val (.int x), .val (.int (4 : Int32)), .val (.int (3 : Int32)), .val (.int (2 : Int32))]) (rest := []) w544 d13_9 rfl rfl rfl ?_
                refine ggetF (pc' := 13) w544 d13_10 (hw _ (List.mem_of_getElem? (i := 14) rfl)) F550 rfl (fun T555 w556 => ?_)
                refine gif (pt := 25) (pf := 16) w556 d13_13  (by decide) rfl rfl (fun (c13_3 : (0 : Int32) = (0 : Int32)) => ?_) (fun (c13_3 : ¬ (0 : Int32) = (0 : Int32)) => ?_)
                · refine giload (pc' := 27) (Ls := #[.val (.ref a), .val (.int (8 : Int32)), .val (.int x), .val (.int (4 : Int32)), .val (.int (3 : Int32)), .val (.int (2 : Int32))]) (rest := []) w556 d13_25 rfl rfl ?_
                  refine gistore (pc' := 29) (Ls := #[.val (.ref a), .val (.int (8 : Int32)), .val (.int x), .val (.int (4 : Int32)), .val (.int (3 : Int32)), .val (.int (2 : Int32))]) (Ls' := #[.val (.ref a), .val (.int (8 : Int32)), .val (.int x), .val (.int (4 : Int32)), .val (.int (3 : Int32)), .val (.int (3 : Int32))]) (rest := []) w556 d13_27 rfl rfl ?_
                  refine galoadN (pc' := 30) (Ls := #[.val (.ref a), .val (.int (8 : Int32)), .val (.int x), .val (.int (4 : Int32)), .val (.int (3 : Int32)), .val (.int (3 : Int32))]) (rest := []) w556 d13_29 rfl rfl rfl ?_
                  refine ggetF (pc' := 33) w556 d13_30 (hw _ (List.mem_of_getElem? (i := 23) rfl)) F552 rfl (fun T557 w558 => ?_)
                  refine giloadN (pc' := 34) (Ls := #[.val (.ref a), .val (.int (8 : Int32)), .val (.int x), .val (.int (4 : Int32)), .val (.int (3 : Int32)), .val (.int (3 : Int32))]) (rest := [(.ref b)]) w558 d13_33 rfl rfl ?_
                  refine giload (pc' := 36) (Ls := #[.val (.ref a), .val (.int (8 : Int32)), .val (.int x), .val (.int (4 : Int32)), .val (.int (3 : Int32)), .val (.int (3 : Int32))]) (rest := [(.int (8 : Int32)), (.ref b)]) w558 d13_34 rfl rfl ?_
                  refine giadd (pc' := 37) w558 d13_36 rfl ?_
                  refine giloadN (pc' := 38) (Ls := #[.val (.ref a), .val (.int (8 : Int32)), .val (.int x), .val (.int (4 : Int32)), .val (.int (3 : Int32)), .val (.int (3 : Int32))]) (rest := [(.int ((8 : Int32) + (3 : Int32))), (.ref b)]) w558 d13_37 rfl rfl ?_
                  refine gbipush (v := (8 : Int32)) (pc' := 40) w558 d13_38 rfl rfl ?_
                  refine giload (pc' := 42) (Ls := #[.val (.ref a), .val (.int (8 : Int32)), .val (.int x), .val (.int (4 : Int32)), .val (.int (3 : Int32)), .val (.int (3 : Int32))]) (rest := [(.int (8 : Int32)), (.int x), (.int ((8 : Int32) + (3 : Int32))), (.ref b)]) w558 d13_40 rfl rfl ?_
                  refine gimul (pc' := 43) w558 d13_42 rfl ?_
                  refine giushr (pc' := 44) w558 d13_43 rfl ?_
                  refine gi2b (pc' := 45) w558 d13_44 rfl ?_
                  refine gbastore (pc' := 46) (x' := ((((x).toUInt32 >>> (((8 : Int32) * (3 : Int32)) &&& 31).toUInt32).toInt32).toInt8.toInt32)) w558 d13_45 (own_bb _) V547 (own_lt (by decide) (by decide) hz) (11) rfl (by first | exact (Nat.lt_of_lt_of_le (by decide) lb) | (simp only [List.length_set]; exact (Nat.lt_of_lt_of_le (by decide) lb))) gb rfl (fun T559 h560 w561 W562 V563 => ?_)
                  have E565 := E548.wr W562
                  have F566 := F549.other W562 (Or.inl nab)
                  have F567 := F550.other W562 (Or.inl nab)
                  have F568 := F551.other W562 (Or.inl nab)
                  have F569 := F552.other W562 (Or.inl nab)
                  have F570 := F553.other W562 (Or.inl nab)
                  have z571 : n0 ≤ h560.size := by rw [W562.size]; exact z554
                  have V564 : Arv Z h560 b kb .byte z ((((vb.set 8 (.int ((((x).toUInt32 >>> (((8 : Int32) * (0 : Int32)) &&& 31).toUInt32).toInt32).toInt8.toInt32))).set 9 (.int ((((x).toUInt32 >>> (((8 : Int32) * (1 : Int32)) &&& 31).toUInt32).toInt32).toInt8.toInt32))).set 10 (.int ((((x).toUInt32 >>> (((8 : Int32) * (2 : Int32)) &&& 31).toUInt32).toInt32).toInt8.toInt32))).set 11 (.int ((((x).toUInt32 >>> (((8 : Int32) * (3 : Int32)) &&& 31).toUInt32).toInt32).toInt8.toInt32))) db := V563
                  refine giinc (pc' := 49) (Ls := #[.val (.ref a), .val (.int (8 : Int32)), .val (.int x), .val (.int (4 : Int32)), .val (.int (3 : Int32)), .val (.int (3 : Int32))]) (Ls' := #[.val (.ref a), .val (.int (8 : Int32)), .val (.int x), .val (.int (4 : Int32)), .val (.int (4 : Int32)), .val (.int (3 : Int32))]) (rest := []) w561 d13_46 rfl rfl rfl ?_
                  refine ggoto (pc' := 3) w561 d13_49 (by decide) rfl ?_
                  refine giload (pc' := 5) (Ls := #[.val (.ref a), .val (.int (8 : Int32)), .val (.int x), .val (.int (4 : Int32)), .val (.int (4 : Int32)), .val (.int (3 : Int32))]) (rest := []) w561 d13_3 rfl rfl ?_
                  refine giloadN (pc' := 6) (Ls := #[.val (.ref a), .val (.int (8 : Int32)), .val (.int x), .val (.int (4 : Int32)), .val (.int (4 : Int32)), .val (.int (3 : Int32))]) (rest := [(.int (4 : Int32))]) w561 d13_5 rfl rfl ?_
                  refine gicmp (pt := 52) (pf := 9) w561 d13_6  (by decide) rfl rfl (fun (c6_4 : ¬ (4 : Int32) < (4 : Int32)) => ?_) (fun (c6_4 : (4 : Int32) < (4 : Int32)) => ?_)
                  · exact gret0 w561 d13_52 (by decide) (by decide) ⟨rfl, ⟨E565, F566, F567, F568, F569, F570, own_Bpad V564, nab⟩, z571⟩
                  · exact absurd c6_4 (by decide)
                · exact absurd c13_3 (by decide)
            · exact absurd c13_2 (by decide)
        · exact absurd c13_1 (by decide)
    · exact absurd c13 (by decide)
set_option maxRecDepth 65536 in
set_option maxHeartbeats 4000000 in
theorem own_put12 (hw : ∀ d ∈ tables_1, d.before a0 Z = true) (a b : Addr) (md p' z x : Int32) (z0 : n0 ≤ h.size) (gb : n0 ≤ b) (hz : ¬ z < (16 : Int32)) (WT : own_WT Z h a b md p' z) :
    Ctr l (⟨"com/example/halyard/halyard/wire/CdrWriter", "put", "(III)V"⟩ : MethodName) prog_115_method_38_code 6 none ({ frames := 0, cells := 0, slots := 0, locals := 0 } : Room) Z #[(.ref a), (.int (12 : Int32)), (.int x), (.int (4 : Int32))] h n0 (fun v h' => v = none ∧ own_WT Z h' a b md p' z ∧ n0 ≤ h'.size) [] := by
  refine metGo (Ls := #[.val (.ref a), .val (.int (12 : Int32)), .val (.int x), .val (.int (4 : Int32)), .unset, .unset]) pn_d13 (fun m => by first | rfl | (simp [entryFrame, mkF, argsToLocals, Value.category]; done) | (simp [entryFrame, mkF, argsToLocals, Value.category, maxLocals]; done)) ?_
  intro p e s m below meth c T w
  obtain ⟨E0, Fm, Fb, Fg, Fo, Fp, ⟨kb, vb, db, lb, Vb⟩, nab⟩ := WT
  refine giconst (v := (0 : Int32)) (pc' := 1) w d13_0 rfl rfl ?_
  refine gistore (pc' := 3) (Ls := #[.val (.ref a), .val (.int (12 : Int32)), .val (.int x), .val (.int (4 : Int32)), .unset, .unset]) (Ls' := #[.val (.ref a), .val (.int (12 : Int32)), .val (.int x), .val (.int (4 : Int32)), .val (.int (0 : Int32)), .unset]) (rest := []) w d13_1 rfl rfl ?_
  refine giload (pc' := 5) (Ls := #[.val (.ref a), .val (.int (12 : Int32)), .val (.int x), .val (.int (4 : Int32)), .val (.int (0 : Int32)), .unset]) (rest := []) w d13_3 rfl rfl ?_
  refine giloadN (pc' := 6) (Ls := #[.val (.ref a), .val (.int (12 : Int32)), .val (.int x), .val (.int (4 : Int32)), .val (.int (0 : Int32)), .unset]) (rest := [(.int (0 : Int32))]) w d13_5 rfl rfl ?_
  refine gicmp (pt := 52) (pf := 9) w d13_6  (by decide) rfl rfl (fun (c6 : ¬ (0 : Int32) < (4 : Int32)) => ?_) (fun (c6 : (0 : Int32) < (4 : Int32)) => ?_)
  · exact absurd c6 (by decide)
  · refine galoadN (pc' := 10) (Ls := #[.val (.ref a), .val (.int (12 : Int32)), .val (.int x), .val (.int (4 : Int32)), .val (.int (0 : Int32)), .unset]) (rest := []) w d13_9 rfl rfl rfl ?_
    refine ggetF (pc' := 13) w d13_10 (hw _ (List.mem_of_getElem? (i := 14) rfl)) Fb rfl (fun T572 w573 => ?_)
    refine gif (pt := 25) (pf := 16) w573 d13_13  (by decide) rfl rfl (fun (c13 : (0 : Int32) = (0 : Int32)) => ?_) (fun (c13 : ¬ (0 : Int32) = (0 : Int32)) => ?_)
    · refine giload (pc' := 27) (Ls := #[.val (.ref a), .val (.int (12 : Int32)), .val (.int x), .val (.int (4 : Int32)), .val (.int (0 : Int32)), .unset]) (rest := []) w573 d13_25 rfl rfl ?_
      refine gistore (pc' := 29) (Ls := #[.val (.ref a), .val (.int (12 : Int32)), .val (.int x), .val (.int (4 : Int32)), .val (.int (0 : Int32)), .unset]) (Ls' := #[.val (.ref a), .val (.int (12 : Int32)), .val (.int x), .val (.int (4 : Int32)), .val (.int (0 : Int32)), .val (.int (0 : Int32))]) (rest := []) w573 d13_27 rfl rfl ?_
      refine galoadN (pc' := 30) (Ls := #[.val (.ref a), .val (.int (12 : Int32)), .val (.int x), .val (.int (4 : Int32)), .val (.int (0 : Int32)), .val (.int (0 : Int32))]) (rest := []) w573 d13_29 rfl rfl rfl ?_
      refine ggetF (pc' := 33) w573 d13_30 (hw _ (List.mem_of_getElem? (i := 23) rfl)) Fo rfl (fun T574 w575 => ?_)
      refine giloadN (pc' := 34) (Ls := #[.val (.ref a), .val (.int (12 : Int32)), .val (.int x), .val (.int (4 : Int32)), .val (.int (0 : Int32)), .val (.int (0 : Int32))]) (rest := [(.ref b)]) w575 d13_33 rfl rfl ?_
      refine giload (pc' := 36) (Ls := #[.val (.ref a), .val (.int (12 : Int32)), .val (.int x), .val (.int (4 : Int32)), .val (.int (0 : Int32)), .val (.int (0 : Int32))]) (rest := [(.int (12 : Int32)), (.ref b)]) w575 d13_34 rfl rfl ?_
      refine giadd (pc' := 37) w575 d13_36 rfl ?_
      refine giloadN (pc' := 38) (Ls := #[.val (.ref a), .val (.int (12 : Int32)), .val (.int x), .val (.int (4 : Int32)), .val (.int (0 : Int32)), .val (.int (0 : Int32))]) (rest := [(.int ((12 : Int32) + (0 : Int32))), (.ref b)]) w575 d13_37 rfl rfl ?_
      refine gbipush (v := (8 : Int32)) (pc' := 40) w575 d13_38 rfl rfl ?_
      refine giload (pc' := 42) (Ls := #[.val (.ref a), .val (.int (12 : Int32)), .val (.int x), .val (.int (4 : Int32)), .val (.int (0 : Int32)), .val (.int (0 : Int32))]) (rest := [(.int (8 : Int32)), (.int x), (.int ((12 : Int32) + (0 : Int32))), (.ref b)]) w575 d13_40 rfl rfl ?_
      refine gimul (pc' := 43) w575 d13_42 rfl ?_
      refine giushr (pc' := 44) w575 d13_43 rfl ?_
      refine gi2b (pc' := 45) w575 d13_44 rfl ?_
      refine gbastore (pc' := 46) (x' := ((((x).toUInt32 >>> (((8 : Int32) * (0 : Int32)) &&& 31).toUInt32).toInt32).toInt8.toInt32)) w575 d13_45 (own_bb _) Vb (own_lt (by decide) (by decide) hz) (12) rfl (by first | exact (Nat.lt_of_lt_of_le (by decide) lb) | (simp only [List.length_set]; exact (Nat.lt_of_lt_of_le (by decide) lb))) gb rfl (fun T576 h577 w578 W579 V580 => ?_)
      have E582 := E0.wr W579
      have F583 := Fm.other W579 (Or.inl nab)
      have F584 := Fb.other W579 (Or.inl nab)
      have F585 := Fg.other W579 (Or.inl nab)
      have F586 := Fo.other W579 (Or.inl nab)
      have F587 := Fp.other W579 (Or.inl nab)
      have z588 : n0 ≤ h577.size := by rw [W579.size]; exact z0
      have V581 : Arv Z h577 b kb .byte z (vb.set 12 (.int ((((x).toUInt32 >>> (((8 : Int32) * (0 : Int32)) &&& 31).toUInt32).toInt32).toInt8.toInt32))) db := V580
      refine giinc (pc' := 49) (Ls := #[.val (.ref a), .val (.int (12 : Int32)), .val (.int x), .val (.int (4 : Int32)), .val (.int (0 : Int32)), .val (.int (0 : Int32))]) (Ls' := #[.val (.ref a), .val (.int (12 : Int32)), .val (.int x), .val (.int (4 : Int32)), .val (.int (1 : Int32)), .val (.int (0 : Int32))]) (rest := []) w578 d13_46 rfl rfl rfl ?_
      refine ggoto (pc' := 3) w578 d13_49 (by decide) rfl ?_
      refine giload (pc' := 5) (Ls := #[.val (.ref a), .val (.int (12 : Int32)), .val (.int x), .val (.int (4 : Int32)), .val (.int (1 : Int32)), .val (.int (0 : Int32))]) (rest := []) w578 d13_3 rfl rfl ?_
      refine giloadN (pc' := 6) (Ls := #[.val (.ref a), .val (.int (12 : Int32)), .val (.int x), .val (.int (4 : Int32)), .val (.int (1 : Int32)), .val (.int (0 : Int32))]) (rest := [(.int (1 : Int32))]) w578 d13_5 rfl rfl ?_
      refine gicmp (pt := 52) (pf := 9) w578 d13_6  (by decide) rfl rfl (fun (c6_1 : ¬ (1 : Int32) < (4 : Int32)) => ?_) (fun (c6_1 : (1 : Int32) < (4 : Int32)) => ?_)
      · exact absurd c6_1 (by decide)
      · refine galoadN (pc' := 10) (Ls := #[.val (.ref a), .val (.int (12 : Int32)), .val (.int x), .val (.int (4 : Int32)), .val (.int (1 : Int32)), .val (.int (0 : Int32))]) (rest := []) w578 d13_9 rfl rfl rfl ?_
        refine ggetF (pc' := 13) w578 d13_10 (hw _ (List.mem_of_getElem? (i := 14) rfl)) F584 rfl (fun T589 w590 => ?_)
        refine gif (pt := 25) (pf := 16) w590 d13_13  (by decide) rfl rfl (fun (c13_1 : (0 : Int32) = (0 : Int32)) => ?_) (fun (c13_1 : ¬ (0 : Int32) = (0 : Int32)) => ?_)
        · refine giload (pc' := 27) (Ls := #[.val (.ref a), .val (.int (12 : Int32)), .val (.int x), .val (.int (4 : Int32)), .val (.int (1 : Int32)), .val (.int (0 : Int32))]) (rest := []) w590 d13_25 rfl rfl ?_
          refine gistore (pc' := 29) (Ls := #[.val (.ref a), .val (.int (12 : Int32)), .val (.int x), .val (.int (4 : Int32)), .val (.int (1 : Int32)), .val (.int (0 : Int32))]) (Ls' := #[.val (.ref a), .val (.int (12 : Int32)), .val (.int x), .val (.int (4 : Int32)), .val (.int (1 : Int32)), .val (.int (1 : Int32))]) (rest := []) w590 d13_27 rfl rfl ?_
          refine galoadN (pc' := 30) (Ls := #[.val (.ref a), .val (.int (12 : Int32)), .val (.int x), .val (.int (4 : Int32)), .val (.int (1 : Int32)), .val (.int (1 : Int32))]) (rest := []) w590 d13_29 rfl rfl rfl ?_
          refine ggetF (pc' := 33) w590 d13_30 (hw _ (List.mem_of_getElem? (i := 23) rfl)) F586 rfl (fun T591 w592 => ?_)
          refine giloadN (pc' := 34) (Ls := #[.val (.ref a), .val (.int (12 : Int32)), .val (.int x), .val (.int (4 : Int32)), .val (.int (1 : Int32)), .val (.int (1 : Int32))]) (rest := [(.ref b)]) w592 d13_33 rfl rfl ?_
          refine giload (pc' := 36) (Ls := #[.val (.ref a), .val (.int (12 : Int32)), .val (.int x), .val (.int (4 : Int32)), .val (.int (1 : Int32)), .val (.int (1 : Int32))]) (rest := [(.int (12 : Int32)), (.ref b)]) w592 d13_34 rfl rfl ?_
          refine giadd (pc' := 37) w592 d13_36 rfl ?_
          refine giloadN (pc' := 38) (Ls := #[.val (.ref a), .val (.int (12 : Int32)), .val (.int x), .val (.int (4 : Int32)), .val (.int (1 : Int32)), .val (.int (1 : Int32))]) (rest := [(.int ((12 : Int32) + (1 : Int32))), (.ref b)]) w592 d13_37 rfl rfl ?_
          refine gbipush (v := (8 : Int32)) (pc' := 40) w592 d13_38 rfl rfl ?_
          refine giload (pc' := 42) (Ls := #[.val (.ref a), .val (.int (12 : Int32)), .val (.int x), .val (.int (4 : Int32)), .val (.int (1 : Int32)), .val (.int (1 : Int32))]) (rest := [(.int (8 : Int32)), (.int x), (.int ((12 : Int32) + (1 : Int32))), (.ref b)]) w592 d13_40 rfl rfl ?_
          refine gimul (pc' := 43) w592 d13_42 rfl ?_
          refine giushr (pc' := 44) w592 d13_43 rfl ?_
          refine gi2b (pc' := 45) w592 d13_44 rfl ?_
          refine gbastore (pc' := 46) (x' := ((((x).toUInt32 >>> (((8 : Int32) * (1 : Int32)) &&& 31).toUInt32).toInt32).toInt8.toInt32)) w592 d13_45 (own_bb _) V581 (own_lt (by decide) (by decide) hz) (13) rfl (by first | exact (Nat.lt_of_lt_of_le (by decide) lb) | (simp only [List.length_set]; exact (Nat.lt_of_lt_of_le (by decide) lb))) gb rfl (fun T593 h594 w595 W596 V597 => ?_)
          have E599 := E582.wr W596
          have F600 := F583.other W596 (Or.inl nab)
          have F601 := F584.other W596 (Or.inl nab)
          have F602 := F585.other W596 (Or.inl nab)
          have F603 := F586.other W596 (Or.inl nab)
          have F604 := F587.other W596 (Or.inl nab)
          have z605 : n0 ≤ h594.size := by rw [W596.size]; exact z588
          have V598 : Arv Z h594 b kb .byte z ((vb.set 12 (.int ((((x).toUInt32 >>> (((8 : Int32) * (0 : Int32)) &&& 31).toUInt32).toInt32).toInt8.toInt32))).set 13 (.int ((((x).toUInt32 >>> (((8 : Int32) * (1 : Int32)) &&& 31).toUInt32).toInt32).toInt8.toInt32))) db := V597
          refine giinc (pc' := 49) (Ls := #[.val (.ref a), .val (.int (12 : Int32)), .val (.int x), .val (.int (4 : Int32)), .val (.int (1 : Int32)), .val (.int (1 : Int32))]) (Ls' := #[.val (.ref a), .val (.int (12 : Int32)), .val (.int x), .val (.int (4 : Int32)), .val (.int (2 : Int32)), .val (.int (1 : Int32))]) (rest := []) w595 d13_46 rfl rfl rfl ?_
          refine ggoto (pc' := 3) w595 d13_49 (by decide) rfl ?_
          refine giload (pc' := 5) (Ls := #[.val (.ref a), .val (.int (12 : Int32)), .val (.int x), .val (.int (4 : Int32)), .val (.int (2 : Int32)), .val (.int (1 : Int32))]) (rest := []) w595 d13_3 rfl rfl ?_
          refine giloadN (pc' := 6) (Ls := #[.val (.ref a), .val (.int (12 : Int32)), .val (.int x), .val (.int (4 : Int32)), .val (.int (2 : Int32)), .val (.int (1 : Int32))]) (rest := [(.int (2 : Int32))]) w595 d13_5 rfl rfl ?_
          refine gicmp (pt := 52) (pf := 9) w595 d13_6  (by decide) rfl rfl (fun (c6_2 : ¬ (2 : Int32) < (4 : Int32)) => ?_) (fun (c6_2 : (2 : Int32) < (4 : Int32)) => ?_)
          · exact absurd c6_2 (by decide)
          · refine galoadN (pc' := 10) (Ls := #[.val (.ref a), .val (.int (12 : Int32)), .val (.int x), .val (.int (4 : Int32)), .val (.int (2 : Int32)), .val (.int (1 : Int32))]) (rest := []) w595 d13_9 rfl rfl rfl ?_
            refine ggetF (pc' := 13) w595 d13_10 (hw _ (List.mem_of_getElem? (i := 14) rfl)) F601 rfl (fun T606 w607 => ?_)
            refine gif (pt := 25) (pf := 16) w607 d13_13  (by decide) rfl rfl (fun (c13_2 : (0 : Int32) = (0 : Int32)) => ?_) (fun (c13_2 : ¬ (0 : Int32) = (0 : Int32)) => ?_)
            · refine giload (pc' := 27) (Ls := #[.val (.ref a), .val (.int (12 : Int32)), .val (.int x), .val (.int (4 : Int32)), .val (.int (2 : Int32)), .val (.int (1 : Int32))]) (rest := []) w607 d13_25 rfl rfl ?_
              refine gistore (pc' := 29) (Ls := #[.val (.ref a), .val (.int (12 : Int32)), .val (.int x), .val (.int (4 : Int32)), .val (.int (2 : Int32)), .val (.int (1 : Int32))]) (Ls' := #[.val (.ref a), .val (.int (12 : Int32)), .val (.int x), .val (.int (4 : Int32)), .val (.int (2 : Int32)), .val (.int (2 : Int32))]) (rest := []) w607 d13_27 rfl rfl ?_
              refine galoadN (pc' := 30) (Ls := #[.val (.ref a), .val (.int (12 : Int32)), .val (.int x), .val (.int (4 : Int32)), .val (.int (2 : Int32)), .val (.int (2 : Int32))]) (rest := []) w607 d13_29 rfl rfl rfl ?_
              refine ggetF (pc' := 33) w607 d13_30 (hw _ (List.mem_of_getElem? (i := 23) rfl)) F603 rfl (fun T608 w609 => ?_)
              refine giloadN (pc' := 34) (Ls := #[.val (.ref a), .val (.int (12 : Int32)), .val (.int x), .val (.int (4 : Int32)), .val (.int (2 : Int32)), .val (.int (2 : Int32))]) (rest := [(.ref b)]) w609 d13_33 rfl rfl ?_
              refine giload (pc' := 36) (Ls := #[.val (.ref a), .val (.int (12 : Int32)), .val (.int x), .val (.int (4 : Int32)), .val (.int (2 : Int32)), .val (.int (2 : Int32))]) (rest := [(.int (12 : Int32)), (.ref b)]) w609 d13_34 rfl rfl ?_
              refine giadd (pc' := 37) w609 d13_36 rfl ?_
              refine giloadN (pc' := 38) (Ls := #[.val (.ref a), .val (.int (12 : Int32)), .val (.int x), .val (.int (4 : Int32)), .val (.int (2 : Int32)), .val (.int (2 : Int32))]) (rest := [(.int ((12 : Int32) + (2 : Int32))), (.ref b)]) w609 d13_37 rfl rfl ?_
              refine gbipush (v := (8 : Int32)) (pc' := 40) w609 d13_38 rfl rfl ?_
              refine giload (pc' := 42) (Ls := #[.val (.ref a), .val (.int (12 : Int32)), .val (.int x), .val (.int (4 : Int32)), .val (.int (2 : Int32)), .val (.int (2 : Int32))]) (rest := [(.int (8 : Int32)), (.int x), (.int ((12 : Int32) + (2 : Int32))), (.ref b)]) w609 d13_40 rfl rfl ?_
              refine gimul (pc' := 43) w609 d13_42 rfl ?_
              refine giushr (pc' := 44) w609 d13_43 rfl ?_
              refine gi2b (pc' := 45) w609 d13_44 rfl ?_
              refine gbastore (pc' := 46) (x' := ((((x).toUInt32 >>> (((8 : Int32) * (2 : Int32)) &&& 31).toUInt32).toInt32).toInt8.toInt32)) w609 d13_45 (own_bb _) V598 (own_lt (by decide) (by decide) hz) (14) rfl (by first | exact (Nat.lt_of_lt_of_le (by decide) lb) | (simp only [List.length_set]; exact (Nat.lt_of_lt_of_le (by decide) lb))) gb rfl (fun T610 h611 w612 W613 V614 => ?_)
              have E616 := E599.wr W613
              have F617 := F600.other W613 (Or.inl nab)
              have F618 := F601.other W613 (Or.inl nab)
              have F619 := F602.other W613 (Or.inl nab)
              have F620 := F603.other W613 (Or.inl nab)
              have F621 := F604.other W613 (Or.inl nab)
              have z622 : n0 ≤ h611.size := by rw [W613.size]; exact z605
              have V615 : Arv Z h611 b kb .byte z (((vb.set 12 (.int ((((x).toUInt32 >>> (((8 : Int32) * (0 : Int32)) &&& 31).toUInt32).toInt32).toInt8.toInt32))).set 13 (.int ((((x).toUInt32 >>> (((8 : Int32) * (1 : Int32)) &&& 31).toUInt32).toInt32).toInt8.toInt32))).set 14 (.int ((((x).toUInt32 >>> (((8 : Int32) * (2 : Int32)) &&& 31).toUInt32).toInt32).toInt8.toInt32))) db := V614
              refine giinc (pc' := 49) (Ls := #[.val (.ref a), .val (.int (12 : Int32)), .val (.int x), .val (.int (4 : Int32)), .val (.int (2 : Int32)), .val (.int (2 : Int32))]) (Ls' := #[.val (.ref a), .val (.int (12 : Int32)), .val (.int x), .val (.int (4 : Int32)), .val (.int (3 : Int32)), .val (.int (2 : Int32))]) (rest := []) w612 d13_46 rfl rfl rfl ?_
              refine ggoto (pc' := 3) w612 d13_49 (by decide) rfl ?_
              refine giload (pc' := 5) (Ls := #[.val (.ref a), .val (.int (12 : Int32)), .val (.int x), .val (.int (4 : Int32)), .val (.int (3 : Int32)), .val (.int (2 : Int32))]) (rest := []) w612 d13_3 rfl rfl ?_
              refine giloadN (pc' := 6) (Ls := #[.val (.ref a), .val (.int (12 : Int32)), .val (.int x), .val (.int (4 : Int32)), .val (.int (3 : Int32)), .val (.int (2 : Int32))]) (rest := [(.int (3 : Int32))]) w612 d13_5 rfl rfl ?_
              refine gicmp (pt := 52) (pf := 9) w612 d13_6  (by decide) rfl rfl (fun (c6_3 : ¬ (3 : Int32) < (4 : Int32)) => ?_) (fun (c6_3 : (3 : Int32) < (4 : Int32)) => ?_)
              · exact absurd c6_3 (by decide)
              · refine galoadN (pc' := 10) (Ls := #[.val (.ref a), .val (.int (12 : Int32)), .val (.int x), .val (.int (4 : Int32)), .val (.int (3 : Int32)), .val (.int (2 : Int32))]) (rest := []) w612 d13_9 rfl rfl rfl ?_
                refine ggetF (pc' := 13) w612 d13_10 (hw _ (List.mem_of_getElem? (i := 14) rfl)) F618 rfl (fun T623 w624 => ?_)
                refine gif (pt := 25) (pf := 16) w624 d13_13  (by decide) rfl rfl (fun (c13_3 : (0 : Int32) = (0 : Int32)) => ?_) (fun (c13_3 : ¬ (0 : Int32) = (0 : Int32)) => ?_)
                · refine giload (pc' := 27) (Ls := #[.val (.ref a), .val (.int (12 : Int32)), .val (.int x), .val (.int (4 : Int32)), .val (.int (3 : Int32)), .val (.int (2 : Int32))]) (rest := []) w624 d13_25 rfl rfl ?_
                  refine gistore (pc' := 29) (Ls := #[.val (.ref a), .val (.int (12 : Int32)), .val (.int x), .val (.int (4 : Int32)), .val (.int (3 : Int32)), .val (.int (2 : Int32))]) (Ls' := #[.val (.ref a), .val (.int (12 : Int32)), .val (.int x), .val (.int (4 : Int32)), .val (.int (3 : Int32)), .val (.int (3 : Int32))]) (rest := []) w624 d13_27 rfl rfl ?_
                  refine galoadN (pc' := 30) (Ls := #[.val (.ref a), .val (.int (12 : Int32)), .val (.int x), .val (.int (4 : Int32)), .val (.int (3 : Int32)), .val (.int (3 : Int32))]) (rest := []) w624 d13_29 rfl rfl rfl ?_
                  refine ggetF (pc' := 33) w624 d13_30 (hw _ (List.mem_of_getElem? (i := 23) rfl)) F620 rfl (fun T625 w626 => ?_)
                  refine giloadN (pc' := 34) (Ls := #[.val (.ref a), .val (.int (12 : Int32)), .val (.int x), .val (.int (4 : Int32)), .val (.int (3 : Int32)), .val (.int (3 : Int32))]) (rest := [(.ref b)]) w626 d13_33 rfl rfl ?_
                  refine giload (pc' := 36) (Ls := #[.val (.ref a), .val (.int (12 : Int32)), .val (.int x), .val (.int (4 : Int32)), .val (.int (3 : Int32)), .val (.int (3 : Int32))]) (rest := [(.int (12 : Int32)), (.ref b)]) w626 d13_34 rfl rfl ?_
                  refine giadd (pc' := 37) w626 d13_36 rfl ?_
                  refine giloadN (pc' := 38) (Ls := #[.val (.ref a), .val (.int (12 : Int32)), .val (.int x), .val (.int (4 : Int32)), .val (.int (3 : Int32)), .val (.int (3 : Int32))]) (rest := [(.int ((12 : Int32) + (3 : Int32))), (.ref b)]) w626 d13_37 rfl rfl ?_
                  refine gbipush (v := (8 : Int32)) (pc' := 40) w626 d13_38 rfl rfl ?_
                  refine giload (pc' := 42) (Ls := #[.val (.ref a), .val (.int (12 : Int32)), .val (.int x), .val (.int (4 : Int32)), .val (.int (3 : Int32)), .val (.int (3 : Int32))]) (rest := [(.int (8 : Int32)), (.int x), (.int ((12 : Int32) + (3 : Int32))), (.ref b)]) w626 d13_40 rfl rfl ?_
                  refine gimul (pc' := 43) w626 d13_42 rfl ?_
                  refine giushr (pc' := 44) w626 d13_43 rfl ?_
                  refine gi2b (pc' := 45) w626 d13_44 rfl ?_
                  refine gbastore (pc' := 46) (x' := ((((x).toUInt32 >>> (((8 : Int32) * (3 : Int32)) &&& 31).toUInt32).toInt32).toInt8.toInt32)) w626 d13_45 (own_bb _) V615 (own_lt (by decide) (by decide) hz) (15) rfl (by first | exact (Nat.lt_of_lt_of_le (by decide) lb) | (simp only [List.length_set]; exact (Nat.lt_of_lt_of_le (by decide) lb))) gb rfl (fun T627 h628 w629 W630 V631 => ?_)
                  have E633 := E616.wr W630
                  have F634 := F617.other W630 (Or.inl nab)
                  have F635 := F618.other W630 (Or.inl nab)
                  have F636 := F619.other W630 (Or.inl nab)
                  have F637 := F620.other W630 (Or.inl nab)
                  have F638 := F621.other W630 (Or.inl nab)
                  have z639 : n0 ≤ h628.size := by rw [W630.size]; exact z622
                  have V632 : Arv Z h628 b kb .byte z ((((vb.set 12 (.int ((((x).toUInt32 >>> (((8 : Int32) * (0 : Int32)) &&& 31).toUInt32).toInt32).toInt8.toInt32))).set 13 (.int ((((x).toUInt32 >>> (((8 : Int32) * (1 : Int32)) &&& 31).toUInt32).toInt32).toInt8.toInt32))).set 14 (.int ((((x).toUInt32 >>> (((8 : Int32) * (2 : Int32)) &&& 31).toUInt32).toInt32).toInt8.toInt32))).set 15 (.int ((((x).toUInt32 >>> (((8 : Int32) * (3 : Int32)) &&& 31).toUInt32).toInt32).toInt8.toInt32))) db := V631
                  refine giinc (pc' := 49) (Ls := #[.val (.ref a), .val (.int (12 : Int32)), .val (.int x), .val (.int (4 : Int32)), .val (.int (3 : Int32)), .val (.int (3 : Int32))]) (Ls' := #[.val (.ref a), .val (.int (12 : Int32)), .val (.int x), .val (.int (4 : Int32)), .val (.int (4 : Int32)), .val (.int (3 : Int32))]) (rest := []) w629 d13_46 rfl rfl rfl ?_
                  refine ggoto (pc' := 3) w629 d13_49 (by decide) rfl ?_
                  refine giload (pc' := 5) (Ls := #[.val (.ref a), .val (.int (12 : Int32)), .val (.int x), .val (.int (4 : Int32)), .val (.int (4 : Int32)), .val (.int (3 : Int32))]) (rest := []) w629 d13_3 rfl rfl ?_
                  refine giloadN (pc' := 6) (Ls := #[.val (.ref a), .val (.int (12 : Int32)), .val (.int x), .val (.int (4 : Int32)), .val (.int (4 : Int32)), .val (.int (3 : Int32))]) (rest := [(.int (4 : Int32))]) w629 d13_5 rfl rfl ?_
                  refine gicmp (pt := 52) (pf := 9) w629 d13_6  (by decide) rfl rfl (fun (c6_4 : ¬ (4 : Int32) < (4 : Int32)) => ?_) (fun (c6_4 : (4 : Int32) < (4 : Int32)) => ?_)
                  · exact gret0 w629 d13_52 (by decide) (by decide) ⟨rfl, ⟨E633, F634, F635, F636, F637, F638, own_Bpad V632, nab⟩, z639⟩
                  · exact absurd c6_4 (by decide)
                · exact absurd c13_3 (by decide)
            · exact absurd c13_2 (by decide)
        · exact absurd c13_1 (by decide)
    · exact absurd c13 (by decide)
theorem own_ge {z q r : Int32} (h : ¬ z < q) (hr : r.toInt ≤ q.toInt) : ¬ z < r := by
  rw [Int32.lt_iff_toInt_lt] at *; omega
set_option maxRecDepth 65536 in
set_option maxHeartbeats 4000000 in
theorem own_wl4 (hw : ∀ d ∈ tables_1, d.before a0 Z = true) (x : Int64) (a b : Addr) (z : Int32) (z0 : n0 ≤ h.size) (ga : n0 ≤ a) (gb : n0 ≤ b) (WT : own_WT Z h a b (4 : Int32) (1 : Int32) z) :
    Ctr l (⟨"com/example/halyard/halyard/wire/CdrWriter", "writeLong", "(J)V"⟩ : MethodName) prog_115_method_13_code 3 none ({ frames := 4, cells := 2, slots := 64, locals := 128 } : Room) Z #[(.ref a), (.long x)] h n0 (fun v h' => v = none ∧ ∃ b' z', own_WT Z h' a b' (4 : Int32) (12 : Int32) z' ∧ n0 ≤ b' ∧ n0 ≤ h'.size) [] := by
  refine metGo (Ls := #[.val (.ref a), .val (.long x), .second]) pn_d8 (fun m => by first | rfl | (simp [entryFrame, mkF, argsToLocals, Value.category]; done) | (simp [entryFrame, mkF, argsToLocals, Value.category, maxLocals]; done)) ?_
  intro p e s m below meth c T w
  obtain ⟨E0, Fm, Fb, Fg, Fo, Fp, ⟨kb, vb, db, lb, Vb⟩, nab⟩ := WT
  refine galoadN (pc' := 1) (Ls := #[.val (.ref a), .val (.long x), .second]) (rest := []) w d8_0 rfl rfl rfl ?_
  refine gbipush (v := (8 : Int32)) (pc' := 3) w d8_1 rfl rfl ?_
  refine gcallV (pc' := 6) (argsL := [(.int (8 : Int32))]) (rest := []) (Wt := 0) w d8_3 (hw _ (List.mem_of_getElem? (i := 46) rfl)) (hw _ (List.mem_of_getElem? (i := 47) rfl)) (hw _ (List.mem_of_getElem? (i := 49) rfl)) (hw _ (List.mem_of_getElem? (i := 48) rfl)) (hw _ (List.mem_of_getElem? (i := 2) rfl)) (hw _ (List.mem_of_getElem? (i := 50) rfl)) E0 rfl (by decide) pd_d9 (own_al4 hw a b z z0 ga gb ⟨E0, Fm, Fb, Fg, Fo, Fp, own_Bpad Vb, nab⟩) rfl rfl rfl rfl (Nat.le_of_eq rfl) (by decide) (by decide) (by decide) (by decide) rfl (fun v641 T642 h643 w644 q645 => ?_)
  obtain ⟨rfl, b_640, z_640, ⟨E0_640, Fm_640, Fb_640, Fg_640, Fo_640, Fp_640, ⟨kb_640, vb_640, db_640, lb_640, Vb_640⟩, nab_640⟩, gb_640, zz_640⟩ := q645
  show Go _ _ _ _ _ _ _ _ _ (mkF m 6 #[.val (.ref a), .val (.long x), .second] [])
  refine galoadN (pc' := 7) (Ls := #[.val (.ref a), .val (.long x), .second]) (rest := []) w644 d8_6 rfl rfl rfl ?_
  refine gbipush (v := (8 : Int32)) (pc' := 9) w644 d8_7 rfl rfl ?_
  refine gcallP (pc' := 12) (argsL := [(.int (8 : Int32))]) (rest := []) (Wt := 0) w644 d8_9 (hw _ (List.mem_of_getElem? (i := 35) rfl)) (hw _ (List.mem_of_getElem? (i := 36) rfl)) (hw _ (List.mem_of_getElem? (i := 1) rfl)) (hw _ (List.mem_of_getElem? (i := 37) rfl)) (hw _ (List.mem_of_getElem? (i := 2) rfl)) (hw _ (List.mem_of_getElem? (i := 38) rfl)) E0_640 (by decide) pd_d7 (own_room4_8 hw a b_640 (4 : Int32) z_640 zz_640 ga gb_640 ⟨E0_640, Fm_640, Fb_640, Fg_640, Fo_640, Fp_640, own_Bpad Vb_640, nab_640⟩) rfl rfl rfl rfl (Nat.le_of_eq rfl) (by decide) (by decide) (by decide) (by decide) rfl (fun v647 T648 h649 w650 q651 => ?_)
  obtain ⟨rfl, b_646, z_646, ⟨E0_646, Fm_646, Fb_646, Fg_646, Fo_646, Fp_646, ⟨kb_646, vb_646, db_646, lb_646, Vb_646⟩, nab_646⟩, hq_646, gb_646, zz_646⟩ := q651
  show Go _ _ _ _ _ _ _ _ _ (mkF m 12 #[.val (.ref a), .val (.long x), .second] [])
  refine galoadN (pc' := 13) (Ls := #[.val (.ref a), .val (.long x), .second]) (rest := []) w650 d8_12 rfl rfl rfl ?_
  refine galoadN (pc' := 14) (Ls := #[.val (.ref a), .val (.long x), .second]) (rest := [(.ref a)]) w650 d8_13 rfl rfl rfl ?_
  refine ggetF (pc' := 17) w650 d8_14 (hw _ (List.mem_of_getElem? (i := 39) rfl)) Fp_646 rfl (fun T652 w653 => ?_)
  refine galoadN (pc' := 18) (Ls := #[.val (.ref a), .val (.long x), .second]) (rest := [(.int (4 : Int32)), (.ref a)]) w653 d8_17 rfl rfl rfl ?_
  refine ggetF (pc' := 21) w653 d8_18 (hw _ (List.mem_of_getElem? (i := 14) rfl)) Fb_646 rfl (fun T654 w655 => ?_)
  refine gif (pt := 31) (pf := 24) w655 d8_21  (by decide) rfl rfl (fun (c21 : (0 : Int32) = (0 : Int32)) => ?_) (fun (c21 : ¬ (0 : Int32) = (0 : Int32)) => ?_)
  · refine glloadN (pc' := 32) (Ls := #[.val (.ref a), .val (.long x), .second]) (rest := [(.int (4 : Int32)), (.ref a)]) w655 d8_31 rfl rfl ?_
    refine gl2i (pc' := 33) w655 d8_32 rfl ?_
    refine giconst (v := (4 : Int32)) (pc' := 34) w655 d8_33 rfl rfl ?_
    refine gcallP (pc' := 37) (argsL := [(.int (4 : Int32)), (.int (x.toInt32)), (.int (4 : Int32))]) (rest := []) (Wt := 0) w655 d8_34 (hw _ (List.mem_of_getElem? (i := 61) rfl)) (hw _ (List.mem_of_getElem? (i := 62) rfl)) (hw _ (List.mem_of_getElem? (i := 1) rfl)) (hw _ (List.mem_of_getElem? (i := 63) rfl)) (hw _ (List.mem_of_getElem? (i := 2) rfl)) (hw _ (List.mem_of_getElem? (i := 64) rfl)) E0_646 (by decide) pd_d13 (own_put4 hw a b_646 _ _ z_646 (x.toInt32) zz_646 gb_646 (own_ge hq_646 (by decide)) ⟨E0_646, Fm_646, Fb_646, Fg_646, Fo_646, Fp_646, own_Bpad Vb_646, nab_646⟩) rfl rfl rfl rfl (Nat.le_of_eq rfl) (by decide) (by decide) (by decide) (by decide) rfl (fun v657 T658 h659 w660 q661 => ?_)
    obtain ⟨rfl, ⟨E0_656, Fm_656, Fb_656, Fg_656, Fo_656, Fp_656, ⟨kb_656, vb_656, db_656, lb_656, Vb_656⟩, nab_656⟩, zz_656⟩ := q661
    show Go _ _ _ _ _ _ _ _ _ (mkF m 37 #[.val (.ref a), .val (.long x), .second] [])
    refine galoadN (pc' := 38) (Ls := #[.val (.ref a), .val (.long x), .second]) (rest := []) w660 d8_37 rfl rfl rfl ?_
    refine galoadN (pc' := 39) (Ls := #[.val (.ref a), .val (.long x), .second]) (rest := [(.ref a)]) w660 d8_38 rfl rfl rfl ?_
    refine ggetF (pc' := 42) w660 d8_39 (hw _ (List.mem_of_getElem? (i := 39) rfl)) Fp_656 rfl (fun T662 w663 => ?_)
    refine giconst (v := (4 : Int32)) (pc' := 43) w663 d8_42 rfl rfl ?_
    refine giadd (pc' := 44) w663 d8_43 rfl ?_
    refine galoadN (pc' := 45) (Ls := #[.val (.ref a), .val (.long x), .second]) (rest := [(.int ((4 : Int32) + (4 : Int32))), (.ref a)]) w663 d8_44 rfl rfl rfl ?_
    refine ggetF (pc' := 48) w663 d8_45 (hw _ (List.mem_of_getElem? (i := 14) rfl)) Fb_656 rfl (fun T664 w665 => ?_)
    refine gif (pt := 55) (pf := 51) w665 d8_48  (by decide) rfl rfl (fun (c48 : (0 : Int32) = (0 : Int32)) => ?_) (fun (c48 : ¬ (0 : Int32) = (0 : Int32)) => ?_)
    · refine glloadN (pc' := 56) (Ls := #[.val (.ref a), .val (.long x), .second]) (rest := [(.int ((4 : Int32) + (4 : Int32))), (.ref a)]) w665 d8_55 rfl rfl ?_
      refine gbipush (v := (32 : Int32)) (pc' := 58) w665 d8_56 rfl rfl ?_
      refine glushr (pc' := 59) w665 d8_58 rfl ?_
      refine gl2i (pc' := 60) w665 d8_59 rfl ?_
      refine giconst (v := (4 : Int32)) (pc' := 61) w665 d8_60 rfl rfl ?_
      refine gcallP (pc' := 64) (argsL := [(.int ((4 : Int32) + (4 : Int32))), (.int ((((x).toUInt64 >>> ((32 : Int32) &&& 0x3f).toInt64.toUInt64).toInt64).toInt32)), (.int (4 : Int32))]) (rest := []) (Wt := 0) w665 d8_61 (hw _ (List.mem_of_getElem? (i := 61) rfl)) (hw _ (List.mem_of_getElem? (i := 62) rfl)) (hw _ (List.mem_of_getElem? (i := 1) rfl)) (hw _ (List.mem_of_getElem? (i := 63) rfl)) (hw _ (List.mem_of_getElem? (i := 2) rfl)) (hw _ (List.mem_of_getElem? (i := 64) rfl)) E0_656 (by decide) pd_d13 (own_put8 hw a b_646 _ _ z_646 ((((x).toUInt64 >>> ((32 : Int32) &&& 0x3f).toInt64.toUInt64).toInt64).toInt32) zz_656 gb_646 (own_ge hq_646 (by decide)) ⟨E0_656, Fm_656, Fb_656, Fg_656, Fo_656, Fp_656, own_Bpad Vb_656, nab_656⟩) rfl rfl rfl rfl (Nat.le_of_eq rfl) (by decide) (by decide) (by decide) (by decide) rfl (fun v667 T668 h669 w670 q671 => ?_)
      obtain ⟨rfl, ⟨E0_666, Fm_666, Fb_666, Fg_666, Fo_666, Fp_666, ⟨kb_666, vb_666, db_666, lb_666, Vb_666⟩, nab_666⟩, zz_666⟩ := q671
      show Go _ _ _ _ _ _ _ _ _ (mkF m 64 #[.val (.ref a), .val (.long x), .second] [])
      refine galoadN (pc' := 65) (Ls := #[.val (.ref a), .val (.long x), .second]) (rest := []) w670 d8_64 rfl rfl rfl ?_
      refine gdup (pc' := 66) w670 d8_65 rfl rfl ?_
      refine ggetF (pc' := 69) w670 d8_66 (hw _ (List.mem_of_getElem? (i := 39) rfl)) Fp_666 rfl (fun T672 w673 => ?_)
      refine gbipush (v := (8 : Int32)) (pc' := 71) w673 d8_69 rfl rfl ?_
      refine giadd (pc' := 72) w673 d8_71 rfl ?_
      refine gputF (pc' := 75) (v' := (.int ((4 : Int32) + (8 : Int32)))) (ty := .int) w673 d8_72 (hw _ (List.mem_of_getElem? (i := 39) rfl)) Fp_666 E0_666 (Or.inl (hw _ (List.mem_of_getElem? (i := 40) rfl))) (hw _ (List.mem_of_getElem? (i := 1) rfl)) (by decide) rfl rfl ga rfl (fun T674 h675 w676 W677 => ?_)
      have E678 := E0_666.wr W677
      have F679 := Fm_666.other W677 (Or.inr (slot_ne (t := .int) (t' := .int) (Or.inr (hw _ (List.mem_of_getElem? (i := 13) rfl))) (Or.inl (hw _ (List.mem_of_getElem? (i := 40) rfl))) (by decide) (by decide) (by decide)))
      have F680 := Fb_666.other W677 (Or.inr (slot_ne (t := .boolean) (t' := .int) (Or.inr (hw _ (List.mem_of_getElem? (i := 15) rfl))) (Or.inl (hw _ (List.mem_of_getElem? (i := 40) rfl))) (by decide) (by decide) (by decide)))
      have F681 := Fg_666.other W677 (Or.inr (slot_ne (t := .int) (t' := .int) (Or.inl (hw _ (List.mem_of_getElem? (i := 17) rfl))) (Or.inl (hw _ (List.mem_of_getElem? (i := 40) rfl))) (by decide) (by decide) (by decide)))
      have F682 := Fo_666.other W677 (Or.inr (slot_ne (t := (.array .byte)) (t' := .int) (Or.inl (hw _ (List.mem_of_getElem? (i := 24) rfl))) (Or.inl (hw _ (List.mem_of_getElem? (i := 40) rfl))) (by decide) (by decide) (by decide)))
      have F683 := Fp_666.same W677
      have V684 := Vb_666.other W677 (Ne.symm nab_666)
      have z685 : n0 ≤ h675.size := by rw [W677.size]; exact zz_666
      exact gret0 w676 d8_75 (by decide) (by decide) ⟨rfl, b_646, z_646, ⟨E678, F679, F680, F681, F682, F683, own_Bpad V684, nab_666⟩, gb_646, z685⟩
    · exact absurd c48 (by decide)
  · exact absurd c21 (by decide)
set_option maxRecDepth 65536 in
set_option maxHeartbeats 4000000 in
theorem own_wl8 (hw : ∀ d ∈ tables_1, d.before a0 Z = true) (x : Int64) (a b : Addr) (z : Int32) (z0 : n0 ≤ h.size) (ga : n0 ≤ a) (gb : n0 ≤ b) (WT : own_WT Z h a b (8 : Int32) (1 : Int32) z) :
    Ctr l (⟨"com/example/halyard/halyard/wire/CdrWriter", "writeLong", "(J)V"⟩ : MethodName) prog_115_method_13_code 3 none ({ frames := 4, cells := 2, slots := 64, locals := 128 } : Room) Z #[(.ref a), (.long x)] h n0 (fun v h' => v = none ∧ ∃ b' z', own_WT Z h' a b' (8 : Int32) (16 : Int32) z' ∧ n0 ≤ b' ∧ n0 ≤ h'.size) [] := by
  refine metGo (Ls := #[.val (.ref a), .val (.long x), .second]) pn_d8 (fun m => by first | rfl | (simp [entryFrame, mkF, argsToLocals, Value.category]; done) | (simp [entryFrame, mkF, argsToLocals, Value.category, maxLocals]; done)) ?_
  intro p e s m below meth c T w
  obtain ⟨E0, Fm, Fb, Fg, Fo, Fp, ⟨kb, vb, db, lb, Vb⟩, nab⟩ := WT
  refine galoadN (pc' := 1) (Ls := #[.val (.ref a), .val (.long x), .second]) (rest := []) w d8_0 rfl rfl rfl ?_
  refine gbipush (v := (8 : Int32)) (pc' := 3) w d8_1 rfl rfl ?_
  refine gcallV (pc' := 6) (argsL := [(.int (8 : Int32))]) (rest := []) (Wt := 0) w d8_3 (hw _ (List.mem_of_getElem? (i := 46) rfl)) (hw _ (List.mem_of_getElem? (i := 47) rfl)) (hw _ (List.mem_of_getElem? (i := 49) rfl)) (hw _ (List.mem_of_getElem? (i := 48) rfl)) (hw _ (List.mem_of_getElem? (i := 2) rfl)) (hw _ (List.mem_of_getElem? (i := 50) rfl)) E0 rfl (by decide) pd_d9 (own_al8 hw a b z z0 ga gb ⟨E0, Fm, Fb, Fg, Fo, Fp, own_Bpad Vb, nab⟩) rfl rfl rfl rfl (Nat.le_of_eq rfl) (by decide) (by decide) (by decide) (by decide) rfl (fun v687 T688 h689 w690 q691 => ?_)
  obtain ⟨rfl, b_686, z_686, ⟨E0_686, Fm_686, Fb_686, Fg_686, Fo_686, Fp_686, ⟨kb_686, vb_686, db_686, lb_686, Vb_686⟩, nab_686⟩, gb_686, zz_686⟩ := q691
  show Go _ _ _ _ _ _ _ _ _ (mkF m 6 #[.val (.ref a), .val (.long x), .second] [])
  refine galoadN (pc' := 7) (Ls := #[.val (.ref a), .val (.long x), .second]) (rest := []) w690 d8_6 rfl rfl rfl ?_
  refine gbipush (v := (8 : Int32)) (pc' := 9) w690 d8_7 rfl rfl ?_
  refine gcallP (pc' := 12) (argsL := [(.int (8 : Int32))]) (rest := []) (Wt := 0) w690 d8_9 (hw _ (List.mem_of_getElem? (i := 35) rfl)) (hw _ (List.mem_of_getElem? (i := 36) rfl)) (hw _ (List.mem_of_getElem? (i := 1) rfl)) (hw _ (List.mem_of_getElem? (i := 37) rfl)) (hw _ (List.mem_of_getElem? (i := 2) rfl)) (hw _ (List.mem_of_getElem? (i := 38) rfl)) E0_686 (by decide) pd_d7 (own_room8_8 hw a b_686 (8 : Int32) z_686 zz_686 ga gb_686 ⟨E0_686, Fm_686, Fb_686, Fg_686, Fo_686, Fp_686, own_Bpad Vb_686, nab_686⟩) rfl rfl rfl rfl (Nat.le_of_eq rfl) (by decide) (by decide) (by decide) (by decide) rfl (fun v693 T694 h695 w696 q697 => ?_)
  obtain ⟨rfl, b_692, z_692, ⟨E0_692, Fm_692, Fb_692, Fg_692, Fo_692, Fp_692, ⟨kb_692, vb_692, db_692, lb_692, Vb_692⟩, nab_692⟩, hq_692, gb_692, zz_692⟩ := q697
  show Go _ _ _ _ _ _ _ _ _ (mkF m 12 #[.val (.ref a), .val (.long x), .second] [])
  refine galoadN (pc' := 13) (Ls := #[.val (.ref a), .val (.long x), .second]) (rest := []) w696 d8_12 rfl rfl rfl ?_
  refine galoadN (pc' := 14) (Ls := #[.val (.ref a), .val (.long x), .second]) (rest := [(.ref a)]) w696 d8_13 rfl rfl rfl ?_
  refine ggetF (pc' := 17) w696 d8_14 (hw _ (List.mem_of_getElem? (i := 39) rfl)) Fp_692 rfl (fun T698 w699 => ?_)
  refine galoadN (pc' := 18) (Ls := #[.val (.ref a), .val (.long x), .second]) (rest := [(.int (8 : Int32)), (.ref a)]) w699 d8_17 rfl rfl rfl ?_
  refine ggetF (pc' := 21) w699 d8_18 (hw _ (List.mem_of_getElem? (i := 14) rfl)) Fb_692 rfl (fun T700 w701 => ?_)
  refine gif (pt := 31) (pf := 24) w701 d8_21  (by decide) rfl rfl (fun (c21 : (0 : Int32) = (0 : Int32)) => ?_) (fun (c21 : ¬ (0 : Int32) = (0 : Int32)) => ?_)
  · refine glloadN (pc' := 32) (Ls := #[.val (.ref a), .val (.long x), .second]) (rest := [(.int (8 : Int32)), (.ref a)]) w701 d8_31 rfl rfl ?_
    refine gl2i (pc' := 33) w701 d8_32 rfl ?_
    refine giconst (v := (4 : Int32)) (pc' := 34) w701 d8_33 rfl rfl ?_
    refine gcallP (pc' := 37) (argsL := [(.int (8 : Int32)), (.int (x.toInt32)), (.int (4 : Int32))]) (rest := []) (Wt := 0) w701 d8_34 (hw _ (List.mem_of_getElem? (i := 61) rfl)) (hw _ (List.mem_of_getElem? (i := 62) rfl)) (hw _ (List.mem_of_getElem? (i := 1) rfl)) (hw _ (List.mem_of_getElem? (i := 63) rfl)) (hw _ (List.mem_of_getElem? (i := 2) rfl)) (hw _ (List.mem_of_getElem? (i := 64) rfl)) E0_692 (by decide) pd_d13 (own_put8 hw a b_692 _ _ z_692 (x.toInt32) zz_692 gb_692 (own_ge hq_692 (by decide)) ⟨E0_692, Fm_692, Fb_692, Fg_692, Fo_692, Fp_692, own_Bpad Vb_692, nab_692⟩) rfl rfl rfl rfl (Nat.le_of_eq rfl) (by decide) (by decide) (by decide) (by decide) rfl (fun v703 T704 h705 w706 q707 => ?_)
    obtain ⟨rfl, ⟨E0_702, Fm_702, Fb_702, Fg_702, Fo_702, Fp_702, ⟨kb_702, vb_702, db_702, lb_702, Vb_702⟩, nab_702⟩, zz_702⟩ := q707
    show Go _ _ _ _ _ _ _ _ _ (mkF m 37 #[.val (.ref a), .val (.long x), .second] [])
    refine galoadN (pc' := 38) (Ls := #[.val (.ref a), .val (.long x), .second]) (rest := []) w706 d8_37 rfl rfl rfl ?_
    refine galoadN (pc' := 39) (Ls := #[.val (.ref a), .val (.long x), .second]) (rest := [(.ref a)]) w706 d8_38 rfl rfl rfl ?_
    refine ggetF (pc' := 42) w706 d8_39 (hw _ (List.mem_of_getElem? (i := 39) rfl)) Fp_702 rfl (fun T708 w709 => ?_)
    refine giconst (v := (4 : Int32)) (pc' := 43) w709 d8_42 rfl rfl ?_
    refine giadd (pc' := 44) w709 d8_43 rfl ?_
    refine galoadN (pc' := 45) (Ls := #[.val (.ref a), .val (.long x), .second]) (rest := [(.int ((8 : Int32) + (4 : Int32))), (.ref a)]) w709 d8_44 rfl rfl rfl ?_
    refine ggetF (pc' := 48) w709 d8_45 (hw _ (List.mem_of_getElem? (i := 14) rfl)) Fb_702 rfl (fun T710 w711 => ?_)
    refine gif (pt := 55) (pf := 51) w711 d8_48  (by decide) rfl rfl (fun (c48 : (0 : Int32) = (0 : Int32)) => ?_) (fun (c48 : ¬ (0 : Int32) = (0 : Int32)) => ?_)
    · refine glloadN (pc' := 56) (Ls := #[.val (.ref a), .val (.long x), .second]) (rest := [(.int ((8 : Int32) + (4 : Int32))), (.ref a)]) w711 d8_55 rfl rfl ?_
      refine gbipush (v := (32 : Int32)) (pc' := 58) w711 d8_56 rfl rfl ?_
      refine glushr (pc' := 59) w711 d8_58 rfl ?_
      refine gl2i (pc' := 60) w711 d8_59 rfl ?_
      refine giconst (v := (4 : Int32)) (pc' := 61) w711 d8_60 rfl rfl ?_
      refine gcallP (pc' := 64) (argsL := [(.int ((8 : Int32) + (4 : Int32))), (.int ((((x).toUInt64 >>> ((32 : Int32) &&& 0x3f).toInt64.toUInt64).toInt64).toInt32)), (.int (4 : Int32))]) (rest := []) (Wt := 0) w711 d8_61 (hw _ (List.mem_of_getElem? (i := 61) rfl)) (hw _ (List.mem_of_getElem? (i := 62) rfl)) (hw _ (List.mem_of_getElem? (i := 1) rfl)) (hw _ (List.mem_of_getElem? (i := 63) rfl)) (hw _ (List.mem_of_getElem? (i := 2) rfl)) (hw _ (List.mem_of_getElem? (i := 64) rfl)) E0_702 (by decide) pd_d13 (own_put12 hw a b_692 _ _ z_692 ((((x).toUInt64 >>> ((32 : Int32) &&& 0x3f).toInt64.toUInt64).toInt64).toInt32) zz_702 gb_692 (own_ge hq_692 (by decide)) ⟨E0_702, Fm_702, Fb_702, Fg_702, Fo_702, Fp_702, own_Bpad Vb_702, nab_702⟩) rfl rfl rfl rfl (Nat.le_of_eq rfl) (by decide) (by decide) (by decide) (by decide) rfl (fun v713 T714 h715 w716 q717 => ?_)
      obtain ⟨rfl, ⟨E0_712, Fm_712, Fb_712, Fg_712, Fo_712, Fp_712, ⟨kb_712, vb_712, db_712, lb_712, Vb_712⟩, nab_712⟩, zz_712⟩ := q717
      show Go _ _ _ _ _ _ _ _ _ (mkF m 64 #[.val (.ref a), .val (.long x), .second] [])
      refine galoadN (pc' := 65) (Ls := #[.val (.ref a), .val (.long x), .second]) (rest := []) w716 d8_64 rfl rfl rfl ?_
      refine gdup (pc' := 66) w716 d8_65 rfl rfl ?_
      refine ggetF (pc' := 69) w716 d8_66 (hw _ (List.mem_of_getElem? (i := 39) rfl)) Fp_712 rfl (fun T718 w719 => ?_)
      refine gbipush (v := (8 : Int32)) (pc' := 71) w719 d8_69 rfl rfl ?_
      refine giadd (pc' := 72) w719 d8_71 rfl ?_
      refine gputF (pc' := 75) (v' := (.int ((8 : Int32) + (8 : Int32)))) (ty := .int) w719 d8_72 (hw _ (List.mem_of_getElem? (i := 39) rfl)) Fp_712 E0_712 (Or.inl (hw _ (List.mem_of_getElem? (i := 40) rfl))) (hw _ (List.mem_of_getElem? (i := 1) rfl)) (by decide) rfl rfl ga rfl (fun T720 h721 w722 W723 => ?_)
      have E724 := E0_712.wr W723
      have F725 := Fm_712.other W723 (Or.inr (slot_ne (t := .int) (t' := .int) (Or.inr (hw _ (List.mem_of_getElem? (i := 13) rfl))) (Or.inl (hw _ (List.mem_of_getElem? (i := 40) rfl))) (by decide) (by decide) (by decide)))
      have F726 := Fb_712.other W723 (Or.inr (slot_ne (t := .boolean) (t' := .int) (Or.inr (hw _ (List.mem_of_getElem? (i := 15) rfl))) (Or.inl (hw _ (List.mem_of_getElem? (i := 40) rfl))) (by decide) (by decide) (by decide)))
      have F727 := Fg_712.other W723 (Or.inr (slot_ne (t := .int) (t' := .int) (Or.inl (hw _ (List.mem_of_getElem? (i := 17) rfl))) (Or.inl (hw _ (List.mem_of_getElem? (i := 40) rfl))) (by decide) (by decide) (by decide)))
      have F728 := Fo_712.other W723 (Or.inr (slot_ne (t := (.array .byte)) (t' := .int) (Or.inl (hw _ (List.mem_of_getElem? (i := 24) rfl))) (Or.inl (hw _ (List.mem_of_getElem? (i := 40) rfl))) (by decide) (by decide) (by decide)))
      have F729 := Fp_712.same W723
      have V730 := Vb_712.other W723 (Ne.symm nab_712)
      have z731 : n0 ≤ h721.size := by rw [W723.size]; exact zz_712
      exact gret0 w722 d8_75 (by decide) (by decide) ⟨rfl, b_692, z_692, ⟨E724, F725, F726, F727, F728, F729, own_Bpad V730, nab_712⟩, gb_692, z731⟩
    · exact absurd c48 (by decide)
  · exact absurd c21 (by decide)
def own_x (md : Int32) : Int32 := if md = (4 : Int32) then 1 else 0
set_option maxRecDepth 65536 in
set_option maxHeartbeats 4000000 in
theorem own_xc (hw : ∀ d ∈ tables_1, d.before a0 Z = true) (a : Addr) (md : Int32) (Fm : Fld Z h a "com/example/halyard/halyard/wire/CdrWriter" "maxAlignment" "I" (.int md)) :
    Ctr l (⟨"com/example/halyard/halyard/wire/CdrWriter", "xcdr2", "()Z"⟩ : MethodName) prog_115_method_7_code 1 (some .boolean) ({ frames := 0, cells := 0, slots := 0, locals := 0 } : Room) Z #[(.ref a)] h n0 (fun v h' => v = some (.int (own_x md)) ∧ h' = h) [] := by
  refine metGo (Ls := #[.val (.ref a)]) pn_d5 (fun m => by first | rfl | (simp [entryFrame, mkF, argsToLocals, Value.category]; done) | (simp [entryFrame, mkF, argsToLocals, Value.category, maxLocals]; done)) ?_
  intro p e s m below meth c T w
  refine galoadN (pc' := 1) (Ls := #[.val (.ref a)]) (rest := []) w d5_0 rfl rfl rfl ?_
  refine ggetF (pc' := 4) w d5_1 (hw _ (List.mem_of_getElem? (i := 12) rfl)) Fm rfl (fun T732 w733 => ?_)
  refine giconst (v := (4 : Int32)) (pc' := 5) w733 d5_4 rfl rfl ?_
  refine gicmp (pt := 12) (pf := 8) w733 d5_5  (by decide) rfl rfl (fun (c5 : ¬ md = (4 : Int32)) => ?_) (fun (c5 : md = (4 : Int32)) => ?_)
  · refine giconst (v := (0 : Int32)) (pc' := 13) w733 d5_12 rfl rfl ?_
    exact gretZ w733 d5_13 rfl (by decide) (by decide) ⟨by unfold own_x; rw [if_neg c5], rfl⟩
  · refine giconst (v := (1 : Int32)) (pc' := 9) w733 d5_8 rfl rfl ?_
    refine ggoto (pc' := 13) w733 d5_9 (by decide) rfl ?_
    exact gretZ w733 d5_13 rfl (by decide) (by decide) ⟨by unfold own_x; rw [if_pos c5], rfl⟩
set_option maxRecDepth 65536 in
set_option maxHeartbeats 4000000 in
theorem own_po (hw : ∀ d ∈ tables_1, d.before a0 Z = true) (a : Addr) (p' : Int32) (Fp : Fld Z h a "com/example/halyard/halyard/wire/CdrWriter" "position" "I" (.int p')) :
    Ctr l (⟨"com/example/halyard/halyard/wire/CdrWriter", "position", "()I"⟩ : MethodName) prog_115_method_6_code 1 (some .int) ({ frames := 0, cells := 0, slots := 0, locals := 0 } : Room) Z #[(.ref a)] h n0 (fun v h' => v = some (.int p') ∧ h' = h) [] := by
  refine metGo (Ls := #[.val (.ref a)]) pn_d14 (fun m => by first | rfl | (simp [entryFrame, mkF, argsToLocals, Value.category]; done) | (simp [entryFrame, mkF, argsToLocals, Value.category, maxLocals]; done)) ?_
  intro p e s m below meth c T w
  refine galoadN (pc' := 1) (Ls := #[.val (.ref a)]) (rest := []) w d14_0 rfl rfl rfl ?_
  refine ggetF (pc' := 4) w d14_1 (hw _ (List.mem_of_getElem? (i := 39) rfl)) Fp rfl (fun T734 w735 => ?_)
  exact gretI w735 d14_4 (by decide) (by decide) ⟨rfl, rfl⟩
theorem own_mc {cc : Int32} (h1 : ¬ cc < 0) (h2 : ¬ 63 < cc) : ¬ own_max cc (0 : Int32) < 0 ∧ (own_max cc (0 : Int32)).toNatClampNeg ≤ 63 := by
  have e : own_max cc (0 : Int32) = cc := by unfold own_max; rw [if_neg h1]
  rw [e]
  refine ⟨h1, ?_⟩
  have e1 := nat_of h1
  rw [Int32.lt_iff_toInt_lt] at h2
  have k : (63 : Int32).toInt = 63 := rfl
  omega
set_option maxRecDepth 65536 in
set_option maxHeartbeats 4000000 in
theorem own_i4 (hw : ∀ d ∈ tables_1, d.before a0 Z = true) (a : Addr) (md cc : Int32) (hc1 : ¬ cc < 0) (hc2 : ¬ 63 < cc) (z0 : n0 ≤ h.size) (ga : n0 ≤ a) (E0 : Exa Z h a "com/example/halyard/halyard/wire/CdrWriter") (F_maxAlignment : Fld Z h a "com/example/halyard/halyard/wire/CdrWriter" "maxAlignment" "I" (.int (0 : Int32))) (F_bigEndian : Fld Z h a "com/example/halyard/halyard/wire/CdrWriter" "bigEndian" "Z" (.int (0 : Int32))) (F_origin : Fld Z h a "com/example/halyard/halyard/wire/CdrWriter" "origin" "I" (.int (0 : Int32))) (F_out : Fld Z h a "com/example/halyard/halyard/wire/CdrWriter" "out" "[B" .null) (F_position : Fld Z h a "com/example/halyard/halyard/wire/CdrWriter" "position" "I" (.int (0 : Int32))) :
    Ctr l (⟨"com/example/halyard/halyard/wire/CdrWriter", "<init>", "(IIIZ)V"⟩ : MethodName) prog_115_method_4_code 5 none ({ frames := 1, cells := 1, slots := 63, locals := 32 } : Room) Z #[(.ref a), (.int md), (.int (0 : Int32)), (.int cc), (.int (0 : Int32))] h n0 (fun v h' => v = none ∧ ∃ b' z', own_WT Z h' a b' md (0 : Int32) z' ∧ n0 ≤ b' ∧ n0 ≤ h'.size) [] := by
  refine metGo (Ls := #[.val (.ref a), .val (.int md), .val (.int (0 : Int32)), .val (.int cc), .val (.int (0 : Int32))]) pn_d2 (fun m => by first | rfl | (simp [entryFrame, mkF, argsToLocals, Value.category]; done) | (simp [entryFrame, mkF, argsToLocals, Value.category, maxLocals]; done)) ?_
  intro p e s m below meth c T w
  refine galoadN (pc' := 1) (Ls := #[.val (.ref a), .val (.int md), .val (.int (0 : Int32)), .val (.int cc), .val (.int (0 : Int32))]) (rest := []) w d2_0 rfl rfl rfl ?_
  refine ginitO (pc' := 4) (Wt := 0) w d2_1 (hw _ (List.mem_of_getElem? (i := 9) rfl)) (hw _ (List.mem_of_getElem? (i := 10) rfl)) (hw _ (List.mem_of_getElem? (i := 11) rfl)) rfl (by decide) (Nat.le_of_eq rfl) (by decide) rfl (fun T737 w736 => ?_)
  refine galoadN (pc' := 5) (Ls := #[.val (.ref a), .val (.int md), .val (.int (0 : Int32)), .val (.int cc), .val (.int (0 : Int32))]) (rest := []) w736 d2_4 rfl rfl rfl ?_
  refine giloadN (pc' := 6) (Ls := #[.val (.ref a), .val (.int md), .val (.int (0 : Int32)), .val (.int cc), .val (.int (0 : Int32))]) (rest := [(.ref a)]) w736 d2_5 rfl rfl ?_
  refine gputF (pc' := 9) (v' := (.int md)) (ty := .int) w736 d2_6 (hw _ (List.mem_of_getElem? (i := 12) rfl)) F_maxAlignment E0 (Or.inr ⟨(hw _ (List.mem_of_getElem? (i := 13) rfl)), rfl, rfl⟩) (hw _ (List.mem_of_getElem? (i := 1) rfl)) (by decide) rfl rfl ga rfl (fun T738 h739 w740 W741 => ?_)
  have E742 := E0.wr W741
  have F743 := F_maxAlignment.same W741
  have F744 := F_bigEndian.other W741 (Or.inr (slot_ne (t := .boolean) (t' := .int) (Or.inr (hw _ (List.mem_of_getElem? (i := 15) rfl))) (Or.inr (hw _ (List.mem_of_getElem? (i := 13) rfl))) (by decide) (by decide) (by decide)))
  have F745 := F_origin.other W741 (Or.inr (slot_ne (t := .int) (t' := .int) (Or.inl (hw _ (List.mem_of_getElem? (i := 17) rfl))) (Or.inr (hw _ (List.mem_of_getElem? (i := 13) rfl))) (by decide) (by decide) (by decide)))
  have F746 := F_out.other W741 (Or.inr (slot_ne (t := (.array .byte)) (t' := .int) (Or.inl (hw _ (List.mem_of_getElem? (i := 24) rfl))) (Or.inr (hw _ (List.mem_of_getElem? (i := 13) rfl))) (by decide) (by decide) (by decide)))
  have F747 := F_position.other W741 (Or.inr (slot_ne (t := .int) (t' := .int) (Or.inl (hw _ (List.mem_of_getElem? (i := 40) rfl))) (Or.inr (hw _ (List.mem_of_getElem? (i := 13) rfl))) (by decide) (by decide) (by decide)))
  have z748 : n0 ≤ h739.size := by rw [W741.size]; exact z0
  refine galoadN (pc' := 10) (Ls := #[.val (.ref a), .val (.int md), .val (.int (0 : Int32)), .val (.int cc), .val (.int (0 : Int32))]) (rest := []) w740 d2_9 rfl rfl rfl ?_
  refine giload (pc' := 12) (Ls := #[.val (.ref a), .val (.int md), .val (.int (0 : Int32)), .val (.int cc), .val (.int (0 : Int32))]) (rest := [(.ref a)]) w740 d2_10 rfl rfl ?_
  refine gputF (pc' := 15) (v' := (.int (0 : Int32))) (ty := .boolean) w740 d2_12 (hw _ (List.mem_of_getElem? (i := 14) rfl)) F744 E742 (Or.inr ⟨(hw _ (List.mem_of_getElem? (i := 15) rfl)), rfl, rfl⟩) (hw _ (List.mem_of_getElem? (i := 1) rfl)) (by decide) rfl rfl ga rfl (fun T749 h750 w751 W752 => ?_)
  have E753 := E742.wr W752
  have F754 := F743.other W752 (Or.inr (slot_ne (t := .int) (t' := .boolean) (Or.inr (hw _ (List.mem_of_getElem? (i := 13) rfl))) (Or.inr (hw _ (List.mem_of_getElem? (i := 15) rfl))) (by decide) (by decide) (by decide)))
  have F755 := F744.same W752
  have F756 := F745.other W752 (Or.inr (slot_ne (t := .int) (t' := .boolean) (Or.inl (hw _ (List.mem_of_getElem? (i := 17) rfl))) (Or.inr (hw _ (List.mem_of_getElem? (i := 15) rfl))) (by decide) (by decide) (by decide)))
  have F757 := F746.other W752 (Or.inr (slot_ne (t := (.array .byte)) (t' := .boolean) (Or.inl (hw _ (List.mem_of_getElem? (i := 24) rfl))) (Or.inr (hw _ (List.mem_of_getElem? (i := 15) rfl))) (by decide) (by decide) (by decide)))
  have F758 := F747.other W752 (Or.inr (slot_ne (t := .int) (t' := .boolean) (Or.inl (hw _ (List.mem_of_getElem? (i := 40) rfl))) (Or.inr (hw _ (List.mem_of_getElem? (i := 15) rfl))) (by decide) (by decide) (by decide)))
  have z759 : n0 ≤ h750.size := by rw [W752.size]; exact z748
  refine galoadN (pc' := 16) (Ls := #[.val (.ref a), .val (.int md), .val (.int (0 : Int32)), .val (.int cc), .val (.int (0 : Int32))]) (rest := []) w751 d2_15 rfl rfl rfl ?_
  refine giloadN (pc' := 17) (Ls := #[.val (.ref a), .val (.int md), .val (.int (0 : Int32)), .val (.int cc), .val (.int (0 : Int32))]) (rest := [(.ref a)]) w751 d2_16 rfl rfl ?_
  refine gputF (pc' := 20) (v' := (.int (0 : Int32))) (ty := .int) w751 d2_17 (hw _ (List.mem_of_getElem? (i := 16) rfl)) F756 E753 (Or.inl (hw _ (List.mem_of_getElem? (i := 17) rfl))) (hw _ (List.mem_of_getElem? (i := 1) rfl)) (by decide) rfl rfl ga rfl (fun T760 h761 w762 W763 => ?_)
  have E764 := E753.wr W763
  have F765 := F754.other W763 (Or.inr (slot_ne (t := .int) (t' := .int) (Or.inr (hw _ (List.mem_of_getElem? (i := 13) rfl))) (Or.inl (hw _ (List.mem_of_getElem? (i := 17) rfl))) (by decide) (by decide) (by decide)))
  have F766 := F755.other W763 (Or.inr (slot_ne (t := .boolean) (t' := .int) (Or.inr (hw _ (List.mem_of_getElem? (i := 15) rfl))) (Or.inl (hw _ (List.mem_of_getElem? (i := 17) rfl))) (by decide) (by decide) (by decide)))
  have F767 := F756.same W763
  have F768 := F757.other W763 (Or.inr (slot_ne (t := (.array .byte)) (t' := .int) (Or.inl (hw _ (List.mem_of_getElem? (i := 24) rfl))) (Or.inl (hw _ (List.mem_of_getElem? (i := 17) rfl))) (by decide) (by decide) (by decide)))
  have F769 := F758.other W763 (Or.inr (slot_ne (t := .int) (t' := .int) (Or.inl (hw _ (List.mem_of_getElem? (i := 40) rfl))) (Or.inl (hw _ (List.mem_of_getElem? (i := 17) rfl))) (by decide) (by decide) (by decide)))
  have z770 : n0 ≤ h761.size := by rw [W763.size]; exact z759
  refine galoadN (pc' := 21) (Ls := #[.val (.ref a), .val (.int md), .val (.int (0 : Int32)), .val (.int cc), .val (.int (0 : Int32))]) (rest := []) w762 d2_20 rfl rfl rfl ?_
  refine giloadN (pc' := 22) (Ls := #[.val (.ref a), .val (.int md), .val (.int (0 : Int32)), .val (.int cc), .val (.int (0 : Int32))]) (rest := [(.ref a)]) w762 d2_21 rfl rfl ?_
  refine giloadN (pc' := 23) (Ls := #[.val (.ref a), .val (.int md), .val (.int (0 : Int32)), .val (.int cc), .val (.int (0 : Int32))]) (rest := [(.int cc), (.ref a)]) w762 d2_22 rfl rfl ?_
  refine gcallS (pc' := 26) (argsL := [(.int cc), (.int (0 : Int32))]) (rest := [(.ref a)]) (Wt := 1) w762 d2_23 (hw _ (List.mem_of_getElem? (i := 18) rfl)) (hw _ (List.mem_of_getElem? (i := 19) rfl)) (hw _ (List.mem_of_getElem? (i := 20) rfl)) (hw _ (List.mem_of_getElem? (i := 21) rfl)) (by decide) pd_d4 (own_cmax hw cc (0 : Int32)) rfl rfl rfl rfl (Nat.le_of_eq rfl) (by decide) (by decide) (by decide) (by decide) rfl (fun v771 T772 h773 w774 q775 => ?_)
  obtain ⟨rfl, eh⟩ := q775
  show Go _ _ _ _ _ _ _ _ _ (mkF m 26 #[.val (.ref a), .val (.int md), .val (.int (0 : Int32)), .val (.int cc), .val (.int (0 : Int32))] [(.int (own_max cc (0 : Int32))), (.ref a)])
  rw [eh] at w774
  refine gnewP (pc' := 28) (cap := 63) (ty := .byte) w774 d2_26 rfl (hw _ (List.mem_of_getElem? (i := 22) rfl)) (own_mc hc1 hc2).1 (own_mc hc1 hc2).2 (by decide) (by decide) (by decide) rfl (fun T776 h777 c kc s778 w779 E780 V781 => ?_)
  have g_c : n0 ≤ c := Nat.le_trans z770 (Nat.le_of_eq s778)
  have ne_a_c : a ≠ c := Nat.ne_of_lt (s778 ▸ E764.lt)
  have E782 := E764.ext E780
  have F783 := F765.ext E780
  have F784 := F766.ext E780
  have F785 := F767.ext E780
  have F786 := F768.ext E780
  have F787 := F769.ext E780
  have z788 := Nat.le_trans z770 E780.1
  refine gputF (pc' := 31) (v' := (.ref c)) (ty := (.array .byte)) w779 d2_28 (hw _ (List.mem_of_getElem? (i := 23) rfl)) F786 E782 (Or.inl (hw _ (List.mem_of_getElem? (i := 24) rfl))) (hw _ (List.mem_of_getElem? (i := 1) rfl)) (by decide) rfl rfl ga rfl (fun T789 h790 w791 W792 => ?_)
  have E793 := E782.wr W792
  have F794 := F783.other W792 (Or.inr (slot_ne (t := .int) (t' := (.array .byte)) (Or.inr (hw _ (List.mem_of_getElem? (i := 13) rfl))) (Or.inl (hw _ (List.mem_of_getElem? (i := 24) rfl))) (by decide) (by decide) (by decide)))
  have F795 := F784.other W792 (Or.inr (slot_ne (t := .boolean) (t' := (.array .byte)) (Or.inr (hw _ (List.mem_of_getElem? (i := 15) rfl))) (Or.inl (hw _ (List.mem_of_getElem? (i := 24) rfl))) (by decide) (by decide) (by decide)))
  have F796 := F785.other W792 (Or.inr (slot_ne (t := .int) (t' := (.array .byte)) (Or.inl (hw _ (List.mem_of_getElem? (i := 17) rfl))) (Or.inl (hw _ (List.mem_of_getElem? (i := 24) rfl))) (by decide) (by decide) (by decide)))
  have F797 := F786.same W792
  have F798 := F787.other W792 (Or.inr (slot_ne (t := .int) (t' := (.array .byte)) (Or.inl (hw _ (List.mem_of_getElem? (i := 40) rfl))) (Or.inl (hw _ (List.mem_of_getElem? (i := 24) rfl))) (by decide) (by decide) (by decide)))
  have V799 := V781.other W792 (Ne.symm ne_a_c)
  have z800 : n0 ≤ h790.size := by rw [W792.size]; exact z788
  exact gret0 w791 d2_31 (by decide) (by decide) ⟨rfl, c, _, ⟨E793, F794, F795, F796, F797, F798, own_Bpad V799, ne_a_c⟩, g_c, z800⟩
set_option maxRecDepth 65536 in
set_option maxHeartbeats 4000000 in
theorem own_i3 (hw : ∀ d ∈ tables_1, d.before a0 Z = true) (a : Addr) (md cc : Int32) (hc1 : ¬ cc < 0) (hc2 : ¬ 63 < cc) (z0 : n0 ≤ h.size) (ga : n0 ≤ a) (E0 : Exa Z h a "com/example/halyard/halyard/wire/CdrWriter") (F_maxAlignment : Fld Z h a "com/example/halyard/halyard/wire/CdrWriter" "maxAlignment" "I" (.int (0 : Int32))) (F_bigEndian : Fld Z h a "com/example/halyard/halyard/wire/CdrWriter" "bigEndian" "Z" (.int (0 : Int32))) (F_origin : Fld Z h a "com/example/halyard/halyard/wire/CdrWriter" "origin" "I" (.int (0 : Int32))) (F_out : Fld Z h a "com/example/halyard/halyard/wire/CdrWriter" "out" "[B" .null) (F_position : Fld Z h a "com/example/halyard/halyard/wire/CdrWriter" "position" "I" (.int (0 : Int32))) :
    Ctr l (⟨"com/example/halyard/halyard/wire/CdrWriter", "<init>", "(III)V"⟩ : MethodName) prog_115_method_3_code 4 none ({ frames := 2, cells := 1, slots := 63, locals := 64 } : Room) Z #[(.ref a), (.int md), (.int (0 : Int32)), (.int cc)] h n0 (fun v h' => v = none ∧ ∃ b' z', own_WT Z h' a b' md (0 : Int32) z' ∧ n0 ≤ b' ∧ n0 ≤ h'.size) [] := by
  refine metGo (Ls := #[.val (.ref a), .val (.int md), .val (.int (0 : Int32)), .val (.int cc)]) pn_d1 (fun m => by first | rfl | (simp [entryFrame, mkF, argsToLocals, Value.category]; done) | (simp [entryFrame, mkF, argsToLocals, Value.category, maxLocals]; done)) ?_
  intro p e s m below meth c T w
  refine galoadN (pc' := 1) (Ls := #[.val (.ref a), .val (.int md), .val (.int (0 : Int32)), .val (.int cc)]) (rest := []) w d1_0 rfl rfl rfl ?_
  refine giloadN (pc' := 2) (Ls := #[.val (.ref a), .val (.int md), .val (.int (0 : Int32)), .val (.int cc)]) (rest := [(.ref a)]) w d1_1 rfl rfl ?_
  refine giloadN (pc' := 3) (Ls := #[.val (.ref a), .val (.int md), .val (.int (0 : Int32)), .val (.int cc)]) (rest := [(.int md), (.ref a)]) w d1_2 rfl rfl ?_
  refine giloadN (pc' := 4) (Ls := #[.val (.ref a), .val (.int md), .val (.int (0 : Int32)), .val (.int cc)]) (rest := [(.int (0 : Int32)), (.int md), (.ref a)]) w d1_3 rfl rfl ?_
  refine giconst (v := (0 : Int32)) (pc' := 5) w d1_4 rfl rfl ?_
  refine gcallN (pc' := 8) (argsL := [(.int md), (.int (0 : Int32)), (.int cc), (.int (0 : Int32))]) (rest := []) (Wt := 0) w d1_5 (hw _ (List.mem_of_getElem? (i := 6) rfl)) (hw _ (List.mem_of_getElem? (i := 7) rfl)) (hw _ (List.mem_of_getElem? (i := 2) rfl)) (hw _ (List.mem_of_getElem? (i := 8) rfl)) rfl (by decide) pd_d2 (own_i4 hw a md cc hc1 hc2 z0 ga E0 F_maxAlignment F_bigEndian F_origin F_out F_position) rfl rfl rfl rfl (Nat.le_of_eq rfl) (by decide) (by decide) (by decide) (by decide) rfl (fun v801 T802 h803 w804 q805 => ?_)
  obtain ⟨rfl, QQ⟩ := q805
  show Go _ _ _ _ _ _ _ _ _ (mkF m 8 #[.val (.ref a), .val (.int md), .val (.int (0 : Int32)), .val (.int cc)] [])
  exact gret0 w804 d1_8 (by decide) (by decide) ⟨rfl, QQ⟩
set_option maxRecDepth 65536 in
set_option maxHeartbeats 4000000 in
theorem own_e4 (hw : ∀ d ∈ tables_1, d.before a0 Z = true) (w : W Z "com/example/halyard/halyard/wire/CdrWriterXcdr2PinLaw" "law" code maxLocals ret n0 p l e room_1 s m args below meth c 2 68 T h) (fl raw cap : Int32) (v' : Int64) (xx : Int32) (hxx : xx = (1 : Int32)) (a b : Addr) (z : Int32) (z0 : n0 ≤ h.size) (ga : n0 ≤ a) (gb : n0 ≤ b) (WT : own_WT Z h a b (4 : Int32) (0 : Int32) z) :
    Go n0 p e below s (fun v _ => v = some (.int 1)) room_1.cells room_1.slots T (mkF m 87 #[.val (.int fl), .val (.int raw), .val (.int cap), .val (.long v'), .second, .val (.int (4 : Int32)), .val (.ref a), .val (.int xx), .val (.int (1 : Int32))] []) := by
  obtain ⟨E0, Fm, Fb, Fg, Fo, Fp, ⟨kb, vb, db, lb, Vb⟩, nab⟩ := WT
  refine gaload (pc' := 89) (Ls := #[.val (.int fl), .val (.int raw), .val (.int cap), .val (.long v'), .second, .val (.int (4 : Int32)), .val (.ref a), .val (.int xx), .val (.int (1 : Int32))]) (rest := []) w at_87 rfl rfl rfl ?_
  refine giconst (v := (1 : Int32)) (pc' := 90) w at_89 rfl rfl ?_
  refine gcallV (pc' := 93) (argsL := [(.int (1 : Int32))]) (rest := []) (Wt := 0) w at_90 (hw _ (List.mem_of_getElem? (i := 30) rfl)) (hw _ (List.mem_of_getElem? (i := 31) rfl)) (hw _ (List.mem_of_getElem? (i := 33) rfl)) (hw _ (List.mem_of_getElem? (i := 32) rfl)) (hw _ (List.mem_of_getElem? (i := 2) rfl)) (hw _ (List.mem_of_getElem? (i := 34) rfl)) E0 rfl (by decide) pd_d6 (own_wb hw a b (4 : Int32) z z0 ga gb ⟨E0, Fm, Fb, Fg, Fo, Fp, own_Bpad Vb, nab⟩) rfl rfl rfl rfl (Nat.le_of_eq rfl) (by decide) (by decide) (by decide) (by decide) rfl (fun v807 T808 h809 w810 q811 => ?_)
  obtain ⟨rfl, b_806, z_806, ⟨E0_806, Fm_806, Fb_806, Fg_806, Fo_806, Fp_806, ⟨kb_806, vb_806, db_806, lb_806, Vb_806⟩, nab_806⟩, gb_806, zz_806⟩ := q811
  show Go _ _ _ _ _ _ _ _ _ (mkF m 93 #[.val (.int fl), .val (.int raw), .val (.int cap), .val (.long v'), .second, .val (.int (4 : Int32)), .val (.ref a), .val (.int xx), .val (.int (1 : Int32))] [])
  refine gaload (pc' := 95) (Ls := #[.val (.int fl), .val (.int raw), .val (.int cap), .val (.long v'), .second, .val (.int (4 : Int32)), .val (.ref a), .val (.int xx), .val (.int (1 : Int32))]) (rest := []) w810 at_93 rfl rfl rfl ?_
  refine glloadN (pc' := 96) (Ls := #[.val (.int fl), .val (.int raw), .val (.int cap), .val (.long v'), .second, .val (.int (4 : Int32)), .val (.ref a), .val (.int xx), .val (.int (1 : Int32))]) (rest := [(.ref a)]) w810 at_95 rfl rfl ?_
  refine gcallV (pc' := 99) (argsL := [(.long v')]) (rest := []) (Wt := 0) w810 at_96 (hw _ (List.mem_of_getElem? (i := 41) rfl)) (hw _ (List.mem_of_getElem? (i := 42) rfl)) (hw _ (List.mem_of_getElem? (i := 44) rfl)) (hw _ (List.mem_of_getElem? (i := 43) rfl)) (hw _ (List.mem_of_getElem? (i := 2) rfl)) (hw _ (List.mem_of_getElem? (i := 45) rfl)) E0_806 rfl (by decide) pd_d8 (own_wl4 hw v' a b_806 z_806 zz_806 ga gb_806 ⟨E0_806, Fm_806, Fb_806, Fg_806, Fo_806, Fp_806, own_Bpad Vb_806, nab_806⟩) rfl rfl rfl rfl (Nat.le_of_eq rfl) (by decide) (by decide) (by decide) (by decide) rfl (fun v813 T814 h815 w816 q817 => ?_)
  obtain ⟨rfl, b_812, z_812, ⟨E0_812, Fm_812, Fb_812, Fg_812, Fo_812, Fp_812, ⟨kb_812, vb_812, db_812, lb_812, Vb_812⟩, nab_812⟩, gb_812, zz_812⟩ := q817
  show Go _ _ _ _ _ _ _ _ _ (mkF m 99 #[.val (.int fl), .val (.int raw), .val (.int cap), .val (.long v'), .second, .val (.int (4 : Int32)), .val (.ref a), .val (.int xx), .val (.int (1 : Int32))] [])
  refine giload (pc' := 101) (Ls := #[.val (.int fl), .val (.int raw), .val (.int cap), .val (.long v'), .second, .val (.int (4 : Int32)), .val (.ref a), .val (.int xx), .val (.int (1 : Int32))]) (rest := []) w816 at_99 rfl rfl ?_
  refine gif (pt := 128) (pf := 104) w816 at_101  (by decide) rfl rfl (fun (c101 : (1 : Int32) = (0 : Int32)) => ?_) (fun (c101 : ¬ (1 : Int32) = (0 : Int32)) => ?_)
  · exact absurd c101 (by decide)
  · refine gaload (pc' := 106) (Ls := #[.val (.int fl), .val (.int raw), .val (.int cap), .val (.long v'), .second, .val (.int (4 : Int32)), .val (.ref a), .val (.int xx), .val (.int (1 : Int32))]) (rest := []) w816 at_104 rfl rfl rfl ?_
    refine gcallV (pc' := 109) (argsL := []) (rest := []) (Wt := 0) w816 at_106 (hw _ (List.mem_of_getElem? (i := 65) rfl)) (hw _ (List.mem_of_getElem? (i := 66) rfl)) (hw _ (List.mem_of_getElem? (i := 68) rfl)) (hw _ (List.mem_of_getElem? (i := 67) rfl)) (hw _ (List.mem_of_getElem? (i := 2) rfl)) (hw _ (List.mem_of_getElem? (i := 69) rfl)) E0_812 rfl (by decide) pd_d14 (own_po hw a (12 : Int32) Fp_812) rfl rfl rfl rfl (Nat.le_of_eq rfl) (by decide) (by decide) (by decide) (by decide) rfl (fun v818 T819 h820 w821 q822 => ?_)
    obtain ⟨rfl, eh⟩ := q822
    show Go _ _ _ _ _ _ _ _ _ (mkF m 109 #[.val (.int fl), .val (.int raw), .val (.int cap), .val (.long v'), .second, .val (.int (4 : Int32)), .val (.ref a), .val (.int xx), .val (.int (1 : Int32))] [(.int (12 : Int32))])
    rw [eh] at w821
    refine giload (pc' := 111) (Ls := #[.val (.int fl), .val (.int raw), .val (.int cap), .val (.long v'), .second, .val (.int (4 : Int32)), .val (.ref a), .val (.int xx), .val (.int (1 : Int32))]) (rest := [(.int (12 : Int32))]) w821 at_109 rfl rfl ?_
    refine gif (pt := 119) (pf := 114) w821 at_111  (by decide) rfl rfl (fun (c111 : xx = (0 : Int32)) => ?_) (fun (c111 : ¬ xx = (0 : Int32)) => ?_)
    · exact absurd c111 (by rw [hxx]; decide)
    · refine gbipush (v := (12 : Int32)) (pc' := 116) w821 at_114 rfl rfl ?_
      refine ggoto (pc' := 121) w821 at_116 (by decide) rfl ?_
      refine gicmp (pt := 128) (pf := 124) w821 at_121  (by decide) rfl rfl (fun (c121 : ¬ (12 : Int32) = (12 : Int32)) => ?_) (fun (c121 : (12 : Int32) = (12 : Int32)) => ?_)
      · exact absurd c121 (by decide)
      · refine giconst (v := (1 : Int32)) (pc' := 125) w821 at_124 rfl rfl ?_
        refine ggoto (pc' := 129) w821 at_125 (by decide) rfl ?_
        refine gistore (pc' := 131) (Ls := #[.val (.int fl), .val (.int raw), .val (.int cap), .val (.long v'), .second, .val (.int (4 : Int32)), .val (.ref a), .val (.int xx), .val (.int (1 : Int32))]) (Ls' := #[.val (.int fl), .val (.int raw), .val (.int cap), .val (.long v'), .second, .val (.int (4 : Int32)), .val (.ref a), .val (.int xx), .val (.int (1 : Int32))]) (rest := []) w821 at_129 rfl rfl ?_
        refine giload (pc' := 133) (Ls := #[.val (.int fl), .val (.int raw), .val (.int cap), .val (.long v'), .second, .val (.int (4 : Int32)), .val (.ref a), .val (.int xx), .val (.int (1 : Int32))]) (rest := []) w821 at_131 rfl rfl ?_
        exact gretZ w821 at_133 rfl (by decide) (by decide) rfl
set_option maxRecDepth 65536 in
set_option maxHeartbeats 4000000 in
theorem own_e8 (hw : ∀ d ∈ tables_1, d.before a0 Z = true) (w : W Z "com/example/halyard/halyard/wire/CdrWriterXcdr2PinLaw" "law" code maxLocals ret n0 p l e room_1 s m args below meth c 2 68 T h) (fl raw cap : Int32) (v' : Int64) (xx : Int32) (hxx : xx = (0 : Int32)) (a b : Addr) (z : Int32) (z0 : n0 ≤ h.size) (ga : n0 ≤ a) (gb : n0 ≤ b) (WT : own_WT Z h a b (8 : Int32) (0 : Int32) z) :
    Go n0 p e below s (fun v _ => v = some (.int 1)) room_1.cells room_1.slots T (mkF m 87 #[.val (.int fl), .val (.int raw), .val (.int cap), .val (.long v'), .second, .val (.int (8 : Int32)), .val (.ref a), .val (.int xx), .val (.int (1 : Int32))] []) := by
  obtain ⟨E0, Fm, Fb, Fg, Fo, Fp, ⟨kb, vb, db, lb, Vb⟩, nab⟩ := WT
  refine gaload (pc' := 89) (Ls := #[.val (.int fl), .val (.int raw), .val (.int cap), .val (.long v'), .second, .val (.int (8 : Int32)), .val (.ref a), .val (.int xx), .val (.int (1 : Int32))]) (rest := []) w at_87 rfl rfl rfl ?_
  refine giconst (v := (1 : Int32)) (pc' := 90) w at_89 rfl rfl ?_
  refine gcallV (pc' := 93) (argsL := [(.int (1 : Int32))]) (rest := []) (Wt := 0) w at_90 (hw _ (List.mem_of_getElem? (i := 30) rfl)) (hw _ (List.mem_of_getElem? (i := 31) rfl)) (hw _ (List.mem_of_getElem? (i := 33) rfl)) (hw _ (List.mem_of_getElem? (i := 32) rfl)) (hw _ (List.mem_of_getElem? (i := 2) rfl)) (hw _ (List.mem_of_getElem? (i := 34) rfl)) E0 rfl (by decide) pd_d6 (own_wb hw a b (8 : Int32) z z0 ga gb ⟨E0, Fm, Fb, Fg, Fo, Fp, own_Bpad Vb, nab⟩) rfl rfl rfl rfl (Nat.le_of_eq rfl) (by decide) (by decide) (by decide) (by decide) rfl (fun v824 T825 h826 w827 q828 => ?_)
  obtain ⟨rfl, b_823, z_823, ⟨E0_823, Fm_823, Fb_823, Fg_823, Fo_823, Fp_823, ⟨kb_823, vb_823, db_823, lb_823, Vb_823⟩, nab_823⟩, gb_823, zz_823⟩ := q828
  show Go _ _ _ _ _ _ _ _ _ (mkF m 93 #[.val (.int fl), .val (.int raw), .val (.int cap), .val (.long v'), .second, .val (.int (8 : Int32)), .val (.ref a), .val (.int xx), .val (.int (1 : Int32))] [])
  refine gaload (pc' := 95) (Ls := #[.val (.int fl), .val (.int raw), .val (.int cap), .val (.long v'), .second, .val (.int (8 : Int32)), .val (.ref a), .val (.int xx), .val (.int (1 : Int32))]) (rest := []) w827 at_93 rfl rfl rfl ?_
  refine glloadN (pc' := 96) (Ls := #[.val (.int fl), .val (.int raw), .val (.int cap), .val (.long v'), .second, .val (.int (8 : Int32)), .val (.ref a), .val (.int xx), .val (.int (1 : Int32))]) (rest := [(.ref a)]) w827 at_95 rfl rfl ?_
  refine gcallV (pc' := 99) (argsL := [(.long v')]) (rest := []) (Wt := 0) w827 at_96 (hw _ (List.mem_of_getElem? (i := 41) rfl)) (hw _ (List.mem_of_getElem? (i := 42) rfl)) (hw _ (List.mem_of_getElem? (i := 44) rfl)) (hw _ (List.mem_of_getElem? (i := 43) rfl)) (hw _ (List.mem_of_getElem? (i := 2) rfl)) (hw _ (List.mem_of_getElem? (i := 45) rfl)) E0_823 rfl (by decide) pd_d8 (own_wl8 hw v' a b_823 z_823 zz_823 ga gb_823 ⟨E0_823, Fm_823, Fb_823, Fg_823, Fo_823, Fp_823, own_Bpad Vb_823, nab_823⟩) rfl rfl rfl rfl (Nat.le_of_eq rfl) (by decide) (by decide) (by decide) (by decide) rfl (fun v830 T831 h832 w833 q834 => ?_)
  obtain ⟨rfl, b_829, z_829, ⟨E0_829, Fm_829, Fb_829, Fg_829, Fo_829, Fp_829, ⟨kb_829, vb_829, db_829, lb_829, Vb_829⟩, nab_829⟩, gb_829, zz_829⟩ := q834
  show Go _ _ _ _ _ _ _ _ _ (mkF m 99 #[.val (.int fl), .val (.int raw), .val (.int cap), .val (.long v'), .second, .val (.int (8 : Int32)), .val (.ref a), .val (.int xx), .val (.int (1 : Int32))] [])
  refine giload (pc' := 101) (Ls := #[.val (.int fl), .val (.int raw), .val (.int cap), .val (.long v'), .second, .val (.int (8 : Int32)), .val (.ref a), .val (.int xx), .val (.int (1 : Int32))]) (rest := []) w833 at_99 rfl rfl ?_
  refine gif (pt := 128) (pf := 104) w833 at_101  (by decide) rfl rfl (fun (c101 : (1 : Int32) = (0 : Int32)) => ?_) (fun (c101 : ¬ (1 : Int32) = (0 : Int32)) => ?_)
  · exact absurd c101 (by decide)
  · refine gaload (pc' := 106) (Ls := #[.val (.int fl), .val (.int raw), .val (.int cap), .val (.long v'), .second, .val (.int (8 : Int32)), .val (.ref a), .val (.int xx), .val (.int (1 : Int32))]) (rest := []) w833 at_104 rfl rfl rfl ?_
    refine gcallV (pc' := 109) (argsL := []) (rest := []) (Wt := 0) w833 at_106 (hw _ (List.mem_of_getElem? (i := 65) rfl)) (hw _ (List.mem_of_getElem? (i := 66) rfl)) (hw _ (List.mem_of_getElem? (i := 68) rfl)) (hw _ (List.mem_of_getElem? (i := 67) rfl)) (hw _ (List.mem_of_getElem? (i := 2) rfl)) (hw _ (List.mem_of_getElem? (i := 69) rfl)) E0_829 rfl (by decide) pd_d14 (own_po hw a (16 : Int32) Fp_829) rfl rfl rfl rfl (Nat.le_of_eq rfl) (by decide) (by decide) (by decide) (by decide) rfl (fun v835 T836 h837 w838 q839 => ?_)
    obtain ⟨rfl, eh⟩ := q839
    show Go _ _ _ _ _ _ _ _ _ (mkF m 109 #[.val (.int fl), .val (.int raw), .val (.int cap), .val (.long v'), .second, .val (.int (8 : Int32)), .val (.ref a), .val (.int xx), .val (.int (1 : Int32))] [(.int (16 : Int32))])
    rw [eh] at w838
    refine giload (pc' := 111) (Ls := #[.val (.int fl), .val (.int raw), .val (.int cap), .val (.long v'), .second, .val (.int (8 : Int32)), .val (.ref a), .val (.int xx), .val (.int (1 : Int32))]) (rest := [(.int (16 : Int32))]) w838 at_109 rfl rfl ?_
    refine gif (pt := 119) (pf := 114) w838 at_111  (by decide) rfl rfl (fun (c111 : xx = (0 : Int32)) => ?_) (fun (c111 : ¬ xx = (0 : Int32)) => ?_)
    · refine gbipush (v := (16 : Int32)) (pc' := 121) w838 at_119 rfl rfl ?_
      refine gicmp (pt := 128) (pf := 124) w838 at_121  (by decide) rfl rfl (fun (c121 : ¬ (16 : Int32) = (16 : Int32)) => ?_) (fun (c121 : (16 : Int32) = (16 : Int32)) => ?_)
      · exact absurd c121 (by decide)
      · refine giconst (v := (1 : Int32)) (pc' := 125) w838 at_124 rfl rfl ?_
        refine ggoto (pc' := 129) w838 at_125 (by decide) rfl ?_
        refine gistore (pc' := 131) (Ls := #[.val (.int fl), .val (.int raw), .val (.int cap), .val (.long v'), .second, .val (.int (8 : Int32)), .val (.ref a), .val (.int xx), .val (.int (1 : Int32))]) (Ls' := #[.val (.int fl), .val (.int raw), .val (.int cap), .val (.long v'), .second, .val (.int (8 : Int32)), .val (.ref a), .val (.int xx), .val (.int (1 : Int32))]) (rest := []) w838 at_129 rfl rfl ?_
        refine giload (pc' := 133) (Ls := #[.val (.int fl), .val (.int raw), .val (.int cap), .val (.long v'), .second, .val (.int (8 : Int32)), .val (.ref a), .val (.int xx), .val (.int (1 : Int32))]) (rest := []) w838 at_131 rfl rfl ?_
        exact gretZ w838 at_133 rfl (by decide) (by decide) rfl
    · exact absurd hxx c111
theorem own_m63 (k : Int32) : ¬ (k &&& (63 : Int32)) < 0 ∧ ¬ 63 < (k &&& (63 : Int32)) := by
  have e : (k &&& (63 : Int32)).toInt = k.toInt % 2 ^ 6 := Jvm.Kit.i32_mask k 63 (k := 6) (by decide) (by decide)
  rw [Int32.lt_iff_toInt_lt, Int32.lt_iff_toInt_lt, e]
  have k0 : (0 : Int32).toInt = 0 := rfl
  have k4 : (63 : Int32).toInt = 63 := rfl
  omega
set_option maxRecDepth 65536 in
set_option maxHeartbeats 4000000 in
theorem own_b28 (hw : ∀ d ∈ tables_1, d.before a0 Z = true) (w : W Z "com/example/halyard/halyard/wire/CdrWriterXcdr2PinLaw" "law" code maxLocals ret n0 p l e room_1 s m args below meth c 0 0 T h) (fl raw cap : Int32) (v' : Int64) (md : Int32) (z0 : n0 ≤ h.size) :
    Go n0 p e below s (fun v _ => v = some (.int 1)) room_1.cells room_1.slots T (mkF m 28 #[.val (.int fl), .val (.int raw), .val (.int cap), .val (.long v'), .second, .val (.int md), .unset, .unset, .unset] []) := by
  refine gnewO (pc' := 31) w at_28 (hw _ (List.mem_of_getElem? (i := 0) rfl)) (hw _ (List.mem_of_getElem? (i := 1) rfl)) (hw _ (List.mem_of_getElem? (i := 2) rfl)) (by decide) (by decide) rfl (fun T840 h841 a s842 w843 E844 A845 D846 => ?_)
  have g_a : n0 ≤ a := Nat.le_trans z0 (Nat.le_of_eq s842)
  have z847 := Nat.le_trans z0 E844.1
  have F848 : Fld Z h841 a "com/example/halyard/halyard/wire/CdrWriter" "maxAlignment" "I" (.int (0 : Int32)) := D846 (Or.inr (hw _ (List.mem_of_getElem? (i := 13) rfl))) (ty := .int) (by decide)
  have F849 : Fld Z h841 a "com/example/halyard/halyard/wire/CdrWriter" "bigEndian" "Z" (.int (0 : Int32)) := D846 (Or.inr (hw _ (List.mem_of_getElem? (i := 15) rfl))) (ty := .boolean) (by decide)
  have F850 : Fld Z h841 a "com/example/halyard/halyard/wire/CdrWriter" "origin" "I" (.int (0 : Int32)) := D846 (Or.inl (hw _ (List.mem_of_getElem? (i := 17) rfl))) (ty := .int) (by decide)
  have F851 : Fld Z h841 a "com/example/halyard/halyard/wire/CdrWriter" "out" "[B" .null := D846 (Or.inl (hw _ (List.mem_of_getElem? (i := 24) rfl))) (ty := (.array .byte)) (by decide)
  have F852 : Fld Z h841 a "com/example/halyard/halyard/wire/CdrWriter" "position" "I" (.int (0 : Int32)) := D846 (Or.inl (hw _ (List.mem_of_getElem? (i := 40) rfl))) (ty := .int) (by decide)
  refine gdup (pc' := 32) w843 at_31 rfl rfl ?_
  refine giload (pc' := 34) (Ls := #[.val (.int fl), .val (.int raw), .val (.int cap), .val (.long v'), .second, .val (.int md), .unset, .unset, .unset]) (rest := [(.ref a), (.ref a)]) w843 at_32 rfl rfl ?_
  refine giconst (v := (0 : Int32)) (pc' := 35) w843 at_34 rfl rfl ?_
  refine giloadN (pc' := 36) (Ls := #[.val (.int fl), .val (.int raw), .val (.int cap), .val (.long v'), .second, .val (.int md), .unset, .unset, .unset]) (rest := [(.int (0 : Int32)), (.int md), (.ref a), (.ref a)]) w843 at_35 rfl rfl ?_
  refine gbipush (v := (63 : Int32)) (pc' := 38) w843 at_36 rfl rfl ?_
  refine giand (pc' := 39) w843 at_38 rfl ?_
  refine gcallN (pc' := 42) (argsL := [(.int md), (.int (0 : Int32)), (.int (cap &&& (63 : Int32)))]) (rest := [(.ref a)]) (Wt := 1) w843 at_39 (hw _ (List.mem_of_getElem? (i := 3) rfl)) (hw _ (List.mem_of_getElem? (i := 4) rfl)) (hw _ (List.mem_of_getElem? (i := 2) rfl)) (hw _ (List.mem_of_getElem? (i := 5) rfl)) rfl (by decide) pd_d1 (own_i3 hw a md _ (own_m63 _).1 (own_m63 _).2 z847 g_a A845 F848 F849 F850 F851 F852) rfl rfl rfl rfl (Nat.le_of_eq rfl) (by decide) (by decide) (by decide) (by decide) rfl (fun v853 T854 h855 w856 q857 => ?_)
  obtain ⟨rfl, b, z, ⟨E0, Fm, Fb, Fg, Fo, Fp, ⟨kb, vb, db, lb, Vb⟩, nab⟩, gb, zz⟩ := q857
  show Go _ _ _ _ _ _ _ _ _ (mkF m 42 #[.val (.int fl), .val (.int raw), .val (.int cap), .val (.long v'), .second, .val (.int md), .unset, .unset, .unset] [(.ref a)])
  refine gastore (pc' := 44) (Ls := #[.val (.int fl), .val (.int raw), .val (.int cap), .val (.long v'), .second, .val (.int md), .unset, .unset, .unset]) (Ls' := #[.val (.int fl), .val (.int raw), .val (.int cap), .val (.long v'), .second, .val (.int md), .val (.ref a), .unset, .unset]) (rest := []) w856 at_42 rfl rfl rfl ?_
  refine gaload (pc' := 46) (Ls := #[.val (.int fl), .val (.int raw), .val (.int cap), .val (.long v'), .second, .val (.int md), .val (.ref a), .unset, .unset]) (rest := []) w856 at_44 rfl rfl rfl ?_
  refine gcallV (pc' := 49) (argsL := []) (rest := []) (Wt := 0) w856 at_46 (hw _ (List.mem_of_getElem? (i := 25) rfl)) (hw _ (List.mem_of_getElem? (i := 26) rfl)) (hw _ (List.mem_of_getElem? (i := 28) rfl)) (hw _ (List.mem_of_getElem? (i := 27) rfl)) (hw _ (List.mem_of_getElem? (i := 2) rfl)) (hw _ (List.mem_of_getElem? (i := 29) rfl)) E0 rfl (by decide) pd_d5 (own_xc hw a md Fm) rfl rfl rfl rfl (Nat.le_of_eq rfl) (by decide) (by decide) (by decide) (by decide) rfl (fun v858 T859 h860 w861 q862 => ?_)
  obtain ⟨rfl, eh⟩ := q862
  show Go _ _ _ _ _ _ _ _ _ (mkF m 49 #[.val (.int fl), .val (.int raw), .val (.int cap), .val (.long v'), .second, .val (.int md), .val (.ref a), .unset, .unset] [(.int (own_x md))])
  rw [eh] at w861
  refine gistore (pc' := 51) (Ls := #[.val (.int fl), .val (.int raw), .val (.int cap), .val (.long v'), .second, .val (.int md), .val (.ref a), .unset, .unset]) (Ls' := #[.val (.int fl), .val (.int raw), .val (.int cap), .val (.long v'), .second, .val (.int md), .val (.ref a), .val (.int (own_x md)), .unset]) (rest := []) w861 at_49 rfl rfl ?_
  refine giload (pc' := 53) (Ls := #[.val (.int fl), .val (.int raw), .val (.int cap), .val (.long v'), .second, .val (.int md), .val (.ref a), .val (.int (own_x md)), .unset]) (rest := []) w861 at_51 rfl rfl ?_
  refine giload (pc' := 55) (Ls := #[.val (.int fl), .val (.int raw), .val (.int cap), .val (.long v'), .second, .val (.int md), .val (.ref a), .val (.int (own_x md)), .unset]) (rest := [(.int (own_x md))]) w861 at_53 rfl rfl ?_
  refine giconst (v := (4 : Int32)) (pc' := 56) w861 at_55 rfl rfl ?_
  refine gicmp (pt := 63) (pf := 59) w861 at_56  (by decide) rfl rfl (fun (c56 : ¬ md = (4 : Int32)) => ?_) (fun (c56 : md = (4 : Int32)) => ?_)
  · refine giconst (v := (0 : Int32)) (pc' := 64) w861 at_63 rfl rfl ?_
    refine gicmp (pt := 71) (pf := 67) w861 at_64  (by decide) rfl rfl (fun (c64 : ¬ (own_x md) = (0 : Int32)) => ?_) (fun (c64 : (own_x md) = (0 : Int32)) => ?_)
    · exact absurd (by unfold own_x; rw [if_neg c56]) c64
    · refine giconst (v := (1 : Int32)) (pc' := 68) w861 at_67 rfl rfl ?_
      refine ggoto (pc' := 72) w861 at_68 (by decide) rfl ?_
      refine gistore (pc' := 74) (Ls := #[.val (.int fl), .val (.int raw), .val (.int cap), .val (.long v'), .second, .val (.int md), .val (.ref a), .val (.int (own_x md)), .unset]) (Ls' := #[.val (.int fl), .val (.int raw), .val (.int cap), .val (.long v'), .second, .val (.int md), .val (.ref a), .val (.int (own_x md)), .val (.int (1 : Int32))]) (rest := []) w861 at_72 rfl rfl ?_
      refine giload (pc' := 76) (Ls := #[.val (.int fl), .val (.int raw), .val (.int cap), .val (.long v'), .second, .val (.int md), .val (.ref a), .val (.int (own_x md)), .val (.int (1 : Int32))]) (rest := []) w861 at_74 rfl rfl ?_
      refine giconst (v := (4 : Int32)) (pc' := 77) w861 at_76 rfl rfl ?_
      refine gicmp (pt := 87) (pf := 80) w861 at_77  (by decide) rfl rfl (fun (c77 : md = (4 : Int32)) => ?_) (fun (c77 : ¬ md = (4 : Int32)) => ?_)
      · exact absurd c77 c56
      · refine giload (pc' := 82) (Ls := #[.val (.int fl), .val (.int raw), .val (.int cap), .val (.long v'), .second, .val (.int md), .val (.ref a), .val (.int (own_x md)), .val (.int (1 : Int32))]) (rest := []) w861 at_80 rfl rfl ?_
        refine gbipush (v := (8 : Int32)) (pc' := 84) w861 at_82 rfl rfl ?_
        refine gicmp (pt := 131) (pf := 87) w861 at_84  (by decide) rfl rfl (fun (c84 : ¬ md = (8 : Int32)) => ?_) (fun (c84 : md = (8 : Int32)) => ?_)
        · refine giload (pc' := 133) (Ls := #[.val (.int fl), .val (.int raw), .val (.int cap), .val (.long v'), .second, .val (.int md), .val (.ref a), .val (.int (own_x md)), .val (.int (1 : Int32))]) (rest := []) w861 at_131 rfl rfl ?_
          exact gretZ w861 at_133 rfl (by decide) (by decide) rfl
        · subst c84
          exact own_e8 hw w861 fl raw cap v' _ (by decide) a b z zz g_a gb ⟨E0, Fm, Fb, Fg, Fo, Fp, own_Bpad Vb, nab⟩
  · refine giconst (v := (1 : Int32)) (pc' := 60) w861 at_59 rfl rfl ?_
    refine ggoto (pc' := 64) w861 at_60 (by decide) rfl ?_
    refine gicmp (pt := 71) (pf := 67) w861 at_64  (by decide) rfl rfl (fun (c64 : ¬ (own_x md) = (1 : Int32)) => ?_) (fun (c64 : (own_x md) = (1 : Int32)) => ?_)
    · exact absurd (by unfold own_x; rw [if_pos c56]) c64
    · refine giconst (v := (1 : Int32)) (pc' := 68) w861 at_67 rfl rfl ?_
      refine ggoto (pc' := 72) w861 at_68 (by decide) rfl ?_
      refine gistore (pc' := 74) (Ls := #[.val (.int fl), .val (.int raw), .val (.int cap), .val (.long v'), .second, .val (.int md), .val (.ref a), .val (.int (own_x md)), .unset]) (Ls' := #[.val (.int fl), .val (.int raw), .val (.int cap), .val (.long v'), .second, .val (.int md), .val (.ref a), .val (.int (own_x md)), .val (.int (1 : Int32))]) (rest := []) w861 at_72 rfl rfl ?_
      refine giload (pc' := 76) (Ls := #[.val (.int fl), .val (.int raw), .val (.int cap), .val (.long v'), .second, .val (.int md), .val (.ref a), .val (.int (own_x md)), .val (.int (1 : Int32))]) (rest := []) w861 at_74 rfl rfl ?_
      refine giconst (v := (4 : Int32)) (pc' := 77) w861 at_76 rfl rfl ?_
      refine gicmp (pt := 87) (pf := 80) w861 at_77  (by decide) rfl rfl (fun (c77 : md = (4 : Int32)) => ?_) (fun (c77 : ¬ md = (4 : Int32)) => ?_)
      · subst c77
        exact own_e4 hw w861 fl raw cap v' _ (by decide) a b z zz g_a gb ⟨E0, Fm, Fb, Fg, Fo, Fp, own_Bpad Vb, nab⟩
      · exact absurd c56 c77
set_option maxRecDepth 65536 in
set_option maxHeartbeats 4000000 in
theorem own_law (hw : ∀ d ∈ tables_1, d.before a0 Z = true) (fl raw cap : Int32) (v' : Int64) (z0 : n0 ≤ h.size) :
    Ctr l x code maxLocals ret room_1 Z #[(.int fl), (.int raw), (.int cap), (.long v')] h n0 (fun v _ => v = some (.int 1)) tables_1 := by
  refine metGo (Ls := #[.val (.int fl), .val (.int raw), .val (.int cap), .val (.long v'), .second, .unset, .unset, .unset, .unset]) pn_at (fun m => by first | rfl | (simp [entryFrame, mkF, argsToLocals, Value.category]; done) | (simp [entryFrame, mkF, argsToLocals, Value.category, maxLocals]; done)) ?_
  intro p e s m below meth c T w
  refine giloadN (pc' := 1) (Ls := #[.val (.int fl), .val (.int raw), .val (.int cap), .val (.long v'), .second, .unset, .unset, .unset, .unset]) (rest := []) w at_0 rfl rfl ?_
  refine giconst (v := (1 : Int32)) (pc' := 2) w at_1 rfl rfl ?_
  refine giand (pc' := 3) w at_2 rfl ?_
  refine gif (pt := 12) (pf := 6) w at_3  (by decide) rfl rfl (fun (c3 : (fl &&& (1 : Int32)) = (0 : Int32)) => ?_) (fun (c3 : ¬ (fl &&& (1 : Int32)) = (0 : Int32)) => ?_)
  · refine giloadN (pc' := 13) (Ls := #[.val (.int fl), .val (.int raw), .val (.int cap), .val (.long v'), .second, .unset, .unset, .unset, .unset]) (rest := []) w at_12 rfl rfl ?_
    refine giconst (v := (2 : Int32)) (pc' := 14) w at_13 rfl rfl ?_
    refine giand (pc' := 15) w at_14 rfl ?_
    refine gif (pt := 25) (pf := 18) w at_15  (by decide) rfl rfl (fun (c15 : (fl &&& (2 : Int32)) = (0 : Int32)) => ?_) (fun (c15 : ¬ (fl &&& (2 : Int32)) = (0 : Int32)) => ?_)
    · refine giloadN (pc' := 26) (Ls := #[.val (.int fl), .val (.int raw), .val (.int cap), .val (.long v'), .second, .unset, .unset, .unset, .unset]) (rest := []) w at_25 rfl rfl ?_
      refine gistore (pc' := 28) (Ls := #[.val (.int fl), .val (.int raw), .val (.int cap), .val (.long v'), .second, .unset, .unset, .unset, .unset]) (Ls' := #[.val (.int fl), .val (.int raw), .val (.int cap), .val (.long v'), .second, .val (.int raw), .unset, .unset, .unset]) (rest := []) w at_26 rfl rfl ?_
      exact own_b28 hw w fl raw cap v' raw z0
    · refine gbipush (v := (8 : Int32)) (pc' := 20) w at_18 rfl rfl ?_
      refine gistore (pc' := 22) (Ls := #[.val (.int fl), .val (.int raw), .val (.int cap), .val (.long v'), .second, .unset, .unset, .unset, .unset]) (Ls' := #[.val (.int fl), .val (.int raw), .val (.int cap), .val (.long v'), .second, .val (.int (8 : Int32)), .unset, .unset, .unset]) (rest := []) w at_20 rfl rfl ?_
      refine ggoto (pc' := 28) w at_22 (by decide) rfl ?_
      exact own_b28 hw w fl raw cap v' (8 : Int32) z0
  · refine giconst (v := (4 : Int32)) (pc' := 7) w at_6 rfl rfl ?_
    refine gistore (pc' := 9) (Ls := #[.val (.int fl), .val (.int raw), .val (.int cap), .val (.long v'), .second, .unset, .unset, .unset, .unset]) (Ls' := #[.val (.int fl), .val (.int raw), .val (.int cap), .val (.long v'), .second, .val (.int (4 : Int32)), .unset, .unset, .unset]) (rest := []) w at_7 rfl rfl ?_
    refine ggoto (pc' := 28) w at_9 (by decide) rfl ?_
    exact own_b28 hw w fl raw cap v' (4 : Int32) z0
theorem comes_1 {Post : Tables → Env → Array Value → State → Outcome → State → Prop} (hpost : ∀ tb e args s v u, (limb_1_1.after args s (.returned v) u = true ∧ limb_1_2.after args s (.returned v) u = true ∧ True) → FrameEnd s (.returned v) u (Jvm.fieldLocs frame_1_writes args s ++ Jvm.arrayLocs frame_1_arrays args s ++ Jvm.staticLocs frame_1_statics s) 24 256 → Post tb e args s (.returned v) u) :
    ArmFor flags0 classFile x code maxLocals ret World_1 tables_1 room_1 Calls_1 rest_1 Pre_1 Post := by
  intro l hfl _ _ p e ha hc hk s m args below hf hA hF happ hP
  obtain ⟨hcalls, hrest, hpre⟩ := hP
  obtain ⟨-, -, -, hnamed, -, -, -, hat⟩ := (Spec.applies_iff hf).mp happ
  obtain ⟨hg, hn⟩ := and_e (Cond.before_iff.mp (show (Jvm.Cond.and given_1 narrow_1).before args s = true from hpre))
  obtain ⟨hcount, g0⟩ := and_e hg
  obtain ⟨a0, g1⟩ := and_e g0
  obtain ⟨a1, g2⟩ := and_e g1
  obtain ⟨a2, g3⟩ := and_e g2
  obtain ⟨w0, w1, w2, w3, rfl⟩ : ∃ w0 w1 w2 w3 : Value, args = #[w0, w1, w2, w3] := by
    have hs : args.size = 4 := by simpa [Cond.value, given_1] using hcount
    obtain ⟨L⟩ := args
    match L, hs with
    | [w0, w1, w2, w3], _ => exact ⟨w0, w1, w2, w3, rfl⟩
  have hw := fun d (hd : d ∈ tables_1) => atoms_spec (ws := Jvm.Cond.code x code maxLocals ret :: tables_1) hat d (List.mem_cons_of_mem _ hd)
  have hfit : Fit s := fun {y c} hc i hi => by
    obtain ⟨ha, rfl⟩ := Array.getElem?_eq_some_iff.mp hc
    have q := List.all_eq_true.mp ((Array.all_eq_true_iff_forall_mem.mp hF) _ (Array.getElem_mem ha)) i (List.mem_range.mpr hi)
    simpa [Array.getElem?_eq_getElem hi] using q
  obtain ⟨i0, e0⟩ := is_v a0
  obtain rfl : w0 = (.int i0) := Option.some.inj e0
  obtain ⟨i1, e1⟩ := is_v a1
  obtain rfl : w1 = (.int i1) := Option.some.inj e1
  obtain ⟨i2, e2⟩ := is_v a2
  obtain rfl : w2 = (.int i2) := Option.some.inj e2
  obtain ⟨i3, e3⟩ := isL_v g3
  obtain rfl : w3 = (.long i3) := Option.some.inj e3
  obtain ⟨n, o, h1, h2, h3, _, L, rfl, ⟨N, rfl⟩, hq⟩ := (own_law (h := s.heap) (n0 := s.heap.size) hw i0 i1 i2 i3 (Nat.le_refl _)) p e ha hc hk s m _ below hf ((Spec.applies_iff_loose hf).mp happ).1 ⟨rfl, State.Warmed39.refl s, rfl⟩ trivial
  refine ⟨n, _, h1, h2, h3, hpost _ _ _ _ _ _ ⟨Cond.after_iff.mpr rfl, Cond.after_iff.mpr (eq_i res_at (Term.int_eval (1)) rfl), trivial⟩ ⟨hq.1, hq.2.1, (hq.2.2.sift fun y hy => Or.inr (N y hy)).mono (by decide) (by decide)⟩⟩
theorem main_1_1 : Claimed_1_1 := comes_1 fun _ _ _ _ _ _ h hF => ⟨h.1, hF⟩
theorem main_1_2 : Claimed_1_2 := comes_1 fun _ _ _ _ _ _ h hF => ⟨h.2.1, hF⟩
end Jvm.Pilot.@@N@@
namespace Jvm.Pilot.@@N@@
open Jvm Jvm.ClassFile Sem Op Lib Jvm.Free Jvm.Stand Jvm.Pilot.@@N@@.Jvm.D
/-! MADE BY PROGRAM (witnessworld.py) out of the Statement's table words and the real class files: 12 classes; the members and pool entries that the words name. The judged class is class 1, her method 1. -/
namespace start1
open Jvm.ClassFile
def u (s : String) : CpInfo := .utf8 (stringToUtf16 s)
/-- a pool by its gaps: so many unusable entries, then the entry; so many at the end -/
def gap : Nat → List CpInfo → List CpInfo
  | 0, r => r
  | n + 1, r => .unusable :: gap n r
def poolList (es : List (Nat × CpInfo)) (last : Nat) : List CpInfo := es.foldr (fun e r => gap e.1 (e.2 :: r)) (gap last [])
def pool (es : List (Nat × CpInfo)) (last : Nat) : Array CpInfo := ⟨poolList es last⟩
def fileOf (pool : Array CpInfo) (this : Nat) (attrs : Array Attribute := #[]) (ms : Array MethodInfo := #[]) (fl : Nat := 33) (sup : Nat := 0) (ifs : Array Nat := #[]) (fds : Array FieldInfo := #[]) : ClassFile where
  minorVersion := 0
  majorVersion := 65
  constantPool := pool
  accessFlags := fl
  thisClass := this
  superClass := sup
  interfaces := ifs
  fields := fds
  methods := ms
  attributes := attrs
def plain (name : String) (sup : Option ClassId) : Class where
  name := name
  kind := .ordinary
  loader := none
  accessFlags := 33
  super := sup
  interfaces := #[]
  cf := none
  fields := #[]
  methods := #[]
  instanceTypes := #[]
  staticTypes := #[]
  resolved := #[]
  callSites := []
  init := .initialized
  statics := none
  mirror := none

def pool0 : Array CpInfo := pool [(5, u "<init>"), (0, u "()V"), (1, .class_ 10), (1, u "java/lang/Object")] 113

def k0c0 : Code := { maxStack := 0, maxLocals := 1, code := object_method_1_code, exceptionTable := #[], attributes := #[] }
def k0m0 : Method := { name := "<init>", desc := "()V", sig := { parameters := [], returnType := none }, accessFlags := 1, code := some k0c0 }
/-- java/lang/Object -/
def k0 : Class := { plain "java/lang/Object" none with
  accessFlags := 33
  interfaces := #[]
  cf := some (fileOf pool0 8 #[] #[{ accessFlags := 1, nameIndex := 5, descriptorIndex := 6, attributes := #[] }] 33 0 #[] #[])
  fields := #[]
  methods := #[k0m0]
  instanceTypes := #[]
  staticTypes := #[]
  resolved := Array.replicate 124 none
  statics := none }

def pool1 : Array CpInfo := pool [(2, .class_ 4), (1, u "java/lang/Object"), (0, u "<init>"), (0, u "()V"), (0, .class_ 8), (0, u "com/example/halyard/halyard/wire/CdrWriter"), (0, .methodref 7 10), (0, .nameAndType 5 11), (0, u "(III)V"), (0, .methodref 7 13), (0, .nameAndType 14 15), (0, u "xcdr2"), (0, u "()Z"), (0, .methodref 7 17), (0, .nameAndType 18 19), (0, u "writeByte"), (0, u "(I)V"), (0, .methodref 7 21), (0, .nameAndType 22 23), (0, u "writeLong"), (0, u "(J)V"), (0, .methodref 7 25), (0, .nameAndType 26 27), (0, u "position"), (0, u "()I"), (0, .class_ 29), (0, u "com/example/halyard/halyard/wire/CdrWriterXcdr2PinLaw"), (2, u "law"), (0, u "(IIIJ)Z")] 3

def k1m0 : Method := { name := "<init>", desc := "()V", sig := { parameters := [], returnType := none }, accessFlags := 1, code := none }
def k1c1 : Code := { maxStack := 6, maxLocals := 9, code := code, exceptionTable := #[], attributes := #[] }
def k1m1 : Method := { name := "law", desc := "(IIIJ)Z", sig := { parameters := [.int, .int, .int, .long], returnType := some .boolean }, accessFlags := 9, code := some k1c1 }
/-- com/example/halyard/halyard/wire/CdrWriterXcdr2PinLaw -/
def k1 : Class := { plain "com/example/halyard/halyard/wire/CdrWriterXcdr2PinLaw" (some 0) with
  accessFlags := 49
  interfaces := #[]
  cf := some (fileOf pool1 28 #[] #[{ accessFlags := 1, nameIndex := 5, descriptorIndex := 6, attributes := #[] }, { accessFlags := 9, nameIndex := 32, descriptorIndex := 33, attributes := #[] }] 49 2 #[] #[])
  fields := #[]
  methods := #[k1m0, k1m1]
  instanceTypes := #[]
  staticTypes := #[]
  resolved := Array.replicate 37 none
  statics := none }

def pool2 : Array CpInfo := pool [(4, .class_ 6), (1, u "com/example/halyard/halyard/wire/CdrWriter"), (0, u "<init>"), (0, u "(I)V"), (2, u "(III)V"), (0, .methodref 4 13), (0, .nameAndType 7 14), (0, u "(IIIZ)V"), (0, .methodref 16 17), (0, .class_ 18), (0, .nameAndType 7 19), (0, u "java/lang/Object"), (0, u "()V"), (0, .fieldref 4 21), (0, .nameAndType 22 23), (0, u "maxAlignment"), (0, u "I"), (0, .fieldref 4 25), (0, .nameAndType 26 27), (0, u "bigEndian"), (0, u "Z"), (0, .fieldref 4 29), (0, .nameAndType 30 23), (0, u "origin"), (0, .methodref 32 33), (0, .class_ 34), (0, .nameAndType 35 36), (0, u "java/lang/Math"), (0, u "max"), (0, u "(II)I"), (0, .fieldref 4 38), (0, .nameAndType 39 40), (0, u "out"), (0, u "[B"), (0, .fieldref 4 42), (0, .nameAndType 43 23), (0, u "position"), (0, .methodref 32 45), (0, .nameAndType 46 36), (0, u "min"), (0, .methodref 4 48), (0, .nameAndType 49 8), (0, u "room"), (0, .methodref 51 52), (0, .class_ 53), (0, .nameAndType 54 55), (0, u "java/util/Arrays"), (0, u "fill"), (0, u "([BIIB)V"), (2, u "writeByte"), (0, .methodref 4 60), (0, .nameAndType 61 8), (0, u "align"), (0, .methodref 4 63), (0, .nameAndType 64 11), (0, u "put"), (17, u "writeLong"), (0, u "(J)V"), (45, u "()I"), (30, u "()Z"), (31, .methodref 51 193), (0, .nameAndType 194 195), (0, u "copyOf"), (0, u "([BI)[B"), (7, u "LOCATOR_KIND_UDPV4"), (2, u "INITIAL_CAPACITY"), (4, u "xcdr2")] 35

def k2m0 : Method := { name := "<init>", desc := "()V", sig := { parameters := [], returnType := none }, accessFlags := 0, code := none }
def k2c1 : Code := { maxStack := 5, maxLocals := 4, code := prog_115_method_3_code, exceptionTable := #[], attributes := #[] }
def k2m1 : Method := { name := "<init>", desc := "(III)V", sig := { parameters := [.int, .int, .int], returnType := none }, accessFlags := 0, code := some k2c1 }
def k2c2 : Code := { maxStack := 3, maxLocals := 5, code := prog_115_method_4_code, exceptionTable := #[], attributes := #[] }
def k2m2 : Method := { name := "<init>", desc := "(IIIZ)V", sig := { parameters := [.int, .int, .int, .boolean], returnType := none }, accessFlags := 2, code := some k2c2 }
def k2c3 : Code := { maxStack := 1, maxLocals := 1, code := prog_115_method_6_code, exceptionTable := #[], attributes := #[] }
def k2m3 : Method := { name := "position", desc := "()I", sig := { parameters := [], returnType := some .int }, accessFlags := 0, code := some k2c3 }
def k2c4 : Code := { maxStack := 2, maxLocals := 1, code := prog_115_method_7_code, exceptionTable := #[], attributes := #[] }
def k2m4 : Method := { name := "xcdr2", desc := "()Z", sig := { parameters := [], returnType := some .boolean }, accessFlags := 0, code := some k2c4 }
def k2c5 : Code := { maxStack := 4, maxLocals := 4, code := prog_115_method_8_code, exceptionTable := #[], attributes := #[] }
def k2m5 : Method := { name := "align", desc := "(I)V", sig := { parameters := [.int], returnType := none }, accessFlags := 0, code := some k2c5 }
def k2c6 : Code := { maxStack := 5, maxLocals := 2, code := prog_115_method_9_code, exceptionTable := #[], attributes := #[] }
def k2m6 : Method := { name := "writeByte", desc := "(I)V", sig := { parameters := [.int], returnType := none }, accessFlags := 0, code := some k2c6 }
def k2c7 : Code := { maxStack := 5, maxLocals := 3, code := prog_115_method_13_code, exceptionTable := #[], attributes := #[] }
def k2m7 : Method := { name := "writeLong", desc := "(J)V", sig := { parameters := [.long], returnType := none }, accessFlags := 0, code := some k2c7 }
def k2c8 : Code := { maxStack := 5, maxLocals := 6, code := prog_115_method_38_code, exceptionTable := #[], attributes := #[] }
def k2m8 : Method := { name := "put", desc := "(III)V", sig := { parameters := [.int, .int, .int], returnType := none }, accessFlags := 2, code := some k2c8 }
def k2c9 : Code := { maxStack := 5, maxLocals := 2, code := prog_115_method_39_code, exceptionTable := #[], attributes := #[] }
def k2m9 : Method := { name := "room", desc := "(I)V", sig := { parameters := [.int], returnType := none }, accessFlags := 2, code := some k2c9 }
/-- com/example/halyard/halyard/wire/CdrWriter -/
def k2 : Class := { plain "com/example/halyard/halyard/wire/CdrWriter" (some 0) with
  accessFlags := 32
  interfaces := #[]
  cf := some (fileOf pool2 4 #[] #[{ accessFlags := 0, nameIndex := 7, descriptorIndex := 19, attributes := #[] }, { accessFlags := 0, nameIndex := 7, descriptorIndex := 11, attributes := #[] }, { accessFlags := 2, nameIndex := 7, descriptorIndex := 14, attributes := #[] }, { accessFlags := 0, nameIndex := 43, descriptorIndex := 129, attributes := #[] }, { accessFlags := 0, nameIndex := 211, descriptorIndex := 160, attributes := #[] }, { accessFlags := 0, nameIndex := 61, descriptorIndex := 8, attributes := #[] }, { accessFlags := 0, nameIndex := 58, descriptorIndex := 8, attributes := #[] }, { accessFlags := 0, nameIndex := 82, descriptorIndex := 83, attributes := #[] }, { accessFlags := 2, nameIndex := 64, descriptorIndex := 11, attributes := #[] }, { accessFlags := 2, nameIndex := 49, descriptorIndex := 8, attributes := #[] }] 32 16 #[] #[{ accessFlags := 24, nameIndex := 203, descriptorIndex := 23, attributes := #[] }, { accessFlags := 26, nameIndex := 206, descriptorIndex := 23, attributes := #[] }, { accessFlags := 18, nameIndex := 22, descriptorIndex := 23, attributes := #[] }, { accessFlags := 18, nameIndex := 26, descriptorIndex := 27, attributes := #[] }, { accessFlags := 2, nameIndex := 30, descriptorIndex := 23, attributes := #[] }, { accessFlags := 2, nameIndex := 39, descriptorIndex := 40, attributes := #[] }, { accessFlags := 2, nameIndex := 43, descriptorIndex := 23, attributes := #[] }])
  fields := #[{ name := "LOCATOR_KIND_UDPV4", type := .int, accessFlags := 24, slot := 0, constantValue := 0 }, { name := "INITIAL_CAPACITY", type := .int, accessFlags := 26, slot := 1, constantValue := 0 }, { name := "maxAlignment", type := .int, accessFlags := 18, slot := 0, constantValue := 0 }, { name := "bigEndian", type := .boolean, accessFlags := 18, slot := 1, constantValue := 0 }, { name := "origin", type := .int, accessFlags := 2, slot := 2, constantValue := 0 }, { name := "out", type := (.array .byte), accessFlags := 2, slot := 3, constantValue := 0 }, { name := "position", type := .int, accessFlags := 2, slot := 4, constantValue := 0 }]
  methods := #[k2m0, k2m1, k2m2, k2m3, k2m4, k2m5, k2m6, k2m7, k2m8, k2m9]
  instanceTypes := #[.int, .boolean, .int, (.array .byte), .int]
  staticTypes := #[.int, .int]
  resolved := Array.replicate 247 none
  statics := none }

def pool3 : Array CpInfo := pool [(1, .class_ 2), (0, u "java/lang/Math"), (1, .class_ 6), (1, u "java/lang/Object"), (0, u "<init>"), (0, u "()V"), (89, .class_ 100), (1, u "java/lang/Math$RandomNumberGeneratorHolder"), (71, u "negativeZeroFloatBits"), (0, u "J"), (2, u "negativeZeroDoubleBits"), (21, u "max"), (2, u "min"), (43, u "$assertionsDisabled"), (0, u "Z"), (88, u "(II)I"), (2, u "twoToTheDoubleScaleDown"), (0, u "D"), (4, u "twoToTheDoubleScaleUp"), (9, u "E"), (3, u "PI"), (2, u "TAU"), (2, u "DEGREES_TO_RADIANS"), (0, u "RADIANS_TO_DEGREES")] 94

def k3m0 : Method := { name := "<init>", desc := "()V", sig := { parameters := [], returnType := none }, accessFlags := 2, code := none }
def k3c1 : Code := { maxStack := 2, maxLocals := 2, code := jdk_29_method_65_code, exceptionTable := #[], attributes := #[] }
def k3m1 : Method := { name := "max", desc := "(II)I", sig := { parameters := [.int, .int], returnType := some .int }, accessFlags := 9, code := some k3c1 }
def k3c2 : Code := { maxStack := 2, maxLocals := 2, code := jdk_29_method_69_code, exceptionTable := #[], attributes := #[] }
def k3m2 : Method := { name := "min", desc := "(II)I", sig := { parameters := [.int, .int], returnType := some .int }, accessFlags := 9, code := some k3c2 }
/-- java/lang/Math -/
def k3 : Class := { plain "java/lang/Math" (some 0) with
  accessFlags := 49
  interfaces := #[]
  cf := some (fileOf pool3 1 #[.nestMembers #[98]] #[{ accessFlags := 2, nameIndex := 7, descriptorIndex := 8, attributes := #[] }, { accessFlags := 9, nameIndex := 198, descriptorIndex := 335, attributes := #[] }, { accessFlags := 9, nameIndex := 201, descriptorIndex := 335, attributes := #[] }] 49 4 #[] #[{ accessFlags := 25, nameIndex := 354, descriptorIndex := 339, attributes := #[] }, { accessFlags := 25, nameIndex := 358, descriptorIndex := 339, attributes := #[] }, { accessFlags := 25, nameIndex := 361, descriptorIndex := 339, attributes := #[] }, { accessFlags := 26, nameIndex := 364, descriptorIndex := 339, attributes := #[] }, { accessFlags := 26, nameIndex := 365, descriptorIndex := 339, attributes := #[] }, { accessFlags := 26, nameIndex := 172, descriptorIndex := 173, attributes := #[] }, { accessFlags := 26, nameIndex := 176, descriptorIndex := 173, attributes := #[] }, { accessFlags := 8, nameIndex := 344, descriptorIndex := 339, attributes := #[] }, { accessFlags := 8, nameIndex := 338, descriptorIndex := 339, attributes := #[] }, { accessFlags := 4120, nameIndex := 245, descriptorIndex := 246, attributes := #[] }])
  fields := #[{ name := "E", type := .double, accessFlags := 25, slot := 0, constantValue := 0 }, { name := "PI", type := .double, accessFlags := 25, slot := 1, constantValue := 0 }, { name := "TAU", type := .double, accessFlags := 25, slot := 2, constantValue := 0 }, { name := "DEGREES_TO_RADIANS", type := .double, accessFlags := 26, slot := 3, constantValue := 0 }, { name := "RADIANS_TO_DEGREES", type := .double, accessFlags := 26, slot := 4, constantValue := 0 }, { name := "negativeZeroFloatBits", type := .long, accessFlags := 26, slot := 5, constantValue := 0 }, { name := "negativeZeroDoubleBits", type := .long, accessFlags := 26, slot := 6, constantValue := 0 }, { name := "twoToTheDoubleScaleUp", type := .double, accessFlags := 8, slot := 7, constantValue := 0 }, { name := "twoToTheDoubleScaleDown", type := .double, accessFlags := 8, slot := 8, constantValue := 0 }, { name := "$assertionsDisabled", type := .boolean, accessFlags := 4120, slot := 9, constantValue := 0 }]
  methods := #[k3m0, k3m1, k3m2]
  instanceTypes := #[]
  staticTypes := #[.double, .double, .double, .double, .double, .long, .long, .double, .double, .boolean]
  resolved := Array.replicate 460 none
  statics := none }

def pool4 : Array CpInfo := pool [(2, .class_ 4), (1, u "java/lang/Object"), (0, u "<init>"), (0, u "()V"), (6, .methodref 14 15), (0, .class_ 16), (0, .nameAndType 17 18), (0, u "java/util/Arrays"), (0, u "rangeCheck"), (0, u "(III)V"), (55, .class_ 76), (1, u "java/util/Arrays$NaturalOrder"), (36, .class_ 115), (1, u "java/util/Arrays$LegacyMergeSort"), (1, u "Z"), (32, .methodref 151 152), (0, .class_ 153), (0, .nameAndType 154 155), (0, u "java/lang/System"), (0, u "arraycopy"), (0, u "(Ljava/lang/Object;ILjava/lang/Object;II)V"), (146, u "copyOf"), (1, .methodref 305 306), (0, .class_ 307), (0, .nameAndType 308 309), (0, u "java/lang/Math"), (0, u "min"), (0, u "(II)I"), (65, .class_ 376), (0, u "java/util/Arrays$ArrayList"), (68, u "$assertionsDisabled"), (269, u "MIN_ARRAY_SORT_GRAN"), (0, u "I"), (2, u "INSERTIONSORT_THRESHOLD"), (120, u "fill"), (10, u "([BIIB)V"), (17, u "([BI)[B"), (105, .class_ 976), (0, u "java/util/Arrays$ArrayItr")] 52

def k4m0 : Method := { name := "<init>", desc := "()V", sig := { parameters := [], returnType := none }, accessFlags := 2, code := none }
def k4c1 : Code := { maxStack := 4, maxLocals := 3, code := jdk_65_method_30_code, exceptionTable := #[], attributes := #[] }
def k4m1 : Method := { name := "rangeCheck", desc := "(III)V", sig := { parameters := [.int, .int, .int], returnType := none }, accessFlags := 8, code := some k4c1 }
def k4c2 : Code := { maxStack := 3, maxLocals := 5, code := jdk_65_method_110_code, exceptionTable := #[], attributes := #[] }
def k4m2 : Method := { name := "fill", desc := "([BIIB)V", sig := { parameters := [(.array .byte), .int, .int, .byte], returnType := none }, accessFlags := 9, code := some k4c2 }
def k4c3 : Code := { maxStack := 6, maxLocals := 3, code := jdk_65_method_121_code, exceptionTable := #[], attributes := #[] }
def k4m3 : Method := { name := "copyOf", desc := "([BI)[B", sig := { parameters := [(.array .byte), .int], returnType := some (.array .byte) }, accessFlags := 9, code := some k4c3 }
/-- java/util/Arrays -/
def k4 : Class := { plain "java/util/Arrays" (some 0) with
  accessFlags := 49
  interfaces := #[]
  cf := some (fileOf pool4 14 #[.nestMembers #[975, 375, 113, 74]] #[{ accessFlags := 2, nameIndex := 5, descriptorIndex := 6, attributes := #[] }, { accessFlags := 8, nameIndex := 17, descriptorIndex := 18, attributes := #[] }, { accessFlags := 9, nameIndex := 840, descriptorIndex := 851, attributes := #[] }, { accessFlags := 9, nameIndex := 302, descriptorIndex := 869, attributes := #[] }] 49 2 #[] #[{ accessFlags := 26, nameIndex := 715, descriptorIndex := 716, attributes := #[] }, { accessFlags := 26, nameIndex := 719, descriptorIndex := 716, attributes := #[] }, { accessFlags := 4120, nameIndex := 445, descriptorIndex := 117, attributes := #[] }])
  fields := #[{ name := "MIN_ARRAY_SORT_GRAN", type := .int, accessFlags := 26, slot := 0, constantValue := 0 }, { name := "INSERTIONSORT_THRESHOLD", type := .int, accessFlags := 26, slot := 1, constantValue := 0 }, { name := "$assertionsDisabled", type := .boolean, accessFlags := 4120, slot := 2, constantValue := 0 }]
  methods := #[k4m0, k4m1, k4m2, k4m3]
  instanceTypes := #[]
  staticTypes := #[.int, .int, .boolean]
  resolved := Array.replicate 1029 none
  statics := none }

def pool5 : Array CpInfo := pool [(2, .class_ 4), (1, u "java/lang/Object"), (0, u "<init>"), (0, u "()V"), (1, .class_ 10), (1, u "java/lang/System"), (0, u "allowSecurityManager"), (0, u "I"), (16, u "cons"), (0, u "Ljava/io/Console;"), (77, .class_ 110), (1, u "java/lang/System$CallersHolder"), (43, u "initialErrStream"), (0, u "Ljava/io/PrintStream;"), (19, u "security"), (0, u "Ljava/lang/SecurityManager;"), (31, .class_ 209), (0, u "java/lang/System$1"), (7, u "props"), (0, u "Ljava/util/Properties;"), (2, u "lineSeparator"), (0, u "Ljava/lang/String;"), (96, .class_ 321), (1, u "java/lang/System$LoggerFinder"), (5, .class_ 328), (0, u "java/lang/System$Logger"), (67, u "err"), (2, u "out"), (91, u "notSupportedJnuEncoding"), (15, u "in"), (17, u "initialIn"), (0, u "Ljava/io/InputStream;"), (35, u "bootLayer"), (0, u "Ljava/lang/ModuleLayer;"), (99, .class_ 664), (0, u "java/lang/System$2"), (9, u "NEVER"), (2, u "MAYBE"), (49, u "arraycopy"), (0, u "(Ljava/lang/Object;ILjava/lang/Object;II)V"), (72, .class_ 802), (0, u "java/lang/System$Logger$Level")] 31

def k5m0 : Method := { name := "<init>", desc := "()V", sig := { parameters := [], returnType := none }, accessFlags := 2, code := none }
def k5m1 : Method := { name := "arraycopy", desc := "(Ljava/lang/Object;ILjava/lang/Object;II)V", sig := { parameters := [(.object "java/lang/Object"), .int, (.object "java/lang/Object"), .int, .int], returnType := none }, accessFlags := 265, code := none }
/-- java/lang/System -/
def k5 : Class := { plain "java/lang/System" (some 0) with
  accessFlags := 49
  interfaces := #[]
  cf := some (fileOf pool5 8 #[.nestMembers #[319, 327, 801, 108, 663, 208]] #[{ accessFlags := 2, nameIndex := 5, descriptorIndex := 6, attributes := #[] }, { accessFlags := 265, nameIndex := 727, descriptorIndex := 728, attributes := #[] }] 49 2 #[] #[{ accessFlags := 25, nameIndex := 507, descriptorIndex := 526, attributes := #[] }, { accessFlags := 25, nameIndex := 399, descriptorIndex := 155, attributes := #[] }, { accessFlags := 25, nameIndex := 396, descriptorIndex := 155, attributes := #[] }, { accessFlags := 10, nameIndex := 525, descriptorIndex := 526, attributes := #[] }, { accessFlags := 26, nameIndex := 674, descriptorIndex := 12, attributes := #[] }, { accessFlags := 26, nameIndex := 677, descriptorIndex := 12, attributes := #[] }, { accessFlags := 10, nameIndex := 11, descriptorIndex := 12, attributes := #[] }, { accessFlags := 74, nameIndex := 175, descriptorIndex := 176, attributes := #[] }, { accessFlags := 10, nameIndex := 491, descriptorIndex := 222, attributes := #[] }, { accessFlags := 74, nameIndex := 29, descriptorIndex := 30, attributes := #[] }, { accessFlags := 74, nameIndex := 154, descriptorIndex := 155, attributes := #[] }, { accessFlags := 10, nameIndex := 217, descriptorIndex := 218, attributes := #[] }, { accessFlags := 10, nameIndex := 221, descriptorIndex := 222, attributes := #[] }, { accessFlags := 8, nameIndex := 562, descriptorIndex := 563, attributes := #[] }])
  fields := #[{ name := "in", type := (.object "java/io/InputStream"), accessFlags := 25, slot := 0, constantValue := 0 }, { name := "out", type := (.object "java/io/PrintStream"), accessFlags := 25, slot := 1, constantValue := 0 }, { name := "err", type := (.object "java/io/PrintStream"), accessFlags := 25, slot := 2, constantValue := 0 }, { name := "initialIn", type := (.object "java/io/InputStream"), accessFlags := 10, slot := 3, constantValue := 0 }, { name := "NEVER", type := .int, accessFlags := 26, slot := 4, constantValue := 0 }, { name := "MAYBE", type := .int, accessFlags := 26, slot := 5, constantValue := 0 }, { name := "allowSecurityManager", type := .int, accessFlags := 10, slot := 6, constantValue := 0 }, { name := "security", type := (.object "java/lang/SecurityManager"), accessFlags := 74, slot := 7, constantValue := 0 }, { name := "notSupportedJnuEncoding", type := (.object "java/lang/String"), accessFlags := 10, slot := 8, constantValue := 0 }, { name := "cons", type := (.object "java/io/Console"), accessFlags := 74, slot := 9, constantValue := 0 }, { name := "initialErrStream", type := (.object "java/io/PrintStream"), accessFlags := 74, slot := 10, constantValue := 0 }, { name := "props", type := (.object "java/util/Properties"), accessFlags := 10, slot := 11, constantValue := 0 }, { name := "lineSeparator", type := (.object "java/lang/String"), accessFlags := 10, slot := 12, constantValue := 0 }, { name := "bootLayer", type := (.object "java/lang/ModuleLayer"), accessFlags := 8, slot := 13, constantValue := 0 }]
  methods := #[k5m0, k5m1]
  instanceTypes := #[]
  staticTypes := #[(.object "java/io/InputStream"), (.object "java/io/PrintStream"), (.object "java/io/PrintStream"), (.object "java/io/InputStream"), .int, .int, .int, (.object "java/lang/SecurityManager"), (.object "java/lang/String"), (.object "java/io/Console"), (.object "java/io/PrintStream"), (.object "java/util/Properties"), (.object "java/lang/String"), (.object "java/lang/ModuleLayer")]
  resolved := Array.replicate 834 none
  statics := none }

def pool6 : Array CpInfo := pool [(1, u "java/lang/Cloneable"), (0, .class_ 1), (0, u "java/lang/Object"), (0, .class_ 3)] 3

/-- java/lang/Cloneable -/
def k6 : Class := { plain "java/lang/Cloneable" (some 0) with
  accessFlags := 1537
  interfaces := #[]
  cf := some (fileOf pool6 2 #[] #[] 1537 4 #[] #[])
  fields := #[]
  methods := #[]
  instanceTypes := #[]
  staticTypes := #[]
  resolved := Array.replicate 8 none
  statics := none }

def pool7 : Array CpInfo := pool [(1, u "java/io/Serializable"), (0, .class_ 1), (0, u "java/lang/Object"), (0, .class_ 3)] 3

/-- java/io/Serializable -/
def k7 : Class := { plain "java/io/Serializable" (some 0) with
  accessFlags := 1537
  interfaces := #[]
  cf := some (fileOf pool7 2 #[] #[] 1537 4 #[] #[])
  fields := #[]
  methods := #[]
  instanceTypes := #[]
  staticTypes := #[]
  resolved := Array.replicate 8 none
  statics := none }

/-- the primitive byte -/
def k8 : Class := { plain "byte" none with kind := .primitive 'B', accessFlags := 0x411 }
/-- [B -/
def k9 : Class := { plain "[B" (some 0) with kind := .array 8 .byte, interfaces := #[6, 7], accessFlags := 1041 }

/-- the primitive int -/
def k10 : Class := { plain "int" none with kind := .primitive 'I', accessFlags := 0x411 }
/-- [I -/
def k11 : Class := { plain "[I" (some 0) with kind := .array 10 .int, interfaces := #[6, 7], accessFlags := 1041 }

def heap : Heap := #[]
def classes : Array Class := #[k0, k1, k2, k3, k4, k5, k6, k7, k8, k9, k10, k11]
def interned : List (Array UInt16 × Addr) := []
def slotsUsed : Nat := 0
def theMethod : MethodId := ⟨1, 1⟩
def args0 : Array Value := #[.int 1, .int 5, .int 1, .long 2]
def aboutOver (below : List Frame) : State where
  vm := { classes := classes, interned := interned.toArray }
  heap := heap
  slotsUsed := slotsUsed
  threads := #[{ frames := .invoking theMethod args0 :: below }]
def below0 : List Frame := [.native { method := ⟨0, 0⟩, args := #[] }]
def about1 : State := aboutOver below0
def p0 : Program := .bare "" "" ""
def e0 : Env := launch0.env 0 0 0
theorem w_frames : about1.frames = Frame.invoking theMethod args0 :: below0 := rfl
set_option maxRecDepth 65536 in
theorem w_args : argsFit about1.vm theMethod args0 = true := by decide +kernel
set_option maxRecDepth 65536 in
theorem w_heap : heapFits about1 = true := by decide +kernel
set_option maxRecDepth 65536 in
theorem w_runnable : about1.curStatus? = some .runnable := by decide +kernel
set_option maxRecDepth 65536 in
theorem w_alone : about1.alone = true := by decide +kernel
set_option maxRecDepth 65536 in
theorem w_named : about1.methodNamed? x = some theMethod := by decide +kernel
set_option maxRecDepth 65536 in
theorem w_hears : about1.hears theMethod below0 = true := by decide +kernel
set_option maxRecDepth 65536 in
theorem w_ripe : about1.ripe theMethod args0 below0 = true := by decide +kernel
theorem w_running : about1.status = .running := rfl
set_option maxRecDepth 65536 in
theorem w_room : about1.hasRoom e0.platform room_1 = true :=
  launch0.hasRoom_least _ room_1 (by decide +kernel) (by decide +kernel) (by decide +kernel) (by decide +kernel) (by decide +kernel) (by decide +kernel)
theorem allAtoms_all (ts : List Jvm.Cond) (a : Array Jvm.Value) (st : Jvm.State) : (allAtoms ts).before a st = ts.all (fun c => c.before a st) := by
  induction ts with
  | nil => rfl
  | cons c t ih =>
    show (Jvm.Cond.and c (allAtoms t)).before a st = _
    rw [Jvm.Cond.before_and, ih, List.all_cons]
def words1 : List Jvm.Cond := Jvm.Cond.code x code maxLocals ret :: tables_1
/-- a 'code' word, met by the world's own term for the bytes: nothing is compared byte by byte -/
theorem code_word {y : MethodName} {bytes : ByteArray} {mx : Nat} {rt : Option FieldType} {a : Array Value} {s : State} {m : MethodId} {meth : Method} {c : Code} (h1 : s.methodNamed? y = some m) (h2 : s.vm.method? m = some meth) (h3 : meth.code = some c) (h4 : c.code = bytes)
    (h5 : (c.maxLocals == mx && c.exceptionTable.isEmpty && decide (c.maxStack ≤ mostOperands) && decide (meth.sig.returnType = rt) && !meth.locks && decide (parseMethodDescriptor y.desc = some meth.sig)) = true) : (Jvm.Cond.code y bytes mx rt).before a s = true := by
  simp only [Bool.and_eq_true, beq_iff_eq, Bool.not_eq_true', decide_eq_true_eq] at h5
  obtain ⟨⟨⟨⟨⟨g1, g2⟩, g3⟩, g4⟩, g5⟩, g6⟩ := h5
  simp [Cond.before, Cond.holds, Cond.value, h1, h2, h3, h4, g1, g2, g3, g4, g5, g6]
def isCode : Jvm.Cond → Bool
  | .code _ _ _ _ => true
  | _ => false
theorem all_split {L : List Jvm.Cond} {P : Jvm.Cond → Bool} (h1 : L.all (fun c => isCode c || P c) = true) (h2 : ∀ c ∈ L.filter isCode, P c = true) : L.all P = true := by
  refine List.all_eq_true.mpr fun c hc => ?_
  have h := List.all_eq_true.mp h1 c hc
  rcases Bool.eq_false_or_eq_true (isCode c) with hi | hi
  · exact h2 c (List.mem_filter.mpr ⟨hc, hi⟩)
  · simpa [hi] using h
set_option maxRecDepth 65536 in
theorem w_c0 : (Jvm.Cond.code x code maxLocals ret).before args0 about1 = true := code_word (m := ⟨1, 1⟩) (meth := k1m1) (c := k1c1) (by decide +kernel) rfl rfl rfl (by decide +kernel)
set_option maxRecDepth 65536 in
theorem w_c1 : (Jvm.Cond.code ({ cls := "com/example/halyard/halyard/wire/CdrWriter", name := "<init>", desc := "(III)V" } : Jvm.MethodName) prog_115_method_3_code (4 : Nat) (Option.none : Option Jvm.ClassFile.FieldType)).before args0 about1 = true := code_word (m := ⟨2, 1⟩) (meth := k2m1) (c := k2c1) (by decide +kernel) rfl rfl rfl (by decide +kernel)
set_option maxRecDepth 65536 in
theorem w_c2 : (Jvm.Cond.code ({ cls := "com/example/halyard/halyard/wire/CdrWriter", name := "<init>", desc := "(IIIZ)V" } : Jvm.MethodName) prog_115_method_4_code (5 : Nat) (Option.none : Option Jvm.ClassFile.FieldType)).before args0 about1 = true := code_word (m := ⟨2, 2⟩) (meth := k2m2) (c := k2c2) (by decide +kernel) rfl rfl rfl (by decide +kernel)
set_option maxRecDepth 65536 in
theorem w_c3 : (Jvm.Cond.code ({ cls := "java/lang/Object", name := "<init>", desc := "()V" } : Jvm.MethodName) object_method_1_code (1 : Nat) (Option.none : Option Jvm.ClassFile.FieldType)).before args0 about1 = true := code_word (m := ⟨0, 0⟩) (meth := k0m0) (c := k0c0) (by decide +kernel) rfl rfl rfl (by decide +kernel)
set_option maxRecDepth 65536 in
theorem w_c4 : (Jvm.Cond.code ({ cls := "java/lang/Math", name := "max", desc := "(II)I" } : Jvm.MethodName) jdk_29_method_65_code (2 : Nat) (Option.some Jvm.ClassFile.FieldType.int)).before args0 about1 = true := code_word (m := ⟨3, 1⟩) (meth := k3m1) (c := k3c1) (by decide +kernel) rfl rfl rfl (by decide +kernel)
set_option maxRecDepth 65536 in
theorem w_c5 : (Jvm.Cond.code ({ cls := "com/example/halyard/halyard/wire/CdrWriter", name := "xcdr2", desc := "()Z" } : Jvm.MethodName) prog_115_method_7_code (1 : Nat) (Option.some Jvm.ClassFile.FieldType.boolean)).before args0 about1 = true := code_word (m := ⟨2, 4⟩) (meth := k2m4) (c := k2c4) (by decide +kernel) rfl rfl rfl (by decide +kernel)
set_option maxRecDepth 65536 in
theorem w_c6 : (Jvm.Cond.code ({ cls := "com/example/halyard/halyard/wire/CdrWriter", name := "writeByte", desc := "(I)V" } : Jvm.MethodName) prog_115_method_9_code (2 : Nat) (Option.none : Option Jvm.ClassFile.FieldType)).before args0 about1 = true := code_word (m := ⟨2, 6⟩) (meth := k2m6) (c := k2c6) (by decide +kernel) rfl rfl rfl (by decide +kernel)
set_option maxRecDepth 65536 in
theorem w_c7 : (Jvm.Cond.code ({ cls := "com/example/halyard/halyard/wire/CdrWriter", name := "room", desc := "(I)V" } : Jvm.MethodName) prog_115_method_39_code (2 : Nat) (Option.none : Option Jvm.ClassFile.FieldType)).before args0 about1 = true := code_word (m := ⟨2, 9⟩) (meth := k2m9) (c := k2c9) (by decide +kernel) rfl rfl rfl (by decide +kernel)
set_option maxRecDepth 65536 in
theorem w_c8 : (Jvm.Cond.code ({ cls := "com/example/halyard/halyard/wire/CdrWriter", name := "writeLong", desc := "(J)V" } : Jvm.MethodName) prog_115_method_13_code (3 : Nat) (Option.none : Option Jvm.ClassFile.FieldType)).before args0 about1 = true := code_word (m := ⟨2, 7⟩) (meth := k2m7) (c := k2c7) (by decide +kernel) rfl rfl rfl (by decide +kernel)
set_option maxRecDepth 65536 in
theorem w_c9 : (Jvm.Cond.code ({ cls := "com/example/halyard/halyard/wire/CdrWriter", name := "align", desc := "(I)V" } : Jvm.MethodName) prog_115_method_8_code (4 : Nat) (Option.none : Option Jvm.ClassFile.FieldType)).before args0 about1 = true := code_word (m := ⟨2, 5⟩) (meth := k2m5) (c := k2c5) (by decide +kernel) rfl rfl rfl (by decide +kernel)
set_option maxRecDepth 65536 in
theorem w_c10 : (Jvm.Cond.code ({ cls := "java/lang/Math", name := "min", desc := "(II)I" } : Jvm.MethodName) jdk_29_method_69_code (2 : Nat) (Option.some Jvm.ClassFile.FieldType.int)).before args0 about1 = true := code_word (m := ⟨3, 2⟩) (meth := k3m2) (c := k3c2) (by decide +kernel) rfl rfl rfl (by decide +kernel)
set_option maxRecDepth 65536 in
theorem w_c11 : (Jvm.Cond.code ({ cls := "java/util/Arrays", name := "fill", desc := "([BIIB)V" } : Jvm.MethodName) jdk_65_method_110_code (5 : Nat) (Option.none : Option Jvm.ClassFile.FieldType)).before args0 about1 = true := code_word (m := ⟨4, 2⟩) (meth := k4m2) (c := k4c2) (by decide +kernel) rfl rfl rfl (by decide +kernel)
set_option maxRecDepth 65536 in
theorem w_c12 : (Jvm.Cond.code ({ cls := "java/util/Arrays", name := "rangeCheck", desc := "(III)V" } : Jvm.MethodName) jdk_65_method_30_code (3 : Nat) (Option.none : Option Jvm.ClassFile.FieldType)).before args0 about1 = true := code_word (m := ⟨4, 1⟩) (meth := k4m1) (c := k4c1) (by decide +kernel) rfl rfl rfl (by decide +kernel)
set_option maxRecDepth 65536 in
theorem w_c13 : (Jvm.Cond.code ({ cls := "com/example/halyard/halyard/wire/CdrWriter", name := "put", desc := "(III)V" } : Jvm.MethodName) prog_115_method_38_code (6 : Nat) (Option.none : Option Jvm.ClassFile.FieldType)).before args0 about1 = true := code_word (m := ⟨2, 8⟩) (meth := k2m8) (c := k2c8) (by decide +kernel) rfl rfl rfl (by decide +kernel)
set_option maxRecDepth 65536 in
theorem w_c14 : (Jvm.Cond.code ({ cls := "com/example/halyard/halyard/wire/CdrWriter", name := "position", desc := "()I" } : Jvm.MethodName) prog_115_method_6_code (1 : Nat) (Option.some Jvm.ClassFile.FieldType.int)).before args0 about1 = true := code_word (m := ⟨2, 3⟩) (meth := k2m3) (c := k2c3) (by decide +kernel) rfl rfl rfl (by decide +kernel)
set_option maxRecDepth 65536 in
theorem w_c15 : (Jvm.Cond.code ({ cls := "java/util/Arrays", name := "copyOf", desc := "([BI)[B" } : Jvm.MethodName) jdk_65_method_121_code (3 : Nat) (Option.some (Jvm.ClassFile.FieldType.array Jvm.ClassFile.FieldType.byte))).before args0 about1 = true := code_word (m := ⟨4, 3⟩) (meth := k4m3) (c := k4c3) (by decide +kernel) rfl rfl rfl (by decide +kernel)
def codes1 : List Jvm.Cond := [Jvm.Cond.code x code maxLocals ret, Jvm.Cond.code ({ cls := "com/example/halyard/halyard/wire/CdrWriter", name := "<init>", desc := "(III)V" } : Jvm.MethodName) prog_115_method_3_code (4 : Nat) (Option.none : Option Jvm.ClassFile.FieldType), Jvm.Cond.code ({ cls := "com/example/halyard/halyard/wire/CdrWriter", name := "<init>", desc := "(IIIZ)V" } : Jvm.MethodName) prog_115_method_4_code (5 : Nat) (Option.none : Option Jvm.ClassFile.FieldType), Jvm.Cond.code ({ cls := "java/lang/Object", name := "<init>", desc := "()V" } : Jvm.MethodName) object_method_1_code (1 : Nat) (Option.none : Option Jvm.ClassFile.FieldType), Jvm.Cond.code ({ cls := "java/lang/Math", name := "max", desc := "(II)I" } : Jvm.MethodName) jdk_29_method_65_code (2 : Nat) (Option.some Jvm.ClassFile.FieldType.int), Jvm.Cond.code ({ cls := "com/example/halyard/halyard/wire/CdrWriter", name := "xcdr2", desc := "()Z" } : Jvm.MethodName) prog_115_method_7_code (1 : Nat) (Option.some Jvm.ClassFile.FieldType.boolean), Jvm.Cond.code ({ cls := "com/example/halyard/halyard/wire/CdrWriter", name := "writeByte", desc := "(I)V" } : Jvm.MethodName) prog_115_method_9_code (2 : Nat) (Option.none : Option Jvm.ClassFile.FieldType), Jvm.Cond.code ({ cls := "com/example/halyard/halyard/wire/CdrWriter", name := "room", desc := "(I)V" } : Jvm.MethodName) prog_115_method_39_code (2 : Nat) (Option.none : Option Jvm.ClassFile.FieldType), Jvm.Cond.code ({ cls := "com/example/halyard/halyard/wire/CdrWriter", name := "writeLong", desc := "(J)V" } : Jvm.MethodName) prog_115_method_13_code (3 : Nat) (Option.none : Option Jvm.ClassFile.FieldType), Jvm.Cond.code ({ cls := "com/example/halyard/halyard/wire/CdrWriter", name := "align", desc := "(I)V" } : Jvm.MethodName) prog_115_method_8_code (4 : Nat) (Option.none : Option Jvm.ClassFile.FieldType), Jvm.Cond.code ({ cls := "java/lang/Math", name := "min", desc := "(II)I" } : Jvm.MethodName) jdk_29_method_69_code (2 : Nat) (Option.some Jvm.ClassFile.FieldType.int), Jvm.Cond.code ({ cls := "java/util/Arrays", name := "fill", desc := "([BIIB)V" } : Jvm.MethodName) jdk_65_method_110_code (5 : Nat) (Option.none : Option Jvm.ClassFile.FieldType), Jvm.Cond.code ({ cls := "java/util/Arrays", name := "rangeCheck", desc := "(III)V" } : Jvm.MethodName) jdk_65_method_30_code (3 : Nat) (Option.none : Option Jvm.ClassFile.FieldType), Jvm.Cond.code ({ cls := "com/example/halyard/halyard/wire/CdrWriter", name := "put", desc := "(III)V" } : Jvm.MethodName) prog_115_method_38_code (6 : Nat) (Option.none : Option Jvm.ClassFile.FieldType), Jvm.Cond.code ({ cls := "com/example/halyard/halyard/wire/CdrWriter", name := "position", desc := "()I" } : Jvm.MethodName) prog_115_method_6_code (1 : Nat) (Option.some Jvm.ClassFile.FieldType.int), Jvm.Cond.code ({ cls := "java/util/Arrays", name := "copyOf", desc := "([BI)[B" } : Jvm.MethodName) jdk_65_method_121_code (3 : Nat) (Option.some (Jvm.ClassFile.FieldType.array Jvm.ClassFile.FieldType.byte))]
set_option maxRecDepth 65536 in
theorem codes_eq : words1.filter isCode = codes1 := rfl
theorem w_codes : ∀ c ∈ words1.filter isCode, c.before args0 about1 = true := by
  rw [codes_eq]
  intro c hc
  simp only [codes1, List.mem_cons, List.not_mem_nil, or_false] at hc
  rcases hc with rfl | rfl | rfl | rfl | rfl | rfl | rfl | rfl | rfl | rfl | rfl | rfl | rfl | rfl | rfl | rfl
  · exact w_c0
  · exact w_c1
  · exact w_c2
  · exact w_c3
  · exact w_c4
  · exact w_c5
  · exact w_c6
  · exact w_c7
  · exact w_c8
  · exact w_c9
  · exact w_c10
  · exact w_c11
  · exact w_c12
  · exact w_c13
  · exact w_c14
  · exact w_c15
set_option maxRecDepth 65536 in
theorem w_t1 : (words1.take 24).all (fun c => isCode c || c.before args0 about1) = true := by decide +kernel
set_option maxRecDepth 65536 in
theorem w_t2 : ((words1.drop 24).take 24).all (fun c => isCode c || c.before args0 about1) = true := by decide +kernel
set_option maxRecDepth 65536 in
theorem w_t3 : (((words1.drop 24).drop 24).take 24).all (fun c => isCode c || c.before args0 about1) = true := by decide +kernel
set_option maxRecDepth 65536 in
theorem w_t4 : (((words1.drop 24).drop 24).drop 24).all (fun c => isCode c || c.before args0 about1) = true := by decide +kernel
theorem w_tables : (allAtoms (Jvm.Cond.code x code maxLocals ret :: tables_1)).before args0 about1 = true := by
  rw [allAtoms_all]
  show words1.all (fun c => c.before args0 about1) = true
  refine all_split ?_ w_codes
  rw [← List.take_append_drop 24 words1, List.all_append, w_t1, ← List.take_append_drop 24 (words1.drop 24), List.all_append, w_t2, ← List.take_append_drop 24 ((words1.drop 24).drop 24), List.all_append, w_t3, w_t4]
  rfl
set_option maxRecDepth 65536 in
theorem w_case : (Jvm.Cond.and given_1 narrow_1).before args0 about1 = true := by decide +kernel
theorem w_applies : (headSpec (Jvm.Cond.code x code maxLocals ret :: tables_1) room_1).applies x e0.platform about1 = true :=
  (Spec.applies_iff w_frames).mpr ⟨w_running, w_runnable, w_alone, w_named, w_hears, w_ripe, w_room, w_tables⟩
theorem atStart : AtStart classFile x code maxLocals ret World_1 tables_1 room_1 Calls_1 rest_1 Pre_1 launch0 p0 e0 about1 theMethod args0 below0 :=
  ⟨lists_1, trivial, launch0.admits_env _ _ _, launch0.least_env, fairChoices_fair.cas, fairChoices_fair.clock, w_frames, w_args, w_heap, w_applies, trivial, trivial, w_case⟩
end start1
theorem witness_1 : WitnessClaimed_1 := ⟨start1.p0, start1.e0, start1.about1, start1.theMethod, start1.args0, start1.below0, start1.atStart⟩
end Jvm.Pilot.@@N@@
