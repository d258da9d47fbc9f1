import JvmDerived
import JvmDerived.Pilot.@@N@@Statement
import JvmDerived.Pilot.@@N@@Code
set_option linter.unusedVariables false
set_option linter.unusedSimpArgs false
@@BLOCK:NumsL.lean.txt@@
namespace Jvm.Pilot.@@N@@
open Jvm Jvm.ClassFile Sem Op Lib Jvm.Free Jvm.Stand Jvm.LawKit Jvm.RoadKit Bundle Jvm.Pilot.@@N@@.Jvm.D
section GoKit
variable {p : Program} {l : Launch} {e : Env} {R : Room} {s : State} {m : MethodId} {args : Array Value} {below : List Frame} {meth : Method} {c : Code} {T : State} {Z : State} {own nm : String} {bytes : ByteArray} {mx : Nat} {rt : Option FieldType} {n0 k n : Nat} {h : Heap} {Q : Option Value → Heap → Prop} {CC NN : Nat} {a0 : Array Value} {Ls Ls' : Array Slot} {rest : List Value} {pc pc' : Nat}
/-- where a walk stands -/
def W (Z : State) (own nm : String) (bytes : ByteArray) (mx : Nat) (rt : Option FieldType) (n0 : Nat) (p : Program) (l : Launch) (e : Env) (R : Room) (s : State) (m : MethodId) (args : Array Value) (below : List Frame) (meth : Method) (c : Code) (k n : Nat) (T : State) (h : Heap) : Prop :=
  p.tables.exec = Jvm.exec ∧ c.code = bytes ∧ s.vm.findClass own = some m.cls ∧ Z.Warmed39 s.vm ∧ c.maxLocals = mx ∧ meth.name = nm ∧ meth.sig.returnType = rt ∧ meth.locks = false ∧ (∃ L, Stand p l e R s m args below meth c T L k n ∧ Fr n0 L) ∧ T.heap = h
/-- from this frame the method ends well -/
def Go (n0 : Nat) (p : Program) (e : Env) (below : List Frame) (s : State) (Q : Option Value → Heap → Prop) (CC NN : Nat) (T : State) (g : JFrame) : Prop :=
  ∃ s₂ o, Steps p.tables e below (T.setTop g) s₂ ∧ s₂.status = .running ∧ Ended s₂ below o ∧ ∃ v L, o = .returned v ∧ (Fr n0 L ∧ Q v s₂.heap) ∧ FrameEnd s o s₂ L CC NN
/-- a body's contract: of these arguments, at this heap -/
def Ctr (l : Launch) (y : MethodName) (yb : ByteArray) (ymx : Nat) (yr : Option FieldType) (rm : Room) (Z : State) (as : Array Value) (h0 : Heap) (n0 : Nat) (Q : Option Value → Heap → Prop) (ws : List Jvm.Cond) : Prop :=
  MetFree l y (head1 (Jvm.Cond.code y yb ymx yr :: ws) rm) (fun a U => a = as ∧ Z.Warmed39 U.vm ∧ U.heap = h0) (fun _ _ _ _ _ => True) (fun _ U o U' => ∃ v L, o = .returned v ∧ (Fr n0 L ∧ Q v U'.heap) ∧ FrameEnd U o U' L rm.cells rm.slots)
theorem metGo {y : MethodName} {rm : Room} {as : Array Value} {ws : List Jvm.Cond} (hpn : plainFor y = true) (hef : ∀ m, entryFrame m as mx = mkF m 0 Ls [])
    (H : ∀ (p : Program) (e : Env) (s : State) (m : MethodId) (below : List Frame) (meth : Method) (c : Code) (T : State), W Z y.cls y.name bytes mx rt n0 p l e rm s m as below meth c 0 0 T h → Go n0 p e below s Q rm.cells rm.slots T (mkF m 0 Ls [])) : Ctr l y bytes mx rt rm Z as h n0 Q ws := by
  refine MetFree.of_bodySF hpn hisR ?_
  intro p e s m args below meth c s₁ Bd hml0 hP hK
  obtain ⟨rfl, hZ, hh⟩ := hP
  have e0 : s₁.heap = h := by rw [← hh, Bd.state]; rfl
  obtain ⟨s₂, o, st, r⟩ := H p e s m below meth c s₁ ⟨Bd.exec, Bd.bytes, findClass_of_methodNamed Bd.named, hZ, hml0, (name_of_methodNamed Bd.named Bd.method).1, Bd.returns, Bd.notSynchronized, ⟨[], Stand.of_body Bd, Fr.nil n0⟩, e0⟩
  exact ⟨s₂, o, castTop (hef m) st, r⟩
def cY : ClassFile.Cond → Int32 → Int32 → Prop
  | .eq, x, y => x = y
  | .ne, x, y => ¬ x = y
  | .lt, x, y => x < y
  | .ge, x, y => ¬ x < y
  | .gt, x, y => y < x
  | .le, x, y => ¬ y < x
def cN : ClassFile.Cond → Int32 → Int32 → Prop
  | .eq, x, y => ¬ x = y
  | .ne, x, y => x = y
  | .lt, x, y => ¬ x < y
  | .ge, x, y => x < y
  | .gt, x, y => ¬ y < x
  | .le, x, y => y < x
def lY : ClassFile.Cond → Int64 → Int64 → Prop
  | .eq, x, y => x = y
  | .ne, x, y => ¬ x = y
  | .lt, x, y => x < y
  | .ge, x, y => ¬ x < y
  | .gt, x, y => y < x
  | .le, x, y => ¬ y < x
def lN : ClassFile.Cond → Int64 → Int64 → Prop
  | .eq, x, y => ¬ x = y
  | .ne, x, y => x = y
  | .lt, x, y => ¬ x < y
  | .ge, x, y => x < y
  | .gt, x, y => ¬ y < x
  | .le, x, y => y < x
theorem c_or (cd : ClassFile.Cond) (x y : Int32) : (cY cd x y ∧ if_icmp.holds cd x y = true) ∨ (cN cd x y ∧ if_icmp.holds cd x y = false) := by
  cases cd
  · by_cases q : x = y
    · exact Or.inl ⟨q, (teq q).1⟩
    · exact Or.inr ⟨q, (feq q).1⟩
  · by_cases q : x = y
    · exact Or.inr ⟨q, (teq q).2⟩
    · exact Or.inl ⟨q, (feq q).2⟩
  · by_cases q : x < y
    · exact Or.inl ⟨q, (tlt q).1⟩
    · exact Or.inr ⟨q, (flt q).1⟩
  · by_cases q : x < y
    · exact Or.inr ⟨q, (tlt q).2.1⟩
    · exact Or.inl ⟨q, (flt q).2.1⟩
  · by_cases q : y < x
    · exact Or.inl ⟨q, (tlt q).2.2.1⟩
    · exact Or.inr ⟨q, (flt q).2.2.1⟩
  · by_cases q : y < x
    · exact Or.inr ⟨q, (tlt q).2.2.2⟩
    · exact Or.inl ⟨q, (flt q).2.2.2⟩
theorem lY_of (cd : ClassFile.Cond) (x y : Int64) (q : cY cd (lcmpW x y) 0) : lY cd x y := by
  cases cd
  · exact (lw_eq x y).mp q
  · exact fun r => q ((lw_eq x y).mpr r)
  · exact (lw_lt x y).mp q
  · exact fun r => q ((lw_lt x y).mpr r)
  · exact (lw_gt x y).mp q
  · exact fun r => q ((lw_gt x y).mpr r)
theorem lN_of (cd : ClassFile.Cond) (x y : Int64) (q : cN cd (lcmpW x y) 0) : lN cd x y := by
  cases cd
  · exact fun r => q ((lw_eq x y).mpr r)
  · exact (lw_eq x y).mp q
  · exact fun r => q ((lw_lt x y).mpr r)
  · exact (lw_lt x y).mp q
  · exact fun r => q ((lw_gt x y).mpr r)
  · exact (lw_gt x y).mp q

theorem giload (w : W Z own nm bytes mx rt n0 p l e R s m args below meth c k n T h) {j : Nat} {v : Int32} (hd : decode bytes pc = .ok (.iload j, 2)) (hl : Ls[j]? = some (.val (.int v))) (hp : pc + 2 = pc') (K : Go n0 p e below s Q CC NN T (mkF m pc' Ls (.int v :: rest))) : Go n0 p e below s Q CC NN T (mkF m pc Ls (rest)) := by
  obtain ⟨hx, hb, -, -, -, -, -, -, ⟨L, X, -⟩, -⟩ := w
  obtain ⟨s₂, o, st, r⟩ := K
  subst hp hb
  exact ⟨s₂, o, XS.iload X.here hx rfl hd hl st, r⟩
theorem giloadN (w : W Z own nm bytes mx rt n0 p l e R s m args below meth c k n T h) {j : Fin 4} {v : Int32} (hd : decode bytes pc = .ok (.iload_n j, 1)) (hl : Ls[j.val]? = some (.val (.int v))) (hp : pc + 1 = pc') (K : Go n0 p e below s Q CC NN T (mkF m pc' Ls (.int v :: rest))) : Go n0 p e below s Q CC NN T (mkF m pc Ls (rest)) := by
  obtain ⟨hx, hb, -, -, -, -, -, -, ⟨L, X, -⟩, -⟩ := w
  obtain ⟨s₂, o, st, r⟩ := K
  subst hp hb
  exact ⟨s₂, o, XS.iloadN X.here hx rfl hd hl st, r⟩
theorem glload (w : W Z own nm bytes mx rt n0 p l e R s m args below meth c k n T h) {j : Nat} {v : Int64} (hd : decode bytes pc = .ok (.lload j, 2)) (hl : Ls[j]? = some (.val (.long v))) (hp : pc + 2 = pc') (K : Go n0 p e below s Q CC NN T (mkF m pc' Ls (.long v :: rest))) : Go n0 p e below s Q CC NN T (mkF m pc Ls (rest)) := by
  obtain ⟨hx, hb, -, -, -, -, -, -, ⟨L, X, -⟩, -⟩ := w
  obtain ⟨s₂, o, st, r⟩ := K
  subst hp hb
  exact ⟨s₂, o, XS.lload X.here hx rfl hd hl st, r⟩
theorem glloadN (w : W Z own nm bytes mx rt n0 p l e R s m args below meth c k n T h) {j : Fin 4} {v : Int64} (hd : decode bytes pc = .ok (.lload_n j, 1)) (hl : Ls[j.val]? = some (.val (.long v))) (hp : pc + 1 = pc') (K : Go n0 p e below s Q CC NN T (mkF m pc' Ls (.long v :: rest))) : Go n0 p e below s Q CC NN T (mkF m pc Ls (rest)) := by
  obtain ⟨hx, hb, -, -, -, -, -, -, ⟨L, X, -⟩, -⟩ := w
  obtain ⟨s₂, o, st, r⟩ := K
  subst hp hb
  exact ⟨s₂, o, XS.lloadN X.here hx rfl hd hl st, r⟩
theorem gaload (w : W Z own nm bytes mx rt n0 p l e R s m args below meth c k n T h) {j : Nat} {v : Value} (hd : decode bytes pc = .ok (.aload j, 2)) (hl : Ls[j]? = some (.val v)) (hv : v.isRef = true) (hp : pc + 2 = pc') (K : Go n0 p e below s Q CC NN T (mkF m pc' Ls (v :: rest))) : Go n0 p e below s Q CC NN T (mkF m pc Ls (rest)) := by
  obtain ⟨hx, hb, -, -, -, -, -, -, ⟨L, X, -⟩, -⟩ := w
  obtain ⟨s₂, o, st, r⟩ := K
  subst hp hb
  exact ⟨s₂, o, XS.aload X.here hx rfl hd hl hv st, r⟩
theorem galoadN (w : W Z own nm bytes mx rt n0 p l e R s m args below meth c k n T h) {j : Fin 4} {v : Value} (hd : decode bytes pc = .ok (.aload_n j, 1)) (hl : Ls[j.val]? = some (.val v)) (hv : v.isRef = true) (hp : pc + 1 = pc') (K : Go n0 p e below s Q CC NN T (mkF m pc' Ls (v :: rest))) : Go n0 p e below s Q CC NN T (mkF m pc Ls (rest)) := by
  obtain ⟨hx, hb, -, -, -, -, -, -, ⟨L, X, -⟩, -⟩ := w
  obtain ⟨s₂, o, st, r⟩ := K
  subst hp hb
  exact ⟨s₂, o, XS.aloadN X.here hx rfl hd hl hv st, r⟩
theorem gistore (w : W Z own nm bytes mx rt n0 p l e R s m args below meth c k n T h) {j : Nat} {v : Int32} (hd : decode bytes pc = .ok (.istore j, 2)) (hl : storeLocals Ls j (.int v) = some Ls') (hp : pc + 2 = pc') (K : Go n0 p e below s Q CC NN T (mkF m pc' Ls' (rest))) : Go n0 p e below s Q CC NN T (mkF m pc Ls (.int v :: rest)) := by
  obtain ⟨hx, hb, -, -, -, -, -, -, ⟨L, X, -⟩, -⟩ := w
  obtain ⟨s₂, o, st, r⟩ := K
  subst hp hb
  exact ⟨s₂, o, XS.istore X.here hx rfl hd rfl hl st, r⟩
theorem gistoreN (w : W Z own nm bytes mx rt n0 p l e R s m args below meth c k n T h) {j : Fin 4} {v : Int32} (hd : decode bytes pc = .ok (.istore_n j, 1)) (hl : storeLocals Ls j.val (.int v) = some Ls') (hp : pc + 1 = pc') (K : Go n0 p e below s Q CC NN T (mkF m pc' Ls' (rest))) : Go n0 p e below s Q CC NN T (mkF m pc Ls (.int v :: rest)) := by
  obtain ⟨hx, hb, -, -, -, -, -, -, ⟨L, X, -⟩, -⟩ := w
  obtain ⟨s₂, o, st, r⟩ := K
  subst hp hb
  exact ⟨s₂, o, XS.istoreN X.here hx rfl hd rfl hl st, r⟩
theorem glstore (w : W Z own nm bytes mx rt n0 p l e R s m args below meth c k n T h) {j : Nat} {v : Int64} (hd : decode bytes pc = .ok (.lstore j, 2)) (hl : storeLocals Ls j (.long v) = some Ls') (hp : pc + 2 = pc') (K : Go n0 p e below s Q CC NN T (mkF m pc' Ls' (rest))) : Go n0 p e below s Q CC NN T (mkF m pc Ls (.long v :: rest)) := by
  obtain ⟨hx, hb, -, -, -, -, -, -, ⟨L, X, -⟩, -⟩ := w
  obtain ⟨s₂, o, st, r⟩ := K
  subst hp hb
  exact ⟨s₂, o, XS.lstore X.here hx rfl hd rfl hl st, r⟩
theorem glstoreN (w : W Z own nm bytes mx rt n0 p l e R s m args below meth c k n T h) {j : Fin 4} {v : Int64} (hd : decode bytes pc = .ok (.lstore_n j, 1)) (hl : storeLocals Ls j.val (.long v) = some Ls') (hp : pc + 1 = pc') (K : Go n0 p e below s Q CC NN T (mkF m pc' Ls' (rest))) : Go n0 p e below s Q CC NN T (mkF m pc Ls (.long v :: rest)) := by
  obtain ⟨hx, hb, -, -, -, -, -, -, ⟨L, X, -⟩, -⟩ := w
  obtain ⟨s₂, o, st, r⟩ := K
  subst hp hb
  exact ⟨s₂, o, XS.lstoreN X.here hx rfl hd rfl hl st, r⟩
theorem gastore (w : W Z own nm bytes mx rt n0 p l e R s m args below meth c k n T h) {j : Nat} {v : Value} (hd : decode bytes pc = .ok (.astore j, 2)) (hv : v.isRef = true) (hl : storeLocals Ls j v = some Ls') (hp : pc + 2 = pc') (K : Go n0 p e below s Q CC NN T (mkF m pc' Ls' (rest))) : Go n0 p e below s Q CC NN T (mkF m pc Ls (v :: rest)) := by
  obtain ⟨hx, hb, -, -, -, -, -, -, ⟨L, X, -⟩, -⟩ := w
  obtain ⟨s₂, o, st, r⟩ := K
  subst hp hb
  exact ⟨s₂, o, XS.astore X.here hx rfl hd rfl hv hl st, r⟩
theorem gastoreN (w : W Z own nm bytes mx rt n0 p l e R s m args below meth c k n T h) {j : Fin 4} {v : Value} (hd : decode bytes pc = .ok (.astore_n j, 1)) (hv : v.isRef = true) (hl : storeLocals Ls j.val v = some Ls') (hp : pc + 1 = pc') (K : Go n0 p e below s Q CC NN T (mkF m pc' Ls' (rest))) : Go n0 p e below s Q CC NN T (mkF m pc Ls (v :: rest)) := by
  obtain ⟨hx, hb, -, -, -, -, -, -, ⟨L, X, -⟩, -⟩ := w
  obtain ⟨s₂, o, st, r⟩ := K
  subst hp hb
  exact ⟨s₂, o, XS.astoreN X.here hx rfl hd rfl hv hl st, r⟩
theorem giinc (w : W Z own nm bytes mx rt n0 p l e R s m args below meth c k n T h) {j : Nat} {i : Int} {v : Int32} (hd : decode bytes pc = .ok (.iinc j i, 3)) (hl : Ls[j]? = some (.val (.int v))) (hl' : storeLocals Ls j (.int (v + Int32.ofInt i)) = some Ls') (hp : pc + 3 = pc') (K : Go n0 p e below s Q CC NN T (mkF m pc' Ls' (rest))) : Go n0 p e below s Q CC NN T (mkF m pc Ls (rest)) := by
  obtain ⟨hx, hb, -, -, -, -, -, -, ⟨L, X, -⟩, -⟩ := w
  obtain ⟨s₂, o, st, r⟩ := K
  subst hp hb
  exact ⟨s₂, o, XS.iinc X.here hx rfl hd hl hl' st, r⟩
theorem giconst (w : W Z own nm bytes mx rt n0 p l e R s m args below meth c k n T h) {i : Int} {v : Int32} (hd : decode bytes pc = .ok (.iconst i, 1)) (hv : Int32.ofInt i = v) (hp : pc + 1 = pc') (K : Go n0 p e below s Q CC NN T (mkF m pc' Ls (.int v :: rest))) : Go n0 p e below s Q CC NN T (mkF m pc Ls (rest)) := by
  obtain ⟨hx, hb, -, -, -, -, -, -, ⟨L, X, -⟩, -⟩ := w
  obtain ⟨s₂, o, st, r⟩ := K
  subst hp hb hv
  exact ⟨s₂, o, XS.iconst X.here hx rfl hd st, r⟩
theorem gbipush (w : W Z own nm bytes mx rt n0 p l e R s m args below meth c k n T h) {i : Int} {v : Int32} (hd : decode bytes pc = .ok (.bipush i, 2)) (hv : (Int8.ofInt i).toInt32 = v) (hp : pc + 2 = pc') (K : Go n0 p e below s Q CC NN T (mkF m pc' Ls (.int v :: rest))) : Go n0 p e below s Q CC NN T (mkF m pc Ls (rest)) := by
  obtain ⟨hx, hb, -, -, -, -, -, -, ⟨L, X, -⟩, -⟩ := w
  obtain ⟨s₂, o, st, r⟩ := K
  subst hp hb hv
  exact ⟨s₂, o, XS.bipush X.here hx rfl hd st, r⟩
theorem gsipush (w : W Z own nm bytes mx rt n0 p l e R s m args below meth c k n T h) {i : Int} {v : Int32} (hd : decode bytes pc = .ok (.sipush i, 3)) (hv : (Int16.ofInt i).toInt32 = v) (hp : pc + 3 = pc') (K : Go n0 p e below s Q CC NN T (mkF m pc' Ls (.int v :: rest))) : Go n0 p e below s Q CC NN T (mkF m pc Ls (rest)) := by
  obtain ⟨hx, hb, -, -, -, -, -, -, ⟨L, X, -⟩, -⟩ := w
  obtain ⟨s₂, o, st, r⟩ := K
  subst hp hb hv
  exact ⟨s₂, o, XS.sipush X.here hx rfl hd st, r⟩
theorem glconst (w : W Z own nm bytes mx rt n0 p l e R s m args below meth c k n T h) {i : Fin 2} {v : Int64} (hd : decode bytes pc = .ok (.lconst i, 1)) (hv : Int64.ofNat i = v) (hp : pc + 1 = pc') (K : Go n0 p e below s Q CC NN T (mkF m pc' Ls (.long v :: rest))) : Go n0 p e below s Q CC NN T (mkF m pc Ls (rest)) := by
  obtain ⟨hx, hb, -, -, -, -, -, -, ⟨L, X, -⟩, -⟩ := w
  obtain ⟨s₂, o, st, r⟩ := K
  subst hp hb hv
  exact ⟨s₂, o, XS.lconst X.here hx rfl hd st, r⟩
theorem gnull (w : W Z own nm bytes mx rt n0 p l e R s m args below meth c k n T h) (hd : decode bytes pc = .ok (.aconst_null, 1)) (hp : pc + 1 = pc') (K : Go n0 p e below s Q CC NN T (mkF m pc' Ls (.null :: rest))) : Go n0 p e below s Q CC NN T (mkF m pc Ls (rest)) := by
  obtain ⟨hx, hb, -, -, -, -, -, -, ⟨L, X, -⟩, -⟩ := w
  obtain ⟨s₂, o, st, r⟩ := K
  subst hp hb
  exact ⟨s₂, o, XS.aconstNull X.here hx rfl hd  st, r⟩
theorem giadd (w : W Z own nm bytes mx rt n0 p l e R s m args below meth c k n T h) {x y : Int32} (hd : decode bytes pc = .ok (.iadd, 1)) (hp : pc + 1 = pc') (K : Go n0 p e below s Q CC NN T (mkF m pc' Ls (.int (x + y) :: rest))) : Go n0 p e below s Q CC NN T (mkF m pc Ls (.int y :: .int x :: rest)) := by
  obtain ⟨hx, hb, -, -, -, -, -, -, ⟨L, X, -⟩, -⟩ := w
  obtain ⟨s₂, o, st, r⟩ := K
  subst hp hb
  exact ⟨s₂, o, XS.iadd X.here hx rfl hd rfl st, r⟩
theorem gladd (w : W Z own nm bytes mx rt n0 p l e R s m args below meth c k n T h) {x y : Int64} (hd : decode bytes pc = .ok (.ladd, 1)) (hp : pc + 1 = pc') (K : Go n0 p e below s Q CC NN T (mkF m pc' Ls (.long (x + y) :: rest))) : Go n0 p e below s Q CC NN T (mkF m pc Ls (.long y :: .long x :: rest)) := by
  obtain ⟨hx, hb, -, -, -, -, -, -, ⟨L, X, -⟩, -⟩ := w
  obtain ⟨s₂, o, st, r⟩ := K
  subst hp hb
  exact ⟨s₂, o, XS.ladd X.here hx rfl hd rfl st, r⟩
theorem gisub (w : W Z own nm bytes mx rt n0 p l e R s m args below meth c k n T h) {x y : Int32} (hd : decode bytes pc = .ok (.isub, 1)) (hp : pc + 1 = pc') (K : Go n0 p e below s Q CC NN T (mkF m pc' Ls (.int (x - y) :: rest))) : Go n0 p e below s Q CC NN T (mkF m pc Ls (.int y :: .int x :: rest)) := by
  obtain ⟨hx, hb, -, -, -, -, -, -, ⟨L, X, -⟩, -⟩ := w
  obtain ⟨s₂, o, st, r⟩ := K
  subst hp hb
  exact ⟨s₂, o, XS.isub X.here hx rfl hd rfl st, r⟩
theorem glsub (w : W Z own nm bytes mx rt n0 p l e R s m args below meth c k n T h) {x y : Int64} (hd : decode bytes pc = .ok (.lsub, 1)) (hp : pc + 1 = pc') (K : Go n0 p e below s Q CC NN T (mkF m pc' Ls (.long (x - y) :: rest))) : Go n0 p e below s Q CC NN T (mkF m pc Ls (.long y :: .long x :: rest)) := by
  obtain ⟨hx, hb, -, -, -, -, -, -, ⟨L, X, -⟩, -⟩ := w
  obtain ⟨s₂, o, st, r⟩ := K
  subst hp hb
  exact ⟨s₂, o, XS.lsub X.here hx rfl hd rfl st, r⟩
theorem gimul (w : W Z own nm bytes mx rt n0 p l e R s m args below meth c k n T h) {x y : Int32} (hd : decode bytes pc = .ok (.imul, 1)) (hp : pc + 1 = pc') (K : Go n0 p e below s Q CC NN T (mkF m pc' Ls (.int (x * y) :: rest))) : Go n0 p e below s Q CC NN T (mkF m pc Ls (.int y :: .int x :: rest)) := by
  obtain ⟨hx, hb, -, -, -, -, -, -, ⟨L, X, -⟩, -⟩ := w
  obtain ⟨s₂, o, st, r⟩ := K
  subst hp hb
  exact ⟨s₂, o, XS.imul X.here hx rfl hd rfl st, r⟩
theorem glmul (w : W Z own nm bytes mx rt n0 p l e R s m args below meth c k n T h) {x y : Int64} (hd : decode bytes pc = .ok (.lmul, 1)) (hp : pc + 1 = pc') (K : Go n0 p e below s Q CC NN T (mkF m pc' Ls (.long (x * y) :: rest))) : Go n0 p e below s Q CC NN T (mkF m pc Ls (.long y :: .long x :: rest)) := by
  obtain ⟨hx, hb, -, -, -, -, -, -, ⟨L, X, -⟩, -⟩ := w
  obtain ⟨s₂, o, st, r⟩ := K
  subst hp hb
  exact ⟨s₂, o, XS.lmul X.here hx rfl hd rfl st, r⟩
theorem giand (w : W Z own nm bytes mx rt n0 p l e R s m args below meth c k n T h) {x y : Int32} (hd : decode bytes pc = .ok (.iand, 1)) (hp : pc + 1 = pc') (K : Go n0 p e below s Q CC NN T (mkF m pc' Ls (.int (x &&& y) :: rest))) : Go n0 p e below s Q CC NN T (mkF m pc Ls (.int y :: .int x :: rest)) := by
  obtain ⟨hx, hb, -, -, -, -, -, -, ⟨L, X, -⟩, -⟩ := w
  obtain ⟨s₂, o, st, r⟩ := K
  subst hp hb
  exact ⟨s₂, o, XS.iand X.here hx rfl hd rfl st, r⟩
theorem gland (w : W Z own nm bytes mx rt n0 p l e R s m args below meth c k n T h) {x y : Int64} (hd : decode bytes pc = .ok (.land, 1)) (hp : pc + 1 = pc') (K : Go n0 p e below s Q CC NN T (mkF m pc' Ls (.long (x &&& y) :: rest))) : Go n0 p e below s Q CC NN T (mkF m pc Ls (.long y :: .long x :: rest)) := by
  obtain ⟨hx, hb, -, -, -, -, -, -, ⟨L, X, -⟩, -⟩ := w
  obtain ⟨s₂, o, st, r⟩ := K
  subst hp hb
  exact ⟨s₂, o, XS.land X.here hx rfl hd rfl st, r⟩
theorem gior (w : W Z own nm bytes mx rt n0 p l e R s m args below meth c k n T h) {x y : Int32} (hd : decode bytes pc = .ok (.ior, 1)) (hp : pc + 1 = pc') (K : Go n0 p e below s Q CC NN T (mkF m pc' Ls (.int (x ||| y) :: rest))) : Go n0 p e below s Q CC NN T (mkF m pc Ls (.int y :: .int x :: rest)) := by
  obtain ⟨hx, hb, -, -, -, -, -, -, ⟨L, X, -⟩, -⟩ := w
  obtain ⟨s₂, o, st, r⟩ := K
  subst hp hb
  exact ⟨s₂, o, XS.ior X.here hx rfl hd rfl st, r⟩
theorem glor (w : W Z own nm bytes mx rt n0 p l e R s m args below meth c k n T h) {x y : Int64} (hd : decode bytes pc = .ok (.lor, 1)) (hp : pc + 1 = pc') (K : Go n0 p e below s Q CC NN T (mkF m pc' Ls (.long (x ||| y) :: rest))) : Go n0 p e below s Q CC NN T (mkF m pc Ls (.long y :: .long x :: rest)) := by
  obtain ⟨hx, hb, -, -, -, -, -, -, ⟨L, X, -⟩, -⟩ := w
  obtain ⟨s₂, o, st, r⟩ := K
  subst hp hb
  exact ⟨s₂, o, XS.lor X.here hx rfl hd rfl st, r⟩
theorem gixor (w : W Z own nm bytes mx rt n0 p l e R s m args below meth c k n T h) {x y : Int32} (hd : decode bytes pc = .ok (.ixor, 1)) (hp : pc + 1 = pc') (K : Go n0 p e below s Q CC NN T (mkF m pc' Ls (.int (x ^^^ y) :: rest))) : Go n0 p e below s Q CC NN T (mkF m pc Ls (.int y :: .int x :: rest)) := by
  obtain ⟨hx, hb, -, -, -, -, -, -, ⟨L, X, -⟩, -⟩ := w
  obtain ⟨s₂, o, st, r⟩ := K
  subst hp hb
  exact ⟨s₂, o, XS.ixor X.here hx rfl hd rfl st, r⟩
theorem glxor (w : W Z own nm bytes mx rt n0 p l e R s m args below meth c k n T h) {x y : Int64} (hd : decode bytes pc = .ok (.lxor, 1)) (hp : pc + 1 = pc') (K : Go n0 p e below s Q CC NN T (mkF m pc' Ls (.long (x ^^^ y) :: rest))) : Go n0 p e below s Q CC NN T (mkF m pc Ls (.long y :: .long x :: rest)) := by
  obtain ⟨hx, hb, -, -, -, -, -, -, ⟨L, X, -⟩, -⟩ := w
  obtain ⟨s₂, o, st, r⟩ := K
  subst hp hb
  exact ⟨s₂, o, XS.lxor X.here hx rfl hd rfl st, r⟩
theorem gineg (w : W Z own nm bytes mx rt n0 p l e R s m args below meth c k n T h) {x : Int32} (hd : decode bytes pc = .ok (.ineg, 1)) (hp : pc + 1 = pc') (K : Go n0 p e below s Q CC NN T (mkF m pc' Ls (.int (-x) :: rest))) : Go n0 p e below s Q CC NN T (mkF m pc Ls (.int x :: rest)) := by
  obtain ⟨hx, hb, -, -, -, -, -, -, ⟨L, X, -⟩, -⟩ := w
  obtain ⟨s₂, o, st, r⟩ := K
  subst hp hb
  exact ⟨s₂, o, XS.ineg X.here hx rfl hd rfl st, r⟩
theorem gidiv (w : W Z own nm bytes mx rt n0 p l e R s m args below meth c k n T h) {x y : Int32} (hd : decode bytes pc = .ok (.idiv, 1)) (hy : y ≠ 0) (hp : pc + 1 = pc') (K : Go n0 p e below s Q CC NN T (mkF m pc' Ls (.int (x / y) :: rest))) : Go n0 p e below s Q CC NN T (mkF m pc Ls (.int y :: .int x :: rest)) := by
  obtain ⟨hx, hb, -, -, -, -, -, -, ⟨L, X, -⟩, -⟩ := w
  obtain ⟨s₂, o, st, r⟩ := K
  subst hp hb
  exact ⟨s₂, o, XS.idiv X.here hx rfl hd rfl hy st, r⟩
theorem gldiv (w : W Z own nm bytes mx rt n0 p l e R s m args below meth c k n T h) {x y : Int64} (hd : decode bytes pc = .ok (.ldiv, 1)) (hy : y ≠ 0) (hp : pc + 1 = pc') (K : Go n0 p e below s Q CC NN T (mkF m pc' Ls (.long (x / y) :: rest))) : Go n0 p e below s Q CC NN T (mkF m pc Ls (.long y :: .long x :: rest)) := by
  obtain ⟨hx, hb, -, -, -, -, -, -, ⟨L, X, -⟩, -⟩ := w
  obtain ⟨s₂, o, st, r⟩ := K
  subst hp hb
  exact ⟨s₂, o, XS.ldiv X.here hx rfl hd rfl hy st, r⟩
theorem girem (w : W Z own nm bytes mx rt n0 p l e R s m args below meth c k n T h) {x y : Int32} (hd : decode bytes pc = .ok (.irem, 1)) (hy : y ≠ 0) (hp : pc + 1 = pc') (K : Go n0 p e below s Q CC NN T (mkF m pc' Ls (.int (x - (x / y) * y) :: rest))) : Go n0 p e below s Q CC NN T (mkF m pc Ls (.int y :: .int x :: rest)) := by
  obtain ⟨hx, hb, -, -, -, -, -, -, ⟨L, X, -⟩, -⟩ := w
  obtain ⟨s₂, o, st, r⟩ := K
  subst hp hb
  exact ⟨s₂, o, XS.irem X.here hx rfl hd rfl hy st, r⟩
theorem glrem (w : W Z own nm bytes mx rt n0 p l e R s m args below meth c k n T h) {x y : Int64} (hd : decode bytes pc = .ok (.lrem, 1)) (hy : y ≠ 0) (hp : pc + 1 = pc') (K : Go n0 p e below s Q CC NN T (mkF m pc' Ls (.long (x - (x / y) * y) :: rest))) : Go n0 p e below s Q CC NN T (mkF m pc Ls (.long y :: .long x :: rest)) := by
  obtain ⟨hx, hb, -, -, -, -, -, -, ⟨L, X, -⟩, -⟩ := w
  obtain ⟨s₂, o, st, r⟩ := K
  subst hp hb
  exact ⟨s₂, o, XS.lrem X.here hx rfl hd rfl hy st, r⟩
theorem gishl (w : W Z own nm bytes mx rt n0 p l e R s m args below meth c k n T h) {x : Int32} {y : Int32} (hd : decode bytes pc = .ok (.ishl, 1)) (hp : pc + 1 = pc') (K : Go n0 p e below s Q CC NN T (mkF m pc' Ls (.int (x <<< (y &&& 31)) :: rest))) : Go n0 p e below s Q CC NN T (mkF m pc Ls (.int y :: .int x :: rest)) := by
  obtain ⟨hx, hb, -, -, -, -, -, -, ⟨L, X, -⟩, -⟩ := w
  obtain ⟨s₂, o, st, r⟩ := K
  subst hp hb
  exact ⟨s₂, o, XS.ishl X.here hx rfl hd rfl st, r⟩
theorem gishr (w : W Z own nm bytes mx rt n0 p l e R s m args below meth c k n T h) {x : Int32} {y : Int32} (hd : decode bytes pc = .ok (.ishr, 1)) (hp : pc + 1 = pc') (K : Go n0 p e below s Q CC NN T (mkF m pc' Ls (.int (x >>> (y &&& 31)) :: rest))) : Go n0 p e below s Q CC NN T (mkF m pc Ls (.int y :: .int x :: rest)) := by
  obtain ⟨hx, hb, -, -, -, -, -, -, ⟨L, X, -⟩, -⟩ := w
  obtain ⟨s₂, o, st, r⟩ := K
  subst hp hb
  exact ⟨s₂, o, XS.ishr X.here hx rfl hd rfl st, r⟩
theorem giushr (w : W Z own nm bytes mx rt n0 p l e R s m args below meth c k n T h) {x : Int32} {y : Int32} (hd : decode bytes pc = .ok (.iushr, 1)) (hp : pc + 1 = pc') (K : Go n0 p e below s Q CC NN T (mkF m pc' Ls (.int ((x.toUInt32 >>> (y &&& 31).toUInt32).toInt32) :: rest))) : Go n0 p e below s Q CC NN T (mkF m pc Ls (.int y :: .int x :: rest)) := by
  obtain ⟨hx, hb, -, -, -, -, -, -, ⟨L, X, -⟩, -⟩ := w
  obtain ⟨s₂, o, st, r⟩ := K
  subst hp hb
  exact ⟨s₂, o, XS.iushr X.here hx rfl hd rfl st, r⟩
theorem glshl (w : W Z own nm bytes mx rt n0 p l e R s m args below meth c k n T h) {x : Int64} {y : Int32} (hd : decode bytes pc = .ok (.lshl, 1)) (hp : pc + 1 = pc') (K : Go n0 p e below s Q CC NN T (mkF m pc' Ls (.long (x <<< (y &&& 0x3f).toInt64) :: rest))) : Go n0 p e below s Q CC NN T (mkF m pc Ls (.int y :: .long x :: rest)) := by
  obtain ⟨hx, hb, -, -, -, -, -, -, ⟨L, X, -⟩, -⟩ := w
  obtain ⟨s₂, o, st, r⟩ := K
  subst hp hb
  exact ⟨s₂, o, XS.lshl X.here hx rfl hd rfl st, r⟩
theorem glshr (w : W Z own nm bytes mx rt n0 p l e R s m args below meth c k n T h) {x : Int64} {y : Int32} (hd : decode bytes pc = .ok (.lshr, 1)) (hp : pc + 1 = pc') (K : Go n0 p e below s Q CC NN T (mkF m pc' Ls (.long (x >>> (y &&& 0x3f).toInt64) :: rest))) : Go n0 p e below s Q CC NN T (mkF m pc Ls (.int y :: .long x :: rest)) := by
  obtain ⟨hx, hb, -, -, -, -, -, -, ⟨L, X, -⟩, -⟩ := w
  obtain ⟨s₂, o, st, r⟩ := K
  subst hp hb
  exact ⟨s₂, o, XS.lshr X.here hx rfl hd rfl st, r⟩
theorem glushr (w : W Z own nm bytes mx rt n0 p l e R s m args below meth c k n T h) {x : Int64} {y : Int32} (hd : decode bytes pc = .ok (.lushr, 1)) (hp : pc + 1 = pc') (K : Go n0 p e below s Q CC NN T (mkF m pc' Ls (.long ((x.toUInt64 >>> (y &&& 0x3f).toInt64.toUInt64).toInt64) :: rest))) : Go n0 p e below s Q CC NN T (mkF m pc Ls (.int y :: .long x :: rest)) := by
  obtain ⟨hx, hb, -, -, -, -, -, -, ⟨L, X, -⟩, -⟩ := w
  obtain ⟨s₂, o, st, r⟩ := K
  subst hp hb
  exact ⟨s₂, o, XS.lushr X.here hx rfl hd rfl st, r⟩
theorem gi2b (w : W Z own nm bytes mx rt n0 p l e R s m args below meth c k n T h) {v : Int32} (hd : decode bytes pc = .ok (.i2b, 1)) (hp : pc + 1 = pc') (K : Go n0 p e below s Q CC NN T (mkF m pc' Ls (.int (v.toInt8.toInt32) :: rest))) : Go n0 p e below s Q CC NN T (mkF m pc Ls (.int v :: rest)) := by
  obtain ⟨hx, hb, -, -, -, -, -, -, ⟨L, X, -⟩, -⟩ := w
  obtain ⟨s₂, o, st, r⟩ := K
  subst hp hb
  exact ⟨s₂, o, XS.i2b X.here hx rfl hd rfl st, r⟩
theorem gi2c (w : W Z own nm bytes mx rt n0 p l e R s m args below meth c k n T h) {v : Int32} (hd : decode bytes pc = .ok (.i2c, 1)) (hp : pc + 1 = pc') (K : Go n0 p e below s Q CC NN T (mkF m pc' Ls (.int (v.toUInt32.toUInt16.toUInt32.toInt32) :: rest))) : Go n0 p e below s Q CC NN T (mkF m pc Ls (.int v :: rest)) := by
  obtain ⟨hx, hb, -, -, -, -, -, -, ⟨L, X, -⟩, -⟩ := w
  obtain ⟨s₂, o, st, r⟩ := K
  subst hp hb
  exact ⟨s₂, o, XS.i2c X.here hx rfl hd rfl st, r⟩
theorem gi2l (w : W Z own nm bytes mx rt n0 p l e R s m args below meth c k n T h) {v : Int32} (hd : decode bytes pc = .ok (.i2l, 1)) (hp : pc + 1 = pc') (K : Go n0 p e below s Q CC NN T (mkF m pc' Ls (.long (v.toInt64) :: rest))) : Go n0 p e below s Q CC NN T (mkF m pc Ls (.int v :: rest)) := by
  obtain ⟨hx, hb, -, -, -, -, -, -, ⟨L, X, -⟩, -⟩ := w
  obtain ⟨s₂, o, st, r⟩ := K
  subst hp hb
  exact ⟨s₂, o, XS.i2l X.here hx rfl hd rfl st, r⟩
theorem gl2i (w : W Z own nm bytes mx rt n0 p l e R s m args below meth c k n T h) {v : Int64} (hd : decode bytes pc = .ok (.l2i, 1)) (hp : pc + 1 = pc') (K : Go n0 p e below s Q CC NN T (mkF m pc' Ls (.int (v.toInt32) :: rest))) : Go n0 p e below s Q CC NN T (mkF m pc Ls (.long v :: rest)) := by
  obtain ⟨hx, hb, -, -, -, -, -, -, ⟨L, X, -⟩, -⟩ := w
  obtain ⟨s₂, o, st, r⟩ := K
  subst hp hb
  exact ⟨s₂, o, XS.l2i X.here hx rfl hd rfl st, r⟩
theorem gdup (w : W Z own nm bytes mx rt n0 p l e R s m args below meth c k n T h) {x : Value} (hd : decode bytes pc = .ok (.dup, 1)) (hc : x.category = 1) (hp : pc + 1 = pc') (K : Go n0 p e below s Q CC NN T (mkF m pc' Ls (x :: x :: rest))) : Go n0 p e below s Q CC NN T (mkF m pc Ls (x :: rest)) := by
  obtain ⟨hx, hb, -, -, -, -, -, -, ⟨L, X, -⟩, -⟩ := w
  obtain ⟨s₂, o, st, r⟩ := K
  subst hp hb
  exact ⟨s₂, o, XS.dup X.here hx rfl hd rfl hc st, r⟩
theorem gpop (w : W Z own nm bytes mx rt n0 p l e R s m args below meth c k n T h) {x : Value} (hd : decode bytes pc = .ok (.pop, 1)) (hc : x.category = 1) (hp : pc + 1 = pc') (K : Go n0 p e below s Q CC NN T (mkF m pc' Ls (rest))) : Go n0 p e below s Q CC NN T (mkF m pc Ls (x :: rest)) := by
  obtain ⟨hx, hb, -, -, -, -, -, -, ⟨L, X, -⟩, -⟩ := w
  obtain ⟨s₂, o, st, r⟩ := K
  subst hp hb
  exact ⟨s₂, o, XS.pop X.here hx rfl hd rfl hc st, r⟩
theorem gdupx1 (w : W Z own nm bytes mx rt n0 p l e R s m args below meth c k n T h) {x y : Value} (hd : decode bytes pc = .ok (.dup_x1, 1)) (hc : x.category = 1) (hc2 : y.category = 1) (hp : pc + 1 = pc') (K : Go n0 p e below s Q CC NN T (mkF m pc' Ls (x :: y :: x :: rest))) : Go n0 p e below s Q CC NN T (mkF m pc Ls (x :: y :: rest)) := by
  obtain ⟨hx, hb, -, -, -, -, -, -, ⟨L, X, -⟩, -⟩ := w
  obtain ⟨s₂, o, st, r⟩ := K
  subst hp hb
  exact ⟨s₂, o, XS.dupX1 X.here hx rfl hd rfl hc hc2 st, r⟩
theorem ggoto (w : W Z own nm bytes mx rt n0 p l e R s m args below meth c k n T h) {o : Int} (hd : decode bytes pc = .ok (.goto o, 3)) (ho : 0 ≤ (pc : Int) + o) (hp : ((pc : Int) + o).toNat = pc') (K : Go n0 p e below s Q CC NN T (mkF m pc' Ls rest)) : Go n0 p e below s Q CC NN T (mkF m pc Ls rest) := by
  obtain ⟨hx, hb, -, -, -, -, -, -, ⟨L, X, -⟩, -⟩ := w
  obtain ⟨s₂, q, st, r⟩ := K
  subst hb
  exact ⟨s₂, q, XS.goto X.here hx rfl rfl hd ho hp st, r⟩
theorem gif (w : W Z own nm bytes mx rt n0 p l e R s m args below meth c k n T h) {cd : ClassFile.Cond} {x : Int32} {o : Int} {pt pf : Nat} (hd : decode bytes pc = .ok (.ifCond cd o, 3)) (ho : 0 ≤ (pc : Int) + o) (ht : ((pc : Int) + o).toNat = pt) (hf : pc + 3 = pf)
    (Kt : cY cd x 0 → Go n0 p e below s Q CC NN T (mkF m pt Ls rest)) (Kf : cN cd x 0 → Go n0 p e below s Q CC NN T (mkF m pf Ls rest)) : Go n0 p e below s Q CC NN T (mkF m pc Ls (.int x :: rest)) := by
  obtain ⟨hx, hb, -, -, -, -, -, -, ⟨L, X, -⟩, -⟩ := w
  subst hb hf
  rcases c_or cd x 0 with ⟨q, q'⟩ | ⟨q, q'⟩
  · obtain ⟨s₂, z, st, r⟩ := Kt q
    exact ⟨s₂, z, XS.ifYes X.here hx rfl rfl hd rfl ((if0 _ _).trans q') ho ht st, r⟩
  · obtain ⟨s₂, z, st, r⟩ := Kf q
    exact ⟨s₂, z, XS.ifNo X.here hx rfl hd rfl ((if0 _ _).trans q') st, r⟩
theorem gicmp (w : W Z own nm bytes mx rt n0 p l e R s m args below meth c k n T h) {cd : ClassFile.Cond} {x y : Int32} {o : Int} {pt pf : Nat} (hd : decode bytes pc = .ok (.if_icmp cd o, 3)) (ho : 0 ≤ (pc : Int) + o) (ht : ((pc : Int) + o).toNat = pt) (hf : pc + 3 = pf)
    (Kt : cY cd x y → Go n0 p e below s Q CC NN T (mkF m pt Ls rest)) (Kf : cN cd x y → Go n0 p e below s Q CC NN T (mkF m pf Ls rest)) : Go n0 p e below s Q CC NN T (mkF m pc Ls (.int y :: .int x :: rest)) := by
  obtain ⟨hx, hb, -, -, -, -, -, -, ⟨L, X, -⟩, -⟩ := w
  subst hb hf
  rcases c_or cd x y with ⟨q, q'⟩ | ⟨q, q'⟩
  · obtain ⟨s₂, z, st, r⟩ := Kt q
    exact ⟨s₂, z, XS.icmpYes X.here hx rfl rfl hd rfl q' ho ht st, r⟩
  · obtain ⟨s₂, z, st, r⟩ := Kf q
    exact ⟨s₂, z, XS.icmpNo X.here hx rfl hd rfl q' st, r⟩
theorem glcmpif (w : W Z own nm bytes mx rt n0 p l e R s m args below meth c k n T h) {cd : ClassFile.Cond} {x y : Int64} {o : Int} {pm pt pf : Nat} (hd0 : decode bytes pc = .ok (.lcmp, 1)) (hm : pc + 1 = pm) (hd : decode bytes pm = .ok (.ifCond cd o, 3)) (ho : 0 ≤ (pm : Int) + o) (ht : ((pm : Int) + o).toNat = pt) (hf : pm + 3 = pf)
    (Kt : lY cd x y → Go n0 p e below s Q CC NN T (mkF m pt Ls rest)) (Kf : lN cd x y → Go n0 p e below s Q CC NN T (mkF m pf Ls rest)) : Go n0 p e below s Q CC NN T (mkF m pc Ls (.long y :: .long x :: rest)) := by
  have K : Go n0 p e below s Q CC NN T (mkF m pm Ls (.int (lcmpW x y) :: rest)) := gif w hd ho ht hf (fun q => Kt (lY_of cd x y q)) (fun q => Kf (lN_of cd x y q))
  obtain ⟨hx, hb, -, -, -, -, -, -, ⟨L, X, -⟩, -⟩ := w
  obtain ⟨s₂, z, st, r⟩ := K
  subst hb hm
  exact ⟨s₂, z, XS.lcmp X.here hx rfl hd0 rfl st, r⟩
theorem gacmp (w : W Z own nm bytes mx rt n0 p l e R s m args below meth c k n T h) {cd : ClassFile.ACond} {x y : Value} {o : Int} {pt pf : Nat} (hd : decode bytes pc = .ok (.if_acmp cd o, 3)) (ho : 0 ≤ (pc : Int) + o) (h1 : x.isRef = true) (h2 : y.isRef = true) (ht : (if acV cd true = true then ((pc : Int) + o).toNat else pc + 3) = pt) (hf : (if acV cd false = true then ((pc : Int) + o).toNat else pc + 3) = pf)
    (Ke : x = y → Go n0 p e below s Q CC NN T (mkF m pt Ls rest)) (Kn : ¬ x = y → Go n0 p e below s Q CC NN T (mkF m pf Ls rest)) : Go n0 p e below s Q CC NN T (mkF m pc Ls (y :: x :: rest)) := by
  obtain ⟨hx, hb, -, -, -, -, -, -, ⟨L, X, -⟩, -⟩ := w
  subst hb
  by_cases q : x = y
  · obtain ⟨s₂, z, st, r⟩ := Ke q
    exact ⟨s₂, z, Jvm.RoadKit.acmp (g := mkF m pc Ls (y :: x :: rest)) X hx rfl h1 h2 (same := true) rfl hd rfl (decide_eq_true q) ho ht.symm st, r⟩
  · obtain ⟨s₂, z, st, r⟩ := Kn q
    exact ⟨s₂, z, Jvm.RoadKit.acmp (g := mkF m pc Ls (y :: x :: rest)) X hx rfl h1 h2 (same := false) rfl hd rfl (decide_eq_false q) ho hf.symm st, r⟩
theorem gifnullY (w : W Z own nm bytes mx rt n0 p l e R s m args below meth c k n T h) {o : Int} (hd : decode bytes pc = .ok (.ifnull o, 3)) (ho : 0 ≤ (pc : Int) + o) (hp : ((pc : Int) + o).toNat = pc') (K : Go n0 p e below s Q CC NN T (mkF m pc' Ls rest)) : Go n0 p e below s Q CC NN T (mkF m pc Ls (.null :: rest)) := by
  obtain ⟨hx, hb, -, -, -, -, -, -, ⟨L, X, -⟩, -⟩ := w
  obtain ⟨s₂, q, st, r⟩ := K
  subst hb
  exact ⟨s₂, q, XS.ifnullYes X.here hx rfl rfl hd rfl ho hp st, r⟩
theorem gifnullN (w : W Z own nm bytes mx rt n0 p l e R s m args below meth c k n T h) {o : Int} {b : Addr} (hd : decode bytes pc = .ok (.ifnull o, 3)) (hp : pc + 3 = pc') (K : Go n0 p e below s Q CC NN T (mkF m pc' Ls rest)) : Go n0 p e below s Q CC NN T (mkF m pc Ls (.ref b :: rest)) := by
  obtain ⟨hx, hb, -, -, -, -, -, -, ⟨L, X, -⟩, -⟩ := w
  obtain ⟨s₂, q, st, r⟩ := K
  subst hb hp
  exact ⟨s₂, q, XS.ifnullNo X.here hx rfl hd rfl st, r⟩
theorem gifnonnullY (w : W Z own nm bytes mx rt n0 p l e R s m args below meth c k n T h) {o : Int} {b : Addr} (hd : decode bytes pc = .ok (.ifnonnull o, 3)) (ho : 0 ≤ (pc : Int) + o) (hp : ((pc : Int) + o).toNat = pc') (K : Go n0 p e below s Q CC NN T (mkF m pc' Ls rest)) : Go n0 p e below s Q CC NN T (mkF m pc Ls (.ref b :: rest)) := by
  obtain ⟨hx, hb, -, -, -, -, -, -, ⟨L, X, -⟩, -⟩ := w
  obtain ⟨s₂, q, st, r⟩ := K
  subst hb
  exact ⟨s₂, q, XS.ifnonnullYes X.here hx rfl rfl hd rfl ho hp st, r⟩
theorem gifnonnullN (w : W Z own nm bytes mx rt n0 p l e R s m args below meth c k n T h) {o : Int} (hd : decode bytes pc = .ok (.ifnonnull o, 3)) (hp : pc + 3 = pc') (K : Go n0 p e below s Q CC NN T (mkF m pc' Ls rest)) : Go n0 p e below s Q CC NN T (mkF m pc Ls (.null :: rest)) := by
  obtain ⟨hx, hb, -, -, -, -, -, -, ⟨L, X, -⟩, -⟩ := w
  obtain ⟨s₂, q, st, r⟩ := K
  subst hb hp
  exact ⟨s₂, q, XS.ifnonnullNo X.here hx rfl hd rfl st, r⟩
theorem gldc2 (w : W Z own nm bytes mx rt n0 p l e R s m args below meth c k n T h) {index : Nat} {v : Int64} (hd : decode bytes pc = .ok (.ldc2_w index, 3)) (w1 : (Jvm.Cond.constantLong own index v).before a0 Z = true) (hp : pc + 3 = pc') (K : Go n0 p e below s Q CC NN T (mkF m pc' Ls (.long v :: rest))) : Go n0 p e below s Q CC NN T (mkF m pc Ls rest) := by
  obtain ⟨hx, hb, hown, hZ, -, -, -, -, ⟨L, X, -⟩, -⟩ := w
  obtain ⟨s₂, q, st, r⟩ := K
  subst hb hp
  exact ⟨s₂, q, X.ldc2Long hx hown (mvT hZ w1) (g := mkF m pc Ls rest) rfl hd _ st, r⟩
theorem gldcI (w : W Z own nm bytes mx rt n0 p l e R s m args below meth c k n T h) {index : Nat} {v : Int32} (hd : decode bytes pc = .ok (.ldc index, 2)) (w1 : (Jvm.Cond.constant own index v).before a0 Z = true) (hp : pc + 2 = pc') (K : Go n0 p e below s Q CC NN T (mkF m pc' Ls (.int v :: rest))) : Go n0 p e below s Q CC NN T (mkF m pc Ls rest) := by
  obtain ⟨hx, hb, hown, hZ, -, -, -, -, ⟨L, X, -⟩, -⟩ := w
  obtain ⟨s₂, q, st, r⟩ := K
  subst hb hp
  exact ⟨s₂, q, X.ldcInt hx hown (mvT hZ w1) (g := mkF m pc Ls rest) rfl hd _ st, r⟩

theorem ggetF (w : W Z own nm bytes mx rt n0 p l e R s m args below meth c k n T h) {index : Nat} {O n' d : String} {a : Addr} {v : Value} (hd : decode bytes pc = .ok (.getfield index, 3)) (w1 : (Jvm.Cond.fieldLink own index O n' d).before a0 Z = true) (F : Fld Z h a O n' d v) (hp : pc + 3 = pc')
    (K : ∀ T', W Z own nm bytes mx rt n0 p l e R s m args below meth c k n T' h → Go n0 p e below s Q CC NN T' (mkF m pc' Ls (v :: rest))) : Go n0 p e below s Q CC NN T (mkF m pc Ls (.ref a :: rest)) := by
  obtain ⟨hx, hb, hown, hZ, r1, r2, r3, r4, ⟨L, X, N⟩, eT⟩ := w
  obtain ⟨T', X', e', st⟩ := getF X hx hZ hown (host := "") (Or.inl w1) Via.refl eT F (g := mkF m pc Ls (.ref a :: rest)) rfl rfl (by rw [hb]; exact hd)
  obtain ⟨s₂, q, st', r⟩ := K T' ⟨hx, hb, hown, hZ, r1, r2, r3, r4, ⟨L, X', N⟩, e'⟩
  subst hp
  exact ⟨s₂, q, st _ st', r⟩
theorem ggetS (w : W Z own nm bytes mx rt n0 p l e R s m args below meth c k n T h) {index : Nat} {O n' d : String} {v : Value} (hd : decode bytes pc = .ok (.getstatic index, 3)) (w1 : (Jvm.Cond.fieldLink own index O n' d).before a0 Z = true) (F : Sta Z h O n' d v) (hp : pc + 3 = pc')
    (K : ∀ T', W Z own nm bytes mx rt n0 p l e R s m args below meth c k n T' h → Go n0 p e below s Q CC NN T' (mkF m pc' Ls (v :: rest))) : Go n0 p e below s Q CC NN T (mkF m pc Ls rest) := by
  obtain ⟨hx, hb, hown, hZ, r1, r2, r3, r4, ⟨L, X, N⟩, eT⟩ := w
  obtain ⟨T', X', e', st⟩ := getS (host := "") X hx hZ hown w1 Via.refl eT F (g := mkF m pc Ls rest) rfl (by rw [hb]; exact hd)
  obtain ⟨s₂, q, st', r⟩ := K T' ⟨hx, hb, hown, hZ, r1, r2, r3, r4, ⟨L, X', N⟩, e'⟩
  subst hp
  exact ⟨s₂, q, st _ st', r⟩
theorem ggetSN (w : W Z own nm bytes mx rt n0 p l e R s m args below meth c k n T h) {index : Nat} {O n' d host : String} {v : Value} (hd : decode bytes pc = .ok (.getstatic index, 3)) (w1 : (Jvm.Cond.fieldLinkNest own index O n' d host).before a0 Z = true) (F : Sta Z h O n' d v) (hp : pc + 3 = pc')
    (K : ∀ T', W Z own nm bytes mx rt n0 p l e R s m args below meth c k n T' h → Go n0 p e below s Q CC NN T' (mkF m pc' Ls (v :: rest))) : Go n0 p e below s Q CC NN T (mkF m pc Ls rest) := by
  obtain ⟨hx, hb, hown, hZ, r1, r2, r3, r4, ⟨L, X, N⟩, eT⟩ := w
  obtain ⟨T', X', e', st⟩ := getS2 X hx hZ hown (Or.inr w1) Via.refl eT F (g := mkF m pc Ls rest) rfl (by rw [hb]; exact hd)
  obtain ⟨s₂, q, st', r⟩ := K T' ⟨hx, hb, hown, hZ, r1, r2, r3, r4, ⟨L, X', N⟩, e'⟩
  subst hp
  exact ⟨s₂, q, st _ st', r⟩
/-- putfield: what is written may be narrowed (v to v') -/
theorem gputF (w : W Z own nm bytes mx rt n0 p l e R s m args below meth c k n T h) {index kk : Nat} {O n' d C : String} {ty : FieldType} {a : Addr} {v v' old : Value} (hd : decode bytes pc = .ok (.putfield index, 3)) (w1 : (Jvm.Cond.fieldLink own index O n' d).before a0 Z = true) (F : Fld Z h a O n' d old) (E : Exa Z h a C)
    (LL : (Jvm.Cond.lays C O n' d).before a0 Z = true ∨ ((Jvm.Cond.laysFinal C O n' d).before a0 Z = true ∧ own = O ∧ nm = "<init>")) (wi : (Jvm.Cond.instantiable C kk).before a0 Z = true) (hty : parseFieldDescriptor d = some ty) (hn : narrow ty v = v') (hf : fits ty v' = true) (hna : n0 ≤ a) (hp : pc + 3 = pc')
    (K : ∀ T' h', W Z own nm bytes mx rt n0 p l e R s m args below meth c k n T' h' → Wr h h' a (Jvm.RoadKit.slotOf Z O n' d) v' → Go n0 p e below s Q CC NN T' (mkF m pc' Ls rest)) : Go n0 p e below s Q CC NN T (mkF m pc Ls (v :: .ref a :: rest)) := by
  obtain ⟨hx, hb, hown, hZ, r1, r2, r3, r4, ⟨L, X, N⟩, eT⟩ := w
  obtain ⟨T', h', X', e', Wx, st⟩ := putFN X hx hZ hown w1 Via.refl eT F E (LL.imp id fun q => ⟨q.1, q.2.1, r2.trans q.2.2⟩) wi hty hn hf (g := mkF m pc Ls (v :: .ref a :: rest)) rfl rfl (by rw [hb]; exact hd)
  obtain ⟨s₂, q, st', r⟩ := K T' h' ⟨hx, hb, hown, hZ, r1, r2, r3, r4, ⟨_, X', Fr.snoc X' N hna⟩, e'⟩ Wx
  subst hp
  exact ⟨s₂, q, st _ st', r⟩
theorem gnewO (w : W Z own nm bytes mx rt n0 p l e R s m args below meth c k n T h) {index j : Nat} {C : String} (hd : decode bytes pc = .ok (.new index, 3)) (w1 : (Jvm.Cond.classLink own index C).before a0 Z = true) (wi : (Jvm.Cond.instantiable C j).before a0 Z = true) (wz : (Jvm.Cond.initialized C).before a0 Z = true) (hc : k + 1 ≤ R.cells) (hl : n + j ≤ R.slots) (hp : pc + 3 = pc')
    (K : ∀ T' h' a, h.size = a → W Z own nm bytes mx rt n0 p l e R s m args below meth c (k + 1) (n + j) T' h' → Ext h h' → Exa Z h' a C → (∀ {O f d : String} {ty : FieldType}, Laid Z a0 C O f d → parseFieldDescriptor d = some ty → Fld Z h' a O f d (defaultValue ty)) → Go n0 p e below s Q CC NN T' (mkF m pc' Ls (.ref a :: rest))) : Go n0 p e below s Q CC NN T (mkF m pc Ls rest) := by
  obtain ⟨hx, hb, hown, hZ, r1, r2, r3, r4, ⟨L, X, N⟩, eT⟩ := w
  obtain ⟨T', h', X', e', E, A, D, -, st⟩ := newO X hx hZ hown w1 wi wz eT (g := mkF m pc Ls rest) rfl (by rw [hb]; exact hd) hc hl
  obtain ⟨s₂, q, st', r⟩ := K T' h' _ rfl ⟨hx, hb, hown, hZ, r1, r2, r3, r4, ⟨_, X', N⟩, e'⟩ E A D
  subst hp
  exact ⟨s₂, q, st _ st', r⟩
theorem gnewP (w : W Z own nm bytes mx rt n0 p l e R s m args below meth c k n T h) {aty : ArrayType} {z : Int32} {cap : Nat} {ty : FieldType} (hd : decode bytes pc = .ok (.newarray aty, 2)) (hty : newarray.typeOf aty = ty) (w1 : (Jvm.Cond.arrayClass ty).before a0 Z = true) (hn : ¬ z < 0) (hcap : z.toNatClampNeg ≤ cap) (hb8 : cap * 8 ≤ 536870912) (hc : k + 1 ≤ R.cells) (hl : n + cap ≤ R.slots) (hp : pc + 2 = pc')
    (K : ∀ T' h' a kA, h.size = a → W Z own nm bytes mx rt n0 p l e R s m args below meth c (k + 1) (n + cap) T' h' → Ext h h' → Arv Z h' a kA ty z [] (defaultValue ty) → Go n0 p e below s Q CC NN T' (mkF m pc' Ls (.ref a :: rest))) : Go n0 p e below s Q CC NN T (mkF m pc Ls (.int z :: rest)) := by
  obtain ⟨hx, hb, hown, hZ, r1, r2, r3, r4, ⟨L, X, N⟩, eT⟩ := w
  subst hty
  obtain ⟨T', h', cA, X', e', E, A, st⟩ := newP X hx hZ w1 eT (g := mkF m pc Ls (.int z :: rest)) rfl (by rw [hb]; exact hd) rfl hn hcap hb8 hc hl
  obtain ⟨s₂, q, st', r⟩ := K T' h' _ cA rfl ⟨hx, hb, hown, hZ, r1, r2, r3, r4, ⟨_, X', N⟩, e'⟩ E (Arv.new A hn)
  subst hp
  exact ⟨s₂, q, st _ st', r⟩
theorem ginitO (w : W Z own nm bytes mx rt n0 p l e R s m args below meth c k n T h) {index : Nat} {a : Addr} {Wt : Nat} (hd : decode bytes pc = .ok (.invokespecial index, 3)) (w1 : (Jvm.Cond.methodLink own index Lib.objectInit).before a0 Z = true) (w2 : (Jvm.Cond.instanceMethod Lib.objectInit).before a0 Z = true) (w3 : (Jvm.Cond.code Lib.objectInit ⟨#[0xb1]⟩ 1 none).before a0 Z = true)
    (hsz : Ls.size = mx) (hf : 1 ≤ R.frames) (hW : (rest.map fun v => v.category).sum ≤ Wt) (hl : Wt + 12 ≤ R.locals) (hp : pc + 3 = pc')
    (K : ∀ T', W Z own nm bytes mx rt n0 p l e R s m args below meth c k n T' h → Go n0 p e below s Q CC NN T' (mkF m pc' Ls rest)) : Go n0 p e below s Q CC NN T (mkF m pc Ls (.ref a :: rest)) := by
  obtain ⟨hx, hb, hown, hZ, r1, r2, r3, r4, ⟨L, X, N⟩, eT⟩ := w
  obtain ⟨T', X', e', st⟩ := initO X hx hZ hown w1 w2 w3 eT (g := mkF m pc Ls (.ref a :: rest)) rfl (hsz.trans r1.symm) rfl (by rw [hb]; exact hd) hf (W := Wt) (by show 2 * 0 + _ ≤ _; omega) hl
  obtain ⟨s₂, q, st', r⟩ := K T' ⟨hx, hb, hown, hZ, r1, r2, r3, r4, ⟨L, X', N⟩, e'⟩
  subst hp
  exact ⟨s₂, q, st _ st', r⟩
theorem glen (w : W Z own nm bytes mx rt n0 p l e R s m args below meth c k n T h) {a : Addr} {kA : ClassId} {ty : FieldType} {z : Int32} {vs : List Value} {dv : Value} (hd : decode bytes pc = .ok (.arraylength, 1)) (V : Arv Z h a kA ty z vs dv) (hp : pc + 1 = pc') (K : Go n0 p e below s Q CC NN T (mkF m pc' Ls (.int z :: rest))) : Go n0 p e below s Q CC NN T (mkF m pc Ls (.ref a :: rest)) := by
  obtain ⟨hx, hb, hown, hZ, r1, r2, r3, r4, ⟨L, X, N⟩, eT⟩ := w
  obtain ⟨cl, A, -, S, N1, -, -⟩ := V
  obtain ⟨s₂, q, st', r⟩ := K
  subst hp
  refine ⟨s₂, q, X.arraylength hx (by rw [eT]; exact A.1) (State.isArrayOf_alike hZ.alike A.2.1) (g := mkF m pc Ls (.ref a :: rest)) rfl rfl (by rw [hb]; exact hd) _ ?_, r⟩
  rw [len_of S N1]
  exact st'

theorem gbaload (w : W Z own nm bytes mx rt n0 p l e R s m args below meth c k n T h) {a : Addr} {kA : ClassId} {z j : Int32} {vs : List Value} {dv v : Value} (hd : decode bytes pc = .ok (.baload, 1)) (V : Arv Z h a kA .byte z vs dv) (hj : ¬ j < 0 ∧ j < z) (hv : vs.getD j.toNatClampNeg dv = v) (hp : pc + 1 = pc') (K : Go n0 p e below s Q CC NN T (mkF m pc' Ls (v :: rest))) : Go n0 p e below s Q CC NN T (mkF m pc Ls (.int j :: .ref a :: rest)) := by
  obtain ⟨hx, hb, hown, hZ, r1, r2, r3, r4, ⟨L, X, N⟩, eT⟩ := w
  obtain ⟨cl, A, -, S, -, H, -⟩ := V
  obtain ⟨s₂, q, st', r⟩ := K
  subst hp
  exact ⟨s₂, q, X.baloadBytes hx (j := j) (v := v) (by rw [eT]; exact A.1) (State.isArrayOf_alike hZ.alike A.2.1) A.2.2 (inb_of S hj) (H.at (inb_of S hj) hv) (g := mkF m pc Ls (.int j :: .ref a :: rest)) rfl rfl (by rw [hb]; exact hd) _ st', r⟩

theorem giaload (w : W Z own nm bytes mx rt n0 p l e R s m args below meth c k n T h) {a : Addr} {kA : ClassId} {z j : Int32} {vs : List Value} {dv v : Value} (hd : decode bytes pc = .ok (.iaload, 1)) (V : Arv Z h a kA .int z vs dv) (hj : ¬ j < 0 ∧ j < z) (hv : vs.getD j.toNatClampNeg dv = v) (hp : pc + 1 = pc') (K : Go n0 p e below s Q CC NN T (mkF m pc' Ls (v :: rest))) : Go n0 p e below s Q CC NN T (mkF m pc Ls (.int j :: .ref a :: rest)) := by
  obtain ⟨hx, hb, hown, hZ, r1, r2, r3, r4, ⟨L, X, N⟩, eT⟩ := w
  obtain ⟨cl, A, -, S, -, H, -⟩ := V
  obtain ⟨s₂, q, st', r⟩ := K
  subst hp
  exact ⟨s₂, q, X.iaload hx (j := j) (v := v) (by rw [eT]; exact A.1) (State.isArrayOf_alike hZ.alike A.2.1) A.2.2 (inb_of S hj) (H.at (inb_of S hj) hv) (g := mkF m pc Ls (.int j :: .ref a :: rest)) rfl rfl (by rw [hb]; exact hd) _ st', r⟩

theorem gbastore (w : W Z own nm bytes mx rt n0 p l e R s m args below meth c k n T h) {a : Addr} {kA : ClassId} {z j x x' : Int32} {vs : List Value} {dv : Value} (hd : decode bytes pc = .ok (.bastore, 1)) (hxv : x.toInt8.toInt32 = x') (V : Arv Z h a kA .byte z vs dv) (hj : ¬ j < 0 ∧ j < z) (i : Nat) (hi : j.toNatClampNeg = i) (hlt : i < vs.length) (hna : n0 ≤ a) (hp : pc + 1 = pc')
    (K : ∀ T' h', W Z own nm bytes mx rt n0 p l e R s m args below meth c k n T' h' → Wr h h' a i (.int x') → Arv Z h' a kA .byte z (vs.set i (.int x')) dv → Go n0 p e below s Q CC NN T' (mkF m pc' Ls rest)) : Go n0 p e below s Q CC NN T (mkF m pc Ls (.int x :: .int j :: .ref a :: rest)) := by
  obtain ⟨hx, hb, hown, hZ, r1, r2, r3, r4, ⟨L, X, N⟩, eT⟩ := w
  obtain ⟨cl, A, q1, S, N1, H, Gf⟩ := V
  subst hxv
  obtain ⟨T', h', X', e', Wx, st⟩ := stB X hx hZ eT A (j := j) (x := x) (inb_of S hj) (g := mkF m pc Ls (.int x :: .int j :: .ref a :: rest)) rfl rfl (by rw [hb]; exact hd)
  obtain ⟨s₂, q, st', r⟩ := K T' h' ⟨hx, hb, hown, hZ, r1, r2, r3, r4, ⟨_, X', Fr.snoc X' N hna⟩, e'⟩ (hi ▸ Wx) (Arv.set A q1 S N1 H Gf (fits_nar_byte _) Wx i hi hlt)
  subst hp
  exact ⟨s₂, q, st _ st', r⟩

theorem giastore (w : W Z own nm bytes mx rt n0 p l e R s m args below meth c k n T h) {a : Addr} {kA : ClassId} {z j x x' : Int32} {vs : List Value} {dv : Value} (hd : decode bytes pc = .ok (.iastore, 1)) (hxv : x = x') (V : Arv Z h a kA .int z vs dv) (hj : ¬ j < 0 ∧ j < z) (i : Nat) (hi : j.toNatClampNeg = i) (hlt : i < vs.length) (hna : n0 ≤ a) (hp : pc + 1 = pc')
    (K : ∀ T' h', W Z own nm bytes mx rt n0 p l e R s m args below meth c k n T' h' → Wr h h' a i (.int x') → Arv Z h' a kA .int z (vs.set i (.int x')) dv → Go n0 p e below s Q CC NN T' (mkF m pc' Ls rest)) : Go n0 p e below s Q CC NN T (mkF m pc Ls (.int x :: .int j :: .ref a :: rest)) := by
  obtain ⟨hx, hb, hown, hZ, r1, r2, r3, r4, ⟨L, X, N⟩, eT⟩ := w
  obtain ⟨cl, A, q1, S, N1, H, Gf⟩ := V
  subst hxv
  obtain ⟨T', h', X', e', Wx, st⟩ := stI X hx hZ eT A (j := j) (x := x) (inb_of S hj) (g := mkF m pc Ls (.int x :: .int j :: .ref a :: rest)) rfl rfl (by rw [hb]; exact hd)
  obtain ⟨s₂, q, st', r⟩ := K T' h' ⟨hx, hb, hown, hZ, r1, r2, r3, r4, ⟨_, X', Fr.snoc X' N hna⟩, e'⟩ (hi ▸ Wx) (Arv.set A q1 S N1 H Gf rfl Wx i hi hlt)
  subst hp
  exact ⟨s₂, q, st _ st', r⟩

theorem gret0 (w : W Z own nm bytes mx none n0 p l e R s m args below meth c k n T h) (hd : decode bytes pc = .ok (.return_, 1)) (hk : k ≤ CC) (hn : n ≤ NN) (hQ : Q none h) : Go n0 p e below s Q CC NN T (mkF m pc Ls []) := by
  obtain ⟨hx, hb, hown, hZ, r1, r2, r3, r4, ⟨L, X, N⟩, eT⟩ := w
  obtain ⟨fs, hr, hrun, hended, hW, hsame⟩ := X.leave (v := none) (fun _ => rfl) r4
  refine ⟨_, _, X.returnOut hx r3 (by rw [hb]; exact hd) hr, hrun, hended, _, _, rfl, ⟨N, ?_⟩, ⟨_, rfl⟩, hW, hsame.mono hk hn⟩
  show Q none T.heap
  rw [eT]; exact hQ
theorem gret {t : FieldType} (w : W Z own nm bytes mx (some t) n0 p l e R s m args below meth c k n T h) {v : Value} {i : Instr} (hd : decode bytes pc = .ok (i, 1)) (hn' : narrow t v = v)
    (hi : (i = .ireturn ∧ (t = .int ∨ t = .boolean ∨ t = .byte ∨ t = .char ∨ t = .short) ∧ ∃ z, v = .int z) ∨ (i = .lreturn ∧ t = .long ∧ ∃ z, v = .long z) ∨ (i = .dreturn ∧ t = .double ∧ ∃ z, v = .double z) ∨ (i = .freturn ∧ t = .float ∧ ∃ z, v = .float z) ∨ (i = .areturn ∧ t.isReference = true ∧ v.isRef = true))
    (hk : k ≤ CC) (hn : n ≤ NN) (hQ : Q (some v) h) : Go n0 p e below s Q CC NN T (mkF m pc Ls (v :: rest)) := by
  obtain ⟨hx, hb, hown, hZ, r1, r2, r3, r4, ⟨L, X, N⟩, eT⟩ := w
  obtain ⟨fs, hr, hrun, hended, hW, hsame⟩ := X.leave (v := some v) (fun q => by rw [r3] at q; cases q) r4
  refine ⟨_, _, retOut X hx r3 hn' hi (by rw [hb]; exact hd) hr, hrun, hended, _, _, rfl, ⟨N, ?_⟩, ⟨_, rfl⟩, hW, hsame.mono hk hn⟩
  show Q (some v) T.heap
  rw [eT]; exact hQ
theorem gretI (w : W Z own nm bytes mx (some .int) n0 p l e R s m args below meth c k n T h) {v : Int32} (hd : decode bytes pc = .ok (.ireturn, 1)) (hk : k ≤ CC) (hn : n ≤ NN) (hQ : Q (some (.int v)) h) : Go n0 p e below s Q CC NN T (mkF m pc Ls (.int v :: rest)) :=
  gret w hd rfl (Or.inl ⟨rfl, Or.inl rfl, _, rfl⟩) hk hn hQ
theorem gretJ (w : W Z own nm bytes mx (some .long) n0 p l e R s m args below meth c k n T h) {v : Int64} (hd : decode bytes pc = .ok (.lreturn, 1)) (hk : k ≤ CC) (hn : n ≤ NN) (hQ : Q (some (.long v)) h) : Go n0 p e below s Q CC NN T (mkF m pc Ls (.long v :: rest)) :=
  gret w hd rfl (Or.inr (Or.inl ⟨rfl, rfl, _, rfl⟩)) hk hn hQ
theorem gretZ (w : W Z own nm bytes mx (some .boolean) n0 p l e R s m args below meth c k n T h) {v : Int32} (hd : decode bytes pc = .ok (.ireturn, 1)) (hv : narrow .boolean (.int v) = .int v) (hk : k ≤ CC) (hn : n ≤ NN) (hQ : Q (some (.int v)) h) : Go n0 p e below s Q CC NN T (mkF m pc Ls (.int v :: rest)) :=
  gret w hd hv (Or.inl ⟨rfl, Or.inr (Or.inl rfl), _, rfl⟩) hk hn hQ
theorem gretB (w : W Z own nm bytes mx (some .byte) n0 p l e R s m args below meth c k n T h) {v : Int32} (hd : decode bytes pc = .ok (.ireturn, 1)) (hv : narrow .byte (.int v) = .int v) (hk : k ≤ CC) (hn : n ≤ NN) (hQ : Q (some (.int v)) h) : Go n0 p e below s Q CC NN T (mkF m pc Ls (.int v :: rest)) :=
  gret w hd hv (Or.inl ⟨rfl, Or.inr (Or.inr (Or.inl rfl)), _, rfl⟩) hk hn hQ
theorem gretA {t : FieldType} (w : W Z own nm bytes mx (some t) n0 p l e R s m args below meth c k n T h) {v : Value} (hd : decode bytes pc = .ok (.areturn, 1)) (ht : t.isReference = true) (hv : v.isRef = true) (hn' : narrow t v = v) (hk : k ≤ CC) (hn : n ≤ NN) (hQ : Q (some v) h) : Go n0 p e below s Q CC NN T (mkF m pc Ls (v :: rest)) :=
  gret w hd hn' (Or.inr (Or.inr (Or.inr (Or.inr ⟨rfl, ht, hv⟩)))) hk hn hQ

theorem gcast (w : W Z own nm bytes mx rt n0 p l e R s m args below meth c k n T h) {index : Nat} {Kc : String} {a : Addr} (hd : decode bytes pc = .ok (.checkcast index, 3)) (w1 : (Jvm.Cond.classLink own index Kc).before a0 Z = true) (F : Ins Z h a Kc true) (hp : pc + 3 = pc')
    (K : ∀ T', W Z own nm bytes mx rt n0 p l e R s m args below meth c k n T' h → Go n0 p e below s Q CC NN T' (mkF m pc' Ls (.ref a :: rest))) : Go n0 p e below s Q CC NN T (mkF m pc Ls (.ref a :: rest)) := by
  obtain ⟨hx, hb, hown, hZ, r1, r2, r3, r4, ⟨L, X, N⟩, eT⟩ := w
  obtain ⟨T', X', e', st⟩ := castY X hx hZ hown w1 eT F (g := mkF m pc Ls (.ref a :: rest)) rfl rfl (by rw [hb]; exact hd)
  obtain ⟨s₂, q, st', r⟩ := K T' ⟨hx, hb, hown, hZ, r1, r2, r3, r4, ⟨L, X', N⟩, e'⟩
  subst hp
  exact ⟨s₂, q, st _ st', r⟩
theorem ginstY (w : W Z own nm bytes mx rt n0 p l e R s m args below meth c k n T h) {index : Nat} {Kc : String} {a : Addr} (hd : decode bytes pc = .ok (.instanceof index, 3)) (w1 : (Jvm.Cond.classLink own index Kc).before a0 Z = true) (F : Ins Z h a Kc true) (hp : pc + 3 = pc')
    (K : ∀ T', W Z own nm bytes mx rt n0 p l e R s m args below meth c k n T' h → Go n0 p e below s Q CC NN T' (mkF m pc' Ls (.int 1 :: rest))) : Go n0 p e below s Q CC NN T (mkF m pc Ls (.ref a :: rest)) := by
  obtain ⟨hx, hb, hown, hZ, r1, r2, r3, r4, ⟨L, X, N⟩, eT⟩ := w
  obtain ⟨T', X', e', st⟩ := instY X hx hZ hown w1 eT F (g := mkF m pc Ls (.ref a :: rest)) rfl rfl (by rw [hb]; exact hd)
  obtain ⟨s₂, q, st', r⟩ := K T' ⟨hx, hb, hown, hZ, r1, r2, r3, r4, ⟨L, X', N⟩, e'⟩
  subst hp
  exact ⟨s₂, q, st _ st', r⟩

theorem gcallS (w : W Z own nm bytes mx rt n0 p l e R s m args below meth c k n T h) {index : Nat} {y : MethodName} {yb : ByteArray} {ymx : Nat} {yr : Option FieldType} {rm : Room} {as : Array Value} {Q' : Option Value → Heap → Prop} {argsL : List Value} {stk : List Value} {ps : List FieldType} {ro : Option FieldType} {Wt : Nat} (hd : decode bytes pc = .ok (.invokestatic index, 3)) (w1 : (Jvm.Cond.methodLink own index y).before a0 Z = true) (w2 : (Jvm.Cond.static y).before a0 Z = true) (w3 : (Jvm.Cond.initialized y.cls).before a0 Z = true) (w4 : (Jvm.Cond.code y yb ymx yr).before a0 Z = true)
    (hy : y.cls ≠ "java/lang/invoke/MethodHandle" ∧ y.cls ≠ "java/lang/invoke/VarHandle") (hpd : parseMethodDescriptor y.desc = some ⟨ps, ro⟩) (ctr : Ctr l y yb ymx yr rm Z as h n0 Q' []) (has : argsL.toArray = as) (hlen : argsL.length = ps.length) (hst : stk = argsL.reverse ++ rest) (hsz : Ls.size = mx) (hW : (rest.map fun v => v.category).sum ≤ Wt) (hf : rm.frames + 1 ≤ R.frames) (hl : Wt + (ymx + 11) + rm.locals ≤ R.locals) (hc : k + rm.cells ≤ R.cells) (hs : n + rm.slots ≤ R.slots) (hp : pc + 3 = pc')
    (K : ∀ v T' h', W Z own nm bytes mx rt n0 p l e R s m args below meth c (k + rm.cells) (n + rm.slots) T' h' → Q' v h' → Go n0 p e below s Q CC NN T' (mkF m pc' Ls (v.toList ++ rest))) : Go n0 p e below s Q CC NN T (mkF m pc Ls stk) := by
  obtain ⟨hx, hb, hown, hZ, r1, r2, r3, r4, ⟨L, X, N⟩, eT⟩ := w
  obtain ⟨v, _, ⟨T', L', k', n'⟩, -, X', ⟨Lc, hQ, hl1, hc1, hs1⟩, st⟩ := Jvm.LawKit.callS X hx (y := y) hown (mvT hZ w1) (mvT hZ w2) (mvT hZ w3) (mvT hZ w4) hy (backOf (W := Wt) (Q := fun v h L => Fr n0 L ∧ Q' v h) ctr hZ w4 w3 hf hl) (g := mkF m pc Ls stk) rfl (hsz.trans r1.symm) (argsL := argsL) (rest := rest) (lenOf hpd hlen) hst (by show 2 * 0 + _ ≤ _; omega) (by rw [hb]; exact hd) (fun _ _ => ⟨has, eT, hc, hs⟩)
  dsimp only [Pt.U, Pt.locs, Pt.cells, Pt.slots] at X' st hQ hl1 hc1 hs1
  subst hl1 hc1 hs1
  obtain ⟨s₂, q, st', r⟩ := K v T' T'.heap ⟨hx, hb, hown, hZ, r1, r2, r3, r4, ⟨_, X', Fr.app N hQ.1⟩, rfl⟩ hQ.2
  subst hp
  exact ⟨s₂, q, st _ st', r⟩
theorem gcallN (w : W Z own nm bytes mx rt n0 p l e R s m args below meth c k n T h) {index : Nat} {y : MethodName} {yb : ByteArray} {ymx : Nat} {rm : Room} {as : Array Value} {Q' : Option Value → Heap → Prop} {argsL : List Value} {stk : List Value} {ps : List FieldType} {ro : Option FieldType} {Wt : Nat} {a : Addr} (hd : decode bytes pc = .ok (.invokespecial index, 3)) (w1 : (Jvm.Cond.methodLink own index y).before a0 Z = true) (w2 : (Jvm.Cond.instanceMethod y).before a0 Z = true) (w3 : (Jvm.Cond.initialized y.cls).before a0 Z = true) (w4 : (Jvm.Cond.code y yb ymx none).before a0 Z = true) (hyn : y.name = "<init>")
    (hy : y.cls ≠ "java/lang/invoke/MethodHandle" ∧ y.cls ≠ "java/lang/invoke/VarHandle") (hpd : parseMethodDescriptor y.desc = some ⟨ps, ro⟩) (ctr : Ctr l y yb ymx none rm Z as h n0 Q' []) (has : (.ref a :: argsL).toArray = as) (hlen : argsL.length = ps.length) (hst : stk = argsL.reverse ++ .ref a :: rest) (hsz : Ls.size = mx) (hW : (rest.map fun v => v.category).sum ≤ Wt) (hf : rm.frames + 1 ≤ R.frames) (hl : Wt + (ymx + 11) + rm.locals ≤ R.locals) (hc : k + rm.cells ≤ R.cells) (hs : n + rm.slots ≤ R.slots) (hp : pc + 3 = pc')
    (K : ∀ v T' h', W Z own nm bytes mx rt n0 p l e R s m args below meth c (k + rm.cells) (n + rm.slots) T' h' → Q' v h' → Go n0 p e below s Q CC NN T' (mkF m pc' Ls (v.toList ++ rest))) : Go n0 p e below s Q CC NN T (mkF m pc Ls stk) := by
  obtain ⟨hx, hb, hown, hZ, r1, r2, r3, r4, ⟨L, X, N⟩, eT⟩ := w
  obtain ⟨v, _, ⟨T', L', k', n'⟩, -, X', ⟨Lc, hQ, hl1, hc1, hs1⟩, st⟩ := X.specialBack hx (y := y) hyn hown (mvT hZ w1) (mvT hZ w2) (mvT hZ w4) hy (backOf (W := Wt) (Q := fun v h L => Fr n0 L ∧ Q' v h) ctr hZ w4 w3 hf hl) (g := mkF m pc Ls stk) rfl (hsz.trans r1.symm) (Steps.refl _) (a := a) (argsL := argsL) (rest := rest) (lenOf hpd hlen) hst (by show 2 * 0 + _ ≤ _; omega) (by rw [hb]; exact hd) (fun _ _ => ⟨has, eT, hc, hs⟩)
  dsimp only [Pt.U, Pt.locs, Pt.cells, Pt.slots] at X' st hQ hl1 hc1 hs1
  subst hl1 hc1 hs1
  obtain ⟨s₂, q, st', r⟩ := K v T' T'.heap ⟨hx, hb, hown, hZ, r1, r2, r3, r4, ⟨_, X', Fr.app N hQ.1⟩, rfl⟩ hQ.2
  subst hp
  exact ⟨s₂, q, st.trans st', r⟩
theorem gcallV (w : W Z own nm bytes mx rt n0 p l e R s m args below meth c k n T h) {index : Nat} {y : MethodName} {yb : ByteArray} {ymx : Nat} {yr : Option FieldType} {rm : Room} {as : Array Value} {Q' : Option Value → Heap → Prop} {argsL : List Value} {stk : List Value} {ps : List FieldType} {ro : Option FieldType} {Wt : Nat} {a : Addr} {C : String} (hd : decode bytes pc = .ok (.invokevirtual index, 3)) (w1 : (Jvm.Cond.methodLink own index y).before a0 Z = true) (w2 : (Jvm.Cond.declares y).before a0 Z = true) (w5 : (Jvm.Cond.selects C y y).before a0 Z = true) (w6 : (Jvm.Cond.instanceMethod y).before a0 Z = true) (w3 : (Jvm.Cond.initialized y.cls).before a0 Z = true) (w4 : (Jvm.Cond.code y yb ymx yr).before a0 Z = true)
    (E : Exa Z h a C) (hC : y.cls = C) (hy : y.cls ≠ "java/lang/invoke/MethodHandle" ∧ y.cls ≠ "java/lang/invoke/VarHandle") (hpd : parseMethodDescriptor y.desc = some ⟨ps, ro⟩) (ctr : Ctr l y yb ymx yr rm Z as h n0 Q' []) (has : (.ref a :: argsL).toArray = as) (hlen : argsL.length = ps.length) (hst : stk = argsL.reverse ++ .ref a :: rest) (hsz : Ls.size = mx) (hW : (rest.map fun v => v.category).sum ≤ Wt) (hf : rm.frames + 1 ≤ R.frames) (hl : Wt + (ymx + 11) + rm.locals ≤ R.locals) (hc : k + rm.cells ≤ R.cells) (hs : n + rm.slots ≤ R.slots) (hp : pc + 3 = pc')
    (K : ∀ v T' h', W Z own nm bytes mx rt n0 p l e R s m args below meth c (k + rm.cells) (n + rm.slots) T' h' → Q' v h' → Go n0 p e below s Q CC NN T' (mkF m pc' Ls (v.toList ++ rest))) : Go n0 p e below s Q CC NN T (mkF m pc Ls stk) := by
  obtain ⟨hx, hb, hown, hZ, r1, r2, r3, r4, ⟨L, X, N⟩, eT⟩ := w
  obtain ⟨cq, kq, qa, qb, qc⟩ := isOf hZ eT E
  subst hC
  obtain ⟨v, _, ⟨T', L', k', n'⟩, -, X', ⟨Lc, hQ, hl1, hc1, hs1⟩, st⟩ := X.virtualBack hx (y := y) (z := y) hown (mvT hZ w1) (mvT hZ w2) (notFace_of_selects (args := #[]) (mvT hZ w5)) (mvT hZ w5) (mvT hZ w6) hy (backOf (W := Wt) (Q := fun v h L => Fr n0 L ∧ Q' v h) ctr hZ w4 w3 hf hl) qa qc (g := mkF m pc Ls stk) rfl (hsz.trans r1.symm) (Steps.refl _) (argsL := argsL) (rest := rest) (lenOf hpd hlen) hst (by show 2 * 0 + _ ≤ _; omega) (by rw [hb]; exact hd) (fun _ _ => ⟨has, eT, hc, hs⟩)
  dsimp only [Pt.U, Pt.locs, Pt.cells, Pt.slots] at X' st hQ hl1 hc1 hs1
  subst hl1 hc1 hs1
  obtain ⟨s₂, q, st', r⟩ := K v T' T'.heap ⟨hx, hb, hown, hZ, r1, r2, r3, r4, ⟨_, X', Fr.app N hQ.1⟩, rfl⟩ hQ.2
  subst hp
  exact ⟨s₂, q, st.trans st', r⟩
theorem gaaload (w : W Z own nm bytes mx rt n0 p l e R s m args below meth c k n T h) {a : Addr} {cl : Cell} {ty : FieldType} {j : Int32} {v : Value} (hd : decode bytes pc = .ok (.aaload, 1)) (A : Arr Z h a cl ty) (hty : ty.isReference = true) (hin : ¬ (j < 0 ∨ cl.slots.size ≤ j.toNatClampNeg)) (hv : cl.slots[j.toNatClampNeg]? = some v) (hp : pc + 1 = pc') (K : Go n0 p e below s Q CC NN T (mkF m pc' Ls (v :: rest))) : Go n0 p e below s Q CC NN T (mkF m pc Ls (.int j :: .ref a :: rest)) := by
  obtain ⟨hx, hb, hown, hZ, r1, r2, r3, r4, ⟨L, X, N⟩, eT⟩ := w
  obtain ⟨s₂, q, st', r⟩ := K
  subst hp
  exact ⟨s₂, q, X.aaload hx (j := j) (v := v) (by rw [eT]; exact A.1) (State.isArrayOf_alike hZ.alike A.2.1) hty A.2.2 hin hv (g := mkF m pc Ls (.int j :: .ref a :: rest)) rfl rfl (by rw [hb]; exact hd) _ st', r⟩
theorem glenA (w : W Z own nm bytes mx rt n0 p l e R s m args below meth c k n T h) {a : Addr} {cl : Cell} {ty : FieldType} {z : Int32} (hd : decode bytes pc = .ok (.arraylength, 1)) (A : Arr Z h a cl ty) (hz : cl.slots.size.toInt32 = z) (hp : pc + 1 = pc') (K : Go n0 p e below s Q CC NN T (mkF m pc' Ls (.int z :: rest))) : Go n0 p e below s Q CC NN T (mkF m pc Ls (.ref a :: rest)) := by
  obtain ⟨hx, hb, hown, hZ, r1, r2, r3, r4, ⟨L, X, N⟩, eT⟩ := w
  obtain ⟨s₂, q, st', r⟩ := K
  subst hp hz
  exact ⟨s₂, q, X.arraylength hx (by rw [eT]; exact A.1) (State.isArrayOf_alike hZ.alike A.2.1) (g := mkF m pc Ls (.ref a :: rest)) rfl rfl (by rw [hb]; exact hd) _ st', r⟩
theorem gclone (w : W Z own nm bytes mx rt n0 p l e R s m args below meth c k n T h) {index Wt cap : Nat} {ad : String} {a : Addr} {cl : Cell} {ty : FieldType} (hd : decode bytes pc = .ok (.invokevirtual index, 3)) (w1 : (Jvm.Cond.methodLink own index ⟨ad, "clone", "()Ljava/lang/Object;"⟩).before a0 Z = true) (w2 : (Jvm.Cond.sameMethod ad "java/lang/Object" "clone" "()Ljava/lang/Object;").before a0 Z = true) (w3 : (Jvm.Cond.native ⟨"java/lang/Object", "clone", "()Ljava/lang/Object;"⟩).before a0 Z = true)
    (w4 : (Jvm.Cond.instanceMethod ⟨"java/lang/Object", "clone", "()Ljava/lang/Object;"⟩).before a0 Z = true) (w5 : (Jvm.Cond.selects ad ⟨ad, "clone", "()Ljava/lang/Object;"⟩ ⟨"java/lang/Object", "clone", "()Ljava/lang/Object;"⟩).before a0 Z = true) (w6 : (Jvm.Cond.castable ad "java/lang/Cloneable").before a0 Z = true)
    (A : Arr Z h a cl ty) (E : Exa Z h a ad) (F : FitC Z cl) (hsz : Ls.size = mx) (hf : 1 ≤ R.frames) (hW : (rest.map fun v => v.category).sum ≤ Wt) (hl : Wt + 14 ≤ R.locals) (hcap : cl.slots.size ≤ cap) (hc : k + 1 ≤ R.cells) (hsl : n + cap ≤ R.slots) (hp : pc + 3 = pc')
    (K : ∀ T' h' a', h.size = a' → W Z own nm bytes mx rt n0 p l e R s m args below meth c (k + 1) (n + cap) T' h' → Ext h h' → Arr Z h' a' (cloneOf cl) ty → Exa Z h' a' ad → Go n0 p e below s Q CC NN T' (mkF m pc' Ls (.ref a' :: rest))) : Go n0 p e below s Q CC NN T (mkF m pc Ls (.ref a :: rest)) := by
  obtain ⟨hx, hb, hown, hZ, r1, r2, r3, r4, ⟨L, X, N⟩, eT⟩ := w
  obtain ⟨T', h', X', e', Ex, A', E', st⟩ := cloneA X hx hZ hown w1 w2 w3 w4 w5 w6 eT A E F (g := mkF m pc Ls (.ref a :: rest)) rfl (hsz.trans r1.symm) rfl (by rw [hb]; exact hd) hf (W := Wt) (by show 2 * 0 + _ ≤ _; omega) hl hcap hc hsl
  obtain ⟨s₂, q, st', r⟩ := K T' h' _ rfl ⟨hx, hb, hown, hZ, r1, r2, r3, r4, ⟨_, X', N⟩, e'⟩ Ex A' E'
  subst hp
  exact ⟨s₂, q, st _ st', r⟩
theorem metGoH {y : MethodName} {rm : Room} {as : Array Value} {ws : List Jvm.Cond} (hpn : plainFor y = true) (hef : ∀ m, entryFrame m as mx = mkF m 0 Ls [])
    (H : ∀ (p : Program) (e : Env) (s : State) (m : MethodId) (below : List Frame) (meth : Method) (c : Code) (T : State), W Z y.cls y.name bytes mx rt n0 p l e rm s m as below meth c 0 0 T h → s.heap = h → Go n0 p e below s Q rm.cells rm.slots T (mkF m 0 Ls [])) : Ctr l y bytes mx rt rm Z as h n0 Q ws := by
  refine MetFree.of_bodySF hpn hisR ?_
  intro p e s m args below meth c s₁ Bd hml0 hP hK
  obtain ⟨rfl, hZ, hh⟩ := hP
  have e0 : s₁.heap = h := by rw [← hh, Bd.state]; rfl
  obtain ⟨s₂, o, st, r⟩ := H p e s m below meth c s₁ ⟨Bd.exec, Bd.bytes, findClass_of_methodNamed Bd.named, hZ, hml0, (name_of_methodNamed Bd.named Bd.method).1, Bd.returns, Bd.notSynchronized, ⟨[], Stand.of_body Bd, Fr.nil n0⟩, e0⟩ hh
  exact ⟨s₂, o, castTop (hef m) st, r⟩
theorem ginst0 (w : W Z own nm bytes mx rt n0 p l e R s m args below meth c k n T h) {index : Nat} (hd : decode bytes pc = .ok (.instanceof index, 3)) (hp : pc + 3 = pc') (K : Go n0 p e below s Q CC NN T (mkF m pc' Ls (.int 0 :: rest))) : Go n0 p e below s Q CC NN T (mkF m pc Ls (.null :: rest)) := by
  obtain ⟨hx, hb, -, -, -, -, -, -, ⟨L, X, -⟩, -⟩ := w
  obtain ⟨s₂, q, st, r⟩ := K
  subst hb hp
  exact ⟨s₂, q, X.instanceofNull hx (g := mkF m pc Ls (.null :: rest)) rfl rfl hd _ st, r⟩
theorem ginstN (w : W Z own nm bytes mx rt n0 p l e R s m args below meth c k n T h) (hs : s.heap = h) {index : Nat} {Kc C : String} {a : Addr} (hd : decode bytes pc = .ok (.instanceof index, 3)) (w1 : (Jvm.Cond.classLink own index Kc).before a0 Z = true) (F : Ins Z h a Kc false) (E : Exa Z h a C) (hp : pc + 3 = pc')
    (K : ∀ T', W Z own nm bytes mx rt n0 p l e R s m args below meth c k n T' h → Go n0 p e below s Q CC NN T' (mkF m pc' Ls (.int 0 :: rest))) : Go n0 p e below s Q CC NN T (mkF m pc Ls (.ref a :: rest)) := by
  obtain ⟨hx, hb, hown, hZ, r1, r2, r3, r4, ⟨L, X, N⟩, eT⟩ := w
  obtain ⟨T', X', e', st⟩ := instN X hx hZ hown w1 eT (hs ▸ F) (hs ▸ E) (g := mkF m pc Ls (.ref a :: rest)) rfl rfl (by rw [hb]; exact hd)
  obtain ⟨s₂, q, st', r⟩ := K T' ⟨hx, hb, hown, hZ, r1, r2, r3, r4, ⟨L, X', N⟩, e'⟩
  subst hp
  exact ⟨s₂, q, st _ st', r⟩
theorem gcopy (w : W Z own nm bytes mx rt n0 p l e R s m args below meth c k n T h) {index Wt : Nat} {a b : Addr} {ka kb : ClassId} {z z' sp dp nn : Int32} {vs vd : List Value} {dv dd : Value} (hd : decode bytes pc = .ok (.invokestatic index, 3)) (w1 : (Jvm.Cond.methodLink own index Jvm.Stand.acN).before a0 Z = true) (w2 : (Jvm.Cond.native Jvm.Stand.acN).before a0 Z = true) (w3 : (Jvm.Cond.static Jvm.Stand.acN).before a0 Z = true) (w4 : (Jvm.Cond.initialized "java/lang/System").before a0 Z = true)
    (A : Arv Z h a ka .byte z vs dv) (B : Arv Z h b kb .byte z' vd dd) (h1 : ¬ sp < 0) (h2 : ¬ dp < 0) (h3 : ¬ nn < 0) (h4 : sp.toNatClampNeg + nn.toNatClampNeg ≤ z.toNatClampNeg) (h5 : dp.toNatClampNeg + nn.toNatClampNeg ≤ z'.toNatClampNeg) (hlv : dp.toNatClampNeg + nn.toNatClampNeg ≤ vd.length) (ge : n0 ≤ b)
    (hsz : Ls.size = mx) (hf : 1 ≤ R.frames) (hW : (rest.map fun v => v.category).sum ≤ Wt) (hlo : Wt + (nativeFrameWords "java/lang/System" "arraycopy" 5 + 11) ≤ R.locals) (hp : pc + 3 = pc')
    (K : ∀ T' h' us, W Z own nm bytes mx rt n0 p l e R s m args below meth c k n T' h' → Keep h h' [b] → us.length = nn.toNatClampNeg → Arv Z h' b kb .byte z' (vd.take dp.toNatClampNeg ++ us ++ vd.drop (dp.toNatClampNeg + nn.toNatClampNeg)) dd → Go n0 p e below s Q CC NN T' (mkF m pc' Ls rest)) : Go n0 p e below s Q CC NN T (mkF m pc Ls (.int nn :: .int dp :: .ref b :: .int sp :: .ref a :: rest)) := by
  obtain ⟨hx, hb, hown, hZ, r1, r2, r3, r4, ⟨L, X, N⟩, eT⟩ := w
  obtain ⟨T', h', L', X', e', N', Kp, V', st⟩ := cpA X hx hZ hown w1 w2 w3 w4 eT A B (Or.inl ⟨rfl, rfl⟩) h1 h2 h3 h4 h5 rfl hlv N ge (g := mkF m pc Ls (.int nn :: .int dp :: .ref b :: .int sp :: .ref a :: rest)) rfl (hsz.trans r1.symm) rfl (by rw [hb]; exact hd) hf (W := Wt) (by show 2 * 0 + _ ≤ _; omega) hlo
  obtain ⟨s₂, q, st', r⟩ := K T' h' _ ⟨hx, hb, hown, hZ, r1, r2, r3, r4, ⟨_, X', N'⟩, e'⟩ Kp (by rw [List.length_map, List.length_range]) V'
  subst hp
  exact ⟨s₂, q, st _ st', r⟩
theorem gifnullV (w : W Z own nm bytes mx rt n0 p l e R s m args below meth c k n T h) {v : Value} {o : Int} {pt pf : Nat} (hd : decode bytes pc = .ok (.ifnull o, 3)) (ho : 0 ≤ (pc : Int) + o) (ht : ((pc : Int) + o).toNat = pt) (hf : pc + 3 = pf) (hv : v.isRef = true) (Kt : v = .null → Go n0 p e below s Q CC NN T (mkF m pt Ls rest)) (Kf : ¬ v = .null → Go n0 p e below s Q CC NN T (mkF m pf Ls rest)) : Go n0 p e below s Q CC NN T (mkF m pc Ls (v :: rest)) := by
  rcases ref_cases hv with rfl | ⟨a, rfl⟩
  · exact gifnullY w hd ho ht (Kt rfl)
  · exact gifnullN w hd hf (Kf nofun)
theorem wmono (w : W Z own nm bytes mx rt n0 p l e R s m args below meth c k n T h) {k' n' : Nat} (hk : k ≤ k') (hn : n ≤ n') : W Z own nm bytes mx rt n0 p l e R s m args below meth c k' n' T h := by
  obtain ⟨hx, hb, hown, hZ, r1, r2, r3, r4, ⟨L, X, N⟩, eT⟩ := w
  exact ⟨hx, hb, hown, hZ, r1, r2, r3, r4, ⟨L, ⟨X.admits, X.cas, X.clock, X.frames, X.room, X.hears, X.method, X.code, X.here, X.tail, X.warmed, X.limits, X.bytes, X.same.mono hk hn⟩, N⟩, eT⟩
theorem gcallP (w : W Z own nm bytes mx rt n0 p l e R s m args below meth c k n T h) {index : Nat} {y : MethodName} {yb : ByteArray} {ymx : Nat} {yr : Option FieldType} {rm : Room} {as : Array Value} {Q' : Option Value → Heap → Prop} {argsL : List Value} {stk : List Value} {ps : List FieldType} {ro : Option FieldType} {Wt : Nat} {a : Addr} {C : String} {ji : Nat} (hd : decode bytes pc = .ok (.invokevirtual index, 3)) (w1 : (Jvm.Cond.methodLink own index y).before a0 Z = true) (w2 : (Jvm.Cond.instanceMethod y).before a0 Z = true) (w5 : (Jvm.Cond.instantiable y.cls ji).before a0 Z = true) (w6 : (Jvm.Cond.privateMethod y).before a0 Z = true) (w3 : (Jvm.Cond.initialized y.cls).before a0 Z = true) (w4 : (Jvm.Cond.code y yb ymx yr).before a0 Z = true)
    (E : Exa Z h a C) (hy : y.cls ≠ "java/lang/invoke/MethodHandle" ∧ y.cls ≠ "java/lang/invoke/VarHandle") (hpd : parseMethodDescriptor y.desc = some ⟨ps, ro⟩) (ctr : Ctr l y yb ymx yr rm Z as h n0 Q' []) (has : (.ref a :: argsL).toArray = as) (hlen : argsL.length = ps.length) (hst : stk = argsL.reverse ++ .ref a :: rest) (hsz : Ls.size = mx) (hW : (rest.map fun v => v.category).sum ≤ Wt) (hf : rm.frames + 1 ≤ R.frames) (hl : Wt + (ymx + 11) + rm.locals ≤ R.locals) (hc : k + rm.cells ≤ R.cells) (hs : n + rm.slots ≤ R.slots) (hp : pc + 3 = pc')
    (K : ∀ v T' h', W Z own nm bytes mx rt n0 p l e R s m args below meth c (k + rm.cells) (n + rm.slots) T' h' → Q' v h' → Go n0 p e below s Q CC NN T' (mkF m pc' Ls (v.toList ++ rest))) : Go n0 p e below s Q CC NN T (mkF m pc Ls stk) := by
  obtain ⟨hx, hb, hown, hZ, r1, r2, r3, r4, ⟨L, X, N⟩, eT⟩ := w
  obtain ⟨cq, qa, qb⟩ := E.cell
  obtain ⟨ci, ki, i1, i2, -, i4, -, -⟩ := Cond.instantiable_spec (mvT hZ w5 (args := #[]))
  have hni : ki.isInterface = false := (Bool.or_eq_false_iff.mp i4).1
  have hpr := Cond.privateMethod_at (mvP hZ w6 (args := #[]))
  have hsel := selects_self_of_private (args := args) i1 i2 hni hpr (mvT hZ w2) hy
  obtain ⟨v, _, ⟨T', L', k', n'⟩, -, X', ⟨Lc, hQ, hl1, hc1, hs1⟩, st⟩ := X.privateBack hx (y := y) hown (mvT hZ w1) (mvT hZ w2) hsel hpr (mvT hZ w4) hy (backOf (W := Wt) (Q := fun v h L => Fr n0 L ∧ Q' v h) ctr hZ w4 w3 hf hl) (g := mkF m pc Ls stk) rfl (hsz.trans r1.symm) (Steps.refl _) (a := a) (by rw [eT]; exact qa) qb (argsL := argsL) (rest := rest) (lenOf hpd hlen) hst (by show 2 * 0 + _ ≤ _; omega) (by rw [hb]; exact hd) (fun _ _ => ⟨has, eT, hc, hs⟩)
  dsimp only [Pt.U, Pt.locs, Pt.cells, Pt.slots] at X' st hQ hl1 hc1 hs1
  subst hl1 hc1 hs1
  obtain ⟨s₂, q, st', r⟩ := K v T' T'.heap ⟨hx, hb, hown, hZ, r1, r2, r3, r4, ⟨_, X', Fr.app N hQ.1⟩, rfl⟩ hQ.2
  subst hp
  exact ⟨s₂, q, st.trans st', r⟩
theorem ref_cat {v : Value} (h : v.isRef = true) : v.category = 1 := by
  rcases ref_cases h with rfl | ⟨a, rfl⟩ <;> rfl
theorem own_bb (y : Int32) : y.toInt8.toInt32.toInt8.toInt32 = y.toInt8.toInt32 := by rw [Int8.toInt8_toInt32]
end GoKit

theorem d1_0 : decode prog_8_method_1_code 0 = .ok (.aload_n 0, 1) := by decide +kernel
theorem d1_1 : decode prog_8_method_1_code 1 = .ok (.invokespecial 1, 3) := by decide +kernel
theorem d1_4 : decode prog_8_method_1_code 4 = .ok (.aload_n 0, 1) := by decide +kernel
theorem d1_5 : decode prog_8_method_1_code 5 = .ok (.getstatic 7, 3) := by decide +kernel
theorem d1_8 : decode prog_8_method_1_code 8 = .ok (.putfield 13, 3) := by decide +kernel
theorem d1_11 : decode prog_8_method_1_code 11 = .ok (.aload_n 0, 1) := by decide +kernel
theorem d1_12 : decode prog_8_method_1_code 12 = .ok (.getstatic 7, 3) := by decide +kernel
theorem d1_15 : decode prog_8_method_1_code 15 = .ok (.putfield 16, 3) := by decide +kernel
theorem d1_18 : decode prog_8_method_1_code 18 = .ok (.aload_n 0, 1) := by decide +kernel
theorem d1_19 : decode prog_8_method_1_code 19 = .ok (.getstatic 7, 3) := by decide +kernel
theorem d1_22 : decode prog_8_method_1_code 22 = .ok (.putfield 19, 3) := by decide +kernel
theorem d1_25 : decode prog_8_method_1_code 25 = .ok (.aload_n 0, 1) := by decide +kernel
theorem d1_26 : decode prog_8_method_1_code 26 = .ok (.getstatic 7, 3) := by decide +kernel
theorem d1_29 : decode prog_8_method_1_code 29 = .ok (.putfield 22, 3) := by decide +kernel
theorem d1_32 : decode prog_8_method_1_code 32 = .ok (.aload_n 0, 1) := by decide +kernel
theorem d1_33 : decode prog_8_method_1_code 33 = .ok (.getstatic 7, 3) := by decide +kernel
theorem d1_36 : decode prog_8_method_1_code 36 = .ok (.putfield 25, 3) := by decide +kernel
theorem d1_39 : decode prog_8_method_1_code 39 = .ok (.aload_n 0, 1) := by decide +kernel
theorem d1_40 : decode prog_8_method_1_code 40 = .ok (.getstatic 7, 3) := by decide +kernel
theorem d1_43 : decode prog_8_method_1_code 43 = .ok (.putfield 28, 3) := by decide +kernel
theorem d1_46 : decode prog_8_method_1_code 46 = .ok (.aload_n 0, 1) := by decide +kernel
theorem d1_47 : decode prog_8_method_1_code 47 = .ok (.iload_n 1, 1) := by decide +kernel
theorem d1_48 : decode prog_8_method_1_code 48 = .ok (.newarray .int, 2) := by decide +kernel
theorem d1_50 : decode prog_8_method_1_code 50 = .ok (.putfield 31, 3) := by decide +kernel
theorem d1_53 : decode prog_8_method_1_code 53 = .ok (.aload_n 0, 1) := by decide +kernel
theorem d1_54 : decode prog_8_method_1_code 54 = .ok (.iload_n 1, 1) := by decide +kernel
theorem d1_55 : decode prog_8_method_1_code 55 = .ok (.newarray .int, 2) := by decide +kernel
theorem d1_57 : decode prog_8_method_1_code 57 = .ok (.putfield 34, 3) := by decide +kernel
theorem d1_60 : decode prog_8_method_1_code 60 = .ok (.aload_n 0, 1) := by decide +kernel
theorem d1_61 : decode prog_8_method_1_code 61 = .ok (.iload_n 1, 1) := by decide +kernel
theorem d1_62 : decode prog_8_method_1_code 62 = .ok (.newarray .int, 2) := by decide +kernel
theorem d1_64 : decode prog_8_method_1_code 64 = .ok (.putfield 37, 3) := by decide +kernel
theorem d1_67 : decode prog_8_method_1_code 67 = .ok (.aload_n 0, 1) := by decide +kernel
theorem d1_68 : decode prog_8_method_1_code 68 = .ok (.iload_n 1, 1) := by decide +kernel
theorem d1_69 : decode prog_8_method_1_code 69 = .ok (.iconst 1, 1) := by decide +kernel
theorem d1_70 : decode prog_8_method_1_code 70 = .ok (.iadd, 1) := by decide +kernel
theorem d1_71 : decode prog_8_method_1_code 71 = .ok (.iconst 3, 1) := by decide +kernel
theorem d1_72 : decode prog_8_method_1_code 72 = .ok (.imul, 1) := by decide +kernel
theorem d1_73 : decode prog_8_method_1_code 73 = .ok (.newarray .int, 2) := by decide +kernel
theorem d1_75 : decode prog_8_method_1_code 75 = .ok (.putfield 40, 3) := by decide +kernel
theorem d1_78 : decode prog_8_method_1_code 78 = .ok (.aload_n 0, 1) := by decide +kernel
theorem d1_79 : decode prog_8_method_1_code 79 = .ok (.iload_n 1, 1) := by decide +kernel
theorem d1_80 : decode prog_8_method_1_code 80 = .ok (.invokevirtual 43, 3) := by decide +kernel
theorem d1_83 : decode prog_8_method_1_code 83 = .ok (.return_, 1) := by decide +kernel
theorem pn_d1 : plainFor (⟨"com/example/antecedent/antecedent/clock/Tree", "<init>", "(I)V"⟩ : MethodName) = true := by first | (refine plainFor_of_name ?_; simp [plainName, overriddenIn]; done) | decide +kernel
theorem pd_d1 : parseMethodDescriptor "(I)V" = some ⟨[.int], none⟩ := by decide +kernel
theorem d3_0 : decode prog_8_method_5_code 0 = .ok (.aload_n 0, 1) := by decide +kernel
theorem d3_1 : decode prog_8_method_5_code 1 = .ok (.invokevirtual 88, 3) := by decide +kernel
theorem d3_4 : decode prog_8_method_5_code 4 = .ok (.aload_n 0, 1) := by decide +kernel
theorem d3_5 : decode prog_8_method_5_code 5 = .ok (.iload_n 1, 1) := by decide +kernel
theorem d3_6 : decode prog_8_method_5_code 6 = .ok (.invokevirtual 91, 3) := by decide +kernel
theorem d3_9 : decode prog_8_method_5_code 9 = .ok (.aload_n 0, 1) := by decide +kernel
theorem d3_10 : decode prog_8_method_5_code 10 = .ok (.iconst 0, 1) := by decide +kernel
theorem d3_11 : decode prog_8_method_5_code 11 = .ok (.putfield 62, 3) := by decide +kernel
theorem d3_14 : decode prog_8_method_5_code 14 = .ok (.aload_n 0, 1) := by decide +kernel
theorem d3_15 : decode prog_8_method_5_code 15 = .ok (.iload_n 1, 1) := by decide +kernel
theorem d3_16 : decode prog_8_method_5_code 16 = .ok (.invokevirtual 94, 3) := by decide +kernel
theorem d3_19 : decode prog_8_method_5_code 19 = .ok (.aload_n 0, 1) := by decide +kernel
theorem d3_20 : decode prog_8_method_5_code 20 = .ok (.getfield 40, 3) := by decide +kernel
theorem d3_23 : decode prog_8_method_5_code 23 = .ok (.iconst 0, 1) := by decide +kernel
theorem d3_24 : decode prog_8_method_5_code 24 = .ok (.iconst 3, 1) := by decide +kernel
theorem d3_25 : decode prog_8_method_5_code 25 = .ok (.iconst 0, 1) := by decide +kernel
theorem d3_26 : decode prog_8_method_5_code 26 = .ok (.invokestatic 97, 3) := by decide +kernel
theorem d3_29 : decode prog_8_method_5_code 29 = .ok (.aload_n 0, 1) := by decide +kernel
theorem d3_30 : decode prog_8_method_5_code 30 = .ok (.iconst 1, 1) := by decide +kernel
theorem d3_31 : decode prog_8_method_5_code 31 = .ok (.putfield 101, 3) := by decide +kernel
theorem d3_34 : decode prog_8_method_5_code 34 = .ok (.return_, 1) := by decide +kernel
theorem pn_d3 : plainFor (⟨"com/example/antecedent/antecedent/clock/Tree", "clear", "(I)V"⟩ : MethodName) = true := by first | (refine plainFor_of_name ?_; simp [plainName, overriddenIn]; done) | decide +kernel
theorem pd_d3 : parseMethodDescriptor "(I)V" = some ⟨[.int], none⟩ := by decide +kernel
theorem d4_0 : decode prog_8_method_3_code 0 = .ok (.aload_n 0, 1) := by decide +kernel
theorem d4_1 : decode prog_8_method_3_code 1 = .ok (.dup, 1) := by decide +kernel
theorem d4_2 : decode prog_8_method_3_code 2 = .ok (.getfield 51, 3) := by decide +kernel
theorem d4_5 : decode prog_8_method_3_code 5 = .ok (.iconst 1, 1) := by decide +kernel
theorem d4_6 : decode prog_8_method_3_code 6 = .ok (.iadd, 1) := by decide +kernel
theorem d4_7 : decode prog_8_method_3_code 7 = .ok (.putfield 51, 3) := by decide +kernel
theorem d4_10 : decode prog_8_method_3_code 10 = .ok (.aload_n 0, 1) := by decide +kernel
theorem d4_11 : decode prog_8_method_3_code 11 = .ok (.aconst_null, 1) := by decide +kernel
theorem d4_12 : decode prog_8_method_3_code 12 = .ok (.putfield 54, 3) := by decide +kernel
theorem d4_15 : decode prog_8_method_3_code 15 = .ok (.return_, 1) := by decide +kernel
theorem pn_d4 : plainFor (⟨"com/example/antecedent/antecedent/clock/Tree", "change", "()V"⟩ : MethodName) = true := by first | (refine plainFor_of_name ?_; simp [plainName, overriddenIn]; done) | decide +kernel
theorem pd_d4 : parseMethodDescriptor "()V" = some ⟨[], none⟩ := by decide +kernel
theorem d5_0 : decode prog_8_method_4_code 0 = .ok (.iload_n 1, 1) := by decide +kernel
theorem d5_1 : decode prog_8_method_4_code 1 = .ok (.aload_n 0, 1) := by decide +kernel
theorem d5_2 : decode prog_8_method_4_code 2 = .ok (.getfield 31, 3) := by decide +kernel
theorem d5_5 : decode prog_8_method_4_code 5 = .ok (.arraylength, 1) := by decide +kernel
theorem d5_6 : decode prog_8_method_4_code 6 = .ok (.if_icmp .le 87, 3) := by decide +kernel
theorem d5_9 : decode prog_8_method_4_code 9 = .ok (.ldc2_w 60, 3) := by decide +kernel
theorem d5_12 : decode prog_8_method_4_code 12 = .ok (.iload_n 1, 1) := by decide +kernel
theorem d5_13 : decode prog_8_method_4_code 13 = .ok (.i2l, 1) := by decide +kernel
theorem d5_14 : decode prog_8_method_4_code 14 = .ok (.aload_n 0, 1) := by decide +kernel
theorem d5_15 : decode prog_8_method_4_code 15 = .ok (.getfield 62, 3) := by decide +kernel
theorem d5_18 : decode prog_8_method_4_code 18 = .ok (.i2l, 1) := by decide +kernel
theorem d5_19 : decode prog_8_method_4_code 19 = .ok (.ldc2_w 65, 3) := by decide +kernel
theorem d5_22 : decode prog_8_method_4_code 22 = .ok (.lmul, 1) := by decide +kernel
theorem d5_23 : decode prog_8_method_4_code 23 = .ok (.ldc2_w 67, 3) := by decide +kernel
theorem d5_26 : decode prog_8_method_4_code 26 = .ok (.ldiv, 1) := by decide +kernel
theorem d5_27 : decode prog_8_method_4_code 27 = .ok (.invokestatic 69, 3) := by decide +kernel
theorem d5_30 : decode prog_8_method_4_code 30 = .ok (.invokestatic 75, 3) := by decide +kernel
theorem d5_33 : decode prog_8_method_4_code 33 = .ok (.l2i, 1) := by decide +kernel
theorem d5_34 : decode prog_8_method_4_code 34 = .ok (.istore_n 2, 1) := by decide +kernel
theorem d5_35 : decode prog_8_method_4_code 35 = .ok (.aload_n 0, 1) := by decide +kernel
theorem d5_36 : decode prog_8_method_4_code 36 = .ok (.aload_n 0, 1) := by decide +kernel
theorem d5_37 : decode prog_8_method_4_code 37 = .ok (.getfield 31, 3) := by decide +kernel
theorem d5_40 : decode prog_8_method_4_code 40 = .ok (.iload_n 2, 1) := by decide +kernel
theorem d5_41 : decode prog_8_method_4_code 41 = .ok (.invokestatic 78, 3) := by decide +kernel
theorem d5_44 : decode prog_8_method_4_code 44 = .ok (.putfield 31, 3) := by decide +kernel
theorem d5_47 : decode prog_8_method_4_code 47 = .ok (.aload_n 0, 1) := by decide +kernel
theorem d5_48 : decode prog_8_method_4_code 48 = .ok (.aload_n 0, 1) := by decide +kernel
theorem d5_49 : decode prog_8_method_4_code 49 = .ok (.getfield 34, 3) := by decide +kernel
theorem d5_52 : decode prog_8_method_4_code 52 = .ok (.iload_n 2, 1) := by decide +kernel
theorem d5_53 : decode prog_8_method_4_code 53 = .ok (.invokestatic 78, 3) := by decide +kernel
theorem d5_56 : decode prog_8_method_4_code 56 = .ok (.putfield 34, 3) := by decide +kernel
theorem d5_59 : decode prog_8_method_4_code 59 = .ok (.aload_n 0, 1) := by decide +kernel
theorem d5_60 : decode prog_8_method_4_code 60 = .ok (.aload_n 0, 1) := by decide +kernel
theorem d5_61 : decode prog_8_method_4_code 61 = .ok (.getfield 37, 3) := by decide +kernel
theorem d5_64 : decode prog_8_method_4_code 64 = .ok (.iload_n 2, 1) := by decide +kernel
theorem d5_65 : decode prog_8_method_4_code 65 = .ok (.invokestatic 78, 3) := by decide +kernel
theorem d5_68 : decode prog_8_method_4_code 68 = .ok (.putfield 37, 3) := by decide +kernel
theorem d5_71 : decode prog_8_method_4_code 71 = .ok (.aload_n 0, 1) := by decide +kernel
theorem d5_72 : decode prog_8_method_4_code 72 = .ok (.aload_n 0, 1) := by decide +kernel
theorem d5_73 : decode prog_8_method_4_code 73 = .ok (.getfield 40, 3) := by decide +kernel
theorem d5_76 : decode prog_8_method_4_code 76 = .ok (.iload_n 2, 1) := by decide +kernel
theorem d5_77 : decode prog_8_method_4_code 77 = .ok (.i2l, 1) := by decide +kernel
theorem d5_78 : decode prog_8_method_4_code 78 = .ok (.lconst 1, 1) := by decide +kernel
theorem d5_79 : decode prog_8_method_4_code 79 = .ok (.ladd, 1) := by decide +kernel
theorem d5_80 : decode prog_8_method_4_code 80 = .ok (.ldc2_w 65, 3) := by decide +kernel
theorem d5_83 : decode prog_8_method_4_code 83 = .ok (.lmul, 1) := by decide +kernel
theorem d5_84 : decode prog_8_method_4_code 84 = .ok (.invokestatic 84, 3) := by decide +kernel
theorem d5_87 : decode prog_8_method_4_code 87 = .ok (.invokestatic 78, 3) := by decide +kernel
theorem d5_90 : decode prog_8_method_4_code 90 = .ok (.putfield 40, 3) := by decide +kernel
theorem d5_93 : decode prog_8_method_4_code 93 = .ok (.return_, 1) := by decide +kernel
theorem pn_d5 : plainFor (⟨"com/example/antecedent/antecedent/clock/Tree", "ensure", "(I)V"⟩ : MethodName) = true := by first | (refine plainFor_of_name ?_; simp [plainName, overriddenIn]; done) | decide +kernel
theorem pd_d5 : parseMethodDescriptor "(I)V" = some ⟨[.int], none⟩ := by decide +kernel
theorem d6_0 : decode prog_8_method_6_code 0 = .ok (.iload_n 1, 1) := by decide +kernel
theorem d6_1 : decode prog_8_method_6_code 1 = .ok (.aload_n 0, 1) := by decide +kernel
theorem d6_2 : decode prog_8_method_6_code 2 = .ok (.getfield 62, 3) := by decide +kernel
theorem d6_5 : decode prog_8_method_6_code 5 = .ok (.if_icmp .gt 4, 3) := by decide +kernel
theorem d6_8 : decode prog_8_method_6_code 8 = .ok (.return_, 1) := by decide +kernel
theorem d6_9 : decode prog_8_method_6_code 9 = .ok (.aload_n 0, 1) := by decide +kernel
theorem d6_10 : decode prog_8_method_6_code 10 = .ok (.iload_n 1, 1) := by decide +kernel
theorem d6_11 : decode prog_8_method_6_code 11 = .ok (.invokevirtual 91, 3) := by decide +kernel
theorem d6_14 : decode prog_8_method_6_code 14 = .ok (.aload_n 0, 1) := by decide +kernel
theorem d6_15 : decode prog_8_method_6_code 15 = .ok (.getfield 31, 3) := by decide +kernel
theorem d6_18 : decode prog_8_method_6_code 18 = .ok (.aload_n 0, 1) := by decide +kernel
theorem d6_19 : decode prog_8_method_6_code 19 = .ok (.getfield 62, 3) := by decide +kernel
theorem d6_22 : decode prog_8_method_6_code 22 = .ok (.iload_n 1, 1) := by decide +kernel
theorem d6_23 : decode prog_8_method_6_code 23 = .ok (.iconst 0, 1) := by decide +kernel
theorem d6_24 : decode prog_8_method_6_code 24 = .ok (.invokestatic 97, 3) := by decide +kernel
theorem d6_27 : decode prog_8_method_6_code 27 = .ok (.aload_n 0, 1) := by decide +kernel
theorem d6_28 : decode prog_8_method_6_code 28 = .ok (.getfield 34, 3) := by decide +kernel
theorem d6_31 : decode prog_8_method_6_code 31 = .ok (.aload_n 0, 1) := by decide +kernel
theorem d6_32 : decode prog_8_method_6_code 32 = .ok (.getfield 62, 3) := by decide +kernel
theorem d6_35 : decode prog_8_method_6_code 35 = .ok (.iload_n 1, 1) := by decide +kernel
theorem d6_36 : decode prog_8_method_6_code 36 = .ok (.iconst (-1), 1) := by decide +kernel
theorem d6_37 : decode prog_8_method_6_code 37 = .ok (.invokestatic 97, 3) := by decide +kernel
theorem d6_40 : decode prog_8_method_6_code 40 = .ok (.aload_n 0, 1) := by decide +kernel
theorem d6_41 : decode prog_8_method_6_code 41 = .ok (.getfield 37, 3) := by decide +kernel
theorem d6_44 : decode prog_8_method_6_code 44 = .ok (.aload_n 0, 1) := by decide +kernel
theorem d6_45 : decode prog_8_method_6_code 45 = .ok (.getfield 62, 3) := by decide +kernel
theorem d6_48 : decode prog_8_method_6_code 48 = .ok (.iload_n 1, 1) := by decide +kernel
theorem d6_49 : decode prog_8_method_6_code 49 = .ok (.iconst 0, 1) := by decide +kernel
theorem d6_50 : decode prog_8_method_6_code 50 = .ok (.invokestatic 97, 3) := by decide +kernel
theorem d6_53 : decode prog_8_method_6_code 53 = .ok (.aload_n 0, 1) := by decide +kernel
theorem d6_54 : decode prog_8_method_6_code 54 = .ok (.getfield 40, 3) := by decide +kernel
theorem d6_57 : decode prog_8_method_6_code 57 = .ok (.aload_n 0, 1) := by decide +kernel
theorem d6_58 : decode prog_8_method_6_code 58 = .ok (.getfield 62, 3) := by decide +kernel
theorem d6_61 : decode prog_8_method_6_code 61 = .ok (.invokestatic 105, 3) := by decide +kernel
theorem d6_64 : decode prog_8_method_6_code 64 = .ok (.iload_n 1, 1) := by decide +kernel
theorem d6_65 : decode prog_8_method_6_code 65 = .ok (.invokestatic 105, 3) := by decide +kernel
theorem d6_68 : decode prog_8_method_6_code 68 = .ok (.iconst 0, 1) := by decide +kernel
theorem d6_69 : decode prog_8_method_6_code 69 = .ok (.invokestatic 97, 3) := by decide +kernel
theorem d6_72 : decode prog_8_method_6_code 72 = .ok (.aload_n 0, 1) := by decide +kernel
theorem d6_73 : decode prog_8_method_6_code 73 = .ok (.iload_n 1, 1) := by decide +kernel
theorem d6_74 : decode prog_8_method_6_code 74 = .ok (.putfield 62, 3) := by decide +kernel
theorem d6_77 : decode prog_8_method_6_code 77 = .ok (.return_, 1) := by decide +kernel
theorem pn_d6 : plainFor (⟨"com/example/antecedent/antecedent/clock/Tree", "widen", "(I)V"⟩ : MethodName) = true := by first | (refine plainFor_of_name ?_; simp [plainName, overriddenIn]; done) | decide +kernel
theorem pd_d6 : parseMethodDescriptor "(I)V" = some ⟨[.int], none⟩ := by decide +kernel
theorem d7_0 : decode jdk_65_method_104_code 0 = .ok (.aload_n 0, 1) := by decide +kernel
theorem d7_1 : decode jdk_65_method_104_code 1 = .ok (.arraylength, 1) := by decide +kernel
theorem d7_2 : decode jdk_65_method_104_code 2 = .ok (.iload_n 1, 1) := by decide +kernel
theorem d7_3 : decode jdk_65_method_104_code 3 = .ok (.iload_n 2, 1) := by decide +kernel
theorem d7_4 : decode jdk_65_method_104_code 4 = .ok (.invokestatic 13, 3) := by decide +kernel
theorem d7_7 : decode jdk_65_method_104_code 7 = .ok (.iload_n 1, 1) := by decide +kernel
theorem d7_8 : decode jdk_65_method_104_code 8 = .ok (.istore 4, 2) := by decide +kernel
theorem d7_10 : decode jdk_65_method_104_code 10 = .ok (.iload 4, 2) := by decide +kernel
theorem d7_12 : decode jdk_65_method_104_code 12 = .ok (.iload_n 2, 1) := by decide +kernel
theorem d7_13 : decode jdk_65_method_104_code 13 = .ok (.if_icmp .ge 14, 3) := by decide +kernel
theorem d7_16 : decode jdk_65_method_104_code 16 = .ok (.aload_n 0, 1) := by decide +kernel
theorem d7_17 : decode jdk_65_method_104_code 17 = .ok (.iload 4, 2) := by decide +kernel
theorem d7_19 : decode jdk_65_method_104_code 19 = .ok (.iload_n 3, 1) := by decide +kernel
theorem d7_20 : decode jdk_65_method_104_code 20 = .ok (.iastore, 1) := by decide +kernel
theorem d7_21 : decode jdk_65_method_104_code 21 = .ok (.iinc 4 1, 3) := by decide +kernel
theorem d7_24 : decode jdk_65_method_104_code 24 = .ok (.goto (-14), 3) := by decide +kernel
theorem d7_27 : decode jdk_65_method_104_code 27 = .ok (.return_, 1) := by decide +kernel
theorem pn_d7 : plainFor (⟨"java/util/Arrays", "fill", "([IIII)V"⟩ : MethodName) = true := by first | (refine plainFor_of_name ?_; simp [plainName, overriddenIn]; done) | decide +kernel
theorem pd_d7 : parseMethodDescriptor "([IIII)V" = some ⟨[(.array .int), .int, .int, .int], none⟩ := by decide +kernel
theorem d8_0 : decode jdk_65_method_30_code 0 = .ok (.iload_n 1, 1) := by decide +kernel
theorem d8_1 : decode jdk_65_method_30_code 1 = .ok (.iload_n 2, 1) := by decide +kernel
theorem d8_2 : decode jdk_65_method_30_code 2 = .ok (.if_icmp .le 44, 3) := by decide +kernel
theorem d8_5 : decode jdk_65_method_30_code 5 = .ok (.new 43, 3) := by decide +kernel
theorem d8_8 : decode jdk_65_method_30_code 8 = .ok (.dup, 1) := by decide +kernel
theorem d8_9 : decode jdk_65_method_30_code 9 = .ok (.new 45, 3) := by decide +kernel
theorem d8_12 : decode jdk_65_method_30_code 12 = .ok (.dup, 1) := by decide +kernel
theorem d8_13 : decode jdk_65_method_30_code 13 = .ok (.invokespecial 47, 3) := by decide +kernel
theorem d8_16 : decode jdk_65_method_30_code 16 = .ok (.ldc 48, 2) := by decide +kernel
theorem d8_18 : decode jdk_65_method_30_code 18 = .ok (.invokevirtual 50, 3) := by decide +kernel
theorem d8_21 : decode jdk_65_method_30_code 21 = .ok (.iload_n 1, 1) := by decide +kernel
theorem d8_22 : decode jdk_65_method_30_code 22 = .ok (.invokevirtual 54, 3) := by decide +kernel
theorem d8_25 : decode jdk_65_method_30_code 25 = .ok (.ldc 57, 2) := by decide +kernel
theorem d8_27 : decode jdk_65_method_30_code 27 = .ok (.invokevirtual 50, 3) := by decide +kernel
theorem d8_30 : decode jdk_65_method_30_code 30 = .ok (.iload_n 2, 1) := by decide +kernel
theorem d8_31 : decode jdk_65_method_30_code 31 = .ok (.invokevirtual 54, 3) := by decide +kernel
theorem d8_34 : decode jdk_65_method_30_code 34 = .ok (.ldc 59, 2) := by decide +kernel
theorem d8_36 : decode jdk_65_method_30_code 36 = .ok (.invokevirtual 50, 3) := by decide +kernel
theorem d8_39 : decode jdk_65_method_30_code 39 = .ok (.invokevirtual 61, 3) := by decide +kernel
theorem d8_42 : decode jdk_65_method_30_code 42 = .ok (.invokespecial 65, 3) := by decide +kernel
theorem d8_45 : decode jdk_65_method_30_code 45 = .ok (.athrow, 1) := by decide +kernel
theorem d8_46 : decode jdk_65_method_30_code 46 = .ok (.iload_n 1, 1) := by decide +kernel
theorem d8_47 : decode jdk_65_method_30_code 47 = .ok (.ifCond .ge 12, 3) := by decide +kernel
theorem d8_50 : decode jdk_65_method_30_code 50 = .ok (.new 68, 3) := by decide +kernel
theorem d8_53 : decode jdk_65_method_30_code 53 = .ok (.dup, 1) := by decide +kernel
theorem d8_54 : decode jdk_65_method_30_code 54 = .ok (.iload_n 1, 1) := by decide +kernel
theorem d8_55 : decode jdk_65_method_30_code 55 = .ok (.invokespecial 70, 3) := by decide +kernel
theorem d8_58 : decode jdk_65_method_30_code 58 = .ok (.athrow, 1) := by decide +kernel
theorem d8_59 : decode jdk_65_method_30_code 59 = .ok (.iload_n 2, 1) := by decide +kernel
theorem d8_60 : decode jdk_65_method_30_code 60 = .ok (.iload_n 0, 1) := by decide +kernel
theorem d8_61 : decode jdk_65_method_30_code 61 = .ok (.if_icmp .le 12, 3) := by decide +kernel
theorem d8_64 : decode jdk_65_method_30_code 64 = .ok (.new 68, 3) := by decide +kernel
theorem d8_67 : decode jdk_65_method_30_code 67 = .ok (.dup, 1) := by decide +kernel
theorem d8_68 : decode jdk_65_method_30_code 68 = .ok (.iload_n 2, 1) := by decide +kernel
theorem d8_69 : decode jdk_65_method_30_code 69 = .ok (.invokespecial 70, 3) := by decide +kernel
theorem d8_72 : decode jdk_65_method_30_code 72 = .ok (.athrow, 1) := by decide +kernel
theorem d8_73 : decode jdk_65_method_30_code 73 = .ok (.return_, 1) := by decide +kernel
theorem pn_d8 : plainFor (⟨"java/util/Arrays", "rangeCheck", "(III)V"⟩ : MethodName) = true := by first | (refine plainFor_of_name ?_; simp [plainName, overriddenIn]; done) | decide +kernel
theorem pd_d8 : parseMethodDescriptor "(III)V" = some ⟨[.int, .int, .int], none⟩ := by decide +kernel
theorem d9_0 : decode prog_8_method_24_code 0 = .ok (.iload_n 0, 1) := by decide +kernel
theorem d9_1 : decode prog_8_method_24_code 1 = .ok (.iconst 1, 1) := by decide +kernel
theorem d9_2 : decode prog_8_method_24_code 2 = .ok (.iadd, 1) := by decide +kernel
theorem d9_3 : decode prog_8_method_24_code 3 = .ok (.iconst 3, 1) := by decide +kernel
theorem d9_4 : decode prog_8_method_24_code 4 = .ok (.imul, 1) := by decide +kernel
theorem d9_5 : decode prog_8_method_24_code 5 = .ok (.ireturn, 1) := by decide +kernel
theorem pn_d9 : plainFor (⟨"com/example/antecedent/antecedent/clock/Tree", "record", "(I)I"⟩ : MethodName) = true := by first | (refine plainFor_of_name ?_; simp [plainName, overriddenIn]; done) | decide +kernel
theorem pd_d9 : parseMethodDescriptor "(I)I" = some ⟨[.int], some .int⟩ := by decide +kernel
theorem d10_0 : decode prog_8_method_10_code 0 = .ok (.iload_n 2, 1) := by decide +kernel
theorem d10_1 : decode prog_8_method_10_code 1 = .ok (.iconst 1, 1) := by decide +kernel
theorem d10_2 : decode prog_8_method_10_code 2 = .ok (.isub, 1) := by decide +kernel
theorem d10_3 : decode prog_8_method_10_code 3 = .ok (.istore_n 3, 1) := by decide +kernel
theorem d10_4 : decode prog_8_method_10_code 4 = .ok (.iload_n 3, 1) := by decide +kernel
theorem d10_5 : decode prog_8_method_10_code 5 = .ok (.ifCond .lt 58, 3) := by decide +kernel
theorem d10_8 : decode prog_8_method_10_code 8 = .ok (.aload_n 1, 1) := by decide +kernel
theorem d10_9 : decode prog_8_method_10_code 9 = .ok (.iconst 4, 1) := by decide +kernel
theorem d10_10 : decode prog_8_method_10_code 10 = .ok (.iload_n 3, 1) := by decide +kernel
theorem d10_11 : decode prog_8_method_10_code 11 = .ok (.imul, 1) := by decide +kernel
theorem d10_12 : decode prog_8_method_10_code 12 = .ok (.iaload, 1) := by decide +kernel
theorem d10_13 : decode prog_8_method_10_code 13 = .ok (.istore 4, 2) := by decide +kernel
theorem d10_15 : decode prog_8_method_10_code 15 = .ok (.aload_n 0, 1) := by decide +kernel
theorem d10_16 : decode prog_8_method_10_code 16 = .ok (.getfield 31, 3) := by decide +kernel
theorem d10_19 : decode prog_8_method_10_code 19 = .ok (.iload 4, 2) := by decide +kernel
theorem d10_21 : decode prog_8_method_10_code 21 = .ok (.aload_n 1, 1) := by decide +kernel
theorem d10_22 : decode prog_8_method_10_code 22 = .ok (.iconst 4, 1) := by decide +kernel
theorem d10_23 : decode prog_8_method_10_code 23 = .ok (.iload_n 3, 1) := by decide +kernel
theorem d10_24 : decode prog_8_method_10_code 24 = .ok (.imul, 1) := by decide +kernel
theorem d10_25 : decode prog_8_method_10_code 25 = .ok (.iconst 1, 1) := by decide +kernel
theorem d10_26 : decode prog_8_method_10_code 26 = .ok (.iadd, 1) := by decide +kernel
theorem d10_27 : decode prog_8_method_10_code 27 = .ok (.iaload, 1) := by decide +kernel
theorem d10_28 : decode prog_8_method_10_code 28 = .ok (.iastore, 1) := by decide +kernel
theorem d10_29 : decode prog_8_method_10_code 29 = .ok (.aload_n 0, 1) := by decide +kernel
theorem d10_30 : decode prog_8_method_10_code 30 = .ok (.getfield 34, 3) := by decide +kernel
theorem d10_33 : decode prog_8_method_10_code 33 = .ok (.iload 4, 2) := by decide +kernel
theorem d10_35 : decode prog_8_method_10_code 35 = .ok (.aload_n 1, 1) := by decide +kernel
theorem d10_36 : decode prog_8_method_10_code 36 = .ok (.iconst 4, 1) := by decide +kernel
theorem d10_37 : decode prog_8_method_10_code 37 = .ok (.iload_n 3, 1) := by decide +kernel
theorem d10_38 : decode prog_8_method_10_code 38 = .ok (.imul, 1) := by decide +kernel
theorem d10_39 : decode prog_8_method_10_code 39 = .ok (.iconst 2, 1) := by decide +kernel
theorem d10_40 : decode prog_8_method_10_code 40 = .ok (.iadd, 1) := by decide +kernel
theorem d10_41 : decode prog_8_method_10_code 41 = .ok (.iaload, 1) := by decide +kernel
theorem d10_42 : decode prog_8_method_10_code 42 = .ok (.iastore, 1) := by decide +kernel
theorem d10_43 : decode prog_8_method_10_code 43 = .ok (.aload_n 0, 1) := by decide +kernel
theorem d10_44 : decode prog_8_method_10_code 44 = .ok (.getfield 37, 3) := by decide +kernel
theorem d10_47 : decode prog_8_method_10_code 47 = .ok (.iload 4, 2) := by decide +kernel
theorem d10_49 : decode prog_8_method_10_code 49 = .ok (.aload_n 1, 1) := by decide +kernel
theorem d10_50 : decode prog_8_method_10_code 50 = .ok (.iconst 4, 1) := by decide +kernel
theorem d10_51 : decode prog_8_method_10_code 51 = .ok (.iload_n 3, 1) := by decide +kernel
theorem d10_52 : decode prog_8_method_10_code 52 = .ok (.imul, 1) := by decide +kernel
theorem d10_53 : decode prog_8_method_10_code 53 = .ok (.iconst 3, 1) := by decide +kernel
theorem d10_54 : decode prog_8_method_10_code 54 = .ok (.iadd, 1) := by decide +kernel
theorem d10_55 : decode prog_8_method_10_code 55 = .ok (.iaload, 1) := by decide +kernel
theorem d10_56 : decode prog_8_method_10_code 56 = .ok (.iastore, 1) := by decide +kernel
theorem d10_57 : decode prog_8_method_10_code 57 = .ok (.iinc 3 (-1), 3) := by decide +kernel
theorem d10_60 : decode prog_8_method_10_code 60 = .ok (.goto (-56), 3) := by decide +kernel
theorem d10_63 : decode prog_8_method_10_code 63 = .ok (.return_, 1) := by decide +kernel
theorem pn_d10 : plainFor (⟨"com/example/antecedent/antecedent/clock/Tree", "unview", "([II)V"⟩ : MethodName) = true := by first | (refine plainFor_of_name ?_; simp [plainName, overriddenIn]; done) | decide +kernel
theorem pd_d10 : parseMethodDescriptor "([II)V" = some ⟨[(.array .int), .int], none⟩ := by decide +kernel
theorem d11_0 : decode method_3_code 0 = .ok (.iload 4, 2) := by decide +kernel
theorem d11_2 : decode method_3_code 2 = .ok (.iload_n 1, 1) := by decide +kernel
theorem d11_3 : decode method_3_code 3 = .ok (.iadd, 1) := by decide +kernel
theorem d11_4 : decode method_3_code 4 = .ok (.istore 5, 2) := by decide +kernel
theorem d11_6 : decode method_3_code 6 = .ok (.iload 4, 2) := by decide +kernel
theorem d11_8 : decode method_3_code 8 = .ok (.iload_n 1, 1) := by decide +kernel
theorem d11_9 : decode method_3_code 9 = .ok (.isub, 1) := by decide +kernel
theorem d11_10 : decode method_3_code 10 = .ok (.istore 6, 2) := by decide +kernel
theorem d11_12 : decode method_3_code 12 = .ok (.iload 4, 2) := by decide +kernel
theorem d11_14 : decode method_3_code 14 = .ok (.iconst (-1), 1) := by decide +kernel
theorem d11_15 : decode method_3_code 15 = .ok (.ixor, 1) := by decide +kernel
theorem d11_16 : decode method_3_code 16 = .ok (.iload_n 1, 1) := by decide +kernel
theorem d11_17 : decode method_3_code 17 = .ok (.ixor, 1) := by decide +kernel
theorem d11_18 : decode method_3_code 18 = .ok (.istore 7, 2) := by decide +kernel
theorem d11_20 : decode method_3_code 20 = .ok (.iload_n 2, 1) := by decide +kernel
theorem d11_21 : decode method_3_code 21 = .ok (.iconst 2, 1) := by decide +kernel
theorem d11_22 : decode method_3_code 22 = .ok (.if_icmp .lt 27, 3) := by decide +kernel
theorem d11_25 : decode method_3_code 25 = .ok (.aload_n 3, 1) := by decide +kernel
theorem d11_26 : decode method_3_code 26 = .ok (.iconst 4, 1) := by decide +kernel
theorem d11_27 : decode method_3_code 27 = .ok (.iaload, 1) := by decide +kernel
theorem d11_28 : decode method_3_code 28 = .ok (.iload_n 1, 1) := by decide +kernel
theorem d11_29 : decode method_3_code 29 = .ok (.if_icmp .ne 20, 3) := by decide +kernel
theorem d11_32 : decode method_3_code 32 = .ok (.aload_n 3, 1) := by decide +kernel
theorem d11_33 : decode method_3_code 33 = .ok (.iconst 5, 1) := by decide +kernel
theorem d11_34 : decode method_3_code 34 = .ok (.iaload, 1) := by decide +kernel
theorem d11_35 : decode method_3_code 35 = .ok (.istore 5, 2) := by decide +kernel
theorem d11_37 : decode method_3_code 37 = .ok (.aload_n 3, 1) := by decide +kernel
theorem d11_38 : decode method_3_code 38 = .ok (.bipush 6, 2) := by decide +kernel
theorem d11_40 : decode method_3_code 40 = .ok (.iaload, 1) := by decide +kernel
theorem d11_41 : decode method_3_code 41 = .ok (.istore 6, 2) := by decide +kernel
theorem d11_43 : decode method_3_code 43 = .ok (.aload_n 3, 1) := by decide +kernel
theorem d11_44 : decode method_3_code 44 = .ok (.bipush 7, 2) := by decide +kernel
theorem d11_46 : decode method_3_code 46 = .ok (.iaload, 1) := by decide +kernel
theorem d11_47 : decode method_3_code 47 = .ok (.istore 7, 2) := by decide +kernel
theorem d11_49 : decode method_3_code 49 = .ok (.iload_n 2, 1) := by decide +kernel
theorem d11_50 : decode method_3_code 50 = .ok (.iconst 1, 1) := by decide +kernel
theorem d11_51 : decode method_3_code 51 = .ok (.if_icmp .lt 25, 3) := by decide +kernel
theorem d11_54 : decode method_3_code 54 = .ok (.aload_n 3, 1) := by decide +kernel
theorem d11_55 : decode method_3_code 55 = .ok (.iconst 0, 1) := by decide +kernel
theorem d11_56 : decode method_3_code 56 = .ok (.iaload, 1) := by decide +kernel
theorem d11_57 : decode method_3_code 57 = .ok (.iload_n 1, 1) := by decide +kernel
theorem d11_58 : decode method_3_code 58 = .ok (.if_icmp .ne 18, 3) := by decide +kernel
theorem d11_61 : decode method_3_code 61 = .ok (.aload_n 3, 1) := by decide +kernel
theorem d11_62 : decode method_3_code 62 = .ok (.iconst 1, 1) := by decide +kernel
theorem d11_63 : decode method_3_code 63 = .ok (.iaload, 1) := by decide +kernel
theorem d11_64 : decode method_3_code 64 = .ok (.istore 5, 2) := by decide +kernel
theorem d11_66 : decode method_3_code 66 = .ok (.aload_n 3, 1) := by decide +kernel
theorem d11_67 : decode method_3_code 67 = .ok (.iconst 2, 1) := by decide +kernel
theorem d11_68 : decode method_3_code 68 = .ok (.iaload, 1) := by decide +kernel
theorem d11_69 : decode method_3_code 69 = .ok (.istore 6, 2) := by decide +kernel
theorem d11_71 : decode method_3_code 71 = .ok (.aload_n 3, 1) := by decide +kernel
theorem d11_72 : decode method_3_code 72 = .ok (.iconst 3, 1) := by decide +kernel
theorem d11_73 : decode method_3_code 73 = .ok (.iaload, 1) := by decide +kernel
theorem d11_74 : decode method_3_code 74 = .ok (.istore 7, 2) := by decide +kernel
theorem d11_76 : decode method_3_code 76 = .ok (.aload_n 0, 1) := by decide +kernel
theorem d11_77 : decode method_3_code 77 = .ok (.getfield 12, 3) := by decide +kernel
theorem d11_80 : decode method_3_code 80 = .ok (.iload_n 1, 1) := by decide +kernel
theorem d11_81 : decode method_3_code 81 = .ok (.iaload, 1) := by decide +kernel
theorem d11_82 : decode method_3_code 82 = .ok (.iload 5, 2) := by decide +kernel
theorem d11_84 : decode method_3_code 84 = .ok (.if_icmp .ne 29, 3) := by decide +kernel
theorem d11_87 : decode method_3_code 87 = .ok (.aload_n 0, 1) := by decide +kernel
theorem d11_88 : decode method_3_code 88 = .ok (.getfield 16, 3) := by decide +kernel
theorem d11_91 : decode method_3_code 91 = .ok (.iload_n 1, 1) := by decide +kernel
theorem d11_92 : decode method_3_code 92 = .ok (.iaload, 1) := by decide +kernel
theorem d11_93 : decode method_3_code 93 = .ok (.iload 6, 2) := by decide +kernel
theorem d11_95 : decode method_3_code 95 = .ok (.if_icmp .ne 18, 3) := by decide +kernel
theorem d11_98 : decode method_3_code 98 = .ok (.aload_n 0, 1) := by decide +kernel
theorem d11_99 : decode method_3_code 99 = .ok (.getfield 19, 3) := by decide +kernel
theorem d11_102 : decode method_3_code 102 = .ok (.iload_n 1, 1) := by decide +kernel
theorem d11_103 : decode method_3_code 103 = .ok (.iaload, 1) := by decide +kernel
theorem d11_104 : decode method_3_code 104 = .ok (.iload 7, 2) := by decide +kernel
theorem d11_106 : decode method_3_code 106 = .ok (.if_icmp .ne 7, 3) := by decide +kernel
theorem d11_109 : decode method_3_code 109 = .ok (.iconst 1, 1) := by decide +kernel
theorem d11_110 : decode method_3_code 110 = .ok (.goto 4, 3) := by decide +kernel
theorem d11_113 : decode method_3_code 113 = .ok (.iconst 0, 1) := by decide +kernel
theorem d11_114 : decode method_3_code 114 = .ok (.ireturn, 1) := by decide +kernel
theorem pn_d11 : plainFor (⟨"com/example/antecedent/antecedent/clock/TreeUnviewPinLaw", "check", "(Lcom/example/antecedent/antecedent/clock/Tree;II[II)Z"⟩ : MethodName) = true := by first | (refine plainFor_of_name ?_; simp [plainName, overriddenIn]; done) | decide +kernel
theorem pd_d11 : parseMethodDescriptor "(Lcom/example/antecedent/antecedent/clock/Tree;II[II)Z" = some ⟨[(.object "com/example/antecedent/antecedent/clock/Tree"), .int, .int, (.array .int), .int], some .boolean⟩ := by decide +kernel
theorem pn_at0 : plainName "com/example/antecedent/antecedent/clock/TreeUnviewPinLaw" = true := by first | (simp [plainName, overriddenIn]; done) | decide +kernel
theorem pn_at : plainFor x = true := plainFor_of_name pn_at0
variable {p : Program} {l : Launch} {e : Env} {s : State} {m : MethodId} {args : Array Value} {below : List Frame} {meth : Method} {c : Code} {T : State} {Z : State} {n0 : Nat} {h : Heap} {a0 : Array Value}
def own_A (Z : State) (h : Heap) (a : Addr) (N : Int32) (L : Nat) : Prop := ∃ k vs dv, vs.length = L ∧ Arv Z h a k .int N vs dv
def own_TT (Z : State) (h : Heap) (a ac ap aa al : Addr) (rm : Int32) : Prop := Exa Z h a "com/example/antecedent/antecedent/clock/Tree" ∧ Fld Z h a "com/example/antecedent/antecedent/clock/Tree" "counts" "[I" (.ref ac) ∧ Fld Z h a "com/example/antecedent/antecedent/clock/Tree" "parents" "[I" (.ref ap) ∧ Fld Z h a "com/example/antecedent/antecedent/clock/Tree" "attached" "[I" (.ref aa) ∧ Fld Z h a "com/example/antecedent/antecedent/clock/Tree" "links" "[I" (.ref al) ∧ Fld Z h a "com/example/antecedent/antecedent/clock/Tree" "room" "I" (.int rm) ∧ (∃ v, Fld Z h a "com/example/antecedent/antecedent/clock/Tree" "version" "I" (.int v)) ∧ (∃ v, Fld Z h a "com/example/antecedent/antecedent/clock/Tree" "blendedFrom" "Lcom/example/antecedent/antecedent/clock/Tree;" v) ∧ (∃ v, Fld Z h a "com/example/antecedent/antecedent/clock/Tree" "listed" "Z" v) ∧ own_A Z h ac 4 4 ∧ own_A Z h ap 4 4 ∧ own_A Z h aa 4 4 ∧ own_A Z h al 15 15 ∧ a ≠ ac ∧ a ≠ ap ∧ a ≠ aa ∧ a ≠ al ∧ ac ≠ ap ∧ ac ≠ aa ∧ ac ≠ al ∧ ap ≠ aa ∧ ap ≠ al ∧ aa ≠ al
def own_G (n0 : Nat) (a ac ap aa al : Addr) : Prop := n0 ≤ a ∧ n0 ≤ ac ∧ n0 ≤ ap ∧ n0 ≤ aa ∧ n0 ≤ al
set_option maxRecDepth 65536 in
set_option maxHeartbeats 4000000 in
theorem own_change (hw : ∀ d ∈ tables_1, d.before a0 Z = true) (rm : Int32) (a ac ap aa al : Addr) (G : own_G n0 a ac ap aa al) (TT : own_TT Z h a ac ap aa al rm) :
    Ctr l (⟨"com/example/antecedent/antecedent/clock/Tree", "change", "()V"⟩ : MethodName) prog_8_method_3_code 1 none ({ frames := 0, cells := 0, slots := 0, locals := 0 } : Room) Z #[(.ref a)] h n0 (fun v h' => v = none ∧ own_TT Z h' a ac ap aa al rm) [] := by
  refine metGo (Ls := #[.val (.ref a)]) pn_d4 (fun m => by first | rfl | (simp [entryFrame, mkF, argsToLocals, Value.category]; done) | (simp [entryFrame, mkF, argsToLocals, Value.category, maxLocals]; done)) ?_
  intro p e s m below meth c T w
  obtain ⟨E0, Fc, Fp, Ft, Fl, Fr, ⟨ov, Fv⟩, ⟨ob, Fb⟩, ⟨oi, Fi⟩, ⟨kc, vc, dc, lc, Vc⟩, ⟨kp, vp, dp, lp, Vp⟩, ⟨kt, vt, dt, lt, Vt⟩, ⟨kl, vl, dl, ll, Vl⟩, n1, n2, n3, n4, n5, n6, n7, n8, n9, n10⟩ := TT
  refine galoadN (pc' := 1) (Ls := #[.val (.ref a)]) (rest := []) w d4_0 rfl rfl rfl ?_
  refine gdup (pc' := 2) w d4_1 rfl rfl ?_
  refine ggetF (pc' := 5) w d4_2 (hw _ (List.mem_of_getElem? (i := 42) rfl)) Fv rfl (fun T1 w2 => ?_)
  refine giconst (v := (1 : Int32)) (pc' := 6) w2 d4_5 rfl rfl ?_
  refine giadd (pc' := 7) w2 d4_6 rfl ?_
  refine gputF (pc' := 10) (v' := (.int (ov + (1 : Int32)))) (ty := .int) w2 d4_7 (hw _ (List.mem_of_getElem? (i := 42) rfl)) Fv E0 (Or.inl (hw _ (List.mem_of_getElem? (i := 43) rfl))) (hw _ (List.mem_of_getElem? (i := 1) rfl)) (by decide) rfl rfl G.1 rfl (fun T3 h4 w5 W6 => ?_)
  have E7 := E0.wr W6
  have F8 := Fc.other W6 (Or.inr (slot_ne (t := (.array .int)) (t' := .int) (Or.inl (hw _ (List.mem_of_getElem? (i := 25) rfl))) (Or.inl (hw _ (List.mem_of_getElem? (i := 43) rfl))) (by decide) (by decide) (by decide)))
  have V9 := Vc.other W6 (Ne.symm n1)
  have F10 := Fp.other W6 (Or.inr (slot_ne (t := (.array .int)) (t' := .int) (Or.inl (hw _ (List.mem_of_getElem? (i := 27) rfl))) (Or.inl (hw _ (List.mem_of_getElem? (i := 43) rfl))) (by decide) (by decide) (by decide)))
  have V11 := Vp.other W6 (Ne.symm n2)
  have F12 := Ft.other W6 (Or.inr (slot_ne (t := (.array .int)) (t' := .int) (Or.inl (hw _ (List.mem_of_getElem? (i := 29) rfl))) (Or.inl (hw _ (List.mem_of_getElem? (i := 43) rfl))) (by decide) (by decide) (by decide)))
  have V13 := Vt.other W6 (Ne.symm n3)
  have F14 := Fl.other W6 (Or.inr (slot_ne (t := (.array .int)) (t' := .int) (Or.inl (hw _ (List.mem_of_getElem? (i := 31) rfl))) (Or.inl (hw _ (List.mem_of_getElem? (i := 43) rfl))) (by decide) (by decide) (by decide)))
  have V15 := Vl.other W6 (Ne.symm n4)
  have F16 := Fr.other W6 (Or.inr (slot_ne (t := .int) (t' := .int) (Or.inl (hw _ (List.mem_of_getElem? (i := 52) rfl))) (Or.inl (hw _ (List.mem_of_getElem? (i := 43) rfl))) (by decide) (by decide) (by decide)))
  have F17 := Fv.same W6
  have F18 := Fb.other W6 (Or.inr (slot_ne (t := (.object "com/example/antecedent/antecedent/clock/Tree")) (t' := .int) (Or.inl (hw _ (List.mem_of_getElem? (i := 45) rfl))) (Or.inl (hw _ (List.mem_of_getElem? (i := 43) rfl))) (by decide) (by decide) (by decide)))
  have F19 := Fi.other W6 (Or.inr (slot_ne (t := .boolean) (t' := .int) (Or.inl (hw _ (List.mem_of_getElem? (i := 69) rfl))) (Or.inl (hw _ (List.mem_of_getElem? (i := 43) rfl))) (by decide) (by decide) (by decide)))
  refine galoadN (pc' := 11) (Ls := #[.val (.ref a)]) (rest := []) w5 d4_10 rfl rfl rfl ?_
  refine gnull (pc' := 12) w5 d4_11 rfl ?_
  refine gputF (pc' := 15) (v' := .null) (ty := (.object "com/example/antecedent/antecedent/clock/Tree")) w5 d4_12 (hw _ (List.mem_of_getElem? (i := 44) rfl)) F18 E7 (Or.inl (hw _ (List.mem_of_getElem? (i := 45) rfl))) (hw _ (List.mem_of_getElem? (i := 1) rfl)) (by decide) rfl rfl G.1 rfl (fun T20 h21 w22 W23 => ?_)
  have E24 := E7.wr W23
  have F25 := F8.other W23 (Or.inr (slot_ne (t := (.array .int)) (t' := (.object "com/example/antecedent/antecedent/clock/Tree")) (Or.inl (hw _ (List.mem_of_getElem? (i := 25) rfl))) (Or.inl (hw _ (List.mem_of_getElem? (i := 45) rfl))) (by decide) (by decide) (by decide)))
  have V26 := V9.other W23 (Ne.symm n1)
  have F27 := F10.other W23 (Or.inr (slot_ne (t := (.array .int)) (t' := (.object "com/example/antecedent/antecedent/clock/Tree")) (Or.inl (hw _ (List.mem_of_getElem? (i := 27) rfl))) (Or.inl (hw _ (List.mem_of_getElem? (i := 45) rfl))) (by decide) (by decide) (by decide)))
  have V28 := V11.other W23 (Ne.symm n2)
  have F29 := F12.other W23 (Or.inr (slot_ne (t := (.array .int)) (t' := (.object "com/example/antecedent/antecedent/clock/Tree")) (Or.inl (hw _ (List.mem_of_getElem? (i := 29) rfl))) (Or.inl (hw _ (List.mem_of_getElem? (i := 45) rfl))) (by decide) (by decide) (by decide)))
  have V30 := V13.other W23 (Ne.symm n3)
  have F31 := F14.other W23 (Or.inr (slot_ne (t := (.array .int)) (t' := (.object "com/example/antecedent/antecedent/clock/Tree")) (Or.inl (hw _ (List.mem_of_getElem? (i := 31) rfl))) (Or.inl (hw _ (List.mem_of_getElem? (i := 45) rfl))) (by decide) (by decide) (by decide)))
  have V32 := V15.other W23 (Ne.symm n4)
  have F33 := F16.other W23 (Or.inr (slot_ne (t := .int) (t' := (.object "com/example/antecedent/antecedent/clock/Tree")) (Or.inl (hw _ (List.mem_of_getElem? (i := 52) rfl))) (Or.inl (hw _ (List.mem_of_getElem? (i := 45) rfl))) (by decide) (by decide) (by decide)))
  have F34 := F17.other W23 (Or.inr (slot_ne (t := .int) (t' := (.object "com/example/antecedent/antecedent/clock/Tree")) (Or.inl (hw _ (List.mem_of_getElem? (i := 43) rfl))) (Or.inl (hw _ (List.mem_of_getElem? (i := 45) rfl))) (by decide) (by decide) (by decide)))
  have F35 := F18.same W23
  have F36 := F19.other W23 (Or.inr (slot_ne (t := .boolean) (t' := (.object "com/example/antecedent/antecedent/clock/Tree")) (Or.inl (hw _ (List.mem_of_getElem? (i := 69) rfl))) (Or.inl (hw _ (List.mem_of_getElem? (i := 45) rfl))) (by decide) (by decide) (by decide)))
  exact gret0 w22 d4_15 (by decide) (by decide) ⟨rfl, ⟨E24, F25, F27, F29, F31, F33, ⟨_, F34⟩, ⟨_, F35⟩, ⟨_, F36⟩, ⟨_, _, _, (by first | exact lc | (simp only [List.length_set]; exact lc)), V26⟩, ⟨_, _, _, (by first | exact lp | (simp only [List.length_set]; exact lp)), V28⟩, ⟨_, _, _, (by first | exact lt | (simp only [List.length_set]; exact lt)), V30⟩, ⟨_, _, _, (by first | exact ll | (simp only [List.length_set]; exact ll)), V32⟩, n1, n2, n3, n4, n5, n6, n7, n8, n9, n10⟩⟩
set_option maxRecDepth 65536 in
set_option maxHeartbeats 4000000 in
theorem own_ensure (hw : ∀ d ∈ tables_1, d.before a0 Z = true) (rm : Int32) (a ac ap aa al : Addr) (G : own_G n0 a ac ap aa al) (TT : own_TT Z h a ac ap aa al rm) :
    Ctr l (⟨"com/example/antecedent/antecedent/clock/Tree", "ensure", "(I)V"⟩ : MethodName) prog_8_method_4_code 3 none ({ frames := 0, cells := 0, slots := 0, locals := 0 } : Room) Z #[(.ref a), (.int (4 : Int32))] h n0 (fun v h' => v = none ∧ h' = h) [] := by
  refine metGo (Ls := #[.val (.ref a), .val (.int (4 : Int32)), .unset]) pn_d5 (fun m => by first | rfl | (simp [entryFrame, mkF, argsToLocals, Value.category]; done) | (simp [entryFrame, mkF, argsToLocals, Value.category, maxLocals]; done)) ?_
  intro p e s m below meth c T w
  obtain ⟨E0, Fc, Fp, Ft, Fl, Fr, ⟨ov, Fv⟩, ⟨ob, Fb⟩, ⟨oi, Fi⟩, ⟨kc, vc, dc, lc, Vc⟩, ⟨kp, vp, dp, lp, Vp⟩, ⟨kt, vt, dt, lt, Vt⟩, ⟨kl, vl, dl, ll, Vl⟩, n1, n2, n3, n4, n5, n6, n7, n8, n9, n10⟩ := TT
  refine giloadN (pc' := 1) (Ls := #[.val (.ref a), .val (.int (4 : Int32)), .unset]) (rest := []) w d5_0 rfl rfl ?_
  refine galoadN (pc' := 2) (Ls := #[.val (.ref a), .val (.int (4 : Int32)), .unset]) (rest := [(.int (4 : Int32))]) w d5_1 rfl rfl rfl ?_
  refine ggetF (pc' := 5) w d5_2 (hw _ (List.mem_of_getElem? (i := 24) rfl)) Fc rfl (fun T37 w38 => ?_)
  refine glen (pc' := 6) w38 d5_5 Vc rfl ?_
  refine gicmp (pt := 93) (pf := 9) w38 d5_6  (by decide) rfl rfl (fun (c6 : ¬ (4 : Int32) < (4 : Int32)) => ?_) (fun (c6 : (4 : Int32) < (4 : Int32)) => ?_)
  · exact gret0 w38 d5_93 (by decide) (by decide) ⟨rfl, rfl⟩
  · exact absurd c6 (by decide)
set_option maxRecDepth 65536 in
set_option maxHeartbeats 4000000 in
theorem own_rec0 (hw : ∀ d ∈ tables_1, d.before a0 Z = true)  :
    Ctr l (⟨"com/example/antecedent/antecedent/clock/Tree", "record", "(I)I"⟩ : MethodName) prog_8_method_24_code 1 (some .int) ({ frames := 0, cells := 0, slots := 0, locals := 0 } : Room) Z #[(.int (0 : Int32))] h n0 (fun v h' => v = some (.int (3 : Int32)) ∧ h' = h) [] := by
  refine metGo (Ls := #[.val (.int (0 : Int32))]) pn_d9 (fun m => by first | rfl | (simp [entryFrame, mkF, argsToLocals, Value.category]; done) | (simp [entryFrame, mkF, argsToLocals, Value.category, maxLocals]; done)) ?_
  intro p e s m below meth c T w
  refine giloadN (pc' := 1) (Ls := #[.val (.int (0 : Int32))]) (rest := []) w d9_0 rfl rfl ?_
  refine giconst (v := (1 : Int32)) (pc' := 2) w d9_1 rfl rfl ?_
  refine giadd (pc' := 3) w d9_2 rfl ?_
  refine giconst (v := (3 : Int32)) (pc' := 4) w d9_3 rfl rfl ?_
  refine gimul (pc' := 5) w d9_4 rfl ?_
  exact gretI w d9_5 (by decide) (by decide) ⟨rfl, rfl⟩
set_option maxRecDepth 65536 in
set_option maxHeartbeats 4000000 in
theorem own_rec4 (hw : ∀ d ∈ tables_1, d.before a0 Z = true)  :
    Ctr l (⟨"com/example/antecedent/antecedent/clock/Tree", "record", "(I)I"⟩ : MethodName) prog_8_method_24_code 1 (some .int) ({ frames := 0, cells := 0, slots := 0, locals := 0 } : Room) Z #[(.int (4 : Int32))] h n0 (fun v h' => v = some (.int (15 : Int32)) ∧ h' = h) [] := by
  refine metGo (Ls := #[.val (.int (4 : Int32))]) pn_d9 (fun m => by first | rfl | (simp [entryFrame, mkF, argsToLocals, Value.category]; done) | (simp [entryFrame, mkF, argsToLocals, Value.category, maxLocals]; done)) ?_
  intro p e s m below meth c T w
  refine giloadN (pc' := 1) (Ls := #[.val (.int (4 : Int32))]) (rest := []) w d9_0 rfl rfl ?_
  refine giconst (v := (1 : Int32)) (pc' := 2) w d9_1 rfl rfl ?_
  refine giadd (pc' := 3) w d9_2 rfl ?_
  refine giconst (v := (3 : Int32)) (pc' := 4) w d9_3 rfl rfl ?_
  refine gimul (pc' := 5) w d9_4 rfl ?_
  exact gretI w d9_5 (by decide) (by decide) ⟨rfl, rfl⟩
set_option maxRecDepth 65536 in
set_option maxHeartbeats 4000000 in
theorem own_rck0_4 (hw : ∀ d ∈ tables_1, d.before a0 Z = true)  :
    Ctr l (⟨"java/util/Arrays", "rangeCheck", "(III)V"⟩ : MethodName) jdk_65_method_30_code 3 none ({ frames := 0, cells := 0, slots := 0, locals := 0 } : Room) Z #[(.int (4 : Int32)), (.int (0 : Int32)), (.int (4 : Int32))] h n0 (fun v h' => v = none ∧ h' = h) [] := by
  refine metGo (Ls := #[.val (.int (4 : Int32)), .val (.int (0 : Int32)), .val (.int (4 : Int32))]) pn_d8 (fun m => by first | rfl | (simp [entryFrame, mkF, argsToLocals, Value.category]; done) | (simp [entryFrame, mkF, argsToLocals, Value.category, maxLocals]; done)) ?_
  intro p e s m below meth c T w
  refine giloadN (pc' := 1) (Ls := #[.val (.int (4 : Int32)), .val (.int (0 : Int32)), .val (.int (4 : Int32))]) (rest := []) w d8_0 rfl rfl ?_
  refine giloadN (pc' := 2) (Ls := #[.val (.int (4 : Int32)), .val (.int (0 : Int32)), .val (.int (4 : Int32))]) (rest := [(.int (0 : Int32))]) w d8_1 rfl rfl ?_
  refine gicmp (pt := 46) (pf := 5) w d8_2  (by decide) rfl rfl (fun (c2 : ¬ (4 : Int32) < (0 : Int32)) => ?_) (fun (c2 : (4 : Int32) < (0 : Int32)) => ?_)
  · refine giloadN (pc' := 47) (Ls := #[.val (.int (4 : Int32)), .val (.int (0 : Int32)), .val (.int (4 : Int32))]) (rest := []) w d8_46 rfl rfl ?_
    refine gif (pt := 59) (pf := 50) w d8_47  (by decide) rfl rfl (fun (c47 : ¬ (0 : Int32) < (0 : Int32)) => ?_) (fun (c47 : (0 : Int32) < (0 : Int32)) => ?_)
    · refine giloadN (pc' := 60) (Ls := #[.val (.int (4 : Int32)), .val (.int (0 : Int32)), .val (.int (4 : Int32))]) (rest := []) w d8_59 rfl rfl ?_
      refine giloadN (pc' := 61) (Ls := #[.val (.int (4 : Int32)), .val (.int (0 : Int32)), .val (.int (4 : Int32))]) (rest := [(.int (4 : Int32))]) w d8_60 rfl rfl ?_
      refine gicmp (pt := 73) (pf := 64) w d8_61  (by decide) rfl rfl (fun (c61 : ¬ (4 : Int32) < (4 : Int32)) => ?_) (fun (c61 : (4 : Int32) < (4 : Int32)) => ?_)
      · exact gret0 w d8_73 (by decide) (by decide) ⟨rfl, rfl⟩
      · exact absurd c61 (by decide)
    · exact absurd c47 (by decide)
  · exact absurd c2 (by decide)
set_option maxRecDepth 65536 in
set_option maxHeartbeats 4000000 in
theorem own_fill0_4 (hw : ∀ d ∈ tables_1, d.before a0 Z = true) (b : Addr) (x : Int32) (kb : ClassId) (vs : List Value) (dv : Value) (hl : vs.length = 4) (gb : n0 ≤ b) (V : Arv Z h b kb .int (4 : Int32) vs dv) :
    Ctr l (⟨"java/util/Arrays", "fill", "([IIII)V"⟩ : MethodName) jdk_65_method_104_code 5 none ({ frames := 1, cells := 0, slots := 0, locals := 16 } : Room) Z #[(.ref b), (.int (0 : Int32)), (.int (4 : Int32)), (.int x)] h n0 (fun v h' => v = none ∧ Keep h h' [b] ∧ ∃ vs', vs'.length = 4 ∧ Arv Z h' b kb .int (4 : Int32) vs' dv) [] := by
  refine metGo (Ls := #[.val (.ref b), .val (.int (0 : Int32)), .val (.int (4 : Int32)), .val (.int x), .unset]) pn_d7 (fun m => by first | rfl | (simp [entryFrame, mkF, argsToLocals, Value.category]; done) | (simp [entryFrame, mkF, argsToLocals, Value.category, maxLocals]; done)) ?_
  intro p e s m below meth c T w
  refine galoadN (pc' := 1) (Ls := #[.val (.ref b), .val (.int (0 : Int32)), .val (.int (4 : Int32)), .val (.int x), .unset]) (rest := []) w d7_0 rfl rfl rfl ?_
  refine glen (pc' := 2) w d7_1 V rfl ?_
  refine giloadN (pc' := 3) (Ls := #[.val (.ref b), .val (.int (0 : Int32)), .val (.int (4 : Int32)), .val (.int x), .unset]) (rest := [(.int (4 : Int32))]) w d7_2 rfl rfl ?_
  refine giloadN (pc' := 4) (Ls := #[.val (.ref b), .val (.int (0 : Int32)), .val (.int (4 : Int32)), .val (.int x), .unset]) (rest := [(.int (0 : Int32)), (.int (4 : Int32))]) w d7_3 rfl rfl ?_
  refine gcallS (pc' := 7) (argsL := [(.int (4 : Int32)), (.int (0 : Int32)), (.int (4 : Int32))]) (rest := []) (Wt := 0) w d7_4 (hw _ (List.mem_of_getElem? (i := 62) rfl)) (hw _ (List.mem_of_getElem? (i := 63) rfl)) (hw _ (List.mem_of_getElem? (i := 60) rfl)) (hw _ (List.mem_of_getElem? (i := 64) rfl)) (by decide) pd_d8 (own_rck0_4 hw) rfl rfl rfl rfl (Nat.le_of_eq rfl) (by decide) (by decide) (by decide) (by decide) rfl (fun v39 T40 h41 w42 q43 => ?_)
  obtain ⟨rfl, eh⟩ := q43
  show Go _ _ _ _ _ _ _ _ _ (mkF m 7 #[.val (.ref b), .val (.int (0 : Int32)), .val (.int (4 : Int32)), .val (.int x), .unset] [])
  rw [eh] at w42
  refine giloadN (pc' := 8) (Ls := #[.val (.ref b), .val (.int (0 : Int32)), .val (.int (4 : Int32)), .val (.int x), .unset]) (rest := []) w42 d7_7 rfl rfl ?_
  refine gistore (pc' := 10) (Ls := #[.val (.ref b), .val (.int (0 : Int32)), .val (.int (4 : Int32)), .val (.int x), .unset]) (Ls' := #[.val (.ref b), .val (.int (0 : Int32)), .val (.int (4 : Int32)), .val (.int x), .val (.int (0 : Int32))]) (rest := []) w42 d7_8 rfl rfl ?_
  refine giload (pc' := 12) (Ls := #[.val (.ref b), .val (.int (0 : Int32)), .val (.int (4 : Int32)), .val (.int x), .val (.int (0 : Int32))]) (rest := []) w42 d7_10 rfl rfl ?_
  refine giloadN (pc' := 13) (Ls := #[.val (.ref b), .val (.int (0 : Int32)), .val (.int (4 : Int32)), .val (.int x), .val (.int (0 : Int32))]) (rest := [(.int (0 : Int32))]) w42 d7_12 rfl rfl ?_
  refine gicmp (pt := 27) (pf := 16) w42 d7_13  (by decide) rfl rfl (fun (c13 : ¬ (0 : Int32) < (4 : Int32)) => ?_) (fun (c13 : (0 : Int32) < (4 : Int32)) => ?_)
  · exact absurd c13 (by decide)
  · refine galoadN (pc' := 17) (Ls := #[.val (.ref b), .val (.int (0 : Int32)), .val (.int (4 : Int32)), .val (.int x), .val (.int (0 : Int32))]) (rest := []) w42 d7_16 rfl rfl rfl ?_
    refine giload (pc' := 19) (Ls := #[.val (.ref b), .val (.int (0 : Int32)), .val (.int (4 : Int32)), .val (.int x), .val (.int (0 : Int32))]) (rest := [(.ref b)]) w42 d7_17 rfl rfl ?_
    refine giloadN (pc' := 20) (Ls := #[.val (.ref b), .val (.int (0 : Int32)), .val (.int (4 : Int32)), .val (.int x), .val (.int (0 : Int32))]) (rest := [(.int (0 : Int32)), (.ref b)]) w42 d7_19 rfl rfl ?_
    refine giastore (pc' := 21) (x' := x) w42 d7_20 rfl V (by decide) (0) rfl (by first | exact (by rw [hl]; decide) | (simp only [List.length_set]; exact (by rw [hl]; decide))) gb rfl (fun T44 h45 w46 W47 V48 => ?_)
    have V49 : Arv Z h45 b kb .int (4 : Int32) (vs.set 0 (.int x)) dv := V48
    have K50 := (Keep.refl h [b]).wr W47 (Or.inl (List.mem_singleton.mpr rfl))
    refine giinc (pc' := 24) (Ls := #[.val (.ref b), .val (.int (0 : Int32)), .val (.int (4 : Int32)), .val (.int x), .val (.int (0 : Int32))]) (Ls' := #[.val (.ref b), .val (.int (0 : Int32)), .val (.int (4 : Int32)), .val (.int x), .val (.int (1 : Int32))]) (rest := []) w46 d7_21 rfl rfl rfl ?_
    refine ggoto (pc' := 10) w46 d7_24 (by decide) rfl ?_
    refine giload (pc' := 12) (Ls := #[.val (.ref b), .val (.int (0 : Int32)), .val (.int (4 : Int32)), .val (.int x), .val (.int (1 : Int32))]) (rest := []) w46 d7_10 rfl rfl ?_
    refine giloadN (pc' := 13) (Ls := #[.val (.ref b), .val (.int (0 : Int32)), .val (.int (4 : Int32)), .val (.int x), .val (.int (1 : Int32))]) (rest := [(.int (1 : Int32))]) w46 d7_12 rfl rfl ?_
    refine gicmp (pt := 27) (pf := 16) w46 d7_13  (by decide) rfl rfl (fun (c13_1 : ¬ (1 : Int32) < (4 : Int32)) => ?_) (fun (c13_1 : (1 : Int32) < (4 : Int32)) => ?_)
    · exact absurd c13_1 (by decide)
    · refine galoadN (pc' := 17) (Ls := #[.val (.ref b), .val (.int (0 : Int32)), .val (.int (4 : Int32)), .val (.int x), .val (.int (1 : Int32))]) (rest := []) w46 d7_16 rfl rfl rfl ?_
      refine giload (pc' := 19) (Ls := #[.val (.ref b), .val (.int (0 : Int32)), .val (.int (4 : Int32)), .val (.int x), .val (.int (1 : Int32))]) (rest := [(.ref b)]) w46 d7_17 rfl rfl ?_
      refine giloadN (pc' := 20) (Ls := #[.val (.ref b), .val (.int (0 : Int32)), .val (.int (4 : Int32)), .val (.int x), .val (.int (1 : Int32))]) (rest := [(.int (1 : Int32)), (.ref b)]) w46 d7_19 rfl rfl ?_
      refine giastore (pc' := 21) (x' := x) w46 d7_20 rfl V49 (by decide) (1) rfl (by first | exact (by rw [hl]; decide) | (simp only [List.length_set]; exact (by rw [hl]; decide))) gb rfl (fun T51 h52 w53 W54 V55 => ?_)
      have V56 : Arv Z h52 b kb .int (4 : Int32) ((vs.set 0 (.int x)).set 1 (.int x)) dv := V55
      have K57 := K50.wr W54 (Or.inl (List.mem_singleton.mpr rfl))
      refine giinc (pc' := 24) (Ls := #[.val (.ref b), .val (.int (0 : Int32)), .val (.int (4 : Int32)), .val (.int x), .val (.int (1 : Int32))]) (Ls' := #[.val (.ref b), .val (.int (0 : Int32)), .val (.int (4 : Int32)), .val (.int x), .val (.int (2 : Int32))]) (rest := []) w53 d7_21 rfl rfl rfl ?_
      refine ggoto (pc' := 10) w53 d7_24 (by decide) rfl ?_
      refine giload (pc' := 12) (Ls := #[.val (.ref b), .val (.int (0 : Int32)), .val (.int (4 : Int32)), .val (.int x), .val (.int (2 : Int32))]) (rest := []) w53 d7_10 rfl rfl ?_
      refine giloadN (pc' := 13) (Ls := #[.val (.ref b), .val (.int (0 : Int32)), .val (.int (4 : Int32)), .val (.int x), .val (.int (2 : Int32))]) (rest := [(.int (2 : Int32))]) w53 d7_12 rfl rfl ?_
      refine gicmp (pt := 27) (pf := 16) w53 d7_13  (by decide) rfl rfl (fun (c13_2 : ¬ (2 : Int32) < (4 : Int32)) => ?_) (fun (c13_2 : (2 : Int32) < (4 : Int32)) => ?_)
      · exact absurd c13_2 (by decide)
      · refine galoadN (pc' := 17) (Ls := #[.val (.ref b), .val (.int (0 : Int32)), .val (.int (4 : Int32)), .val (.int x), .val (.int (2 : Int32))]) (rest := []) w53 d7_16 rfl rfl rfl ?_
        refine giload (pc' := 19) (Ls := #[.val (.ref b), .val (.int (0 : Int32)), .val (.int (4 : Int32)), .val (.int x), .val (.int (2 : Int32))]) (rest := [(.ref b)]) w53 d7_17 rfl rfl ?_
        refine giloadN (pc' := 20) (Ls := #[.val (.ref b), .val (.int (0 : Int32)), .val (.int (4 : Int32)), .val (.int x), .val (.int (2 : Int32))]) (rest := [(.int (2 : Int32)), (.ref b)]) w53 d7_19 rfl rfl ?_
        refine giastore (pc' := 21) (x' := x) w53 d7_20 rfl V56 (by decide) (2) rfl (by first | exact (by rw [hl]; decide) | (simp only [List.length_set]; exact (by rw [hl]; decide))) gb rfl (fun T58 h59 w60 W61 V62 => ?_)
        have V63 : Arv Z h59 b kb .int (4 : Int32) (((vs.set 0 (.int x)).set 1 (.int x)).set 2 (.int x)) dv := V62
        have K64 := K57.wr W61 (Or.inl (List.mem_singleton.mpr rfl))
        refine giinc (pc' := 24) (Ls := #[.val (.ref b), .val (.int (0 : Int32)), .val (.int (4 : Int32)), .val (.int x), .val (.int (2 : Int32))]) (Ls' := #[.val (.ref b), .val (.int (0 : Int32)), .val (.int (4 : Int32)), .val (.int x), .val (.int (3 : Int32))]) (rest := []) w60 d7_21 rfl rfl rfl ?_
        refine ggoto (pc' := 10) w60 d7_24 (by decide) rfl ?_
        refine giload (pc' := 12) (Ls := #[.val (.ref b), .val (.int (0 : Int32)), .val (.int (4 : Int32)), .val (.int x), .val (.int (3 : Int32))]) (rest := []) w60 d7_10 rfl rfl ?_
        refine giloadN (pc' := 13) (Ls := #[.val (.ref b), .val (.int (0 : Int32)), .val (.int (4 : Int32)), .val (.int x), .val (.int (3 : Int32))]) (rest := [(.int (3 : Int32))]) w60 d7_12 rfl rfl ?_
        refine gicmp (pt := 27) (pf := 16) w60 d7_13  (by decide) rfl rfl (fun (c13_3 : ¬ (3 : Int32) < (4 : Int32)) => ?_) (fun (c13_3 : (3 : Int32) < (4 : Int32)) => ?_)
        · exact absurd c13_3 (by decide)
        · refine galoadN (pc' := 17) (Ls := #[.val (.ref b), .val (.int (0 : Int32)), .val (.int (4 : Int32)), .val (.int x), .val (.int (3 : Int32))]) (rest := []) w60 d7_16 rfl rfl rfl ?_
          refine giload (pc' := 19) (Ls := #[.val (.ref b), .val (.int (0 : Int32)), .val (.int (4 : Int32)), .val (.int x), .val (.int (3 : Int32))]) (rest := [(.ref b)]) w60 d7_17 rfl rfl ?_
          refine giloadN (pc' := 20) (Ls := #[.val (.ref b), .val (.int (0 : Int32)), .val (.int (4 : Int32)), .val (.int x), .val (.int (3 : Int32))]) (rest := [(.int (3 : Int32)), (.ref b)]) w60 d7_19 rfl rfl ?_
          refine giastore (pc' := 21) (x' := x) w60 d7_20 rfl V63 (by decide) (3) rfl (by first | exact (by rw [hl]; decide) | (simp only [List.length_set]; exact (by rw [hl]; decide))) gb rfl (fun T65 h66 w67 W68 V69 => ?_)
          have V70 : Arv Z h66 b kb .int (4 : Int32) ((((vs.set 0 (.int x)).set 1 (.int x)).set 2 (.int x)).set 3 (.int x)) dv := V69
          have K71 := K64.wr W68 (Or.inl (List.mem_singleton.mpr rfl))
          refine giinc (pc' := 24) (Ls := #[.val (.ref b), .val (.int (0 : Int32)), .val (.int (4 : Int32)), .val (.int x), .val (.int (3 : Int32))]) (Ls' := #[.val (.ref b), .val (.int (0 : Int32)), .val (.int (4 : Int32)), .val (.int x), .val (.int (4 : Int32))]) (rest := []) w67 d7_21 rfl rfl rfl ?_
          refine ggoto (pc' := 10) w67 d7_24 (by decide) rfl ?_
          refine giload (pc' := 12) (Ls := #[.val (.ref b), .val (.int (0 : Int32)), .val (.int (4 : Int32)), .val (.int x), .val (.int (4 : Int32))]) (rest := []) w67 d7_10 rfl rfl ?_
          refine giloadN (pc' := 13) (Ls := #[.val (.ref b), .val (.int (0 : Int32)), .val (.int (4 : Int32)), .val (.int x), .val (.int (4 : Int32))]) (rest := [(.int (4 : Int32))]) w67 d7_12 rfl rfl ?_
          refine gicmp (pt := 27) (pf := 16) w67 d7_13  (by decide) rfl rfl (fun (c13_4 : ¬ (4 : Int32) < (4 : Int32)) => ?_) (fun (c13_4 : (4 : Int32) < (4 : Int32)) => ?_)
          · exact gret0 w67 d7_27 (by decide) (by decide) ⟨rfl, K71, _, (by simp only [List.length_set]; exact hl), V70⟩
          · exact absurd c13_4 (by decide)
set_option maxRecDepth 65536 in
set_option maxHeartbeats 4000000 in
theorem own_rck3_15 (hw : ∀ d ∈ tables_1, d.before a0 Z = true)  :
    Ctr l (⟨"java/util/Arrays", "rangeCheck", "(III)V"⟩ : MethodName) jdk_65_method_30_code 3 none ({ frames := 0, cells := 0, slots := 0, locals := 0 } : Room) Z #[(.int (15 : Int32)), (.int (3 : Int32)), (.int (15 : Int32))] h n0 (fun v h' => v = none ∧ h' = h) [] := by
  refine metGo (Ls := #[.val (.int (15 : Int32)), .val (.int (3 : Int32)), .val (.int (15 : Int32))]) pn_d8 (fun m => by first | rfl | (simp [entryFrame, mkF, argsToLocals, Value.category]; done) | (simp [entryFrame, mkF, argsToLocals, Value.category, maxLocals]; done)) ?_
  intro p e s m below meth c T w
  refine giloadN (pc' := 1) (Ls := #[.val (.int (15 : Int32)), .val (.int (3 : Int32)), .val (.int (15 : Int32))]) (rest := []) w d8_0 rfl rfl ?_
  refine giloadN (pc' := 2) (Ls := #[.val (.int (15 : Int32)), .val (.int (3 : Int32)), .val (.int (15 : Int32))]) (rest := [(.int (3 : Int32))]) w d8_1 rfl rfl ?_
  refine gicmp (pt := 46) (pf := 5) w d8_2  (by decide) rfl rfl (fun (c2 : ¬ (15 : Int32) < (3 : Int32)) => ?_) (fun (c2 : (15 : Int32) < (3 : Int32)) => ?_)
  · refine giloadN (pc' := 47) (Ls := #[.val (.int (15 : Int32)), .val (.int (3 : Int32)), .val (.int (15 : Int32))]) (rest := []) w d8_46 rfl rfl ?_
    refine gif (pt := 59) (pf := 50) w d8_47  (by decide) rfl rfl (fun (c47 : ¬ (3 : Int32) < (0 : Int32)) => ?_) (fun (c47 : (3 : Int32) < (0 : Int32)) => ?_)
    · refine giloadN (pc' := 60) (Ls := #[.val (.int (15 : Int32)), .val (.int (3 : Int32)), .val (.int (15 : Int32))]) (rest := []) w d8_59 rfl rfl ?_
      refine giloadN (pc' := 61) (Ls := #[.val (.int (15 : Int32)), .val (.int (3 : Int32)), .val (.int (15 : Int32))]) (rest := [(.int (15 : Int32))]) w d8_60 rfl rfl ?_
      refine gicmp (pt := 73) (pf := 64) w d8_61  (by decide) rfl rfl (fun (c61 : ¬ (15 : Int32) < (15 : Int32)) => ?_) (fun (c61 : (15 : Int32) < (15 : Int32)) => ?_)
      · exact gret0 w d8_73 (by decide) (by decide) ⟨rfl, rfl⟩
      · exact absurd c61 (by decide)
    · exact absurd c47 (by decide)
  · exact absurd c2 (by decide)
set_option maxRecDepth 65536 in
set_option maxHeartbeats 4000000 in
theorem own_fill3_15 (hw : ∀ d ∈ tables_1, d.before a0 Z = true) (b : Addr) (x : Int32) (kb : ClassId) (vs : List Value) (dv : Value) (hl : vs.length = 15) (gb : n0 ≤ b) (V : Arv Z h b kb .int (15 : Int32) vs dv) :
    Ctr l (⟨"java/util/Arrays", "fill", "([IIII)V"⟩ : MethodName) jdk_65_method_104_code 5 none ({ frames := 1, cells := 0, slots := 0, locals := 16 } : Room) Z #[(.ref b), (.int (3 : Int32)), (.int (15 : Int32)), (.int x)] h n0 (fun v h' => v = none ∧ Keep h h' [b] ∧ ∃ vs', vs'.length = 15 ∧ Arv Z h' b kb .int (15 : Int32) vs' dv) [] := by
  refine metGo (Ls := #[.val (.ref b), .val (.int (3 : Int32)), .val (.int (15 : Int32)), .val (.int x), .unset]) pn_d7 (fun m => by first | rfl | (simp [entryFrame, mkF, argsToLocals, Value.category]; done) | (simp [entryFrame, mkF, argsToLocals, Value.category, maxLocals]; done)) ?_
  intro p e s m below meth c T w
  refine galoadN (pc' := 1) (Ls := #[.val (.ref b), .val (.int (3 : Int32)), .val (.int (15 : Int32)), .val (.int x), .unset]) (rest := []) w d7_0 rfl rfl rfl ?_
  refine glen (pc' := 2) w d7_1 V rfl ?_
  refine giloadN (pc' := 3) (Ls := #[.val (.ref b), .val (.int (3 : Int32)), .val (.int (15 : Int32)), .val (.int x), .unset]) (rest := [(.int (15 : Int32))]) w d7_2 rfl rfl ?_
  refine giloadN (pc' := 4) (Ls := #[.val (.ref b), .val (.int (3 : Int32)), .val (.int (15 : Int32)), .val (.int x), .unset]) (rest := [(.int (3 : Int32)), (.int (15 : Int32))]) w d7_3 rfl rfl ?_
  refine gcallS (pc' := 7) (argsL := [(.int (15 : Int32)), (.int (3 : Int32)), (.int (15 : Int32))]) (rest := []) (Wt := 0) w d7_4 (hw _ (List.mem_of_getElem? (i := 62) rfl)) (hw _ (List.mem_of_getElem? (i := 63) rfl)) (hw _ (List.mem_of_getElem? (i := 60) rfl)) (hw _ (List.mem_of_getElem? (i := 64) rfl)) (by decide) pd_d8 (own_rck3_15 hw) rfl rfl rfl rfl (Nat.le_of_eq rfl) (by decide) (by decide) (by decide) (by decide) rfl (fun v72 T73 h74 w75 q76 => ?_)
  obtain ⟨rfl, eh⟩ := q76
  show Go _ _ _ _ _ _ _ _ _ (mkF m 7 #[.val (.ref b), .val (.int (3 : Int32)), .val (.int (15 : Int32)), .val (.int x), .unset] [])
  rw [eh] at w75
  refine giloadN (pc' := 8) (Ls := #[.val (.ref b), .val (.int (3 : Int32)), .val (.int (15 : Int32)), .val (.int x), .unset]) (rest := []) w75 d7_7 rfl rfl ?_
  refine gistore (pc' := 10) (Ls := #[.val (.ref b), .val (.int (3 : Int32)), .val (.int (15 : Int32)), .val (.int x), .unset]) (Ls' := #[.val (.ref b), .val (.int (3 : Int32)), .val (.int (15 : Int32)), .val (.int x), .val (.int (3 : Int32))]) (rest := []) w75 d7_8 rfl rfl ?_
  refine giload (pc' := 12) (Ls := #[.val (.ref b), .val (.int (3 : Int32)), .val (.int (15 : Int32)), .val (.int x), .val (.int (3 : Int32))]) (rest := []) w75 d7_10 rfl rfl ?_
  refine giloadN (pc' := 13) (Ls := #[.val (.ref b), .val (.int (3 : Int32)), .val (.int (15 : Int32)), .val (.int x), .val (.int (3 : Int32))]) (rest := [(.int (3 : Int32))]) w75 d7_12 rfl rfl ?_
  refine gicmp (pt := 27) (pf := 16) w75 d7_13  (by decide) rfl rfl (fun (c13 : ¬ (3 : Int32) < (15 : Int32)) => ?_) (fun (c13 : (3 : Int32) < (15 : Int32)) => ?_)
  · exact absurd c13 (by decide)
  · refine galoadN (pc' := 17) (Ls := #[.val (.ref b), .val (.int (3 : Int32)), .val (.int (15 : Int32)), .val (.int x), .val (.int (3 : Int32))]) (rest := []) w75 d7_16 rfl rfl rfl ?_
    refine giload (pc' := 19) (Ls := #[.val (.ref b), .val (.int (3 : Int32)), .val (.int (15 : Int32)), .val (.int x), .val (.int (3 : Int32))]) (rest := [(.ref b)]) w75 d7_17 rfl rfl ?_
    refine giloadN (pc' := 20) (Ls := #[.val (.ref b), .val (.int (3 : Int32)), .val (.int (15 : Int32)), .val (.int x), .val (.int (3 : Int32))]) (rest := [(.int (3 : Int32)), (.ref b)]) w75 d7_19 rfl rfl ?_
    refine giastore (pc' := 21) (x' := x) w75 d7_20 rfl V (by decide) (3) rfl (by first | exact (by rw [hl]; decide) | (simp only [List.length_set]; exact (by rw [hl]; decide))) gb rfl (fun T77 h78 w79 W80 V81 => ?_)
    have V82 : Arv Z h78 b kb .int (15 : Int32) (vs.set 3 (.int x)) dv := V81
    have K83 := (Keep.refl h [b]).wr W80 (Or.inl (List.mem_singleton.mpr rfl))
    refine giinc (pc' := 24) (Ls := #[.val (.ref b), .val (.int (3 : Int32)), .val (.int (15 : Int32)), .val (.int x), .val (.int (3 : Int32))]) (Ls' := #[.val (.ref b), .val (.int (3 : Int32)), .val (.int (15 : Int32)), .val (.int x), .val (.int (4 : Int32))]) (rest := []) w79 d7_21 rfl rfl rfl ?_
    refine ggoto (pc' := 10) w79 d7_24 (by decide) rfl ?_
    refine giload (pc' := 12) (Ls := #[.val (.ref b), .val (.int (3 : Int32)), .val (.int (15 : Int32)), .val (.int x), .val (.int (4 : Int32))]) (rest := []) w79 d7_10 rfl rfl ?_
    refine giloadN (pc' := 13) (Ls := #[.val (.ref b), .val (.int (3 : Int32)), .val (.int (15 : Int32)), .val (.int x), .val (.int (4 : Int32))]) (rest := [(.int (4 : Int32))]) w79 d7_12 rfl rfl ?_
    refine gicmp (pt := 27) (pf := 16) w79 d7_13  (by decide) rfl rfl (fun (c13_1 : ¬ (4 : Int32) < (15 : Int32)) => ?_) (fun (c13_1 : (4 : Int32) < (15 : Int32)) => ?_)
    · exact absurd c13_1 (by decide)
    · refine galoadN (pc' := 17) (Ls := #[.val (.ref b), .val (.int (3 : Int32)), .val (.int (15 : Int32)), .val (.int x), .val (.int (4 : Int32))]) (rest := []) w79 d7_16 rfl rfl rfl ?_
      refine giload (pc' := 19) (Ls := #[.val (.ref b), .val (.int (3 : Int32)), .val (.int (15 : Int32)), .val (.int x), .val (.int (4 : Int32))]) (rest := [(.ref b)]) w79 d7_17 rfl rfl ?_
      refine giloadN (pc' := 20) (Ls := #[.val (.ref b), .val (.int (3 : Int32)), .val (.int (15 : Int32)), .val (.int x), .val (.int (4 : Int32))]) (rest := [(.int (4 : Int32)), (.ref b)]) w79 d7_19 rfl rfl ?_
      refine giastore (pc' := 21) (x' := x) w79 d7_20 rfl V82 (by decide) (4) rfl (by first | exact (by rw [hl]; decide) | (simp only [List.length_set]; exact (by rw [hl]; decide))) gb rfl (fun T84 h85 w86 W87 V88 => ?_)
      have V89 : Arv Z h85 b kb .int (15 : Int32) ((vs.set 3 (.int x)).set 4 (.int x)) dv := V88
      have K90 := K83.wr W87 (Or.inl (List.mem_singleton.mpr rfl))
      refine giinc (pc' := 24) (Ls := #[.val (.ref b), .val (.int (3 : Int32)), .val (.int (15 : Int32)), .val (.int x), .val (.int (4 : Int32))]) (Ls' := #[.val (.ref b), .val (.int (3 : Int32)), .val (.int (15 : Int32)), .val (.int x), .val (.int (5 : Int32))]) (rest := []) w86 d7_21 rfl rfl rfl ?_
      refine ggoto (pc' := 10) w86 d7_24 (by decide) rfl ?_
      refine giload (pc' := 12) (Ls := #[.val (.ref b), .val (.int (3 : Int32)), .val (.int (15 : Int32)), .val (.int x), .val (.int (5 : Int32))]) (rest := []) w86 d7_10 rfl rfl ?_
      refine giloadN (pc' := 13) (Ls := #[.val (.ref b), .val (.int (3 : Int32)), .val (.int (15 : Int32)), .val (.int x), .val (.int (5 : Int32))]) (rest := [(.int (5 : Int32))]) w86 d7_12 rfl rfl ?_
      refine gicmp (pt := 27) (pf := 16) w86 d7_13  (by decide) rfl rfl (fun (c13_2 : ¬ (5 : Int32) < (15 : Int32)) => ?_) (fun (c13_2 : (5 : Int32) < (15 : Int32)) => ?_)
      · exact absurd c13_2 (by decide)
      · refine galoadN (pc' := 17) (Ls := #[.val (.ref b), .val (.int (3 : Int32)), .val (.int (15 : Int32)), .val (.int x), .val (.int (5 : Int32))]) (rest := []) w86 d7_16 rfl rfl rfl ?_
        refine giload (pc' := 19) (Ls := #[.val (.ref b), .val (.int (3 : Int32)), .val (.int (15 : Int32)), .val (.int x), .val (.int (5 : Int32))]) (rest := [(.ref b)]) w86 d7_17 rfl rfl ?_
        refine giloadN (pc' := 20) (Ls := #[.val (.ref b), .val (.int (3 : Int32)), .val (.int (15 : Int32)), .val (.int x), .val (.int (5 : Int32))]) (rest := [(.int (5 : Int32)), (.ref b)]) w86 d7_19 rfl rfl ?_
        refine giastore (pc' := 21) (x' := x) w86 d7_20 rfl V89 (by decide) (5) rfl (by first | exact (by rw [hl]; decide) | (simp only [List.length_set]; exact (by rw [hl]; decide))) gb rfl (fun T91 h92 w93 W94 V95 => ?_)
        have V96 : Arv Z h92 b kb .int (15 : Int32) (((vs.set 3 (.int x)).set 4 (.int x)).set 5 (.int x)) dv := V95
        have K97 := K90.wr W94 (Or.inl (List.mem_singleton.mpr rfl))
        refine giinc (pc' := 24) (Ls := #[.val (.ref b), .val (.int (3 : Int32)), .val (.int (15 : Int32)), .val (.int x), .val (.int (5 : Int32))]) (Ls' := #[.val (.ref b), .val (.int (3 : Int32)), .val (.int (15 : Int32)), .val (.int x), .val (.int (6 : Int32))]) (rest := []) w93 d7_21 rfl rfl rfl ?_
        refine ggoto (pc' := 10) w93 d7_24 (by decide) rfl ?_
        refine giload (pc' := 12) (Ls := #[.val (.ref b), .val (.int (3 : Int32)), .val (.int (15 : Int32)), .val (.int x), .val (.int (6 : Int32))]) (rest := []) w93 d7_10 rfl rfl ?_
        refine giloadN (pc' := 13) (Ls := #[.val (.ref b), .val (.int (3 : Int32)), .val (.int (15 : Int32)), .val (.int x), .val (.int (6 : Int32))]) (rest := [(.int (6 : Int32))]) w93 d7_12 rfl rfl ?_
        refine gicmp (pt := 27) (pf := 16) w93 d7_13  (by decide) rfl rfl (fun (c13_3 : ¬ (6 : Int32) < (15 : Int32)) => ?_) (fun (c13_3 : (6 : Int32) < (15 : Int32)) => ?_)
        · exact absurd c13_3 (by decide)
        · refine galoadN (pc' := 17) (Ls := #[.val (.ref b), .val (.int (3 : Int32)), .val (.int (15 : Int32)), .val (.int x), .val (.int (6 : Int32))]) (rest := []) w93 d7_16 rfl rfl rfl ?_
          refine giload (pc' := 19) (Ls := #[.val (.ref b), .val (.int (3 : Int32)), .val (.int (15 : Int32)), .val (.int x), .val (.int (6 : Int32))]) (rest := [(.ref b)]) w93 d7_17 rfl rfl ?_
          refine giloadN (pc' := 20) (Ls := #[.val (.ref b), .val (.int (3 : Int32)), .val (.int (15 : Int32)), .val (.int x), .val (.int (6 : Int32))]) (rest := [(.int (6 : Int32)), (.ref b)]) w93 d7_19 rfl rfl ?_
          refine giastore (pc' := 21) (x' := x) w93 d7_20 rfl V96 (by decide) (6) rfl (by first | exact (by rw [hl]; decide) | (simp only [List.length_set]; exact (by rw [hl]; decide))) gb rfl (fun T98 h99 w100 W101 V102 => ?_)
          have V103 : Arv Z h99 b kb .int (15 : Int32) ((((vs.set 3 (.int x)).set 4 (.int x)).set 5 (.int x)).set 6 (.int x)) dv := V102
          have K104 := K97.wr W101 (Or.inl (List.mem_singleton.mpr rfl))
          refine giinc (pc' := 24) (Ls := #[.val (.ref b), .val (.int (3 : Int32)), .val (.int (15 : Int32)), .val (.int x), .val (.int (6 : Int32))]) (Ls' := #[.val (.ref b), .val (.int (3 : Int32)), .val (.int (15 : Int32)), .val (.int x), .val (.int (7 : Int32))]) (rest := []) w100 d7_21 rfl rfl rfl ?_
          refine ggoto (pc' := 10) w100 d7_24 (by decide) rfl ?_
          refine giload (pc' := 12) (Ls := #[.val (.ref b), .val (.int (3 : Int32)), .val (.int (15 : Int32)), .val (.int x), .val (.int (7 : Int32))]) (rest := []) w100 d7_10 rfl rfl ?_
          refine giloadN (pc' := 13) (Ls := #[.val (.ref b), .val (.int (3 : Int32)), .val (.int (15 : Int32)), .val (.int x), .val (.int (7 : Int32))]) (rest := [(.int (7 : Int32))]) w100 d7_12 rfl rfl ?_
          refine gicmp (pt := 27) (pf := 16) w100 d7_13  (by decide) rfl rfl (fun (c13_4 : ¬ (7 : Int32) < (15 : Int32)) => ?_) (fun (c13_4 : (7 : Int32) < (15 : Int32)) => ?_)
          · exact absurd c13_4 (by decide)
          · refine galoadN (pc' := 17) (Ls := #[.val (.ref b), .val (.int (3 : Int32)), .val (.int (15 : Int32)), .val (.int x), .val (.int (7 : Int32))]) (rest := []) w100 d7_16 rfl rfl rfl ?_
            refine giload (pc' := 19) (Ls := #[.val (.ref b), .val (.int (3 : Int32)), .val (.int (15 : Int32)), .val (.int x), .val (.int (7 : Int32))]) (rest := [(.ref b)]) w100 d7_17 rfl rfl ?_
            refine giloadN (pc' := 20) (Ls := #[.val (.ref b), .val (.int (3 : Int32)), .val (.int (15 : Int32)), .val (.int x), .val (.int (7 : Int32))]) (rest := [(.int (7 : Int32)), (.ref b)]) w100 d7_19 rfl rfl ?_
            refine giastore (pc' := 21) (x' := x) w100 d7_20 rfl V103 (by decide) (7) rfl (by first | exact (by rw [hl]; decide) | (simp only [List.length_set]; exact (by rw [hl]; decide))) gb rfl (fun T105 h106 w107 W108 V109 => ?_)
            have V110 : Arv Z h106 b kb .int (15 : Int32) (((((vs.set 3 (.int x)).set 4 (.int x)).set 5 (.int x)).set 6 (.int x)).set 7 (.int x)) dv := V109
            have K111 := K104.wr W108 (Or.inl (List.mem_singleton.mpr rfl))
            refine giinc (pc' := 24) (Ls := #[.val (.ref b), .val (.int (3 : Int32)), .val (.int (15 : Int32)), .val (.int x), .val (.int (7 : Int32))]) (Ls' := #[.val (.ref b), .val (.int (3 : Int32)), .val (.int (15 : Int32)), .val (.int x), .val (.int (8 : Int32))]) (rest := []) w107 d7_21 rfl rfl rfl ?_
            refine ggoto (pc' := 10) w107 d7_24 (by decide) rfl ?_
            refine giload (pc' := 12) (Ls := #[.val (.ref b), .val (.int (3 : Int32)), .val (.int (15 : Int32)), .val (.int x), .val (.int (8 : Int32))]) (rest := []) w107 d7_10 rfl rfl ?_
            refine giloadN (pc' := 13) (Ls := #[.val (.ref b), .val (.int (3 : Int32)), .val (.int (15 : Int32)), .val (.int x), .val (.int (8 : Int32))]) (rest := [(.int (8 : Int32))]) w107 d7_12 rfl rfl ?_
            refine gicmp (pt := 27) (pf := 16) w107 d7_13  (by decide) rfl rfl (fun (c13_5 : ¬ (8 : Int32) < (15 : Int32)) => ?_) (fun (c13_5 : (8 : Int32) < (15 : Int32)) => ?_)
            · exact absurd c13_5 (by decide)
            · refine galoadN (pc' := 17) (Ls := #[.val (.ref b), .val (.int (3 : Int32)), .val (.int (15 : Int32)), .val (.int x), .val (.int (8 : Int32))]) (rest := []) w107 d7_16 rfl rfl rfl ?_
              refine giload (pc' := 19) (Ls := #[.val (.ref b), .val (.int (3 : Int32)), .val (.int (15 : Int32)), .val (.int x), .val (.int (8 : Int32))]) (rest := [(.ref b)]) w107 d7_17 rfl rfl ?_
              refine giloadN (pc' := 20) (Ls := #[.val (.ref b), .val (.int (3 : Int32)), .val (.int (15 : Int32)), .val (.int x), .val (.int (8 : Int32))]) (rest := [(.int (8 : Int32)), (.ref b)]) w107 d7_19 rfl rfl ?_
              refine giastore (pc' := 21) (x' := x) w107 d7_20 rfl V110 (by decide) (8) rfl (by first | exact (by rw [hl]; decide) | (simp only [List.length_set]; exact (by rw [hl]; decide))) gb rfl (fun T112 h113 w114 W115 V116 => ?_)
              have V117 : Arv Z h113 b kb .int (15 : Int32) ((((((vs.set 3 (.int x)).set 4 (.int x)).set 5 (.int x)).set 6 (.int x)).set 7 (.int x)).set 8 (.int x)) dv := V116
              have K118 := K111.wr W115 (Or.inl (List.mem_singleton.mpr rfl))
              refine giinc (pc' := 24) (Ls := #[.val (.ref b), .val (.int (3 : Int32)), .val (.int (15 : Int32)), .val (.int x), .val (.int (8 : Int32))]) (Ls' := #[.val (.ref b), .val (.int (3 : Int32)), .val (.int (15 : Int32)), .val (.int x), .val (.int (9 : Int32))]) (rest := []) w114 d7_21 rfl rfl rfl ?_
              refine ggoto (pc' := 10) w114 d7_24 (by decide) rfl ?_
              refine giload (pc' := 12) (Ls := #[.val (.ref b), .val (.int (3 : Int32)), .val (.int (15 : Int32)), .val (.int x), .val (.int (9 : Int32))]) (rest := []) w114 d7_10 rfl rfl ?_
              refine giloadN (pc' := 13) (Ls := #[.val (.ref b), .val (.int (3 : Int32)), .val (.int (15 : Int32)), .val (.int x), .val (.int (9 : Int32))]) (rest := [(.int (9 : Int32))]) w114 d7_12 rfl rfl ?_
              refine gicmp (pt := 27) (pf := 16) w114 d7_13  (by decide) rfl rfl (fun (c13_6 : ¬ (9 : Int32) < (15 : Int32)) => ?_) (fun (c13_6 : (9 : Int32) < (15 : Int32)) => ?_)
              · exact absurd c13_6 (by decide)
              · refine galoadN (pc' := 17) (Ls := #[.val (.ref b), .val (.int (3 : Int32)), .val (.int (15 : Int32)), .val (.int x), .val (.int (9 : Int32))]) (rest := []) w114 d7_16 rfl rfl rfl ?_
                refine giload (pc' := 19) (Ls := #[.val (.ref b), .val (.int (3 : Int32)), .val (.int (15 : Int32)), .val (.int x), .val (.int (9 : Int32))]) (rest := [(.ref b)]) w114 d7_17 rfl rfl ?_
                refine giloadN (pc' := 20) (Ls := #[.val (.ref b), .val (.int (3 : Int32)), .val (.int (15 : Int32)), .val (.int x), .val (.int (9 : Int32))]) (rest := [(.int (9 : Int32)), (.ref b)]) w114 d7_19 rfl rfl ?_
                refine giastore (pc' := 21) (x' := x) w114 d7_20 rfl V117 (by decide) (9) rfl (by first | exact (by rw [hl]; decide) | (simp only [List.length_set]; exact (by rw [hl]; decide))) gb rfl (fun T119 h120 w121 W122 V123 => ?_)
                have V124 : Arv Z h120 b kb .int (15 : Int32) (((((((vs.set 3 (.int x)).set 4 (.int x)).set 5 (.int x)).set 6 (.int x)).set 7 (.int x)).set 8 (.int x)).set 9 (.int x)) dv := V123
                have K125 := K118.wr W122 (Or.inl (List.mem_singleton.mpr rfl))
                refine giinc (pc' := 24) (Ls := #[.val (.ref b), .val (.int (3 : Int32)), .val (.int (15 : Int32)), .val (.int x), .val (.int (9 : Int32))]) (Ls' := #[.val (.ref b), .val (.int (3 : Int32)), .val (.int (15 : Int32)), .val (.int x), .val (.int (10 : Int32))]) (rest := []) w121 d7_21 rfl rfl rfl ?_
                refine ggoto (pc' := 10) w121 d7_24 (by decide) rfl ?_
                refine giload (pc' := 12) (Ls := #[.val (.ref b), .val (.int (3 : Int32)), .val (.int (15 : Int32)), .val (.int x), .val (.int (10 : Int32))]) (rest := []) w121 d7_10 rfl rfl ?_
                refine giloadN (pc' := 13) (Ls := #[.val (.ref b), .val (.int (3 : Int32)), .val (.int (15 : Int32)), .val (.int x), .val (.int (10 : Int32))]) (rest := [(.int (10 : Int32))]) w121 d7_12 rfl rfl ?_
                refine gicmp (pt := 27) (pf := 16) w121 d7_13  (by decide) rfl rfl (fun (c13_7 : ¬ (10 : Int32) < (15 : Int32)) => ?_) (fun (c13_7 : (10 : Int32) < (15 : Int32)) => ?_)
                · exact absurd c13_7 (by decide)
                · refine galoadN (pc' := 17) (Ls := #[.val (.ref b), .val (.int (3 : Int32)), .val (.int (15 : Int32)), .val (.int x), .val (.int (10 : Int32))]) (rest := []) w121 d7_16 rfl rfl rfl ?_
                  refine giload (pc' := 19) (Ls := #[.val (.ref b), .val (.int (3 : Int32)), .val (.int (15 : Int32)), .val (.int x), .val (.int (10 : Int32))]) (rest := [(.ref b)]) w121 d7_17 rfl rfl ?_
                  refine giloadN (pc' := 20) (Ls := #[.val (.ref b), .val (.int (3 : Int32)), .val (.int (15 : Int32)), .val (.int x), .val (.int (10 : Int32))]) (rest := [(.int (10 : Int32)), (.ref b)]) w121 d7_19 rfl rfl ?_
                  refine giastore (pc' := 21) (x' := x) w121 d7_20 rfl V124 (by decide) (10) rfl (by first | exact (by rw [hl]; decide) | (simp only [List.length_set]; exact (by rw [hl]; decide))) gb rfl (fun T126 h127 w128 W129 V130 => ?_)
                  have V131 : Arv Z h127 b kb .int (15 : Int32) ((((((((vs.set 3 (.int x)).set 4 (.int x)).set 5 (.int x)).set 6 (.int x)).set 7 (.int x)).set 8 (.int x)).set 9 (.int x)).set 10 (.int x)) dv := V130
                  have K132 := K125.wr W129 (Or.inl (List.mem_singleton.mpr rfl))
                  refine giinc (pc' := 24) (Ls := #[.val (.ref b), .val (.int (3 : Int32)), .val (.int (15 : Int32)), .val (.int x), .val (.int (10 : Int32))]) (Ls' := #[.val (.ref b), .val (.int (3 : Int32)), .val (.int (15 : Int32)), .val (.int x), .val (.int (11 : Int32))]) (rest := []) w128 d7_21 rfl rfl rfl ?_
                  refine ggoto (pc' := 10) w128 d7_24 (by decide) rfl ?_
                  refine giload (pc' := 12) (Ls := #[.val (.ref b), .val (.int (3 : Int32)), .val (.int (15 : Int32)), .val (.int x), .val (.int (11 : Int32))]) (rest := []) w128 d7_10 rfl rfl ?_
                  refine giloadN (pc' := 13) (Ls := #[.val (.ref b), .val (.int (3 : Int32)), .val (.int (15 : Int32)), .val (.int x), .val (.int (11 : Int32))]) (rest := [(.int (11 : Int32))]) w128 d7_12 rfl rfl ?_
                  refine gicmp (pt := 27) (pf := 16) w128 d7_13  (by decide) rfl rfl (fun (c13_8 : ¬ (11 : Int32) < (15 : Int32)) => ?_) (fun (c13_8 : (11 : Int32) < (15 : Int32)) => ?_)
                  · exact absurd c13_8 (by decide)
                  · refine galoadN (pc' := 17) (Ls := #[.val (.ref b), .val (.int (3 : Int32)), .val (.int (15 : Int32)), .val (.int x), .val (.int (11 : Int32))]) (rest := []) w128 d7_16 rfl rfl rfl ?_
                    refine giload (pc' := 19) (Ls := #[.val (.ref b), .val (.int (3 : Int32)), .val (.int (15 : Int32)), .val (.int x), .val (.int (11 : Int32))]) (rest := [(.ref b)]) w128 d7_17 rfl rfl ?_
                    refine giloadN (pc' := 20) (Ls := #[.val (.ref b), .val (.int (3 : Int32)), .val (.int (15 : Int32)), .val (.int x), .val (.int (11 : Int32))]) (rest := [(.int (11 : Int32)), (.ref b)]) w128 d7_19 rfl rfl ?_
                    refine giastore (pc' := 21) (x' := x) w128 d7_20 rfl V131 (by decide) (11) rfl (by first | exact (by rw [hl]; decide) | (simp only [List.length_set]; exact (by rw [hl]; decide))) gb rfl (fun T133 h134 w135 W136 V137 => ?_)
                    have V138 : Arv Z h134 b kb .int (15 : Int32) (((((((((vs.set 3 (.int x)).set 4 (.int x)).set 5 (.int x)).set 6 (.int x)).set 7 (.int x)).set 8 (.int x)).set 9 (.int x)).set 10 (.int x)).set 11 (.int x)) dv := V137
                    have K139 := K132.wr W136 (Or.inl (List.mem_singleton.mpr rfl))
                    refine giinc (pc' := 24) (Ls := #[.val (.ref b), .val (.int (3 : Int32)), .val (.int (15 : Int32)), .val (.int x), .val (.int (11 : Int32))]) (Ls' := #[.val (.ref b), .val (.int (3 : Int32)), .val (.int (15 : Int32)), .val (.int x), .val (.int (12 : Int32))]) (rest := []) w135 d7_21 rfl rfl rfl ?_
                    refine ggoto (pc' := 10) w135 d7_24 (by decide) rfl ?_
                    refine giload (pc' := 12) (Ls := #[.val (.ref b), .val (.int (3 : Int32)), .val (.int (15 : Int32)), .val (.int x), .val (.int (12 : Int32))]) (rest := []) w135 d7_10 rfl rfl ?_
                    refine giloadN (pc' := 13) (Ls := #[.val (.ref b), .val (.int (3 : Int32)), .val (.int (15 : Int32)), .val (.int x), .val (.int (12 : Int32))]) (rest := [(.int (12 : Int32))]) w135 d7_12 rfl rfl ?_
                    refine gicmp (pt := 27) (pf := 16) w135 d7_13  (by decide) rfl rfl (fun (c13_9 : ¬ (12 : Int32) < (15 : Int32)) => ?_) (fun (c13_9 : (12 : Int32) < (15 : Int32)) => ?_)
                    · exact absurd c13_9 (by decide)
                    · refine galoadN (pc' := 17) (Ls := #[.val (.ref b), .val (.int (3 : Int32)), .val (.int (15 : Int32)), .val (.int x), .val (.int (12 : Int32))]) (rest := []) w135 d7_16 rfl rfl rfl ?_
                      refine giload (pc' := 19) (Ls := #[.val (.ref b), .val (.int (3 : Int32)), .val (.int (15 : Int32)), .val (.int x), .val (.int (12 : Int32))]) (rest := [(.ref b)]) w135 d7_17 rfl rfl ?_
                      refine giloadN (pc' := 20) (Ls := #[.val (.ref b), .val (.int (3 : Int32)), .val (.int (15 : Int32)), .val (.int x), .val (.int (12 : Int32))]) (rest := [(.int (12 : Int32)), (.ref b)]) w135 d7_19 rfl rfl ?_
                      refine giastore (pc' := 21) (x' := x) w135 d7_20 rfl V138 (by decide) (12) rfl (by first | exact (by rw [hl]; decide) | (simp only [List.length_set]; exact (by rw [hl]; decide))) gb rfl (fun T140 h141 w142 W143 V144 => ?_)
                      have V145 : Arv Z h141 b kb .int (15 : Int32) ((((((((((vs.set 3 (.int x)).set 4 (.int x)).set 5 (.int x)).set 6 (.int x)).set 7 (.int x)).set 8 (.int x)).set 9 (.int x)).set 10 (.int x)).set 11 (.int x)).set 12 (.int x)) dv := V144
                      have K146 := K139.wr W143 (Or.inl (List.mem_singleton.mpr rfl))
                      refine giinc (pc' := 24) (Ls := #[.val (.ref b), .val (.int (3 : Int32)), .val (.int (15 : Int32)), .val (.int x), .val (.int (12 : Int32))]) (Ls' := #[.val (.ref b), .val (.int (3 : Int32)), .val (.int (15 : Int32)), .val (.int x), .val (.int (13 : Int32))]) (rest := []) w142 d7_21 rfl rfl rfl ?_
                      refine ggoto (pc' := 10) w142 d7_24 (by decide) rfl ?_
                      refine giload (pc' := 12) (Ls := #[.val (.ref b), .val (.int (3 : Int32)), .val (.int (15 : Int32)), .val (.int x), .val (.int (13 : Int32))]) (rest := []) w142 d7_10 rfl rfl ?_
                      refine giloadN (pc' := 13) (Ls := #[.val (.ref b), .val (.int (3 : Int32)), .val (.int (15 : Int32)), .val (.int x), .val (.int (13 : Int32))]) (rest := [(.int (13 : Int32))]) w142 d7_12 rfl rfl ?_
                      refine gicmp (pt := 27) (pf := 16) w142 d7_13  (by decide) rfl rfl (fun (c13_10 : ¬ (13 : Int32) < (15 : Int32)) => ?_) (fun (c13_10 : (13 : Int32) < (15 : Int32)) => ?_)
                      · exact absurd c13_10 (by decide)
                      · refine galoadN (pc' := 17) (Ls := #[.val (.ref b), .val (.int (3 : Int32)), .val (.int (15 : Int32)), .val (.int x), .val (.int (13 : Int32))]) (rest := []) w142 d7_16 rfl rfl rfl ?_
                        refine giload (pc' := 19) (Ls := #[.val (.ref b), .val (.int (3 : Int32)), .val (.int (15 : Int32)), .val (.int x), .val (.int (13 : Int32))]) (rest := [(.ref b)]) w142 d7_17 rfl rfl ?_
                        refine giloadN (pc' := 20) (Ls := #[.val (.ref b), .val (.int (3 : Int32)), .val (.int (15 : Int32)), .val (.int x), .val (.int (13 : Int32))]) (rest := [(.int (13 : Int32)), (.ref b)]) w142 d7_19 rfl rfl ?_
                        refine giastore (pc' := 21) (x' := x) w142 d7_20 rfl V145 (by decide) (13) rfl (by first | exact (by rw [hl]; decide) | (simp only [List.length_set]; exact (by rw [hl]; decide))) gb rfl (fun T147 h148 w149 W150 V151 => ?_)
                        have V152 : Arv Z h148 b kb .int (15 : Int32) (((((((((((vs.set 3 (.int x)).set 4 (.int x)).set 5 (.int x)).set 6 (.int x)).set 7 (.int x)).set 8 (.int x)).set 9 (.int x)).set 10 (.int x)).set 11 (.int x)).set 12 (.int x)).set 13 (.int x)) dv := V151
                        have K153 := K146.wr W150 (Or.inl (List.mem_singleton.mpr rfl))
                        refine giinc (pc' := 24) (Ls := #[.val (.ref b), .val (.int (3 : Int32)), .val (.int (15 : Int32)), .val (.int x), .val (.int (13 : Int32))]) (Ls' := #[.val (.ref b), .val (.int (3 : Int32)), .val (.int (15 : Int32)), .val (.int x), .val (.int (14 : Int32))]) (rest := []) w149 d7_21 rfl rfl rfl ?_
                        refine ggoto (pc' := 10) w149 d7_24 (by decide) rfl ?_
                        refine giload (pc' := 12) (Ls := #[.val (.ref b), .val (.int (3 : Int32)), .val (.int (15 : Int32)), .val (.int x), .val (.int (14 : Int32))]) (rest := []) w149 d7_10 rfl rfl ?_
                        refine giloadN (pc' := 13) (Ls := #[.val (.ref b), .val (.int (3 : Int32)), .val (.int (15 : Int32)), .val (.int x), .val (.int (14 : Int32))]) (rest := [(.int (14 : Int32))]) w149 d7_12 rfl rfl ?_
                        refine gicmp (pt := 27) (pf := 16) w149 d7_13  (by decide) rfl rfl (fun (c13_11 : ¬ (14 : Int32) < (15 : Int32)) => ?_) (fun (c13_11 : (14 : Int32) < (15 : Int32)) => ?_)
                        · exact absurd c13_11 (by decide)
                        · refine galoadN (pc' := 17) (Ls := #[.val (.ref b), .val (.int (3 : Int32)), .val (.int (15 : Int32)), .val (.int x), .val (.int (14 : Int32))]) (rest := []) w149 d7_16 rfl rfl rfl ?_
                          refine giload (pc' := 19) (Ls := #[.val (.ref b), .val (.int (3 : Int32)), .val (.int (15 : Int32)), .val (.int x), .val (.int (14 : Int32))]) (rest := [(.ref b)]) w149 d7_17 rfl rfl ?_
                          refine giloadN (pc' := 20) (Ls := #[.val (.ref b), .val (.int (3 : Int32)), .val (.int (15 : Int32)), .val (.int x), .val (.int (14 : Int32))]) (rest := [(.int (14 : Int32)), (.ref b)]) w149 d7_19 rfl rfl ?_
                          refine giastore (pc' := 21) (x' := x) w149 d7_20 rfl V152 (by decide) (14) rfl (by first | exact (by rw [hl]; decide) | (simp only [List.length_set]; exact (by rw [hl]; decide))) gb rfl (fun T154 h155 w156 W157 V158 => ?_)
                          have V159 : Arv Z h155 b kb .int (15 : Int32) ((((((((((((vs.set 3 (.int x)).set 4 (.int x)).set 5 (.int x)).set 6 (.int x)).set 7 (.int x)).set 8 (.int x)).set 9 (.int x)).set 10 (.int x)).set 11 (.int x)).set 12 (.int x)).set 13 (.int x)).set 14 (.int x)) dv := V158
                          have K160 := K153.wr W157 (Or.inl (List.mem_singleton.mpr rfl))
                          refine giinc (pc' := 24) (Ls := #[.val (.ref b), .val (.int (3 : Int32)), .val (.int (15 : Int32)), .val (.int x), .val (.int (14 : Int32))]) (Ls' := #[.val (.ref b), .val (.int (3 : Int32)), .val (.int (15 : Int32)), .val (.int x), .val (.int (15 : Int32))]) (rest := []) w156 d7_21 rfl rfl rfl ?_
                          refine ggoto (pc' := 10) w156 d7_24 (by decide) rfl ?_
                          refine giload (pc' := 12) (Ls := #[.val (.ref b), .val (.int (3 : Int32)), .val (.int (15 : Int32)), .val (.int x), .val (.int (15 : Int32))]) (rest := []) w156 d7_10 rfl rfl ?_
                          refine giloadN (pc' := 13) (Ls := #[.val (.ref b), .val (.int (3 : Int32)), .val (.int (15 : Int32)), .val (.int x), .val (.int (15 : Int32))]) (rest := [(.int (15 : Int32))]) w156 d7_12 rfl rfl ?_
                          refine gicmp (pt := 27) (pf := 16) w156 d7_13  (by decide) rfl rfl (fun (c13_12 : ¬ (15 : Int32) < (15 : Int32)) => ?_) (fun (c13_12 : (15 : Int32) < (15 : Int32)) => ?_)
                          · exact gret0 w156 d7_27 (by decide) (by decide) ⟨rfl, K160, _, (by simp only [List.length_set]; exact hl), V159⟩
                          · exact absurd c13_12 (by decide)
set_option maxRecDepth 65536 in
set_option maxHeartbeats 4000000 in
theorem own_rck0_3 (hw : ∀ d ∈ tables_1, d.before a0 Z = true)  :
    Ctr l (⟨"java/util/Arrays", "rangeCheck", "(III)V"⟩ : MethodName) jdk_65_method_30_code 3 none ({ frames := 0, cells := 0, slots := 0, locals := 0 } : Room) Z #[(.int (15 : Int32)), (.int (0 : Int32)), (.int (3 : Int32))] h n0 (fun v h' => v = none ∧ h' = h) [] := by
  refine metGo (Ls := #[.val (.int (15 : Int32)), .val (.int (0 : Int32)), .val (.int (3 : Int32))]) pn_d8 (fun m => by first | rfl | (simp [entryFrame, mkF, argsToLocals, Value.category]; done) | (simp [entryFrame, mkF, argsToLocals, Value.category, maxLocals]; done)) ?_
  intro p e s m below meth c T w
  refine giloadN (pc' := 1) (Ls := #[.val (.int (15 : Int32)), .val (.int (0 : Int32)), .val (.int (3 : Int32))]) (rest := []) w d8_0 rfl rfl ?_
  refine giloadN (pc' := 2) (Ls := #[.val (.int (15 : Int32)), .val (.int (0 : Int32)), .val (.int (3 : Int32))]) (rest := [(.int (0 : Int32))]) w d8_1 rfl rfl ?_
  refine gicmp (pt := 46) (pf := 5) w d8_2  (by decide) rfl rfl (fun (c2 : ¬ (3 : Int32) < (0 : Int32)) => ?_) (fun (c2 : (3 : Int32) < (0 : Int32)) => ?_)
  · refine giloadN (pc' := 47) (Ls := #[.val (.int (15 : Int32)), .val (.int (0 : Int32)), .val (.int (3 : Int32))]) (rest := []) w d8_46 rfl rfl ?_
    refine gif (pt := 59) (pf := 50) w d8_47  (by decide) rfl rfl (fun (c47 : ¬ (0 : Int32) < (0 : Int32)) => ?_) (fun (c47 : (0 : Int32) < (0 : Int32)) => ?_)
    · refine giloadN (pc' := 60) (Ls := #[.val (.int (15 : Int32)), .val (.int (0 : Int32)), .val (.int (3 : Int32))]) (rest := []) w d8_59 rfl rfl ?_
      refine giloadN (pc' := 61) (Ls := #[.val (.int (15 : Int32)), .val (.int (0 : Int32)), .val (.int (3 : Int32))]) (rest := [(.int (3 : Int32))]) w d8_60 rfl rfl ?_
      refine gicmp (pt := 73) (pf := 64) w d8_61  (by decide) rfl rfl (fun (c61 : ¬ (15 : Int32) < (3 : Int32)) => ?_) (fun (c61 : (15 : Int32) < (3 : Int32)) => ?_)
      · exact gret0 w d8_73 (by decide) (by decide) ⟨rfl, rfl⟩
      · exact absurd c61 (by decide)
    · exact absurd c47 (by decide)
  · exact absurd c2 (by decide)
set_option maxRecDepth 65536 in
set_option maxHeartbeats 4000000 in
theorem own_fill0_3 (hw : ∀ d ∈ tables_1, d.before a0 Z = true) (b : Addr) (x : Int32) (kb : ClassId) (vs : List Value) (dv : Value) (hl : vs.length = 15) (gb : n0 ≤ b) (V : Arv Z h b kb .int (15 : Int32) vs dv) :
    Ctr l (⟨"java/util/Arrays", "fill", "([IIII)V"⟩ : MethodName) jdk_65_method_104_code 5 none ({ frames := 1, cells := 0, slots := 0, locals := 16 } : Room) Z #[(.ref b), (.int (0 : Int32)), (.int (3 : Int32)), (.int x)] h n0 (fun v h' => v = none ∧ Keep h h' [b] ∧ ∃ vs', vs'.length = 15 ∧ Arv Z h' b kb .int (15 : Int32) vs' dv) [] := by
  refine metGo (Ls := #[.val (.ref b), .val (.int (0 : Int32)), .val (.int (3 : Int32)), .val (.int x), .unset]) pn_d7 (fun m => by first | rfl | (simp [entryFrame, mkF, argsToLocals, Value.category]; done) | (simp [entryFrame, mkF, argsToLocals, Value.category, maxLocals]; done)) ?_
  intro p e s m below meth c T w
  refine galoadN (pc' := 1) (Ls := #[.val (.ref b), .val (.int (0 : Int32)), .val (.int (3 : Int32)), .val (.int x), .unset]) (rest := []) w d7_0 rfl rfl rfl ?_
  refine glen (pc' := 2) w d7_1 V rfl ?_
  refine giloadN (pc' := 3) (Ls := #[.val (.ref b), .val (.int (0 : Int32)), .val (.int (3 : Int32)), .val (.int x), .unset]) (rest := [(.int (15 : Int32))]) w d7_2 rfl rfl ?_
  refine giloadN (pc' := 4) (Ls := #[.val (.ref b), .val (.int (0 : Int32)), .val (.int (3 : Int32)), .val (.int x), .unset]) (rest := [(.int (0 : Int32)), (.int (15 : Int32))]) w d7_3 rfl rfl ?_
  refine gcallS (pc' := 7) (argsL := [(.int (15 : Int32)), (.int (0 : Int32)), (.int (3 : Int32))]) (rest := []) (Wt := 0) w d7_4 (hw _ (List.mem_of_getElem? (i := 62) rfl)) (hw _ (List.mem_of_getElem? (i := 63) rfl)) (hw _ (List.mem_of_getElem? (i := 60) rfl)) (hw _ (List.mem_of_getElem? (i := 64) rfl)) (by decide) pd_d8 (own_rck0_3 hw) rfl rfl rfl rfl (Nat.le_of_eq rfl) (by decide) (by decide) (by decide) (by decide) rfl (fun v161 T162 h163 w164 q165 => ?_)
  obtain ⟨rfl, eh⟩ := q165
  show Go _ _ _ _ _ _ _ _ _ (mkF m 7 #[.val (.ref b), .val (.int (0 : Int32)), .val (.int (3 : Int32)), .val (.int x), .unset] [])
  rw [eh] at w164
  refine giloadN (pc' := 8) (Ls := #[.val (.ref b), .val (.int (0 : Int32)), .val (.int (3 : Int32)), .val (.int x), .unset]) (rest := []) w164 d7_7 rfl rfl ?_
  refine gistore (pc' := 10) (Ls := #[.val (.ref b), .val (.int (0 : Int32)), .val (.int (3 : Int32)), .val (.int x), .unset]) (Ls' := #[.val (.ref b), .val (.int (0 : Int32)), .val (.int (3 : Int32)), .val (.int x), .val (.int (0 : Int32))]) (rest := []) w164 d7_8 rfl rfl ?_
  refine giload (pc' := 12) (Ls := #[.val (.ref b), .val (.int (0 : Int32)), .val (.int (3 : Int32)), .val (.int x), .val (.int (0 : Int32))]) (rest := []) w164 d7_10 rfl rfl ?_
  refine giloadN (pc' := 13) (Ls := #[.val (.ref b), .val (.int (0 : Int32)), .val (.int (3 : Int32)), .val (.int x), .val (.int (0 : Int32))]) (rest := [(.int (0 : Int32))]) w164 d7_12 rfl rfl ?_
  refine gicmp (pt := 27) (pf := 16) w164 d7_13  (by decide) rfl rfl (fun (c13 : ¬ (0 : Int32) < (3 : Int32)) => ?_) (fun (c13 : (0 : Int32) < (3 : Int32)) => ?_)
  · exact absurd c13 (by decide)
  · refine galoadN (pc' := 17) (Ls := #[.val (.ref b), .val (.int (0 : Int32)), .val (.int (3 : Int32)), .val (.int x), .val (.int (0 : Int32))]) (rest := []) w164 d7_16 rfl rfl rfl ?_
    refine giload (pc' := 19) (Ls := #[.val (.ref b), .val (.int (0 : Int32)), .val (.int (3 : Int32)), .val (.int x), .val (.int (0 : Int32))]) (rest := [(.ref b)]) w164 d7_17 rfl rfl ?_
    refine giloadN (pc' := 20) (Ls := #[.val (.ref b), .val (.int (0 : Int32)), .val (.int (3 : Int32)), .val (.int x), .val (.int (0 : Int32))]) (rest := [(.int (0 : Int32)), (.ref b)]) w164 d7_19 rfl rfl ?_
    refine giastore (pc' := 21) (x' := x) w164 d7_20 rfl V (by decide) (0) rfl (by first | exact (by rw [hl]; decide) | (simp only [List.length_set]; exact (by rw [hl]; decide))) gb rfl (fun T166 h167 w168 W169 V170 => ?_)
    have V171 : Arv Z h167 b kb .int (15 : Int32) (vs.set 0 (.int x)) dv := V170
    have K172 := (Keep.refl h [b]).wr W169 (Or.inl (List.mem_singleton.mpr rfl))
    refine giinc (pc' := 24) (Ls := #[.val (.ref b), .val (.int (0 : Int32)), .val (.int (3 : Int32)), .val (.int x), .val (.int (0 : Int32))]) (Ls' := #[.val (.ref b), .val (.int (0 : Int32)), .val (.int (3 : Int32)), .val (.int x), .val (.int (1 : Int32))]) (rest := []) w168 d7_21 rfl rfl rfl ?_
    refine ggoto (pc' := 10) w168 d7_24 (by decide) rfl ?_
    refine giload (pc' := 12) (Ls := #[.val (.ref b), .val (.int (0 : Int32)), .val (.int (3 : Int32)), .val (.int x), .val (.int (1 : Int32))]) (rest := []) w168 d7_10 rfl rfl ?_
    refine giloadN (pc' := 13) (Ls := #[.val (.ref b), .val (.int (0 : Int32)), .val (.int (3 : Int32)), .val (.int x), .val (.int (1 : Int32))]) (rest := [(.int (1 : Int32))]) w168 d7_12 rfl rfl ?_
    refine gicmp (pt := 27) (pf := 16) w168 d7_13  (by decide) rfl rfl (fun (c13_1 : ¬ (1 : Int32) < (3 : Int32)) => ?_) (fun (c13_1 : (1 : Int32) < (3 : Int32)) => ?_)
    · exact absurd c13_1 (by decide)
    · refine galoadN (pc' := 17) (Ls := #[.val (.ref b), .val (.int (0 : Int32)), .val (.int (3 : Int32)), .val (.int x), .val (.int (1 : Int32))]) (rest := []) w168 d7_16 rfl rfl rfl ?_
      refine giload (pc' := 19) (Ls := #[.val (.ref b), .val (.int (0 : Int32)), .val (.int (3 : Int32)), .val (.int x), .val (.int (1 : Int32))]) (rest := [(.ref b)]) w168 d7_17 rfl rfl ?_
      refine giloadN (pc' := 20) (Ls := #[.val (.ref b), .val (.int (0 : Int32)), .val (.int (3 : Int32)), .val (.int x), .val (.int (1 : Int32))]) (rest := [(.int (1 : Int32)), (.ref b)]) w168 d7_19 rfl rfl ?_
      refine giastore (pc' := 21) (x' := x) w168 d7_20 rfl V171 (by decide) (1) rfl (by first | exact (by rw [hl]; decide) | (simp only [List.length_set]; exact (by rw [hl]; decide))) gb rfl (fun T173 h174 w175 W176 V177 => ?_)
      have V178 : Arv Z h174 b kb .int (15 : Int32) ((vs.set 0 (.int x)).set 1 (.int x)) dv := V177
      have K179 := K172.wr W176 (Or.inl (List.mem_singleton.mpr rfl))
      refine giinc (pc' := 24) (Ls := #[.val (.ref b), .val (.int (0 : Int32)), .val (.int (3 : Int32)), .val (.int x), .val (.int (1 : Int32))]) (Ls' := #[.val (.ref b), .val (.int (0 : Int32)), .val (.int (3 : Int32)), .val (.int x), .val (.int (2 : Int32))]) (rest := []) w175 d7_21 rfl rfl rfl ?_
      refine ggoto (pc' := 10) w175 d7_24 (by decide) rfl ?_
      refine giload (pc' := 12) (Ls := #[.val (.ref b), .val (.int (0 : Int32)), .val (.int (3 : Int32)), .val (.int x), .val (.int (2 : Int32))]) (rest := []) w175 d7_10 rfl rfl ?_
      refine giloadN (pc' := 13) (Ls := #[.val (.ref b), .val (.int (0 : Int32)), .val (.int (3 : Int32)), .val (.int x), .val (.int (2 : Int32))]) (rest := [(.int (2 : Int32))]) w175 d7_12 rfl rfl ?_
      refine gicmp (pt := 27) (pf := 16) w175 d7_13  (by decide) rfl rfl (fun (c13_2 : ¬ (2 : Int32) < (3 : Int32)) => ?_) (fun (c13_2 : (2 : Int32) < (3 : Int32)) => ?_)
      · exact absurd c13_2 (by decide)
      · refine galoadN (pc' := 17) (Ls := #[.val (.ref b), .val (.int (0 : Int32)), .val (.int (3 : Int32)), .val (.int x), .val (.int (2 : Int32))]) (rest := []) w175 d7_16 rfl rfl rfl ?_
        refine giload (pc' := 19) (Ls := #[.val (.ref b), .val (.int (0 : Int32)), .val (.int (3 : Int32)), .val (.int x), .val (.int (2 : Int32))]) (rest := [(.ref b)]) w175 d7_17 rfl rfl ?_
        refine giloadN (pc' := 20) (Ls := #[.val (.ref b), .val (.int (0 : Int32)), .val (.int (3 : Int32)), .val (.int x), .val (.int (2 : Int32))]) (rest := [(.int (2 : Int32)), (.ref b)]) w175 d7_19 rfl rfl ?_
        refine giastore (pc' := 21) (x' := x) w175 d7_20 rfl V178 (by decide) (2) rfl (by first | exact (by rw [hl]; decide) | (simp only [List.length_set]; exact (by rw [hl]; decide))) gb rfl (fun T180 h181 w182 W183 V184 => ?_)
        have V185 : Arv Z h181 b kb .int (15 : Int32) (((vs.set 0 (.int x)).set 1 (.int x)).set 2 (.int x)) dv := V184
        have K186 := K179.wr W183 (Or.inl (List.mem_singleton.mpr rfl))
        refine giinc (pc' := 24) (Ls := #[.val (.ref b), .val (.int (0 : Int32)), .val (.int (3 : Int32)), .val (.int x), .val (.int (2 : Int32))]) (Ls' := #[.val (.ref b), .val (.int (0 : Int32)), .val (.int (3 : Int32)), .val (.int x), .val (.int (3 : Int32))]) (rest := []) w182 d7_21 rfl rfl rfl ?_
        refine ggoto (pc' := 10) w182 d7_24 (by decide) rfl ?_
        refine giload (pc' := 12) (Ls := #[.val (.ref b), .val (.int (0 : Int32)), .val (.int (3 : Int32)), .val (.int x), .val (.int (3 : Int32))]) (rest := []) w182 d7_10 rfl rfl ?_
        refine giloadN (pc' := 13) (Ls := #[.val (.ref b), .val (.int (0 : Int32)), .val (.int (3 : Int32)), .val (.int x), .val (.int (3 : Int32))]) (rest := [(.int (3 : Int32))]) w182 d7_12 rfl rfl ?_
        refine gicmp (pt := 27) (pf := 16) w182 d7_13  (by decide) rfl rfl (fun (c13_3 : ¬ (3 : Int32) < (3 : Int32)) => ?_) (fun (c13_3 : (3 : Int32) < (3 : Int32)) => ?_)
        · exact gret0 w182 d7_27 (by decide) (by decide) ⟨rfl, K186, _, (by simp only [List.length_set]; exact hl), V185⟩
        · exact absurd c13_3 (by decide)
set_option maxRecDepth 65536 in
set_option maxHeartbeats 4000000 in
theorem own_widen (hw : ∀ d ∈ tables_1, d.before a0 Z = true) (a ac ap aa al : Addr) (G : own_G n0 a ac ap aa al) (TT : own_TT Z h a ac ap aa al (0 : Int32)) :
    Ctr l (⟨"com/example/antecedent/antecedent/clock/Tree", "widen", "(I)V"⟩ : MethodName) prog_8_method_6_code 2 none ({ frames := 2, cells := 0, slots := 0, locals := 40 } : Room) Z #[(.ref a), (.int (4 : Int32))] h n0 (fun v h' => v = none ∧ own_TT Z h' a ac ap aa al (4 : Int32)) [] := by
  refine metGo (Ls := #[.val (.ref a), .val (.int (4 : Int32))]) pn_d6 (fun m => by first | rfl | (simp [entryFrame, mkF, argsToLocals, Value.category]; done) | (simp [entryFrame, mkF, argsToLocals, Value.category, maxLocals]; done)) ?_
  intro p e s m below meth c T w
  obtain ⟨E0, Fc, Fp, Ft, Fl, Fr, ⟨ov, Fv⟩, ⟨ob, Fb⟩, ⟨oi, Fi⟩, ⟨kc, vc, dc, lc, Vc⟩, ⟨kp, vp, dp, lp, Vp⟩, ⟨kt, vt, dt, lt, Vt⟩, ⟨kl, vl, dl, ll, Vl⟩, n1, n2, n3, n4, n5, n6, n7, n8, n9, n10⟩ := TT
  refine giloadN (pc' := 1) (Ls := #[.val (.ref a), .val (.int (4 : Int32))]) (rest := []) w d6_0 rfl rfl ?_
  refine galoadN (pc' := 2) (Ls := #[.val (.ref a), .val (.int (4 : Int32))]) (rest := [(.int (4 : Int32))]) w d6_1 rfl rfl rfl ?_
  refine ggetF (pc' := 5) w d6_2 (hw _ (List.mem_of_getElem? (i := 51) rfl)) Fr rfl (fun T187 w188 => ?_)
  refine gicmp (pt := 9) (pf := 8) w188 d6_5  (by decide) rfl rfl (fun (c5 : (0 : Int32) < (4 : Int32)) => ?_) (fun (c5 : ¬ (0 : Int32) < (4 : Int32)) => ?_)
  · refine galoadN (pc' := 10) (Ls := #[.val (.ref a), .val (.int (4 : Int32))]) (rest := []) w188 d6_9 rfl rfl rfl ?_
    refine giloadN (pc' := 11) (Ls := #[.val (.ref a), .val (.int (4 : Int32))]) (rest := [(.ref a)]) w188 d6_10 rfl rfl ?_
    refine gcallV (pc' := 14) (argsL := [(.int (4 : Int32))]) (rest := []) (Wt := 0) w188 d6_11 (hw _ (List.mem_of_getElem? (i := 46) rfl)) (hw _ (List.mem_of_getElem? (i := 47) rfl)) (hw _ (List.mem_of_getElem? (i := 49) rfl)) (hw _ (List.mem_of_getElem? (i := 48) rfl)) (hw _ (List.mem_of_getElem? (i := 2) rfl)) (hw _ (List.mem_of_getElem? (i := 50) rfl)) E0 rfl (by decide) pd_d5 (own_ensure hw _ a ac ap aa al G ⟨E0, Fc, Fp, Ft, Fl, Fr, ⟨_, Fv⟩, ⟨_, Fb⟩, ⟨_, Fi⟩, ⟨_, _, _, (by first | exact lc | (simp only [List.length_set]; exact lc)), Vc⟩, ⟨_, _, _, (by first | exact lp | (simp only [List.length_set]; exact lp)), Vp⟩, ⟨_, _, _, (by first | exact lt | (simp only [List.length_set]; exact lt)), Vt⟩, ⟨_, _, _, (by first | exact ll | (simp only [List.length_set]; exact ll)), Vl⟩, n1, n2, n3, n4, n5, n6, n7, n8, n9, n10⟩) rfl rfl rfl rfl (Nat.le_of_eq rfl) (by decide) (by decide) (by decide) (by decide) rfl (fun v189 T190 h191 w192 q193 => ?_)
    obtain ⟨rfl, eh⟩ := q193
    show Go _ _ _ _ _ _ _ _ _ (mkF m 14 #[.val (.ref a), .val (.int (4 : Int32))] [])
    rw [eh] at w192
    refine galoadN (pc' := 15) (Ls := #[.val (.ref a), .val (.int (4 : Int32))]) (rest := []) w192 d6_14 rfl rfl rfl ?_
    refine ggetF (pc' := 18) w192 d6_15 (hw _ (List.mem_of_getElem? (i := 24) rfl)) Fc rfl (fun T194 w195 => ?_)
    refine galoadN (pc' := 19) (Ls := #[.val (.ref a), .val (.int (4 : Int32))]) (rest := [(.ref ac)]) w195 d6_18 rfl rfl rfl ?_
    refine ggetF (pc' := 22) w195 d6_19 (hw _ (List.mem_of_getElem? (i := 51) rfl)) Fr rfl (fun T196 w197 => ?_)
    refine giloadN (pc' := 23) (Ls := #[.val (.ref a), .val (.int (4 : Int32))]) (rest := [(.int (0 : Int32)), (.ref ac)]) w197 d6_22 rfl rfl ?_
    refine giconst (v := (0 : Int32)) (pc' := 24) w197 d6_23 rfl rfl ?_
    refine gcallS (pc' := 27) (argsL := [(.ref ac), (.int (0 : Int32)), (.int (4 : Int32)), (.int (0 : Int32))]) (rest := []) (Wt := 0) w197 d6_24 (hw _ (List.mem_of_getElem? (i := 58) rfl)) (hw _ (List.mem_of_getElem? (i := 59) rfl)) (hw _ (List.mem_of_getElem? (i := 60) rfl)) (hw _ (List.mem_of_getElem? (i := 61) rfl)) (by decide) pd_d7 (own_fill0_4 hw ac (0 : Int32) _ _ _ (by first | exact lc | (simp only [List.length_set]; exact lc)) G.2.1 Vc) rfl rfl rfl rfl (Nat.le_of_eq rfl) (by decide) (by decide) (by decide) (by decide) rfl (fun v199 T200 h201 w202 q203 => ?_)
    obtain ⟨rfl, KK198, vs198, ln198, VV198⟩ := q203
    show Go _ _ _ _ _ _ _ _ _ (mkF m 27 #[.val (.ref a), .val (.int (4 : Int32))] [])
    have E204 := E0.keep KK198
    have F205 := Fc.keep KK198 (ninS n1 nin0)
    have F206 := Fp.keep KK198 (ninS n1 nin0)
    have V207 := Vp.keep KK198 (ninS (Ne.symm n5) nin0)
    have F208 := Ft.keep KK198 (ninS n1 nin0)
    have V209 := Vt.keep KK198 (ninS (Ne.symm n6) nin0)
    have F210 := Fl.keep KK198 (ninS n1 nin0)
    have V211 := Vl.keep KK198 (ninS (Ne.symm n7) nin0)
    have F212 := Fr.keep KK198 (ninS n1 nin0)
    have F213 := Fv.keep KK198 (ninS n1 nin0)
    have F214 := Fb.keep KK198 (ninS n1 nin0)
    have F215 := Fi.keep KK198 (ninS n1 nin0)
    refine galoadN (pc' := 28) (Ls := #[.val (.ref a), .val (.int (4 : Int32))]) (rest := []) w202 d6_27 rfl rfl rfl ?_
    refine ggetF (pc' := 31) w202 d6_28 (hw _ (List.mem_of_getElem? (i := 26) rfl)) F206 rfl (fun T216 w217 => ?_)
    refine galoadN (pc' := 32) (Ls := #[.val (.ref a), .val (.int (4 : Int32))]) (rest := [(.ref ap)]) w217 d6_31 rfl rfl rfl ?_
    refine ggetF (pc' := 35) w217 d6_32 (hw _ (List.mem_of_getElem? (i := 51) rfl)) F212 rfl (fun T218 w219 => ?_)
    refine giloadN (pc' := 36) (Ls := #[.val (.ref a), .val (.int (4 : Int32))]) (rest := [(.int (0 : Int32)), (.ref ap)]) w219 d6_35 rfl rfl ?_
    refine giconst (v := (-1 : Int32)) (pc' := 37) w219 d6_36 rfl rfl ?_
    refine gcallS (pc' := 40) (argsL := [(.ref ap), (.int (0 : Int32)), (.int (4 : Int32)), (.int (-1 : Int32))]) (rest := []) (Wt := 0) w219 d6_37 (hw _ (List.mem_of_getElem? (i := 58) rfl)) (hw _ (List.mem_of_getElem? (i := 59) rfl)) (hw _ (List.mem_of_getElem? (i := 60) rfl)) (hw _ (List.mem_of_getElem? (i := 61) rfl)) (by decide) pd_d7 (own_fill0_4 hw ap (-1 : Int32) _ _ _ (by first | exact lp | (simp only [List.length_set]; exact lp)) G.2.2.1 V207) rfl rfl rfl rfl (Nat.le_of_eq rfl) (by decide) (by decide) (by decide) (by decide) rfl (fun v221 T222 h223 w224 q225 => ?_)
    obtain ⟨rfl, KK220, vs220, ln220, VV220⟩ := q225
    show Go _ _ _ _ _ _ _ _ _ (mkF m 40 #[.val (.ref a), .val (.int (4 : Int32))] [])
    have E226 := E204.keep KK220
    have F227 := F205.keep KK220 (ninS n2 nin0)
    have F228 := F206.keep KK220 (ninS n2 nin0)
    have F229 := F208.keep KK220 (ninS n2 nin0)
    have V230 := V209.keep KK220 (ninS (Ne.symm n8) nin0)
    have F231 := F210.keep KK220 (ninS n2 nin0)
    have V232 := V211.keep KK220 (ninS (Ne.symm n9) nin0)
    have F233 := F212.keep KK220 (ninS n2 nin0)
    have F234 := F213.keep KK220 (ninS n2 nin0)
    have F235 := F214.keep KK220 (ninS n2 nin0)
    have F236 := F215.keep KK220 (ninS n2 nin0)
    have V237 := VV198.keep KK220 (ninS n5 nin0)
    refine galoadN (pc' := 41) (Ls := #[.val (.ref a), .val (.int (4 : Int32))]) (rest := []) w224 d6_40 rfl rfl rfl ?_
    refine ggetF (pc' := 44) w224 d6_41 (hw _ (List.mem_of_getElem? (i := 28) rfl)) F229 rfl (fun T238 w239 => ?_)
    refine galoadN (pc' := 45) (Ls := #[.val (.ref a), .val (.int (4 : Int32))]) (rest := [(.ref aa)]) w239 d6_44 rfl rfl rfl ?_
    refine ggetF (pc' := 48) w239 d6_45 (hw _ (List.mem_of_getElem? (i := 51) rfl)) F233 rfl (fun T240 w241 => ?_)
    refine giloadN (pc' := 49) (Ls := #[.val (.ref a), .val (.int (4 : Int32))]) (rest := [(.int (0 : Int32)), (.ref aa)]) w241 d6_48 rfl rfl ?_
    refine giconst (v := (0 : Int32)) (pc' := 50) w241 d6_49 rfl rfl ?_
    refine gcallS (pc' := 53) (argsL := [(.ref aa), (.int (0 : Int32)), (.int (4 : Int32)), (.int (0 : Int32))]) (rest := []) (Wt := 0) w241 d6_50 (hw _ (List.mem_of_getElem? (i := 58) rfl)) (hw _ (List.mem_of_getElem? (i := 59) rfl)) (hw _ (List.mem_of_getElem? (i := 60) rfl)) (hw _ (List.mem_of_getElem? (i := 61) rfl)) (by decide) pd_d7 (own_fill0_4 hw aa (0 : Int32) _ _ _ (by first | exact lt | (simp only [List.length_set]; exact lt)) G.2.2.2.1 V230) rfl rfl rfl rfl (Nat.le_of_eq rfl) (by decide) (by decide) (by decide) (by decide) rfl (fun v243 T244 h245 w246 q247 => ?_)
    obtain ⟨rfl, KK242, vs242, ln242, VV242⟩ := q247
    show Go _ _ _ _ _ _ _ _ _ (mkF m 53 #[.val (.ref a), .val (.int (4 : Int32))] [])
    have E248 := E226.keep KK242
    have F249 := F227.keep KK242 (ninS n3 nin0)
    have F250 := F228.keep KK242 (ninS n3 nin0)
    have F251 := F229.keep KK242 (ninS n3 nin0)
    have F252 := F231.keep KK242 (ninS n3 nin0)
    have V253 := V232.keep KK242 (ninS (Ne.symm n10) nin0)
    have F254 := F233.keep KK242 (ninS n3 nin0)
    have F255 := F234.keep KK242 (ninS n3 nin0)
    have F256 := F235.keep KK242 (ninS n3 nin0)
    have F257 := F236.keep KK242 (ninS n3 nin0)
    have V258 := V237.keep KK242 (ninS n6 nin0)
    have V259 := VV220.keep KK242 (ninS n8 nin0)
    refine galoadN (pc' := 54) (Ls := #[.val (.ref a), .val (.int (4 : Int32))]) (rest := []) w246 d6_53 rfl rfl rfl ?_
    refine ggetF (pc' := 57) w246 d6_54 (hw _ (List.mem_of_getElem? (i := 30) rfl)) F252 rfl (fun T260 w261 => ?_)
    refine galoadN (pc' := 58) (Ls := #[.val (.ref a), .val (.int (4 : Int32))]) (rest := [(.ref al)]) w261 d6_57 rfl rfl rfl ?_
    refine ggetF (pc' := 61) w261 d6_58 (hw _ (List.mem_of_getElem? (i := 51) rfl)) F254 rfl (fun T262 w263 => ?_)
    refine gcallS (pc' := 64) (argsL := [(.int (0 : Int32))]) (rest := [(.ref al)]) (Wt := 1) w263 d6_61 (hw _ (List.mem_of_getElem? (i := 65) rfl)) (hw _ (List.mem_of_getElem? (i := 66) rfl)) (hw _ (List.mem_of_getElem? (i := 2) rfl)) (hw _ (List.mem_of_getElem? (i := 67) rfl)) (by decide) pd_d9 (own_rec0 hw) rfl rfl rfl rfl (Nat.le_of_eq rfl) (by decide) (by decide) (by decide) (by decide) rfl (fun v264 T265 h266 w267 q268 => ?_)
    obtain ⟨rfl, eh⟩ := q268
    show Go _ _ _ _ _ _ _ _ _ (mkF m 64 #[.val (.ref a), .val (.int (4 : Int32))] [(.int (3 : Int32)), (.ref al)])
    rw [eh] at w267
    refine giloadN (pc' := 65) (Ls := #[.val (.ref a), .val (.int (4 : Int32))]) (rest := [(.int (3 : Int32)), (.ref al)]) w267 d6_64 rfl rfl ?_
    refine gcallS (pc' := 68) (argsL := [(.int (4 : Int32))]) (rest := [(.int (3 : Int32)), (.ref al)]) (Wt := 2) w267 d6_65 (hw _ (List.mem_of_getElem? (i := 65) rfl)) (hw _ (List.mem_of_getElem? (i := 66) rfl)) (hw _ (List.mem_of_getElem? (i := 2) rfl)) (hw _ (List.mem_of_getElem? (i := 67) rfl)) (by decide) pd_d9 (own_rec4 hw) rfl rfl rfl rfl (Nat.le_of_eq rfl) (by decide) (by decide) (by decide) (by decide) rfl (fun v269 T270 h271 w272 q273 => ?_)
    obtain ⟨rfl, eh⟩ := q273
    show Go _ _ _ _ _ _ _ _ _ (mkF m 68 #[.val (.ref a), .val (.int (4 : Int32))] [(.int (15 : Int32)), (.int (3 : Int32)), (.ref al)])
    rw [eh] at w272
    refine giconst (v := (0 : Int32)) (pc' := 69) w272 d6_68 rfl rfl ?_
    refine gcallS (pc' := 72) (argsL := [(.ref al), (.int (3 : Int32)), (.int (15 : Int32)), (.int (0 : Int32))]) (rest := []) (Wt := 0) w272 d6_69 (hw _ (List.mem_of_getElem? (i := 58) rfl)) (hw _ (List.mem_of_getElem? (i := 59) rfl)) (hw _ (List.mem_of_getElem? (i := 60) rfl)) (hw _ (List.mem_of_getElem? (i := 61) rfl)) (by decide) pd_d7 (own_fill3_15 hw al (0 : Int32) _ _ _ (by first | exact ll | (simp only [List.length_set]; exact ll)) G.2.2.2.2 V253) rfl rfl rfl rfl (Nat.le_of_eq rfl) (by decide) (by decide) (by decide) (by decide) rfl (fun v275 T276 h277 w278 q279 => ?_)
    obtain ⟨rfl, KK274, vs274, ln274, VV274⟩ := q279
    show Go _ _ _ _ _ _ _ _ _ (mkF m 72 #[.val (.ref a), .val (.int (4 : Int32))] [])
    have E280 := E248.keep KK274
    have F281 := F249.keep KK274 (ninS n4 nin0)
    have F282 := F250.keep KK274 (ninS n4 nin0)
    have F283 := F251.keep KK274 (ninS n4 nin0)
    have F284 := F252.keep KK274 (ninS n4 nin0)
    have F285 := F254.keep KK274 (ninS n4 nin0)
    have F286 := F255.keep KK274 (ninS n4 nin0)
    have F287 := F256.keep KK274 (ninS n4 nin0)
    have F288 := F257.keep KK274 (ninS n4 nin0)
    have V289 := V258.keep KK274 (ninS n7 nin0)
    have V290 := V259.keep KK274 (ninS n9 nin0)
    have V291 := VV242.keep KK274 (ninS n10 nin0)
    refine galoadN (pc' := 73) (Ls := #[.val (.ref a), .val (.int (4 : Int32))]) (rest := []) w278 d6_72 rfl rfl rfl ?_
    refine giloadN (pc' := 74) (Ls := #[.val (.ref a), .val (.int (4 : Int32))]) (rest := [(.ref a)]) w278 d6_73 rfl rfl ?_
    refine gputF (pc' := 77) (v' := (.int (4 : Int32))) (ty := .int) w278 d6_74 (hw _ (List.mem_of_getElem? (i := 51) rfl)) F285 E280 (Or.inl (hw _ (List.mem_of_getElem? (i := 52) rfl))) (hw _ (List.mem_of_getElem? (i := 1) rfl)) (by decide) rfl rfl G.1 rfl (fun T292 h293 w294 W295 => ?_)
    have E296 := E280.wr W295
    have F297 := F281.other W295 (Or.inr (slot_ne (t := (.array .int)) (t' := .int) (Or.inl (hw _ (List.mem_of_getElem? (i := 25) rfl))) (Or.inl (hw _ (List.mem_of_getElem? (i := 52) rfl))) (by decide) (by decide) (by decide)))
    have F298 := F282.other W295 (Or.inr (slot_ne (t := (.array .int)) (t' := .int) (Or.inl (hw _ (List.mem_of_getElem? (i := 27) rfl))) (Or.inl (hw _ (List.mem_of_getElem? (i := 52) rfl))) (by decide) (by decide) (by decide)))
    have F299 := F283.other W295 (Or.inr (slot_ne (t := (.array .int)) (t' := .int) (Or.inl (hw _ (List.mem_of_getElem? (i := 29) rfl))) (Or.inl (hw _ (List.mem_of_getElem? (i := 52) rfl))) (by decide) (by decide) (by decide)))
    have F300 := F284.other W295 (Or.inr (slot_ne (t := (.array .int)) (t' := .int) (Or.inl (hw _ (List.mem_of_getElem? (i := 31) rfl))) (Or.inl (hw _ (List.mem_of_getElem? (i := 52) rfl))) (by decide) (by decide) (by decide)))
    have F301 := F285.same W295
    have F302 := F286.other W295 (Or.inr (slot_ne (t := .int) (t' := .int) (Or.inl (hw _ (List.mem_of_getElem? (i := 43) rfl))) (Or.inl (hw _ (List.mem_of_getElem? (i := 52) rfl))) (by decide) (by decide) (by decide)))
    have F303 := F287.other W295 (Or.inr (slot_ne (t := (.object "com/example/antecedent/antecedent/clock/Tree")) (t' := .int) (Or.inl (hw _ (List.mem_of_getElem? (i := 45) rfl))) (Or.inl (hw _ (List.mem_of_getElem? (i := 52) rfl))) (by decide) (by decide) (by decide)))
    have F304 := F288.other W295 (Or.inr (slot_ne (t := .boolean) (t' := .int) (Or.inl (hw _ (List.mem_of_getElem? (i := 69) rfl))) (Or.inl (hw _ (List.mem_of_getElem? (i := 52) rfl))) (by decide) (by decide) (by decide)))
    have V305 := V289.other W295 (Ne.symm n1)
    have V306 := V290.other W295 (Ne.symm n2)
    have V307 := V291.other W295 (Ne.symm n3)
    have V308 := VV274.other W295 (Ne.symm n4)
    exact gret0 w294 d6_77 (by decide) (by decide) ⟨rfl, ⟨E296, F297, F298, F299, F300, F301, ⟨_, F302⟩, ⟨_, F303⟩, ⟨_, F304⟩, ⟨_, _, _, (by first | exact ln198 | (simp only [List.length_set]; exact ln198)), V305⟩, ⟨_, _, _, (by first | exact ln220 | (simp only [List.length_set]; exact ln220)), V306⟩, ⟨_, _, _, (by first | exact ln242 | (simp only [List.length_set]; exact ln242)), V307⟩, ⟨_, _, _, (by first | exact ln274 | (simp only [List.length_set]; exact ln274)), V308⟩, n1, n2, n3, n4, n5, n6, n7, n8, n9, n10⟩⟩
  · exact absurd c5 (by decide)
set_option maxRecDepth 65536 in
set_option maxHeartbeats 4000000 in
theorem own_clear (hw : ∀ d ∈ tables_1, d.before a0 Z = true) (rm : Int32) (a ac ap aa al : Addr) (G : own_G n0 a ac ap aa al) (TT : own_TT Z h a ac ap aa al rm) :
    Ctr l (⟨"com/example/antecedent/antecedent/clock/Tree", "clear", "(I)V"⟩ : MethodName) prog_8_method_5_code 2 none ({ frames := 3, cells := 0, slots := 0, locals := 56 } : Room) Z #[(.ref a), (.int (4 : Int32))] h n0 (fun v h' => v = none ∧ own_TT Z h' a ac ap aa al (4 : Int32)) [] := by
  refine metGo (Ls := #[.val (.ref a), .val (.int (4 : Int32))]) pn_d3 (fun m => by first | rfl | (simp [entryFrame, mkF, argsToLocals, Value.category]; done) | (simp [entryFrame, mkF, argsToLocals, Value.category, maxLocals]; done)) ?_
  intro p e s m below meth c T w
  obtain ⟨E0, Fc, Fp, Ft, Fl, Fr, ⟨ov, Fv⟩, ⟨ob, Fb⟩, ⟨oi, Fi⟩, ⟨kc, vc, dc, lc, Vc⟩, ⟨kp, vp, dp, lp, Vp⟩, ⟨kt, vt, dt, lt, Vt⟩, ⟨kl, vl, dl, ll, Vl⟩, n1, n2, n3, n4, n5, n6, n7, n8, n9, n10⟩ := TT
  refine galoadN (pc' := 1) (Ls := #[.val (.ref a), .val (.int (4 : Int32))]) (rest := []) w d3_0 rfl rfl rfl ?_
  refine gcallV (pc' := 4) (argsL := []) (rest := []) (Wt := 0) w d3_1 (hw _ (List.mem_of_getElem? (i := 37) rfl)) (hw _ (List.mem_of_getElem? (i := 38) rfl)) (hw _ (List.mem_of_getElem? (i := 40) rfl)) (hw _ (List.mem_of_getElem? (i := 39) rfl)) (hw _ (List.mem_of_getElem? (i := 2) rfl)) (hw _ (List.mem_of_getElem? (i := 41) rfl)) E0 rfl (by decide) pd_d4 (own_change hw rm a ac ap aa al G ⟨E0, Fc, Fp, Ft, Fl, Fr, ⟨_, Fv⟩, ⟨_, Fb⟩, ⟨_, Fi⟩, ⟨_, _, _, (by first | exact lc | (simp only [List.length_set]; exact lc)), Vc⟩, ⟨_, _, _, (by first | exact lp | (simp only [List.length_set]; exact lp)), Vp⟩, ⟨_, _, _, (by first | exact lt | (simp only [List.length_set]; exact lt)), Vt⟩, ⟨_, _, _, (by first | exact ll | (simp only [List.length_set]; exact ll)), Vl⟩, n1, n2, n3, n4, n5, n6, n7, n8, n9, n10⟩) rfl rfl rfl rfl (Nat.le_of_eq rfl) (by decide) (by decide) (by decide) (by decide) rfl (fun v310 T311 h312 w313 q314 => ?_)
  obtain ⟨rfl, ⟨E0_309, Fc_309, Fp_309, Ft_309, Fl_309, Fr_309, ⟨ov_309, Fv_309⟩, ⟨ob_309, Fb_309⟩, ⟨oi_309, Fi_309⟩, ⟨kc_309, vc_309, dc_309, lc_309, Vc_309⟩, ⟨kp_309, vp_309, dp_309, lp_309, Vp_309⟩, ⟨kt_309, vt_309, dt_309, lt_309, Vt_309⟩, ⟨kl_309, vl_309, dl_309, ll_309, Vl_309⟩, n1_309, n2_309, n3_309, n4_309, n5_309, n6_309, n7_309, n8_309, n9_309, n10_309⟩⟩ := q314
  show Go _ _ _ _ _ _ _ _ _ (mkF m 4 #[.val (.ref a), .val (.int (4 : Int32))] [])
  refine galoadN (pc' := 5) (Ls := #[.val (.ref a), .val (.int (4 : Int32))]) (rest := []) w313 d3_4 rfl rfl rfl ?_
  refine giloadN (pc' := 6) (Ls := #[.val (.ref a), .val (.int (4 : Int32))]) (rest := [(.ref a)]) w313 d3_5 rfl rfl ?_
  refine gcallV (pc' := 9) (argsL := [(.int (4 : Int32))]) (rest := []) (Wt := 0) w313 d3_6 (hw _ (List.mem_of_getElem? (i := 46) rfl)) (hw _ (List.mem_of_getElem? (i := 47) rfl)) (hw _ (List.mem_of_getElem? (i := 49) rfl)) (hw _ (List.mem_of_getElem? (i := 48) rfl)) (hw _ (List.mem_of_getElem? (i := 2) rfl)) (hw _ (List.mem_of_getElem? (i := 50) rfl)) E0_309 rfl (by decide) pd_d5 (own_ensure hw _ a ac ap aa al G ⟨E0_309, Fc_309, Fp_309, Ft_309, Fl_309, Fr_309, ⟨_, Fv_309⟩, ⟨_, Fb_309⟩, ⟨_, Fi_309⟩, ⟨_, _, _, (by first | exact lc_309 | (simp only [List.length_set]; exact lc_309)), Vc_309⟩, ⟨_, _, _, (by first | exact lp_309 | (simp only [List.length_set]; exact lp_309)), Vp_309⟩, ⟨_, _, _, (by first | exact lt_309 | (simp only [List.length_set]; exact lt_309)), Vt_309⟩, ⟨_, _, _, (by first | exact ll_309 | (simp only [List.length_set]; exact ll_309)), Vl_309⟩, n1_309, n2_309, n3_309, n4_309, n5_309, n6_309, n7_309, n8_309, n9_309, n10_309⟩) rfl rfl rfl rfl (Nat.le_of_eq rfl) (by decide) (by decide) (by decide) (by decide) rfl (fun v315 T316 h317 w318 q319 => ?_)
  obtain ⟨rfl, eh⟩ := q319
  show Go _ _ _ _ _ _ _ _ _ (mkF m 9 #[.val (.ref a), .val (.int (4 : Int32))] [])
  rw [eh] at w318
  refine galoadN (pc' := 10) (Ls := #[.val (.ref a), .val (.int (4 : Int32))]) (rest := []) w318 d3_9 rfl rfl rfl ?_
  refine giconst (v := (0 : Int32)) (pc' := 11) w318 d3_10 rfl rfl ?_
  refine gputF (pc' := 14) (v' := (.int (0 : Int32))) (ty := .int) w318 d3_11 (hw _ (List.mem_of_getElem? (i := 51) rfl)) Fr_309 E0_309 (Or.inl (hw _ (List.mem_of_getElem? (i := 52) rfl))) (hw _ (List.mem_of_getElem? (i := 1) rfl)) (by decide) rfl rfl G.1 rfl (fun T320 h321 w322 W323 => ?_)
  have E324 := E0_309.wr W323
  have F325 := Fc_309.other W323 (Or.inr (slot_ne (t := (.array .int)) (t' := .int) (Or.inl (hw _ (List.mem_of_getElem? (i := 25) rfl))) (Or.inl (hw _ (List.mem_of_getElem? (i := 52) rfl))) (by decide) (by decide) (by decide)))
  have V326 := Vc_309.other W323 (Ne.symm n1_309)
  have F327 := Fp_309.other W323 (Or.inr (slot_ne (t := (.array .int)) (t' := .int) (Or.inl (hw _ (List.mem_of_getElem? (i := 27) rfl))) (Or.inl (hw _ (List.mem_of_getElem? (i := 52) rfl))) (by decide) (by decide) (by decide)))
  have V328 := Vp_309.other W323 (Ne.symm n2_309)
  have F329 := Ft_309.other W323 (Or.inr (slot_ne (t := (.array .int)) (t' := .int) (Or.inl (hw _ (List.mem_of_getElem? (i := 29) rfl))) (Or.inl (hw _ (List.mem_of_getElem? (i := 52) rfl))) (by decide) (by decide) (by decide)))
  have V330 := Vt_309.other W323 (Ne.symm n3_309)
  have F331 := Fl_309.other W323 (Or.inr (slot_ne (t := (.array .int)) (t' := .int) (Or.inl (hw _ (List.mem_of_getElem? (i := 31) rfl))) (Or.inl (hw _ (List.mem_of_getElem? (i := 52) rfl))) (by decide) (by decide) (by decide)))
  have V332 := Vl_309.other W323 (Ne.symm n4_309)
  have F333 := Fr_309.same W323
  have F334 := Fv_309.other W323 (Or.inr (slot_ne (t := .int) (t' := .int) (Or.inl (hw _ (List.mem_of_getElem? (i := 43) rfl))) (Or.inl (hw _ (List.mem_of_getElem? (i := 52) rfl))) (by decide) (by decide) (by decide)))
  have F335 := Fb_309.other W323 (Or.inr (slot_ne (t := (.object "com/example/antecedent/antecedent/clock/Tree")) (t' := .int) (Or.inl (hw _ (List.mem_of_getElem? (i := 45) rfl))) (Or.inl (hw _ (List.mem_of_getElem? (i := 52) rfl))) (by decide) (by decide) (by decide)))
  have F336 := Fi_309.other W323 (Or.inr (slot_ne (t := .boolean) (t' := .int) (Or.inl (hw _ (List.mem_of_getElem? (i := 69) rfl))) (Or.inl (hw _ (List.mem_of_getElem? (i := 52) rfl))) (by decide) (by decide) (by decide)))
  refine galoadN (pc' := 15) (Ls := #[.val (.ref a), .val (.int (4 : Int32))]) (rest := []) w322 d3_14 rfl rfl rfl ?_
  refine giloadN (pc' := 16) (Ls := #[.val (.ref a), .val (.int (4 : Int32))]) (rest := [(.ref a)]) w322 d3_15 rfl rfl ?_
  refine gcallV (pc' := 19) (argsL := [(.int (4 : Int32))]) (rest := []) (Wt := 0) w322 d3_16 (hw _ (List.mem_of_getElem? (i := 53) rfl)) (hw _ (List.mem_of_getElem? (i := 54) rfl)) (hw _ (List.mem_of_getElem? (i := 56) rfl)) (hw _ (List.mem_of_getElem? (i := 55) rfl)) (hw _ (List.mem_of_getElem? (i := 2) rfl)) (hw _ (List.mem_of_getElem? (i := 57) rfl)) E324 rfl (by decide) pd_d6 (own_widen hw a ac ap aa al G ⟨E324, F325, F327, F329, F331, F333, ⟨_, F334⟩, ⟨_, F335⟩, ⟨_, F336⟩, ⟨_, _, _, (by first | exact lc_309 | (simp only [List.length_set]; exact lc_309)), V326⟩, ⟨_, _, _, (by first | exact lp_309 | (simp only [List.length_set]; exact lp_309)), V328⟩, ⟨_, _, _, (by first | exact lt_309 | (simp only [List.length_set]; exact lt_309)), V330⟩, ⟨_, _, _, (by first | exact ll_309 | (simp only [List.length_set]; exact ll_309)), V332⟩, n1_309, n2_309, n3_309, n4_309, n5_309, n6_309, n7_309, n8_309, n9_309, n10_309⟩) rfl rfl rfl rfl (Nat.le_of_eq rfl) (by decide) (by decide) (by decide) (by decide) rfl (fun v338 T339 h340 w341 q342 => ?_)
  obtain ⟨rfl, ⟨E0_337, Fc_337, Fp_337, Ft_337, Fl_337, Fr_337, ⟨ov_337, Fv_337⟩, ⟨ob_337, Fb_337⟩, ⟨oi_337, Fi_337⟩, ⟨kc_337, vc_337, dc_337, lc_337, Vc_337⟩, ⟨kp_337, vp_337, dp_337, lp_337, Vp_337⟩, ⟨kt_337, vt_337, dt_337, lt_337, Vt_337⟩, ⟨kl_337, vl_337, dl_337, ll_337, Vl_337⟩, n1_337, n2_337, n3_337, n4_337, n5_337, n6_337, n7_337, n8_337, n9_337, n10_337⟩⟩ := q342
  show Go _ _ _ _ _ _ _ _ _ (mkF m 19 #[.val (.ref a), .val (.int (4 : Int32))] [])
  refine galoadN (pc' := 20) (Ls := #[.val (.ref a), .val (.int (4 : Int32))]) (rest := []) w341 d3_19 rfl rfl rfl ?_
  refine ggetF (pc' := 23) w341 d3_20 (hw _ (List.mem_of_getElem? (i := 30) rfl)) Fl_337 rfl (fun T343 w344 => ?_)
  refine giconst (v := (0 : Int32)) (pc' := 24) w344 d3_23 rfl rfl ?_
  refine giconst (v := (3 : Int32)) (pc' := 25) w344 d3_24 rfl rfl ?_
  refine giconst (v := (0 : Int32)) (pc' := 26) w344 d3_25 rfl rfl ?_
  refine gcallS (pc' := 29) (argsL := [(.ref al), (.int (0 : Int32)), (.int (3 : Int32)), (.int (0 : Int32))]) (rest := []) (Wt := 0) w344 d3_26 (hw _ (List.mem_of_getElem? (i := 58) rfl)) (hw _ (List.mem_of_getElem? (i := 59) rfl)) (hw _ (List.mem_of_getElem? (i := 60) rfl)) (hw _ (List.mem_of_getElem? (i := 61) rfl)) (by decide) pd_d7 (own_fill0_3 hw al (0 : Int32) _ _ _ (by first | exact ll_337 | (simp only [List.length_set]; exact ll_337)) G.2.2.2.2 Vl_337) rfl rfl rfl rfl (Nat.le_of_eq rfl) (by decide) (by decide) (by decide) (by decide) rfl (fun v346 T347 h348 w349 q350 => ?_)
  obtain ⟨rfl, KK345, vs345, ln345, VV345⟩ := q350
  show Go _ _ _ _ _ _ _ _ _ (mkF m 29 #[.val (.ref a), .val (.int (4 : Int32))] [])
  have E351 := E0_337.keep KK345
  have F352 := Fc_337.keep KK345 (ninS n4_337 nin0)
  have V353 := Vc_337.keep KK345 (ninS n7_337 nin0)
  have F354 := Fp_337.keep KK345 (ninS n4_337 nin0)
  have V355 := Vp_337.keep KK345 (ninS n9_337 nin0)
  have F356 := Ft_337.keep KK345 (ninS n4_337 nin0)
  have V357 := Vt_337.keep KK345 (ninS n10_337 nin0)
  have F358 := Fl_337.keep KK345 (ninS n4_337 nin0)
  have F359 := Fr_337.keep KK345 (ninS n4_337 nin0)
  have F360 := Fv_337.keep KK345 (ninS n4_337 nin0)
  have F361 := Fb_337.keep KK345 (ninS n4_337 nin0)
  have F362 := Fi_337.keep KK345 (ninS n4_337 nin0)
  refine galoadN (pc' := 30) (Ls := #[.val (.ref a), .val (.int (4 : Int32))]) (rest := []) w349 d3_29 rfl rfl rfl ?_
  refine giconst (v := (1 : Int32)) (pc' := 31) w349 d3_30 rfl rfl ?_
  refine gputF (pc' := 34) (v' := (.int (1 : Int32))) (ty := .boolean) w349 d3_31 (hw _ (List.mem_of_getElem? (i := 68) rfl)) F362 E351 (Or.inl (hw _ (List.mem_of_getElem? (i := 69) rfl))) (hw _ (List.mem_of_getElem? (i := 1) rfl)) (by decide) rfl rfl G.1 rfl (fun T363 h364 w365 W366 => ?_)
  have E367 := E351.wr W366
  have F368 := F352.other W366 (Or.inr (slot_ne (t := (.array .int)) (t' := .boolean) (Or.inl (hw _ (List.mem_of_getElem? (i := 25) rfl))) (Or.inl (hw _ (List.mem_of_getElem? (i := 69) rfl))) (by decide) (by decide) (by decide)))
  have V369 := V353.other W366 (Ne.symm n1_337)
  have F370 := F354.other W366 (Or.inr (slot_ne (t := (.array .int)) (t' := .boolean) (Or.inl (hw _ (List.mem_of_getElem? (i := 27) rfl))) (Or.inl (hw _ (List.mem_of_getElem? (i := 69) rfl))) (by decide) (by decide) (by decide)))
  have V371 := V355.other W366 (Ne.symm n2_337)
  have F372 := F356.other W366 (Or.inr (slot_ne (t := (.array .int)) (t' := .boolean) (Or.inl (hw _ (List.mem_of_getElem? (i := 29) rfl))) (Or.inl (hw _ (List.mem_of_getElem? (i := 69) rfl))) (by decide) (by decide) (by decide)))
  have V373 := V357.other W366 (Ne.symm n3_337)
  have F374 := F358.other W366 (Or.inr (slot_ne (t := (.array .int)) (t' := .boolean) (Or.inl (hw _ (List.mem_of_getElem? (i := 31) rfl))) (Or.inl (hw _ (List.mem_of_getElem? (i := 69) rfl))) (by decide) (by decide) (by decide)))
  have F375 := F359.other W366 (Or.inr (slot_ne (t := .int) (t' := .boolean) (Or.inl (hw _ (List.mem_of_getElem? (i := 52) rfl))) (Or.inl (hw _ (List.mem_of_getElem? (i := 69) rfl))) (by decide) (by decide) (by decide)))
  have F376 := F360.other W366 (Or.inr (slot_ne (t := .int) (t' := .boolean) (Or.inl (hw _ (List.mem_of_getElem? (i := 43) rfl))) (Or.inl (hw _ (List.mem_of_getElem? (i := 69) rfl))) (by decide) (by decide) (by decide)))
  have F377 := F361.other W366 (Or.inr (slot_ne (t := (.object "com/example/antecedent/antecedent/clock/Tree")) (t' := .boolean) (Or.inl (hw _ (List.mem_of_getElem? (i := 45) rfl))) (Or.inl (hw _ (List.mem_of_getElem? (i := 69) rfl))) (by decide) (by decide) (by decide)))
  have F378 := F362.same W366
  have V379 := VV345.other W366 (Ne.symm n4_337)
  exact gret0 w365 d3_34 (by decide) (by decide) ⟨rfl, ⟨E367, F368, F370, F372, F374, F375, ⟨_, F376⟩, ⟨_, F377⟩, ⟨_, F378⟩, ⟨_, _, _, (by first | exact lc_337 | (simp only [List.length_set]; exact lc_337)), V369⟩, ⟨_, _, _, (by first | exact lp_337 | (simp only [List.length_set]; exact lp_337)), V371⟩, ⟨_, _, _, (by first | exact lt_337 | (simp only [List.length_set]; exact lt_337)), V373⟩, ⟨_, _, _, (by first | exact ln345 | (simp only [List.length_set]; exact ln345)), V379⟩, n1_337, n2_337, n3_337, n4_337, n5_337, n6_337, n7_337, n8_337, n9_337, n10_337⟩⟩
set_option maxRecDepth 65536 in
set_option maxHeartbeats 4000000 in
theorem own_ini (hw : ∀ d ∈ tables_1, d.before a0 Z = true) (a aL : Addr) (z0 : n0 ≤ h.size) (ga : n0 ≤ a) (E0 : Exa Z h a "com/example/antecedent/antecedent/clock/Tree") (SL : Sta Z h "com/example/antecedent/antecedent/clock/Tree" "NO_LOG" "[I" (.ref aL)) (F_liftedBases : Fld Z h a "com/example/antecedent/antecedent/clock/Tree" "liftedBases" "[I" .null) (F_liftedCounts : Fld Z h a "com/example/antecedent/antecedent/clock/Tree" "liftedCounts" "[I" .null) (F_liftedParents : Fld Z h a "com/example/antecedent/antecedent/clock/Tree" "liftedParents" "[I" .null) (F_liftedAttached : Fld Z h a "com/example/antecedent/antecedent/clock/Tree" "liftedAttached" "[I" .null) (F_earlierLifts : Fld Z h a "com/example/antecedent/antecedent/clock/Tree" "earlierLifts" "[I" .null) (F_lastLifts : Fld Z h a "com/example/antecedent/antecedent/clock/Tree" "lastLifts" "[I" .null) (F_counts : Fld Z h a "com/example/antecedent/antecedent/clock/Tree" "counts" "[I" .null) (F_parents : Fld Z h a "com/example/antecedent/antecedent/clock/Tree" "parents" "[I" .null) (F_attached : Fld Z h a "com/example/antecedent/antecedent/clock/Tree" "attached" "[I" .null) (F_links : Fld Z h a "com/example/antecedent/antecedent/clock/Tree" "links" "[I" .null) (F_version : Fld Z h a "com/example/antecedent/antecedent/clock/Tree" "version" "I" (.int (0 : Int32))) (F_blendedFrom : Fld Z h a "com/example/antecedent/antecedent/clock/Tree" "blendedFrom" "Lcom/example/antecedent/antecedent/clock/Tree;" .null) (F_room : Fld Z h a "com/example/antecedent/antecedent/clock/Tree" "room" "I" (.int (0 : Int32))) (F_listed : Fld Z h a "com/example/antecedent/antecedent/clock/Tree" "listed" "Z" (.int (0 : Int32))) :
    Ctr l (⟨"com/example/antecedent/antecedent/clock/Tree", "<init>", "(I)V"⟩ : MethodName) prog_8_method_1_code 2 none ({ frames := 4, cells := 4, slots := 27, locals := 72 } : Room) Z #[(.ref a), (.int (4 : Int32))] h n0 (fun v h' => v = none ∧ ∃ ac ap aa al, own_G n0 a ac ap aa al ∧ own_TT Z h' a ac ap aa al 4) [] := by
  refine metGo (Ls := #[.val (.ref a), .val (.int (4 : Int32))]) pn_d1 (fun m => by first | rfl | (simp [entryFrame, mkF, argsToLocals, Value.category]; done) | (simp [entryFrame, mkF, argsToLocals, Value.category, maxLocals]; done)) ?_
  intro p e s m below meth c T w
  refine galoadN (pc' := 1) (Ls := #[.val (.ref a), .val (.int (4 : Int32))]) (rest := []) w d1_0 rfl rfl rfl ?_
  refine ginitO (pc' := 4) (Wt := 0) w d1_1 (hw _ (List.mem_of_getElem? (i := 6) rfl)) (hw _ (List.mem_of_getElem? (i := 7) rfl)) (hw _ (List.mem_of_getElem? (i := 8) rfl)) rfl (by decide) (Nat.le_of_eq rfl) (by decide) rfl (fun T381 w380 => ?_)
  refine galoadN (pc' := 5) (Ls := #[.val (.ref a), .val (.int (4 : Int32))]) (rest := []) w380 d1_4 rfl rfl rfl ?_
  refine ggetS (pc' := 8) w380 d1_5 (hw _ (List.mem_of_getElem? (i := 9) rfl)) SL rfl (fun T382 w383 => ?_)
  refine gputF (pc' := 11) (v' := (.ref aL)) (ty := (.array .int)) w383 d1_8 (hw _ (List.mem_of_getElem? (i := 11) rfl)) F_liftedBases E0 (Or.inl (hw _ (List.mem_of_getElem? (i := 12) rfl))) (hw _ (List.mem_of_getElem? (i := 1) rfl)) (by decide) rfl rfl ga rfl (fun T384 h385 w386 W387 => ?_)
  have E388 := E0.wr W387
  have S389 := SL.wr W387
  have F390 := F_liftedBases.same W387
  have F391 := F_liftedCounts.other W387 (Or.inr (slot_ne (t := (.array .int)) (t' := (.array .int)) (Or.inl (hw _ (List.mem_of_getElem? (i := 14) rfl))) (Or.inl (hw _ (List.mem_of_getElem? (i := 12) rfl))) (by decide) (by decide) (by decide)))
  have F392 := F_liftedParents.other W387 (Or.inr (slot_ne (t := (.array .int)) (t' := (.array .int)) (Or.inl (hw _ (List.mem_of_getElem? (i := 16) rfl))) (Or.inl (hw _ (List.mem_of_getElem? (i := 12) rfl))) (by decide) (by decide) (by decide)))
  have F393 := F_liftedAttached.other W387 (Or.inr (slot_ne (t := (.array .int)) (t' := (.array .int)) (Or.inl (hw _ (List.mem_of_getElem? (i := 18) rfl))) (Or.inl (hw _ (List.mem_of_getElem? (i := 12) rfl))) (by decide) (by decide) (by decide)))
  have F394 := F_earlierLifts.other W387 (Or.inr (slot_ne (t := (.array .int)) (t' := (.array .int)) (Or.inl (hw _ (List.mem_of_getElem? (i := 20) rfl))) (Or.inl (hw _ (List.mem_of_getElem? (i := 12) rfl))) (by decide) (by decide) (by decide)))
  have F395 := F_lastLifts.other W387 (Or.inr (slot_ne (t := (.array .int)) (t' := (.array .int)) (Or.inl (hw _ (List.mem_of_getElem? (i := 22) rfl))) (Or.inl (hw _ (List.mem_of_getElem? (i := 12) rfl))) (by decide) (by decide) (by decide)))
  have F396 := F_counts.other W387 (Or.inr (slot_ne (t := (.array .int)) (t' := (.array .int)) (Or.inl (hw _ (List.mem_of_getElem? (i := 25) rfl))) (Or.inl (hw _ (List.mem_of_getElem? (i := 12) rfl))) (by decide) (by decide) (by decide)))
  have F397 := F_parents.other W387 (Or.inr (slot_ne (t := (.array .int)) (t' := (.array .int)) (Or.inl (hw _ (List.mem_of_getElem? (i := 27) rfl))) (Or.inl (hw _ (List.mem_of_getElem? (i := 12) rfl))) (by decide) (by decide) (by decide)))
  have F398 := F_attached.other W387 (Or.inr (slot_ne (t := (.array .int)) (t' := (.array .int)) (Or.inl (hw _ (List.mem_of_getElem? (i := 29) rfl))) (Or.inl (hw _ (List.mem_of_getElem? (i := 12) rfl))) (by decide) (by decide) (by decide)))
  have F399 := F_links.other W387 (Or.inr (slot_ne (t := (.array .int)) (t' := (.array .int)) (Or.inl (hw _ (List.mem_of_getElem? (i := 31) rfl))) (Or.inl (hw _ (List.mem_of_getElem? (i := 12) rfl))) (by decide) (by decide) (by decide)))
  have F400 := F_version.other W387 (Or.inr (slot_ne (t := .int) (t' := (.array .int)) (Or.inl (hw _ (List.mem_of_getElem? (i := 43) rfl))) (Or.inl (hw _ (List.mem_of_getElem? (i := 12) rfl))) (by decide) (by decide) (by decide)))
  have F401 := F_blendedFrom.other W387 (Or.inr (slot_ne (t := (.object "com/example/antecedent/antecedent/clock/Tree")) (t' := (.array .int)) (Or.inl (hw _ (List.mem_of_getElem? (i := 45) rfl))) (Or.inl (hw _ (List.mem_of_getElem? (i := 12) rfl))) (by decide) (by decide) (by decide)))
  have F402 := F_room.other W387 (Or.inr (slot_ne (t := .int) (t' := (.array .int)) (Or.inl (hw _ (List.mem_of_getElem? (i := 52) rfl))) (Or.inl (hw _ (List.mem_of_getElem? (i := 12) rfl))) (by decide) (by decide) (by decide)))
  have F403 := F_listed.other W387 (Or.inr (slot_ne (t := .boolean) (t' := (.array .int)) (Or.inl (hw _ (List.mem_of_getElem? (i := 69) rfl))) (Or.inl (hw _ (List.mem_of_getElem? (i := 12) rfl))) (by decide) (by decide) (by decide)))
  have z404 : n0 ≤ h385.size := by rw [W387.size]; exact z0
  refine galoadN (pc' := 12) (Ls := #[.val (.ref a), .val (.int (4 : Int32))]) (rest := []) w386 d1_11 rfl rfl rfl ?_
  refine ggetS (pc' := 15) w386 d1_12 (hw _ (List.mem_of_getElem? (i := 9) rfl)) S389 rfl (fun T405 w406 => ?_)
  refine gputF (pc' := 18) (v' := (.ref aL)) (ty := (.array .int)) w406 d1_15 (hw _ (List.mem_of_getElem? (i := 13) rfl)) F391 E388 (Or.inl (hw _ (List.mem_of_getElem? (i := 14) rfl))) (hw _ (List.mem_of_getElem? (i := 1) rfl)) (by decide) rfl rfl ga rfl (fun T407 h408 w409 W410 => ?_)
  have E411 := E388.wr W410
  have S412 := S389.wr W410
  have F413 := F391.same W410
  have F414 := F392.other W410 (Or.inr (slot_ne (t := (.array .int)) (t' := (.array .int)) (Or.inl (hw _ (List.mem_of_getElem? (i := 16) rfl))) (Or.inl (hw _ (List.mem_of_getElem? (i := 14) rfl))) (by decide) (by decide) (by decide)))
  have F415 := F393.other W410 (Or.inr (slot_ne (t := (.array .int)) (t' := (.array .int)) (Or.inl (hw _ (List.mem_of_getElem? (i := 18) rfl))) (Or.inl (hw _ (List.mem_of_getElem? (i := 14) rfl))) (by decide) (by decide) (by decide)))
  have F416 := F394.other W410 (Or.inr (slot_ne (t := (.array .int)) (t' := (.array .int)) (Or.inl (hw _ (List.mem_of_getElem? (i := 20) rfl))) (Or.inl (hw _ (List.mem_of_getElem? (i := 14) rfl))) (by decide) (by decide) (by decide)))
  have F417 := F395.other W410 (Or.inr (slot_ne (t := (.array .int)) (t' := (.array .int)) (Or.inl (hw _ (List.mem_of_getElem? (i := 22) rfl))) (Or.inl (hw _ (List.mem_of_getElem? (i := 14) rfl))) (by decide) (by decide) (by decide)))
  have F418 := F396.other W410 (Or.inr (slot_ne (t := (.array .int)) (t' := (.array .int)) (Or.inl (hw _ (List.mem_of_getElem? (i := 25) rfl))) (Or.inl (hw _ (List.mem_of_getElem? (i := 14) rfl))) (by decide) (by decide) (by decide)))
  have F419 := F397.other W410 (Or.inr (slot_ne (t := (.array .int)) (t' := (.array .int)) (Or.inl (hw _ (List.mem_of_getElem? (i := 27) rfl))) (Or.inl (hw _ (List.mem_of_getElem? (i := 14) rfl))) (by decide) (by decide) (by decide)))
  have F420 := F398.other W410 (Or.inr (slot_ne (t := (.array .int)) (t' := (.array .int)) (Or.inl (hw _ (List.mem_of_getElem? (i := 29) rfl))) (Or.inl (hw _ (List.mem_of_getElem? (i := 14) rfl))) (by decide) (by decide) (by decide)))
  have F421 := F399.other W410 (Or.inr (slot_ne (t := (.array .int)) (t' := (.array .int)) (Or.inl (hw _ (List.mem_of_getElem? (i := 31) rfl))) (Or.inl (hw _ (List.mem_of_getElem? (i := 14) rfl))) (by decide) (by decide) (by decide)))
  have F422 := F400.other W410 (Or.inr (slot_ne (t := .int) (t' := (.array .int)) (Or.inl (hw _ (List.mem_of_getElem? (i := 43) rfl))) (Or.inl (hw _ (List.mem_of_getElem? (i := 14) rfl))) (by decide) (by decide) (by decide)))
  have F423 := F401.other W410 (Or.inr (slot_ne (t := (.object "com/example/antecedent/antecedent/clock/Tree")) (t' := (.array .int)) (Or.inl (hw _ (List.mem_of_getElem? (i := 45) rfl))) (Or.inl (hw _ (List.mem_of_getElem? (i := 14) rfl))) (by decide) (by decide) (by decide)))
  have F424 := F402.other W410 (Or.inr (slot_ne (t := .int) (t' := (.array .int)) (Or.inl (hw _ (List.mem_of_getElem? (i := 52) rfl))) (Or.inl (hw _ (List.mem_of_getElem? (i := 14) rfl))) (by decide) (by decide) (by decide)))
  have F425 := F403.other W410 (Or.inr (slot_ne (t := .boolean) (t' := (.array .int)) (Or.inl (hw _ (List.mem_of_getElem? (i := 69) rfl))) (Or.inl (hw _ (List.mem_of_getElem? (i := 14) rfl))) (by decide) (by decide) (by decide)))
  have z426 : n0 ≤ h408.size := by rw [W410.size]; exact z404
  refine galoadN (pc' := 19) (Ls := #[.val (.ref a), .val (.int (4 : Int32))]) (rest := []) w409 d1_18 rfl rfl rfl ?_
  refine ggetS (pc' := 22) w409 d1_19 (hw _ (List.mem_of_getElem? (i := 9) rfl)) S412 rfl (fun T427 w428 => ?_)
  refine gputF (pc' := 25) (v' := (.ref aL)) (ty := (.array .int)) w428 d1_22 (hw _ (List.mem_of_getElem? (i := 15) rfl)) F414 E411 (Or.inl (hw _ (List.mem_of_getElem? (i := 16) rfl))) (hw _ (List.mem_of_getElem? (i := 1) rfl)) (by decide) rfl rfl ga rfl (fun T429 h430 w431 W432 => ?_)
  have E433 := E411.wr W432
  have S434 := S412.wr W432
  have F435 := F414.same W432
  have F436 := F415.other W432 (Or.inr (slot_ne (t := (.array .int)) (t' := (.array .int)) (Or.inl (hw _ (List.mem_of_getElem? (i := 18) rfl))) (Or.inl (hw _ (List.mem_of_getElem? (i := 16) rfl))) (by decide) (by decide) (by decide)))
  have F437 := F416.other W432 (Or.inr (slot_ne (t := (.array .int)) (t' := (.array .int)) (Or.inl (hw _ (List.mem_of_getElem? (i := 20) rfl))) (Or.inl (hw _ (List.mem_of_getElem? (i := 16) rfl))) (by decide) (by decide) (by decide)))
  have F438 := F417.other W432 (Or.inr (slot_ne (t := (.array .int)) (t' := (.array .int)) (Or.inl (hw _ (List.mem_of_getElem? (i := 22) rfl))) (Or.inl (hw _ (List.mem_of_getElem? (i := 16) rfl))) (by decide) (by decide) (by decide)))
  have F439 := F418.other W432 (Or.inr (slot_ne (t := (.array .int)) (t' := (.array .int)) (Or.inl (hw _ (List.mem_of_getElem? (i := 25) rfl))) (Or.inl (hw _ (List.mem_of_getElem? (i := 16) rfl))) (by decide) (by decide) (by decide)))
  have F440 := F419.other W432 (Or.inr (slot_ne (t := (.array .int)) (t' := (.array .int)) (Or.inl (hw _ (List.mem_of_getElem? (i := 27) rfl))) (Or.inl (hw _ (List.mem_of_getElem? (i := 16) rfl))) (by decide) (by decide) (by decide)))
  have F441 := F420.other W432 (Or.inr (slot_ne (t := (.array .int)) (t' := (.array .int)) (Or.inl (hw _ (List.mem_of_getElem? (i := 29) rfl))) (Or.inl (hw _ (List.mem_of_getElem? (i := 16) rfl))) (by decide) (by decide) (by decide)))
  have F442 := F421.other W432 (Or.inr (slot_ne (t := (.array .int)) (t' := (.array .int)) (Or.inl (hw _ (List.mem_of_getElem? (i := 31) rfl))) (Or.inl (hw _ (List.mem_of_getElem? (i := 16) rfl))) (by decide) (by decide) (by decide)))
  have F443 := F422.other W432 (Or.inr (slot_ne (t := .int) (t' := (.array .int)) (Or.inl (hw _ (List.mem_of_getElem? (i := 43) rfl))) (Or.inl (hw _ (List.mem_of_getElem? (i := 16) rfl))) (by decide) (by decide) (by decide)))
  have F444 := F423.other W432 (Or.inr (slot_ne (t := (.object "com/example/antecedent/antecedent/clock/Tree")) (t' := (.array .int)) (Or.inl (hw _ (List.mem_of_getElem? (i := 45) rfl))) (Or.inl (hw _ (List.mem_of_getElem? (i := 16) rfl))) (by decide) (by decide) (by decide)))
  have F445 := F424.other W432 (Or.inr (slot_ne (t := .int) (t' := (.array .int)) (Or.inl (hw _ (List.mem_of_getElem? (i := 52) rfl))) (Or.inl (hw _ (List.mem_of_getElem? (i := 16) rfl))) (by decide) (by decide) (by decide)))
  have F446 := F425.other W432 (Or.inr (slot_ne (t := .boolean) (t' := (.array .int)) (Or.inl (hw _ (List.mem_of_getElem? (i := 69) rfl))) (Or.inl (hw _ (List.mem_of_getElem? (i := 16) rfl))) (by decide) (by decide) (by decide)))
  have z447 : n0 ≤ h430.size := by rw [W432.size]; exact z426
  refine galoadN (pc' := 26) (Ls := #[.val (.ref a), .val (.int (4 : Int32))]) (rest := []) w431 d1_25 rfl rfl rfl ?_
  refine ggetS (pc' := 29) w431 d1_26 (hw _ (List.mem_of_getElem? (i := 9) rfl)) S434 rfl (fun T448 w449 => ?_)
  refine gputF (pc' := 32) (v' := (.ref aL)) (ty := (.array .int)) w449 d1_29 (hw _ (List.mem_of_getElem? (i := 17) rfl)) F436 E433 (Or.inl (hw _ (List.mem_of_getElem? (i := 18) rfl))) (hw _ (List.mem_of_getElem? (i := 1) rfl)) (by decide) rfl rfl ga rfl (fun T450 h451 w452 W453 => ?_)
  have E454 := E433.wr W453
  have S455 := S434.wr W453
  have F456 := F436.same W453
  have F457 := F437.other W453 (Or.inr (slot_ne (t := (.array .int)) (t' := (.array .int)) (Or.inl (hw _ (List.mem_of_getElem? (i := 20) rfl))) (Or.inl (hw _ (List.mem_of_getElem? (i := 18) rfl))) (by decide) (by decide) (by decide)))
  have F458 := F438.other W453 (Or.inr (slot_ne (t := (.array .int)) (t' := (.array .int)) (Or.inl (hw _ (List.mem_of_getElem? (i := 22) rfl))) (Or.inl (hw _ (List.mem_of_getElem? (i := 18) rfl))) (by decide) (by decide) (by decide)))
  have F459 := F439.other W453 (Or.inr (slot_ne (t := (.array .int)) (t' := (.array .int)) (Or.inl (hw _ (List.mem_of_getElem? (i := 25) rfl))) (Or.inl (hw _ (List.mem_of_getElem? (i := 18) rfl))) (by decide) (by decide) (by decide)))
  have F460 := F440.other W453 (Or.inr (slot_ne (t := (.array .int)) (t' := (.array .int)) (Or.inl (hw _ (List.mem_of_getElem? (i := 27) rfl))) (Or.inl (hw _ (List.mem_of_getElem? (i := 18) rfl))) (by decide) (by decide) (by decide)))
  have F461 := F441.other W453 (Or.inr (slot_ne (t := (.array .int)) (t' := (.array .int)) (Or.inl (hw _ (List.mem_of_getElem? (i := 29) rfl))) (Or.inl (hw _ (List.mem_of_getElem? (i := 18) rfl))) (by decide) (by decide) (by decide)))
  have F462 := F442.other W453 (Or.inr (slot_ne (t := (.array .int)) (t' := (.array .int)) (Or.inl (hw _ (List.mem_of_getElem? (i := 31) rfl))) (Or.inl (hw _ (List.mem_of_getElem? (i := 18) rfl))) (by decide) (by decide) (by decide)))
  have F463 := F443.other W453 (Or.inr (slot_ne (t := .int) (t' := (.array .int)) (Or.inl (hw _ (List.mem_of_getElem? (i := 43) rfl))) (Or.inl (hw _ (List.mem_of_getElem? (i := 18) rfl))) (by decide) (by decide) (by decide)))
  have F464 := F444.other W453 (Or.inr (slot_ne (t := (.object "com/example/antecedent/antecedent/clock/Tree")) (t' := (.array .int)) (Or.inl (hw _ (List.mem_of_getElem? (i := 45) rfl))) (Or.inl (hw _ (List.mem_of_getElem? (i := 18) rfl))) (by decide) (by decide) (by decide)))
  have F465 := F445.other W453 (Or.inr (slot_ne (t := .int) (t' := (.array .int)) (Or.inl (hw _ (List.mem_of_getElem? (i := 52) rfl))) (Or.inl (hw _ (List.mem_of_getElem? (i := 18) rfl))) (by decide) (by decide) (by decide)))
  have F466 := F446.other W453 (Or.inr (slot_ne (t := .boolean) (t' := (.array .int)) (Or.inl (hw _ (List.mem_of_getElem? (i := 69) rfl))) (Or.inl (hw _ (List.mem_of_getElem? (i := 18) rfl))) (by decide) (by decide) (by decide)))
  have z467 : n0 ≤ h451.size := by rw [W453.size]; exact z447
  refine galoadN (pc' := 33) (Ls := #[.val (.ref a), .val (.int (4 : Int32))]) (rest := []) w452 d1_32 rfl rfl rfl ?_
  refine ggetS (pc' := 36) w452 d1_33 (hw _ (List.mem_of_getElem? (i := 9) rfl)) S455 rfl (fun T468 w469 => ?_)
  refine gputF (pc' := 39) (v' := (.ref aL)) (ty := (.array .int)) w469 d1_36 (hw _ (List.mem_of_getElem? (i := 19) rfl)) F457 E454 (Or.inl (hw _ (List.mem_of_getElem? (i := 20) rfl))) (hw _ (List.mem_of_getElem? (i := 1) rfl)) (by decide) rfl rfl ga rfl (fun T470 h471 w472 W473 => ?_)
  have E474 := E454.wr W473
  have S475 := S455.wr W473
  have F476 := F457.same W473
  have F477 := F458.other W473 (Or.inr (slot_ne (t := (.array .int)) (t' := (.array .int)) (Or.inl (hw _ (List.mem_of_getElem? (i := 22) rfl))) (Or.inl (hw _ (List.mem_of_getElem? (i := 20) rfl))) (by decide) (by decide) (by decide)))
  have F478 := F459.other W473 (Or.inr (slot_ne (t := (.array .int)) (t' := (.array .int)) (Or.inl (hw _ (List.mem_of_getElem? (i := 25) rfl))) (Or.inl (hw _ (List.mem_of_getElem? (i := 20) rfl))) (by decide) (by decide) (by decide)))
  have F479 := F460.other W473 (Or.inr (slot_ne (t := (.array .int)) (t' := (.array .int)) (Or.inl (hw _ (List.mem_of_getElem? (i := 27) rfl))) (Or.inl (hw _ (List.mem_of_getElem? (i := 20) rfl))) (by decide) (by decide) (by decide)))
  have F480 := F461.other W473 (Or.inr (slot_ne (t := (.array .int)) (t' := (.array .int)) (Or.inl (hw _ (List.mem_of_getElem? (i := 29) rfl))) (Or.inl (hw _ (List.mem_of_getElem? (i := 20) rfl))) (by decide) (by decide) (by decide)))
  have F481 := F462.other W473 (Or.inr (slot_ne (t := (.array .int)) (t' := (.array .int)) (Or.inl (hw _ (List.mem_of_getElem? (i := 31) rfl))) (Or.inl (hw _ (List.mem_of_getElem? (i := 20) rfl))) (by decide) (by decide) (by decide)))
  have F482 := F463.other W473 (Or.inr (slot_ne (t := .int) (t' := (.array .int)) (Or.inl (hw _ (List.mem_of_getElem? (i := 43) rfl))) (Or.inl (hw _ (List.mem_of_getElem? (i := 20) rfl))) (by decide) (by decide) (by decide)))
  have F483 := F464.other W473 (Or.inr (slot_ne (t := (.object "com/example/antecedent/antecedent/clock/Tree")) (t' := (.array .int)) (Or.inl (hw _ (List.mem_of_getElem? (i := 45) rfl))) (Or.inl (hw _ (List.mem_of_getElem? (i := 20) rfl))) (by decide) (by decide) (by decide)))
  have F484 := F465.other W473 (Or.inr (slot_ne (t := .int) (t' := (.array .int)) (Or.inl (hw _ (List.mem_of_getElem? (i := 52) rfl))) (Or.inl (hw _ (List.mem_of_getElem? (i := 20) rfl))) (by decide) (by decide) (by decide)))
  have F485 := F466.other W473 (Or.inr (slot_ne (t := .boolean) (t' := (.array .int)) (Or.inl (hw _ (List.mem_of_getElem? (i := 69) rfl))) (Or.inl (hw _ (List.mem_of_getElem? (i := 20) rfl))) (by decide) (by decide) (by decide)))
  have z486 : n0 ≤ h471.size := by rw [W473.size]; exact z467
  refine galoadN (pc' := 40) (Ls := #[.val (.ref a), .val (.int (4 : Int32))]) (rest := []) w472 d1_39 rfl rfl rfl ?_
  refine ggetS (pc' := 43) w472 d1_40 (hw _ (List.mem_of_getElem? (i := 9) rfl)) S475 rfl (fun T487 w488 => ?_)
  refine gputF (pc' := 46) (v' := (.ref aL)) (ty := (.array .int)) w488 d1_43 (hw _ (List.mem_of_getElem? (i := 21) rfl)) F477 E474 (Or.inl (hw _ (List.mem_of_getElem? (i := 22) rfl))) (hw _ (List.mem_of_getElem? (i := 1) rfl)) (by decide) rfl rfl ga rfl (fun T489 h490 w491 W492 => ?_)
  have E493 := E474.wr W492
  have S494 := S475.wr W492
  have F495 := F477.same W492
  have F496 := F478.other W492 (Or.inr (slot_ne (t := (.array .int)) (t' := (.array .int)) (Or.inl (hw _ (List.mem_of_getElem? (i := 25) rfl))) (Or.inl (hw _ (List.mem_of_getElem? (i := 22) rfl))) (by decide) (by decide) (by decide)))
  have F497 := F479.other W492 (Or.inr (slot_ne (t := (.array .int)) (t' := (.array .int)) (Or.inl (hw _ (List.mem_of_getElem? (i := 27) rfl))) (Or.inl (hw _ (List.mem_of_getElem? (i := 22) rfl))) (by decide) (by decide) (by decide)))
  have F498 := F480.other W492 (Or.inr (slot_ne (t := (.array .int)) (t' := (.array .int)) (Or.inl (hw _ (List.mem_of_getElem? (i := 29) rfl))) (Or.inl (hw _ (List.mem_of_getElem? (i := 22) rfl))) (by decide) (by decide) (by decide)))
  have F499 := F481.other W492 (Or.inr (slot_ne (t := (.array .int)) (t' := (.array .int)) (Or.inl (hw _ (List.mem_of_getElem? (i := 31) rfl))) (Or.inl (hw _ (List.mem_of_getElem? (i := 22) rfl))) (by decide) (by decide) (by decide)))
  have F500 := F482.other W492 (Or.inr (slot_ne (t := .int) (t' := (.array .int)) (Or.inl (hw _ (List.mem_of_getElem? (i := 43) rfl))) (Or.inl (hw _ (List.mem_of_getElem? (i := 22) rfl))) (by decide) (by decide) (by decide)))
  have F501 := F483.other W492 (Or.inr (slot_ne (t := (.object "com/example/antecedent/antecedent/clock/Tree")) (t' := (.array .int)) (Or.inl (hw _ (List.mem_of_getElem? (i := 45) rfl))) (Or.inl (hw _ (List.mem_of_getElem? (i := 22) rfl))) (by decide) (by decide) (by decide)))
  have F502 := F484.other W492 (Or.inr (slot_ne (t := .int) (t' := (.array .int)) (Or.inl (hw _ (List.mem_of_getElem? (i := 52) rfl))) (Or.inl (hw _ (List.mem_of_getElem? (i := 22) rfl))) (by decide) (by decide) (by decide)))
  have F503 := F485.other W492 (Or.inr (slot_ne (t := .boolean) (t' := (.array .int)) (Or.inl (hw _ (List.mem_of_getElem? (i := 69) rfl))) (Or.inl (hw _ (List.mem_of_getElem? (i := 22) rfl))) (by decide) (by decide) (by decide)))
  have z504 : n0 ≤ h490.size := by rw [W492.size]; exact z486
  refine galoadN (pc' := 47) (Ls := #[.val (.ref a), .val (.int (4 : Int32))]) (rest := []) w491 d1_46 rfl rfl rfl ?_
  refine giloadN (pc' := 48) (Ls := #[.val (.ref a), .val (.int (4 : Int32))]) (rest := [(.ref a)]) w491 d1_47 rfl rfl ?_
  show Go _ _ _ _ _ _ _ _ _ (mkF m 48 #[.val (.ref a), .val (.int (4 : Int32))] [(.int (4 : Int32)), (.ref a)])
  refine gnewP (pc' := 50) (cap := 4) (ty := .int) w491 d1_48 rfl (hw _ (List.mem_of_getElem? (i := 23) rfl)) (by decide) (by decide) (by decide) (by decide) (by decide) rfl (fun T505 h506 ac k_ac s507 w508 E509 V510 => ?_)
  have g_ac : n0 ≤ ac := Nat.le_trans z504 (Nat.le_of_eq s507)
  have ne_a_ac : a ≠ ac := Nat.ne_of_lt (s507 ▸ E493.lt)
  have E512 := E493.ext E509
  have F513 := F496.ext E509
  have F514 := F497.ext E509
  have F515 := F498.ext E509
  have F516 := F499.ext E509
  have F517 := F500.ext E509
  have F518 := F501.ext E509
  have F519 := F502.ext E509
  have F520 := F503.ext E509
  have z521 := Nat.le_trans z504 E509.1
  have V511 : Arv Z h506 ac k_ac .int (4 : Int32) [(.int (0 : Int32)), (.int (0 : Int32)), (.int (0 : Int32)), (.int (0 : Int32))] (.int (0 : Int32)) := V510.pad (pad_rep [] _ 4)
  refine gputF (pc' := 53) (v' := (.ref ac)) (ty := (.array .int)) w508 d1_50 (hw _ (List.mem_of_getElem? (i := 24) rfl)) F513 E512 (Or.inl (hw _ (List.mem_of_getElem? (i := 25) rfl))) (hw _ (List.mem_of_getElem? (i := 1) rfl)) (by decide) rfl rfl ga rfl (fun T522 h523 w524 W525 => ?_)
  have E526 := E512.wr W525
  have F527 := F513.same W525
  have F528 := F514.other W525 (Or.inr (slot_ne (t := (.array .int)) (t' := (.array .int)) (Or.inl (hw _ (List.mem_of_getElem? (i := 27) rfl))) (Or.inl (hw _ (List.mem_of_getElem? (i := 25) rfl))) (by decide) (by decide) (by decide)))
  have F529 := F515.other W525 (Or.inr (slot_ne (t := (.array .int)) (t' := (.array .int)) (Or.inl (hw _ (List.mem_of_getElem? (i := 29) rfl))) (Or.inl (hw _ (List.mem_of_getElem? (i := 25) rfl))) (by decide) (by decide) (by decide)))
  have F530 := F516.other W525 (Or.inr (slot_ne (t := (.array .int)) (t' := (.array .int)) (Or.inl (hw _ (List.mem_of_getElem? (i := 31) rfl))) (Or.inl (hw _ (List.mem_of_getElem? (i := 25) rfl))) (by decide) (by decide) (by decide)))
  have F531 := F517.other W525 (Or.inr (slot_ne (t := .int) (t' := (.array .int)) (Or.inl (hw _ (List.mem_of_getElem? (i := 43) rfl))) (Or.inl (hw _ (List.mem_of_getElem? (i := 25) rfl))) (by decide) (by decide) (by decide)))
  have F532 := F518.other W525 (Or.inr (slot_ne (t := (.object "com/example/antecedent/antecedent/clock/Tree")) (t' := (.array .int)) (Or.inl (hw _ (List.mem_of_getElem? (i := 45) rfl))) (Or.inl (hw _ (List.mem_of_getElem? (i := 25) rfl))) (by decide) (by decide) (by decide)))
  have F533 := F519.other W525 (Or.inr (slot_ne (t := .int) (t' := (.array .int)) (Or.inl (hw _ (List.mem_of_getElem? (i := 52) rfl))) (Or.inl (hw _ (List.mem_of_getElem? (i := 25) rfl))) (by decide) (by decide) (by decide)))
  have F534 := F520.other W525 (Or.inr (slot_ne (t := .boolean) (t' := (.array .int)) (Or.inl (hw _ (List.mem_of_getElem? (i := 69) rfl))) (Or.inl (hw _ (List.mem_of_getElem? (i := 25) rfl))) (by decide) (by decide) (by decide)))
  have V535 := V511.other W525 (Ne.symm ne_a_ac)
  have z536 : n0 ≤ h523.size := by rw [W525.size]; exact z521
  refine galoadN (pc' := 54) (Ls := #[.val (.ref a), .val (.int (4 : Int32))]) (rest := []) w524 d1_53 rfl rfl rfl ?_
  refine giloadN (pc' := 55) (Ls := #[.val (.ref a), .val (.int (4 : Int32))]) (rest := [(.ref a)]) w524 d1_54 rfl rfl ?_
  show Go _ _ _ _ _ _ _ _ _ (mkF m 55 #[.val (.ref a), .val (.int (4 : Int32))] [(.int (4 : Int32)), (.ref a)])
  refine gnewP (pc' := 57) (cap := 4) (ty := .int) w524 d1_55 rfl (hw _ (List.mem_of_getElem? (i := 23) rfl)) (by decide) (by decide) (by decide) (by decide) (by decide) rfl (fun T537 h538 ap k_ap s539 w540 E541 V542 => ?_)
  have g_ap : n0 ≤ ap := Nat.le_trans z536 (Nat.le_of_eq s539)
  have ne_a_ap : a ≠ ap := Nat.ne_of_lt (s539 ▸ E526.lt)
  have ne_ac_ap : ac ≠ ap := Nat.ne_of_lt (s539 ▸ V535.lt)
  have E544 := E526.ext E541
  have F545 := F527.ext E541
  have F546 := F528.ext E541
  have F547 := F529.ext E541
  have F548 := F530.ext E541
  have F549 := F531.ext E541
  have F550 := F532.ext E541
  have F551 := F533.ext E541
  have F552 := F534.ext E541
  have V553 := V535.ext E541
  have z554 := Nat.le_trans z536 E541.1
  have V543 : Arv Z h538 ap k_ap .int (4 : Int32) [(.int (0 : Int32)), (.int (0 : Int32)), (.int (0 : Int32)), (.int (0 : Int32))] (.int (0 : Int32)) := V542.pad (pad_rep [] _ 4)
  refine gputF (pc' := 60) (v' := (.ref ap)) (ty := (.array .int)) w540 d1_57 (hw _ (List.mem_of_getElem? (i := 26) rfl)) F546 E544 (Or.inl (hw _ (List.mem_of_getElem? (i := 27) rfl))) (hw _ (List.mem_of_getElem? (i := 1) rfl)) (by decide) rfl rfl ga rfl (fun T555 h556 w557 W558 => ?_)
  have E559 := E544.wr W558
  have F560 := F545.other W558 (Or.inr (slot_ne (t := (.array .int)) (t' := (.array .int)) (Or.inl (hw _ (List.mem_of_getElem? (i := 25) rfl))) (Or.inl (hw _ (List.mem_of_getElem? (i := 27) rfl))) (by decide) (by decide) (by decide)))
  have F561 := F546.same W558
  have F562 := F547.other W558 (Or.inr (slot_ne (t := (.array .int)) (t' := (.array .int)) (Or.inl (hw _ (List.mem_of_getElem? (i := 29) rfl))) (Or.inl (hw _ (List.mem_of_getElem? (i := 27) rfl))) (by decide) (by decide) (by decide)))
  have F563 := F548.other W558 (Or.inr (slot_ne (t := (.array .int)) (t' := (.array .int)) (Or.inl (hw _ (List.mem_of_getElem? (i := 31) rfl))) (Or.inl (hw _ (List.mem_of_getElem? (i := 27) rfl))) (by decide) (by decide) (by decide)))
  have F564 := F549.other W558 (Or.inr (slot_ne (t := .int) (t' := (.array .int)) (Or.inl (hw _ (List.mem_of_getElem? (i := 43) rfl))) (Or.inl (hw _ (List.mem_of_getElem? (i := 27) rfl))) (by decide) (by decide) (by decide)))
  have F565 := F550.other W558 (Or.inr (slot_ne (t := (.object "com/example/antecedent/antecedent/clock/Tree")) (t' := (.array .int)) (Or.inl (hw _ (List.mem_of_getElem? (i := 45) rfl))) (Or.inl (hw _ (List.mem_of_getElem? (i := 27) rfl))) (by decide) (by decide) (by decide)))
  have F566 := F551.other W558 (Or.inr (slot_ne (t := .int) (t' := (.array .int)) (Or.inl (hw _ (List.mem_of_getElem? (i := 52) rfl))) (Or.inl (hw _ (List.mem_of_getElem? (i := 27) rfl))) (by decide) (by decide) (by decide)))
  have F567 := F552.other W558 (Or.inr (slot_ne (t := .boolean) (t' := (.array .int)) (Or.inl (hw _ (List.mem_of_getElem? (i := 69) rfl))) (Or.inl (hw _ (List.mem_of_getElem? (i := 27) rfl))) (by decide) (by decide) (by decide)))
  have V568 := V553.other W558 (Ne.symm ne_a_ac)
  have V569 := V543.other W558 (Ne.symm ne_a_ap)
  have z570 : n0 ≤ h556.size := by rw [W558.size]; exact z554
  refine galoadN (pc' := 61) (Ls := #[.val (.ref a), .val (.int (4 : Int32))]) (rest := []) w557 d1_60 rfl rfl rfl ?_
  refine giloadN (pc' := 62) (Ls := #[.val (.ref a), .val (.int (4 : Int32))]) (rest := [(.ref a)]) w557 d1_61 rfl rfl ?_
  show Go _ _ _ _ _ _ _ _ _ (mkF m 62 #[.val (.ref a), .val (.int (4 : Int32))] [(.int (4 : Int32)), (.ref a)])
  refine gnewP (pc' := 64) (cap := 4) (ty := .int) w557 d1_62 rfl (hw _ (List.mem_of_getElem? (i := 23) rfl)) (by decide) (by decide) (by decide) (by decide) (by decide) rfl (fun T571 h572 aa k_aa s573 w574 E575 V576 => ?_)
  have g_aa : n0 ≤ aa := Nat.le_trans z570 (Nat.le_of_eq s573)
  have ne_a_aa : a ≠ aa := Nat.ne_of_lt (s573 ▸ E559.lt)
  have ne_ac_aa : ac ≠ aa := Nat.ne_of_lt (s573 ▸ V568.lt)
  have ne_ap_aa : ap ≠ aa := Nat.ne_of_lt (s573 ▸ V569.lt)
  have E578 := E559.ext E575
  have F579 := F560.ext E575
  have F580 := F561.ext E575
  have F581 := F562.ext E575
  have F582 := F563.ext E575
  have F583 := F564.ext E575
  have F584 := F565.ext E575
  have F585 := F566.ext E575
  have F586 := F567.ext E575
  have V587 := V568.ext E575
  have V588 := V569.ext E575
  have z589 := Nat.le_trans z570 E575.1
  have V577 : Arv Z h572 aa k_aa .int (4 : Int32) [(.int (0 : Int32)), (.int (0 : Int32)), (.int (0 : Int32)), (.int (0 : Int32))] (.int (0 : Int32)) := V576.pad (pad_rep [] _ 4)
  refine gputF (pc' := 67) (v' := (.ref aa)) (ty := (.array .int)) w574 d1_64 (hw _ (List.mem_of_getElem? (i := 28) rfl)) F581 E578 (Or.inl (hw _ (List.mem_of_getElem? (i := 29) rfl))) (hw _ (List.mem_of_getElem? (i := 1) rfl)) (by decide) rfl rfl ga rfl (fun T590 h591 w592 W593 => ?_)
  have E594 := E578.wr W593
  have F595 := F579.other W593 (Or.inr (slot_ne (t := (.array .int)) (t' := (.array .int)) (Or.inl (hw _ (List.mem_of_getElem? (i := 25) rfl))) (Or.inl (hw _ (List.mem_of_getElem? (i := 29) rfl))) (by decide) (by decide) (by decide)))
  have F596 := F580.other W593 (Or.inr (slot_ne (t := (.array .int)) (t' := (.array .int)) (Or.inl (hw _ (List.mem_of_getElem? (i := 27) rfl))) (Or.inl (hw _ (List.mem_of_getElem? (i := 29) rfl))) (by decide) (by decide) (by decide)))
  have F597 := F581.same W593
  have F598 := F582.other W593 (Or.inr (slot_ne (t := (.array .int)) (t' := (.array .int)) (Or.inl (hw _ (List.mem_of_getElem? (i := 31) rfl))) (Or.inl (hw _ (List.mem_of_getElem? (i := 29) rfl))) (by decide) (by decide) (by decide)))
  have F599 := F583.other W593 (Or.inr (slot_ne (t := .int) (t' := (.array .int)) (Or.inl (hw _ (List.mem_of_getElem? (i := 43) rfl))) (Or.inl (hw _ (List.mem_of_getElem? (i := 29) rfl))) (by decide) (by decide) (by decide)))
  have F600 := F584.other W593 (Or.inr (slot_ne (t := (.object "com/example/antecedent/antecedent/clock/Tree")) (t' := (.array .int)) (Or.inl (hw _ (List.mem_of_getElem? (i := 45) rfl))) (Or.inl (hw _ (List.mem_of_getElem? (i := 29) rfl))) (by decide) (by decide) (by decide)))
  have F601 := F585.other W593 (Or.inr (slot_ne (t := .int) (t' := (.array .int)) (Or.inl (hw _ (List.mem_of_getElem? (i := 52) rfl))) (Or.inl (hw _ (List.mem_of_getElem? (i := 29) rfl))) (by decide) (by decide) (by decide)))
  have F602 := F586.other W593 (Or.inr (slot_ne (t := .boolean) (t' := (.array .int)) (Or.inl (hw _ (List.mem_of_getElem? (i := 69) rfl))) (Or.inl (hw _ (List.mem_of_getElem? (i := 29) rfl))) (by decide) (by decide) (by decide)))
  have V603 := V587.other W593 (Ne.symm ne_a_ac)
  have V604 := V588.other W593 (Ne.symm ne_a_ap)
  have V605 := V577.other W593 (Ne.symm ne_a_aa)
  have z606 : n0 ≤ h591.size := by rw [W593.size]; exact z589
  refine galoadN (pc' := 68) (Ls := #[.val (.ref a), .val (.int (4 : Int32))]) (rest := []) w592 d1_67 rfl rfl rfl ?_
  refine giloadN (pc' := 69) (Ls := #[.val (.ref a), .val (.int (4 : Int32))]) (rest := [(.ref a)]) w592 d1_68 rfl rfl ?_
  refine giconst (v := (1 : Int32)) (pc' := 70) w592 d1_69 rfl rfl ?_
  refine giadd (pc' := 71) w592 d1_70 rfl ?_
  refine giconst (v := (3 : Int32)) (pc' := 72) w592 d1_71 rfl rfl ?_
  refine gimul (pc' := 73) w592 d1_72 rfl ?_
  show Go _ _ _ _ _ _ _ _ _ (mkF m 73 #[.val (.ref a), .val (.int (4 : Int32))] [(.int (15 : Int32)), (.ref a)])
  refine gnewP (pc' := 75) (cap := 15) (ty := .int) w592 d1_73 rfl (hw _ (List.mem_of_getElem? (i := 23) rfl)) (by decide) (by decide) (by decide) (by decide) (by decide) rfl (fun T607 h608 al k_al s609 w610 E611 V612 => ?_)
  have g_al : n0 ≤ al := Nat.le_trans z606 (Nat.le_of_eq s609)
  have ne_a_al : a ≠ al := Nat.ne_of_lt (s609 ▸ E594.lt)
  have ne_ac_al : ac ≠ al := Nat.ne_of_lt (s609 ▸ V603.lt)
  have ne_ap_al : ap ≠ al := Nat.ne_of_lt (s609 ▸ V604.lt)
  have ne_aa_al : aa ≠ al := Nat.ne_of_lt (s609 ▸ V605.lt)
  have E614 := E594.ext E611
  have F615 := F595.ext E611
  have F616 := F596.ext E611
  have F617 := F597.ext E611
  have F618 := F598.ext E611
  have F619 := F599.ext E611
  have F620 := F600.ext E611
  have F621 := F601.ext E611
  have F622 := F602.ext E611
  have V623 := V603.ext E611
  have V624 := V604.ext E611
  have V625 := V605.ext E611
  have z626 := Nat.le_trans z606 E611.1
  have V613 : Arv Z h608 al k_al .int (15 : Int32) [(.int (0 : Int32)), (.int (0 : Int32)), (.int (0 : Int32)), (.int (0 : Int32)), (.int (0 : Int32)), (.int (0 : Int32)), (.int (0 : Int32)), (.int (0 : Int32)), (.int (0 : Int32)), (.int (0 : Int32)), (.int (0 : Int32)), (.int (0 : Int32)), (.int (0 : Int32)), (.int (0 : Int32)), (.int (0 : Int32))] (.int (0 : Int32)) := V612.pad (pad_rep [] _ 15)
  refine gputF (pc' := 78) (v' := (.ref al)) (ty := (.array .int)) w610 d1_75 (hw _ (List.mem_of_getElem? (i := 30) rfl)) F618 E614 (Or.inl (hw _ (List.mem_of_getElem? (i := 31) rfl))) (hw _ (List.mem_of_getElem? (i := 1) rfl)) (by decide) rfl rfl ga rfl (fun T627 h628 w629 W630 => ?_)
  have E631 := E614.wr W630
  have F632 := F615.other W630 (Or.inr (slot_ne (t := (.array .int)) (t' := (.array .int)) (Or.inl (hw _ (List.mem_of_getElem? (i := 25) rfl))) (Or.inl (hw _ (List.mem_of_getElem? (i := 31) rfl))) (by decide) (by decide) (by decide)))
  have F633 := F616.other W630 (Or.inr (slot_ne (t := (.array .int)) (t' := (.array .int)) (Or.inl (hw _ (List.mem_of_getElem? (i := 27) rfl))) (Or.inl (hw _ (List.mem_of_getElem? (i := 31) rfl))) (by decide) (by decide) (by decide)))
  have F634 := F617.other W630 (Or.inr (slot_ne (t := (.array .int)) (t' := (.array .int)) (Or.inl (hw _ (List.mem_of_getElem? (i := 29) rfl))) (Or.inl (hw _ (List.mem_of_getElem? (i := 31) rfl))) (by decide) (by decide) (by decide)))
  have F635 := F618.same W630
  have F636 := F619.other W630 (Or.inr (slot_ne (t := .int) (t' := (.array .int)) (Or.inl (hw _ (List.mem_of_getElem? (i := 43) rfl))) (Or.inl (hw _ (List.mem_of_getElem? (i := 31) rfl))) (by decide) (by decide) (by decide)))
  have F637 := F620.other W630 (Or.inr (slot_ne (t := (.object "com/example/antecedent/antecedent/clock/Tree")) (t' := (.array .int)) (Or.inl (hw _ (List.mem_of_getElem? (i := 45) rfl))) (Or.inl (hw _ (List.mem_of_getElem? (i := 31) rfl))) (by decide) (by decide) (by decide)))
  have F638 := F621.other W630 (Or.inr (slot_ne (t := .int) (t' := (.array .int)) (Or.inl (hw _ (List.mem_of_getElem? (i := 52) rfl))) (Or.inl (hw _ (List.mem_of_getElem? (i := 31) rfl))) (by decide) (by decide) (by decide)))
  have F639 := F622.other W630 (Or.inr (slot_ne (t := .boolean) (t' := (.array .int)) (Or.inl (hw _ (List.mem_of_getElem? (i := 69) rfl))) (Or.inl (hw _ (List.mem_of_getElem? (i := 31) rfl))) (by decide) (by decide) (by decide)))
  have V640 := V623.other W630 (Ne.symm ne_a_ac)
  have V641 := V624.other W630 (Ne.symm ne_a_ap)
  have V642 := V625.other W630 (Ne.symm ne_a_aa)
  have V643 := V613.other W630 (Ne.symm ne_a_al)
  have z644 : n0 ≤ h628.size := by rw [W630.size]; exact z626
  refine galoadN (pc' := 79) (Ls := #[.val (.ref a), .val (.int (4 : Int32))]) (rest := []) w629 d1_78 rfl rfl rfl ?_
  refine giloadN (pc' := 80) (Ls := #[.val (.ref a), .val (.int (4 : Int32))]) (rest := [(.ref a)]) w629 d1_79 rfl rfl ?_
  refine gcallV (pc' := 83) (argsL := [(.int (4 : Int32))]) (rest := []) (Wt := 0) w629 d1_80 (hw _ (List.mem_of_getElem? (i := 32) rfl)) (hw _ (List.mem_of_getElem? (i := 33) rfl)) (hw _ (List.mem_of_getElem? (i := 35) rfl)) (hw _ (List.mem_of_getElem? (i := 34) rfl)) (hw _ (List.mem_of_getElem? (i := 2) rfl)) (hw _ (List.mem_of_getElem? (i := 36) rfl)) E631 rfl (by decide) pd_d3 (own_clear hw _ a ac ap aa al ⟨ga, g_ac, g_ap, g_aa, g_al⟩ ⟨E631, F632, F633, F634, F635, F638, ⟨_, F636⟩, ⟨_, F637⟩, ⟨_, F639⟩, ⟨_, _, _, (by first | exact rfl | (simp only [List.length_set]; exact rfl)), V640⟩, ⟨_, _, _, (by first | exact rfl | (simp only [List.length_set]; exact rfl)), V641⟩, ⟨_, _, _, (by first | exact rfl | (simp only [List.length_set]; exact rfl)), V642⟩, ⟨_, _, _, (by first | exact rfl | (simp only [List.length_set]; exact rfl)), V643⟩, ne_a_ac, ne_a_ap, ne_a_aa, ne_a_al, ne_ac_ap, ne_ac_aa, ne_ac_al, ne_ap_aa, ne_ap_al, ne_aa_al⟩) rfl rfl rfl rfl (Nat.le_of_eq rfl) (by decide) (by decide) (by decide) (by decide) rfl (fun v645 T646 h647 w648 q649 => ?_)
  obtain ⟨rfl, TT⟩ := q649
  show Go _ _ _ _ _ _ _ _ _ (mkF m 83 #[.val (.ref a), .val (.int (4 : Int32))] [])
  exact gret0 w648 d1_83 (by decide) (by decide) ⟨rfl, ac, ap, aa, al, ⟨ga, g_ac, g_ap, g_aa, g_al⟩, TT⟩
def own_U (Z : State) (h : Heap) (a ac ap aa as : Addr) (kc kp kt ks : ClassId) (vc vp vt : List Value) (dc dp dt ds : Value) (s0 s1 s2 s3 s4 s5 s6 s7 : Int32) : Prop := Fld Z h a "com/example/antecedent/antecedent/clock/Tree" "counts" "[I" (.ref ac) ∧ Fld Z h a "com/example/antecedent/antecedent/clock/Tree" "parents" "[I" (.ref ap) ∧ Fld Z h a "com/example/antecedent/antecedent/clock/Tree" "attached" "[I" (.ref aa) ∧ Fld Z h a "com/example/antecedent/antecedent/clock/Tree" "room" "I" (.int (4 : Int32)) ∧ Arv Z h ac kc .int (4 : Int32) vc dc ∧ Arv Z h ap kp .int (4 : Int32) vp dp ∧ Arv Z h aa kt .int (4 : Int32) vt dt ∧ Arv Z h as ks .int (8 : Int32) [(.int s0), (.int s1), (.int s2), (.int s3), (.int s4), (.int s5), (.int s6), (.int s7)] ds
theorem own_lt4 {s : Int32} (q : ¬ s < 0 ∧ s < 4) : s.toNatClampNeg < 4 := by
  obtain ⟨q1, q2⟩ := q
  have e := nat_of q1
  rw [Int32.lt_iff_toInt_lt] at q2
  have k : (4 : Int32).toInt = 4 := rfl
  omega
set_option maxRecDepth 65536 in
set_option maxHeartbeats 4000000 in
theorem own_unv0 (hw : ∀ d ∈ tables_1, d.before a0 Z = true) (a ac ap aa as : Addr) (kc kp kt ks : ClassId) (vc vp vt : List Value) (dc dp dt ds : Value) (s0 s1 s2 s3 s4 s5 s6 s7 : Int32) (gc : n0 ≤ ac) (gp : n0 ≤ ap) (gt : n0 ≤ aa) (lc : vc.length = 4) (lp : vp.length = 4) (lt : vt.length = 4) (hs0 : ¬ s0 < 0 ∧ s0 < 4) (hs4 : ¬ s4 < 0 ∧ s4 < 4) (n1 : a ≠ ac) (n2 : a ≠ ap) (n3 : a ≠ aa) (n4 : ac ≠ ap) (n5 : ac ≠ aa) (n6 : ap ≠ aa) (n7 : ac ≠ as) (n8 : ap ≠ as) (n9 : aa ≠ as) (n10 : a ≠ as) (UU : own_U Z h a ac ap aa as kc kp kt ks vc vp vt dc dp dt ds s0 s1 s2 s3 s4 s5 s6 s7) :
    Ctr l (⟨"com/example/antecedent/antecedent/clock/Tree", "unview", "([II)V"⟩ : MethodName) prog_8_method_10_code 5 none ({ frames := 0, cells := 0, slots := 0, locals := 0 } : Room) Z #[(.ref a), (.ref as), (.int (0 : Int32))] h n0 (fun v h' => v = none ∧ own_U Z h' a ac ap aa as kc kp kt ks vc vp vt dc dp dt ds s0 s1 s2 s3 s4 s5 s6 s7) [] := by
  refine metGo (Ls := #[.val (.ref a), .val (.ref as), .val (.int (0 : Int32)), .unset, .unset]) pn_d10 (fun m => by first | rfl | (simp [entryFrame, mkF, argsToLocals, Value.category]; done) | (simp [entryFrame, mkF, argsToLocals, Value.category, maxLocals]; done)) ?_
  intro p e s m below meth c T w
  obtain ⟨Fc, Fp, Ft, Fr, Vc, Vp, Vt, Vs⟩ := UU
  refine giloadN (pc' := 1) (Ls := #[.val (.ref a), .val (.ref as), .val (.int (0 : Int32)), .unset, .unset]) (rest := []) w d10_0 rfl rfl ?_
  refine giconst (v := (1 : Int32)) (pc' := 2) w d10_1 rfl rfl ?_
  refine gisub (pc' := 3) w d10_2 rfl ?_
  refine gistoreN (pc' := 4) (Ls := #[.val (.ref a), .val (.ref as), .val (.int (0 : Int32)), .unset, .unset]) (Ls' := #[.val (.ref a), .val (.ref as), .val (.int (0 : Int32)), .val (.int (-1 : Int32)), .unset]) (rest := []) w d10_3 rfl rfl ?_
  refine giloadN (pc' := 5) (Ls := #[.val (.ref a), .val (.ref as), .val (.int (0 : Int32)), .val (.int (-1 : Int32)), .unset]) (rest := []) w d10_4 rfl rfl ?_
  refine gif (pt := 63) (pf := 8) w d10_5  (by decide) rfl rfl (fun (c5 : (-1 : Int32) < (0 : Int32)) => ?_) (fun (c5 : ¬ (-1 : Int32) < (0 : Int32)) => ?_)
  · exact gret0 w d10_63 (by decide) (by decide) ⟨rfl, Fc, Fp, Ft, Fr, Vc, Vp, Vt, Vs⟩
  · exact absurd c5 (by decide)
set_option maxRecDepth 65536 in
set_option maxHeartbeats 4000000 in
theorem own_unv1 (hw : ∀ d ∈ tables_1, d.before a0 Z = true) (a ac ap aa as : Addr) (kc kp kt ks : ClassId) (vc vp vt : List Value) (dc dp dt ds : Value) (s0 s1 s2 s3 s4 s5 s6 s7 : Int32) (gc : n0 ≤ ac) (gp : n0 ≤ ap) (gt : n0 ≤ aa) (lc : vc.length = 4) (lp : vp.length = 4) (lt : vt.length = 4) (hs0 : ¬ s0 < 0 ∧ s0 < 4) (hs4 : ¬ s4 < 0 ∧ s4 < 4) (n1 : a ≠ ac) (n2 : a ≠ ap) (n3 : a ≠ aa) (n4 : ac ≠ ap) (n5 : ac ≠ aa) (n6 : ap ≠ aa) (n7 : ac ≠ as) (n8 : ap ≠ as) (n9 : aa ≠ as) (n10 : a ≠ as) (UU : own_U Z h a ac ap aa as kc kp kt ks vc vp vt dc dp dt ds s0 s1 s2 s3 s4 s5 s6 s7) :
    Ctr l (⟨"com/example/antecedent/antecedent/clock/Tree", "unview", "([II)V"⟩ : MethodName) prog_8_method_10_code 5 none ({ frames := 0, cells := 0, slots := 0, locals := 0 } : Room) Z #[(.ref a), (.ref as), (.int (1 : Int32))] h n0 (fun v h' => v = none ∧ own_U Z h' a ac ap aa as kc kp kt ks (vc.set (s0.toNatClampNeg) (.int s1)) (vp.set (s0.toNatClampNeg) (.int s2)) (vt.set (s0.toNatClampNeg) (.int s3)) dc dp dt ds s0 s1 s2 s3 s4 s5 s6 s7) [] := by
  refine metGo (Ls := #[.val (.ref a), .val (.ref as), .val (.int (1 : Int32)), .unset, .unset]) pn_d10 (fun m => by first | rfl | (simp [entryFrame, mkF, argsToLocals, Value.category]; done) | (simp [entryFrame, mkF, argsToLocals, Value.category, maxLocals]; done)) ?_
  intro p e s m below meth c T w
  obtain ⟨Fc, Fp, Ft, Fr, Vc, Vp, Vt, Vs⟩ := UU
  refine giloadN (pc' := 1) (Ls := #[.val (.ref a), .val (.ref as), .val (.int (1 : Int32)), .unset, .unset]) (rest := []) w d10_0 rfl rfl ?_
  refine giconst (v := (1 : Int32)) (pc' := 2) w d10_1 rfl rfl ?_
  refine gisub (pc' := 3) w d10_2 rfl ?_
  refine gistoreN (pc' := 4) (Ls := #[.val (.ref a), .val (.ref as), .val (.int (1 : Int32)), .unset, .unset]) (Ls' := #[.val (.ref a), .val (.ref as), .val (.int (1 : Int32)), .val (.int (0 : Int32)), .unset]) (rest := []) w d10_3 rfl rfl ?_
  refine giloadN (pc' := 5) (Ls := #[.val (.ref a), .val (.ref as), .val (.int (1 : Int32)), .val (.int (0 : Int32)), .unset]) (rest := []) w d10_4 rfl rfl ?_
  refine gif (pt := 63) (pf := 8) w d10_5  (by decide) rfl rfl (fun (c5 : (0 : Int32) < (0 : Int32)) => ?_) (fun (c5 : ¬ (0 : Int32) < (0 : Int32)) => ?_)
  · exact absurd c5 (by decide)
  · refine galoadN (pc' := 9) (Ls := #[.val (.ref a), .val (.ref as), .val (.int (1 : Int32)), .val (.int (0 : Int32)), .unset]) (rest := []) w d10_8 rfl rfl rfl ?_
    refine giconst (v := (4 : Int32)) (pc' := 10) w d10_9 rfl rfl ?_
    refine giloadN (pc' := 11) (Ls := #[.val (.ref a), .val (.ref as), .val (.int (1 : Int32)), .val (.int (0 : Int32)), .unset]) (rest := [(.int (4 : Int32)), (.ref as)]) w d10_10 rfl rfl ?_
    refine gimul (pc' := 12) w d10_11 rfl ?_
    refine giaload (pc' := 13) (v := (.int s0)) w d10_12 Vs (by decide) rfl rfl ?_
    refine gistore (pc' := 15) (Ls := #[.val (.ref a), .val (.ref as), .val (.int (1 : Int32)), .val (.int (0 : Int32)), .unset]) (Ls' := #[.val (.ref a), .val (.ref as), .val (.int (1 : Int32)), .val (.int (0 : Int32)), .val (.int s0)]) (rest := []) w d10_13 rfl rfl ?_
    refine galoadN (pc' := 16) (Ls := #[.val (.ref a), .val (.ref as), .val (.int (1 : Int32)), .val (.int (0 : Int32)), .val (.int s0)]) (rest := []) w d10_15 rfl rfl rfl ?_
    refine ggetF (pc' := 19) w d10_16 (hw _ (List.mem_of_getElem? (i := 24) rfl)) Fc rfl (fun T650 w651 => ?_)
    refine giload (pc' := 21) (Ls := #[.val (.ref a), .val (.ref as), .val (.int (1 : Int32)), .val (.int (0 : Int32)), .val (.int s0)]) (rest := [(.ref ac)]) w651 d10_19 rfl rfl ?_
    refine galoadN (pc' := 22) (Ls := #[.val (.ref a), .val (.ref as), .val (.int (1 : Int32)), .val (.int (0 : Int32)), .val (.int s0)]) (rest := [(.int s0), (.ref ac)]) w651 d10_21 rfl rfl rfl ?_
    refine giconst (v := (4 : Int32)) (pc' := 23) w651 d10_22 rfl rfl ?_
    refine giloadN (pc' := 24) (Ls := #[.val (.ref a), .val (.ref as), .val (.int (1 : Int32)), .val (.int (0 : Int32)), .val (.int s0)]) (rest := [(.int (4 : Int32)), (.ref as), (.int s0), (.ref ac)]) w651 d10_23 rfl rfl ?_
    refine gimul (pc' := 25) w651 d10_24 rfl ?_
    refine giconst (v := (1 : Int32)) (pc' := 26) w651 d10_25 rfl rfl ?_
    refine giadd (pc' := 27) w651 d10_26 rfl ?_
    refine giaload (pc' := 28) (v := (.int s1)) w651 d10_27 Vs (by decide) rfl rfl ?_
    refine giastore (pc' := 29) (x' := s1) w651 d10_28 rfl Vc hs0 (s0.toNatClampNeg) rfl (by first | exact (Nat.lt_of_lt_of_eq (own_lt4 hs0) lc.symm) | (simp only [List.length_set]; exact (Nat.lt_of_lt_of_eq (own_lt4 hs0) lc.symm))) gc rfl (fun T652 h653 w654 W655 V656 => ?_)
    have F658 := Fc.other W655 (Or.inl n1)
    have F659 := Fp.other W655 (Or.inl n1)
    have V660 := Vp.other W655 (Ne.symm n4)
    have F661 := Ft.other W655 (Or.inl n1)
    have V662 := Vt.other W655 (Ne.symm n5)
    have F663 := Fr.other W655 (Or.inl n1)
    have V664 := Vs.other W655 (Ne.symm n7)
    have V657 : Arv Z h653 ac kc .int (4 : Int32) (vc.set (s0.toNatClampNeg) (.int s1)) dc := V656
    refine galoadN (pc' := 30) (Ls := #[.val (.ref a), .val (.ref as), .val (.int (1 : Int32)), .val (.int (0 : Int32)), .val (.int s0)]) (rest := []) w654 d10_29 rfl rfl rfl ?_
    refine ggetF (pc' := 33) w654 d10_30 (hw _ (List.mem_of_getElem? (i := 26) rfl)) F659 rfl (fun T665 w666 => ?_)
    refine giload (pc' := 35) (Ls := #[.val (.ref a), .val (.ref as), .val (.int (1 : Int32)), .val (.int (0 : Int32)), .val (.int s0)]) (rest := [(.ref ap)]) w666 d10_33 rfl rfl ?_
    refine galoadN (pc' := 36) (Ls := #[.val (.ref a), .val (.ref as), .val (.int (1 : Int32)), .val (.int (0 : Int32)), .val (.int s0)]) (rest := [(.int s0), (.ref ap)]) w666 d10_35 rfl rfl rfl ?_
    refine giconst (v := (4 : Int32)) (pc' := 37) w666 d10_36 rfl rfl ?_
    refine giloadN (pc' := 38) (Ls := #[.val (.ref a), .val (.ref as), .val (.int (1 : Int32)), .val (.int (0 : Int32)), .val (.int s0)]) (rest := [(.int (4 : Int32)), (.ref as), (.int s0), (.ref ap)]) w666 d10_37 rfl rfl ?_
    refine gimul (pc' := 39) w666 d10_38 rfl ?_
    refine giconst (v := (2 : Int32)) (pc' := 40) w666 d10_39 rfl rfl ?_
    refine giadd (pc' := 41) w666 d10_40 rfl ?_
    refine giaload (pc' := 42) (v := (.int s2)) w666 d10_41 V664 (by decide) rfl rfl ?_
    refine giastore (pc' := 43) (x' := s2) w666 d10_42 rfl V660 hs0 (s0.toNatClampNeg) rfl (by first | exact (Nat.lt_of_lt_of_eq (own_lt4 hs0) lp.symm) | (simp only [List.length_set]; exact (Nat.lt_of_lt_of_eq (own_lt4 hs0) lp.symm))) gp rfl (fun T667 h668 w669 W670 V671 => ?_)
    have F673 := F658.other W670 (Or.inl n2)
    have V674 := V657.other W670 n4
    have F675 := F659.other W670 (Or.inl n2)
    have F676 := F661.other W670 (Or.inl n2)
    have V677 := V662.other W670 (Ne.symm n6)
    have F678 := F663.other W670 (Or.inl n2)
    have V679 := V664.other W670 (Ne.symm n8)
    have V672 : Arv Z h668 ap kp .int (4 : Int32) (vp.set (s0.toNatClampNeg) (.int s2)) dp := V671
    refine galoadN (pc' := 44) (Ls := #[.val (.ref a), .val (.ref as), .val (.int (1 : Int32)), .val (.int (0 : Int32)), .val (.int s0)]) (rest := []) w669 d10_43 rfl rfl rfl ?_
    refine ggetF (pc' := 47) w669 d10_44 (hw _ (List.mem_of_getElem? (i := 28) rfl)) F676 rfl (fun T680 w681 => ?_)
    refine giload (pc' := 49) (Ls := #[.val (.ref a), .val (.ref as), .val (.int (1 : Int32)), .val (.int (0 : Int32)), .val (.int s0)]) (rest := [(.ref aa)]) w681 d10_47 rfl rfl ?_
    refine galoadN (pc' := 50) (Ls := #[.val (.ref a), .val (.ref as), .val (.int (1 : Int32)), .val (.int (0 : Int32)), .val (.int s0)]) (rest := [(.int s0), (.ref aa)]) w681 d10_49 rfl rfl rfl ?_
    refine giconst (v := (4 : Int32)) (pc' := 51) w681 d10_50 rfl rfl ?_
    refine giloadN (pc' := 52) (Ls := #[.val (.ref a), .val (.ref as), .val (.int (1 : Int32)), .val (.int (0 : Int32)), .val (.int s0)]) (rest := [(.int (4 : Int32)), (.ref as), (.int s0), (.ref aa)]) w681 d10_51 rfl rfl ?_
    refine gimul (pc' := 53) w681 d10_52 rfl ?_
    refine giconst (v := (3 : Int32)) (pc' := 54) w681 d10_53 rfl rfl ?_
    refine giadd (pc' := 55) w681 d10_54 rfl ?_
    refine giaload (pc' := 56) (v := (.int s3)) w681 d10_55 V679 (by decide) rfl rfl ?_
    refine giastore (pc' := 57) (x' := s3) w681 d10_56 rfl V677 hs0 (s0.toNatClampNeg) rfl (by first | exact (Nat.lt_of_lt_of_eq (own_lt4 hs0) lt.symm) | (simp only [List.length_set]; exact (Nat.lt_of_lt_of_eq (own_lt4 hs0) lt.symm))) gt rfl (fun T682 h683 w684 W685 V686 => ?_)
    have F688 := F673.other W685 (Or.inl n3)
    have V689 := V674.other W685 n5
    have F690 := F675.other W685 (Or.inl n3)
    have V691 := V672.other W685 n6
    have F692 := F676.other W685 (Or.inl n3)
    have F693 := F678.other W685 (Or.inl n3)
    have V694 := V679.other W685 (Ne.symm n9)
    have V687 : Arv Z h683 aa kt .int (4 : Int32) (vt.set (s0.toNatClampNeg) (.int s3)) dt := V686
    refine giinc (pc' := 60) (Ls := #[.val (.ref a), .val (.ref as), .val (.int (1 : Int32)), .val (.int (0 : Int32)), .val (.int s0)]) (Ls' := #[.val (.ref a), .val (.ref as), .val (.int (1 : Int32)), .val (.int (-1 : Int32)), .val (.int s0)]) (rest := []) w684 d10_57 rfl rfl rfl ?_
    refine ggoto (pc' := 4) w684 d10_60 (by decide) rfl ?_
    refine giloadN (pc' := 5) (Ls := #[.val (.ref a), .val (.ref as), .val (.int (1 : Int32)), .val (.int (-1 : Int32)), .val (.int s0)]) (rest := []) w684 d10_4 rfl rfl ?_
    refine gif (pt := 63) (pf := 8) w684 d10_5  (by decide) rfl rfl (fun (c5_1 : (-1 : Int32) < (0 : Int32)) => ?_) (fun (c5_1 : ¬ (-1 : Int32) < (0 : Int32)) => ?_)
    · exact gret0 w684 d10_63 (by decide) (by decide) ⟨rfl, F688, F690, F692, F693, V689, V691, V687, V694⟩
    · exact absurd c5_1 (by decide)
set_option maxRecDepth 65536 in
set_option maxHeartbeats 4000000 in
theorem own_unv2 (hw : ∀ d ∈ tables_1, d.before a0 Z = true) (a ac ap aa as : Addr) (kc kp kt ks : ClassId) (vc vp vt : List Value) (dc dp dt ds : Value) (s0 s1 s2 s3 s4 s5 s6 s7 : Int32) (gc : n0 ≤ ac) (gp : n0 ≤ ap) (gt : n0 ≤ aa) (lc : vc.length = 4) (lp : vp.length = 4) (lt : vt.length = 4) (hs0 : ¬ s0 < 0 ∧ s0 < 4) (hs4 : ¬ s4 < 0 ∧ s4 < 4) (n1 : a ≠ ac) (n2 : a ≠ ap) (n3 : a ≠ aa) (n4 : ac ≠ ap) (n5 : ac ≠ aa) (n6 : ap ≠ aa) (n7 : ac ≠ as) (n8 : ap ≠ as) (n9 : aa ≠ as) (n10 : a ≠ as) (UU : own_U Z h a ac ap aa as kc kp kt ks vc vp vt dc dp dt ds s0 s1 s2 s3 s4 s5 s6 s7) :
    Ctr l (⟨"com/example/antecedent/antecedent/clock/Tree", "unview", "([II)V"⟩ : MethodName) prog_8_method_10_code 5 none ({ frames := 0, cells := 0, slots := 0, locals := 0 } : Room) Z #[(.ref a), (.ref as), (.int (2 : Int32))] h n0 (fun v h' => v = none ∧ own_U Z h' a ac ap aa as kc kp kt ks ((vc.set (s4.toNatClampNeg) (.int s5)).set (s0.toNatClampNeg) (.int s1)) ((vp.set (s4.toNatClampNeg) (.int s6)).set (s0.toNatClampNeg) (.int s2)) ((vt.set (s4.toNatClampNeg) (.int s7)).set (s0.toNatClampNeg) (.int s3)) dc dp dt ds s0 s1 s2 s3 s4 s5 s6 s7) [] := by
  refine metGo (Ls := #[.val (.ref a), .val (.ref as), .val (.int (2 : Int32)), .unset, .unset]) pn_d10 (fun m => by first | rfl | (simp [entryFrame, mkF, argsToLocals, Value.category]; done) | (simp [entryFrame, mkF, argsToLocals, Value.category, maxLocals]; done)) ?_
  intro p e s m below meth c T w
  obtain ⟨Fc, Fp, Ft, Fr, Vc, Vp, Vt, Vs⟩ := UU
  refine giloadN (pc' := 1) (Ls := #[.val (.ref a), .val (.ref as), .val (.int (2 : Int32)), .unset, .unset]) (rest := []) w d10_0 rfl rfl ?_
  refine giconst (v := (1 : Int32)) (pc' := 2) w d10_1 rfl rfl ?_
  refine gisub (pc' := 3) w d10_2 rfl ?_
  refine gistoreN (pc' := 4) (Ls := #[.val (.ref a), .val (.ref as), .val (.int (2 : Int32)), .unset, .unset]) (Ls' := #[.val (.ref a), .val (.ref as), .val (.int (2 : Int32)), .val (.int (1 : Int32)), .unset]) (rest := []) w d10_3 rfl rfl ?_
  refine giloadN (pc' := 5) (Ls := #[.val (.ref a), .val (.ref as), .val (.int (2 : Int32)), .val (.int (1 : Int32)), .unset]) (rest := []) w d10_4 rfl rfl ?_
  refine gif (pt := 63) (pf := 8) w d10_5  (by decide) rfl rfl (fun (c5 : (1 : Int32) < (0 : Int32)) => ?_) (fun (c5 : ¬ (1 : Int32) < (0 : Int32)) => ?_)
  · exact absurd c5 (by decide)
  · refine galoadN (pc' := 9) (Ls := #[.val (.ref a), .val (.ref as), .val (.int (2 : Int32)), .val (.int (1 : Int32)), .unset]) (rest := []) w d10_8 rfl rfl rfl ?_
    refine giconst (v := (4 : Int32)) (pc' := 10) w d10_9 rfl rfl ?_
    refine giloadN (pc' := 11) (Ls := #[.val (.ref a), .val (.ref as), .val (.int (2 : Int32)), .val (.int (1 : Int32)), .unset]) (rest := [(.int (4 : Int32)), (.ref as)]) w d10_10 rfl rfl ?_
    refine gimul (pc' := 12) w d10_11 rfl ?_
    refine giaload (pc' := 13) (v := (.int s4)) w d10_12 Vs (by decide) rfl rfl ?_
    refine gistore (pc' := 15) (Ls := #[.val (.ref a), .val (.ref as), .val (.int (2 : Int32)), .val (.int (1 : Int32)), .unset]) (Ls' := #[.val (.ref a), .val (.ref as), .val (.int (2 : Int32)), .val (.int (1 : Int32)), .val (.int s4)]) (rest := []) w d10_13 rfl rfl ?_
    refine galoadN (pc' := 16) (Ls := #[.val (.ref a), .val (.ref as), .val (.int (2 : Int32)), .val (.int (1 : Int32)), .val (.int s4)]) (rest := []) w d10_15 rfl rfl rfl ?_
    refine ggetF (pc' := 19) w d10_16 (hw _ (List.mem_of_getElem? (i := 24) rfl)) Fc rfl (fun T695 w696 => ?_)
    refine giload (pc' := 21) (Ls := #[.val (.ref a), .val (.ref as), .val (.int (2 : Int32)), .val (.int (1 : Int32)), .val (.int s4)]) (rest := [(.ref ac)]) w696 d10_19 rfl rfl ?_
    refine galoadN (pc' := 22) (Ls := #[.val (.ref a), .val (.ref as), .val (.int (2 : Int32)), .val (.int (1 : Int32)), .val (.int s4)]) (rest := [(.int s4), (.ref ac)]) w696 d10_21 rfl rfl rfl ?_
    refine giconst (v := (4 : Int32)) (pc' := 23) w696 d10_22 rfl rfl ?_
    refine giloadN (pc' := 24) (Ls := #[.val (.ref a), .val (.ref as), .val (.int (2 : Int32)), .val (.int (1 : Int32)), .val (.int s4)]) (rest := [(.int (4 : Int32)), (.ref as), (.int s4), (.ref ac)]) w696 d10_23 rfl rfl ?_
    refine gimul (pc' := 25) w696 d10_24 rfl ?_
    refine giconst (v := (1 : Int32)) (pc' := 26) w696 d10_25 rfl rfl ?_
    refine giadd (pc' := 27) w696 d10_26 rfl ?_
    refine giaload (pc' := 28) (v := (.int s5)) w696 d10_27 Vs (by decide) rfl rfl ?_
    refine giastore (pc' := 29) (x' := s5) w696 d10_28 rfl Vc hs4 (s4.toNatClampNeg) rfl (by first | exact (Nat.lt_of_lt_of_eq (own_lt4 hs4) lc.symm) | (simp only [List.length_set]; exact (Nat.lt_of_lt_of_eq (own_lt4 hs4) lc.symm))) gc rfl (fun T697 h698 w699 W700 V701 => ?_)
    have F703 := Fc.other W700 (Or.inl n1)
    have F704 := Fp.other W700 (Or.inl n1)
    have V705 := Vp.other W700 (Ne.symm n4)
    have F706 := Ft.other W700 (Or.inl n1)
    have V707 := Vt.other W700 (Ne.symm n5)
    have F708 := Fr.other W700 (Or.inl n1)
    have V709 := Vs.other W700 (Ne.symm n7)
    have V702 : Arv Z h698 ac kc .int (4 : Int32) (vc.set (s4.toNatClampNeg) (.int s5)) dc := V701
    refine galoadN (pc' := 30) (Ls := #[.val (.ref a), .val (.ref as), .val (.int (2 : Int32)), .val (.int (1 : Int32)), .val (.int s4)]) (rest := []) w699 d10_29 rfl rfl rfl ?_
    refine ggetF (pc' := 33) w699 d10_30 (hw _ (List.mem_of_getElem? (i := 26) rfl)) F704 rfl (fun T710 w711 => ?_)
    refine giload (pc' := 35) (Ls := #[.val (.ref a), .val (.ref as), .val (.int (2 : Int32)), .val (.int (1 : Int32)), .val (.int s4)]) (rest := [(.ref ap)]) w711 d10_33 rfl rfl ?_
    refine galoadN (pc' := 36) (Ls := #[.val (.ref a), .val (.ref as), .val (.int (2 : Int32)), .val (.int (1 : Int32)), .val (.int s4)]) (rest := [(.int s4), (.ref ap)]) w711 d10_35 rfl rfl rfl ?_
    refine giconst (v := (4 : Int32)) (pc' := 37) w711 d10_36 rfl rfl ?_
    refine giloadN (pc' := 38) (Ls := #[.val (.ref a), .val (.ref as), .val (.int (2 : Int32)), .val (.int (1 : Int32)), .val (.int s4)]) (rest := [(.int (4 : Int32)), (.ref as), (.int s4), (.ref ap)]) w711 d10_37 rfl rfl ?_
    refine gimul (pc' := 39) w711 d10_38 rfl ?_
    refine giconst (v := (2 : Int32)) (pc' := 40) w711 d10_39 rfl rfl ?_
    refine giadd (pc' := 41) w711 d10_40 rfl ?_
    refine giaload (pc' := 42) (v := (.int s6)) w711 d10_41 V709 (by decide) rfl rfl ?_
    refine giastore (pc' := 43) (x' := s6) w711 d10_42 rfl V705 hs4 (s4.toNatClampNeg) rfl (by first | exact (Nat.lt_of_lt_of_eq (own_lt4 hs4) lp.symm) | (simp only [List.length_set]; exact (Nat.lt_of_lt_of_eq (own_lt4 hs4) lp.symm))) gp rfl (fun T712 h713 w714 W715 V716 => ?_)
    have F718 := F703.other W715 (Or.inl n2)
    have V719 := V702.other W715 n4
    have F720 := F704.other W715 (Or.inl n2)
    have F721 := F706.other W715 (Or.inl n2)
    have V722 := V707.other W715 (Ne.symm n6)
    have F723 := F708.other W715 (Or.inl n2)
    have V724 := V709.other W715 (Ne.symm n8)
    have V717 : Arv Z h713 ap kp .int (4 : Int32) (vp.set (s4.toNatClampNeg) (.int s6)) dp := V716
    refine galoadN (pc' := 44) (Ls := #[.val (.ref a), .val (.ref as), .val (.int (2 : Int32)), .val (.int (1 : Int32)), .val (.int s4)]) (rest := []) w714 d10_43 rfl rfl rfl ?_
    refine ggetF (pc' := 47) w714 d10_44 (hw _ (List.mem_of_getElem? (i := 28) rfl)) F721 rfl (fun T725 w726 => ?_)
    refine giload (pc' := 49) (Ls := #[.val (.ref a), .val (.ref as), .val (.int (2 : Int32)), .val (.int (1 : Int32)), .val (.int s4)]) (rest := [(.ref aa)]) w726 d10_47 rfl rfl ?_
    refine galoadN (pc' := 50) (Ls := #[.val (.ref a), .val (.ref as), .val (.int (2 : Int32)), .val (.int (1 : Int32)), .val (.int s4)]) (rest := [(.int s4), (.ref aa)]) w726 d10_49 rfl rfl rfl ?_
    refine giconst (v := (4 : Int32)) (pc' := 51) w726 d10_50 rfl rfl ?_
    refine giloadN (pc' := 52) (Ls := #[.val (.ref a), .val (.ref as), .val (.int (2 : Int32)), .val (.int (1 : Int32)), .val (.int s4)]) (rest := [(.int (4 : Int32)), (.ref as), (.int s4), (.ref aa)]) w726 d10_51 rfl rfl ?_
    refine gimul (pc' := 53) w726 d10_52 rfl ?_
    refine giconst (v := (3 : Int32)) (pc' := 54) w726 d10_53 rfl rfl ?_
    refine giadd (pc' := 55) w726 d10_54 rfl ?_
    refine giaload (pc' := 56) (v := (.int s7)) w726 d10_55 V724 (by decide) rfl rfl ?_
    refine giastore (pc' := 57) (x' := s7) w726 d10_56 rfl V722 hs4 (s4.toNatClampNeg) rfl (by first | exact (Nat.lt_of_lt_of_eq (own_lt4 hs4) lt.symm) | (simp only [List.length_set]; exact (Nat.lt_of_lt_of_eq (own_lt4 hs4) lt.symm))) gt rfl (fun T727 h728 w729 W730 V731 => ?_)
    have F733 := F718.other W730 (Or.inl n3)
    have V734 := V719.other W730 n5
    have F735 := F720.other W730 (Or.inl n3)
    have V736 := V717.other W730 n6
    have F737 := F721.other W730 (Or.inl n3)
    have F738 := F723.other W730 (Or.inl n3)
    have V739 := V724.other W730 (Ne.symm n9)
    have V732 : Arv Z h728 aa kt .int (4 : Int32) (vt.set (s4.toNatClampNeg) (.int s7)) dt := V731
    refine giinc (pc' := 60) (Ls := #[.val (.ref a), .val (.ref as), .val (.int (2 : Int32)), .val (.int (1 : Int32)), .val (.int s4)]) (Ls' := #[.val (.ref a), .val (.ref as), .val (.int (2 : Int32)), .val (.int (0 : Int32)), .val (.int s4)]) (rest := []) w729 d10_57 rfl rfl rfl ?_
    refine ggoto (pc' := 4) w729 d10_60 (by decide) rfl ?_
    refine giloadN (pc' := 5) (Ls := #[.val (.ref a), .val (.ref as), .val (.int (2 : Int32)), .val (.int (0 : Int32)), .val (.int s4)]) (rest := []) w729 d10_4 rfl rfl ?_
    refine gif (pt := 63) (pf := 8) w729 d10_5  (by decide) rfl rfl (fun (c5_1 : (0 : Int32) < (0 : Int32)) => ?_) (fun (c5_1 : ¬ (0 : Int32) < (0 : Int32)) => ?_)
    · exact absurd c5_1 (by decide)
    · refine galoadN (pc' := 9) (Ls := #[.val (.ref a), .val (.ref as), .val (.int (2 : Int32)), .val (.int (0 : Int32)), .val (.int s4)]) (rest := []) w729 d10_8 rfl rfl rfl ?_
      refine giconst (v := (4 : Int32)) (pc' := 10) w729 d10_9 rfl rfl ?_
      refine giloadN (pc' := 11) (Ls := #[.val (.ref a), .val (.ref as), .val (.int (2 : Int32)), .val (.int (0 : Int32)), .val (.int s4)]) (rest := [(.int (4 : Int32)), (.ref as)]) w729 d10_10 rfl rfl ?_
      refine gimul (pc' := 12) w729 d10_11 rfl ?_
      refine giaload (pc' := 13) (v := (.int s0)) w729 d10_12 V739 (by decide) rfl rfl ?_
      refine gistore (pc' := 15) (Ls := #[.val (.ref a), .val (.ref as), .val (.int (2 : Int32)), .val (.int (0 : Int32)), .val (.int s4)]) (Ls' := #[.val (.ref a), .val (.ref as), .val (.int (2 : Int32)), .val (.int (0 : Int32)), .val (.int s0)]) (rest := []) w729 d10_13 rfl rfl ?_
      refine galoadN (pc' := 16) (Ls := #[.val (.ref a), .val (.ref as), .val (.int (2 : Int32)), .val (.int (0 : Int32)), .val (.int s0)]) (rest := []) w729 d10_15 rfl rfl rfl ?_
      refine ggetF (pc' := 19) w729 d10_16 (hw _ (List.mem_of_getElem? (i := 24) rfl)) F733 rfl (fun T740 w741 => ?_)
      refine giload (pc' := 21) (Ls := #[.val (.ref a), .val (.ref as), .val (.int (2 : Int32)), .val (.int (0 : Int32)), .val (.int s0)]) (rest := [(.ref ac)]) w741 d10_19 rfl rfl ?_
      refine galoadN (pc' := 22) (Ls := #[.val (.ref a), .val (.ref as), .val (.int (2 : Int32)), .val (.int (0 : Int32)), .val (.int s0)]) (rest := [(.int s0), (.ref ac)]) w741 d10_21 rfl rfl rfl ?_
      refine giconst (v := (4 : Int32)) (pc' := 23) w741 d10_22 rfl rfl ?_
      refine giloadN (pc' := 24) (Ls := #[.val (.ref a), .val (.ref as), .val (.int (2 : Int32)), .val (.int (0 : Int32)), .val (.int s0)]) (rest := [(.int (4 : Int32)), (.ref as), (.int s0), (.ref ac)]) w741 d10_23 rfl rfl ?_
      refine gimul (pc' := 25) w741 d10_24 rfl ?_
      refine giconst (v := (1 : Int32)) (pc' := 26) w741 d10_25 rfl rfl ?_
      refine giadd (pc' := 27) w741 d10_26 rfl ?_
      refine giaload (pc' := 28) (v := (.int s1)) w741 d10_27 V739 (by decide) rfl rfl ?_
      refine giastore (pc' := 29) (x' := s1) w741 d10_28 rfl V734 hs0 (s0.toNatClampNeg) rfl (by first | exact (Nat.lt_of_lt_of_eq (own_lt4 hs0) lc.symm) | (simp only [List.length_set]; exact (Nat.lt_of_lt_of_eq (own_lt4 hs0) lc.symm))) gc rfl (fun T742 h743 w744 W745 V746 => ?_)
      have F748 := F733.other W745 (Or.inl n1)
      have F749 := F735.other W745 (Or.inl n1)
      have V750 := V736.other W745 (Ne.symm n4)
      have F751 := F737.other W745 (Or.inl n1)
      have V752 := V732.other W745 (Ne.symm n5)
      have F753 := F738.other W745 (Or.inl n1)
      have V754 := V739.other W745 (Ne.symm n7)
      have V747 : Arv Z h743 ac kc .int (4 : Int32) ((vc.set (s4.toNatClampNeg) (.int s5)).set (s0.toNatClampNeg) (.int s1)) dc := V746
      refine galoadN (pc' := 30) (Ls := #[.val (.ref a), .val (.ref as), .val (.int (2 : Int32)), .val (.int (0 : Int32)), .val (.int s0)]) (rest := []) w744 d10_29 rfl rfl rfl ?_
      refine ggetF (pc' := 33) w744 d10_30 (hw _ (List.mem_of_getElem? (i := 26) rfl)) F749 rfl (fun T755 w756 => ?_)
      refine giload (pc' := 35) (Ls := #[.val (.ref a), .val (.ref as), .val (.int (2 : Int32)), .val (.int (0 : Int32)), .val (.int s0)]) (rest := [(.ref ap)]) w756 d10_33 rfl rfl ?_
      refine galoadN (pc' := 36) (Ls := #[.val (.ref a), .val (.ref as), .val (.int (2 : Int32)), .val (.int (0 : Int32)), .val (.int s0)]) (rest := [(.int s0), (.ref ap)]) w756 d10_35 rfl rfl rfl ?_
      refine giconst (v := (4 : Int32)) (pc' := 37) w756 d10_36 rfl rfl ?_
      refine giloadN (pc' := 38) (Ls := #[.val (.ref a), .val (.ref as), .val (.int (2 : Int32)), .val (.int (0 : Int32)), .val (.int s0)]) (rest := [(.int (4 : Int32)), (.ref as), (.int s0), (.ref ap)]) w756 d10_37 rfl rfl ?_
      refine gimul (pc' := 39) w756 d10_38 rfl ?_
      refine giconst (v := (2 : Int32)) (pc' := 40) w756 d10_39 rfl rfl ?_
      refine giadd (pc' := 41) w756 d10_40 rfl ?_
      refine giaload (pc' := 42) (v := (.int s2)) w756 d10_41 V754 (by decide) rfl rfl ?_
      refine giastore (pc' := 43) (x' := s2) w756 d10_42 rfl V750 hs0 (s0.toNatClampNeg) rfl (by first | exact (Nat.lt_of_lt_of_eq (own_lt4 hs0) lp.symm) | (simp only [List.length_set]; exact (Nat.lt_of_lt_of_eq (own_lt4 hs0) lp.symm))) gp rfl (fun T757 h758 w759 W760 V761 => ?_)
      have F763 := F748.other W760 (Or.inl n2)
      have V764 := V747.other W760 n4
      have F765 := F749.other W760 (Or.inl n2)
      have F766 := F751.other W760 (Or.inl n2)
      have V767 := V752.other W760 (Ne.symm n6)
      have F768 := F753.other W760 (Or.inl n2)
      have V769 := V754.other W760 (Ne.symm n8)
      have V762 : Arv Z h758 ap kp .int (4 : Int32) ((vp.set (s4.toNatClampNeg) (.int s6)).set (s0.toNatClampNeg) (.int s2)) dp := V761
      refine galoadN (pc' := 44) (Ls := #[.val (.ref a), .val (.ref as), .val (.int (2 : Int32)), .val (.int (0 : Int32)), .val (.int s0)]) (rest := []) w759 d10_43 rfl rfl rfl ?_
      refine ggetF (pc' := 47) w759 d10_44 (hw _ (List.mem_of_getElem? (i := 28) rfl)) F766 rfl (fun T770 w771 => ?_)
      refine giload (pc' := 49) (Ls := #[.val (.ref a), .val (.ref as), .val (.int (2 : Int32)), .val (.int (0 : Int32)), .val (.int s0)]) (rest := [(.ref aa)]) w771 d10_47 rfl rfl ?_
      refine galoadN (pc' := 50) (Ls := #[.val (.ref a), .val (.ref as), .val (.int (2 : Int32)), .val (.int (0 : Int32)), .val (.int s0)]) (rest := [(.int s0), (.ref aa)]) w771 d10_49 rfl rfl rfl ?_
      refine giconst (v := (4 : Int32)) (pc' := 51) w771 d10_50 rfl rfl ?_
      refine giloadN (pc' := 52) (Ls := #[.val (.ref a), .val (.ref as), .val (.int (2 : Int32)), .val (.int (0 : Int32)), .val (.int s0)]) (rest := [(.int (4 : Int32)), (.ref as), (.int s0), (.ref aa)]) w771 d10_51 rfl rfl ?_
      refine gimul (pc' := 53) w771 d10_52 rfl ?_
      refine giconst (v := (3 : Int32)) (pc' := 54) w771 d10_53 rfl rfl ?_
      refine giadd (pc' := 55) w771 d10_54 rfl ?_
      refine giaload (pc' := 56) (v := (.int s3)) w771 d10_55 V769 (by decide) rfl rfl ?_
      refine giastore (pc' := 57) (x' := s3) w771 d10_56 rfl V767 hs0 (s0.toNatClampNeg) rfl (by first | exact (Nat.lt_of_lt_of_eq (own_lt4 hs0) lt.symm) | (simp only [List.length_set]; exact (Nat.lt_of_lt_of_eq (own_lt4 hs0) lt.symm))) gt rfl (fun T772 h773 w774 W775 V776 => ?_)
      have F778 := F763.other W775 (Or.inl n3)
      have V779 := V764.other W775 n5
      have F780 := F765.other W775 (Or.inl n3)
      have V781 := V762.other W775 n6
      have F782 := F766.other W775 (Or.inl n3)
      have F783 := F768.other W775 (Or.inl n3)
      have V784 := V769.other W775 (Ne.symm n9)
      have V777 : Arv Z h773 aa kt .int (4 : Int32) ((vt.set (s4.toNatClampNeg) (.int s7)).set (s0.toNatClampNeg) (.int s3)) dt := V776
      refine giinc (pc' := 60) (Ls := #[.val (.ref a), .val (.ref as), .val (.int (2 : Int32)), .val (.int (0 : Int32)), .val (.int s0)]) (Ls' := #[.val (.ref a), .val (.ref as), .val (.int (2 : Int32)), .val (.int (-1 : Int32)), .val (.int s0)]) (rest := []) w774 d10_57 rfl rfl rfl ?_
      refine ggoto (pc' := 4) w774 d10_60 (by decide) rfl ?_
      refine giloadN (pc' := 5) (Ls := #[.val (.ref a), .val (.ref as), .val (.int (2 : Int32)), .val (.int (-1 : Int32)), .val (.int s0)]) (rest := []) w774 d10_4 rfl rfl ?_
      refine gif (pt := 63) (pf := 8) w774 d10_5  (by decide) rfl rfl (fun (c5_2 : (-1 : Int32) < (0 : Int32)) => ?_) (fun (c5_2 : ¬ (-1 : Int32) < (0 : Int32)) => ?_)
      · exact gret0 w774 d10_63 (by decide) (by decide) ⟨rfl, F778, F780, F782, F783, V779, V781, V777, V784⟩
      · exact absurd c5_2 (by decide)
def own_e (w t s0 s1 s4 s5 d : Int32) : Int32 := if ¬ w < (1 : Int32) ∧ s0 = t then s1 else if ¬ w < (2 : Int32) ∧ s4 = t then s5 else d
set_option maxRecDepth 65536 in
set_option maxHeartbeats 4000000 in
theorem own_chk (hw : ∀ d ∈ tables_1, d.before a0 Z = true) (t w' init rc rp rt : Int32) (a ac ap aa as : Addr) (kc kp kt ks : ClassId) (vc vp vt : List Value) (dc dp dt ds : Value) (s0 s1 s2 s3 s4 s5 s6 s7 : Int32) (ht : ¬ t < 0 ∧ t < 4) (xc : vc.getD t.toNatClampNeg dc = .int rc) (xp : vp.getD t.toNatClampNeg dp = .int rp) (xt : vt.getD t.toNatClampNeg dt = .int rt) (ec : rc = own_e w' t s0 s1 s4 s5 (init + t)) (ep : rp = own_e w' t s0 s2 s4 s6 (init - t)) (et : rt = own_e w' t s0 s3 s4 s7 ((init ^^^ (-1 : Int32)) ^^^ t)) (UU : own_U Z h a ac ap aa as kc kp kt ks vc vp vt dc dp dt ds s0 s1 s2 s3 s4 s5 s6 s7) :
    Ctr l (⟨"com/example/antecedent/antecedent/clock/TreeUnviewPinLaw", "check", "(Lcom/example/antecedent/antecedent/clock/Tree;II[II)Z"⟩ : MethodName) method_3_code 8 (some .boolean) ({ frames := 0, cells := 0, slots := 0, locals := 0 } : Room) Z #[(.ref a), (.int t), (.int w'), (.ref as), (.int init)] h n0 (fun v h' => v = some (.int 1) ∧ h' = h) [] := by
  refine metGo (Ls := #[.val (.ref a), .val (.int t), .val (.int w'), .val (.ref as), .val (.int init), .unset, .unset, .unset]) pn_d11 (fun m => by first | rfl | (simp [entryFrame, mkF, argsToLocals, Value.category]; done) | (simp [entryFrame, mkF, argsToLocals, Value.category, maxLocals]; done)) ?_
  intro p e s m below meth c T w
  obtain ⟨Fc, Fp, Ft, Fr, Vc, Vp, Vt, Vs⟩ := UU
  refine giload (pc' := 2) (Ls := #[.val (.ref a), .val (.int t), .val (.int w'), .val (.ref as), .val (.int init), .unset, .unset, .unset]) (rest := []) w d11_0 rfl rfl ?_
  refine giloadN (pc' := 3) (Ls := #[.val (.ref a), .val (.int t), .val (.int w'), .val (.ref as), .val (.int init), .unset, .unset, .unset]) (rest := [(.int init)]) w d11_2 rfl rfl ?_
  refine giadd (pc' := 4) w d11_3 rfl ?_
  refine gistore (pc' := 6) (Ls := #[.val (.ref a), .val (.int t), .val (.int w'), .val (.ref as), .val (.int init), .unset, .unset, .unset]) (Ls' := #[.val (.ref a), .val (.int t), .val (.int w'), .val (.ref as), .val (.int init), .val (.int (init + t)), .unset, .unset]) (rest := []) w d11_4 rfl rfl ?_
  refine giload (pc' := 8) (Ls := #[.val (.ref a), .val (.int t), .val (.int w'), .val (.ref as), .val (.int init), .val (.int (init + t)), .unset, .unset]) (rest := []) w d11_6 rfl rfl ?_
  refine giloadN (pc' := 9) (Ls := #[.val (.ref a), .val (.int t), .val (.int w'), .val (.ref as), .val (.int init), .val (.int (init + t)), .unset, .unset]) (rest := [(.int init)]) w d11_8 rfl rfl ?_
  refine gisub (pc' := 10) w d11_9 rfl ?_
  refine gistore (pc' := 12) (Ls := #[.val (.ref a), .val (.int t), .val (.int w'), .val (.ref as), .val (.int init), .val (.int (init + t)), .unset, .unset]) (Ls' := #[.val (.ref a), .val (.int t), .val (.int w'), .val (.ref as), .val (.int init), .val (.int (init + t)), .val (.int (init - t)), .unset]) (rest := []) w d11_10 rfl rfl ?_
  refine giload (pc' := 14) (Ls := #[.val (.ref a), .val (.int t), .val (.int w'), .val (.ref as), .val (.int init), .val (.int (init + t)), .val (.int (init - t)), .unset]) (rest := []) w d11_12 rfl rfl ?_
  refine giconst (v := (-1 : Int32)) (pc' := 15) w d11_14 rfl rfl ?_
  refine gixor (pc' := 16) w d11_15 rfl ?_
  refine giloadN (pc' := 17) (Ls := #[.val (.ref a), .val (.int t), .val (.int w'), .val (.ref as), .val (.int init), .val (.int (init + t)), .val (.int (init - t)), .unset]) (rest := [(.int (init ^^^ (-1 : Int32)))]) w d11_16 rfl rfl ?_
  refine gixor (pc' := 18) w d11_17 rfl ?_
  refine gistore (pc' := 20) (Ls := #[.val (.ref a), .val (.int t), .val (.int w'), .val (.ref as), .val (.int init), .val (.int (init + t)), .val (.int (init - t)), .unset]) (Ls' := #[.val (.ref a), .val (.int t), .val (.int w'), .val (.ref as), .val (.int init), .val (.int (init + t)), .val (.int (init - t)), .val (.int ((init ^^^ (-1 : Int32)) ^^^ t))]) (rest := []) w d11_18 rfl rfl ?_
  refine giloadN (pc' := 21) (Ls := #[.val (.ref a), .val (.int t), .val (.int w'), .val (.ref as), .val (.int init), .val (.int (init + t)), .val (.int (init - t)), .val (.int ((init ^^^ (-1 : Int32)) ^^^ t))]) (rest := []) w d11_20 rfl rfl ?_
  refine giconst (v := (2 : Int32)) (pc' := 22) w d11_21 rfl rfl ?_
  refine gicmp (pt := 49) (pf := 25) w d11_22  (by decide) rfl rfl (fun (c22 : w' < (2 : Int32)) => ?_) (fun (c22 : ¬ w' < (2 : Int32)) => ?_)
  · refine giloadN (pc' := 50) (Ls := #[.val (.ref a), .val (.int t), .val (.int w'), .val (.ref as), .val (.int init), .val (.int (init + t)), .val (.int (init - t)), .val (.int ((init ^^^ (-1 : Int32)) ^^^ t))]) (rest := []) w d11_49 rfl rfl ?_
    refine giconst (v := (1 : Int32)) (pc' := 51) w d11_50 rfl rfl ?_
    refine gicmp (pt := 76) (pf := 54) w d11_51  (by decide) rfl rfl (fun (c51 : w' < (1 : Int32)) => ?_) (fun (c51 : ¬ w' < (1 : Int32)) => ?_)
    · refine galoadN (pc' := 77) (Ls := #[.val (.ref a), .val (.int t), .val (.int w'), .val (.ref as), .val (.int init), .val (.int (init + t)), .val (.int (init - t)), .val (.int ((init ^^^ (-1 : Int32)) ^^^ t))]) (rest := []) w d11_76 rfl rfl rfl ?_
      refine ggetF (pc' := 80) w d11_77 (hw _ (List.mem_of_getElem? (i := 70) rfl)) Fc rfl (fun T785 w786 => ?_)
      refine giloadN (pc' := 81) (Ls := #[.val (.ref a), .val (.int t), .val (.int w'), .val (.ref as), .val (.int init), .val (.int (init + t)), .val (.int (init - t)), .val (.int ((init ^^^ (-1 : Int32)) ^^^ t))]) (rest := [(.ref ac)]) w786 d11_80 rfl rfl ?_
      refine giaload (pc' := 82) (v := (.int rc)) w786 d11_81 Vc ht xc rfl ?_
      refine giload (pc' := 84) (Ls := #[.val (.ref a), .val (.int t), .val (.int w'), .val (.ref as), .val (.int init), .val (.int (init + t)), .val (.int (init - t)), .val (.int ((init ^^^ (-1 : Int32)) ^^^ t))]) (rest := [(.int rc)]) w786 d11_82 rfl rfl ?_
      refine gicmp (pt := 113) (pf := 87) w786 d11_84  (by decide) rfl rfl (fun (c84 : ¬ rc = (init + t)) => ?_) (fun (c84 : rc = (init + t)) => ?_)
      · refine giconst (v := (0 : Int32)) (pc' := 114) w786 d11_113 rfl rfl ?_
        exact absurd (ec.trans (by simp [own_e, c22, c51])) c84
      · refine galoadN (pc' := 88) (Ls := #[.val (.ref a), .val (.int t), .val (.int w'), .val (.ref as), .val (.int init), .val (.int (init + t)), .val (.int (init - t)), .val (.int ((init ^^^ (-1 : Int32)) ^^^ t))]) (rest := []) w786 d11_87 rfl rfl rfl ?_
        refine ggetF (pc' := 91) w786 d11_88 (hw _ (List.mem_of_getElem? (i := 71) rfl)) Fp rfl (fun T787 w788 => ?_)
        refine giloadN (pc' := 92) (Ls := #[.val (.ref a), .val (.int t), .val (.int w'), .val (.ref as), .val (.int init), .val (.int (init + t)), .val (.int (init - t)), .val (.int ((init ^^^ (-1 : Int32)) ^^^ t))]) (rest := [(.ref ap)]) w788 d11_91 rfl rfl ?_
        refine giaload (pc' := 93) (v := (.int rp)) w788 d11_92 Vp ht xp rfl ?_
        refine giload (pc' := 95) (Ls := #[.val (.ref a), .val (.int t), .val (.int w'), .val (.ref as), .val (.int init), .val (.int (init + t)), .val (.int (init - t)), .val (.int ((init ^^^ (-1 : Int32)) ^^^ t))]) (rest := [(.int rp)]) w788 d11_93 rfl rfl ?_
        refine gicmp (pt := 113) (pf := 98) w788 d11_95  (by decide) rfl rfl (fun (c95 : ¬ rp = (init - t)) => ?_) (fun (c95 : rp = (init - t)) => ?_)
        · refine giconst (v := (0 : Int32)) (pc' := 114) w788 d11_113 rfl rfl ?_
          exact absurd (ep.trans (by simp [own_e, c22, c51])) c95
        · refine galoadN (pc' := 99) (Ls := #[.val (.ref a), .val (.int t), .val (.int w'), .val (.ref as), .val (.int init), .val (.int (init + t)), .val (.int (init - t)), .val (.int ((init ^^^ (-1 : Int32)) ^^^ t))]) (rest := []) w788 d11_98 rfl rfl rfl ?_
          refine ggetF (pc' := 102) w788 d11_99 (hw _ (List.mem_of_getElem? (i := 72) rfl)) Ft rfl (fun T789 w790 => ?_)
          refine giloadN (pc' := 103) (Ls := #[.val (.ref a), .val (.int t), .val (.int w'), .val (.ref as), .val (.int init), .val (.int (init + t)), .val (.int (init - t)), .val (.int ((init ^^^ (-1 : Int32)) ^^^ t))]) (rest := [(.ref aa)]) w790 d11_102 rfl rfl ?_
          refine giaload (pc' := 104) (v := (.int rt)) w790 d11_103 Vt ht xt rfl ?_
          refine giload (pc' := 106) (Ls := #[.val (.ref a), .val (.int t), .val (.int w'), .val (.ref as), .val (.int init), .val (.int (init + t)), .val (.int (init - t)), .val (.int ((init ^^^ (-1 : Int32)) ^^^ t))]) (rest := [(.int rt)]) w790 d11_104 rfl rfl ?_
          refine gicmp (pt := 113) (pf := 109) w790 d11_106  (by decide) rfl rfl (fun (c106 : ¬ rt = ((init ^^^ (-1 : Int32)) ^^^ t)) => ?_) (fun (c106 : rt = ((init ^^^ (-1 : Int32)) ^^^ t)) => ?_)
          · refine giconst (v := (0 : Int32)) (pc' := 114) w790 d11_113 rfl rfl ?_
            exact absurd (et.trans (by simp [own_e, c22, c51])) c106
          · refine giconst (v := (1 : Int32)) (pc' := 110) w790 d11_109 rfl rfl ?_
            refine ggoto (pc' := 114) w790 d11_110 (by decide) rfl ?_
            exact gretZ w790 d11_114 rfl (by decide) (by decide) ⟨rfl, rfl⟩
    · refine galoadN (pc' := 55) (Ls := #[.val (.ref a), .val (.int t), .val (.int w'), .val (.ref as), .val (.int init), .val (.int (init + t)), .val (.int (init - t)), .val (.int ((init ^^^ (-1 : Int32)) ^^^ t))]) (rest := []) w d11_54 rfl rfl rfl ?_
      refine giconst (v := (0 : Int32)) (pc' := 56) w d11_55 rfl rfl ?_
      refine giaload (pc' := 57) (v := (.int s0)) w d11_56 Vs (by decide) rfl rfl ?_
      refine giloadN (pc' := 58) (Ls := #[.val (.ref a), .val (.int t), .val (.int w'), .val (.ref as), .val (.int init), .val (.int (init + t)), .val (.int (init - t)), .val (.int ((init ^^^ (-1 : Int32)) ^^^ t))]) (rest := [(.int s0)]) w d11_57 rfl rfl ?_
      refine gicmp (pt := 76) (pf := 61) w d11_58  (by decide) rfl rfl (fun (c58 : ¬ s0 = t) => ?_) (fun (c58 : s0 = t) => ?_)
      · refine galoadN (pc' := 77) (Ls := #[.val (.ref a), .val (.int t), .val (.int w'), .val (.ref as), .val (.int init), .val (.int (init + t)), .val (.int (init - t)), .val (.int ((init ^^^ (-1 : Int32)) ^^^ t))]) (rest := []) w d11_76 rfl rfl rfl ?_
        refine ggetF (pc' := 80) w d11_77 (hw _ (List.mem_of_getElem? (i := 70) rfl)) Fc rfl (fun T791 w792 => ?_)
        refine giloadN (pc' := 81) (Ls := #[.val (.ref a), .val (.int t), .val (.int w'), .val (.ref as), .val (.int init), .val (.int (init + t)), .val (.int (init - t)), .val (.int ((init ^^^ (-1 : Int32)) ^^^ t))]) (rest := [(.ref ac)]) w792 d11_80 rfl rfl ?_
        refine giaload (pc' := 82) (v := (.int rc)) w792 d11_81 Vc ht xc rfl ?_
        refine giload (pc' := 84) (Ls := #[.val (.ref a), .val (.int t), .val (.int w'), .val (.ref as), .val (.int init), .val (.int (init + t)), .val (.int (init - t)), .val (.int ((init ^^^ (-1 : Int32)) ^^^ t))]) (rest := [(.int rc)]) w792 d11_82 rfl rfl ?_
        refine gicmp (pt := 113) (pf := 87) w792 d11_84  (by decide) rfl rfl (fun (c84 : ¬ rc = (init + t)) => ?_) (fun (c84 : rc = (init + t)) => ?_)
        · refine giconst (v := (0 : Int32)) (pc' := 114) w792 d11_113 rfl rfl ?_
          exact absurd (ec.trans (by simp [own_e, c22, c51, c58])) c84
        · refine galoadN (pc' := 88) (Ls := #[.val (.ref a), .val (.int t), .val (.int w'), .val (.ref as), .val (.int init), .val (.int (init + t)), .val (.int (init - t)), .val (.int ((init ^^^ (-1 : Int32)) ^^^ t))]) (rest := []) w792 d11_87 rfl rfl rfl ?_
          refine ggetF (pc' := 91) w792 d11_88 (hw _ (List.mem_of_getElem? (i := 71) rfl)) Fp rfl (fun T793 w794 => ?_)
          refine giloadN (pc' := 92) (Ls := #[.val (.ref a), .val (.int t), .val (.int w'), .val (.ref as), .val (.int init), .val (.int (init + t)), .val (.int (init - t)), .val (.int ((init ^^^ (-1 : Int32)) ^^^ t))]) (rest := [(.ref ap)]) w794 d11_91 rfl rfl ?_
          refine giaload (pc' := 93) (v := (.int rp)) w794 d11_92 Vp ht xp rfl ?_
          refine giload (pc' := 95) (Ls := #[.val (.ref a), .val (.int t), .val (.int w'), .val (.ref as), .val (.int init), .val (.int (init + t)), .val (.int (init - t)), .val (.int ((init ^^^ (-1 : Int32)) ^^^ t))]) (rest := [(.int rp)]) w794 d11_93 rfl rfl ?_
          refine gicmp (pt := 113) (pf := 98) w794 d11_95  (by decide) rfl rfl (fun (c95 : ¬ rp = (init - t)) => ?_) (fun (c95 : rp = (init - t)) => ?_)
          · refine giconst (v := (0 : Int32)) (pc' := 114) w794 d11_113 rfl rfl ?_
            exact absurd (ep.trans (by simp [own_e, c22, c51, c58])) c95
          · refine galoadN (pc' := 99) (Ls := #[.val (.ref a), .val (.int t), .val (.int w'), .val (.ref as), .val (.int init), .val (.int (init + t)), .val (.int (init - t)), .val (.int ((init ^^^ (-1 : Int32)) ^^^ t))]) (rest := []) w794 d11_98 rfl rfl rfl ?_
            refine ggetF (pc' := 102) w794 d11_99 (hw _ (List.mem_of_getElem? (i := 72) rfl)) Ft rfl (fun T795 w796 => ?_)
            refine giloadN (pc' := 103) (Ls := #[.val (.ref a), .val (.int t), .val (.int w'), .val (.ref as), .val (.int init), .val (.int (init + t)), .val (.int (init - t)), .val (.int ((init ^^^ (-1 : Int32)) ^^^ t))]) (rest := [(.ref aa)]) w796 d11_102 rfl rfl ?_
            refine giaload (pc' := 104) (v := (.int rt)) w796 d11_103 Vt ht xt rfl ?_
            refine giload (pc' := 106) (Ls := #[.val (.ref a), .val (.int t), .val (.int w'), .val (.ref as), .val (.int init), .val (.int (init + t)), .val (.int (init - t)), .val (.int ((init ^^^ (-1 : Int32)) ^^^ t))]) (rest := [(.int rt)]) w796 d11_104 rfl rfl ?_
            refine gicmp (pt := 113) (pf := 109) w796 d11_106  (by decide) rfl rfl (fun (c106 : ¬ rt = ((init ^^^ (-1 : Int32)) ^^^ t)) => ?_) (fun (c106 : rt = ((init ^^^ (-1 : Int32)) ^^^ t)) => ?_)
            · refine giconst (v := (0 : Int32)) (pc' := 114) w796 d11_113 rfl rfl ?_
              exact absurd (et.trans (by simp [own_e, c22, c51, c58])) c106
            · refine giconst (v := (1 : Int32)) (pc' := 110) w796 d11_109 rfl rfl ?_
              refine ggoto (pc' := 114) w796 d11_110 (by decide) rfl ?_
              exact gretZ w796 d11_114 rfl (by decide) (by decide) ⟨rfl, rfl⟩
      · refine galoadN (pc' := 62) (Ls := #[.val (.ref a), .val (.int t), .val (.int w'), .val (.ref as), .val (.int init), .val (.int (init + t)), .val (.int (init - t)), .val (.int ((init ^^^ (-1 : Int32)) ^^^ t))]) (rest := []) w d11_61 rfl rfl rfl ?_
        refine giconst (v := (1 : Int32)) (pc' := 63) w d11_62 rfl rfl ?_
        refine giaload (pc' := 64) (v := (.int s1)) w d11_63 Vs (by decide) rfl rfl ?_
        refine gistore (pc' := 66) (Ls := #[.val (.ref a), .val (.int t), .val (.int w'), .val (.ref as), .val (.int init), .val (.int (init + t)), .val (.int (init - t)), .val (.int ((init ^^^ (-1 : Int32)) ^^^ t))]) (Ls' := #[.val (.ref a), .val (.int t), .val (.int w'), .val (.ref as), .val (.int init), .val (.int s1), .val (.int (init - t)), .val (.int ((init ^^^ (-1 : Int32)) ^^^ t))]) (rest := []) w d11_64 rfl rfl ?_
        refine galoadN (pc' := 67) (Ls := #[.val (.ref a), .val (.int t), .val (.int w'), .val (.ref as), .val (.int init), .val (.int s1), .val (.int (init - t)), .val (.int ((init ^^^ (-1 : Int32)) ^^^ t))]) (rest := []) w d11_66 rfl rfl rfl ?_
        refine giconst (v := (2 : Int32)) (pc' := 68) w d11_67 rfl rfl ?_
        refine giaload (pc' := 69) (v := (.int s2)) w d11_68 Vs (by decide) rfl rfl ?_
        refine gistore (pc' := 71) (Ls := #[.val (.ref a), .val (.int t), .val (.int w'), .val (.ref as), .val (.int init), .val (.int s1), .val (.int (init - t)), .val (.int ((init ^^^ (-1 : Int32)) ^^^ t))]) (Ls' := #[.val (.ref a), .val (.int t), .val (.int w'), .val (.ref as), .val (.int init), .val (.int s1), .val (.int s2), .val (.int ((init ^^^ (-1 : Int32)) ^^^ t))]) (rest := []) w d11_69 rfl rfl ?_
        refine galoadN (pc' := 72) (Ls := #[.val (.ref a), .val (.int t), .val (.int w'), .val (.ref as), .val (.int init), .val (.int s1), .val (.int s2), .val (.int ((init ^^^ (-1 : Int32)) ^^^ t))]) (rest := []) w d11_71 rfl rfl rfl ?_
        refine giconst (v := (3 : Int32)) (pc' := 73) w d11_72 rfl rfl ?_
        refine giaload (pc' := 74) (v := (.int s3)) w d11_73 Vs (by decide) rfl rfl ?_
        refine gistore (pc' := 76) (Ls := #[.val (.ref a), .val (.int t), .val (.int w'), .val (.ref as), .val (.int init), .val (.int s1), .val (.int s2), .val (.int ((init ^^^ (-1 : Int32)) ^^^ t))]) (Ls' := #[.val (.ref a), .val (.int t), .val (.int w'), .val (.ref as), .val (.int init), .val (.int s1), .val (.int s2), .val (.int s3)]) (rest := []) w d11_74 rfl rfl ?_
        refine galoadN (pc' := 77) (Ls := #[.val (.ref a), .val (.int t), .val (.int w'), .val (.ref as), .val (.int init), .val (.int s1), .val (.int s2), .val (.int s3)]) (rest := []) w d11_76 rfl rfl rfl ?_
        refine ggetF (pc' := 80) w d11_77 (hw _ (List.mem_of_getElem? (i := 70) rfl)) Fc rfl (fun T797 w798 => ?_)
        refine giloadN (pc' := 81) (Ls := #[.val (.ref a), .val (.int t), .val (.int w'), .val (.ref as), .val (.int init), .val (.int s1), .val (.int s2), .val (.int s3)]) (rest := [(.ref ac)]) w798 d11_80 rfl rfl ?_
        refine giaload (pc' := 82) (v := (.int rc)) w798 d11_81 Vc ht xc rfl ?_
        refine giload (pc' := 84) (Ls := #[.val (.ref a), .val (.int t), .val (.int w'), .val (.ref as), .val (.int init), .val (.int s1), .val (.int s2), .val (.int s3)]) (rest := [(.int rc)]) w798 d11_82 rfl rfl ?_
        refine gicmp (pt := 113) (pf := 87) w798 d11_84  (by decide) rfl rfl (fun (c84 : ¬ rc = s1) => ?_) (fun (c84 : rc = s1) => ?_)
        · refine giconst (v := (0 : Int32)) (pc' := 114) w798 d11_113 rfl rfl ?_
          exact absurd (ec.trans (by simp [own_e, c22, c51, c58])) c84
        · refine galoadN (pc' := 88) (Ls := #[.val (.ref a), .val (.int t), .val (.int w'), .val (.ref as), .val (.int init), .val (.int s1), .val (.int s2), .val (.int s3)]) (rest := []) w798 d11_87 rfl rfl rfl ?_
          refine ggetF (pc' := 91) w798 d11_88 (hw _ (List.mem_of_getElem? (i := 71) rfl)) Fp rfl (fun T799 w800 => ?_)
          refine giloadN (pc' := 92) (Ls := #[.val (.ref a), .val (.int t), .val (.int w'), .val (.ref as), .val (.int init), .val (.int s1), .val (.int s2), .val (.int s3)]) (rest := [(.ref ap)]) w800 d11_91 rfl rfl ?_
          refine giaload (pc' := 93) (v := (.int rp)) w800 d11_92 Vp ht xp rfl ?_
          refine giload (pc' := 95) (Ls := #[.val (.ref a), .val (.int t), .val (.int w'), .val (.ref as), .val (.int init), .val (.int s1), .val (.int s2), .val (.int s3)]) (rest := [(.int rp)]) w800 d11_93 rfl rfl ?_
          refine gicmp (pt := 113) (pf := 98) w800 d11_95  (by decide) rfl rfl (fun (c95 : ¬ rp = s2) => ?_) (fun (c95 : rp = s2) => ?_)
          · refine giconst (v := (0 : Int32)) (pc' := 114) w800 d11_113 rfl rfl ?_
            exact absurd (ep.trans (by simp [own_e, c22, c51, c58])) c95
          · refine galoadN (pc' := 99) (Ls := #[.val (.ref a), .val (.int t), .val (.int w'), .val (.ref as), .val (.int init), .val (.int s1), .val (.int s2), .val (.int s3)]) (rest := []) w800 d11_98 rfl rfl rfl ?_
            refine ggetF (pc' := 102) w800 d11_99 (hw _ (List.mem_of_getElem? (i := 72) rfl)) Ft rfl (fun T801 w802 => ?_)
            refine giloadN (pc' := 103) (Ls := #[.val (.ref a), .val (.int t), .val (.int w'), .val (.ref as), .val (.int init), .val (.int s1), .val (.int s2), .val (.int s3)]) (rest := [(.ref aa)]) w802 d11_102 rfl rfl ?_
            refine giaload (pc' := 104) (v := (.int rt)) w802 d11_103 Vt ht xt rfl ?_
            refine giload (pc' := 106) (Ls := #[.val (.ref a), .val (.int t), .val (.int w'), .val (.ref as), .val (.int init), .val (.int s1), .val (.int s2), .val (.int s3)]) (rest := [(.int rt)]) w802 d11_104 rfl rfl ?_
            refine gicmp (pt := 113) (pf := 109) w802 d11_106  (by decide) rfl rfl (fun (c106 : ¬ rt = s3) => ?_) (fun (c106 : rt = s3) => ?_)
            · refine giconst (v := (0 : Int32)) (pc' := 114) w802 d11_113 rfl rfl ?_
              exact absurd (et.trans (by simp [own_e, c22, c51, c58])) c106
            · refine giconst (v := (1 : Int32)) (pc' := 110) w802 d11_109 rfl rfl ?_
              refine ggoto (pc' := 114) w802 d11_110 (by decide) rfl ?_
              exact gretZ w802 d11_114 rfl (by decide) (by decide) ⟨rfl, rfl⟩
  · refine galoadN (pc' := 26) (Ls := #[.val (.ref a), .val (.int t), .val (.int w'), .val (.ref as), .val (.int init), .val (.int (init + t)), .val (.int (init - t)), .val (.int ((init ^^^ (-1 : Int32)) ^^^ t))]) (rest := []) w d11_25 rfl rfl rfl ?_
    refine giconst (v := (4 : Int32)) (pc' := 27) w d11_26 rfl rfl ?_
    refine giaload (pc' := 28) (v := (.int s4)) w d11_27 Vs (by decide) rfl rfl ?_
    refine giloadN (pc' := 29) (Ls := #[.val (.ref a), .val (.int t), .val (.int w'), .val (.ref as), .val (.int init), .val (.int (init + t)), .val (.int (init - t)), .val (.int ((init ^^^ (-1 : Int32)) ^^^ t))]) (rest := [(.int s4)]) w d11_28 rfl rfl ?_
    refine gicmp (pt := 49) (pf := 32) w d11_29  (by decide) rfl rfl (fun (c29 : ¬ s4 = t) => ?_) (fun (c29 : s4 = t) => ?_)
    · refine giloadN (pc' := 50) (Ls := #[.val (.ref a), .val (.int t), .val (.int w'), .val (.ref as), .val (.int init), .val (.int (init + t)), .val (.int (init - t)), .val (.int ((init ^^^ (-1 : Int32)) ^^^ t))]) (rest := []) w d11_49 rfl rfl ?_
      refine giconst (v := (1 : Int32)) (pc' := 51) w d11_50 rfl rfl ?_
      refine gicmp (pt := 76) (pf := 54) w d11_51  (by decide) rfl rfl (fun (c51 : w' < (1 : Int32)) => ?_) (fun (c51 : ¬ w' < (1 : Int32)) => ?_)
      · refine galoadN (pc' := 77) (Ls := #[.val (.ref a), .val (.int t), .val (.int w'), .val (.ref as), .val (.int init), .val (.int (init + t)), .val (.int (init - t)), .val (.int ((init ^^^ (-1 : Int32)) ^^^ t))]) (rest := []) w d11_76 rfl rfl rfl ?_
        refine ggetF (pc' := 80) w d11_77 (hw _ (List.mem_of_getElem? (i := 70) rfl)) Fc rfl (fun T803 w804 => ?_)
        refine giloadN (pc' := 81) (Ls := #[.val (.ref a), .val (.int t), .val (.int w'), .val (.ref as), .val (.int init), .val (.int (init + t)), .val (.int (init - t)), .val (.int ((init ^^^ (-1 : Int32)) ^^^ t))]) (rest := [(.ref ac)]) w804 d11_80 rfl rfl ?_
        refine giaload (pc' := 82) (v := (.int rc)) w804 d11_81 Vc ht xc rfl ?_
        refine giload (pc' := 84) (Ls := #[.val (.ref a), .val (.int t), .val (.int w'), .val (.ref as), .val (.int init), .val (.int (init + t)), .val (.int (init - t)), .val (.int ((init ^^^ (-1 : Int32)) ^^^ t))]) (rest := [(.int rc)]) w804 d11_82 rfl rfl ?_
        refine gicmp (pt := 113) (pf := 87) w804 d11_84  (by decide) rfl rfl (fun (c84 : ¬ rc = (init + t)) => ?_) (fun (c84 : rc = (init + t)) => ?_)
        · refine giconst (v := (0 : Int32)) (pc' := 114) w804 d11_113 rfl rfl ?_
          exact absurd (ec.trans (by simp [own_e, c22, c29, c51])) c84
        · refine galoadN (pc' := 88) (Ls := #[.val (.ref a), .val (.int t), .val (.int w'), .val (.ref as), .val (.int init), .val (.int (init + t)), .val (.int (init - t)), .val (.int ((init ^^^ (-1 : Int32)) ^^^ t))]) (rest := []) w804 d11_87 rfl rfl rfl ?_
          refine ggetF (pc' := 91) w804 d11_88 (hw _ (List.mem_of_getElem? (i := 71) rfl)) Fp rfl (fun T805 w806 => ?_)
          refine giloadN (pc' := 92) (Ls := #[.val (.ref a), .val (.int t), .val (.int w'), .val (.ref as), .val (.int init), .val (.int (init + t)), .val (.int (init - t)), .val (.int ((init ^^^ (-1 : Int32)) ^^^ t))]) (rest := [(.ref ap)]) w806 d11_91 rfl rfl ?_
          refine giaload (pc' := 93) (v := (.int rp)) w806 d11_92 Vp ht xp rfl ?_
          refine giload (pc' := 95) (Ls := #[.val (.ref a), .val (.int t), .val (.int w'), .val (.ref as), .val (.int init), .val (.int (init + t)), .val (.int (init - t)), .val (.int ((init ^^^ (-1 : Int32)) ^^^ t))]) (rest := [(.int rp)]) w806 d11_93 rfl rfl ?_
          refine gicmp (pt := 113) (pf := 98) w806 d11_95  (by decide) rfl rfl (fun (c95 : ¬ rp = (init - t)) => ?_) (fun (c95 : rp = (init - t)) => ?_)
          · refine giconst (v := (0 : Int32)) (pc' := 114) w806 d11_113 rfl rfl ?_
            exact absurd (ep.trans (by simp [own_e, c22, c29, c51])) c95
          · refine galoadN (pc' := 99) (Ls := #[.val (.ref a), .val (.int t), .val (.int w'), .val (.ref as), .val (.int init), .val (.int (init + t)), .val (.int (init - t)), .val (.int ((init ^^^ (-1 : Int32)) ^^^ t))]) (rest := []) w806 d11_98 rfl rfl rfl ?_
            refine ggetF (pc' := 102) w806 d11_99 (hw _ (List.mem_of_getElem? (i := 72) rfl)) Ft rfl (fun T807 w808 => ?_)
            refine giloadN (pc' := 103) (Ls := #[.val (.ref a), .val (.int t), .val (.int w'), .val (.ref as), .val (.int init), .val (.int (init + t)), .val (.int (init - t)), .val (.int ((init ^^^ (-1 : Int32)) ^^^ t))]) (rest := [(.ref aa)]) w808 d11_102 rfl rfl ?_
            refine giaload (pc' := 104) (v := (.int rt)) w808 d11_103 Vt ht xt rfl ?_
            refine giload (pc' := 106) (Ls := #[.val (.ref a), .val (.int t), .val (.int w'), .val (.ref as), .val (.int init), .val (.int (init + t)), .val (.int (init - t)), .val (.int ((init ^^^ (-1 : Int32)) ^^^ t))]) (rest := [(.int rt)]) w808 d11_104 rfl rfl ?_
            refine gicmp (pt := 113) (pf := 109) w808 d11_106  (by decide) rfl rfl (fun (c106 : ¬ rt = ((init ^^^ (-1 : Int32)) ^^^ t)) => ?_) (fun (c106 : rt = ((init ^^^ (-1 : Int32)) ^^^ t)) => ?_)
            · refine giconst (v := (0 : Int32)) (pc' := 114) w808 d11_113 rfl rfl ?_
              exact absurd (et.trans (by simp [own_e, c22, c29, c51])) c106
            · refine giconst (v := (1 : Int32)) (pc' := 110) w808 d11_109 rfl rfl ?_
              refine ggoto (pc' := 114) w808 d11_110 (by decide) rfl ?_
              exact gretZ w808 d11_114 rfl (by decide) (by decide) ⟨rfl, rfl⟩
      · refine galoadN (pc' := 55) (Ls := #[.val (.ref a), .val (.int t), .val (.int w'), .val (.ref as), .val (.int init), .val (.int (init + t)), .val (.int (init - t)), .val (.int ((init ^^^ (-1 : Int32)) ^^^ t))]) (rest := []) w d11_54 rfl rfl rfl ?_
        refine giconst (v := (0 : Int32)) (pc' := 56) w d11_55 rfl rfl ?_
        refine giaload (pc' := 57) (v := (.int s0)) w d11_56 Vs (by decide) rfl rfl ?_
        refine giloadN (pc' := 58) (Ls := #[.val (.ref a), .val (.int t), .val (.int w'), .val (.ref as), .val (.int init), .val (.int (init + t)), .val (.int (init - t)), .val (.int ((init ^^^ (-1 : Int32)) ^^^ t))]) (rest := [(.int s0)]) w d11_57 rfl rfl ?_
        refine gicmp (pt := 76) (pf := 61) w d11_58  (by decide) rfl rfl (fun (c58 : ¬ s0 = t) => ?_) (fun (c58 : s0 = t) => ?_)
        · refine galoadN (pc' := 77) (Ls := #[.val (.ref a), .val (.int t), .val (.int w'), .val (.ref as), .val (.int init), .val (.int (init + t)), .val (.int (init - t)), .val (.int ((init ^^^ (-1 : Int32)) ^^^ t))]) (rest := []) w d11_76 rfl rfl rfl ?_
          refine ggetF (pc' := 80) w d11_77 (hw _ (List.mem_of_getElem? (i := 70) rfl)) Fc rfl (fun T809 w810 => ?_)
          refine giloadN (pc' := 81) (Ls := #[.val (.ref a), .val (.int t), .val (.int w'), .val (.ref as), .val (.int init), .val (.int (init + t)), .val (.int (init - t)), .val (.int ((init ^^^ (-1 : Int32)) ^^^ t))]) (rest := [(.ref ac)]) w810 d11_80 rfl rfl ?_
          refine giaload (pc' := 82) (v := (.int rc)) w810 d11_81 Vc ht xc rfl ?_
          refine giload (pc' := 84) (Ls := #[.val (.ref a), .val (.int t), .val (.int w'), .val (.ref as), .val (.int init), .val (.int (init + t)), .val (.int (init - t)), .val (.int ((init ^^^ (-1 : Int32)) ^^^ t))]) (rest := [(.int rc)]) w810 d11_82 rfl rfl ?_
          refine gicmp (pt := 113) (pf := 87) w810 d11_84  (by decide) rfl rfl (fun (c84 : ¬ rc = (init + t)) => ?_) (fun (c84 : rc = (init + t)) => ?_)
          · refine giconst (v := (0 : Int32)) (pc' := 114) w810 d11_113 rfl rfl ?_
            exact absurd (ec.trans (by simp [own_e, c22, c29, c51, c58])) c84
          · refine galoadN (pc' := 88) (Ls := #[.val (.ref a), .val (.int t), .val (.int w'), .val (.ref as), .val (.int init), .val (.int (init + t)), .val (.int (init - t)), .val (.int ((init ^^^ (-1 : Int32)) ^^^ t))]) (rest := []) w810 d11_87 rfl rfl rfl ?_
            refine ggetF (pc' := 91) w810 d11_88 (hw _ (List.mem_of_getElem? (i := 71) rfl)) Fp rfl (fun T811 w812 => ?_)
            refine giloadN (pc' := 92) (Ls := #[.val (.ref a), .val (.int t), .val (.int w'), .val (.ref as), .val (.int init), .val (.int (init + t)), .val (.int (init - t)), .val (.int ((init ^^^ (-1 : Int32)) ^^^ t))]) (rest := [(.ref ap)]) w812 d11_91 rfl rfl ?_
            refine giaload (pc' := 93) (v := (.int rp)) w812 d11_92 Vp ht xp rfl ?_
            refine giload (pc' := 95) (Ls := #[.val (.ref a), .val (.int t), .val (.int w'), .val (.ref as), .val (.int init), .val (.int (init + t)), .val (.int (init - t)), .val (.int ((init ^^^ (-1 : Int32)) ^^^ t))]) (rest := [(.int rp)]) w812 d11_93 rfl rfl ?_
            refine gicmp (pt := 113) (pf := 98) w812 d11_95  (by decide) rfl rfl (fun (c95 : ¬ rp = (init - t)) => ?_) (fun (c95 : rp = (init - t)) => ?_)
            · refine giconst (v := (0 : Int32)) (pc' := 114) w812 d11_113 rfl rfl ?_
              exact absurd (ep.trans (by simp [own_e, c22, c29, c51, c58])) c95
            · refine galoadN (pc' := 99) (Ls := #[.val (.ref a), .val (.int t), .val (.int w'), .val (.ref as), .val (.int init), .val (.int (init + t)), .val (.int (init - t)), .val (.int ((init ^^^ (-1 : Int32)) ^^^ t))]) (rest := []) w812 d11_98 rfl rfl rfl ?_
              refine ggetF (pc' := 102) w812 d11_99 (hw _ (List.mem_of_getElem? (i := 72) rfl)) Ft rfl (fun T813 w814 => ?_)
              refine giloadN (pc' := 103) (Ls := #[.val (.ref a), .val (.int t), .val (.int w'), .val (.ref as), .val (.int init), .val (.int (init + t)), .val (.int (init - t)), .val (.int ((init ^^^ (-1 : Int32)) ^^^ t))]) (rest := [(.ref aa)]) w814 d11_102 rfl rfl ?_
              refine giaload (pc' := 104) (v := (.int rt)) w814 d11_103 Vt ht xt rfl ?_
              refine giload (pc' := 106) (Ls := #[.val (.ref a), .val (.int t), .val (.int w'), .val (.ref as), .val (.int init), .val (.int (init + t)), .val (.int (init - t)), .val (.int ((init ^^^ (-1 : Int32)) ^^^ t))]) (rest := [(.int rt)]) w814 d11_104 rfl rfl ?_
              refine gicmp (pt := 113) (pf := 109) w814 d11_106  (by decide) rfl rfl (fun (c106 : ¬ rt = ((init ^^^ (-1 : Int32)) ^^^ t)) => ?_) (fun (c106 : rt = ((init ^^^ (-1 : Int32)) ^^^ t)) => ?_)
              · refine giconst (v := (0 : Int32)) (pc' := 114) w814 d11_113 rfl rfl ?_
                exact absurd (et.trans (by simp [own_e, c22, c29, c51, c58])) c106
              · refine giconst (v := (1 : Int32)) (pc' := 110) w814 d11_109 rfl rfl ?_
                refine ggoto (pc' := 114) w814 d11_110 (by decide) rfl ?_
                exact gretZ w814 d11_114 rfl (by decide) (by decide) ⟨rfl, rfl⟩
        · refine galoadN (pc' := 62) (Ls := #[.val (.ref a), .val (.int t), .val (.int w'), .val (.ref as), .val (.int init), .val (.int (init + t)), .val (.int (init - t)), .val (.int ((init ^^^ (-1 : Int32)) ^^^ t))]) (rest := []) w d11_61 rfl rfl rfl ?_
          refine giconst (v := (1 : Int32)) (pc' := 63) w d11_62 rfl rfl ?_
          refine giaload (pc' := 64) (v := (.int s1)) w d11_63 Vs (by decide) rfl rfl ?_
          refine gistore (pc' := 66) (Ls := #[.val (.ref a), .val (.int t), .val (.int w'), .val (.ref as), .val (.int init), .val (.int (init + t)), .val (.int (init - t)), .val (.int ((init ^^^ (-1 : Int32)) ^^^ t))]) (Ls' := #[.val (.ref a), .val (.int t), .val (.int w'), .val (.ref as), .val (.int init), .val (.int s1), .val (.int (init - t)), .val (.int ((init ^^^ (-1 : Int32)) ^^^ t))]) (rest := []) w d11_64 rfl rfl ?_
          refine galoadN (pc' := 67) (Ls := #[.val (.ref a), .val (.int t), .val (.int w'), .val (.ref as), .val (.int init), .val (.int s1), .val (.int (init - t)), .val (.int ((init ^^^ (-1 : Int32)) ^^^ t))]) (rest := []) w d11_66 rfl rfl rfl ?_
          refine giconst (v := (2 : Int32)) (pc' := 68) w d11_67 rfl rfl ?_
          refine giaload (pc' := 69) (v := (.int s2)) w d11_68 Vs (by decide) rfl rfl ?_
          refine gistore (pc' := 71) (Ls := #[.val (.ref a), .val (.int t), .val (.int w'), .val (.ref as), .val (.int init), .val (.int s1), .val (.int (init - t)), .val (.int ((init ^^^ (-1 : Int32)) ^^^ t))]) (Ls' := #[.val (.ref a), .val (.int t), .val (.int w'), .val (.ref as), .val (.int init), .val (.int s1), .val (.int s2), .val (.int ((init ^^^ (-1 : Int32)) ^^^ t))]) (rest := []) w d11_69 rfl rfl ?_
          refine galoadN (pc' := 72) (Ls := #[.val (.ref a), .val (.int t), .val (.int w'), .val (.ref as), .val (.int init), .val (.int s1), .val (.int s2), .val (.int ((init ^^^ (-1 : Int32)) ^^^ t))]) (rest := []) w d11_71 rfl rfl rfl ?_
          refine giconst (v := (3 : Int32)) (pc' := 73) w d11_72 rfl rfl ?_
          refine giaload (pc' := 74) (v := (.int s3)) w d11_73 Vs (by decide) rfl rfl ?_
          refine gistore (pc' := 76) (Ls := #[.val (.ref a), .val (.int t), .val (.int w'), .val (.ref as), .val (.int init), .val (.int s1), .val (.int s2), .val (.int ((init ^^^ (-1 : Int32)) ^^^ t))]) (Ls' := #[.val (.ref a), .val (.int t), .val (.int w'), .val (.ref as), .val (.int init), .val (.int s1), .val (.int s2), .val (.int s3)]) (rest := []) w d11_74 rfl rfl ?_
          refine galoadN (pc' := 77) (Ls := #[.val (.ref a), .val (.int t), .val (.int w'), .val (.ref as), .val (.int init), .val (.int s1), .val (.int s2), .val (.int s3)]) (rest := []) w d11_76 rfl rfl rfl ?_
          refine ggetF (pc' := 80) w d11_77 (hw _ (List.mem_of_getElem? (i := 70) rfl)) Fc rfl (fun T815 w816 => ?_)
          refine giloadN (pc' := 81) (Ls := #[.val (.ref a), .val (.int t), .val (.int w'), .val (.ref as), .val (.int init), .val (.int s1), .val (.int s2), .val (.int s3)]) (rest := [(.ref ac)]) w816 d11_80 rfl rfl ?_
          refine giaload (pc' := 82) (v := (.int rc)) w816 d11_81 Vc ht xc rfl ?_
          refine giload (pc' := 84) (Ls := #[.val (.ref a), .val (.int t), .val (.int w'), .val (.ref as), .val (.int init), .val (.int s1), .val (.int s2), .val (.int s3)]) (rest := [(.int rc)]) w816 d11_82 rfl rfl ?_
          refine gicmp (pt := 113) (pf := 87) w816 d11_84  (by decide) rfl rfl (fun (c84 : ¬ rc = s1) => ?_) (fun (c84 : rc = s1) => ?_)
          · refine giconst (v := (0 : Int32)) (pc' := 114) w816 d11_113 rfl rfl ?_
            exact absurd (ec.trans (by simp [own_e, c22, c29, c51, c58])) c84
          · refine galoadN (pc' := 88) (Ls := #[.val (.ref a), .val (.int t), .val (.int w'), .val (.ref as), .val (.int init), .val (.int s1), .val (.int s2), .val (.int s3)]) (rest := []) w816 d11_87 rfl rfl rfl ?_
            refine ggetF (pc' := 91) w816 d11_88 (hw _ (List.mem_of_getElem? (i := 71) rfl)) Fp rfl (fun T817 w818 => ?_)
            refine giloadN (pc' := 92) (Ls := #[.val (.ref a), .val (.int t), .val (.int w'), .val (.ref as), .val (.int init), .val (.int s1), .val (.int s2), .val (.int s3)]) (rest := [(.ref ap)]) w818 d11_91 rfl rfl ?_
            refine giaload (pc' := 93) (v := (.int rp)) w818 d11_92 Vp ht xp rfl ?_
            refine giload (pc' := 95) (Ls := #[.val (.ref a), .val (.int t), .val (.int w'), .val (.ref as), .val (.int init), .val (.int s1), .val (.int s2), .val (.int s3)]) (rest := [(.int rp)]) w818 d11_93 rfl rfl ?_
            refine gicmp (pt := 113) (pf := 98) w818 d11_95  (by decide) rfl rfl (fun (c95 : ¬ rp = s2) => ?_) (fun (c95 : rp = s2) => ?_)
            · refine giconst (v := (0 : Int32)) (pc' := 114) w818 d11_113 rfl rfl ?_
              exact absurd (ep.trans (by simp [own_e, c22, c29, c51, c58])) c95
            · refine galoadN (pc' := 99) (Ls := #[.val (.ref a), .val (.int t), .val (.int w'), .val (.ref as), .val (.int init), .val (.int s1), .val (.int s2), .val (.int s3)]) (rest := []) w818 d11_98 rfl rfl rfl ?_
              refine ggetF (pc' := 102) w818 d11_99 (hw _ (List.mem_of_getElem? (i := 72) rfl)) Ft rfl (fun T819 w820 => ?_)
              refine giloadN (pc' := 103) (Ls := #[.val (.ref a), .val (.int t), .val (.int w'), .val (.ref as), .val (.int init), .val (.int s1), .val (.int s2), .val (.int s3)]) (rest := [(.ref aa)]) w820 d11_102 rfl rfl ?_
              refine giaload (pc' := 104) (v := (.int rt)) w820 d11_103 Vt ht xt rfl ?_
              refine giload (pc' := 106) (Ls := #[.val (.ref a), .val (.int t), .val (.int w'), .val (.ref as), .val (.int init), .val (.int s1), .val (.int s2), .val (.int s3)]) (rest := [(.int rt)]) w820 d11_104 rfl rfl ?_
              refine gicmp (pt := 113) (pf := 109) w820 d11_106  (by decide) rfl rfl (fun (c106 : ¬ rt = s3) => ?_) (fun (c106 : rt = s3) => ?_)
              · refine giconst (v := (0 : Int32)) (pc' := 114) w820 d11_113 rfl rfl ?_
                exact absurd (et.trans (by simp [own_e, c22, c29, c51, c58])) c106
              · refine giconst (v := (1 : Int32)) (pc' := 110) w820 d11_109 rfl rfl ?_
                refine ggoto (pc' := 114) w820 d11_110 (by decide) rfl ?_
                exact gretZ w820 d11_114 rfl (by decide) (by decide) ⟨rfl, rfl⟩
    · refine galoadN (pc' := 33) (Ls := #[.val (.ref a), .val (.int t), .val (.int w'), .val (.ref as), .val (.int init), .val (.int (init + t)), .val (.int (init - t)), .val (.int ((init ^^^ (-1 : Int32)) ^^^ t))]) (rest := []) w d11_32 rfl rfl rfl ?_
      refine giconst (v := (5 : Int32)) (pc' := 34) w d11_33 rfl rfl ?_
      refine giaload (pc' := 35) (v := (.int s5)) w d11_34 Vs (by decide) rfl rfl ?_
      refine gistore (pc' := 37) (Ls := #[.val (.ref a), .val (.int t), .val (.int w'), .val (.ref as), .val (.int init), .val (.int (init + t)), .val (.int (init - t)), .val (.int ((init ^^^ (-1 : Int32)) ^^^ t))]) (Ls' := #[.val (.ref a), .val (.int t), .val (.int w'), .val (.ref as), .val (.int init), .val (.int s5), .val (.int (init - t)), .val (.int ((init ^^^ (-1 : Int32)) ^^^ t))]) (rest := []) w d11_35 rfl rfl ?_
      refine galoadN (pc' := 38) (Ls := #[.val (.ref a), .val (.int t), .val (.int w'), .val (.ref as), .val (.int init), .val (.int s5), .val (.int (init - t)), .val (.int ((init ^^^ (-1 : Int32)) ^^^ t))]) (rest := []) w d11_37 rfl rfl rfl ?_
      refine gbipush (v := (6 : Int32)) (pc' := 40) w d11_38 rfl rfl ?_
      refine giaload (pc' := 41) (v := (.int s6)) w d11_40 Vs (by decide) rfl rfl ?_
      refine gistore (pc' := 43) (Ls := #[.val (.ref a), .val (.int t), .val (.int w'), .val (.ref as), .val (.int init), .val (.int s5), .val (.int (init - t)), .val (.int ((init ^^^ (-1 : Int32)) ^^^ t))]) (Ls' := #[.val (.ref a), .val (.int t), .val (.int w'), .val (.ref as), .val (.int init), .val (.int s5), .val (.int s6), .val (.int ((init ^^^ (-1 : Int32)) ^^^ t))]) (rest := []) w d11_41 rfl rfl ?_
      refine galoadN (pc' := 44) (Ls := #[.val (.ref a), .val (.int t), .val (.int w'), .val (.ref as), .val (.int init), .val (.int s5), .val (.int s6), .val (.int ((init ^^^ (-1 : Int32)) ^^^ t))]) (rest := []) w d11_43 rfl rfl rfl ?_
      refine gbipush (v := (7 : Int32)) (pc' := 46) w d11_44 rfl rfl ?_
      refine giaload (pc' := 47) (v := (.int s7)) w d11_46 Vs (by decide) rfl rfl ?_
      refine gistore (pc' := 49) (Ls := #[.val (.ref a), .val (.int t), .val (.int w'), .val (.ref as), .val (.int init), .val (.int s5), .val (.int s6), .val (.int ((init ^^^ (-1 : Int32)) ^^^ t))]) (Ls' := #[.val (.ref a), .val (.int t), .val (.int w'), .val (.ref as), .val (.int init), .val (.int s5), .val (.int s6), .val (.int s7)]) (rest := []) w d11_47 rfl rfl ?_
      refine giloadN (pc' := 50) (Ls := #[.val (.ref a), .val (.int t), .val (.int w'), .val (.ref as), .val (.int init), .val (.int s5), .val (.int s6), .val (.int s7)]) (rest := []) w d11_49 rfl rfl ?_
      refine giconst (v := (1 : Int32)) (pc' := 51) w d11_50 rfl rfl ?_
      refine gicmp (pt := 76) (pf := 54) w d11_51  (by decide) rfl rfl (fun (c51 : w' < (1 : Int32)) => ?_) (fun (c51 : ¬ w' < (1 : Int32)) => ?_)
      · refine galoadN (pc' := 77) (Ls := #[.val (.ref a), .val (.int t), .val (.int w'), .val (.ref as), .val (.int init), .val (.int s5), .val (.int s6), .val (.int s7)]) (rest := []) w d11_76 rfl rfl rfl ?_
        refine ggetF (pc' := 80) w d11_77 (hw _ (List.mem_of_getElem? (i := 70) rfl)) Fc rfl (fun T821 w822 => ?_)
        refine giloadN (pc' := 81) (Ls := #[.val (.ref a), .val (.int t), .val (.int w'), .val (.ref as), .val (.int init), .val (.int s5), .val (.int s6), .val (.int s7)]) (rest := [(.ref ac)]) w822 d11_80 rfl rfl ?_
        refine giaload (pc' := 82) (v := (.int rc)) w822 d11_81 Vc ht xc rfl ?_
        refine giload (pc' := 84) (Ls := #[.val (.ref a), .val (.int t), .val (.int w'), .val (.ref as), .val (.int init), .val (.int s5), .val (.int s6), .val (.int s7)]) (rest := [(.int rc)]) w822 d11_82 rfl rfl ?_
        refine gicmp (pt := 113) (pf := 87) w822 d11_84  (by decide) rfl rfl (fun (c84 : ¬ rc = s5) => ?_) (fun (c84 : rc = s5) => ?_)
        · refine giconst (v := (0 : Int32)) (pc' := 114) w822 d11_113 rfl rfl ?_
          exact absurd (ec.trans (by simp [own_e, c22, c29, c51])) c84
        · refine galoadN (pc' := 88) (Ls := #[.val (.ref a), .val (.int t), .val (.int w'), .val (.ref as), .val (.int init), .val (.int s5), .val (.int s6), .val (.int s7)]) (rest := []) w822 d11_87 rfl rfl rfl ?_
          refine ggetF (pc' := 91) w822 d11_88 (hw _ (List.mem_of_getElem? (i := 71) rfl)) Fp rfl (fun T823 w824 => ?_)
          refine giloadN (pc' := 92) (Ls := #[.val (.ref a), .val (.int t), .val (.int w'), .val (.ref as), .val (.int init), .val (.int s5), .val (.int s6), .val (.int s7)]) (rest := [(.ref ap)]) w824 d11_91 rfl rfl ?_
          refine giaload (pc' := 93) (v := (.int rp)) w824 d11_92 Vp ht xp rfl ?_
          refine giload (pc' := 95) (Ls := #[.val (.ref a), .val (.int t), .val (.int w'), .val (.ref as), .val (.int init), .val (.int s5), .val (.int s6), .val (.int s7)]) (rest := [(.int rp)]) w824 d11_93 rfl rfl ?_
          refine gicmp (pt := 113) (pf := 98) w824 d11_95  (by decide) rfl rfl (fun (c95 : ¬ rp = s6) => ?_) (fun (c95 : rp = s6) => ?_)
          · refine giconst (v := (0 : Int32)) (pc' := 114) w824 d11_113 rfl rfl ?_
            exact absurd (ep.trans (by simp [own_e, c22, c29, c51])) c95
          · refine galoadN (pc' := 99) (Ls := #[.val (.ref a), .val (.int t), .val (.int w'), .val (.ref as), .val (.int init), .val (.int s5), .val (.int s6), .val (.int s7)]) (rest := []) w824 d11_98 rfl rfl rfl ?_
            refine ggetF (pc' := 102) w824 d11_99 (hw _ (List.mem_of_getElem? (i := 72) rfl)) Ft rfl (fun T825 w826 => ?_)
            refine giloadN (pc' := 103) (Ls := #[.val (.ref a), .val (.int t), .val (.int w'), .val (.ref as), .val (.int init), .val (.int s5), .val (.int s6), .val (.int s7)]) (rest := [(.ref aa)]) w826 d11_102 rfl rfl ?_
            refine giaload (pc' := 104) (v := (.int rt)) w826 d11_103 Vt ht xt rfl ?_
            refine giload (pc' := 106) (Ls := #[.val (.ref a), .val (.int t), .val (.int w'), .val (.ref as), .val (.int init), .val (.int s5), .val (.int s6), .val (.int s7)]) (rest := [(.int rt)]) w826 d11_104 rfl rfl ?_
            refine gicmp (pt := 113) (pf := 109) w826 d11_106  (by decide) rfl rfl (fun (c106 : ¬ rt = s7) => ?_) (fun (c106 : rt = s7) => ?_)
            · refine giconst (v := (0 : Int32)) (pc' := 114) w826 d11_113 rfl rfl ?_
              exact absurd (et.trans (by simp [own_e, c22, c29, c51])) c106
            · refine giconst (v := (1 : Int32)) (pc' := 110) w826 d11_109 rfl rfl ?_
              refine ggoto (pc' := 114) w826 d11_110 (by decide) rfl ?_
              exact gretZ w826 d11_114 rfl (by decide) (by decide) ⟨rfl, rfl⟩
      · refine galoadN (pc' := 55) (Ls := #[.val (.ref a), .val (.int t), .val (.int w'), .val (.ref as), .val (.int init), .val (.int s5), .val (.int s6), .val (.int s7)]) (rest := []) w d11_54 rfl rfl rfl ?_
        refine giconst (v := (0 : Int32)) (pc' := 56) w d11_55 rfl rfl ?_
        refine giaload (pc' := 57) (v := (.int s0)) w d11_56 Vs (by decide) rfl rfl ?_
        refine giloadN (pc' := 58) (Ls := #[.val (.ref a), .val (.int t), .val (.int w'), .val (.ref as), .val (.int init), .val (.int s5), .val (.int s6), .val (.int s7)]) (rest := [(.int s0)]) w d11_57 rfl rfl ?_
        refine gicmp (pt := 76) (pf := 61) w d11_58  (by decide) rfl rfl (fun (c58 : ¬ s0 = t) => ?_) (fun (c58 : s0 = t) => ?_)
        · refine galoadN (pc' := 77) (Ls := #[.val (.ref a), .val (.int t), .val (.int w'), .val (.ref as), .val (.int init), .val (.int s5), .val (.int s6), .val (.int s7)]) (rest := []) w d11_76 rfl rfl rfl ?_
          refine ggetF (pc' := 80) w d11_77 (hw _ (List.mem_of_getElem? (i := 70) rfl)) Fc rfl (fun T827 w828 => ?_)
          refine giloadN (pc' := 81) (Ls := #[.val (.ref a), .val (.int t), .val (.int w'), .val (.ref as), .val (.int init), .val (.int s5), .val (.int s6), .val (.int s7)]) (rest := [(.ref ac)]) w828 d11_80 rfl rfl ?_
          refine giaload (pc' := 82) (v := (.int rc)) w828 d11_81 Vc ht xc rfl ?_
          refine giload (pc' := 84) (Ls := #[.val (.ref a), .val (.int t), .val (.int w'), .val (.ref as), .val (.int init), .val (.int s5), .val (.int s6), .val (.int s7)]) (rest := [(.int rc)]) w828 d11_82 rfl rfl ?_
          refine gicmp (pt := 113) (pf := 87) w828 d11_84  (by decide) rfl rfl (fun (c84 : ¬ rc = s5) => ?_) (fun (c84 : rc = s5) => ?_)
          · refine giconst (v := (0 : Int32)) (pc' := 114) w828 d11_113 rfl rfl ?_
            exact absurd (ec.trans (by simp [own_e, c22, c29, c51, c58])) c84
          · refine galoadN (pc' := 88) (Ls := #[.val (.ref a), .val (.int t), .val (.int w'), .val (.ref as), .val (.int init), .val (.int s5), .val (.int s6), .val (.int s7)]) (rest := []) w828 d11_87 rfl rfl rfl ?_
            refine ggetF (pc' := 91) w828 d11_88 (hw _ (List.mem_of_getElem? (i := 71) rfl)) Fp rfl (fun T829 w830 => ?_)
            refine giloadN (pc' := 92) (Ls := #[.val (.ref a), .val (.int t), .val (.int w'), .val (.ref as), .val (.int init), .val (.int s5), .val (.int s6), .val (.int s7)]) (rest := [(.ref ap)]) w830 d11_91 rfl rfl ?_
            refine giaload (pc' := 93) (v := (.int rp)) w830 d11_92 Vp ht xp rfl ?_
            refine giload (pc' := 95) (Ls := #[.val (.ref a), .val (.int t), .val (.int w'), .val (.ref as), .val (.int init), .val (.int s5), .val (.int s6), .val (.int s7)]) (rest := [(.int rp)]) w830 d11_93 rfl rfl ?_
            refine gicmp (pt := 113) (pf := 98) w830 d11_95  (by decide) rfl rfl (fun (c95 : ¬ rp = s6) => ?_) (fun (c95 : rp = s6) => ?_)
            · refine giconst (v := (0 : Int32)) (pc' := 114) w830 d11_113 rfl rfl ?_
              exact absurd (ep.trans (by simp [own_e, c22, c29, c51, c58])) c95
            · refine galoadN (pc' := 99) (Ls := #[.val (.ref a), .val (.int t), .val (.int w'), .val (.ref as), .val (.int init), .val (.int s5), .val (.int s6), .val (.int s7)]) (rest := []) w830 d11_98 rfl rfl rfl ?_
              refine ggetF (pc' := 102) w830 d11_99 (hw _ (List.mem_of_getElem? (i := 72) rfl)) Ft rfl (fun T831 w832 => ?_)
              refine giloadN (pc' := 103) (Ls := #[.val (.ref a), .val (.int t), .val (.int w'), .val (.ref as), .val (.int init), .val (.int s5), .val (.int s6), .val (.int s7)]) (rest := [(.ref aa)]) w832 d11_102 rfl rfl ?_
              refine giaload (pc' := 104) (v := (.int rt)) w832 d11_103 Vt ht xt rfl ?_
              refine giload (pc' := 106) (Ls := #[.val (.ref a), .val (.int t), .val (.int w'), .val (.ref as), .val (.int init), .val (.int s5), .val (.int s6), .val (.int s7)]) (rest := [(.int rt)]) w832 d11_104 rfl rfl ?_
              refine gicmp (pt := 113) (pf := 109) w832 d11_106  (by decide) rfl rfl (fun (c106 : ¬ rt = s7) => ?_) (fun (c106 : rt = s7) => ?_)
              · refine giconst (v := (0 : Int32)) (pc' := 114) w832 d11_113 rfl rfl ?_
                exact absurd (et.trans (by simp [own_e, c22, c29, c51, c58])) c106
              · refine giconst (v := (1 : Int32)) (pc' := 110) w832 d11_109 rfl rfl ?_
                refine ggoto (pc' := 114) w832 d11_110 (by decide) rfl ?_
                exact gretZ w832 d11_114 rfl (by decide) (by decide) ⟨rfl, rfl⟩
        · refine galoadN (pc' := 62) (Ls := #[.val (.ref a), .val (.int t), .val (.int w'), .val (.ref as), .val (.int init), .val (.int s5), .val (.int s6), .val (.int s7)]) (rest := []) w d11_61 rfl rfl rfl ?_
          refine giconst (v := (1 : Int32)) (pc' := 63) w d11_62 rfl rfl ?_
          refine giaload (pc' := 64) (v := (.int s1)) w d11_63 Vs (by decide) rfl rfl ?_
          refine gistore (pc' := 66) (Ls := #[.val (.ref a), .val (.int t), .val (.int w'), .val (.ref as), .val (.int init), .val (.int s5), .val (.int s6), .val (.int s7)]) (Ls' := #[.val (.ref a), .val (.int t), .val (.int w'), .val (.ref as), .val (.int init), .val (.int s1), .val (.int s6), .val (.int s7)]) (rest := []) w d11_64 rfl rfl ?_
          refine galoadN (pc' := 67) (Ls := #[.val (.ref a), .val (.int t), .val (.int w'), .val (.ref as), .val (.int init), .val (.int s1), .val (.int s6), .val (.int s7)]) (rest := []) w d11_66 rfl rfl rfl ?_
          refine giconst (v := (2 : Int32)) (pc' := 68) w d11_67 rfl rfl ?_
          refine giaload (pc' := 69) (v := (.int s2)) w d11_68 Vs (by decide) rfl rfl ?_
          refine gistore (pc' := 71) (Ls := #[.val (.ref a), .val (.int t), .val (.int w'), .val (.ref as), .val (.int init), .val (.int s1), .val (.int s6), .val (.int s7)]) (Ls' := #[.val (.ref a), .val (.int t), .val (.int w'), .val (.ref as), .val (.int init), .val (.int s1), .val (.int s2), .val (.int s7)]) (rest := []) w d11_69 rfl rfl ?_
          refine galoadN (pc' := 72) (Ls := #[.val (.ref a), .val (.int t), .val (.int w'), .val (.ref as), .val (.int init), .val (.int s1), .val (.int s2), .val (.int s7)]) (rest := []) w d11_71 rfl rfl rfl ?_
          refine giconst (v := (3 : Int32)) (pc' := 73) w d11_72 rfl rfl ?_
          refine giaload (pc' := 74) (v := (.int s3)) w d11_73 Vs (by decide) rfl rfl ?_
          refine gistore (pc' := 76) (Ls := #[.val (.ref a), .val (.int t), .val (.int w'), .val (.ref as), .val (.int init), .val (.int s1), .val (.int s2), .val (.int s7)]) (Ls' := #[.val (.ref a), .val (.int t), .val (.int w'), .val (.ref as), .val (.int init), .val (.int s1), .val (.int s2), .val (.int s3)]) (rest := []) w d11_74 rfl rfl ?_
          refine galoadN (pc' := 77) (Ls := #[.val (.ref a), .val (.int t), .val (.int w'), .val (.ref as), .val (.int init), .val (.int s1), .val (.int s2), .val (.int s3)]) (rest := []) w d11_76 rfl rfl rfl ?_
          refine ggetF (pc' := 80) w d11_77 (hw _ (List.mem_of_getElem? (i := 70) rfl)) Fc rfl (fun T833 w834 => ?_)
          refine giloadN (pc' := 81) (Ls := #[.val (.ref a), .val (.int t), .val (.int w'), .val (.ref as), .val (.int init), .val (.int s1), .val (.int s2), .val (.int s3)]) (rest := [(.ref ac)]) w834 d11_80 rfl rfl ?_
          refine giaload (pc' := 82) (v := (.int rc)) w834 d11_81 Vc ht xc rfl ?_
          refine giload (pc' := 84) (Ls := #[.val (.ref a), .val (.int t), .val (.int w'), .val (.ref as), .val (.int init), .val (.int s1), .val (.int s2), .val (.int s3)]) (rest := [(.int rc)]) w834 d11_82 rfl rfl ?_
          refine gicmp (pt := 113) (pf := 87) w834 d11_84  (by decide) rfl rfl (fun (c84 : ¬ rc = s1) => ?_) (fun (c84 : rc = s1) => ?_)
          · refine giconst (v := (0 : Int32)) (pc' := 114) w834 d11_113 rfl rfl ?_
            exact absurd (ec.trans (by simp [own_e, c22, c29, c51, c58])) c84
          · refine galoadN (pc' := 88) (Ls := #[.val (.ref a), .val (.int t), .val (.int w'), .val (.ref as), .val (.int init), .val (.int s1), .val (.int s2), .val (.int s3)]) (rest := []) w834 d11_87 rfl rfl rfl ?_
            refine ggetF (pc' := 91) w834 d11_88 (hw _ (List.mem_of_getElem? (i := 71) rfl)) Fp rfl (fun T835 w836 => ?_)
            refine giloadN (pc' := 92) (Ls := #[.val (.ref a), .val (.int t), .val (.int w'), .val (.ref as), .val (.int init), .val (.int s1), .val (.int s2), .val (.int s3)]) (rest := [(.ref ap)]) w836 d11_91 rfl rfl ?_
            refine giaload (pc' := 93) (v := (.int rp)) w836 d11_92 Vp ht xp rfl ?_
            refine giload (pc' := 95) (Ls := #[.val (.ref a), .val (.int t), .val (.int w'), .val (.ref as), .val (.int init), .val (.int s1), .val (.int s2), .val (.int s3)]) (rest := [(.int rp)]) w836 d11_93 rfl rfl ?_
            refine gicmp (pt := 113) (pf := 98) w836 d11_95  (by decide) rfl rfl (fun (c95 : ¬ rp = s2) => ?_) (fun (c95 : rp = s2) => ?_)
            · refine giconst (v := (0 : Int32)) (pc' := 114) w836 d11_113 rfl rfl ?_
              exact absurd (ep.trans (by simp [own_e, c22, c29, c51, c58])) c95
            · refine galoadN (pc' := 99) (Ls := #[.val (.ref a), .val (.int t), .val (.int w'), .val (.ref as), .val (.int init), .val (.int s1), .val (.int s2), .val (.int s3)]) (rest := []) w836 d11_98 rfl rfl rfl ?_
              refine ggetF (pc' := 102) w836 d11_99 (hw _ (List.mem_of_getElem? (i := 72) rfl)) Ft rfl (fun T837 w838 => ?_)
              refine giloadN (pc' := 103) (Ls := #[.val (.ref a), .val (.int t), .val (.int w'), .val (.ref as), .val (.int init), .val (.int s1), .val (.int s2), .val (.int s3)]) (rest := [(.ref aa)]) w838 d11_102 rfl rfl ?_
              refine giaload (pc' := 104) (v := (.int rt)) w838 d11_103 Vt ht xt rfl ?_
              refine giload (pc' := 106) (Ls := #[.val (.ref a), .val (.int t), .val (.int w'), .val (.ref as), .val (.int init), .val (.int s1), .val (.int s2), .val (.int s3)]) (rest := [(.int rt)]) w838 d11_104 rfl rfl ?_
              refine gicmp (pt := 113) (pf := 109) w838 d11_106  (by decide) rfl rfl (fun (c106 : ¬ rt = s3) => ?_) (fun (c106 : rt = s3) => ?_)
              · refine giconst (v := (0 : Int32)) (pc' := 114) w838 d11_113 rfl rfl ?_
                exact absurd (et.trans (by simp [own_e, c22, c29, c51, c58])) c106
              · refine giconst (v := (1 : Int32)) (pc' := 110) w838 d11_109 rfl rfl ?_
                refine ggoto (pc' := 114) w838 d11_110 (by decide) rfl ?_
                exact gretZ w838 d11_114 rfl (by decide) (by decide) ⟨rfl, rfl⟩
theorem own_set {L : List Value} {s t : Int32} {v dv : Value} (hL : L.length = 4) (hs : ¬ s < 0 ∧ s < 4) (ht : ¬ t < 0 ∧ t < 4) : (L.set s.toNatClampNeg v).getD t.toNatClampNeg dv = if s = t then v else L.getD t.toNatClampNeg dv := by
  have a1 := own_lt4 hs
  have e1 := nat_of hs.1
  have e2 := nat_of ht.1
  by_cases q : s = t
  · subst q
    rw [if_pos rfl, List.getD_eq_getElem?_getD, List.getElem?_set_self (by omega)]; rfl
  · rw [if_neg q, List.getD_eq_getElem?_getD, List.getD_eq_getElem?_getD, List.getElem?_set_ne]
    intro r
    exact q (Int32.toInt_inj.mp (by omega))
theorem own_g0 {L : List Value} {t s0 x0 s4 x4 d : Int32} {dv : Value} (hd : L.getD t.toNatClampNeg dv = .int d) : L.getD t.toNatClampNeg dv = .int (own_e 0 t s0 x0 s4 x4 d) := by
  rw [hd]; unfold own_e; rw [if_neg (fun r => r.1 (by decide)), if_neg (fun r => r.1 (by decide))]
theorem own_g1 {L : List Value} {t s0 x0 s4 x4 d : Int32} {dv : Value} (hL : L.length = 4) (hs : ¬ s0 < 0 ∧ s0 < 4) (ht : ¬ t < 0 ∧ t < 4) (hd : L.getD t.toNatClampNeg dv = .int d) : (L.set s0.toNatClampNeg (.int x0)).getD t.toNatClampNeg dv = .int (own_e 1 t s0 x0 s4 x4 d) := by
  rw [own_set hL hs ht, hd]; unfold own_e
  by_cases q : s0 = t
  · rw [if_pos q, if_pos ⟨by decide, q⟩]
  · rw [if_neg q, if_neg (fun r => q r.2), if_neg (fun r => r.1 (by decide))]
theorem own_g2 {L : List Value} {t s0 x0 s4 x4 d : Int32} {dv : Value} (hL : L.length = 4) (hs : ¬ s0 < 0 ∧ s0 < 4) (hs4 : ¬ s4 < 0 ∧ s4 < 4) (ht : ¬ t < 0 ∧ t < 4) (hd : L.getD t.toNatClampNeg dv = .int d) : ((L.set s4.toNatClampNeg (.int x4)).set s0.toNatClampNeg (.int x0)).getD t.toNatClampNeg dv = .int (own_e 2 t s0 x0 s4 x4 d) := by
  rw [own_set (by rw [List.length_set]; exact hL) hs ht, own_set hL hs4 ht, hd]; unfold own_e
  by_cases q : s0 = t
  · rw [if_pos q, if_pos ⟨by decide, q⟩]
  · rw [if_neg q, if_neg (show ¬ (¬ (2 : Int32) < (1 : Int32) ∧ s0 = t) from fun r => q r.2)]
    by_cases r : s4 = t
    · rw [if_pos r, if_pos (show ¬ (2 : Int32) < (2 : Int32) ∧ s4 = t from ⟨by decide, r⟩)]
    · rw [if_neg r, if_neg (show ¬ (¬ (2 : Int32) < (2 : Int32) ∧ s4 = t) from fun u => r u.2)]
theorem own_l4 {L : List Value} (q : L.length = 4) : ∃ x0 x1 x2 x3, L = [x0, x1, x2, x3] := by
  match L, q with
  | [x0, x1, x2, x3], _ => exact ⟨x0, x1, x2, x3, rfl⟩
theorem own_m3 (k : Int32) : ¬ (k &&& (3 : Int32)) < 0 ∧ (k &&& (3 : Int32)) < 4 := by
  have e : (k &&& (3 : Int32)).toInt = k.toInt % 2 ^ 2 := Jvm.Kit.i32_mask k 3 (k := 2) (by decide) (by decide)
  rw [Int32.lt_iff_toInt_lt, Int32.lt_iff_toInt_lt, e]
  have k0 : (0 : Int32).toInt = 0 := rfl
  have k4 : (4 : Int32).toInt = 4 := rfl
  omega
theorem own_w3 {k : Int32} (q : ¬ (k &&& (3 : Int32)) = 3) : (k &&& (3 : Int32)) = 0 ∨ (k &&& (3 : Int32)) = 1 ∨ (k &&& (3 : Int32)) = 2 := by
  have e : (k &&& (3 : Int32)).toInt = k.toInt % 2 ^ 2 := Jvm.Kit.i32_mask k 3 (k := 2) (by decide) (by decide)
  have r : k.toInt % 2 ^ 2 = 0 ∨ k.toInt % 2 ^ 2 = 1 ∨ k.toInt % 2 ^ 2 = 2 ∨ k.toInt % 2 ^ 2 = 3 := by omega
  rcases r with r | r | r | r
  · exact Or.inl (Int32.toInt_inj.mp (by rw [e, r]; rfl))
  · exact Or.inr (Or.inl (Int32.toInt_inj.mp (by rw [e, r]; rfl)))
  · exact Or.inr (Or.inr (Int32.toInt_inj.mp (by rw [e, r]; rfl)))
  · exact absurd (Int32.toInt_inj.mp (by rw [e, r]; rfl)) q
set_option maxRecDepth 65536 in
set_option maxHeartbeats 4000000 in
theorem own_fin0 (hw : ∀ d ∈ tables_1, d.before a0 Z = true) (w : W Z "com/example/antecedent/antecedent/clock/TreeUnviewPinLaw" "law" code maxLocals ret n0 p l e room_1 s m args below meth c 6 56 T h) (lo : Int32) (e0 e1 : Int64) (a0' a1' sel init : Int32) (a ac ap aa as : Addr) (kc kp kt ks : ClassId) (dc dp dt ds : Value) (s0 s1 s2 s3 s4 s5 s6 s7 : Int32) (hs0 : ¬ s0 < 0 ∧ s0 < 4) (hs4 : ¬ s4 < 0 ∧ s4 < 4) (UU : own_U Z h a ac ap aa as kc kp kt ks [(.int init), (.int (init + (1 : Int32))), (.int (init + (2 : Int32))), (.int (init + (3 : Int32)))] [(.int init), (.int (init - (1 : Int32))), (.int (init - (2 : Int32))), (.int (init - (3 : Int32)))] [(.int (init ^^^ (-1 : Int32))), (.int ((init ^^^ (-1 : Int32)) ^^^ (1 : Int32))), (.int ((init ^^^ (-1 : Int32)) ^^^ (2 : Int32))), (.int ((init ^^^ (-1 : Int32)) ^^^ (3 : Int32)))] dc dp dt ds s0 s1 s2 s3 s4 s5 s6 s7) :
    Go n0 p e below s (fun v _ => v = some (.int 1)) room_1.cells room_1.slots T (mkF m 267 #[.val (.long e0), .second, .val (.long e1), .second, .val (.int a0'), .val (.int a1'), .val (.int sel), .val (.int init), .val (.int lo), .val (.int (0 : Int32)), .val (.int s0), .val (.int s4), .val (.int s1), .val (.int s2), .val (.int s5), .val (.int s6), .val (.ref a), .val (.ref as)] []) := by
  refine gaload (pc' := 269) (Ls := #[.val (.long e0), .second, .val (.long e1), .second, .val (.int a0'), .val (.int a1'), .val (.int sel), .val (.int init), .val (.int lo), .val (.int (0 : Int32)), .val (.int s0), .val (.int s4), .val (.int s1), .val (.int s2), .val (.int s5), .val (.int s6), .val (.ref a), .val (.ref as)]) (rest := []) w at_267 rfl rfl rfl ?_
  refine giconst (v := (0 : Int32)) (pc' := 270) w at_269 rfl rfl ?_
  refine giload (pc' := 272) (Ls := #[.val (.long e0), .second, .val (.long e1), .second, .val (.int a0'), .val (.int a1'), .val (.int sel), .val (.int init), .val (.int lo), .val (.int (0 : Int32)), .val (.int s0), .val (.int s4), .val (.int s1), .val (.int s2), .val (.int s5), .val (.int s6), .val (.ref a), .val (.ref as)]) (rest := [(.int (0 : Int32)), (.ref a)]) w at_270 rfl rfl ?_
  refine gaload (pc' := 274) (Ls := #[.val (.long e0), .second, .val (.long e1), .second, .val (.int a0'), .val (.int a1'), .val (.int sel), .val (.int init), .val (.int lo), .val (.int (0 : Int32)), .val (.int s0), .val (.int s4), .val (.int s1), .val (.int s2), .val (.int s5), .val (.int s6), .val (.ref a), .val (.ref as)]) (rest := [(.int (0 : Int32)), (.int (0 : Int32)), (.ref a)]) w at_272 rfl rfl rfl ?_
  refine giload (pc' := 276) (Ls := #[.val (.long e0), .second, .val (.long e1), .second, .val (.int a0'), .val (.int a1'), .val (.int sel), .val (.int init), .val (.int lo), .val (.int (0 : Int32)), .val (.int s0), .val (.int s4), .val (.int s1), .val (.int s2), .val (.int s5), .val (.int s6), .val (.ref a), .val (.ref as)]) (rest := [(.ref as), (.int (0 : Int32)), (.int (0 : Int32)), (.ref a)]) w at_274 rfl rfl ?_
  refine gcallS (pc' := 279) (argsL := [(.ref a), (.int (0 : Int32)), (.int (0 : Int32)), (.ref as), (.int init)]) (rest := []) (Wt := 0) w at_276 (hw _ (List.mem_of_getElem? (i := 78) rfl)) (hw _ (List.mem_of_getElem? (i := 79) rfl)) (hw _ (List.mem_of_getElem? (i := 80) rfl)) (hw _ (List.mem_of_getElem? (i := 81) rfl)) (by decide) pd_d11 (own_chk hw (0 : Int32) (0 : Int32) init _ _ _ a ac ap aa as kc kp kt ks _ _ _ dc dp dt ds s0 s1 s2 s3 s4 s5 s6 s7 (by decide) (own_g0 (by show (Value.int _) = Value.int _; rw [Int32.add_zero])) (own_g0 (by show (Value.int _) = Value.int _; rw [Int32.sub_zero])) (own_g0 (by show (Value.int _) = Value.int _; rw [Int32.xor_zero])) rfl rfl rfl UU) rfl rfl rfl rfl (Nat.le_of_eq rfl) (by decide) (by decide) (by decide) (by decide) rfl (fun v839 T840 h841 w842 q843 => ?_)
  obtain ⟨rfl, eh⟩ := q843
  show Go _ _ _ _ _ _ _ _ _ (mkF m 279 #[.val (.long e0), .second, .val (.long e1), .second, .val (.int a0'), .val (.int a1'), .val (.int sel), .val (.int init), .val (.int lo), .val (.int (0 : Int32)), .val (.int s0), .val (.int s4), .val (.int s1), .val (.int s2), .val (.int s5), .val (.int s6), .val (.ref a), .val (.ref as)] [(.int (1 : Int32))])
  rw [eh] at w842
  refine gif (pt := 340) (pf := 282) w842 at_279  (by decide) rfl rfl (fun (c279 : (1 : Int32) = (0 : Int32)) => ?_) (fun (c279 : ¬ (1 : Int32) = (0 : Int32)) => ?_)
  · exact absurd c279 (by decide)
  · refine gaload (pc' := 284) (Ls := #[.val (.long e0), .second, .val (.long e1), .second, .val (.int a0'), .val (.int a1'), .val (.int sel), .val (.int init), .val (.int lo), .val (.int (0 : Int32)), .val (.int s0), .val (.int s4), .val (.int s1), .val (.int s2), .val (.int s5), .val (.int s6), .val (.ref a), .val (.ref as)]) (rest := []) w842 at_282 rfl rfl rfl ?_
    refine giconst (v := (1 : Int32)) (pc' := 285) w842 at_284 rfl rfl ?_
    refine giload (pc' := 287) (Ls := #[.val (.long e0), .second, .val (.long e1), .second, .val (.int a0'), .val (.int a1'), .val (.int sel), .val (.int init), .val (.int lo), .val (.int (0 : Int32)), .val (.int s0), .val (.int s4), .val (.int s1), .val (.int s2), .val (.int s5), .val (.int s6), .val (.ref a), .val (.ref as)]) (rest := [(.int (1 : Int32)), (.ref a)]) w842 at_285 rfl rfl ?_
    refine gaload (pc' := 289) (Ls := #[.val (.long e0), .second, .val (.long e1), .second, .val (.int a0'), .val (.int a1'), .val (.int sel), .val (.int init), .val (.int lo), .val (.int (0 : Int32)), .val (.int s0), .val (.int s4), .val (.int s1), .val (.int s2), .val (.int s5), .val (.int s6), .val (.ref a), .val (.ref as)]) (rest := [(.int (0 : Int32)), (.int (1 : Int32)), (.ref a)]) w842 at_287 rfl rfl rfl ?_
    refine giload (pc' := 291) (Ls := #[.val (.long e0), .second, .val (.long e1), .second, .val (.int a0'), .val (.int a1'), .val (.int sel), .val (.int init), .val (.int lo), .val (.int (0 : Int32)), .val (.int s0), .val (.int s4), .val (.int s1), .val (.int s2), .val (.int s5), .val (.int s6), .val (.ref a), .val (.ref as)]) (rest := [(.ref as), (.int (0 : Int32)), (.int (1 : Int32)), (.ref a)]) w842 at_289 rfl rfl ?_
    refine gcallS (pc' := 294) (argsL := [(.ref a), (.int (1 : Int32)), (.int (0 : Int32)), (.ref as), (.int init)]) (rest := []) (Wt := 0) w842 at_291 (hw _ (List.mem_of_getElem? (i := 78) rfl)) (hw _ (List.mem_of_getElem? (i := 79) rfl)) (hw _ (List.mem_of_getElem? (i := 80) rfl)) (hw _ (List.mem_of_getElem? (i := 81) rfl)) (by decide) pd_d11 (own_chk hw (1 : Int32) (0 : Int32) init _ _ _ a ac ap aa as kc kp kt ks _ _ _ dc dp dt ds s0 s1 s2 s3 s4 s5 s6 s7 (by decide) (own_g0 (by rfl)) (own_g0 (by rfl)) (own_g0 (by rfl)) rfl rfl rfl UU) rfl rfl rfl rfl (Nat.le_of_eq rfl) (by decide) (by decide) (by decide) (by decide) rfl (fun v844 T845 h846 w847 q848 => ?_)
    obtain ⟨rfl, eh⟩ := q848
    show Go _ _ _ _ _ _ _ _ _ (mkF m 294 #[.val (.long e0), .second, .val (.long e1), .second, .val (.int a0'), .val (.int a1'), .val (.int sel), .val (.int init), .val (.int lo), .val (.int (0 : Int32)), .val (.int s0), .val (.int s4), .val (.int s1), .val (.int s2), .val (.int s5), .val (.int s6), .val (.ref a), .val (.ref as)] [(.int (1 : Int32))])
    rw [eh] at w847
    refine gif (pt := 340) (pf := 297) w847 at_294  (by decide) rfl rfl (fun (c294 : (1 : Int32) = (0 : Int32)) => ?_) (fun (c294 : ¬ (1 : Int32) = (0 : Int32)) => ?_)
    · exact absurd c294 (by decide)
    · refine gaload (pc' := 299) (Ls := #[.val (.long e0), .second, .val (.long e1), .second, .val (.int a0'), .val (.int a1'), .val (.int sel), .val (.int init), .val (.int lo), .val (.int (0 : Int32)), .val (.int s0), .val (.int s4), .val (.int s1), .val (.int s2), .val (.int s5), .val (.int s6), .val (.ref a), .val (.ref as)]) (rest := []) w847 at_297 rfl rfl rfl ?_
      refine giconst (v := (2 : Int32)) (pc' := 300) w847 at_299 rfl rfl ?_
      refine giload (pc' := 302) (Ls := #[.val (.long e0), .second, .val (.long e1), .second, .val (.int a0'), .val (.int a1'), .val (.int sel), .val (.int init), .val (.int lo), .val (.int (0 : Int32)), .val (.int s0), .val (.int s4), .val (.int s1), .val (.int s2), .val (.int s5), .val (.int s6), .val (.ref a), .val (.ref as)]) (rest := [(.int (2 : Int32)), (.ref a)]) w847 at_300 rfl rfl ?_
      refine gaload (pc' := 304) (Ls := #[.val (.long e0), .second, .val (.long e1), .second, .val (.int a0'), .val (.int a1'), .val (.int sel), .val (.int init), .val (.int lo), .val (.int (0 : Int32)), .val (.int s0), .val (.int s4), .val (.int s1), .val (.int s2), .val (.int s5), .val (.int s6), .val (.ref a), .val (.ref as)]) (rest := [(.int (0 : Int32)), (.int (2 : Int32)), (.ref a)]) w847 at_302 rfl rfl rfl ?_
      refine giload (pc' := 306) (Ls := #[.val (.long e0), .second, .val (.long e1), .second, .val (.int a0'), .val (.int a1'), .val (.int sel), .val (.int init), .val (.int lo), .val (.int (0 : Int32)), .val (.int s0), .val (.int s4), .val (.int s1), .val (.int s2), .val (.int s5), .val (.int s6), .val (.ref a), .val (.ref as)]) (rest := [(.ref as), (.int (0 : Int32)), (.int (2 : Int32)), (.ref a)]) w847 at_304 rfl rfl ?_
      refine gcallS (pc' := 309) (argsL := [(.ref a), (.int (2 : Int32)), (.int (0 : Int32)), (.ref as), (.int init)]) (rest := []) (Wt := 0) w847 at_306 (hw _ (List.mem_of_getElem? (i := 78) rfl)) (hw _ (List.mem_of_getElem? (i := 79) rfl)) (hw _ (List.mem_of_getElem? (i := 80) rfl)) (hw _ (List.mem_of_getElem? (i := 81) rfl)) (by decide) pd_d11 (own_chk hw (2 : Int32) (0 : Int32) init _ _ _ a ac ap aa as kc kp kt ks _ _ _ dc dp dt ds s0 s1 s2 s3 s4 s5 s6 s7 (by decide) (own_g0 (by rfl)) (own_g0 (by rfl)) (own_g0 (by rfl)) rfl rfl rfl UU) rfl rfl rfl rfl (Nat.le_of_eq rfl) (by decide) (by decide) (by decide) (by decide) rfl (fun v849 T850 h851 w852 q853 => ?_)
      obtain ⟨rfl, eh⟩ := q853
      show Go _ _ _ _ _ _ _ _ _ (mkF m 309 #[.val (.long e0), .second, .val (.long e1), .second, .val (.int a0'), .val (.int a1'), .val (.int sel), .val (.int init), .val (.int lo), .val (.int (0 : Int32)), .val (.int s0), .val (.int s4), .val (.int s1), .val (.int s2), .val (.int s5), .val (.int s6), .val (.ref a), .val (.ref as)] [(.int (1 : Int32))])
      rw [eh] at w852
      refine gif (pt := 340) (pf := 312) w852 at_309  (by decide) rfl rfl (fun (c309 : (1 : Int32) = (0 : Int32)) => ?_) (fun (c309 : ¬ (1 : Int32) = (0 : Int32)) => ?_)
      · exact absurd c309 (by decide)
      · refine gaload (pc' := 314) (Ls := #[.val (.long e0), .second, .val (.long e1), .second, .val (.int a0'), .val (.int a1'), .val (.int sel), .val (.int init), .val (.int lo), .val (.int (0 : Int32)), .val (.int s0), .val (.int s4), .val (.int s1), .val (.int s2), .val (.int s5), .val (.int s6), .val (.ref a), .val (.ref as)]) (rest := []) w852 at_312 rfl rfl rfl ?_
        refine giconst (v := (3 : Int32)) (pc' := 315) w852 at_314 rfl rfl ?_
        refine giload (pc' := 317) (Ls := #[.val (.long e0), .second, .val (.long e1), .second, .val (.int a0'), .val (.int a1'), .val (.int sel), .val (.int init), .val (.int lo), .val (.int (0 : Int32)), .val (.int s0), .val (.int s4), .val (.int s1), .val (.int s2), .val (.int s5), .val (.int s6), .val (.ref a), .val (.ref as)]) (rest := [(.int (3 : Int32)), (.ref a)]) w852 at_315 rfl rfl ?_
        refine gaload (pc' := 319) (Ls := #[.val (.long e0), .second, .val (.long e1), .second, .val (.int a0'), .val (.int a1'), .val (.int sel), .val (.int init), .val (.int lo), .val (.int (0 : Int32)), .val (.int s0), .val (.int s4), .val (.int s1), .val (.int s2), .val (.int s5), .val (.int s6), .val (.ref a), .val (.ref as)]) (rest := [(.int (0 : Int32)), (.int (3 : Int32)), (.ref a)]) w852 at_317 rfl rfl rfl ?_
        refine giload (pc' := 321) (Ls := #[.val (.long e0), .second, .val (.long e1), .second, .val (.int a0'), .val (.int a1'), .val (.int sel), .val (.int init), .val (.int lo), .val (.int (0 : Int32)), .val (.int s0), .val (.int s4), .val (.int s1), .val (.int s2), .val (.int s5), .val (.int s6), .val (.ref a), .val (.ref as)]) (rest := [(.ref as), (.int (0 : Int32)), (.int (3 : Int32)), (.ref a)]) w852 at_319 rfl rfl ?_
        refine gcallS (pc' := 324) (argsL := [(.ref a), (.int (3 : Int32)), (.int (0 : Int32)), (.ref as), (.int init)]) (rest := []) (Wt := 0) w852 at_321 (hw _ (List.mem_of_getElem? (i := 78) rfl)) (hw _ (List.mem_of_getElem? (i := 79) rfl)) (hw _ (List.mem_of_getElem? (i := 80) rfl)) (hw _ (List.mem_of_getElem? (i := 81) rfl)) (by decide) pd_d11 (own_chk hw (3 : Int32) (0 : Int32) init _ _ _ a ac ap aa as kc kp kt ks _ _ _ dc dp dt ds s0 s1 s2 s3 s4 s5 s6 s7 (by decide) (own_g0 (by rfl)) (own_g0 (by rfl)) (own_g0 (by rfl)) rfl rfl rfl UU) rfl rfl rfl rfl (Nat.le_of_eq rfl) (by decide) (by decide) (by decide) (by decide) rfl (fun v854 T855 h856 w857 q858 => ?_)
        obtain ⟨rfl, eh⟩ := q858
        show Go _ _ _ _ _ _ _ _ _ (mkF m 324 #[.val (.long e0), .second, .val (.long e1), .second, .val (.int a0'), .val (.int a1'), .val (.int sel), .val (.int init), .val (.int lo), .val (.int (0 : Int32)), .val (.int s0), .val (.int s4), .val (.int s1), .val (.int s2), .val (.int s5), .val (.int s6), .val (.ref a), .val (.ref as)] [(.int (1 : Int32))])
        rw [eh] at w857
        refine gif (pt := 340) (pf := 327) w857 at_324  (by decide) rfl rfl (fun (c324 : (1 : Int32) = (0 : Int32)) => ?_) (fun (c324 : ¬ (1 : Int32) = (0 : Int32)) => ?_)
        · exact absurd c324 (by decide)
        · refine gaload (pc' := 329) (Ls := #[.val (.long e0), .second, .val (.long e1), .second, .val (.int a0'), .val (.int a1'), .val (.int sel), .val (.int init), .val (.int lo), .val (.int (0 : Int32)), .val (.int s0), .val (.int s4), .val (.int s1), .val (.int s2), .val (.int s5), .val (.int s6), .val (.ref a), .val (.ref as)]) (rest := []) w857 at_327 rfl rfl rfl ?_
          refine ggetF (pc' := 332) w857 at_329 (hw _ (List.mem_of_getElem? (i := 82) rfl)) UU.2.2.2.1 rfl (fun T860 w859 => ?_)
          refine giconst (v := (4 : Int32)) (pc' := 333) w859 at_332 rfl rfl ?_
          refine gicmp (pt := 340) (pf := 336) w859 at_333  (by decide) rfl rfl (fun (c333 : ¬ (4 : Int32) = (4 : Int32)) => ?_) (fun (c333 : (4 : Int32) = (4 : Int32)) => ?_)
          · exact absurd c333 (by decide)
          · refine giconst (v := (1 : Int32)) (pc' := 337) w859 at_336 rfl rfl ?_
            refine ggoto (pc' := 341) w859 at_337 (by decide) rfl ?_
            exact gretZ w859 at_341 rfl (by decide) (by decide) rfl
set_option maxRecDepth 65536 in
set_option maxHeartbeats 4000000 in
theorem own_b58_0 (hw : ∀ d ∈ tables_1, d.before a0 Z = true) (w : W Z "com/example/antecedent/antecedent/clock/TreeUnviewPinLaw" "law" code maxLocals ret n0 p l e room_1 s m args below meth c 0 0 T h) (lo : Int32) (e0 e1 : Int64) (a0' a1' sel init : Int32) (aL : Addr) (s0 s1 s2 s4 s5 s6 : Int32) (hs0 : ¬ s0 < 0 ∧ s0 < 4) (hs4 : ¬ s4 < 0 ∧ s4 < 4) (z0 : n0 ≤ h.size) (SL : Sta Z h "com/example/antecedent/antecedent/clock/Tree" "NO_LOG" "[I" (.ref aL)) :
    Go n0 p e below s (fun v _ => v = some (.int 1)) room_1.cells room_1.slots T (mkF m 58 #[.val (.long e0), .second, .val (.long e1), .second, .val (.int a0'), .val (.int a1'), .val (.int sel), .val (.int init), .val (.int lo), .val (.int (0 : Int32)), .val (.int s0), .val (.int s4), .val (.int s1), .val (.int s2), .val (.int s5), .val (.int s6), .unset, .unset] []) := by
  refine gnewO (pc' := 61) w at_58 (hw _ (List.mem_of_getElem? (i := 0) rfl)) (hw _ (List.mem_of_getElem? (i := 1) rfl)) (hw _ (List.mem_of_getElem? (i := 2) rfl)) (by decide) (by decide) rfl (fun T861 h862 a s863 w864 E865 A866 D867 => ?_)
  have g_a : n0 ≤ a := Nat.le_trans z0 (Nat.le_of_eq s863)
  have S868 := SL.ext E865
  have z869 := Nat.le_trans z0 E865.1
  have F870 : Fld Z h862 a "com/example/antecedent/antecedent/clock/Tree" "liftedBases" "[I" .null := D867 (Or.inl (hw _ (List.mem_of_getElem? (i := 12) rfl))) (ty := (.array .int)) (by decide)
  have F871 : Fld Z h862 a "com/example/antecedent/antecedent/clock/Tree" "liftedCounts" "[I" .null := D867 (Or.inl (hw _ (List.mem_of_getElem? (i := 14) rfl))) (ty := (.array .int)) (by decide)
  have F872 : Fld Z h862 a "com/example/antecedent/antecedent/clock/Tree" "liftedParents" "[I" .null := D867 (Or.inl (hw _ (List.mem_of_getElem? (i := 16) rfl))) (ty := (.array .int)) (by decide)
  have F873 : Fld Z h862 a "com/example/antecedent/antecedent/clock/Tree" "liftedAttached" "[I" .null := D867 (Or.inl (hw _ (List.mem_of_getElem? (i := 18) rfl))) (ty := (.array .int)) (by decide)
  have F874 : Fld Z h862 a "com/example/antecedent/antecedent/clock/Tree" "earlierLifts" "[I" .null := D867 (Or.inl (hw _ (List.mem_of_getElem? (i := 20) rfl))) (ty := (.array .int)) (by decide)
  have F875 : Fld Z h862 a "com/example/antecedent/antecedent/clock/Tree" "lastLifts" "[I" .null := D867 (Or.inl (hw _ (List.mem_of_getElem? (i := 22) rfl))) (ty := (.array .int)) (by decide)
  have F876 : Fld Z h862 a "com/example/antecedent/antecedent/clock/Tree" "counts" "[I" .null := D867 (Or.inl (hw _ (List.mem_of_getElem? (i := 25) rfl))) (ty := (.array .int)) (by decide)
  have F877 : Fld Z h862 a "com/example/antecedent/antecedent/clock/Tree" "parents" "[I" .null := D867 (Or.inl (hw _ (List.mem_of_getElem? (i := 27) rfl))) (ty := (.array .int)) (by decide)
  have F878 : Fld Z h862 a "com/example/antecedent/antecedent/clock/Tree" "attached" "[I" .null := D867 (Or.inl (hw _ (List.mem_of_getElem? (i := 29) rfl))) (ty := (.array .int)) (by decide)
  have F879 : Fld Z h862 a "com/example/antecedent/antecedent/clock/Tree" "links" "[I" .null := D867 (Or.inl (hw _ (List.mem_of_getElem? (i := 31) rfl))) (ty := (.array .int)) (by decide)
  have F880 : Fld Z h862 a "com/example/antecedent/antecedent/clock/Tree" "version" "I" (.int (0 : Int32)) := D867 (Or.inl (hw _ (List.mem_of_getElem? (i := 43) rfl))) (ty := .int) (by decide)
  have F881 : Fld Z h862 a "com/example/antecedent/antecedent/clock/Tree" "blendedFrom" "Lcom/example/antecedent/antecedent/clock/Tree;" .null := D867 (Or.inl (hw _ (List.mem_of_getElem? (i := 45) rfl))) (ty := (.object "com/example/antecedent/antecedent/clock/Tree")) (by decide)
  have F882 : Fld Z h862 a "com/example/antecedent/antecedent/clock/Tree" "room" "I" (.int (0 : Int32)) := D867 (Or.inl (hw _ (List.mem_of_getElem? (i := 52) rfl))) (ty := .int) (by decide)
  have F883 : Fld Z h862 a "com/example/antecedent/antecedent/clock/Tree" "listed" "Z" (.int (0 : Int32)) := D867 (Or.inl (hw _ (List.mem_of_getElem? (i := 69) rfl))) (ty := .boolean) (by decide)
  refine gdup (pc' := 62) w864 at_61 rfl rfl ?_
  refine giconst (v := (4 : Int32)) (pc' := 63) w864 at_62 rfl rfl ?_
  refine gcallN (pc' := 66) (argsL := [(.int (4 : Int32))]) (rest := [(.ref a)]) (Wt := 1) w864 at_63 (hw _ (List.mem_of_getElem? (i := 3) rfl)) (hw _ (List.mem_of_getElem? (i := 4) rfl)) (hw _ (List.mem_of_getElem? (i := 2) rfl)) (hw _ (List.mem_of_getElem? (i := 5) rfl)) rfl (by decide) pd_d1 (own_ini hw a aL z869 g_a A866 S868 F870 F871 F872 F873 F874 F875 F876 F877 F878 F879 F880 F881 F882 F883) rfl rfl rfl rfl (Nat.le_of_eq rfl) (by decide) (by decide) (by decide) (by decide) rfl (fun v884 T885 h886 w887 q888 => ?_)
  obtain ⟨rfl, ac, ap, aa, al, G, ⟨E0, Fc, Fp, Ft, Fl, Fr, ⟨ov, Fv⟩, ⟨ob, Fb⟩, ⟨oi, Fi⟩, ⟨kc, vc, dc, lc, Vc⟩, ⟨kp, vp, dp, lp, Vp⟩, ⟨kt, vt, dt, lt, Vt⟩, ⟨kl, vl, dl, ll, Vl⟩, n1, n2, n3, n4, n5, n6, n7, n8, n9, n10⟩⟩ := q888
  show Go _ _ _ _ _ _ _ _ _ (mkF m 66 #[.val (.long e0), .second, .val (.long e1), .second, .val (.int a0'), .val (.int a1'), .val (.int sel), .val (.int init), .val (.int lo), .val (.int (0 : Int32)), .val (.int s0), .val (.int s4), .val (.int s1), .val (.int s2), .val (.int s5), .val (.int s6), .unset, .unset] [(.ref a)])
  have zz : n0 ≤ h886.size := Nat.le_of_lt (Nat.lt_of_le_of_lt G.1 E0.lt)
  obtain ⟨uc0, uc1, uc2, uc3, rfl⟩ := own_l4 lc
  obtain ⟨up0, up1, up2, up3, rfl⟩ := own_l4 lp
  obtain ⟨ut0, ut1, ut2, ut3, rfl⟩ := own_l4 lt
  refine gastore (pc' := 68) (Ls := #[.val (.long e0), .second, .val (.long e1), .second, .val (.int a0'), .val (.int a1'), .val (.int sel), .val (.int init), .val (.int lo), .val (.int (0 : Int32)), .val (.int s0), .val (.int s4), .val (.int s1), .val (.int s2), .val (.int s5), .val (.int s6), .unset, .unset]) (Ls' := #[.val (.long e0), .second, .val (.long e1), .second, .val (.int a0'), .val (.int a1'), .val (.int sel), .val (.int init), .val (.int lo), .val (.int (0 : Int32)), .val (.int s0), .val (.int s4), .val (.int s1), .val (.int s2), .val (.int s5), .val (.int s6), .val (.ref a), .unset]) (rest := []) w887 at_66 rfl rfl rfl ?_
  refine gaload (pc' := 70) (Ls := #[.val (.long e0), .second, .val (.long e1), .second, .val (.int a0'), .val (.int a1'), .val (.int sel), .val (.int init), .val (.int lo), .val (.int (0 : Int32)), .val (.int s0), .val (.int s4), .val (.int s1), .val (.int s2), .val (.int s5), .val (.int s6), .val (.ref a), .unset]) (rest := []) w887 at_68 rfl rfl rfl ?_
  refine ggetF (pc' := 73) w887 at_70 (hw _ (List.mem_of_getElem? (i := 70) rfl)) Fc rfl (fun T889 w890 => ?_)
  refine giconst (v := (0 : Int32)) (pc' := 74) w890 at_73 rfl rfl ?_
  refine giload (pc' := 76) (Ls := #[.val (.long e0), .second, .val (.long e1), .second, .val (.int a0'), .val (.int a1'), .val (.int sel), .val (.int init), .val (.int lo), .val (.int (0 : Int32)), .val (.int s0), .val (.int s4), .val (.int s1), .val (.int s2), .val (.int s5), .val (.int s6), .val (.ref a), .unset]) (rest := [(.int (0 : Int32)), (.ref ac)]) w890 at_74 rfl rfl ?_
  refine giastore (pc' := 77) (x' := init) w890 at_76 rfl Vc (by decide) (0) rfl (by simp) G.2.1 rfl (fun T891 h892 w893 W894 V895 => ?_)
  have E897 := E0.wr W894
  have F898 := Fc.other W894 (Or.inl n1)
  have F899 := Fp.other W894 (Or.inl n1)
  have V900 := Vp.other W894 (Ne.symm n5)
  have F901 := Ft.other W894 (Or.inl n1)
  have V902 := Vt.other W894 (Ne.symm n6)
  have F903 := Fr.other W894 (Or.inl n1)
  have z904 : n0 ≤ h892.size := by rw [W894.size]; exact zz
  have V896 : Arv Z h892 ac kc .int (4 : Int32) [(.int init), uc1, uc2, uc3] dc := V895
  refine gaload (pc' := 79) (Ls := #[.val (.long e0), .second, .val (.long e1), .second, .val (.int a0'), .val (.int a1'), .val (.int sel), .val (.int init), .val (.int lo), .val (.int (0 : Int32)), .val (.int s0), .val (.int s4), .val (.int s1), .val (.int s2), .val (.int s5), .val (.int s6), .val (.ref a), .unset]) (rest := []) w893 at_77 rfl rfl rfl ?_
  refine ggetF (pc' := 82) w893 at_79 (hw _ (List.mem_of_getElem? (i := 70) rfl)) F898 rfl (fun T905 w906 => ?_)
  refine giconst (v := (1 : Int32)) (pc' := 83) w906 at_82 rfl rfl ?_
  refine giload (pc' := 85) (Ls := #[.val (.long e0), .second, .val (.long e1), .second, .val (.int a0'), .val (.int a1'), .val (.int sel), .val (.int init), .val (.int lo), .val (.int (0 : Int32)), .val (.int s0), .val (.int s4), .val (.int s1), .val (.int s2), .val (.int s5), .val (.int s6), .val (.ref a), .unset]) (rest := [(.int (1 : Int32)), (.ref ac)]) w906 at_83 rfl rfl ?_
  refine giconst (v := (1 : Int32)) (pc' := 86) w906 at_85 rfl rfl ?_
  refine giadd (pc' := 87) w906 at_86 rfl ?_
  refine giastore (pc' := 88) (x' := (init + (1 : Int32))) w906 at_87 rfl V896 (by decide) (1) rfl (by simp) G.2.1 rfl (fun T907 h908 w909 W910 V911 => ?_)
  have E913 := E897.wr W910
  have F914 := F898.other W910 (Or.inl n1)
  have F915 := F899.other W910 (Or.inl n1)
  have V916 := V900.other W910 (Ne.symm n5)
  have F917 := F901.other W910 (Or.inl n1)
  have V918 := V902.other W910 (Ne.symm n6)
  have F919 := F903.other W910 (Or.inl n1)
  have z920 : n0 ≤ h908.size := by rw [W910.size]; exact z904
  have V912 : Arv Z h908 ac kc .int (4 : Int32) [(.int init), (.int (init + (1 : Int32))), uc2, uc3] dc := V911
  refine gaload (pc' := 90) (Ls := #[.val (.long e0), .second, .val (.long e1), .second, .val (.int a0'), .val (.int a1'), .val (.int sel), .val (.int init), .val (.int lo), .val (.int (0 : Int32)), .val (.int s0), .val (.int s4), .val (.int s1), .val (.int s2), .val (.int s5), .val (.int s6), .val (.ref a), .unset]) (rest := []) w909 at_88 rfl rfl rfl ?_
  refine ggetF (pc' := 93) w909 at_90 (hw _ (List.mem_of_getElem? (i := 70) rfl)) F914 rfl (fun T921 w922 => ?_)
  refine giconst (v := (2 : Int32)) (pc' := 94) w922 at_93 rfl rfl ?_
  refine giload (pc' := 96) (Ls := #[.val (.long e0), .second, .val (.long e1), .second, .val (.int a0'), .val (.int a1'), .val (.int sel), .val (.int init), .val (.int lo), .val (.int (0 : Int32)), .val (.int s0), .val (.int s4), .val (.int s1), .val (.int s2), .val (.int s5), .val (.int s6), .val (.ref a), .unset]) (rest := [(.int (2 : Int32)), (.ref ac)]) w922 at_94 rfl rfl ?_
  refine giconst (v := (2 : Int32)) (pc' := 97) w922 at_96 rfl rfl ?_
  refine giadd (pc' := 98) w922 at_97 rfl ?_
  refine giastore (pc' := 99) (x' := (init + (2 : Int32))) w922 at_98 rfl V912 (by decide) (2) rfl (by simp) G.2.1 rfl (fun T923 h924 w925 W926 V927 => ?_)
  have E929 := E913.wr W926
  have F930 := F914.other W926 (Or.inl n1)
  have F931 := F915.other W926 (Or.inl n1)
  have V932 := V916.other W926 (Ne.symm n5)
  have F933 := F917.other W926 (Or.inl n1)
  have V934 := V918.other W926 (Ne.symm n6)
  have F935 := F919.other W926 (Or.inl n1)
  have z936 : n0 ≤ h924.size := by rw [W926.size]; exact z920
  have V928 : Arv Z h924 ac kc .int (4 : Int32) [(.int init), (.int (init + (1 : Int32))), (.int (init + (2 : Int32))), uc3] dc := V927
  refine gaload (pc' := 101) (Ls := #[.val (.long e0), .second, .val (.long e1), .second, .val (.int a0'), .val (.int a1'), .val (.int sel), .val (.int init), .val (.int lo), .val (.int (0 : Int32)), .val (.int s0), .val (.int s4), .val (.int s1), .val (.int s2), .val (.int s5), .val (.int s6), .val (.ref a), .unset]) (rest := []) w925 at_99 rfl rfl rfl ?_
  refine ggetF (pc' := 104) w925 at_101 (hw _ (List.mem_of_getElem? (i := 70) rfl)) F930 rfl (fun T937 w938 => ?_)
  refine giconst (v := (3 : Int32)) (pc' := 105) w938 at_104 rfl rfl ?_
  refine giload (pc' := 107) (Ls := #[.val (.long e0), .second, .val (.long e1), .second, .val (.int a0'), .val (.int a1'), .val (.int sel), .val (.int init), .val (.int lo), .val (.int (0 : Int32)), .val (.int s0), .val (.int s4), .val (.int s1), .val (.int s2), .val (.int s5), .val (.int s6), .val (.ref a), .unset]) (rest := [(.int (3 : Int32)), (.ref ac)]) w938 at_105 rfl rfl ?_
  refine giconst (v := (3 : Int32)) (pc' := 108) w938 at_107 rfl rfl ?_
  refine giadd (pc' := 109) w938 at_108 rfl ?_
  refine giastore (pc' := 110) (x' := (init + (3 : Int32))) w938 at_109 rfl V928 (by decide) (3) rfl (by simp) G.2.1 rfl (fun T939 h940 w941 W942 V943 => ?_)
  have E945 := E929.wr W942
  have F946 := F930.other W942 (Or.inl n1)
  have F947 := F931.other W942 (Or.inl n1)
  have V948 := V932.other W942 (Ne.symm n5)
  have F949 := F933.other W942 (Or.inl n1)
  have V950 := V934.other W942 (Ne.symm n6)
  have F951 := F935.other W942 (Or.inl n1)
  have z952 : n0 ≤ h940.size := by rw [W942.size]; exact z936
  have V944 : Arv Z h940 ac kc .int (4 : Int32) [(.int init), (.int (init + (1 : Int32))), (.int (init + (2 : Int32))), (.int (init + (3 : Int32)))] dc := V943
  refine gaload (pc' := 112) (Ls := #[.val (.long e0), .second, .val (.long e1), .second, .val (.int a0'), .val (.int a1'), .val (.int sel), .val (.int init), .val (.int lo), .val (.int (0 : Int32)), .val (.int s0), .val (.int s4), .val (.int s1), .val (.int s2), .val (.int s5), .val (.int s6), .val (.ref a), .unset]) (rest := []) w941 at_110 rfl rfl rfl ?_
  refine ggetF (pc' := 115) w941 at_112 (hw _ (List.mem_of_getElem? (i := 71) rfl)) F947 rfl (fun T953 w954 => ?_)
  refine giconst (v := (0 : Int32)) (pc' := 116) w954 at_115 rfl rfl ?_
  refine giload (pc' := 118) (Ls := #[.val (.long e0), .second, .val (.long e1), .second, .val (.int a0'), .val (.int a1'), .val (.int sel), .val (.int init), .val (.int lo), .val (.int (0 : Int32)), .val (.int s0), .val (.int s4), .val (.int s1), .val (.int s2), .val (.int s5), .val (.int s6), .val (.ref a), .unset]) (rest := [(.int (0 : Int32)), (.ref ap)]) w954 at_116 rfl rfl ?_
  refine giastore (pc' := 119) (x' := init) w954 at_118 rfl V948 (by decide) (0) rfl (by simp) G.2.2.1 rfl (fun T955 h956 w957 W958 V959 => ?_)
  have E961 := E945.wr W958
  have F962 := F946.other W958 (Or.inl n2)
  have V963 := V944.other W958 n5
  have F964 := F947.other W958 (Or.inl n2)
  have F965 := F949.other W958 (Or.inl n2)
  have V966 := V950.other W958 (Ne.symm n8)
  have F967 := F951.other W958 (Or.inl n2)
  have z968 : n0 ≤ h956.size := by rw [W958.size]; exact z952
  have V960 : Arv Z h956 ap kp .int (4 : Int32) [(.int init), up1, up2, up3] dp := V959
  refine gaload (pc' := 121) (Ls := #[.val (.long e0), .second, .val (.long e1), .second, .val (.int a0'), .val (.int a1'), .val (.int sel), .val (.int init), .val (.int lo), .val (.int (0 : Int32)), .val (.int s0), .val (.int s4), .val (.int s1), .val (.int s2), .val (.int s5), .val (.int s6), .val (.ref a), .unset]) (rest := []) w957 at_119 rfl rfl rfl ?_
  refine ggetF (pc' := 124) w957 at_121 (hw _ (List.mem_of_getElem? (i := 71) rfl)) F964 rfl (fun T969 w970 => ?_)
  refine giconst (v := (1 : Int32)) (pc' := 125) w970 at_124 rfl rfl ?_
  refine giload (pc' := 127) (Ls := #[.val (.long e0), .second, .val (.long e1), .second, .val (.int a0'), .val (.int a1'), .val (.int sel), .val (.int init), .val (.int lo), .val (.int (0 : Int32)), .val (.int s0), .val (.int s4), .val (.int s1), .val (.int s2), .val (.int s5), .val (.int s6), .val (.ref a), .unset]) (rest := [(.int (1 : Int32)), (.ref ap)]) w970 at_125 rfl rfl ?_
  refine giconst (v := (1 : Int32)) (pc' := 128) w970 at_127 rfl rfl ?_
  refine gisub (pc' := 129) w970 at_128 rfl ?_
  refine giastore (pc' := 130) (x' := (init - (1 : Int32))) w970 at_129 rfl V960 (by decide) (1) rfl (by simp) G.2.2.1 rfl (fun T971 h972 w973 W974 V975 => ?_)
  have E977 := E961.wr W974
  have F978 := F962.other W974 (Or.inl n2)
  have V979 := V963.other W974 n5
  have F980 := F964.other W974 (Or.inl n2)
  have F981 := F965.other W974 (Or.inl n2)
  have V982 := V966.other W974 (Ne.symm n8)
  have F983 := F967.other W974 (Or.inl n2)
  have z984 : n0 ≤ h972.size := by rw [W974.size]; exact z968
  have V976 : Arv Z h972 ap kp .int (4 : Int32) [(.int init), (.int (init - (1 : Int32))), up2, up3] dp := V975
  refine gaload (pc' := 132) (Ls := #[.val (.long e0), .second, .val (.long e1), .second, .val (.int a0'), .val (.int a1'), .val (.int sel), .val (.int init), .val (.int lo), .val (.int (0 : Int32)), .val (.int s0), .val (.int s4), .val (.int s1), .val (.int s2), .val (.int s5), .val (.int s6), .val (.ref a), .unset]) (rest := []) w973 at_130 rfl rfl rfl ?_
  refine ggetF (pc' := 135) w973 at_132 (hw _ (List.mem_of_getElem? (i := 71) rfl)) F980 rfl (fun T985 w986 => ?_)
  refine giconst (v := (2 : Int32)) (pc' := 136) w986 at_135 rfl rfl ?_
  refine giload (pc' := 138) (Ls := #[.val (.long e0), .second, .val (.long e1), .second, .val (.int a0'), .val (.int a1'), .val (.int sel), .val (.int init), .val (.int lo), .val (.int (0 : Int32)), .val (.int s0), .val (.int s4), .val (.int s1), .val (.int s2), .val (.int s5), .val (.int s6), .val (.ref a), .unset]) (rest := [(.int (2 : Int32)), (.ref ap)]) w986 at_136 rfl rfl ?_
  refine giconst (v := (2 : Int32)) (pc' := 139) w986 at_138 rfl rfl ?_
  refine gisub (pc' := 140) w986 at_139 rfl ?_
  refine giastore (pc' := 141) (x' := (init - (2 : Int32))) w986 at_140 rfl V976 (by decide) (2) rfl (by simp) G.2.2.1 rfl (fun T987 h988 w989 W990 V991 => ?_)
  have E993 := E977.wr W990
  have F994 := F978.other W990 (Or.inl n2)
  have V995 := V979.other W990 n5
  have F996 := F980.other W990 (Or.inl n2)
  have F997 := F981.other W990 (Or.inl n2)
  have V998 := V982.other W990 (Ne.symm n8)
  have F999 := F983.other W990 (Or.inl n2)
  have z1000 : n0 ≤ h988.size := by rw [W990.size]; exact z984
  have V992 : Arv Z h988 ap kp .int (4 : Int32) [(.int init), (.int (init - (1 : Int32))), (.int (init - (2 : Int32))), up3] dp := V991
  refine gaload (pc' := 143) (Ls := #[.val (.long e0), .second, .val (.long e1), .second, .val (.int a0'), .val (.int a1'), .val (.int sel), .val (.int init), .val (.int lo), .val (.int (0 : Int32)), .val (.int s0), .val (.int s4), .val (.int s1), .val (.int s2), .val (.int s5), .val (.int s6), .val (.ref a), .unset]) (rest := []) w989 at_141 rfl rfl rfl ?_
  refine ggetF (pc' := 146) w989 at_143 (hw _ (List.mem_of_getElem? (i := 71) rfl)) F996 rfl (fun T1001 w1002 => ?_)
  refine giconst (v := (3 : Int32)) (pc' := 147) w1002 at_146 rfl rfl ?_
  refine giload (pc' := 149) (Ls := #[.val (.long e0), .second, .val (.long e1), .second, .val (.int a0'), .val (.int a1'), .val (.int sel), .val (.int init), .val (.int lo), .val (.int (0 : Int32)), .val (.int s0), .val (.int s4), .val (.int s1), .val (.int s2), .val (.int s5), .val (.int s6), .val (.ref a), .unset]) (rest := [(.int (3 : Int32)), (.ref ap)]) w1002 at_147 rfl rfl ?_
  refine giconst (v := (3 : Int32)) (pc' := 150) w1002 at_149 rfl rfl ?_
  refine gisub (pc' := 151) w1002 at_150 rfl ?_
  refine giastore (pc' := 152) (x' := (init - (3 : Int32))) w1002 at_151 rfl V992 (by decide) (3) rfl (by simp) G.2.2.1 rfl (fun T1003 h1004 w1005 W1006 V1007 => ?_)
  have E1009 := E993.wr W1006
  have F1010 := F994.other W1006 (Or.inl n2)
  have V1011 := V995.other W1006 n5
  have F1012 := F996.other W1006 (Or.inl n2)
  have F1013 := F997.other W1006 (Or.inl n2)
  have V1014 := V998.other W1006 (Ne.symm n8)
  have F1015 := F999.other W1006 (Or.inl n2)
  have z1016 : n0 ≤ h1004.size := by rw [W1006.size]; exact z1000
  have V1008 : Arv Z h1004 ap kp .int (4 : Int32) [(.int init), (.int (init - (1 : Int32))), (.int (init - (2 : Int32))), (.int (init - (3 : Int32)))] dp := V1007
  refine gaload (pc' := 154) (Ls := #[.val (.long e0), .second, .val (.long e1), .second, .val (.int a0'), .val (.int a1'), .val (.int sel), .val (.int init), .val (.int lo), .val (.int (0 : Int32)), .val (.int s0), .val (.int s4), .val (.int s1), .val (.int s2), .val (.int s5), .val (.int s6), .val (.ref a), .unset]) (rest := []) w1005 at_152 rfl rfl rfl ?_
  refine ggetF (pc' := 157) w1005 at_154 (hw _ (List.mem_of_getElem? (i := 72) rfl)) F1013 rfl (fun T1017 w1018 => ?_)
  refine giconst (v := (0 : Int32)) (pc' := 158) w1018 at_157 rfl rfl ?_
  refine giload (pc' := 160) (Ls := #[.val (.long e0), .second, .val (.long e1), .second, .val (.int a0'), .val (.int a1'), .val (.int sel), .val (.int init), .val (.int lo), .val (.int (0 : Int32)), .val (.int s0), .val (.int s4), .val (.int s1), .val (.int s2), .val (.int s5), .val (.int s6), .val (.ref a), .unset]) (rest := [(.int (0 : Int32)), (.ref aa)]) w1018 at_158 rfl rfl ?_
  refine giconst (v := (-1 : Int32)) (pc' := 161) w1018 at_160 rfl rfl ?_
  refine gixor (pc' := 162) w1018 at_161 rfl ?_
  refine giastore (pc' := 163) (x' := (init ^^^ (-1 : Int32))) w1018 at_162 rfl V1014 (by decide) (0) rfl (by simp) G.2.2.2.1 rfl (fun T1019 h1020 w1021 W1022 V1023 => ?_)
  have E1025 := E1009.wr W1022
  have F1026 := F1010.other W1022 (Or.inl n3)
  have V1027 := V1011.other W1022 n6
  have F1028 := F1012.other W1022 (Or.inl n3)
  have V1029 := V1008.other W1022 n8
  have F1030 := F1013.other W1022 (Or.inl n3)
  have F1031 := F1015.other W1022 (Or.inl n3)
  have z1032 : n0 ≤ h1020.size := by rw [W1022.size]; exact z1016
  have V1024 : Arv Z h1020 aa kt .int (4 : Int32) [(.int (init ^^^ (-1 : Int32))), ut1, ut2, ut3] dt := V1023
  refine gaload (pc' := 165) (Ls := #[.val (.long e0), .second, .val (.long e1), .second, .val (.int a0'), .val (.int a1'), .val (.int sel), .val (.int init), .val (.int lo), .val (.int (0 : Int32)), .val (.int s0), .val (.int s4), .val (.int s1), .val (.int s2), .val (.int s5), .val (.int s6), .val (.ref a), .unset]) (rest := []) w1021 at_163 rfl rfl rfl ?_
  refine ggetF (pc' := 168) w1021 at_165 (hw _ (List.mem_of_getElem? (i := 72) rfl)) F1030 rfl (fun T1033 w1034 => ?_)
  refine giconst (v := (1 : Int32)) (pc' := 169) w1034 at_168 rfl rfl ?_
  refine giload (pc' := 171) (Ls := #[.val (.long e0), .second, .val (.long e1), .second, .val (.int a0'), .val (.int a1'), .val (.int sel), .val (.int init), .val (.int lo), .val (.int (0 : Int32)), .val (.int s0), .val (.int s4), .val (.int s1), .val (.int s2), .val (.int s5), .val (.int s6), .val (.ref a), .unset]) (rest := [(.int (1 : Int32)), (.ref aa)]) w1034 at_169 rfl rfl ?_
  refine giconst (v := (-1 : Int32)) (pc' := 172) w1034 at_171 rfl rfl ?_
  refine gixor (pc' := 173) w1034 at_172 rfl ?_
  refine giconst (v := (1 : Int32)) (pc' := 174) w1034 at_173 rfl rfl ?_
  refine gixor (pc' := 175) w1034 at_174 rfl ?_
  refine giastore (pc' := 176) (x' := ((init ^^^ (-1 : Int32)) ^^^ (1 : Int32))) w1034 at_175 rfl V1024 (by decide) (1) rfl (by simp) G.2.2.2.1 rfl (fun T1035 h1036 w1037 W1038 V1039 => ?_)
  have E1041 := E1025.wr W1038
  have F1042 := F1026.other W1038 (Or.inl n3)
  have V1043 := V1027.other W1038 n6
  have F1044 := F1028.other W1038 (Or.inl n3)
  have V1045 := V1029.other W1038 n8
  have F1046 := F1030.other W1038 (Or.inl n3)
  have F1047 := F1031.other W1038 (Or.inl n3)
  have z1048 : n0 ≤ h1036.size := by rw [W1038.size]; exact z1032
  have V1040 : Arv Z h1036 aa kt .int (4 : Int32) [(.int (init ^^^ (-1 : Int32))), (.int ((init ^^^ (-1 : Int32)) ^^^ (1 : Int32))), ut2, ut3] dt := V1039
  refine gaload (pc' := 178) (Ls := #[.val (.long e0), .second, .val (.long e1), .second, .val (.int a0'), .val (.int a1'), .val (.int sel), .val (.int init), .val (.int lo), .val (.int (0 : Int32)), .val (.int s0), .val (.int s4), .val (.int s1), .val (.int s2), .val (.int s5), .val (.int s6), .val (.ref a), .unset]) (rest := []) w1037 at_176 rfl rfl rfl ?_
  refine ggetF (pc' := 181) w1037 at_178 (hw _ (List.mem_of_getElem? (i := 72) rfl)) F1046 rfl (fun T1049 w1050 => ?_)
  refine giconst (v := (2 : Int32)) (pc' := 182) w1050 at_181 rfl rfl ?_
  refine giload (pc' := 184) (Ls := #[.val (.long e0), .second, .val (.long e1), .second, .val (.int a0'), .val (.int a1'), .val (.int sel), .val (.int init), .val (.int lo), .val (.int (0 : Int32)), .val (.int s0), .val (.int s4), .val (.int s1), .val (.int s2), .val (.int s5), .val (.int s6), .val (.ref a), .unset]) (rest := [(.int (2 : Int32)), (.ref aa)]) w1050 at_182 rfl rfl ?_
  refine giconst (v := (-1 : Int32)) (pc' := 185) w1050 at_184 rfl rfl ?_
  refine gixor (pc' := 186) w1050 at_185 rfl ?_
  refine giconst (v := (2 : Int32)) (pc' := 187) w1050 at_186 rfl rfl ?_
  refine gixor (pc' := 188) w1050 at_187 rfl ?_
  refine giastore (pc' := 189) (x' := ((init ^^^ (-1 : Int32)) ^^^ (2 : Int32))) w1050 at_188 rfl V1040 (by decide) (2) rfl (by simp) G.2.2.2.1 rfl (fun T1051 h1052 w1053 W1054 V1055 => ?_)
  have E1057 := E1041.wr W1054
  have F1058 := F1042.other W1054 (Or.inl n3)
  have V1059 := V1043.other W1054 n6
  have F1060 := F1044.other W1054 (Or.inl n3)
  have V1061 := V1045.other W1054 n8
  have F1062 := F1046.other W1054 (Or.inl n3)
  have F1063 := F1047.other W1054 (Or.inl n3)
  have z1064 : n0 ≤ h1052.size := by rw [W1054.size]; exact z1048
  have V1056 : Arv Z h1052 aa kt .int (4 : Int32) [(.int (init ^^^ (-1 : Int32))), (.int ((init ^^^ (-1 : Int32)) ^^^ (1 : Int32))), (.int ((init ^^^ (-1 : Int32)) ^^^ (2 : Int32))), ut3] dt := V1055
  refine gaload (pc' := 191) (Ls := #[.val (.long e0), .second, .val (.long e1), .second, .val (.int a0'), .val (.int a1'), .val (.int sel), .val (.int init), .val (.int lo), .val (.int (0 : Int32)), .val (.int s0), .val (.int s4), .val (.int s1), .val (.int s2), .val (.int s5), .val (.int s6), .val (.ref a), .unset]) (rest := []) w1053 at_189 rfl rfl rfl ?_
  refine ggetF (pc' := 194) w1053 at_191 (hw _ (List.mem_of_getElem? (i := 72) rfl)) F1062 rfl (fun T1065 w1066 => ?_)
  refine giconst (v := (3 : Int32)) (pc' := 195) w1066 at_194 rfl rfl ?_
  refine giload (pc' := 197) (Ls := #[.val (.long e0), .second, .val (.long e1), .second, .val (.int a0'), .val (.int a1'), .val (.int sel), .val (.int init), .val (.int lo), .val (.int (0 : Int32)), .val (.int s0), .val (.int s4), .val (.int s1), .val (.int s2), .val (.int s5), .val (.int s6), .val (.ref a), .unset]) (rest := [(.int (3 : Int32)), (.ref aa)]) w1066 at_195 rfl rfl ?_
  refine giconst (v := (-1 : Int32)) (pc' := 198) w1066 at_197 rfl rfl ?_
  refine gixor (pc' := 199) w1066 at_198 rfl ?_
  refine giconst (v := (3 : Int32)) (pc' := 200) w1066 at_199 rfl rfl ?_
  refine gixor (pc' := 201) w1066 at_200 rfl ?_
  refine giastore (pc' := 202) (x' := ((init ^^^ (-1 : Int32)) ^^^ (3 : Int32))) w1066 at_201 rfl V1056 (by decide) (3) rfl (by simp) G.2.2.2.1 rfl (fun T1067 h1068 w1069 W1070 V1071 => ?_)
  have E1073 := E1057.wr W1070
  have F1074 := F1058.other W1070 (Or.inl n3)
  have V1075 := V1059.other W1070 n6
  have F1076 := F1060.other W1070 (Or.inl n3)
  have V1077 := V1061.other W1070 n8
  have F1078 := F1062.other W1070 (Or.inl n3)
  have F1079 := F1063.other W1070 (Or.inl n3)
  have z1080 : n0 ≤ h1068.size := by rw [W1070.size]; exact z1064
  have V1072 : Arv Z h1068 aa kt .int (4 : Int32) [(.int (init ^^^ (-1 : Int32))), (.int ((init ^^^ (-1 : Int32)) ^^^ (1 : Int32))), (.int ((init ^^^ (-1 : Int32)) ^^^ (2 : Int32))), (.int ((init ^^^ (-1 : Int32)) ^^^ (3 : Int32)))] dt := V1071
  refine gbipush (v := (8 : Int32)) (pc' := 204) w1069 at_202 rfl rfl ?_
  refine gnewP (pc' := 206) (cap := 8) (ty := .int) w1069 at_204 rfl (hw _ (List.mem_of_getElem? (i := 23) rfl)) (by decide) (by decide) (by decide) (by decide) (by decide) rfl (fun T1081 h1082 as k_as s1083 w1084 E1085 V1086 => ?_)
  have g_as : n0 ≤ as := Nat.le_trans z1080 (Nat.le_of_eq s1083)
  have ne_a_as : a ≠ as := Nat.ne_of_lt (s1083 ▸ E1073.lt)
  have ne_ac_as : ac ≠ as := Nat.ne_of_lt (s1083 ▸ V1075.lt)
  have ne_ap_as : ap ≠ as := Nat.ne_of_lt (s1083 ▸ V1077.lt)
  have ne_aa_as : aa ≠ as := Nat.ne_of_lt (s1083 ▸ V1072.lt)
  have E1088 := E1073.ext E1085
  have F1089 := F1074.ext E1085
  have V1090 := V1075.ext E1085
  have F1091 := F1076.ext E1085
  have V1092 := V1077.ext E1085
  have F1093 := F1078.ext E1085
  have V1094 := V1072.ext E1085
  have F1095 := F1079.ext E1085
  have z1096 := Nat.le_trans z1080 E1085.1
  have V1087 : Arv Z h1082 as k_as .int (8 : Int32) [(.int (0 : Int32)), (.int (0 : Int32)), (.int (0 : Int32)), (.int (0 : Int32)), (.int (0 : Int32)), (.int (0 : Int32)), (.int (0 : Int32)), (.int (0 : Int32))] (.int (0 : Int32)) := V1086.pad (pad_rep [] _ 8)
  refine gastore (pc' := 208) (Ls := #[.val (.long e0), .second, .val (.long e1), .second, .val (.int a0'), .val (.int a1'), .val (.int sel), .val (.int init), .val (.int lo), .val (.int (0 : Int32)), .val (.int s0), .val (.int s4), .val (.int s1), .val (.int s2), .val (.int s5), .val (.int s6), .val (.ref a), .unset]) (Ls' := #[.val (.long e0), .second, .val (.long e1), .second, .val (.int a0'), .val (.int a1'), .val (.int sel), .val (.int init), .val (.int lo), .val (.int (0 : Int32)), .val (.int s0), .val (.int s4), .val (.int s1), .val (.int s2), .val (.int s5), .val (.int s6), .val (.ref a), .val (.ref as)]) (rest := []) w1084 at_206 rfl rfl rfl ?_
  refine gaload (pc' := 210) (Ls := #[.val (.long e0), .second, .val (.long e1), .second, .val (.int a0'), .val (.int a1'), .val (.int sel), .val (.int init), .val (.int lo), .val (.int (0 : Int32)), .val (.int s0), .val (.int s4), .val (.int s1), .val (.int s2), .val (.int s5), .val (.int s6), .val (.ref a), .val (.ref as)]) (rest := []) w1084 at_208 rfl rfl rfl ?_
  refine giconst (v := (0 : Int32)) (pc' := 211) w1084 at_210 rfl rfl ?_
  refine giload (pc' := 213) (Ls := #[.val (.long e0), .second, .val (.long e1), .second, .val (.int a0'), .val (.int a1'), .val (.int sel), .val (.int init), .val (.int lo), .val (.int (0 : Int32)), .val (.int s0), .val (.int s4), .val (.int s1), .val (.int s2), .val (.int s5), .val (.int s6), .val (.ref a), .val (.ref as)]) (rest := [(.int (0 : Int32)), (.ref as)]) w1084 at_211 rfl rfl ?_
  refine giastore (pc' := 214) (x' := s0) w1084 at_213 rfl V1087 (by decide) (0) rfl (by simp) g_as rfl (fun T1097 h1098 w1099 W1100 V1101 => ?_)
  have E1103 := E1088.wr W1100
  have F1104 := F1089.other W1100 (Or.inl ne_a_as)
  have V1105 := V1090.other W1100 ne_ac_as
  have F1106 := F1091.other W1100 (Or.inl ne_a_as)
  have V1107 := V1092.other W1100 ne_ap_as
  have F1108 := F1093.other W1100 (Or.inl ne_a_as)
  have V1109 := V1094.other W1100 ne_aa_as
  have F1110 := F1095.other W1100 (Or.inl ne_a_as)
  have z1111 : n0 ≤ h1098.size := by rw [W1100.size]; exact z1096
  have V1102 : Arv Z h1098 as k_as .int (8 : Int32) [(.int s0), (.int (0 : Int32)), (.int (0 : Int32)), (.int (0 : Int32)), (.int (0 : Int32)), (.int (0 : Int32)), (.int (0 : Int32)), (.int (0 : Int32))] (.int (0 : Int32)) := V1101
  refine gaload (pc' := 216) (Ls := #[.val (.long e0), .second, .val (.long e1), .second, .val (.int a0'), .val (.int a1'), .val (.int sel), .val (.int init), .val (.int lo), .val (.int (0 : Int32)), .val (.int s0), .val (.int s4), .val (.int s1), .val (.int s2), .val (.int s5), .val (.int s6), .val (.ref a), .val (.ref as)]) (rest := []) w1099 at_214 rfl rfl rfl ?_
  refine giconst (v := (1 : Int32)) (pc' := 217) w1099 at_216 rfl rfl ?_
  refine giload (pc' := 219) (Ls := #[.val (.long e0), .second, .val (.long e1), .second, .val (.int a0'), .val (.int a1'), .val (.int sel), .val (.int init), .val (.int lo), .val (.int (0 : Int32)), .val (.int s0), .val (.int s4), .val (.int s1), .val (.int s2), .val (.int s5), .val (.int s6), .val (.ref a), .val (.ref as)]) (rest := [(.int (1 : Int32)), (.ref as)]) w1099 at_217 rfl rfl ?_
  refine giastore (pc' := 220) (x' := s1) w1099 at_219 rfl V1102 (by decide) (1) rfl (by simp) g_as rfl (fun T1112 h1113 w1114 W1115 V1116 => ?_)
  have E1118 := E1103.wr W1115
  have F1119 := F1104.other W1115 (Or.inl ne_a_as)
  have V1120 := V1105.other W1115 ne_ac_as
  have F1121 := F1106.other W1115 (Or.inl ne_a_as)
  have V1122 := V1107.other W1115 ne_ap_as
  have F1123 := F1108.other W1115 (Or.inl ne_a_as)
  have V1124 := V1109.other W1115 ne_aa_as
  have F1125 := F1110.other W1115 (Or.inl ne_a_as)
  have z1126 : n0 ≤ h1113.size := by rw [W1115.size]; exact z1111
  have V1117 : Arv Z h1113 as k_as .int (8 : Int32) [(.int s0), (.int s1), (.int (0 : Int32)), (.int (0 : Int32)), (.int (0 : Int32)), (.int (0 : Int32)), (.int (0 : Int32)), (.int (0 : Int32))] (.int (0 : Int32)) := V1116
  refine gaload (pc' := 222) (Ls := #[.val (.long e0), .second, .val (.long e1), .second, .val (.int a0'), .val (.int a1'), .val (.int sel), .val (.int init), .val (.int lo), .val (.int (0 : Int32)), .val (.int s0), .val (.int s4), .val (.int s1), .val (.int s2), .val (.int s5), .val (.int s6), .val (.ref a), .val (.ref as)]) (rest := []) w1114 at_220 rfl rfl rfl ?_
  refine giconst (v := (2 : Int32)) (pc' := 223) w1114 at_222 rfl rfl ?_
  refine giload (pc' := 225) (Ls := #[.val (.long e0), .second, .val (.long e1), .second, .val (.int a0'), .val (.int a1'), .val (.int sel), .val (.int init), .val (.int lo), .val (.int (0 : Int32)), .val (.int s0), .val (.int s4), .val (.int s1), .val (.int s2), .val (.int s5), .val (.int s6), .val (.ref a), .val (.ref as)]) (rest := [(.int (2 : Int32)), (.ref as)]) w1114 at_223 rfl rfl ?_
  refine giastore (pc' := 226) (x' := s2) w1114 at_225 rfl V1117 (by decide) (2) rfl (by simp) g_as rfl (fun T1127 h1128 w1129 W1130 V1131 => ?_)
  have E1133 := E1118.wr W1130
  have F1134 := F1119.other W1130 (Or.inl ne_a_as)
  have V1135 := V1120.other W1130 ne_ac_as
  have F1136 := F1121.other W1130 (Or.inl ne_a_as)
  have V1137 := V1122.other W1130 ne_ap_as
  have F1138 := F1123.other W1130 (Or.inl ne_a_as)
  have V1139 := V1124.other W1130 ne_aa_as
  have F1140 := F1125.other W1130 (Or.inl ne_a_as)
  have z1141 : n0 ≤ h1128.size := by rw [W1130.size]; exact z1126
  have V1132 : Arv Z h1128 as k_as .int (8 : Int32) [(.int s0), (.int s1), (.int s2), (.int (0 : Int32)), (.int (0 : Int32)), (.int (0 : Int32)), (.int (0 : Int32)), (.int (0 : Int32))] (.int (0 : Int32)) := V1131
  refine gaload (pc' := 228) (Ls := #[.val (.long e0), .second, .val (.long e1), .second, .val (.int a0'), .val (.int a1'), .val (.int sel), .val (.int init), .val (.int lo), .val (.int (0 : Int32)), .val (.int s0), .val (.int s4), .val (.int s1), .val (.int s2), .val (.int s5), .val (.int s6), .val (.ref a), .val (.ref as)]) (rest := []) w1129 at_226 rfl rfl rfl ?_
  refine giconst (v := (3 : Int32)) (pc' := 229) w1129 at_228 rfl rfl ?_
  refine giload (pc' := 231) (Ls := #[.val (.long e0), .second, .val (.long e1), .second, .val (.int a0'), .val (.int a1'), .val (.int sel), .val (.int init), .val (.int lo), .val (.int (0 : Int32)), .val (.int s0), .val (.int s4), .val (.int s1), .val (.int s2), .val (.int s5), .val (.int s6), .val (.ref a), .val (.ref as)]) (rest := [(.int (3 : Int32)), (.ref as)]) w1129 at_229 rfl rfl ?_
  refine giastore (pc' := 232) (x' := a0') w1129 at_231 rfl V1132 (by decide) (3) rfl (by simp) g_as rfl (fun T1142 h1143 w1144 W1145 V1146 => ?_)
  have E1148 := E1133.wr W1145
  have F1149 := F1134.other W1145 (Or.inl ne_a_as)
  have V1150 := V1135.other W1145 ne_ac_as
  have F1151 := F1136.other W1145 (Or.inl ne_a_as)
  have V1152 := V1137.other W1145 ne_ap_as
  have F1153 := F1138.other W1145 (Or.inl ne_a_as)
  have V1154 := V1139.other W1145 ne_aa_as
  have F1155 := F1140.other W1145 (Or.inl ne_a_as)
  have z1156 : n0 ≤ h1143.size := by rw [W1145.size]; exact z1141
  have V1147 : Arv Z h1143 as k_as .int (8 : Int32) [(.int s0), (.int s1), (.int s2), (.int a0'), (.int (0 : Int32)), (.int (0 : Int32)), (.int (0 : Int32)), (.int (0 : Int32))] (.int (0 : Int32)) := V1146
  refine gaload (pc' := 234) (Ls := #[.val (.long e0), .second, .val (.long e1), .second, .val (.int a0'), .val (.int a1'), .val (.int sel), .val (.int init), .val (.int lo), .val (.int (0 : Int32)), .val (.int s0), .val (.int s4), .val (.int s1), .val (.int s2), .val (.int s5), .val (.int s6), .val (.ref a), .val (.ref as)]) (rest := []) w1144 at_232 rfl rfl rfl ?_
  refine giconst (v := (4 : Int32)) (pc' := 235) w1144 at_234 rfl rfl ?_
  refine giload (pc' := 237) (Ls := #[.val (.long e0), .second, .val (.long e1), .second, .val (.int a0'), .val (.int a1'), .val (.int sel), .val (.int init), .val (.int lo), .val (.int (0 : Int32)), .val (.int s0), .val (.int s4), .val (.int s1), .val (.int s2), .val (.int s5), .val (.int s6), .val (.ref a), .val (.ref as)]) (rest := [(.int (4 : Int32)), (.ref as)]) w1144 at_235 rfl rfl ?_
  refine giastore (pc' := 238) (x' := s4) w1144 at_237 rfl V1147 (by decide) (4) rfl (by simp) g_as rfl (fun T1157 h1158 w1159 W1160 V1161 => ?_)
  have E1163 := E1148.wr W1160
  have F1164 := F1149.other W1160 (Or.inl ne_a_as)
  have V1165 := V1150.other W1160 ne_ac_as
  have F1166 := F1151.other W1160 (Or.inl ne_a_as)
  have V1167 := V1152.other W1160 ne_ap_as
  have F1168 := F1153.other W1160 (Or.inl ne_a_as)
  have V1169 := V1154.other W1160 ne_aa_as
  have F1170 := F1155.other W1160 (Or.inl ne_a_as)
  have z1171 : n0 ≤ h1158.size := by rw [W1160.size]; exact z1156
  have V1162 : Arv Z h1158 as k_as .int (8 : Int32) [(.int s0), (.int s1), (.int s2), (.int a0'), (.int s4), (.int (0 : Int32)), (.int (0 : Int32)), (.int (0 : Int32))] (.int (0 : Int32)) := V1161
  refine gaload (pc' := 240) (Ls := #[.val (.long e0), .second, .val (.long e1), .second, .val (.int a0'), .val (.int a1'), .val (.int sel), .val (.int init), .val (.int lo), .val (.int (0 : Int32)), .val (.int s0), .val (.int s4), .val (.int s1), .val (.int s2), .val (.int s5), .val (.int s6), .val (.ref a), .val (.ref as)]) (rest := []) w1159 at_238 rfl rfl rfl ?_
  refine giconst (v := (5 : Int32)) (pc' := 241) w1159 at_240 rfl rfl ?_
  refine giload (pc' := 243) (Ls := #[.val (.long e0), .second, .val (.long e1), .second, .val (.int a0'), .val (.int a1'), .val (.int sel), .val (.int init), .val (.int lo), .val (.int (0 : Int32)), .val (.int s0), .val (.int s4), .val (.int s1), .val (.int s2), .val (.int s5), .val (.int s6), .val (.ref a), .val (.ref as)]) (rest := [(.int (5 : Int32)), (.ref as)]) w1159 at_241 rfl rfl ?_
  refine giastore (pc' := 244) (x' := s5) w1159 at_243 rfl V1162 (by decide) (5) rfl (by simp) g_as rfl (fun T1172 h1173 w1174 W1175 V1176 => ?_)
  have E1178 := E1163.wr W1175
  have F1179 := F1164.other W1175 (Or.inl ne_a_as)
  have V1180 := V1165.other W1175 ne_ac_as
  have F1181 := F1166.other W1175 (Or.inl ne_a_as)
  have V1182 := V1167.other W1175 ne_ap_as
  have F1183 := F1168.other W1175 (Or.inl ne_a_as)
  have V1184 := V1169.other W1175 ne_aa_as
  have F1185 := F1170.other W1175 (Or.inl ne_a_as)
  have z1186 : n0 ≤ h1173.size := by rw [W1175.size]; exact z1171
  have V1177 : Arv Z h1173 as k_as .int (8 : Int32) [(.int s0), (.int s1), (.int s2), (.int a0'), (.int s4), (.int s5), (.int (0 : Int32)), (.int (0 : Int32))] (.int (0 : Int32)) := V1176
  refine gaload (pc' := 246) (Ls := #[.val (.long e0), .second, .val (.long e1), .second, .val (.int a0'), .val (.int a1'), .val (.int sel), .val (.int init), .val (.int lo), .val (.int (0 : Int32)), .val (.int s0), .val (.int s4), .val (.int s1), .val (.int s2), .val (.int s5), .val (.int s6), .val (.ref a), .val (.ref as)]) (rest := []) w1174 at_244 rfl rfl rfl ?_
  refine gbipush (v := (6 : Int32)) (pc' := 248) w1174 at_246 rfl rfl ?_
  refine giload (pc' := 250) (Ls := #[.val (.long e0), .second, .val (.long e1), .second, .val (.int a0'), .val (.int a1'), .val (.int sel), .val (.int init), .val (.int lo), .val (.int (0 : Int32)), .val (.int s0), .val (.int s4), .val (.int s1), .val (.int s2), .val (.int s5), .val (.int s6), .val (.ref a), .val (.ref as)]) (rest := [(.int (6 : Int32)), (.ref as)]) w1174 at_248 rfl rfl ?_
  refine giastore (pc' := 251) (x' := s6) w1174 at_250 rfl V1177 (by decide) (6) rfl (by simp) g_as rfl (fun T1187 h1188 w1189 W1190 V1191 => ?_)
  have E1193 := E1178.wr W1190
  have F1194 := F1179.other W1190 (Or.inl ne_a_as)
  have V1195 := V1180.other W1190 ne_ac_as
  have F1196 := F1181.other W1190 (Or.inl ne_a_as)
  have V1197 := V1182.other W1190 ne_ap_as
  have F1198 := F1183.other W1190 (Or.inl ne_a_as)
  have V1199 := V1184.other W1190 ne_aa_as
  have F1200 := F1185.other W1190 (Or.inl ne_a_as)
  have z1201 : n0 ≤ h1188.size := by rw [W1190.size]; exact z1186
  have V1192 : Arv Z h1188 as k_as .int (8 : Int32) [(.int s0), (.int s1), (.int s2), (.int a0'), (.int s4), (.int s5), (.int s6), (.int (0 : Int32))] (.int (0 : Int32)) := V1191
  refine gaload (pc' := 253) (Ls := #[.val (.long e0), .second, .val (.long e1), .second, .val (.int a0'), .val (.int a1'), .val (.int sel), .val (.int init), .val (.int lo), .val (.int (0 : Int32)), .val (.int s0), .val (.int s4), .val (.int s1), .val (.int s2), .val (.int s5), .val (.int s6), .val (.ref a), .val (.ref as)]) (rest := []) w1189 at_251 rfl rfl rfl ?_
  refine gbipush (v := (7 : Int32)) (pc' := 255) w1189 at_253 rfl rfl ?_
  refine giload (pc' := 257) (Ls := #[.val (.long e0), .second, .val (.long e1), .second, .val (.int a0'), .val (.int a1'), .val (.int sel), .val (.int init), .val (.int lo), .val (.int (0 : Int32)), .val (.int s0), .val (.int s4), .val (.int s1), .val (.int s2), .val (.int s5), .val (.int s6), .val (.ref a), .val (.ref as)]) (rest := [(.int (7 : Int32)), (.ref as)]) w1189 at_255 rfl rfl ?_
  refine giastore (pc' := 258) (x' := a1') w1189 at_257 rfl V1192 (by decide) (7) rfl (by simp) g_as rfl (fun T1202 h1203 w1204 W1205 V1206 => ?_)
  have E1208 := E1193.wr W1205
  have F1209 := F1194.other W1205 (Or.inl ne_a_as)
  have V1210 := V1195.other W1205 ne_ac_as
  have F1211 := F1196.other W1205 (Or.inl ne_a_as)
  have V1212 := V1197.other W1205 ne_ap_as
  have F1213 := F1198.other W1205 (Or.inl ne_a_as)
  have V1214 := V1199.other W1205 ne_aa_as
  have F1215 := F1200.other W1205 (Or.inl ne_a_as)
  have z1216 : n0 ≤ h1203.size := by rw [W1205.size]; exact z1201
  have V1207 : Arv Z h1203 as k_as .int (8 : Int32) [(.int s0), (.int s1), (.int s2), (.int a0'), (.int s4), (.int s5), (.int s6), (.int a1')] (.int (0 : Int32)) := V1206
  refine gaload (pc' := 260) (Ls := #[.val (.long e0), .second, .val (.long e1), .second, .val (.int a0'), .val (.int a1'), .val (.int sel), .val (.int init), .val (.int lo), .val (.int (0 : Int32)), .val (.int s0), .val (.int s4), .val (.int s1), .val (.int s2), .val (.int s5), .val (.int s6), .val (.ref a), .val (.ref as)]) (rest := []) w1204 at_258 rfl rfl rfl ?_
  refine gaload (pc' := 262) (Ls := #[.val (.long e0), .second, .val (.long e1), .second, .val (.int a0'), .val (.int a1'), .val (.int sel), .val (.int init), .val (.int lo), .val (.int (0 : Int32)), .val (.int s0), .val (.int s4), .val (.int s1), .val (.int s2), .val (.int s5), .val (.int s6), .val (.ref a), .val (.ref as)]) (rest := [(.ref a)]) w1204 at_260 rfl rfl rfl ?_
  refine giload (pc' := 264) (Ls := #[.val (.long e0), .second, .val (.long e1), .second, .val (.int a0'), .val (.int a1'), .val (.int sel), .val (.int init), .val (.int lo), .val (.int (0 : Int32)), .val (.int s0), .val (.int s4), .val (.int s1), .val (.int s2), .val (.int s5), .val (.int s6), .val (.ref a), .val (.ref as)]) (rest := [(.ref as), (.ref a)]) w1204 at_262 rfl rfl ?_
  refine gcallV (pc' := 267) (argsL := [(.ref as), (.int (0 : Int32))]) (rest := []) (Wt := 0) w1204 at_264 (hw _ (List.mem_of_getElem? (i := 73) rfl)) (hw _ (List.mem_of_getElem? (i := 74) rfl)) (hw _ (List.mem_of_getElem? (i := 76) rfl)) (hw _ (List.mem_of_getElem? (i := 75) rfl)) (hw _ (List.mem_of_getElem? (i := 2) rfl)) (hw _ (List.mem_of_getElem? (i := 77) rfl)) E1208 rfl (by decide) pd_d10 (own_unv0 hw a ac ap aa as _ _ _ _ _ _ _ _ _ _ _ s0 s1 s2 a0' s4 s5 s6 a1' G.2.1 G.2.2.1 G.2.2.2.1 rfl rfl rfl hs0 hs4 n1 n2 n3 n5 n6 n8 ne_ac_as ne_ap_as ne_aa_as ne_a_as ⟨F1209, F1211, F1213, F1215, V1210, V1212, V1214, V1207⟩) rfl rfl rfl rfl (Nat.le_of_eq rfl) (by decide) (by decide) (by decide) (by decide) rfl (fun v1217 T1218 h1219 w1220 q1221 => ?_)
  obtain ⟨rfl, UU⟩ := q1221
  show Go _ _ _ _ _ _ _ _ _ (mkF m 267 #[.val (.long e0), .second, .val (.long e1), .second, .val (.int a0'), .val (.int a1'), .val (.int sel), .val (.int init), .val (.int lo), .val (.int (0 : Int32)), .val (.int s0), .val (.int s4), .val (.int s1), .val (.int s2), .val (.int s5), .val (.int s6), .val (.ref a), .val (.ref as)] [])
  exact own_fin0 hw w1220 lo e0 e1 a0' a1' sel init a ac ap aa as _ _ _ _ _ _ _ _ s0 s1 s2 a0' s4 s5 s6 a1' hs0 hs4 UU
set_option maxRecDepth 65536 in
set_option maxHeartbeats 4000000 in
theorem own_fin1 (hw : ∀ d ∈ tables_1, d.before a0 Z = true) (w : W Z "com/example/antecedent/antecedent/clock/TreeUnviewPinLaw" "law" code maxLocals ret n0 p l e room_1 s m args below meth c 6 56 T h) (lo : Int32) (e0 e1 : Int64) (a0' a1' sel init : Int32) (a ac ap aa as : Addr) (kc kp kt ks : ClassId) (dc dp dt ds : Value) (s0 s1 s2 s3 s4 s5 s6 s7 : Int32) (hs0 : ¬ s0 < 0 ∧ s0 < 4) (hs4 : ¬ s4 < 0 ∧ s4 < 4) (UU : own_U Z h a ac ap aa as kc kp kt ks ([(.int init), (.int (init + (1 : Int32))), (.int (init + (2 : Int32))), (.int (init + (3 : Int32)))].set (s0.toNatClampNeg) (.int s1)) ([(.int init), (.int (init - (1 : Int32))), (.int (init - (2 : Int32))), (.int (init - (3 : Int32)))].set (s0.toNatClampNeg) (.int s2)) ([(.int (init ^^^ (-1 : Int32))), (.int ((init ^^^ (-1 : Int32)) ^^^ (1 : Int32))), (.int ((init ^^^ (-1 : Int32)) ^^^ (2 : Int32))), (.int ((init ^^^ (-1 : Int32)) ^^^ (3 : Int32)))].set (s0.toNatClampNeg) (.int s3)) dc dp dt ds s0 s1 s2 s3 s4 s5 s6 s7) :
    Go n0 p e below s (fun v _ => v = some (.int 1)) room_1.cells room_1.slots T (mkF m 267 #[.val (.long e0), .second, .val (.long e1), .second, .val (.int a0'), .val (.int a1'), .val (.int sel), .val (.int init), .val (.int lo), .val (.int (1 : Int32)), .val (.int s0), .val (.int s4), .val (.int s1), .val (.int s2), .val (.int s5), .val (.int s6), .val (.ref a), .val (.ref as)] []) := by
  refine gaload (pc' := 269) (Ls := #[.val (.long e0), .second, .val (.long e1), .second, .val (.int a0'), .val (.int a1'), .val (.int sel), .val (.int init), .val (.int lo), .val (.int (1 : Int32)), .val (.int s0), .val (.int s4), .val (.int s1), .val (.int s2), .val (.int s5), .val (.int s6), .val (.ref a), .val (.ref as)]) (rest := []) w at_267 rfl rfl rfl ?_
  refine giconst (v := (0 : Int32)) (pc' := 270) w at_269 rfl rfl ?_
  refine giload (pc' := 272) (Ls := #[.val (.long e0), .second, .val (.long e1), .second, .val (.int a0'), .val (.int a1'), .val (.int sel), .val (.int init), .val (.int lo), .val (.int (1 : Int32)), .val (.int s0), .val (.int s4), .val (.int s1), .val (.int s2), .val (.int s5), .val (.int s6), .val (.ref a), .val (.ref as)]) (rest := [(.int (0 : Int32)), (.ref a)]) w at_270 rfl rfl ?_
  refine gaload (pc' := 274) (Ls := #[.val (.long e0), .second, .val (.long e1), .second, .val (.int a0'), .val (.int a1'), .val (.int sel), .val (.int init), .val (.int lo), .val (.int (1 : Int32)), .val (.int s0), .val (.int s4), .val (.int s1), .val (.int s2), .val (.int s5), .val (.int s6), .val (.ref a), .val (.ref as)]) (rest := [(.int (1 : Int32)), (.int (0 : Int32)), (.ref a)]) w at_272 rfl rfl rfl ?_
  refine giload (pc' := 276) (Ls := #[.val (.long e0), .second, .val (.long e1), .second, .val (.int a0'), .val (.int a1'), .val (.int sel), .val (.int init), .val (.int lo), .val (.int (1 : Int32)), .val (.int s0), .val (.int s4), .val (.int s1), .val (.int s2), .val (.int s5), .val (.int s6), .val (.ref a), .val (.ref as)]) (rest := [(.ref as), (.int (1 : Int32)), (.int (0 : Int32)), (.ref a)]) w at_274 rfl rfl ?_
  refine gcallS (pc' := 279) (argsL := [(.ref a), (.int (0 : Int32)), (.int (1 : Int32)), (.ref as), (.int init)]) (rest := []) (Wt := 0) w at_276 (hw _ (List.mem_of_getElem? (i := 78) rfl)) (hw _ (List.mem_of_getElem? (i := 79) rfl)) (hw _ (List.mem_of_getElem? (i := 80) rfl)) (hw _ (List.mem_of_getElem? (i := 81) rfl)) (by decide) pd_d11 (own_chk hw (0 : Int32) (1 : Int32) init _ _ _ a ac ap aa as kc kp kt ks _ _ _ dc dp dt ds s0 s1 s2 s3 s4 s5 s6 s7 (by decide) (own_g1 rfl hs0 (by decide) (by show (Value.int _) = Value.int _; rw [Int32.add_zero])) (own_g1 rfl hs0 (by decide) (by show (Value.int _) = Value.int _; rw [Int32.sub_zero])) (own_g1 rfl hs0 (by decide) (by show (Value.int _) = Value.int _; rw [Int32.xor_zero])) rfl rfl rfl UU) rfl rfl rfl rfl (Nat.le_of_eq rfl) (by decide) (by decide) (by decide) (by decide) rfl (fun v1222 T1223 h1224 w1225 q1226 => ?_)
  obtain ⟨rfl, eh⟩ := q1226
  show Go _ _ _ _ _ _ _ _ _ (mkF m 279 #[.val (.long e0), .second, .val (.long e1), .second, .val (.int a0'), .val (.int a1'), .val (.int sel), .val (.int init), .val (.int lo), .val (.int (1 : Int32)), .val (.int s0), .val (.int s4), .val (.int s1), .val (.int s2), .val (.int s5), .val (.int s6), .val (.ref a), .val (.ref as)] [(.int (1 : Int32))])
  rw [eh] at w1225
  refine gif (pt := 340) (pf := 282) w1225 at_279  (by decide) rfl rfl (fun (c279 : (1 : Int32) = (0 : Int32)) => ?_) (fun (c279 : ¬ (1 : Int32) = (0 : Int32)) => ?_)
  · exact absurd c279 (by decide)
  · refine gaload (pc' := 284) (Ls := #[.val (.long e0), .second, .val (.long e1), .second, .val (.int a0'), .val (.int a1'), .val (.int sel), .val (.int init), .val (.int lo), .val (.int (1 : Int32)), .val (.int s0), .val (.int s4), .val (.int s1), .val (.int s2), .val (.int s5), .val (.int s6), .val (.ref a), .val (.ref as)]) (rest := []) w1225 at_282 rfl rfl rfl ?_
    refine giconst (v := (1 : Int32)) (pc' := 285) w1225 at_284 rfl rfl ?_
    refine giload (pc' := 287) (Ls := #[.val (.long e0), .second, .val (.long e1), .second, .val (.int a0'), .val (.int a1'), .val (.int sel), .val (.int init), .val (.int lo), .val (.int (1 : Int32)), .val (.int s0), .val (.int s4), .val (.int s1), .val (.int s2), .val (.int s5), .val (.int s6), .val (.ref a), .val (.ref as)]) (rest := [(.int (1 : Int32)), (.ref a)]) w1225 at_285 rfl rfl ?_
    refine gaload (pc' := 289) (Ls := #[.val (.long e0), .second, .val (.long e1), .second, .val (.int a0'), .val (.int a1'), .val (.int sel), .val (.int init), .val (.int lo), .val (.int (1 : Int32)), .val (.int s0), .val (.int s4), .val (.int s1), .val (.int s2), .val (.int s5), .val (.int s6), .val (.ref a), .val (.ref as)]) (rest := [(.int (1 : Int32)), (.int (1 : Int32)), (.ref a)]) w1225 at_287 rfl rfl rfl ?_
    refine giload (pc' := 291) (Ls := #[.val (.long e0), .second, .val (.long e1), .second, .val (.int a0'), .val (.int a1'), .val (.int sel), .val (.int init), .val (.int lo), .val (.int (1 : Int32)), .val (.int s0), .val (.int s4), .val (.int s1), .val (.int s2), .val (.int s5), .val (.int s6), .val (.ref a), .val (.ref as)]) (rest := [(.ref as), (.int (1 : Int32)), (.int (1 : Int32)), (.ref a)]) w1225 at_289 rfl rfl ?_
    refine gcallS (pc' := 294) (argsL := [(.ref a), (.int (1 : Int32)), (.int (1 : Int32)), (.ref as), (.int init)]) (rest := []) (Wt := 0) w1225 at_291 (hw _ (List.mem_of_getElem? (i := 78) rfl)) (hw _ (List.mem_of_getElem? (i := 79) rfl)) (hw _ (List.mem_of_getElem? (i := 80) rfl)) (hw _ (List.mem_of_getElem? (i := 81) rfl)) (by decide) pd_d11 (own_chk hw (1 : Int32) (1 : Int32) init _ _ _ a ac ap aa as kc kp kt ks _ _ _ dc dp dt ds s0 s1 s2 s3 s4 s5 s6 s7 (by decide) (own_g1 rfl hs0 (by decide) (by rfl)) (own_g1 rfl hs0 (by decide) (by rfl)) (own_g1 rfl hs0 (by decide) (by rfl)) rfl rfl rfl UU) rfl rfl rfl rfl (Nat.le_of_eq rfl) (by decide) (by decide) (by decide) (by decide) rfl (fun v1227 T1228 h1229 w1230 q1231 => ?_)
    obtain ⟨rfl, eh⟩ := q1231
    show Go _ _ _ _ _ _ _ _ _ (mkF m 294 #[.val (.long e0), .second, .val (.long e1), .second, .val (.int a0'), .val (.int a1'), .val (.int sel), .val (.int init), .val (.int lo), .val (.int (1 : Int32)), .val (.int s0), .val (.int s4), .val (.int s1), .val (.int s2), .val (.int s5), .val (.int s6), .val (.ref a), .val (.ref as)] [(.int (1 : Int32))])
    rw [eh] at w1230
    refine gif (pt := 340) (pf := 297) w1230 at_294  (by decide) rfl rfl (fun (c294 : (1 : Int32) = (0 : Int32)) => ?_) (fun (c294 : ¬ (1 : Int32) = (0 : Int32)) => ?_)
    · exact absurd c294 (by decide)
    · refine gaload (pc' := 299) (Ls := #[.val (.long e0), .second, .val (.long e1), .second, .val (.int a0'), .val (.int a1'), .val (.int sel), .val (.int init), .val (.int lo), .val (.int (1 : Int32)), .val (.int s0), .val (.int s4), .val (.int s1), .val (.int s2), .val (.int s5), .val (.int s6), .val (.ref a), .val (.ref as)]) (rest := []) w1230 at_297 rfl rfl rfl ?_
      refine giconst (v := (2 : Int32)) (pc' := 300) w1230 at_299 rfl rfl ?_
      refine giload (pc' := 302) (Ls := #[.val (.long e0), .second, .val (.long e1), .second, .val (.int a0'), .val (.int a1'), .val (.int sel), .val (.int init), .val (.int lo), .val (.int (1 : Int32)), .val (.int s0), .val (.int s4), .val (.int s1), .val (.int s2), .val (.int s5), .val (.int s6), .val (.ref a), .val (.ref as)]) (rest := [(.int (2 : Int32)), (.ref a)]) w1230 at_300 rfl rfl ?_
      refine gaload (pc' := 304) (Ls := #[.val (.long e0), .second, .val (.long e1), .second, .val (.int a0'), .val (.int a1'), .val (.int sel), .val (.int init), .val (.int lo), .val (.int (1 : Int32)), .val (.int s0), .val (.int s4), .val (.int s1), .val (.int s2), .val (.int s5), .val (.int s6), .val (.ref a), .val (.ref as)]) (rest := [(.int (1 : Int32)), (.int (2 : Int32)), (.ref a)]) w1230 at_302 rfl rfl rfl ?_
      refine giload (pc' := 306) (Ls := #[.val (.long e0), .second, .val (.long e1), .second, .val (.int a0'), .val (.int a1'), .val (.int sel), .val (.int init), .val (.int lo), .val (.int (1 : Int32)), .val (.int s0), .val (.int s4), .val (.int s1), .val (.int s2), .val (.int s5), .val (.int s6), .val (.ref a), .val (.ref as)]) (rest := [(.ref as), (.int (1 : Int32)), (.int (2 : Int32)), (.ref a)]) w1230 at_304 rfl rfl ?_
      refine gcallS (pc' := 309) (argsL := [(.ref a), (.int (2 : Int32)), (.int (1 : Int32)), (.ref as), (.int init)]) (rest := []) (Wt := 0) w1230 at_306 (hw _ (List.mem_of_getElem? (i := 78) rfl)) (hw _ (List.mem_of_getElem? (i := 79) rfl)) (hw _ (List.mem_of_getElem? (i := 80) rfl)) (hw _ (List.mem_of_getElem? (i := 81) rfl)) (by decide) pd_d11 (own_chk hw (2 : Int32) (1 : Int32) init _ _ _ a ac ap aa as kc kp kt ks _ _ _ dc dp dt ds s0 s1 s2 s3 s4 s5 s6 s7 (by decide) (own_g1 rfl hs0 (by decide) (by rfl)) (own_g1 rfl hs0 (by decide) (by rfl)) (own_g1 rfl hs0 (by decide) (by rfl)) rfl rfl rfl UU) rfl rfl rfl rfl (Nat.le_of_eq rfl) (by decide) (by decide) (by decide) (by decide) rfl (fun v1232 T1233 h1234 w1235 q1236 => ?_)
      obtain ⟨rfl, eh⟩ := q1236
      show Go _ _ _ _ _ _ _ _ _ (mkF m 309 #[.val (.long e0), .second, .val (.long e1), .second, .val (.int a0'), .val (.int a1'), .val (.int sel), .val (.int init), .val (.int lo), .val (.int (1 : Int32)), .val (.int s0), .val (.int s4), .val (.int s1), .val (.int s2), .val (.int s5), .val (.int s6), .val (.ref a), .val (.ref as)] [(.int (1 : Int32))])
      rw [eh] at w1235
      refine gif (pt := 340) (pf := 312) w1235 at_309  (by decide) rfl rfl (fun (c309 : (1 : Int32) = (0 : Int32)) => ?_) (fun (c309 : ¬ (1 : Int32) = (0 : Int32)) => ?_)
      · exact absurd c309 (by decide)
      · refine gaload (pc' := 314) (Ls := #[.val (.long e0), .second, .val (.long e1), .second, .val (.int a0'), .val (.int a1'), .val (.int sel), .val (.int init), .val (.int lo), .val (.int (1 : Int32)), .val (.int s0), .val (.int s4), .val (.int s1), .val (.int s2), .val (.int s5), .val (.int s6), .val (.ref a), .val (.ref as)]) (rest := []) w1235 at_312 rfl rfl rfl ?_
        refine giconst (v := (3 : Int32)) (pc' := 315) w1235 at_314 rfl rfl ?_
        refine giload (pc' := 317) (Ls := #[.val (.long e0), .second, .val (.long e1), .second, .val (.int a0'), .val (.int a1'), .val (.int sel), .val (.int init), .val (.int lo), .val (.int (1 : Int32)), .val (.int s0), .val (.int s4), .val (.int s1), .val (.int s2), .val (.int s5), .val (.int s6), .val (.ref a), .val (.ref as)]) (rest := [(.int (3 : Int32)), (.ref a)]) w1235 at_315 rfl rfl ?_
        refine gaload (pc' := 319) (Ls := #[.val (.long e0), .second, .val (.long e1), .second, .val (.int a0'), .val (.int a1'), .val (.int sel), .val (.int init), .val (.int lo), .val (.int (1 : Int32)), .val (.int s0), .val (.int s4), .val (.int s1), .val (.int s2), .val (.int s5), .val (.int s6), .val (.ref a), .val (.ref as)]) (rest := [(.int (1 : Int32)), (.int (3 : Int32)), (.ref a)]) w1235 at_317 rfl rfl rfl ?_
        refine giload (pc' := 321) (Ls := #[.val (.long e0), .second, .val (.long e1), .second, .val (.int a0'), .val (.int a1'), .val (.int sel), .val (.int init), .val (.int lo), .val (.int (1 : Int32)), .val (.int s0), .val (.int s4), .val (.int s1), .val (.int s2), .val (.int s5), .val (.int s6), .val (.ref a), .val (.ref as)]) (rest := [(.ref as), (.int (1 : Int32)), (.int (3 : Int32)), (.ref a)]) w1235 at_319 rfl rfl ?_
        refine gcallS (pc' := 324) (argsL := [(.ref a), (.int (3 : Int32)), (.int (1 : Int32)), (.ref as), (.int init)]) (rest := []) (Wt := 0) w1235 at_321 (hw _ (List.mem_of_getElem? (i := 78) rfl)) (hw _ (List.mem_of_getElem? (i := 79) rfl)) (hw _ (List.mem_of_getElem? (i := 80) rfl)) (hw _ (List.mem_of_getElem? (i := 81) rfl)) (by decide) pd_d11 (own_chk hw (3 : Int32) (1 : Int32) init _ _ _ a ac ap aa as kc kp kt ks _ _ _ dc dp dt ds s0 s1 s2 s3 s4 s5 s6 s7 (by decide) (own_g1 rfl hs0 (by decide) (by rfl)) (own_g1 rfl hs0 (by decide) (by rfl)) (own_g1 rfl hs0 (by decide) (by rfl)) rfl rfl rfl UU) rfl rfl rfl rfl (Nat.le_of_eq rfl) (by decide) (by decide) (by decide) (by decide) rfl (fun v1237 T1238 h1239 w1240 q1241 => ?_)
        obtain ⟨rfl, eh⟩ := q1241
        show Go _ _ _ _ _ _ _ _ _ (mkF m 324 #[.val (.long e0), .second, .val (.long e1), .second, .val (.int a0'), .val (.int a1'), .val (.int sel), .val (.int init), .val (.int lo), .val (.int (1 : Int32)), .val (.int s0), .val (.int s4), .val (.int s1), .val (.int s2), .val (.int s5), .val (.int s6), .val (.ref a), .val (.ref as)] [(.int (1 : Int32))])
        rw [eh] at w1240
        refine gif (pt := 340) (pf := 327) w1240 at_324  (by decide) rfl rfl (fun (c324 : (1 : Int32) = (0 : Int32)) => ?_) (fun (c324 : ¬ (1 : Int32) = (0 : Int32)) => ?_)
        · exact absurd c324 (by decide)
        · refine gaload (pc' := 329) (Ls := #[.val (.long e0), .second, .val (.long e1), .second, .val (.int a0'), .val (.int a1'), .val (.int sel), .val (.int init), .val (.int lo), .val (.int (1 : Int32)), .val (.int s0), .val (.int s4), .val (.int s1), .val (.int s2), .val (.int s5), .val (.int s6), .val (.ref a), .val (.ref as)]) (rest := []) w1240 at_327 rfl rfl rfl ?_
          refine ggetF (pc' := 332) w1240 at_329 (hw _ (List.mem_of_getElem? (i := 82) rfl)) UU.2.2.2.1 rfl (fun T1243 w1242 => ?_)
          refine giconst (v := (4 : Int32)) (pc' := 333) w1242 at_332 rfl rfl ?_
          refine gicmp (pt := 340) (pf := 336) w1242 at_333  (by decide) rfl rfl (fun (c333 : ¬ (4 : Int32) = (4 : Int32)) => ?_) (fun (c333 : (4 : Int32) = (4 : Int32)) => ?_)
          · exact absurd c333 (by decide)
          · refine giconst (v := (1 : Int32)) (pc' := 337) w1242 at_336 rfl rfl ?_
            refine ggoto (pc' := 341) w1242 at_337 (by decide) rfl ?_
            exact gretZ w1242 at_341 rfl (by decide) (by decide) rfl
set_option maxRecDepth 65536 in
set_option maxHeartbeats 4000000 in
theorem own_b58_1 (hw : ∀ d ∈ tables_1, d.before a0 Z = true) (w : W Z "com/example/antecedent/antecedent/clock/TreeUnviewPinLaw" "law" code maxLocals ret n0 p l e room_1 s m args below meth c 0 0 T h) (lo : Int32) (e0 e1 : Int64) (a0' a1' sel init : Int32) (aL : Addr) (s0 s1 s2 s4 s5 s6 : Int32) (hs0 : ¬ s0 < 0 ∧ s0 < 4) (hs4 : ¬ s4 < 0 ∧ s4 < 4) (z0 : n0 ≤ h.size) (SL : Sta Z h "com/example/antecedent/antecedent/clock/Tree" "NO_LOG" "[I" (.ref aL)) :
    Go n0 p e below s (fun v _ => v = some (.int 1)) room_1.cells room_1.slots T (mkF m 58 #[.val (.long e0), .second, .val (.long e1), .second, .val (.int a0'), .val (.int a1'), .val (.int sel), .val (.int init), .val (.int lo), .val (.int (1 : Int32)), .val (.int s0), .val (.int s4), .val (.int s1), .val (.int s2), .val (.int s5), .val (.int s6), .unset, .unset] []) := by
  refine gnewO (pc' := 61) w at_58 (hw _ (List.mem_of_getElem? (i := 0) rfl)) (hw _ (List.mem_of_getElem? (i := 1) rfl)) (hw _ (List.mem_of_getElem? (i := 2) rfl)) (by decide) (by decide) rfl (fun T1244 h1245 a s1246 w1247 E1248 A1249 D1250 => ?_)
  have g_a : n0 ≤ a := Nat.le_trans z0 (Nat.le_of_eq s1246)
  have S1251 := SL.ext E1248
  have z1252 := Nat.le_trans z0 E1248.1
  have F1253 : Fld Z h1245 a "com/example/antecedent/antecedent/clock/Tree" "liftedBases" "[I" .null := D1250 (Or.inl (hw _ (List.mem_of_getElem? (i := 12) rfl))) (ty := (.array .int)) (by decide)
  have F1254 : Fld Z h1245 a "com/example/antecedent/antecedent/clock/Tree" "liftedCounts" "[I" .null := D1250 (Or.inl (hw _ (List.mem_of_getElem? (i := 14) rfl))) (ty := (.array .int)) (by decide)
  have F1255 : Fld Z h1245 a "com/example/antecedent/antecedent/clock/Tree" "liftedParents" "[I" .null := D1250 (Or.inl (hw _ (List.mem_of_getElem? (i := 16) rfl))) (ty := (.array .int)) (by decide)
  have F1256 : Fld Z h1245 a "com/example/antecedent/antecedent/clock/Tree" "liftedAttached" "[I" .null := D1250 (Or.inl (hw _ (List.mem_of_getElem? (i := 18) rfl))) (ty := (.array .int)) (by decide)
  have F1257 : Fld Z h1245 a "com/example/antecedent/antecedent/clock/Tree" "earlierLifts" "[I" .null := D1250 (Or.inl (hw _ (List.mem_of_getElem? (i := 20) rfl))) (ty := (.array .int)) (by decide)
  have F1258 : Fld Z h1245 a "com/example/antecedent/antecedent/clock/Tree" "lastLifts" "[I" .null := D1250 (Or.inl (hw _ (List.mem_of_getElem? (i := 22) rfl))) (ty := (.array .int)) (by decide)
  have F1259 : Fld Z h1245 a "com/example/antecedent/antecedent/clock/Tree" "counts" "[I" .null := D1250 (Or.inl (hw _ (List.mem_of_getElem? (i := 25) rfl))) (ty := (.array .int)) (by decide)
  have F1260 : Fld Z h1245 a "com/example/antecedent/antecedent/clock/Tree" "parents" "[I" .null := D1250 (Or.inl (hw _ (List.mem_of_getElem? (i := 27) rfl))) (ty := (.array .int)) (by decide)
  have F1261 : Fld Z h1245 a "com/example/antecedent/antecedent/clock/Tree" "attached" "[I" .null := D1250 (Or.inl (hw _ (List.mem_of_getElem? (i := 29) rfl))) (ty := (.array .int)) (by decide)
  have F1262 : Fld Z h1245 a "com/example/antecedent/antecedent/clock/Tree" "links" "[I" .null := D1250 (Or.inl (hw _ (List.mem_of_getElem? (i := 31) rfl))) (ty := (.array .int)) (by decide)
  have F1263 : Fld Z h1245 a "com/example/antecedent/antecedent/clock/Tree" "version" "I" (.int (0 : Int32)) := D1250 (Or.inl (hw _ (List.mem_of_getElem? (i := 43) rfl))) (ty := .int) (by decide)
  have F1264 : Fld Z h1245 a "com/example/antecedent/antecedent/clock/Tree" "blendedFrom" "Lcom/example/antecedent/antecedent/clock/Tree;" .null := D1250 (Or.inl (hw _ (List.mem_of_getElem? (i := 45) rfl))) (ty := (.object "com/example/antecedent/antecedent/clock/Tree")) (by decide)
  have F1265 : Fld Z h1245 a "com/example/antecedent/antecedent/clock/Tree" "room" "I" (.int (0 : Int32)) := D1250 (Or.inl (hw _ (List.mem_of_getElem? (i := 52) rfl))) (ty := .int) (by decide)
  have F1266 : Fld Z h1245 a "com/example/antecedent/antecedent/clock/Tree" "listed" "Z" (.int (0 : Int32)) := D1250 (Or.inl (hw _ (List.mem_of_getElem? (i := 69) rfl))) (ty := .boolean) (by decide)
  refine gdup (pc' := 62) w1247 at_61 rfl rfl ?_
  refine giconst (v := (4 : Int32)) (pc' := 63) w1247 at_62 rfl rfl ?_
  refine gcallN (pc' := 66) (argsL := [(.int (4 : Int32))]) (rest := [(.ref a)]) (Wt := 1) w1247 at_63 (hw _ (List.mem_of_getElem? (i := 3) rfl)) (hw _ (List.mem_of_getElem? (i := 4) rfl)) (hw _ (List.mem_of_getElem? (i := 2) rfl)) (hw _ (List.mem_of_getElem? (i := 5) rfl)) rfl (by decide) pd_d1 (own_ini hw a aL z1252 g_a A1249 S1251 F1253 F1254 F1255 F1256 F1257 F1258 F1259 F1260 F1261 F1262 F1263 F1264 F1265 F1266) rfl rfl rfl rfl (Nat.le_of_eq rfl) (by decide) (by decide) (by decide) (by decide) rfl (fun v1267 T1268 h1269 w1270 q1271 => ?_)
  obtain ⟨rfl, ac, ap, aa, al, G, ⟨E0, Fc, Fp, Ft, Fl, Fr, ⟨ov, Fv⟩, ⟨ob, Fb⟩, ⟨oi, Fi⟩, ⟨kc, vc, dc, lc, Vc⟩, ⟨kp, vp, dp, lp, Vp⟩, ⟨kt, vt, dt, lt, Vt⟩, ⟨kl, vl, dl, ll, Vl⟩, n1, n2, n3, n4, n5, n6, n7, n8, n9, n10⟩⟩ := q1271
  show Go _ _ _ _ _ _ _ _ _ (mkF m 66 #[.val (.long e0), .second, .val (.long e1), .second, .val (.int a0'), .val (.int a1'), .val (.int sel), .val (.int init), .val (.int lo), .val (.int (1 : Int32)), .val (.int s0), .val (.int s4), .val (.int s1), .val (.int s2), .val (.int s5), .val (.int s6), .unset, .unset] [(.ref a)])
  have zz : n0 ≤ h1269.size := Nat.le_of_lt (Nat.lt_of_le_of_lt G.1 E0.lt)
  obtain ⟨uc0, uc1, uc2, uc3, rfl⟩ := own_l4 lc
  obtain ⟨up0, up1, up2, up3, rfl⟩ := own_l4 lp
  obtain ⟨ut0, ut1, ut2, ut3, rfl⟩ := own_l4 lt
  refine gastore (pc' := 68) (Ls := #[.val (.long e0), .second, .val (.long e1), .second, .val (.int a0'), .val (.int a1'), .val (.int sel), .val (.int init), .val (.int lo), .val (.int (1 : Int32)), .val (.int s0), .val (.int s4), .val (.int s1), .val (.int s2), .val (.int s5), .val (.int s6), .unset, .unset]) (Ls' := #[.val (.long e0), .second, .val (.long e1), .second, .val (.int a0'), .val (.int a1'), .val (.int sel), .val (.int init), .val (.int lo), .val (.int (1 : Int32)), .val (.int s0), .val (.int s4), .val (.int s1), .val (.int s2), .val (.int s5), .val (.int s6), .val (.ref a), .unset]) (rest := []) w1270 at_66 rfl rfl rfl ?_
  refine gaload (pc' := 70) (Ls := #[.val (.long e0), .second, .val (.long e1), .second, .val (.int a0'), .val (.int a1'), .val (.int sel), .val (.int init), .val (.int lo), .val (.int (1 : Int32)), .val (.int s0), .val (.int s4), .val (.int s1), .val (.int s2), .val (.int s5), .val (.int s6), .val (.ref a), .unset]) (rest := []) w1270 at_68 rfl rfl rfl ?_
  refine ggetF (pc' := 73) w1270 at_70 (hw _ (List.mem_of_getElem? (i := 70) rfl)) Fc rfl (fun T1272 w1273 => ?_)
  refine giconst (v := (0 : Int32)) (pc' := 74) w1273 at_73 rfl rfl ?_
  refine giload (pc' := 76) (Ls := #[.val (.long e0), .second, .val (.long e1), .second, .val (.int a0'), .val (.int a1'), .val (.int sel), .val (.int init), .val (.int lo), .val (.int (1 : Int32)), .val (.int s0), .val (.int s4), .val (.int s1), .val (.int s2), .val (.int s5), .val (.int s6), .val (.ref a), .unset]) (rest := [(.int (0 : Int32)), (.ref ac)]) w1273 at_74 rfl rfl ?_
  refine giastore (pc' := 77) (x' := init) w1273 at_76 rfl Vc (by decide) (0) rfl (by simp) G.2.1 rfl (fun T1274 h1275 w1276 W1277 V1278 => ?_)
  have E1280 := E0.wr W1277
  have F1281 := Fc.other W1277 (Or.inl n1)
  have F1282 := Fp.other W1277 (Or.inl n1)
  have V1283 := Vp.other W1277 (Ne.symm n5)
  have F1284 := Ft.other W1277 (Or.inl n1)
  have V1285 := Vt.other W1277 (Ne.symm n6)
  have F1286 := Fr.other W1277 (Or.inl n1)
  have z1287 : n0 ≤ h1275.size := by rw [W1277.size]; exact zz
  have V1279 : Arv Z h1275 ac kc .int (4 : Int32) [(.int init), uc1, uc2, uc3] dc := V1278
  refine gaload (pc' := 79) (Ls := #[.val (.long e0), .second, .val (.long e1), .second, .val (.int a0'), .val (.int a1'), .val (.int sel), .val (.int init), .val (.int lo), .val (.int (1 : Int32)), .val (.int s0), .val (.int s4), .val (.int s1), .val (.int s2), .val (.int s5), .val (.int s6), .val (.ref a), .unset]) (rest := []) w1276 at_77 rfl rfl rfl ?_
  refine ggetF (pc' := 82) w1276 at_79 (hw _ (List.mem_of_getElem? (i := 70) rfl)) F1281 rfl (fun T1288 w1289 => ?_)
  refine giconst (v := (1 : Int32)) (pc' := 83) w1289 at_82 rfl rfl ?_
  refine giload (pc' := 85) (Ls := #[.val (.long e0), .second, .val (.long e1), .second, .val (.int a0'), .val (.int a1'), .val (.int sel), .val (.int init), .val (.int lo), .val (.int (1 : Int32)), .val (.int s0), .val (.int s4), .val (.int s1), .val (.int s2), .val (.int s5), .val (.int s6), .val (.ref a), .unset]) (rest := [(.int (1 : Int32)), (.ref ac)]) w1289 at_83 rfl rfl ?_
  refine giconst (v := (1 : Int32)) (pc' := 86) w1289 at_85 rfl rfl ?_
  refine giadd (pc' := 87) w1289 at_86 rfl ?_
  refine giastore (pc' := 88) (x' := (init + (1 : Int32))) w1289 at_87 rfl V1279 (by decide) (1) rfl (by simp) G.2.1 rfl (fun T1290 h1291 w1292 W1293 V1294 => ?_)
  have E1296 := E1280.wr W1293
  have F1297 := F1281.other W1293 (Or.inl n1)
  have F1298 := F1282.other W1293 (Or.inl n1)
  have V1299 := V1283.other W1293 (Ne.symm n5)
  have F1300 := F1284.other W1293 (Or.inl n1)
  have V1301 := V1285.other W1293 (Ne.symm n6)
  have F1302 := F1286.other W1293 (Or.inl n1)
  have z1303 : n0 ≤ h1291.size := by rw [W1293.size]; exact z1287
  have V1295 : Arv Z h1291 ac kc .int (4 : Int32) [(.int init), (.int (init + (1 : Int32))), uc2, uc3] dc := V1294
  refine gaload (pc' := 90) (Ls := #[.val (.long e0), .second, .val (.long e1), .second, .val (.int a0'), .val (.int a1'), .val (.int sel), .val (.int init), .val (.int lo), .val (.int (1 : Int32)), .val (.int s0), .val (.int s4), .val (.int s1), .val (.int s2), .val (.int s5), .val (.int s6), .val (.ref a), .unset]) (rest := []) w1292 at_88 rfl rfl rfl ?_
  refine ggetF (pc' := 93) w1292 at_90 (hw _ (List.mem_of_getElem? (i := 70) rfl)) F1297 rfl (fun T1304 w1305 => ?_)
  refine giconst (v := (2 : Int32)) (pc' := 94) w1305 at_93 rfl rfl ?_
  refine giload (pc' := 96) (Ls := #[.val (.long e0), .second, .val (.long e1), .second, .val (.int a0'), .val (.int a1'), .val (.int sel), .val (.int init), .val (.int lo), .val (.int (1 : Int32)), .val (.int s0), .val (.int s4), .val (.int s1), .val (.int s2), .val (.int s5), .val (.int s6), .val (.ref a), .unset]) (rest := [(.int (2 : Int32)), (.ref ac)]) w1305 at_94 rfl rfl ?_
  refine giconst (v := (2 : Int32)) (pc' := 97) w1305 at_96 rfl rfl ?_
  refine giadd (pc' := 98) w1305 at_97 rfl ?_
  refine giastore (pc' := 99) (x' := (init + (2 : Int32))) w1305 at_98 rfl V1295 (by decide) (2) rfl (by simp) G.2.1 rfl (fun T1306 h1307 w1308 W1309 V1310 => ?_)
  have E1312 := E1296.wr W1309
  have F1313 := F1297.other W1309 (Or.inl n1)
  have F1314 := F1298.other W1309 (Or.inl n1)
  have V1315 := V1299.other W1309 (Ne.symm n5)
  have F1316 := F1300.other W1309 (Or.inl n1)
  have V1317 := V1301.other W1309 (Ne.symm n6)
  have F1318 := F1302.other W1309 (Or.inl n1)
  have z1319 : n0 ≤ h1307.size := by rw [W1309.size]; exact z1303
  have V1311 : Arv Z h1307 ac kc .int (4 : Int32) [(.int init), (.int (init + (1 : Int32))), (.int (init + (2 : Int32))), uc3] dc := V1310
  refine gaload (pc' := 101) (Ls := #[.val (.long e0), .second, .val (.long e1), .second, .val (.int a0'), .val (.int a1'), .val (.int sel), .val (.int init), .val (.int lo), .val (.int (1 : Int32)), .val (.int s0), .val (.int s4), .val (.int s1), .val (.int s2), .val (.int s5), .val (.int s6), .val (.ref a), .unset]) (rest := []) w1308 at_99 rfl rfl rfl ?_
  refine ggetF (pc' := 104) w1308 at_101 (hw _ (List.mem_of_getElem? (i := 70) rfl)) F1313 rfl (fun T1320 w1321 => ?_)
  refine giconst (v := (3 : Int32)) (pc' := 105) w1321 at_104 rfl rfl ?_
  refine giload (pc' := 107) (Ls := #[.val (.long e0), .second, .val (.long e1), .second, .val (.int a0'), .val (.int a1'), .val (.int sel), .val (.int init), .val (.int lo), .val (.int (1 : Int32)), .val (.int s0), .val (.int s4), .val (.int s1), .val (.int s2), .val (.int s5), .val (.int s6), .val (.ref a), .unset]) (rest := [(.int (3 : Int32)), (.ref ac)]) w1321 at_105 rfl rfl ?_
  refine giconst (v := (3 : Int32)) (pc' := 108) w1321 at_107 rfl rfl ?_
  refine giadd (pc' := 109) w1321 at_108 rfl ?_
  refine giastore (pc' := 110) (x' := (init + (3 : Int32))) w1321 at_109 rfl V1311 (by decide) (3) rfl (by simp) G.2.1 rfl (fun T1322 h1323 w1324 W1325 V1326 => ?_)
  have E1328 := E1312.wr W1325
  have F1329 := F1313.other W1325 (Or.inl n1)
  have F1330 := F1314.other W1325 (Or.inl n1)
  have V1331 := V1315.other W1325 (Ne.symm n5)
  have F1332 := F1316.other W1325 (Or.inl n1)
  have V1333 := V1317.other W1325 (Ne.symm n6)
  have F1334 := F1318.other W1325 (Or.inl n1)
  have z1335 : n0 ≤ h1323.size := by rw [W1325.size]; exact z1319
  have V1327 : Arv Z h1323 ac kc .int (4 : Int32) [(.int init), (.int (init + (1 : Int32))), (.int (init + (2 : Int32))), (.int (init + (3 : Int32)))] dc := V1326
  refine gaload (pc' := 112) (Ls := #[.val (.long e0), .second, .val (.long e1), .second, .val (.int a0'), .val (.int a1'), .val (.int sel), .val (.int init), .val (.int lo), .val (.int (1 : Int32)), .val (.int s0), .val (.int s4), .val (.int s1), .val (.int s2), .val (.int s5), .val (.int s6), .val (.ref a), .unset]) (rest := []) w1324 at_110 rfl rfl rfl ?_
  refine ggetF (pc' := 115) w1324 at_112 (hw _ (List.mem_of_getElem? (i := 71) rfl)) F1330 rfl (fun T1336 w1337 => ?_)
  refine giconst (v := (0 : Int32)) (pc' := 116) w1337 at_115 rfl rfl ?_
  refine giload (pc' := 118) (Ls := #[.val (.long e0), .second, .val (.long e1), .second, .val (.int a0'), .val (.int a1'), .val (.int sel), .val (.int init), .val (.int lo), .val (.int (1 : Int32)), .val (.int s0), .val (.int s4), .val (.int s1), .val (.int s2), .val (.int s5), .val (.int s6), .val (.ref a), .unset]) (rest := [(.int (0 : Int32)), (.ref ap)]) w1337 at_116 rfl rfl ?_
  refine giastore (pc' := 119) (x' := init) w1337 at_118 rfl V1331 (by decide) (0) rfl (by simp) G.2.2.1 rfl (fun T1338 h1339 w1340 W1341 V1342 => ?_)
  have E1344 := E1328.wr W1341
  have F1345 := F1329.other W1341 (Or.inl n2)
  have V1346 := V1327.other W1341 n5
  have F1347 := F1330.other W1341 (Or.inl n2)
  have F1348 := F1332.other W1341 (Or.inl n2)
  have V1349 := V1333.other W1341 (Ne.symm n8)
  have F1350 := F1334.other W1341 (Or.inl n2)
  have z1351 : n0 ≤ h1339.size := by rw [W1341.size]; exact z1335
  have V1343 : Arv Z h1339 ap kp .int (4 : Int32) [(.int init), up1, up2, up3] dp := V1342
  refine gaload (pc' := 121) (Ls := #[.val (.long e0), .second, .val (.long e1), .second, .val (.int a0'), .val (.int a1'), .val (.int sel), .val (.int init), .val (.int lo), .val (.int (1 : Int32)), .val (.int s0), .val (.int s4), .val (.int s1), .val (.int s2), .val (.int s5), .val (.int s6), .val (.ref a), .unset]) (rest := []) w1340 at_119 rfl rfl rfl ?_
  refine ggetF (pc' := 124) w1340 at_121 (hw _ (List.mem_of_getElem? (i := 71) rfl)) F1347 rfl (fun T1352 w1353 => ?_)
  refine giconst (v := (1 : Int32)) (pc' := 125) w1353 at_124 rfl rfl ?_
  refine giload (pc' := 127) (Ls := #[.val (.long e0), .second, .val (.long e1), .second, .val (.int a0'), .val (.int a1'), .val (.int sel), .val (.int init), .val (.int lo), .val (.int (1 : Int32)), .val (.int s0), .val (.int s4), .val (.int s1), .val (.int s2), .val (.int s5), .val (.int s6), .val (.ref a), .unset]) (rest := [(.int (1 : Int32)), (.ref ap)]) w1353 at_125 rfl rfl ?_
  refine giconst (v := (1 : Int32)) (pc' := 128) w1353 at_127 rfl rfl ?_
  refine gisub (pc' := 129) w1353 at_128 rfl ?_
  refine giastore (pc' := 130) (x' := (init - (1 : Int32))) w1353 at_129 rfl V1343 (by decide) (1) rfl (by simp) G.2.2.1 rfl (fun T1354 h1355 w1356 W1357 V1358 => ?_)
  have E1360 := E1344.wr W1357
  have F1361 := F1345.other W1357 (Or.inl n2)
  have V1362 := V1346.other W1357 n5
  have F1363 := F1347.other W1357 (Or.inl n2)
  have F1364 := F1348.other W1357 (Or.inl n2)
  have V1365 := V1349.other W1357 (Ne.symm n8)
  have F1366 := F1350.other W1357 (Or.inl n2)
  have z1367 : n0 ≤ h1355.size := by rw [W1357.size]; exact z1351
  have V1359 : Arv Z h1355 ap kp .int (4 : Int32) [(.int init), (.int (init - (1 : Int32))), up2, up3] dp := V1358
  refine gaload (pc' := 132) (Ls := #[.val (.long e0), .second, .val (.long e1), .second, .val (.int a0'), .val (.int a1'), .val (.int sel), .val (.int init), .val (.int lo), .val (.int (1 : Int32)), .val (.int s0), .val (.int s4), .val (.int s1), .val (.int s2), .val (.int s5), .val (.int s6), .val (.ref a), .unset]) (rest := []) w1356 at_130 rfl rfl rfl ?_
  refine ggetF (pc' := 135) w1356 at_132 (hw _ (List.mem_of_getElem? (i := 71) rfl)) F1363 rfl (fun T1368 w1369 => ?_)
  refine giconst (v := (2 : Int32)) (pc' := 136) w1369 at_135 rfl rfl ?_
  refine giload (pc' := 138) (Ls := #[.val (.long e0), .second, .val (.long e1), .second, .val (.int a0'), .val (.int a1'), .val (.int sel), .val (.int init), .val (.int lo), .val (.int (1 : Int32)), .val (.int s0), .val (.int s4), .val (.int s1), .val (.int s2), .val (.int s5), .val (.int s6), .val (.ref a), .unset]) (rest := [(.int (2 : Int32)), (.ref ap)]) w1369 at_136 rfl rfl ?_
  refine giconst (v := (2 : Int32)) (pc' := 139) w1369 at_138 rfl rfl ?_
  refine gisub (pc' := 140) w1369 at_139 rfl ?_
  refine giastore (pc' := 141) (x' := (init - (2 : Int32))) w1369 at_140 rfl V1359 (by decide) (2) rfl (by simp) G.2.2.1 rfl (fun T1370 h1371 w1372 W1373 V1374 => ?_)
  have E1376 := E1360.wr W1373
  have F1377 := F1361.other W1373 (Or.inl n2)
  have V1378 := V1362.other W1373 n5
  have F1379 := F1363.other W1373 (Or.inl n2)
  have F1380 := F1364.other W1373 (Or.inl n2)
  have V1381 := V1365.other W1373 (Ne.symm n8)
  have F1382 := F1366.other W1373 (Or.inl n2)
  have z1383 : n0 ≤ h1371.size := by rw [W1373.size]; exact z1367
  have V1375 : Arv Z h1371 ap kp .int (4 : Int32) [(.int init), (.int (init - (1 : Int32))), (.int (init - (2 : Int32))), up3] dp := V1374
  refine gaload (pc' := 143) (Ls := #[.val (.long e0), .second, .val (.long e1), .second, .val (.int a0'), .val (.int a1'), .val (.int sel), .val (.int init), .val (.int lo), .val (.int (1 : Int32)), .val (.int s0), .val (.int s4), .val (.int s1), .val (.int s2), .val (.int s5), .val (.int s6), .val (.ref a), .unset]) (rest := []) w1372 at_141 rfl rfl rfl ?_
  refine ggetF (pc' := 146) w1372 at_143 (hw _ (List.mem_of_getElem? (i := 71) rfl)) F1379 rfl (fun T1384 w1385 => ?_)
  refine giconst (v := (3 : Int32)) (pc' := 147) w1385 at_146 rfl rfl ?_
  refine giload (pc' := 149) (Ls := #[.val (.long e0), .second, .val (.long e1), .second, .val (.int a0'), .val (.int a1'), .val (.int sel), .val (.int init), .val (.int lo), .val (.int (1 : Int32)), .val (.int s0), .val (.int s4), .val (.int s1), .val (.int s2), .val (.int s5), .val (.int s6), .val (.ref a), .unset]) (rest := [(.int (3 : Int32)), (.ref ap)]) w1385 at_147 rfl rfl ?_
  refine giconst (v := (3 : Int32)) (pc' := 150) w1385 at_149 rfl rfl ?_
  refine gisub (pc' := 151) w1385 at_150 rfl ?_
  refine giastore (pc' := 152) (x' := (init - (3 : Int32))) w1385 at_151 rfl V1375 (by decide) (3) rfl (by simp) G.2.2.1 rfl (fun T1386 h1387 w1388 W1389 V1390 => ?_)
  have E1392 := E1376.wr W1389
  have F1393 := F1377.other W1389 (Or.inl n2)
  have V1394 := V1378.other W1389 n5
  have F1395 := F1379.other W1389 (Or.inl n2)
  have F1396 := F1380.other W1389 (Or.inl n2)
  have V1397 := V1381.other W1389 (Ne.symm n8)
  have F1398 := F1382.other W1389 (Or.inl n2)
  have z1399 : n0 ≤ h1387.size := by rw [W1389.size]; exact z1383
  have V1391 : Arv Z h1387 ap kp .int (4 : Int32) [(.int init), (.int (init - (1 : Int32))), (.int (init - (2 : Int32))), (.int (init - (3 : Int32)))] dp := V1390
  refine gaload (pc' := 154) (Ls := #[.val (.long e0), .second, .val (.long e1), .second, .val (.int a0'), .val (.int a1'), .val (.int sel), .val (.int init), .val (.int lo), .val (.int (1 : Int32)), .val (.int s0), .val (.int s4), .val (.int s1), .val (.int s2), .val (.int s5), .val (.int s6), .val (.ref a), .unset]) (rest := []) w1388 at_152 rfl rfl rfl ?_
  refine ggetF (pc' := 157) w1388 at_154 (hw _ (List.mem_of_getElem? (i := 72) rfl)) F1396 rfl (fun T1400 w1401 => ?_)
  refine giconst (v := (0 : Int32)) (pc' := 158) w1401 at_157 rfl rfl ?_
  refine giload (pc' := 160) (Ls := #[.val (.long e0), .second, .val (.long e1), .second, .val (.int a0'), .val (.int a1'), .val (.int sel), .val (.int init), .val (.int lo), .val (.int (1 : Int32)), .val (.int s0), .val (.int s4), .val (.int s1), .val (.int s2), .val (.int s5), .val (.int s6), .val (.ref a), .unset]) (rest := [(.int (0 : Int32)), (.ref aa)]) w1401 at_158 rfl rfl ?_
  refine giconst (v := (-1 : Int32)) (pc' := 161) w1401 at_160 rfl rfl ?_
  refine gixor (pc' := 162) w1401 at_161 rfl ?_
  refine giastore (pc' := 163) (x' := (init ^^^ (-1 : Int32))) w1401 at_162 rfl V1397 (by decide) (0) rfl (by simp) G.2.2.2.1 rfl (fun T1402 h1403 w1404 W1405 V1406 => ?_)
  have E1408 := E1392.wr W1405
  have F1409 := F1393.other W1405 (Or.inl n3)
  have V1410 := V1394.other W1405 n6
  have F1411 := F1395.other W1405 (Or.inl n3)
  have V1412 := V1391.other W1405 n8
  have F1413 := F1396.other W1405 (Or.inl n3)
  have F1414 := F1398.other W1405 (Or.inl n3)
  have z1415 : n0 ≤ h1403.size := by rw [W1405.size]; exact z1399
  have V1407 : Arv Z h1403 aa kt .int (4 : Int32) [(.int (init ^^^ (-1 : Int32))), ut1, ut2, ut3] dt := V1406
  refine gaload (pc' := 165) (Ls := #[.val (.long e0), .second, .val (.long e1), .second, .val (.int a0'), .val (.int a1'), .val (.int sel), .val (.int init), .val (.int lo), .val (.int (1 : Int32)), .val (.int s0), .val (.int s4), .val (.int s1), .val (.int s2), .val (.int s5), .val (.int s6), .val (.ref a), .unset]) (rest := []) w1404 at_163 rfl rfl rfl ?_
  refine ggetF (pc' := 168) w1404 at_165 (hw _ (List.mem_of_getElem? (i := 72) rfl)) F1413 rfl (fun T1416 w1417 => ?_)
  refine giconst (v := (1 : Int32)) (pc' := 169) w1417 at_168 rfl rfl ?_
  refine giload (pc' := 171) (Ls := #[.val (.long e0), .second, .val (.long e1), .second, .val (.int a0'), .val (.int a1'), .val (.int sel), .val (.int init), .val (.int lo), .val (.int (1 : Int32)), .val (.int s0), .val (.int s4), .val (.int s1), .val (.int s2), .val (.int s5), .val (.int s6), .val (.ref a), .unset]) (rest := [(.int (1 : Int32)), (.ref aa)]) w1417 at_169 rfl rfl ?_
  refine giconst (v := (-1 : Int32)) (pc' := 172) w1417 at_171 rfl rfl ?_
  refine gixor (pc' := 173) w1417 at_172 rfl ?_
  refine giconst (v := (1 : Int32)) (pc' := 174) w1417 at_173 rfl rfl ?_
  refine gixor (pc' := 175) w1417 at_174 rfl ?_
  refine giastore (pc' := 176) (x' := ((init ^^^ (-1 : Int32)) ^^^ (1 : Int32))) w1417 at_175 rfl V1407 (by decide) (1) rfl (by simp) G.2.2.2.1 rfl (fun T1418 h1419 w1420 W1421 V1422 => ?_)
  have E1424 := E1408.wr W1421
  have F1425 := F1409.other W1421 (Or.inl n3)
  have V1426 := V1410.other W1421 n6
  have F1427 := F1411.other W1421 (Or.inl n3)
  have V1428 := V1412.other W1421 n8
  have F1429 := F1413.other W1421 (Or.inl n3)
  have F1430 := F1414.other W1421 (Or.inl n3)
  have z1431 : n0 ≤ h1419.size := by rw [W1421.size]; exact z1415
  have V1423 : Arv Z h1419 aa kt .int (4 : Int32) [(.int (init ^^^ (-1 : Int32))), (.int ((init ^^^ (-1 : Int32)) ^^^ (1 : Int32))), ut2, ut3] dt := V1422
  refine gaload (pc' := 178) (Ls := #[.val (.long e0), .second, .val (.long e1), .second, .val (.int a0'), .val (.int a1'), .val (.int sel), .val (.int init), .val (.int lo), .val (.int (1 : Int32)), .val (.int s0), .val (.int s4), .val (.int s1), .val (.int s2), .val (.int s5), .val (.int s6), .val (.ref a), .unset]) (rest := []) w1420 at_176 rfl rfl rfl ?_
  refine ggetF (pc' := 181) w1420 at_178 (hw _ (List.mem_of_getElem? (i := 72) rfl)) F1429 rfl (fun T1432 w1433 => ?_)
  refine giconst (v := (2 : Int32)) (pc' := 182) w1433 at_181 rfl rfl ?_
  refine giload (pc' := 184) (Ls := #[.val (.long e0), .second, .val (.long e1), .second, .val (.int a0'), .val (.int a1'), .val (.int sel), .val (.int init), .val (.int lo), .val (.int (1 : Int32)), .val (.int s0), .val (.int s4), .val (.int s1), .val (.int s2), .val (.int s5), .val (.int s6), .val (.ref a), .unset]) (rest := [(.int (2 : Int32)), (.ref aa)]) w1433 at_182 rfl rfl ?_
  refine giconst (v := (-1 : Int32)) (pc' := 185) w1433 at_184 rfl rfl ?_
  refine gixor (pc' := 186) w1433 at_185 rfl ?_
  refine giconst (v := (2 : Int32)) (pc' := 187) w1433 at_186 rfl rfl ?_
  refine gixor (pc' := 188) w1433 at_187 rfl ?_
  refine giastore (pc' := 189) (x' := ((init ^^^ (-1 : Int32)) ^^^ (2 : Int32))) w1433 at_188 rfl V1423 (by decide) (2) rfl (by simp) G.2.2.2.1 rfl (fun T1434 h1435 w1436 W1437 V1438 => ?_)
  have E1440 := E1424.wr W1437
  have F1441 := F1425.other W1437 (Or.inl n3)
  have V1442 := V1426.other W1437 n6
  have F1443 := F1427.other W1437 (Or.inl n3)
  have V1444 := V1428.other W1437 n8
  have F1445 := F1429.other W1437 (Or.inl n3)
  have F1446 := F1430.other W1437 (Or.inl n3)
  have z1447 : n0 ≤ h1435.size := by rw [W1437.size]; exact z1431
  have V1439 : Arv Z h1435 aa kt .int (4 : Int32) [(.int (init ^^^ (-1 : Int32))), (.int ((init ^^^ (-1 : Int32)) ^^^ (1 : Int32))), (.int ((init ^^^ (-1 : Int32)) ^^^ (2 : Int32))), ut3] dt := V1438
  refine gaload (pc' := 191) (Ls := #[.val (.long e0), .second, .val (.long e1), .second, .val (.int a0'), .val (.int a1'), .val (.int sel), .val (.int init), .val (.int lo), .val (.int (1 : Int32)), .val (.int s0), .val (.int s4), .val (.int s1), .val (.int s2), .val (.int s5), .val (.int s6), .val (.ref a), .unset]) (rest := []) w1436 at_189 rfl rfl rfl ?_
  refine ggetF (pc' := 194) w1436 at_191 (hw _ (List.mem_of_getElem? (i := 72) rfl)) F1445 rfl (fun T1448 w1449 => ?_)
  refine giconst (v := (3 : Int32)) (pc' := 195) w1449 at_194 rfl rfl ?_
  refine giload (pc' := 197) (Ls := #[.val (.long e0), .second, .val (.long e1), .second, .val (.int a0'), .val (.int a1'), .val (.int sel), .val (.int init), .val (.int lo), .val (.int (1 : Int32)), .val (.int s0), .val (.int s4), .val (.int s1), .val (.int s2), .val (.int s5), .val (.int s6), .val (.ref a), .unset]) (rest := [(.int (3 : Int32)), (.ref aa)]) w1449 at_195 rfl rfl ?_
  refine giconst (v := (-1 : Int32)) (pc' := 198) w1449 at_197 rfl rfl ?_
  refine gixor (pc' := 199) w1449 at_198 rfl ?_
  refine giconst (v := (3 : Int32)) (pc' := 200) w1449 at_199 rfl rfl ?_
  refine gixor (pc' := 201) w1449 at_200 rfl ?_
  refine giastore (pc' := 202) (x' := ((init ^^^ (-1 : Int32)) ^^^ (3 : Int32))) w1449 at_201 rfl V1439 (by decide) (3) rfl (by simp) G.2.2.2.1 rfl (fun T1450 h1451 w1452 W1453 V1454 => ?_)
  have E1456 := E1440.wr W1453
  have F1457 := F1441.other W1453 (Or.inl n3)
  have V1458 := V1442.other W1453 n6
  have F1459 := F1443.other W1453 (Or.inl n3)
  have V1460 := V1444.other W1453 n8
  have F1461 := F1445.other W1453 (Or.inl n3)
  have F1462 := F1446.other W1453 (Or.inl n3)
  have z1463 : n0 ≤ h1451.size := by rw [W1453.size]; exact z1447
  have V1455 : Arv Z h1451 aa kt .int (4 : Int32) [(.int (init ^^^ (-1 : Int32))), (.int ((init ^^^ (-1 : Int32)) ^^^ (1 : Int32))), (.int ((init ^^^ (-1 : Int32)) ^^^ (2 : Int32))), (.int ((init ^^^ (-1 : Int32)) ^^^ (3 : Int32)))] dt := V1454
  refine gbipush (v := (8 : Int32)) (pc' := 204) w1452 at_202 rfl rfl ?_
  refine gnewP (pc' := 206) (cap := 8) (ty := .int) w1452 at_204 rfl (hw _ (List.mem_of_getElem? (i := 23) rfl)) (by decide) (by decide) (by decide) (by decide) (by decide) rfl (fun T1464 h1465 as k_as s1466 w1467 E1468 V1469 => ?_)
  have g_as : n0 ≤ as := Nat.le_trans z1463 (Nat.le_of_eq s1466)
  have ne_a_as : a ≠ as := Nat.ne_of_lt (s1466 ▸ E1456.lt)
  have ne_ac_as : ac ≠ as := Nat.ne_of_lt (s1466 ▸ V1458.lt)
  have ne_ap_as : ap ≠ as := Nat.ne_of_lt (s1466 ▸ V1460.lt)
  have ne_aa_as : aa ≠ as := Nat.ne_of_lt (s1466 ▸ V1455.lt)
  have E1471 := E1456.ext E1468
  have F1472 := F1457.ext E1468
  have V1473 := V1458.ext E1468
  have F1474 := F1459.ext E1468
  have V1475 := V1460.ext E1468
  have F1476 := F1461.ext E1468
  have V1477 := V1455.ext E1468
  have F1478 := F1462.ext E1468
  have z1479 := Nat.le_trans z1463 E1468.1
  have V1470 : Arv Z h1465 as k_as .int (8 : Int32) [(.int (0 : Int32)), (.int (0 : Int32)), (.int (0 : Int32)), (.int (0 : Int32)), (.int (0 : Int32)), (.int (0 : Int32)), (.int (0 : Int32)), (.int (0 : Int32))] (.int (0 : Int32)) := V1469.pad (pad_rep [] _ 8)
  refine gastore (pc' := 208) (Ls := #[.val (.long e0), .second, .val (.long e1), .second, .val (.int a0'), .val (.int a1'), .val (.int sel), .val (.int init), .val (.int lo), .val (.int (1 : Int32)), .val (.int s0), .val (.int s4), .val (.int s1), .val (.int s2), .val (.int s5), .val (.int s6), .val (.ref a), .unset]) (Ls' := #[.val (.long e0), .second, .val (.long e1), .second, .val (.int a0'), .val (.int a1'), .val (.int sel), .val (.int init), .val (.int lo), .val (.int (1 : Int32)), .val (.int s0), .val (.int s4), .val (.int s1), .val (.int s2), .val (.int s5), .val (.int s6), .val (.ref a), .val (.ref as)]) (rest := []) w1467 at_206 rfl rfl rfl ?_
  refine gaload (pc' := 210) (Ls := #[.val (.long e0), .second, .val (.long e1), .second, .val (.int a0'), .val (.int a1'), .val (.int sel), .val (.int init), .val (.int lo), .val (.int (1 : Int32)), .val (.int s0), .val (.int s4), .val (.int s1), .val (.int s2), .val (.int s5), .val (.int s6), .val (.ref a), .val (.ref as)]) (rest := []) w1467 at_208 rfl rfl rfl ?_
  refine giconst (v := (0 : Int32)) (pc' := 211) w1467 at_210 rfl rfl ?_
  refine giload (pc' := 213) (Ls := #[.val (.long e0), .second, .val (.long e1), .second, .val (.int a0'), .val (.int a1'), .val (.int sel), .val (.int init), .val (.int lo), .val (.int (1 : Int32)), .val (.int s0), .val (.int s4), .val (.int s1), .val (.int s2), .val (.int s5), .val (.int s6), .val (.ref a), .val (.ref as)]) (rest := [(.int (0 : Int32)), (.ref as)]) w1467 at_211 rfl rfl ?_
  refine giastore (pc' := 214) (x' := s0) w1467 at_213 rfl V1470 (by decide) (0) rfl (by simp) g_as rfl (fun T1480 h1481 w1482 W1483 V1484 => ?_)
  have E1486 := E1471.wr W1483
  have F1487 := F1472.other W1483 (Or.inl ne_a_as)
  have V1488 := V1473.other W1483 ne_ac_as
  have F1489 := F1474.other W1483 (Or.inl ne_a_as)
  have V1490 := V1475.other W1483 ne_ap_as
  have F1491 := F1476.other W1483 (Or.inl ne_a_as)
  have V1492 := V1477.other W1483 ne_aa_as
  have F1493 := F1478.other W1483 (Or.inl ne_a_as)
  have z1494 : n0 ≤ h1481.size := by rw [W1483.size]; exact z1479
  have V1485 : Arv Z h1481 as k_as .int (8 : Int32) [(.int s0), (.int (0 : Int32)), (.int (0 : Int32)), (.int (0 : Int32)), (.int (0 : Int32)), (.int (0 : Int32)), (.int (0 : Int32)), (.int (0 : Int32))] (.int (0 : Int32)) := V1484
  refine gaload (pc' := 216) (Ls := #[.val (.long e0), .second, .val (.long e1), .second, .val (.int a0'), .val (.int a1'), .val (.int sel), .val (.int init), .val (.int lo), .val (.int (1 : Int32)), .val (.int s0), .val (.int s4), .val (.int s1), .val (.int s2), .val (.int s5), .val (.int s6), .val (.ref a), .val (.ref as)]) (rest := []) w1482 at_214 rfl rfl rfl ?_
  refine giconst (v := (1 : Int32)) (pc' := 217) w1482 at_216 rfl rfl ?_
  refine giload (pc' := 219) (Ls := #[.val (.long e0), .second, .val (.long e1), .second, .val (.int a0'), .val (.int a1'), .val (.int sel), .val (.int init), .val (.int lo), .val (.int (1 : Int32)), .val (.int s0), .val (.int s4), .val (.int s1), .val (.int s2), .val (.int s5), .val (.int s6), .val (.ref a), .val (.ref as)]) (rest := [(.int (1 : Int32)), (.ref as)]) w1482 at_217 rfl rfl ?_
  refine giastore (pc' := 220) (x' := s1) w1482 at_219 rfl V1485 (by decide) (1) rfl (by simp) g_as rfl (fun T1495 h1496 w1497 W1498 V1499 => ?_)
  have E1501 := E1486.wr W1498
  have F1502 := F1487.other W1498 (Or.inl ne_a_as)
  have V1503 := V1488.other W1498 ne_ac_as
  have F1504 := F1489.other W1498 (Or.inl ne_a_as)
  have V1505 := V1490.other W1498 ne_ap_as
  have F1506 := F1491.other W1498 (Or.inl ne_a_as)
  have V1507 := V1492.other W1498 ne_aa_as
  have F1508 := F1493.other W1498 (Or.inl ne_a_as)
  have z1509 : n0 ≤ h1496.size := by rw [W1498.size]; exact z1494
  have V1500 : Arv Z h1496 as k_as .int (8 : Int32) [(.int s0), (.int s1), (.int (0 : Int32)), (.int (0 : Int32)), (.int (0 : Int32)), (.int (0 : Int32)), (.int (0 : Int32)), (.int (0 : Int32))] (.int (0 : Int32)) := V1499
  refine gaload (pc' := 222) (Ls := #[.val (.long e0), .second, .val (.long e1), .second, .val (.int a0'), .val (.int a1'), .val (.int sel), .val (.int init), .val (.int lo), .val (.int (1 : Int32)), .val (.int s0), .val (.int s4), .val (.int s1), .val (.int s2), .val (.int s5), .val (.int s6), .val (.ref a), .val (.ref as)]) (rest := []) w1497 at_220 rfl rfl rfl ?_
  refine giconst (v := (2 : Int32)) (pc' := 223) w1497 at_222 rfl rfl ?_
  refine giload (pc' := 225) (Ls := #[.val (.long e0), .second, .val (.long e1), .second, .val (.int a0'), .val (.int a1'), .val (.int sel), .val (.int init), .val (.int lo), .val (.int (1 : Int32)), .val (.int s0), .val (.int s4), .val (.int s1), .val (.int s2), .val (.int s5), .val (.int s6), .val (.ref a), .val (.ref as)]) (rest := [(.int (2 : Int32)), (.ref as)]) w1497 at_223 rfl rfl ?_
  refine giastore (pc' := 226) (x' := s2) w1497 at_225 rfl V1500 (by decide) (2) rfl (by simp) g_as rfl (fun T1510 h1511 w1512 W1513 V1514 => ?_)
  have E1516 := E1501.wr W1513
  have F1517 := F1502.other W1513 (Or.inl ne_a_as)
  have V1518 := V1503.other W1513 ne_ac_as
  have F1519 := F1504.other W1513 (Or.inl ne_a_as)
  have V1520 := V1505.other W1513 ne_ap_as
  have F1521 := F1506.other W1513 (Or.inl ne_a_as)
  have V1522 := V1507.other W1513 ne_aa_as
  have F1523 := F1508.other W1513 (Or.inl ne_a_as)
  have z1524 : n0 ≤ h1511.size := by rw [W1513.size]; exact z1509
  have V1515 : Arv Z h1511 as k_as .int (8 : Int32) [(.int s0), (.int s1), (.int s2), (.int (0 : Int32)), (.int (0 : Int32)), (.int (0 : Int32)), (.int (0 : Int32)), (.int (0 : Int32))] (.int (0 : Int32)) := V1514
  refine gaload (pc' := 228) (Ls := #[.val (.long e0), .second, .val (.long e1), .second, .val (.int a0'), .val (.int a1'), .val (.int sel), .val (.int init), .val (.int lo), .val (.int (1 : Int32)), .val (.int s0), .val (.int s4), .val (.int s1), .val (.int s2), .val (.int s5), .val (.int s6), .val (.ref a), .val (.ref as)]) (rest := []) w1512 at_226 rfl rfl rfl ?_
  refine giconst (v := (3 : Int32)) (pc' := 229) w1512 at_228 rfl rfl ?_
  refine giload (pc' := 231) (Ls := #[.val (.long e0), .second, .val (.long e1), .second, .val (.int a0'), .val (.int a1'), .val (.int sel), .val (.int init), .val (.int lo), .val (.int (1 : Int32)), .val (.int s0), .val (.int s4), .val (.int s1), .val (.int s2), .val (.int s5), .val (.int s6), .val (.ref a), .val (.ref as)]) (rest := [(.int (3 : Int32)), (.ref as)]) w1512 at_229 rfl rfl ?_
  refine giastore (pc' := 232) (x' := a0') w1512 at_231 rfl V1515 (by decide) (3) rfl (by simp) g_as rfl (fun T1525 h1526 w1527 W1528 V1529 => ?_)
  have E1531 := E1516.wr W1528
  have F1532 := F1517.other W1528 (Or.inl ne_a_as)
  have V1533 := V1518.other W1528 ne_ac_as
  have F1534 := F1519.other W1528 (Or.inl ne_a_as)
  have V1535 := V1520.other W1528 ne_ap_as
  have F1536 := F1521.other W1528 (Or.inl ne_a_as)
  have V1537 := V1522.other W1528 ne_aa_as
  have F1538 := F1523.other W1528 (Or.inl ne_a_as)
  have z1539 : n0 ≤ h1526.size := by rw [W1528.size]; exact z1524
  have V1530 : Arv Z h1526 as k_as .int (8 : Int32) [(.int s0), (.int s1), (.int s2), (.int a0'), (.int (0 : Int32)), (.int (0 : Int32)), (.int (0 : Int32)), (.int (0 : Int32))] (.int (0 : Int32)) := V1529
  refine gaload (pc' := 234) (Ls := #[.val (.long e0), .second, .val (.long e1), .second, .val (.int a0'), .val (.int a1'), .val (.int sel), .val (.int init), .val (.int lo), .val (.int (1 : Int32)), .val (.int s0), .val (.int s4), .val (.int s1), .val (.int s2), .val (.int s5), .val (.int s6), .val (.ref a), .val (.ref as)]) (rest := []) w1527 at_232 rfl rfl rfl ?_
  refine giconst (v := (4 : Int32)) (pc' := 235) w1527 at_234 rfl rfl ?_
  refine giload (pc' := 237) (Ls := #[.val (.long e0), .second, .val (.long e1), .second, .val (.int a0'), .val (.int a1'), .val (.int sel), .val (.int init), .val (.int lo), .val (.int (1 : Int32)), .val (.int s0), .val (.int s4), .val (.int s1), .val (.int s2), .val (.int s5), .val (.int s6), .val (.ref a), .val (.ref as)]) (rest := [(.int (4 : Int32)), (.ref as)]) w1527 at_235 rfl rfl ?_
  refine giastore (pc' := 238) (x' := s4) w1527 at_237 rfl V1530 (by decide) (4) rfl (by simp) g_as rfl (fun T1540 h1541 w1542 W1543 V1544 => ?_)
  have E1546 := E1531.wr W1543
  have F1547 := F1532.other W1543 (Or.inl ne_a_as)
  have V1548 := V1533.other W1543 ne_ac_as
  have F1549 := F1534.other W1543 (Or.inl ne_a_as)
  have V1550 := V1535.other W1543 ne_ap_as
  have F1551 := F1536.other W1543 (Or.inl ne_a_as)
  have V1552 := V1537.other W1543 ne_aa_as
  have F1553 := F1538.other W1543 (Or.inl ne_a_as)
  have z1554 : n0 ≤ h1541.size := by rw [W1543.size]; exact z1539
  have V1545 : Arv Z h1541 as k_as .int (8 : Int32) [(.int s0), (.int s1), (.int s2), (.int a0'), (.int s4), (.int (0 : Int32)), (.int (0 : Int32)), (.int (0 : Int32))] (.int (0 : Int32)) := V1544
  refine gaload (pc' := 240) (Ls := #[.val (.long e0), .second, .val (.long e1), .second, .val (.int a0'), .val (.int a1'), .val (.int sel), .val (.int init), .val (.int lo), .val (.int (1 : Int32)), .val (.int s0), .val (.int s4), .val (.int s1), .val (.int s2), .val (.int s5), .val (.int s6), .val (.ref a), .val (.ref as)]) (rest := []) w1542 at_238 rfl rfl rfl ?_
  refine giconst (v := (5 : Int32)) (pc' := 241) w1542 at_240 rfl rfl ?_
  refine giload (pc' := 243) (Ls := #[.val (.long e0), .second, .val (.long e1), .second, .val (.int a0'), .val (.int a1'), .val (.int sel), .val (.int init), .val (.int lo), .val (.int (1 : Int32)), .val (.int s0), .val (.int s4), .val (.int s1), .val (.int s2), .val (.int s5), .val (.int s6), .val (.ref a), .val (.ref as)]) (rest := [(.int (5 : Int32)), (.ref as)]) w1542 at_241 rfl rfl ?_
  refine giastore (pc' := 244) (x' := s5) w1542 at_243 rfl V1545 (by decide) (5) rfl (by simp) g_as rfl (fun T1555 h1556 w1557 W1558 V1559 => ?_)
  have E1561 := E1546.wr W1558
  have F1562 := F1547.other W1558 (Or.inl ne_a_as)
  have V1563 := V1548.other W1558 ne_ac_as
  have F1564 := F1549.other W1558 (Or.inl ne_a_as)
  have V1565 := V1550.other W1558 ne_ap_as
  have F1566 := F1551.other W1558 (Or.inl ne_a_as)
  have V1567 := V1552.other W1558 ne_aa_as
  have F1568 := F1553.other W1558 (Or.inl ne_a_as)
  have z1569 : n0 ≤ h1556.size := by rw [W1558.size]; exact z1554
  have V1560 : Arv Z h1556 as k_as .int (8 : Int32) [(.int s0), (.int s1), (.int s2), (.int a0'), (.int s4), (.int s5), (.int (0 : Int32)), (.int (0 : Int32))] (.int (0 : Int32)) := V1559
  refine gaload (pc' := 246) (Ls := #[.val (.long e0), .second, .val (.long e1), .second, .val (.int a0'), .val (.int a1'), .val (.int sel), .val (.int init), .val (.int lo), .val (.int (1 : Int32)), .val (.int s0), .val (.int s4), .val (.int s1), .val (.int s2), .val (.int s5), .val (.int s6), .val (.ref a), .val (.ref as)]) (rest := []) w1557 at_244 rfl rfl rfl ?_
  refine gbipush (v := (6 : Int32)) (pc' := 248) w1557 at_246 rfl rfl ?_
  refine giload (pc' := 250) (Ls := #[.val (.long e0), .second, .val (.long e1), .second, .val (.int a0'), .val (.int a1'), .val (.int sel), .val (.int init), .val (.int lo), .val (.int (1 : Int32)), .val (.int s0), .val (.int s4), .val (.int s1), .val (.int s2), .val (.int s5), .val (.int s6), .val (.ref a), .val (.ref as)]) (rest := [(.int (6 : Int32)), (.ref as)]) w1557 at_248 rfl rfl ?_
  refine giastore (pc' := 251) (x' := s6) w1557 at_250 rfl V1560 (by decide) (6) rfl (by simp) g_as rfl (fun T1570 h1571 w1572 W1573 V1574 => ?_)
  have E1576 := E1561.wr W1573
  have F1577 := F1562.other W1573 (Or.inl ne_a_as)
  have V1578 := V1563.other W1573 ne_ac_as
  have F1579 := F1564.other W1573 (Or.inl ne_a_as)
  have V1580 := V1565.other W1573 ne_ap_as
  have F1581 := F1566.other W1573 (Or.inl ne_a_as)
  have V1582 := V1567.other W1573 ne_aa_as
  have F1583 := F1568.other W1573 (Or.inl ne_a_as)
  have z1584 : n0 ≤ h1571.size := by rw [W1573.size]; exact z1569
  have V1575 : Arv Z h1571 as k_as .int (8 : Int32) [(.int s0), (.int s1), (.int s2), (.int a0'), (.int s4), (.int s5), (.int s6), (.int (0 : Int32))] (.int (0 : Int32)) := V1574
  refine gaload (pc' := 253) (Ls := #[.val (.long e0), .second, .val (.long e1), .second, .val (.int a0'), .val (.int a1'), .val (.int sel), .val (.int init), .val (.int lo), .val (.int (1 : Int32)), .val (.int s0), .val (.int s4), .val (.int s1), .val (.int s2), .val (.int s5), .val (.int s6), .val (.ref a), .val (.ref as)]) (rest := []) w1572 at_251 rfl rfl rfl ?_
  refine gbipush (v := (7 : Int32)) (pc' := 255) w1572 at_253 rfl rfl ?_
  refine giload (pc' := 257) (Ls := #[.val (.long e0), .second, .val (.long e1), .second, .val (.int a0'), .val (.int a1'), .val (.int sel), .val (.int init), .val (.int lo), .val (.int (1 : Int32)), .val (.int s0), .val (.int s4), .val (.int s1), .val (.int s2), .val (.int s5), .val (.int s6), .val (.ref a), .val (.ref as)]) (rest := [(.int (7 : Int32)), (.ref as)]) w1572 at_255 rfl rfl ?_
  refine giastore (pc' := 258) (x' := a1') w1572 at_257 rfl V1575 (by decide) (7) rfl (by simp) g_as rfl (fun T1585 h1586 w1587 W1588 V1589 => ?_)
  have E1591 := E1576.wr W1588
  have F1592 := F1577.other W1588 (Or.inl ne_a_as)
  have V1593 := V1578.other W1588 ne_ac_as
  have F1594 := F1579.other W1588 (Or.inl ne_a_as)
  have V1595 := V1580.other W1588 ne_ap_as
  have F1596 := F1581.other W1588 (Or.inl ne_a_as)
  have V1597 := V1582.other W1588 ne_aa_as
  have F1598 := F1583.other W1588 (Or.inl ne_a_as)
  have z1599 : n0 ≤ h1586.size := by rw [W1588.size]; exact z1584
  have V1590 : Arv Z h1586 as k_as .int (8 : Int32) [(.int s0), (.int s1), (.int s2), (.int a0'), (.int s4), (.int s5), (.int s6), (.int a1')] (.int (0 : Int32)) := V1589
  refine gaload (pc' := 260) (Ls := #[.val (.long e0), .second, .val (.long e1), .second, .val (.int a0'), .val (.int a1'), .val (.int sel), .val (.int init), .val (.int lo), .val (.int (1 : Int32)), .val (.int s0), .val (.int s4), .val (.int s1), .val (.int s2), .val (.int s5), .val (.int s6), .val (.ref a), .val (.ref as)]) (rest := []) w1587 at_258 rfl rfl rfl ?_
  refine gaload (pc' := 262) (Ls := #[.val (.long e0), .second, .val (.long e1), .second, .val (.int a0'), .val (.int a1'), .val (.int sel), .val (.int init), .val (.int lo), .val (.int (1 : Int32)), .val (.int s0), .val (.int s4), .val (.int s1), .val (.int s2), .val (.int s5), .val (.int s6), .val (.ref a), .val (.ref as)]) (rest := [(.ref a)]) w1587 at_260 rfl rfl rfl ?_
  refine giload (pc' := 264) (Ls := #[.val (.long e0), .second, .val (.long e1), .second, .val (.int a0'), .val (.int a1'), .val (.int sel), .val (.int init), .val (.int lo), .val (.int (1 : Int32)), .val (.int s0), .val (.int s4), .val (.int s1), .val (.int s2), .val (.int s5), .val (.int s6), .val (.ref a), .val (.ref as)]) (rest := [(.ref as), (.ref a)]) w1587 at_262 rfl rfl ?_
  refine gcallV (pc' := 267) (argsL := [(.ref as), (.int (1 : Int32))]) (rest := []) (Wt := 0) w1587 at_264 (hw _ (List.mem_of_getElem? (i := 73) rfl)) (hw _ (List.mem_of_getElem? (i := 74) rfl)) (hw _ (List.mem_of_getElem? (i := 76) rfl)) (hw _ (List.mem_of_getElem? (i := 75) rfl)) (hw _ (List.mem_of_getElem? (i := 2) rfl)) (hw _ (List.mem_of_getElem? (i := 77) rfl)) E1591 rfl (by decide) pd_d10 (own_unv1 hw a ac ap aa as _ _ _ _ _ _ _ _ _ _ _ s0 s1 s2 a0' s4 s5 s6 a1' G.2.1 G.2.2.1 G.2.2.2.1 rfl rfl rfl hs0 hs4 n1 n2 n3 n5 n6 n8 ne_ac_as ne_ap_as ne_aa_as ne_a_as ⟨F1592, F1594, F1596, F1598, V1593, V1595, V1597, V1590⟩) rfl rfl rfl rfl (Nat.le_of_eq rfl) (by decide) (by decide) (by decide) (by decide) rfl (fun v1600 T1601 h1602 w1603 q1604 => ?_)
  obtain ⟨rfl, UU⟩ := q1604
  show Go _ _ _ _ _ _ _ _ _ (mkF m 267 #[.val (.long e0), .second, .val (.long e1), .second, .val (.int a0'), .val (.int a1'), .val (.int sel), .val (.int init), .val (.int lo), .val (.int (1 : Int32)), .val (.int s0), .val (.int s4), .val (.int s1), .val (.int s2), .val (.int s5), .val (.int s6), .val (.ref a), .val (.ref as)] [])
  exact own_fin1 hw w1603 lo e0 e1 a0' a1' sel init a ac ap aa as _ _ _ _ _ _ _ _ s0 s1 s2 a0' s4 s5 s6 a1' hs0 hs4 UU
set_option maxRecDepth 65536 in
set_option maxHeartbeats 4000000 in
theorem own_fin2 (hw : ∀ d ∈ tables_1, d.before a0 Z = true) (w : W Z "com/example/antecedent/antecedent/clock/TreeUnviewPinLaw" "law" code maxLocals ret n0 p l e room_1 s m args below meth c 6 56 T h) (lo : Int32) (e0 e1 : Int64) (a0' a1' sel init : Int32) (a ac ap aa as : Addr) (kc kp kt ks : ClassId) (dc dp dt ds : Value) (s0 s1 s2 s3 s4 s5 s6 s7 : Int32) (hs0 : ¬ s0 < 0 ∧ s0 < 4) (hs4 : ¬ s4 < 0 ∧ s4 < 4) (UU : own_U Z h a ac ap aa as kc kp kt ks (([(.int init), (.int (init + (1 : Int32))), (.int (init + (2 : Int32))), (.int (init + (3 : Int32)))].set (s4.toNatClampNeg) (.int s5)).set (s0.toNatClampNeg) (.int s1)) (([(.int init), (.int (init - (1 : Int32))), (.int (init - (2 : Int32))), (.int (init - (3 : Int32)))].set (s4.toNatClampNeg) (.int s6)).set (s0.toNatClampNeg) (.int s2)) (([(.int (init ^^^ (-1 : Int32))), (.int ((init ^^^ (-1 : Int32)) ^^^ (1 : Int32))), (.int ((init ^^^ (-1 : Int32)) ^^^ (2 : Int32))), (.int ((init ^^^ (-1 : Int32)) ^^^ (3 : Int32)))].set (s4.toNatClampNeg) (.int s7)).set (s0.toNatClampNeg) (.int s3)) dc dp dt ds s0 s1 s2 s3 s4 s5 s6 s7) :
    Go n0 p e below s (fun v _ => v = some (.int 1)) room_1.cells room_1.slots T (mkF m 267 #[.val (.long e0), .second, .val (.long e1), .second, .val (.int a0'), .val (.int a1'), .val (.int sel), .val (.int init), .val (.int lo), .val (.int (2 : Int32)), .val (.int s0), .val (.int s4), .val (.int s1), .val (.int s2), .val (.int s5), .val (.int s6), .val (.ref a), .val (.ref as)] []) := by
  refine gaload (pc' := 269) (Ls := #[.val (.long e0), .second, .val (.long e1), .second, .val (.int a0'), .val (.int a1'), .val (.int sel), .val (.int init), .val (.int lo), .val (.int (2 : Int32)), .val (.int s0), .val (.int s4), .val (.int s1), .val (.int s2), .val (.int s5), .val (.int s6), .val (.ref a), .val (.ref as)]) (rest := []) w at_267 rfl rfl rfl ?_
  refine giconst (v := (0 : Int32)) (pc' := 270) w at_269 rfl rfl ?_
  refine giload (pc' := 272) (Ls := #[.val (.long e0), .second, .val (.long e1), .second, .val (.int a0'), .val (.int a1'), .val (.int sel), .val (.int init), .val (.int lo), .val (.int (2 : Int32)), .val (.int s0), .val (.int s4), .val (.int s1), .val (.int s2), .val (.int s5), .val (.int s6), .val (.ref a), .val (.ref as)]) (rest := [(.int (0 : Int32)), (.ref a)]) w at_270 rfl rfl ?_
  refine gaload (pc' := 274) (Ls := #[.val (.long e0), .second, .val (.long e1), .second, .val (.int a0'), .val (.int a1'), .val (.int sel), .val (.int init), .val (.int lo), .val (.int (2 : Int32)), .val (.int s0), .val (.int s4), .val (.int s1), .val (.int s2), .val (.int s5), .val (.int s6), .val (.ref a), .val (.ref as)]) (rest := [(.int (2 : Int32)), (.int (0 : Int32)), (.ref a)]) w at_272 rfl rfl rfl ?_
  refine giload (pc' := 276) (Ls := #[.val (.long e0), .second, .val (.long e1), .second, .val (.int a0'), .val (.int a1'), .val (.int sel), .val (.int init), .val (.int lo), .val (.int (2 : Int32)), .val (.int s0), .val (.int s4), .val (.int s1), .val (.int s2), .val (.int s5), .val (.int s6), .val (.ref a), .val (.ref as)]) (rest := [(.ref as), (.int (2 : Int32)), (.int (0 : Int32)), (.ref a)]) w at_274 rfl rfl ?_
  refine gcallS (pc' := 279) (argsL := [(.ref a), (.int (0 : Int32)), (.int (2 : Int32)), (.ref as), (.int init)]) (rest := []) (Wt := 0) w at_276 (hw _ (List.mem_of_getElem? (i := 78) rfl)) (hw _ (List.mem_of_getElem? (i := 79) rfl)) (hw _ (List.mem_of_getElem? (i := 80) rfl)) (hw _ (List.mem_of_getElem? (i := 81) rfl)) (by decide) pd_d11 (own_chk hw (0 : Int32) (2 : Int32) init _ _ _ a ac ap aa as kc kp kt ks _ _ _ dc dp dt ds s0 s1 s2 s3 s4 s5 s6 s7 (by decide) (own_g2 rfl hs0 hs4 (by decide) (by show (Value.int _) = Value.int _; rw [Int32.add_zero])) (own_g2 rfl hs0 hs4 (by decide) (by show (Value.int _) = Value.int _; rw [Int32.sub_zero])) (own_g2 rfl hs0 hs4 (by decide) (by show (Value.int _) = Value.int _; rw [Int32.xor_zero])) rfl rfl rfl UU) rfl rfl rfl rfl (Nat.le_of_eq rfl) (by decide) (by decide) (by decide) (by decide) rfl (fun v1605 T1606 h1607 w1608 q1609 => ?_)
  obtain ⟨rfl, eh⟩ := q1609
  show Go _ _ _ _ _ _ _ _ _ (mkF m 279 #[.val (.long e0), .second, .val (.long e1), .second, .val (.int a0'), .val (.int a1'), .val (.int sel), .val (.int init), .val (.int lo), .val (.int (2 : Int32)), .val (.int s0), .val (.int s4), .val (.int s1), .val (.int s2), .val (.int s5), .val (.int s6), .val (.ref a), .val (.ref as)] [(.int (1 : Int32))])
  rw [eh] at w1608
  refine gif (pt := 340) (pf := 282) w1608 at_279  (by decide) rfl rfl (fun (c279 : (1 : Int32) = (0 : Int32)) => ?_) (fun (c279 : ¬ (1 : Int32) = (0 : Int32)) => ?_)
  · exact absurd c279 (by decide)
  · refine gaload (pc' := 284) (Ls := #[.val (.long e0), .second, .val (.long e1), .second, .val (.int a0'), .val (.int a1'), .val (.int sel), .val (.int init), .val (.int lo), .val (.int (2 : Int32)), .val (.int s0), .val (.int s4), .val (.int s1), .val (.int s2), .val (.int s5), .val (.int s6), .val (.ref a), .val (.ref as)]) (rest := []) w1608 at_282 rfl rfl rfl ?_
    refine giconst (v := (1 : Int32)) (pc' := 285) w1608 at_284 rfl rfl ?_
    refine giload (pc' := 287) (Ls := #[.val (.long e0), .second, .val (.long e1), .second, .val (.int a0'), .val (.int a1'), .val (.int sel), .val (.int init), .val (.int lo), .val (.int (2 : Int32)), .val (.int s0), .val (.int s4), .val (.int s1), .val (.int s2), .val (.int s5), .val (.int s6), .val (.ref a), .val (.ref as)]) (rest := [(.int (1 : Int32)), (.ref a)]) w1608 at_285 rfl rfl ?_
    refine gaload (pc' := 289) (Ls := #[.val (.long e0), .second, .val (.long e1), .second, .val (.int a0'), .val (.int a1'), .val (.int sel), .val (.int init), .val (.int lo), .val (.int (2 : Int32)), .val (.int s0), .val (.int s4), .val (.int s1), .val (.int s2), .val (.int s5), .val (.int s6), .val (.ref a), .val (.ref as)]) (rest := [(.int (2 : Int32)), (.int (1 : Int32)), (.ref a)]) w1608 at_287 rfl rfl rfl ?_
    refine giload (pc' := 291) (Ls := #[.val (.long e0), .second, .val (.long e1), .second, .val (.int a0'), .val (.int a1'), .val (.int sel), .val (.int init), .val (.int lo), .val (.int (2 : Int32)), .val (.int s0), .val (.int s4), .val (.int s1), .val (.int s2), .val (.int s5), .val (.int s6), .val (.ref a), .val (.ref as)]) (rest := [(.ref as), (.int (2 : Int32)), (.int (1 : Int32)), (.ref a)]) w1608 at_289 rfl rfl ?_
    refine gcallS (pc' := 294) (argsL := [(.ref a), (.int (1 : Int32)), (.int (2 : Int32)), (.ref as), (.int init)]) (rest := []) (Wt := 0) w1608 at_291 (hw _ (List.mem_of_getElem? (i := 78) rfl)) (hw _ (List.mem_of_getElem? (i := 79) rfl)) (hw _ (List.mem_of_getElem? (i := 80) rfl)) (hw _ (List.mem_of_getElem? (i := 81) rfl)) (by decide) pd_d11 (own_chk hw (1 : Int32) (2 : Int32) init _ _ _ a ac ap aa as kc kp kt ks _ _ _ dc dp dt ds s0 s1 s2 s3 s4 s5 s6 s7 (by decide) (own_g2 rfl hs0 hs4 (by decide) (by rfl)) (own_g2 rfl hs0 hs4 (by decide) (by rfl)) (own_g2 rfl hs0 hs4 (by decide) (by rfl)) rfl rfl rfl UU) rfl rfl rfl rfl (Nat.le_of_eq rfl) (by decide) (by decide) (by decide) (by decide) rfl (fun v1610 T1611 h1612 w1613 q1614 => ?_)
    obtain ⟨rfl, eh⟩ := q1614
    show Go _ _ _ _ _ _ _ _ _ (mkF m 294 #[.val (.long e0), .second, .val (.long e1), .second, .val (.int a0'), .val (.int a1'), .val (.int sel), .val (.int init), .val (.int lo), .val (.int (2 : Int32)), .val (.int s0), .val (.int s4), .val (.int s1), .val (.int s2), .val (.int s5), .val (.int s6), .val (.ref a), .val (.ref as)] [(.int (1 : Int32))])
    rw [eh] at w1613
    refine gif (pt := 340) (pf := 297) w1613 at_294  (by decide) rfl rfl (fun (c294 : (1 : Int32) = (0 : Int32)) => ?_) (fun (c294 : ¬ (1 : Int32) = (0 : Int32)) => ?_)
    · exact absurd c294 (by decide)
    · refine gaload (pc' := 299) (Ls := #[.val (.long e0), .second, .val (.long e1), .second, .val (.int a0'), .val (.int a1'), .val (.int sel), .val (.int init), .val (.int lo), .val (.int (2 : Int32)), .val (.int s0), .val (.int s4), .val (.int s1), .val (.int s2), .val (.int s5), .val (.int s6), .val (.ref a), .val (.ref as)]) (rest := []) w1613 at_297 rfl rfl rfl ?_
      refine giconst (v := (2 : Int32)) (pc' := 300) w1613 at_299 rfl rfl ?_
      refine giload (pc' := 302) (Ls := #[.val (.long e0), .second, .val (.long e1), .second, .val (.int a0'), .val (.int a1'), .val (.int sel), .val (.int init), .val (.int lo), .val (.int (2 : Int32)), .val (.int s0), .val (.int s4), .val (.int s1), .val (.int s2), .val (.int s5), .val (.int s6), .val (.ref a), .val (.ref as)]) (rest := [(.int (2 : Int32)), (.ref a)]) w1613 at_300 rfl rfl ?_
      refine gaload (pc' := 304) (Ls := #[.val (.long e0), .second, .val (.long e1), .second, .val (.int a0'), .val (.int a1'), .val (.int sel), .val (.int init), .val (.int lo), .val (.int (2 : Int32)), .val (.int s0), .val (.int s4), .val (.int s1), .val (.int s2), .val (.int s5), .val (.int s6), .val (.ref a), .val (.ref as)]) (rest := [(.int (2 : Int32)), (.int (2 : Int32)), (.ref a)]) w1613 at_302 rfl rfl rfl ?_
      refine giload (pc' := 306) (Ls := #[.val (.long e0), .second, .val (.long e1), .second, .val (.int a0'), .val (.int a1'), .val (.int sel), .val (.int init), .val (.int lo), .val (.int (2 : Int32)), .val (.int s0), .val (.int s4), .val (.int s1), .val (.int s2), .val (.int s5), .val (.int s6), .val (.ref a), .val (.ref as)]) (rest := [(.ref as), (.int (2 : Int32)), (.int (2 : Int32)), (.ref a)]) w1613 at_304 rfl rfl ?_
      refine gcallS (pc' := 309) (argsL := [(.ref a), (.int (2 : Int32)), (.int (2 : Int32)), (.ref as), (.int init)]) (rest := []) (Wt := 0) w1613 at_306 (hw _ (List.mem_of_getElem? (i := 78) rfl)) (hw _ (List.mem_of_getElem? (i := 79) rfl)) (hw _ (List.mem_of_getElem? (i := 80) rfl)) (hw _ (List.mem_of_getElem? (i := 81) rfl)) (by decide) pd_d11 (own_chk hw (2 : Int32) (2 : Int32) init _ _ _ a ac ap aa as kc kp kt ks _ _ _ dc dp dt ds s0 s1 s2 s3 s4 s5 s6 s7 (by decide) (own_g2 rfl hs0 hs4 (by decide) (by rfl)) (own_g2 rfl hs0 hs4 (by decide) (by rfl)) (own_g2 rfl hs0 hs4 (by decide) (by rfl)) rfl rfl rfl UU) rfl rfl rfl rfl (Nat.le_of_eq rfl) (by decide) (by decide) (by decide) (by decide) rfl (fun v1615 T1616 h1617 w1618 q1619 => ?_)
      obtain ⟨rfl, eh⟩ := q1619
      show Go _ _ _ _ _ _ _ _ _ (mkF m 309 #[.val (.long e0), .second, .val (.long e1), .second, .val (.int a0'), .val (.int a1'), .val (.int sel), .val (.int init), .val (.int lo), .val (.int (2 : Int32)), .val (.int s0), .val (.int s4), .val (.int s1), .val (.int s2), .val (.int s5), .val (.int s6), .val (.ref a), .val (.ref as)] [(.int (1 : Int32))])
      rw [eh] at w1618
      refine gif (pt := 340) (pf := 312) w1618 at_309  (by decide) rfl rfl (fun (c309 : (1 : Int32) = (0 : Int32)) => ?_) (fun (c309 : ¬ (1 : Int32) = (0 : Int32)) => ?_)
      · exact absurd c309 (by decide)
      · refine gaload (pc' := 314) (Ls := #[.val (.long e0), .second, .val (.long e1), .second, .val (.int a0'), .val (.int a1'), .val (.int sel), .val (.int init), .val (.int lo), .val (.int (2 : Int32)), .val (.int s0), .val (.int s4), .val (.int s1), .val (.int s2), .val (.int s5), .val (.int s6), .val (.ref a), .val (.ref as)]) (rest := []) w1618 at_312 rfl rfl rfl ?_
        refine giconst (v := (3 : Int32)) (pc' := 315) w1618 at_314 rfl rfl ?_
        refine giload (pc' := 317) (Ls := #[.val (.long e0), .second, .val (.long e1), .second, .val (.int a0'), .val (.int a1'), .val (.int sel), .val (.int init), .val (.int lo), .val (.int (2 : Int32)), .val (.int s0), .val (.int s4), .val (.int s1), .val (.int s2), .val (.int s5), .val (.int s6), .val (.ref a), .val (.ref as)]) (rest := [(.int (3 : Int32)), (.ref a)]) w1618 at_315 rfl rfl ?_
        refine gaload (pc' := 319) (Ls := #[.val (.long e0), .second, .val (.long e1), .second, .val (.int a0'), .val (.int a1'), .val (.int sel), .val (.int init), .val (.int lo), .val (.int (2 : Int32)), .val (.int s0), .val (.int s4), .val (.int s1), .val (.int s2), .val (.int s5), .val (.int s6), .val (.ref a), .val (.ref as)]) (rest := [(.int (2 : Int32)), (.int (3 : Int32)), (.ref a)]) w1618 at_317 rfl rfl rfl ?_
        refine giload (pc' := 321) (Ls := #[.val (.long e0), .second, .val (.long e1), .second, .val (.int a0'), .val (.int a1'), .val (.int sel), .val (.int init), .val (.int lo), .val (.int (2 : Int32)), .val (.int s0), .val (.int s4), .val (.int s1), .val (.int s2), .val (.int s5), .val (.int s6), .val (.ref a), .val (.ref as)]) (rest := [(.ref as), (.int (2 : Int32)), (.int (3 : Int32)), (.ref a)]) w1618 at_319 rfl rfl ?_
        refine gcallS (pc' := 324) (argsL := [(.ref a), (.int (3 : Int32)), (.int (2 : Int32)), (.ref as), (.int init)]) (rest := []) (Wt := 0) w1618 at_321 (hw _ (List.mem_of_getElem? (i := 78) rfl)) (hw _ (List.mem_of_getElem? (i := 79) rfl)) (hw _ (List.mem_of_getElem? (i := 80) rfl)) (hw _ (List.mem_of_getElem? (i := 81) rfl)) (by decide) pd_d11 (own_chk hw (3 : Int32) (2 : Int32) init _ _ _ a ac ap aa as kc kp kt ks _ _ _ dc dp dt ds s0 s1 s2 s3 s4 s5 s6 s7 (by decide) (own_g2 rfl hs0 hs4 (by decide) (by rfl)) (own_g2 rfl hs0 hs4 (by decide) (by rfl)) (own_g2 rfl hs0 hs4 (by decide) (by rfl)) rfl rfl rfl UU) rfl rfl rfl rfl (Nat.le_of_eq rfl) (by decide) (by decide) (by decide) (by decide) rfl (fun v1620 T1621 h1622 w1623 q1624 => ?_)
        obtain ⟨rfl, eh⟩ := q1624
        show Go _ _ _ _ _ _ _ _ _ (mkF m 324 #[.val (.long e0), .second, .val (.long e1), .second, .val (.int a0'), .val (.int a1'), .val (.int sel), .val (.int init), .val (.int lo), .val (.int (2 : Int32)), .val (.int s0), .val (.int s4), .val (.int s1), .val (.int s2), .val (.int s5), .val (.int s6), .val (.ref a), .val (.ref as)] [(.int (1 : Int32))])
        rw [eh] at w1623
        refine gif (pt := 340) (pf := 327) w1623 at_324  (by decide) rfl rfl (fun (c324 : (1 : Int32) = (0 : Int32)) => ?_) (fun (c324 : ¬ (1 : Int32) = (0 : Int32)) => ?_)
        · exact absurd c324 (by decide)
        · refine gaload (pc' := 329) (Ls := #[.val (.long e0), .second, .val (.long e1), .second, .val (.int a0'), .val (.int a1'), .val (.int sel), .val (.int init), .val (.int lo), .val (.int (2 : Int32)), .val (.int s0), .val (.int s4), .val (.int s1), .val (.int s2), .val (.int s5), .val (.int s6), .val (.ref a), .val (.ref as)]) (rest := []) w1623 at_327 rfl rfl rfl ?_
          refine ggetF (pc' := 332) w1623 at_329 (hw _ (List.mem_of_getElem? (i := 82) rfl)) UU.2.2.2.1 rfl (fun T1626 w1625 => ?_)
          refine giconst (v := (4 : Int32)) (pc' := 333) w1625 at_332 rfl rfl ?_
          refine gicmp (pt := 340) (pf := 336) w1625 at_333  (by decide) rfl rfl (fun (c333 : ¬ (4 : Int32) = (4 : Int32)) => ?_) (fun (c333 : (4 : Int32) = (4 : Int32)) => ?_)
          · exact absurd c333 (by decide)
          · refine giconst (v := (1 : Int32)) (pc' := 337) w1625 at_336 rfl rfl ?_
            refine ggoto (pc' := 341) w1625 at_337 (by decide) rfl ?_
            exact gretZ w1625 at_341 rfl (by decide) (by decide) rfl
set_option maxRecDepth 65536 in
set_option maxHeartbeats 4000000 in
theorem own_b58_2 (hw : ∀ d ∈ tables_1, d.before a0 Z = true) (w : W Z "com/example/antecedent/antecedent/clock/TreeUnviewPinLaw" "law" code maxLocals ret n0 p l e room_1 s m args below meth c 0 0 T h) (lo : Int32) (e0 e1 : Int64) (a0' a1' sel init : Int32) (aL : Addr) (s0 s1 s2 s4 s5 s6 : Int32) (hs0 : ¬ s0 < 0 ∧ s0 < 4) (hs4 : ¬ s4 < 0 ∧ s4 < 4) (z0 : n0 ≤ h.size) (SL : Sta Z h "com/example/antecedent/antecedent/clock/Tree" "NO_LOG" "[I" (.ref aL)) :
    Go n0 p e below s (fun v _ => v = some (.int 1)) room_1.cells room_1.slots T (mkF m 58 #[.val (.long e0), .second, .val (.long e1), .second, .val (.int a0'), .val (.int a1'), .val (.int sel), .val (.int init), .val (.int lo), .val (.int (2 : Int32)), .val (.int s0), .val (.int s4), .val (.int s1), .val (.int s2), .val (.int s5), .val (.int s6), .unset, .unset] []) := by
  refine gnewO (pc' := 61) w at_58 (hw _ (List.mem_of_getElem? (i := 0) rfl)) (hw _ (List.mem_of_getElem? (i := 1) rfl)) (hw _ (List.mem_of_getElem? (i := 2) rfl)) (by decide) (by decide) rfl (fun T1627 h1628 a s1629 w1630 E1631 A1632 D1633 => ?_)
  have g_a : n0 ≤ a := Nat.le_trans z0 (Nat.le_of_eq s1629)
  have S1634 := SL.ext E1631
  have z1635 := Nat.le_trans z0 E1631.1
  have F1636 : Fld Z h1628 a "com/example/antecedent/antecedent/clock/Tree" "liftedBases" "[I" .null := D1633 (Or.inl (hw _ (List.mem_of_getElem? (i := 12) rfl))) (ty := (.array .int)) (by decide)
  have F1637 : Fld Z h1628 a "com/example/antecedent/antecedent/clock/Tree" "liftedCounts" "[I" .null := D1633 (Or.inl (hw _ (List.mem_of_getElem? (i := 14) rfl))) (ty := (.array .int)) (by decide)
  have F1638 : Fld Z h1628 a "com/example/antecedent/antecedent/clock/Tree" "liftedParents" "[I" .null := D1633 (Or.inl (hw _ (List.mem_of_getElem? (i := 16) rfl))) (ty := (.array .int)) (by decide)
  have F1639 : Fld Z h1628 a "com/example/antecedent/antecedent/clock/Tree" "liftedAttached" "[I" .null := D1633 (Or.inl (hw _ (List.mem_of_getElem? (i := 18) rfl))) (ty := (.array .int)) (by decide)
  have F1640 : Fld Z h1628 a "com/example/antecedent/antecedent/clock/Tree" "earlierLifts" "[I" .null := D1633 (Or.inl (hw _ (List.mem_of_getElem? (i := 20) rfl))) (ty := (.array .int)) (by decide)
  have F1641 : Fld Z h1628 a "com/example/antecedent/antecedent/clock/Tree" "lastLifts" "[I" .null := D1633 (Or.inl (hw _ (List.mem_of_getElem? (i := 22) rfl))) (ty := (.array .int)) (by decide)
  have F1642 : Fld Z h1628 a "com/example/antecedent/antecedent/clock/Tree" "counts" "[I" .null := D1633 (Or.inl (hw _ (List.mem_of_getElem? (i := 25) rfl))) (ty := (.array .int)) (by decide)
  have F1643 : Fld Z h1628 a "com/example/antecedent/antecedent/clock/Tree" "parents" "[I" .null := D1633 (Or.inl (hw _ (List.mem_of_getElem? (i := 27) rfl))) (ty := (.array .int)) (by decide)
  have F1644 : Fld Z h1628 a "com/example/antecedent/antecedent/clock/Tree" "attached" "[I" .null := D1633 (Or.inl (hw _ (List.mem_of_getElem? (i := 29) rfl))) (ty := (.array .int)) (by decide)
  have F1645 : Fld Z h1628 a "com/example/antecedent/antecedent/clock/Tree" "links" "[I" .null := D1633 (Or.inl (hw _ (List.mem_of_getElem? (i := 31) rfl))) (ty := (.array .int)) (by decide)
  have F1646 : Fld Z h1628 a "com/example/antecedent/antecedent/clock/Tree" "version" "I" (.int (0 : Int32)) := D1633 (Or.inl (hw _ (List.mem_of_getElem? (i := 43) rfl))) (ty := .int) (by decide)
  have F1647 : Fld Z h1628 a "com/example/antecedent/antecedent/clock/Tree" "blendedFrom" "Lcom/example/antecedent/antecedent/clock/Tree;" .null := D1633 (Or.inl (hw _ (List.mem_of_getElem? (i := 45) rfl))) (ty := (.object "com/example/antecedent/antecedent/clock/Tree")) (by decide)
  have F1648 : Fld Z h1628 a "com/example/antecedent/antecedent/clock/Tree" "room" "I" (.int (0 : Int32)) := D1633 (Or.inl (hw _ (List.mem_of_getElem? (i := 52) rfl))) (ty := .int) (by decide)
  have F1649 : Fld Z h1628 a "com/example/antecedent/antecedent/clock/Tree" "listed" "Z" (.int (0 : Int32)) := D1633 (Or.inl (hw _ (List.mem_of_getElem? (i := 69) rfl))) (ty := .boolean) (by decide)
  refine gdup (pc' := 62) w1630 at_61 rfl rfl ?_
  refine giconst (v := (4 : Int32)) (pc' := 63) w1630 at_62 rfl rfl ?_
  refine gcallN (pc' := 66) (argsL := [(.int (4 : Int32))]) (rest := [(.ref a)]) (Wt := 1) w1630 at_63 (hw _ (List.mem_of_getElem? (i := 3) rfl)) (hw _ (List.mem_of_getElem? (i := 4) rfl)) (hw _ (List.mem_of_getElem? (i := 2) rfl)) (hw _ (List.mem_of_getElem? (i := 5) rfl)) rfl (by decide) pd_d1 (own_ini hw a aL z1635 g_a A1632 S1634 F1636 F1637 F1638 F1639 F1640 F1641 F1642 F1643 F1644 F1645 F1646 F1647 F1648 F1649) rfl rfl rfl rfl (Nat.le_of_eq rfl) (by decide) (by decide) (by decide) (by decide) rfl (fun v1650 T1651 h1652 w1653 q1654 => ?_)
  obtain ⟨rfl, ac, ap, aa, al, G, ⟨E0, Fc, Fp, Ft, Fl, Fr, ⟨ov, Fv⟩, ⟨ob, Fb⟩, ⟨oi, Fi⟩, ⟨kc, vc, dc, lc, Vc⟩, ⟨kp, vp, dp, lp, Vp⟩, ⟨kt, vt, dt, lt, Vt⟩, ⟨kl, vl, dl, ll, Vl⟩, n1, n2, n3, n4, n5, n6, n7, n8, n9, n10⟩⟩ := q1654
  show Go _ _ _ _ _ _ _ _ _ (mkF m 66 #[.val (.long e0), .second, .val (.long e1), .second, .val (.int a0'), .val (.int a1'), .val (.int sel), .val (.int init), .val (.int lo), .val (.int (2 : Int32)), .val (.int s0), .val (.int s4), .val (.int s1), .val (.int s2), .val (.int s5), .val (.int s6), .unset, .unset] [(.ref a)])
  have zz : n0 ≤ h1652.size := Nat.le_of_lt (Nat.lt_of_le_of_lt G.1 E0.lt)
  obtain ⟨uc0, uc1, uc2, uc3, rfl⟩ := own_l4 lc
  obtain ⟨up0, up1, up2, up3, rfl⟩ := own_l4 lp
  obtain ⟨ut0, ut1, ut2, ut3, rfl⟩ := own_l4 lt
  refine gastore (pc' := 68) (Ls := #[.val (.long e0), .second, .val (.long e1), .second, .val (.int a0'), .val (.int a1'), .val (.int sel), .val (.int init), .val (.int lo), .val (.int (2 : Int32)), .val (.int s0), .val (.int s4), .val (.int s1), .val (.int s2), .val (.int s5), .val (.int s6), .unset, .unset]) (Ls' := #[.val (.long e0), .second, .val (.long e1), .second, .val (.int a0'), .val (.int a1'), .val (.int sel), .val (.int init), .val (.int lo), .val (.int (2 : Int32)), .val (.int s0), .val (.int s4), .val (.int s1), .val (.int s2), .val (.int s5), .val (.int s6), .val (.ref a), .unset]) (rest := []) w1653 at_66 rfl rfl rfl ?_
  refine gaload (pc' := 70) (Ls := #[.val (.long e0), .second, .val (.long e1), .second, .val (.int a0'), .val (.int a1'), .val (.int sel), .val (.int init), .val (.int lo), .val (.int (2 : Int32)), .val (.int s0), .val (.int s4), .val (.int s1), .val (.int s2), .val (.int s5), .val (.int s6), .val (.ref a), .unset]) (rest := []) w1653 at_68 rfl rfl rfl ?_
  refine ggetF (pc' := 73) w1653 at_70 (hw _ (List.mem_of_getElem? (i := 70) rfl)) Fc rfl (fun T1655 w1656 => ?_)
  refine giconst (v := (0 : Int32)) (pc' := 74) w1656 at_73 rfl rfl ?_
  refine giload (pc' := 76) (Ls := #[.val (.long e0), .second, .val (.long e1), .second, .val (.int a0'), .val (.int a1'), .val (.int sel), .val (.int init), .val (.int lo), .val (.int (2 : Int32)), .val (.int s0), .val (.int s4), .val (.int s1), .val (.int s2), .val (.int s5), .val (.int s6), .val (.ref a), .unset]) (rest := [(.int (0 : Int32)), (.ref ac)]) w1656 at_74 rfl rfl ?_
  refine giastore (pc' := 77) (x' := init) w1656 at_76 rfl Vc (by decide) (0) rfl (by simp) G.2.1 rfl (fun T1657 h1658 w1659 W1660 V1661 => ?_)
  have E1663 := E0.wr W1660
  have F1664 := Fc.other W1660 (Or.inl n1)
  have F1665 := Fp.other W1660 (Or.inl n1)
  have V1666 := Vp.other W1660 (Ne.symm n5)
  have F1667 := Ft.other W1660 (Or.inl n1)
  have V1668 := Vt.other W1660 (Ne.symm n6)
  have F1669 := Fr.other W1660 (Or.inl n1)
  have z1670 : n0 ≤ h1658.size := by rw [W1660.size]; exact zz
  have V1662 : Arv Z h1658 ac kc .int (4 : Int32) [(.int init), uc1, uc2, uc3] dc := V1661
  refine gaload (pc' := 79) (Ls := #[.val (.long e0), .second, .val (.long e1), .second, .val (.int a0'), .val (.int a1'), .val (.int sel), .val (.int init), .val (.int lo), .val (.int (2 : Int32)), .val (.int s0), .val (.int s4), .val (.int s1), .val (.int s2), .val (.int s5), .val (.int s6), .val (.ref a), .unset]) (rest := []) w1659 at_77 rfl rfl rfl ?_
  refine ggetF (pc' := 82) w1659 at_79 (hw _ (List.mem_of_getElem? (i := 70) rfl)) F1664 rfl (fun T1671 w1672 => ?_)
  refine giconst (v := (1 : Int32)) (pc' := 83) w1672 at_82 rfl rfl ?_
  refine giload (pc' := 85) (Ls := #[.val (.long e0), .second, .val (.long e1), .second, .val (.int a0'), .val (.int a1'), .val (.int sel), .val (.int init), .val (.int lo), .val (.int (2 : Int32)), .val (.int s0), .val (.int s4), .val (.int s1), .val (.int s2), .val (.int s5), .val (.int s6), .val (.ref a), .unset]) (rest := [(.int (1 : Int32)), (.ref ac)]) w1672 at_83 rfl rfl ?_
  refine giconst (v := (1 : Int32)) (pc' := 86) w1672 at_85 rfl rfl ?_
  refine giadd (pc' := 87) w1672 at_86 rfl ?_
  refine giastore (pc' := 88) (x' := (init + (1 : Int32))) w1672 at_87 rfl V1662 (by decide) (1) rfl (by simp) G.2.1 rfl (fun T1673 h1674 w1675 W1676 V1677 => ?_)
  have E1679 := E1663.wr W1676
  have F1680 := F1664.other W1676 (Or.inl n1)
  have F1681 := F1665.other W1676 (Or.inl n1)
  have V1682 := V1666.other W1676 (Ne.symm n5)
  have F1683 := F1667.other W1676 (Or.inl n1)
  have V1684 := V1668.other W1676 (Ne.symm n6)
  have F1685 := F1669.other W1676 (Or.inl n1)
  have z1686 : n0 ≤ h1674.size := by rw [W1676.size]; exact z1670
  have V1678 : Arv Z h1674 ac kc .int (4 : Int32) [(.int init), (.int (init + (1 : Int32))), uc2, uc3] dc := V1677
  refine gaload (pc' := 90) (Ls := #[.val (.long e0), .second, .val (.long e1), .second, .val (.int a0'), .val (.int a1'), .val (.int sel), .val (.int init), .val (.int lo), .val (.int (2 : Int32)), .val (.int s0), .val (.int s4), .val (.int s1), .val (.int s2), .val (.int s5), .val (.int s6), .val (.ref a), .unset]) (rest := []) w1675 at_88 rfl rfl rfl ?_
  refine ggetF (pc' := 93) w1675 at_90 (hw _ (List.mem_of_getElem? (i := 70) rfl)) F1680 rfl (fun T1687 w1688 => ?_)
  refine giconst (v := (2 : Int32)) (pc' := 94) w1688 at_93 rfl rfl ?_
  refine giload (pc' := 96) (Ls := #[.val (.long e0), .second, .val (.long e1), .second, .val (.int a0'), .val (.int a1'), .val (.int sel), .val (.int init), .val (.int lo), .val (.int (2 : Int32)), .val (.int s0), .val (.int s4), .val (.int s1), .val (.int s2), .val (.int s5), .val (.int s6), .val (.ref a), .unset]) (rest := [(.int (2 : Int32)), (.ref ac)]) w1688 at_94 rfl rfl ?_
  refine giconst (v := (2 : Int32)) (pc' := 97) w1688 at_96 rfl rfl ?_
  refine giadd (pc' := 98) w1688 at_97 rfl ?_
  refine giastore (pc' := 99) (x' := (init + (2 : Int32))) w1688 at_98 rfl V1678 (by decide) (2) rfl (by simp) G.2.1 rfl (fun T1689 h1690 w1691 W1692 V1693 => ?_)
  have E1695 := E1679.wr W1692
  have F1696 := F1680.other W1692 (Or.inl n1)
  have F1697 := F1681.other W1692 (Or.inl n1)
  have V1698 := V1682.other W1692 (Ne.symm n5)
  have F1699 := F1683.other W1692 (Or.inl n1)
  have V1700 := V1684.other W1692 (Ne.symm n6)
  have F1701 := F1685.other W1692 (Or.inl n1)
  have z1702 : n0 ≤ h1690.size := by rw [W1692.size]; exact z1686
  have V1694 : Arv Z h1690 ac kc .int (4 : Int32) [(.int init), (.int (init + (1 : Int32))), (.int (init + (2 : Int32))), uc3] dc := V1693
  refine gaload (pc' := 101) (Ls := #[.val (.long e0), .second, .val (.long e1), .second, .val (.int a0'), .val (.int a1'), .val (.int sel), .val (.int init), .val (.int lo), .val (.int (2 : Int32)), .val (.int s0), .val (.int s4), .val (.int s1), .val (.int s2), .val (.int s5), .val (.int s6), .val (.ref a), .unset]) (rest := []) w1691 at_99 rfl rfl rfl ?_
  refine ggetF (pc' := 104) w1691 at_101 (hw _ (List.mem_of_getElem? (i := 70) rfl)) F1696 rfl (fun T1703 w1704 => ?_)
  refine giconst (v := (3 : Int32)) (pc' := 105) w1704 at_104 rfl rfl ?_
  refine giload (pc' := 107) (Ls := #[.val (.long e0), .second, .val (.long e1), .second, .val (.int a0'), .val (.int a1'), .val (.int sel), .val (.int init), .val (.int lo), .val (.int (2 : Int32)), .val (.int s0), .val (.int s4), .val (.int s1), .val (.int s2), .val (.int s5), .val (.int s6), .val (.ref a), .unset]) (rest := [(.int (3 : Int32)), (.ref ac)]) w1704 at_105 rfl rfl ?_
  refine giconst (v := (3 : Int32)) (pc' := 108) w1704 at_107 rfl rfl ?_
  refine giadd (pc' := 109) w1704 at_108 rfl ?_
  refine giastore (pc' := 110) (x' := (init + (3 : Int32))) w1704 at_109 rfl V1694 (by decide) (3) rfl (by simp) G.2.1 rfl (fun T1705 h1706 w1707 W1708 V1709 => ?_)
  have E1711 := E1695.wr W1708
  have F1712 := F1696.other W1708 (Or.inl n1)
  have F1713 := F1697.other W1708 (Or.inl n1)
  have V1714 := V1698.other W1708 (Ne.symm n5)
  have F1715 := F1699.other W1708 (Or.inl n1)
  have V1716 := V1700.other W1708 (Ne.symm n6)
  have F1717 := F1701.other W1708 (Or.inl n1)
  have z1718 : n0 ≤ h1706.size := by rw [W1708.size]; exact z1702
  have V1710 : Arv Z h1706 ac kc .int (4 : Int32) [(.int init), (.int (init + (1 : Int32))), (.int (init + (2 : Int32))), (.int (init + (3 : Int32)))] dc := V1709
  refine gaload (pc' := 112) (Ls := #[.val (.long e0), .second, .val (.long e1), .second, .val (.int a0'), .val (.int a1'), .val (.int sel), .val (.int init), .val (.int lo), .val (.int (2 : Int32)), .val (.int s0), .val (.int s4), .val (.int s1), .val (.int s2), .val (.int s5), .val (.int s6), .val (.ref a), .unset]) (rest := []) w1707 at_110 rfl rfl rfl ?_
  refine ggetF (pc' := 115) w1707 at_112 (hw _ (List.mem_of_getElem? (i := 71) rfl)) F1713 rfl (fun T1719 w1720 => ?_)
  refine giconst (v := (0 : Int32)) (pc' := 116) w1720 at_115 rfl rfl ?_
  refine giload (pc' := 118) (Ls := #[.val (.long e0), .second, .val (.long e1), .second, .val (.int a0'), .val (.int a1'), .val (.int sel), .val (.int init), .val (.int lo), .val (.int (2 : Int32)), .val (.int s0), .val (.int s4), .val (.int s1), .val (.int s2), .val (.int s5), .val (.int s6), .val (.ref a), .unset]) (rest := [(.int (0 : Int32)), (.ref ap)]) w1720 at_116 rfl rfl ?_
  refine giastore (pc' := 119) (x' := init) w1720 at_118 rfl V1714 (by decide) (0) rfl (by simp) G.2.2.1 rfl (fun T1721 h1722 w1723 W1724 V1725 => ?_)
  have E1727 := E1711.wr W1724
  have F1728 := F1712.other W1724 (Or.inl n2)
  have V1729 := V1710.other W1724 n5
  have F1730 := F1713.other W1724 (Or.inl n2)
  have F1731 := F1715.other W1724 (Or.inl n2)
  have V1732 := V1716.other W1724 (Ne.symm n8)
  have F1733 := F1717.other W1724 (Or.inl n2)
  have z1734 : n0 ≤ h1722.size := by rw [W1724.size]; exact z1718
  have V1726 : Arv Z h1722 ap kp .int (4 : Int32) [(.int init), up1, up2, up3] dp := V1725
  refine gaload (pc' := 121) (Ls := #[.val (.long e0), .second, .val (.long e1), .second, .val (.int a0'), .val (.int a1'), .val (.int sel), .val (.int init), .val (.int lo), .val (.int (2 : Int32)), .val (.int s0), .val (.int s4), .val (.int s1), .val (.int s2), .val (.int s5), .val (.int s6), .val (.ref a), .unset]) (rest := []) w1723 at_119 rfl rfl rfl ?_
  refine ggetF (pc' := 124) w1723 at_121 (hw _ (List.mem_of_getElem? (i := 71) rfl)) F1730 rfl (fun T1735 w1736 => ?_)
  refine giconst (v := (1 : Int32)) (pc' := 125) w1736 at_124 rfl rfl ?_
  refine giload (pc' := 127) (Ls := #[.val (.long e0), .second, .val (.long e1), .second, .val (.int a0'), .val (.int a1'), .val (.int sel), .val (.int init), .val (.int lo), .val (.int (2 : Int32)), .val (.int s0), .val (.int s4), .val (.int s1), .val (.int s2), .val (.int s5), .val (.int s6), .val (.ref a), .unset]) (rest := [(.int (1 : Int32)), (.ref ap)]) w1736 at_125 rfl rfl ?_
  refine giconst (v := (1 : Int32)) (pc' := 128) w1736 at_127 rfl rfl ?_
  refine gisub (pc' := 129) w1736 at_128 rfl ?_
  refine giastore (pc' := 130) (x' := (init - (1 : Int32))) w1736 at_129 rfl V1726 (by decide) (1) rfl (by simp) G.2.2.1 rfl (fun T1737 h1738 w1739 W1740 V1741 => ?_)
  have E1743 := E1727.wr W1740
  have F1744 := F1728.other W1740 (Or.inl n2)
  have V1745 := V1729.other W1740 n5
  have F1746 := F1730.other W1740 (Or.inl n2)
  have F1747 := F1731.other W1740 (Or.inl n2)
  have V1748 := V1732.other W1740 (Ne.symm n8)
  have F1749 := F1733.other W1740 (Or.inl n2)
  have z1750 : n0 ≤ h1738.size := by rw [W1740.size]; exact z1734
  have V1742 : Arv Z h1738 ap kp .int (4 : Int32) [(.int init), (.int (init - (1 : Int32))), up2, up3] dp := V1741
  refine gaload (pc' := 132) (Ls := #[.val (.long e0), .second, .val (.long e1), .second, .val (.int a0'), .val (.int a1'), .val (.int sel), .val (.int init), .val (.int lo), .val (.int (2 : Int32)), .val (.int s0), .val (.int s4), .val (.int s1), .val (.int s2), .val (.int s5), .val (.int s6), .val (.ref a), .unset]) (rest := []) w1739 at_130 rfl rfl rfl ?_
  refine ggetF (pc' := 135) w1739 at_132 (hw _ (List.mem_of_getElem? (i := 71) rfl)) F1746 rfl (fun T1751 w1752 => ?_)
  refine giconst (v := (2 : Int32)) (pc' := 136) w1752 at_135 rfl rfl ?_
  refine giload (pc' := 138) (Ls := #[.val (.long e0), .second, .val (.long e1), .second, .val (.int a0'), .val (.int a1'), .val (.int sel), .val (.int init), .val (.int lo), .val (.int (2 : Int32)), .val (.int s0), .val (.int s4), .val (.int s1), .val (.int s2), .val (.int s5), .val (.int s6), .val (.ref a), .unset]) (rest := [(.int (2 : Int32)), (.ref ap)]) w1752 at_136 rfl rfl ?_
  refine giconst (v := (2 : Int32)) (pc' := 139) w1752 at_138 rfl rfl ?_
  refine gisub (pc' := 140) w1752 at_139 rfl ?_
  refine giastore (pc' := 141) (x' := (init - (2 : Int32))) w1752 at_140 rfl V1742 (by decide) (2) rfl (by simp) G.2.2.1 rfl (fun T1753 h1754 w1755 W1756 V1757 => ?_)
  have E1759 := E1743.wr W1756
  have F1760 := F1744.other W1756 (Or.inl n2)
  have V1761 := V1745.other W1756 n5
  have F1762 := F1746.other W1756 (Or.inl n2)
  have F1763 := F1747.other W1756 (Or.inl n2)
  have V1764 := V1748.other W1756 (Ne.symm n8)
  have F1765 := F1749.other W1756 (Or.inl n2)
  have z1766 : n0 ≤ h1754.size := by rw [W1756.size]; exact z1750
  have V1758 : Arv Z h1754 ap kp .int (4 : Int32) [(.int init), (.int (init - (1 : Int32))), (.int (init - (2 : Int32))), up3] dp := V1757
  refine gaload (pc' := 143) (Ls := #[.val (.long e0), .second, .val (.long e1), .second, .val (.int a0'), .val (.int a1'), .val (.int sel), .val (.int init), .val (.int lo), .val (.int (2 : Int32)), .val (.int s0), .val (.int s4), .val (.int s1), .val (.int s2), .val (.int s5), .val (.int s6), .val (.ref a), .unset]) (rest := []) w1755 at_141 rfl rfl rfl ?_
  refine ggetF (pc' := 146) w1755 at_143 (hw _ (List.mem_of_getElem? (i := 71) rfl)) F1762 rfl (fun T1767 w1768 => ?_)
  refine giconst (v := (3 : Int32)) (pc' := 147) w1768 at_146 rfl rfl ?_
  refine giload (pc' := 149) (Ls := #[.val (.long e0), .second, .val (.long e1), .second, .val (.int a0'), .val (.int a1'), .val (.int sel), .val (.int init), .val (.int lo), .val (.int (2 : Int32)), .val (.int s0), .val (.int s4), .val (.int s1), .val (.int s2), .val (.int s5), .val (.int s6), .val (.ref a), .unset]) (rest := [(.int (3 : Int32)), (.ref ap)]) w1768 at_147 rfl rfl ?_
  refine giconst (v := (3 : Int32)) (pc' := 150) w1768 at_149 rfl rfl ?_
  refine gisub (pc' := 151) w1768 at_150 rfl ?_
  refine giastore (pc' := 152) (x' := (init - (3 : Int32))) w1768 at_151 rfl V1758 (by decide) (3) rfl (by simp) G.2.2.1 rfl (fun T1769 h1770 w1771 W1772 V1773 => ?_)
  have E1775 := E1759.wr W1772
  have F1776 := F1760.other W1772 (Or.inl n2)
  have V1777 := V1761.other W1772 n5
  have F1778 := F1762.other W1772 (Or.inl n2)
  have F1779 := F1763.other W1772 (Or.inl n2)
  have V1780 := V1764.other W1772 (Ne.symm n8)
  have F1781 := F1765.other W1772 (Or.inl n2)
  have z1782 : n0 ≤ h1770.size := by rw [W1772.size]; exact z1766
  have V1774 : Arv Z h1770 ap kp .int (4 : Int32) [(.int init), (.int (init - (1 : Int32))), (.int (init - (2 : Int32))), (.int (init - (3 : Int32)))] dp := V1773
  refine gaload (pc' := 154) (Ls := #[.val (.long e0), .second, .val (.long e1), .second, .val (.int a0'), .val (.int a1'), .val (.int sel), .val (.int init), .val (.int lo), .val (.int (2 : Int32)), .val (.int s0), .val (.int s4), .val (.int s1), .val (.int s2), .val (.int s5), .val (.int s6), .val (.ref a), .unset]) (rest := []) w1771 at_152 rfl rfl rfl ?_
  refine ggetF (pc' := 157) w1771 at_154 (hw _ (List.mem_of_getElem? (i := 72) rfl)) F1779 rfl (fun T1783 w1784 => ?_)
  refine giconst (v := (0 : Int32)) (pc' := 158) w1784 at_157 rfl rfl ?_
  refine giload (pc' := 160) (Ls := #[.val (.long e0), .second, .val (.long e1), .second, .val (.int a0'), .val (.int a1'), .val (.int sel), .val (.int init), .val (.int lo), .val (.int (2 : Int32)), .val (.int s0), .val (.int s4), .val (.int s1), .val (.int s2), .val (.int s5), .val (.int s6), .val (.ref a), .unset]) (rest := [(.int (0 : Int32)), (.ref aa)]) w1784 at_158 rfl rfl ?_
  refine giconst (v := (-1 : Int32)) (pc' := 161) w1784 at_160 rfl rfl ?_
  refine gixor (pc' := 162) w1784 at_161 rfl ?_
  refine giastore (pc' := 163) (x' := (init ^^^ (-1 : Int32))) w1784 at_162 rfl V1780 (by decide) (0) rfl (by simp) G.2.2.2.1 rfl (fun T1785 h1786 w1787 W1788 V1789 => ?_)
  have E1791 := E1775.wr W1788
  have F1792 := F1776.other W1788 (Or.inl n3)
  have V1793 := V1777.other W1788 n6
  have F1794 := F1778.other W1788 (Or.inl n3)
  have V1795 := V1774.other W1788 n8
  have F1796 := F1779.other W1788 (Or.inl n3)
  have F1797 := F1781.other W1788 (Or.inl n3)
  have z1798 : n0 ≤ h1786.size := by rw [W1788.size]; exact z1782
  have V1790 : Arv Z h1786 aa kt .int (4 : Int32) [(.int (init ^^^ (-1 : Int32))), ut1, ut2, ut3] dt := V1789
  refine gaload (pc' := 165) (Ls := #[.val (.long e0), .second, .val (.long e1), .second, .val (.int a0'), .val (.int a1'), .val (.int sel), .val (.int init), .val (.int lo), .val (.int (2 : Int32)), .val (.int s0), .val (.int s4), .val (.int s1), .val (.int s2), .val (.int s5), .val (.int s6), .val (.ref a), .unset]) (rest := []) w1787 at_163 rfl rfl rfl ?_
  refine ggetF (pc' := 168) w1787 at_165 (hw _ (List.mem_of_getElem? (i := 72) rfl)) F1796 rfl (fun T1799 w1800 => ?_)
  refine giconst (v := (1 : Int32)) (pc' := 169) w1800 at_168 rfl rfl ?_
  refine giload (pc' := 171) (Ls := #[.val (.long e0), .second, .val (.long e1), .second, .val (.int a0'), .val (.int a1'), .val (.int sel), .val (.int init), .val (.int lo), .val (.int (2 : Int32)), .val (.int s0), .val (.int s4), .val (.int s1), .val (.int s2), .val (.int s5), .val (.int s6), .val (.ref a), .unset]) (rest := [(.int (1 : Int32)), (.ref aa)]) w1800 at_169 rfl rfl ?_
  refine giconst (v := (-1 : Int32)) (pc' := 172) w1800 at_171 rfl rfl ?_
  refine gixor (pc' := 173) w1800 at_172 rfl ?_
  refine giconst (v := (1 : Int32)) (pc' := 174) w1800 at_173 rfl rfl ?_
  refine gixor (pc' := 175) w1800 at_174 rfl ?_
  refine giastore (pc' := 176) (x' := ((init ^^^ (-1 : Int32)) ^^^ (1 : Int32))) w1800 at_175 rfl V1790 (by decide) (1) rfl (by simp) G.2.2.2.1 rfl (fun T1801 h1802 w1803 W1804 V1805 => ?_)
  have E1807 := E1791.wr W1804
  have F1808 := F1792.other W1804 (Or.inl n3)
  have V1809 := V1793.other W1804 n6
  have F1810 := F1794.other W1804 (Or.inl n3)
  have V1811 := V1795.other W1804 n8
  have F1812 := F1796.other W1804 (Or.inl n3)
  have F1813 := F1797.other W1804 (Or.inl n3)
  have z1814 : n0 ≤ h1802.size := by rw [W1804.size]; exact z1798
  have V1806 : Arv Z h1802 aa kt .int (4 : Int32) [(.int (init ^^^ (-1 : Int32))), (.int ((init ^^^ (-1 : Int32)) ^^^ (1 : Int32))), ut2, ut3] dt := V1805
  refine gaload (pc' := 178) (Ls := #[.val (.long e0), .second, .val (.long e1), .second, .val (.int a0'), .val (.int a1'), .val (.int sel), .val (.int init), .val (.int lo), .val (.int (2 : Int32)), .val (.int s0), .val (.int s4), .val (.int s1), .val (.int s2), .val (.int s5), .val (.int s6), .val (.ref a), .unset]) (rest := []) w1803 at_176 rfl rfl rfl ?_
  refine ggetF (pc' := 181) w1803 at_178 (hw _ (List.mem_of_getElem? (i := 72) rfl)) F1812 rfl (fun T1815 w1816 => ?_)
  refine giconst (v := (2 : Int32)) (pc' := 182) w1816 at_181 rfl rfl ?_
  refine giload (pc' := 184) (Ls := #[.val (.long e0), .second, .val (.long e1), .second, .val (.int a0'), .val (.int a1'), .val (.int sel), .val (.int init), .val (.int lo), .val (.int (2 : Int32)), .val (.int s0), .val (.int s4), .val (.int s1), .val (.int s2), .val (.int s5), .val (.int s6), .val (.ref a), .unset]) (rest := [(.int (2 : Int32)), (.ref aa)]) w1816 at_182 rfl rfl ?_
  refine giconst (v := (-1 : Int32)) (pc' := 185) w1816 at_184 rfl rfl ?_
  refine gixor (pc' := 186) w1816 at_185 rfl ?_
  refine giconst (v := (2 : Int32)) (pc' := 187) w1816 at_186 rfl rfl ?_
  refine gixor (pc' := 188) w1816 at_187 rfl ?_
  refine giastore (pc' := 189) (x' := ((init ^^^ (-1 : Int32)) ^^^ (2 : Int32))) w1816 at_188 rfl V1806 (by decide) (2) rfl (by simp) G.2.2.2.1 rfl (fun T1817 h1818 w1819 W1820 V1821 => ?_)
  have E1823 := E1807.wr W1820
  have F1824 := F1808.other W1820 (Or.inl n3)
  have V1825 := V1809.other W1820 n6
  have F1826 := F1810.other W1820 (Or.inl n3)
  have V1827 := V1811.other W1820 n8
  have F1828 := F1812.other W1820 (Or.inl n3)
  have F1829 := F1813.other W1820 (Or.inl n3)
  have z1830 : n0 ≤ h1818.size := by rw [W1820.size]; exact z1814
  have V1822 : Arv Z h1818 aa kt .int (4 : Int32) [(.int (init ^^^ (-1 : Int32))), (.int ((init ^^^ (-1 : Int32)) ^^^ (1 : Int32))), (.int ((init ^^^ (-1 : Int32)) ^^^ (2 : Int32))), ut3] dt := V1821
  refine gaload (pc' := 191) (Ls := #[.val (.long e0), .second, .val (.long e1), .second, .val (.int a0'), .val (.int a1'), .val (.int sel), .val (.int init), .val (.int lo), .val (.int (2 : Int32)), .val (.int s0), .val (.int s4), .val (.int s1), .val (.int s2), .val (.int s5), .val (.int s6), .val (.ref a), .unset]) (rest := []) w1819 at_189 rfl rfl rfl ?_
  refine ggetF (pc' := 194) w1819 at_191 (hw _ (List.mem_of_getElem? (i := 72) rfl)) F1828 rfl (fun T1831 w1832 => ?_)
  refine giconst (v := (3 : Int32)) (pc' := 195) w1832 at_194 rfl rfl ?_
  refine giload (pc' := 197) (Ls := #[.val (.long e0), .second, .val (.long e1), .second, .val (.int a0'), .val (.int a1'), .val (.int sel), .val (.int init), .val (.int lo), .val (.int (2 : Int32)), .val (.int s0), .val (.int s4), .val (.int s1), .val (.int s2), .val (.int s5), .val (.int s6), .val (.ref a), .unset]) (rest := [(.int (3 : Int32)), (.ref aa)]) w1832 at_195 rfl rfl ?_
  refine giconst (v := (-1 : Int32)) (pc' := 198) w1832 at_197 rfl rfl ?_
  refine gixor (pc' := 199) w1832 at_198 rfl ?_
  refine giconst (v := (3 : Int32)) (pc' := 200) w1832 at_199 rfl rfl ?_
  refine gixor (pc' := 201) w1832 at_200 rfl ?_
  refine giastore (pc' := 202) (x' := ((init ^^^ (-1 : Int32)) ^^^ (3 : Int32))) w1832 at_201 rfl V1822 (by decide) (3) rfl (by simp) G.2.2.2.1 rfl (fun T1833 h1834 w1835 W1836 V1837 => ?_)
  have E1839 := E1823.wr W1836
  have F1840 := F1824.other W1836 (Or.inl n3)
  have V1841 := V1825.other W1836 n6
  have F1842 := F1826.other W1836 (Or.inl n3)
  have V1843 := V1827.other W1836 n8
  have F1844 := F1828.other W1836 (Or.inl n3)
  have F1845 := F1829.other W1836 (Or.inl n3)
  have z1846 : n0 ≤ h1834.size := by rw [W1836.size]; exact z1830
  have V1838 : Arv Z h1834 aa kt .int (4 : Int32) [(.int (init ^^^ (-1 : Int32))), (.int ((init ^^^ (-1 : Int32)) ^^^ (1 : Int32))), (.int ((init ^^^ (-1 : Int32)) ^^^ (2 : Int32))), (.int ((init ^^^ (-1 : Int32)) ^^^ (3 : Int32)))] dt := V1837
  refine gbipush (v := (8 : Int32)) (pc' := 204) w1835 at_202 rfl rfl ?_
  refine gnewP (pc' := 206) (cap := 8) (ty := .int) w1835 at_204 rfl (hw _ (List.mem_of_getElem? (i := 23) rfl)) (by decide) (by decide) (by decide) (by decide) (by decide) rfl (fun T1847 h1848 as k_as s1849 w1850 E1851 V1852 => ?_)
  have g_as : n0 ≤ as := Nat.le_trans z1846 (Nat.le_of_eq s1849)
  have ne_a_as : a ≠ as := Nat.ne_of_lt (s1849 ▸ E1839.lt)
  have ne_ac_as : ac ≠ as := Nat.ne_of_lt (s1849 ▸ V1841.lt)
  have ne_ap_as : ap ≠ as := Nat.ne_of_lt (s1849 ▸ V1843.lt)
  have ne_aa_as : aa ≠ as := Nat.ne_of_lt (s1849 ▸ V1838.lt)
  have E1854 := E1839.ext E1851
  have F1855 := F1840.ext E1851
  have V1856 := V1841.ext E1851
  have F1857 := F1842.ext E1851
  have V1858 := V1843.ext E1851
  have F1859 := F1844.ext E1851
  have V1860 := V1838.ext E1851
  have F1861 := F1845.ext E1851
  have z1862 := Nat.le_trans z1846 E1851.1
  have V1853 : Arv Z h1848 as k_as .int (8 : Int32) [(.int (0 : Int32)), (.int (0 : Int32)), (.int (0 : Int32)), (.int (0 : Int32)), (.int (0 : Int32)), (.int (0 : Int32)), (.int (0 : Int32)), (.int (0 : Int32))] (.int (0 : Int32)) := V1852.pad (pad_rep [] _ 8)
  refine gastore (pc' := 208) (Ls := #[.val (.long e0), .second, .val (.long e1), .second, .val (.int a0'), .val (.int a1'), .val (.int sel), .val (.int init), .val (.int lo), .val (.int (2 : Int32)), .val (.int s0), .val (.int s4), .val (.int s1), .val (.int s2), .val (.int s5), .val (.int s6), .val (.ref a), .unset]) (Ls' := #[.val (.long e0), .second, .val (.long e1), .second, .val (.int a0'), .val (.int a1'), .val (.int sel), .val (.int init), .val (.int lo), .val (.int (2 : Int32)), .val (.int s0), .val (.int s4), .val (.int s1), .val (.int s2), .val (.int s5), .val (.int s6), .val (.ref a), .val (.ref as)]) (rest := []) w1850 at_206 rfl rfl rfl ?_
  refine gaload (pc' := 210) (Ls := #[.val (.long e0), .second, .val (.long e1), .second, .val (.int a0'), .val (.int a1'), .val (.int sel), .val (.int init), .val (.int lo), .val (.int (2 : Int32)), .val (.int s0), .val (.int s4), .val (.int s1), .val (.int s2), .val (.int s5), .val (.int s6), .val (.ref a), .val (.ref as)]) (rest := []) w1850 at_208 rfl rfl rfl ?_
  refine giconst (v := (0 : Int32)) (pc' := 211) w1850 at_210 rfl rfl ?_
  refine giload (pc' := 213) (Ls := #[.val (.long e0), .second, .val (.long e1), .second, .val (.int a0'), .val (.int a1'), .val (.int sel), .val (.int init), .val (.int lo), .val (.int (2 : Int32)), .val (.int s0), .val (.int s4), .val (.int s1), .val (.int s2), .val (.int s5), .val (.int s6), .val (.ref a), .val (.ref as)]) (rest := [(.int (0 : Int32)), (.ref as)]) w1850 at_211 rfl rfl ?_
  refine giastore (pc' := 214) (x' := s0) w1850 at_213 rfl V1853 (by decide) (0) rfl (by simp) g_as rfl (fun T1863 h1864 w1865 W1866 V1867 => ?_)
  have E1869 := E1854.wr W1866
  have F1870 := F1855.other W1866 (Or.inl ne_a_as)
  have V1871 := V1856.other W1866 ne_ac_as
  have F1872 := F1857.other W1866 (Or.inl ne_a_as)
  have V1873 := V1858.other W1866 ne_ap_as
  have F1874 := F1859.other W1866 (Or.inl ne_a_as)
  have V1875 := V1860.other W1866 ne_aa_as
  have F1876 := F1861.other W1866 (Or.inl ne_a_as)
  have z1877 : n0 ≤ h1864.size := by rw [W1866.size]; exact z1862
  have V1868 : Arv Z h1864 as k_as .int (8 : Int32) [(.int s0), (.int (0 : Int32)), (.int (0 : Int32)), (.int (0 : Int32)), (.int (0 : Int32)), (.int (0 : Int32)), (.int (0 : Int32)), (.int (0 : Int32))] (.int (0 : Int32)) := V1867
  refine gaload (pc' := 216) (Ls := #[.val (.long e0), .second, .val (.long e1), .second, .val (.int a0'), .val (.int a1'), .val (.int sel), .val (.int init), .val (.int lo), .val (.int (2 : Int32)), .val (.int s0), .val (.int s4), .val (.int s1), .val (.int s2), .val (.int s5), .val (.int s6), .val (.ref a), .val (.ref as)]) (rest := []) w1865 at_214 rfl rfl rfl ?_
  refine giconst (v := (1 : Int32)) (pc' := 217) w1865 at_216 rfl rfl ?_
  refine giload (pc' := 219) (Ls := #[.val (.long e0), .second, .val (.long e1), .second, .val (.int a0'), .val (.int a1'), .val (.int sel), .val (.int init), .val (.int lo), .val (.int (2 : Int32)), .val (.int s0), .val (.int s4), .val (.int s1), .val (.int s2), .val (.int s5), .val (.int s6), .val (.ref a), .val (.ref as)]) (rest := [(.int (1 : Int32)), (.ref as)]) w1865 at_217 rfl rfl ?_
  refine giastore (pc' := 220) (x' := s1) w1865 at_219 rfl V1868 (by decide) (1) rfl (by simp) g_as rfl (fun T1878 h1879 w1880 W1881 V1882 => ?_)
  have E1884 := E1869.wr W1881
  have F1885 := F1870.other W1881 (Or.inl ne_a_as)
  have V1886 := V1871.other W1881 ne_ac_as
  have F1887 := F1872.other W1881 (Or.inl ne_a_as)
  have V1888 := V1873.other W1881 ne_ap_as
  have F1889 := F1874.other W1881 (Or.inl ne_a_as)
  have V1890 := V1875.other W1881 ne_aa_as
  have F1891 := F1876.other W1881 (Or.inl ne_a_as)
  have z1892 : n0 ≤ h1879.size := by rw [W1881.size]; exact z1877
  have V1883 : Arv Z h1879 as k_as .int (8 : Int32) [(.int s0), (.int s1), (.int (0 : Int32)), (.int (0 : Int32)), (.int (0 : Int32)), (.int (0 : Int32)), (.int (0 : Int32)), (.int (0 : Int32))] (.int (0 : Int32)) := V1882
  refine gaload (pc' := 222) (Ls := #[.val (.long e0), .second, .val (.long e1), .second, .val (.int a0'), .val (.int a1'), .val (.int sel), .val (.int init), .val (.int lo), .val (.int (2 : Int32)), .val (.int s0), .val (.int s4), .val (.int s1), .val (.int s2), .val (.int s5), .val (.int s6), .val (.ref a), .val (.ref as)]) (rest := []) w1880 at_220 rfl rfl rfl ?_
  refine giconst (v := (2 : Int32)) (pc' := 223) w1880 at_222 rfl rfl ?_
  refine giload (pc' := 225) (Ls := #[.val (.long e0), .second, .val (.long e1), .second, .val (.int a0'), .val (.int a1'), .val (.int sel), .val (.int init), .val (.int lo), .val (.int (2 : Int32)), .val (.int s0), .val (.int s4), .val (.int s1), .val (.int s2), .val (.int s5), .val (.int s6), .val (.ref a), .val (.ref as)]) (rest := [(.int (2 : Int32)), (.ref as)]) w1880 at_223 rfl rfl ?_
  refine giastore (pc' := 226) (x' := s2) w1880 at_225 rfl V1883 (by decide) (2) rfl (by simp) g_as rfl (fun T1893 h1894 w1895 W1896 V1897 => ?_)
  have E1899 := E1884.wr W1896
  have F1900 := F1885.other W1896 (Or.inl ne_a_as)
  have V1901 := V1886.other W1896 ne_ac_as
  have F1902 := F1887.other W1896 (Or.inl ne_a_as)
  have V1903 := V1888.other W1896 ne_ap_as
  have F1904 := F1889.other W1896 (Or.inl ne_a_as)
  have V1905 := V1890.other W1896 ne_aa_as
  have F1906 := F1891.other W1896 (Or.inl ne_a_as)
  have z1907 : n0 ≤ h1894.size := by rw [W1896.size]; exact z1892
  have V1898 : Arv Z h1894 as k_as .int (8 : Int32) [(.int s0), (.int s1), (.int s2), (.int (0 : Int32)), (.int (0 : Int32)), (.int (0 : Int32)), (.int (0 : Int32)), (.int (0 : Int32))] (.int (0 : Int32)) := V1897
  refine gaload (pc' := 228) (Ls := #[.val (.long e0), .second, .val (.long e1), .second, .val (.int a0'), .val (.int a1'), .val (.int sel), .val (.int init), .val (.int lo), .val (.int (2 : Int32)), .val (.int s0), .val (.int s4), .val (.int s1), .val (.int s2), .val (.int s5), .val (.int s6), .val (.ref a), .val (.ref as)]) (rest := []) w1895 at_226 rfl rfl rfl ?_
  refine giconst (v := (3 : Int32)) (pc' := 229) w1895 at_228 rfl rfl ?_
  refine giload (pc' := 231) (Ls := #[.val (.long e0), .second, .val (.long e1), .second, .val (.int a0'), .val (.int a1'), .val (.int sel), .val (.int init), .val (.int lo), .val (.int (2 : Int32)), .val (.int s0), .val (.int s4), .val (.int s1), .val (.int s2), .val (.int s5), .val (.int s6), .val (.ref a), .val (.ref as)]) (rest := [(.int (3 : Int32)), (.ref as)]) w1895 at_229 rfl rfl ?_
  refine giastore (pc' := 232) (x' := a0') w1895 at_231 rfl V1898 (by decide) (3) rfl (by simp) g_as rfl (fun T1908 h1909 w1910 W1911 V1912 => ?_)
  have E1914 := E1899.wr W1911
  have F1915 := F1900.other W1911 (Or.inl ne_a_as)
  have V1916 := V1901.other W1911 ne_ac_as
  have F1917 := F1902.other W1911 (Or.inl ne_a_as)
  have V1918 := V1903.other W1911 ne_ap_as
  have F1919 := F1904.other W1911 (Or.inl ne_a_as)
  have V1920 := V1905.other W1911 ne_aa_as
  have F1921 := F1906.other W1911 (Or.inl ne_a_as)
  have z1922 : n0 ≤ h1909.size := by rw [W1911.size]; exact z1907
  have V1913 : Arv Z h1909 as k_as .int (8 : Int32) [(.int s0), (.int s1), (.int s2), (.int a0'), (.int (0 : Int32)), (.int (0 : Int32)), (.int (0 : Int32)), (.int (0 : Int32))] (.int (0 : Int32)) := V1912
  refine gaload (pc' := 234) (Ls := #[.val (.long e0), .second, .val (.long e1), .second, .val (.int a0'), .val (.int a1'), .val (.int sel), .val (.int init), .val (.int lo), .val (.int (2 : Int32)), .val (.int s0), .val (.int s4), .val (.int s1), .val (.int s2), .val (.int s5), .val (.int s6), .val (.ref a), .val (.ref as)]) (rest := []) w1910 at_232 rfl rfl rfl ?_
  refine giconst (v := (4 : Int32)) (pc' := 235) w1910 at_234 rfl rfl ?_
  refine giload (pc' := 237) (Ls := #[.val (.long e0), .second, .val (.long e1), .second, .val (.int a0'), .val (.int a1'), .val (.int sel), .val (.int init), .val (.int lo), .val (.int (2 : Int32)), .val (.int s0), .val (.int s4), .val (.int s1), .val (.int s2), .val (.int s5), .val (.int s6), .val (.ref a), .val (.ref as)]) (rest := [(.int (4 : Int32)), (.ref as)]) w1910 at_235 rfl rfl ?_
  refine giastore (pc' := 238) (x' := s4) w1910 at_237 rfl V1913 (by decide) (4) rfl (by simp) g_as rfl (fun T1923 h1924 w1925 W1926 V1927 => ?_)
  have E1929 := E1914.wr W1926
  have F1930 := F1915.other W1926 (Or.inl ne_a_as)
  have V1931 := V1916.other W1926 ne_ac_as
  have F1932 := F1917.other W1926 (Or.inl ne_a_as)
  have V1933 := V1918.other W1926 ne_ap_as
  have F1934 := F1919.other W1926 (Or.inl ne_a_as)
  have V1935 := V1920.other W1926 ne_aa_as
  have F1936 := F1921.other W1926 (Or.inl ne_a_as)
  have z1937 : n0 ≤ h1924.size := by rw [W1926.size]; exact z1922
  have V1928 : Arv Z h1924 as k_as .int (8 : Int32) [(.int s0), (.int s1), (.int s2), (.int a0'), (.int s4), (.int (0 : Int32)), (.int (0 : Int32)), (.int (0 : Int32))] (.int (0 : Int32)) := V1927
  refine gaload (pc' := 240) (Ls := #[.val (.long e0), .second, .val (.long e1), .second, .val (.int a0'), .val (.int a1'), .val (.int sel), .val (.int init), .val (.int lo), .val (.int (2 : Int32)), .val (.int s0), .val (.int s4), .val (.int s1), .val (.int s2), .val (.int s5), .val (.int s6), .val (.ref a), .val (.ref as)]) (rest := []) w1925 at_238 rfl rfl rfl ?_
  refine giconst (v := (5 : Int32)) (pc' := 241) w1925 at_240 rfl rfl ?_
  refine giload (pc' := 243) (Ls := #[.val (.long e0), .second, .val (.long e1), .second, .val (.int a0'), .val (.int a1'), .val (.int sel), .val (.int init), .val (.int lo), .val (.int (2 : Int32)), .val (.int s0), .val (.int s4), .val (.int s1), .val (.int s2), .val (.int s5), .val (.int s6), .val (.ref a), .val (.ref as)]) (rest := [(.int (5 : Int32)), (.ref as)]) w1925 at_241 rfl rfl ?_
  refine giastore (pc' := 244) (x' := s5) w1925 at_243 rfl V1928 (by decide) (5) rfl (by simp) g_as rfl (fun T1938 h1939 w1940 W1941 V1942 => ?_)
  have E1944 := E1929.wr W1941
  have F1945 := F1930.other W1941 (Or.inl ne_a_as)
  have V1946 := V1931.other W1941 ne_ac_as
  have F1947 := F1932.other W1941 (Or.inl ne_a_as)
  have V1948 := V1933.other W1941 ne_ap_as
  have F1949 := F1934.other W1941 (Or.inl ne_a_as)
  have V1950 := V1935.other W1941 ne_aa_as
  have F1951 := F1936.other W1941 (Or.inl ne_a_as)
  have z1952 : n0 ≤ h1939.size := by rw [W1941.size]; exact z1937
  have V1943 : Arv Z h1939 as k_as .int (8 : Int32) [(.int s0), (.int s1), (.int s2), (.int a0'), (.int s4), (.int s5), (.int (0 : Int32)), (.int (0 : Int32))] (.int (0 : Int32)) := V1942
  refine gaload (pc' := 246) (Ls := #[.val (.long e0), .second, .val (.long e1), .second, .val (.int a0'), .val (.int a1'), .val (.int sel), .val (.int init), .val (.int lo), .val (.int (2 : Int32)), .val (.int s0), .val (.int s4), .val (.int s1), .val (.int s2), .val (.int s5), .val (.int s6), .val (.ref a), .val (.ref as)]) (rest := []) w1940 at_244 rfl rfl rfl ?_
  refine gbipush (v := (6 : Int32)) (pc' := 248) w1940 at_246 rfl rfl ?_
  refine giload (pc' := 250) (Ls := #[.val (.long e0), .second, .val (.long e1), .second, .val (.int a0'), .val (.int a1'), .val (.int sel), .val (.int init), .val (.int lo), .val (.int (2 : Int32)), .val (.int s0), .val (.int s4), .val (.int s1), .val (.int s2), .val (.int s5), .val (.int s6), .val (.ref a), .val (.ref as)]) (rest := [(.int (6 : Int32)), (.ref as)]) w1940 at_248 rfl rfl ?_
  refine giastore (pc' := 251) (x' := s6) w1940 at_250 rfl V1943 (by decide) (6) rfl (by simp) g_as rfl (fun T1953 h1954 w1955 W1956 V1957 => ?_)
  have E1959 := E1944.wr W1956
  have F1960 := F1945.other W1956 (Or.inl ne_a_as)
  have V1961 := V1946.other W1956 ne_ac_as
  have F1962 := F1947.other W1956 (Or.inl ne_a_as)
  have V1963 := V1948.other W1956 ne_ap_as
  have F1964 := F1949.other W1956 (Or.inl ne_a_as)
  have V1965 := V1950.other W1956 ne_aa_as
  have F1966 := F1951.other W1956 (Or.inl ne_a_as)
  have z1967 : n0 ≤ h1954.size := by rw [W1956.size]; exact z1952
  have V1958 : Arv Z h1954 as k_as .int (8 : Int32) [(.int s0), (.int s1), (.int s2), (.int a0'), (.int s4), (.int s5), (.int s6), (.int (0 : Int32))] (.int (0 : Int32)) := V1957
  refine gaload (pc' := 253) (Ls := #[.val (.long e0), .second, .val (.long e1), .second, .val (.int a0'), .val (.int a1'), .val (.int sel), .val (.int init), .val (.int lo), .val (.int (2 : Int32)), .val (.int s0), .val (.int s4), .val (.int s1), .val (.int s2), .val (.int s5), .val (.int s6), .val (.ref a), .val (.ref as)]) (rest := []) w1955 at_251 rfl rfl rfl ?_
  refine gbipush (v := (7 : Int32)) (pc' := 255) w1955 at_253 rfl rfl ?_
  refine giload (pc' := 257) (Ls := #[.val (.long e0), .second, .val (.long e1), .second, .val (.int a0'), .val (.int a1'), .val (.int sel), .val (.int init), .val (.int lo), .val (.int (2 : Int32)), .val (.int s0), .val (.int s4), .val (.int s1), .val (.int s2), .val (.int s5), .val (.int s6), .val (.ref a), .val (.ref as)]) (rest := [(.int (7 : Int32)), (.ref as)]) w1955 at_255 rfl rfl ?_
  refine giastore (pc' := 258) (x' := a1') w1955 at_257 rfl V1958 (by decide) (7) rfl (by simp) g_as rfl (fun T1968 h1969 w1970 W1971 V1972 => ?_)
  have E1974 := E1959.wr W1971
  have F1975 := F1960.other W1971 (Or.inl ne_a_as)
  have V1976 := V1961.other W1971 ne_ac_as
  have F1977 := F1962.other W1971 (Or.inl ne_a_as)
  have V1978 := V1963.other W1971 ne_ap_as
  have F1979 := F1964.other W1971 (Or.inl ne_a_as)
  have V1980 := V1965.other W1971 ne_aa_as
  have F1981 := F1966.other W1971 (Or.inl ne_a_as)
  have z1982 : n0 ≤ h1969.size := by rw [W1971.size]; exact z1967
  have V1973 : Arv Z h1969 as k_as .int (8 : Int32) [(.int s0), (.int s1), (.int s2), (.int a0'), (.int s4), (.int s5), (.int s6), (.int a1')] (.int (0 : Int32)) := V1972
  refine gaload (pc' := 260) (Ls := #[.val (.long e0), .second, .val (.long e1), .second, .val (.int a0'), .val (.int a1'), .val (.int sel), .val (.int init), .val (.int lo), .val (.int (2 : Int32)), .val (.int s0), .val (.int s4), .val (.int s1), .val (.int s2), .val (.int s5), .val (.int s6), .val (.ref a), .val (.ref as)]) (rest := []) w1970 at_258 rfl rfl rfl ?_
  refine gaload (pc' := 262) (Ls := #[.val (.long e0), .second, .val (.long e1), .second, .val (.int a0'), .val (.int a1'), .val (.int sel), .val (.int init), .val (.int lo), .val (.int (2 : Int32)), .val (.int s0), .val (.int s4), .val (.int s1), .val (.int s2), .val (.int s5), .val (.int s6), .val (.ref a), .val (.ref as)]) (rest := [(.ref a)]) w1970 at_260 rfl rfl rfl ?_
  refine giload (pc' := 264) (Ls := #[.val (.long e0), .second, .val (.long e1), .second, .val (.int a0'), .val (.int a1'), .val (.int sel), .val (.int init), .val (.int lo), .val (.int (2 : Int32)), .val (.int s0), .val (.int s4), .val (.int s1), .val (.int s2), .val (.int s5), .val (.int s6), .val (.ref a), .val (.ref as)]) (rest := [(.ref as), (.ref a)]) w1970 at_262 rfl rfl ?_
  refine gcallV (pc' := 267) (argsL := [(.ref as), (.int (2 : Int32))]) (rest := []) (Wt := 0) w1970 at_264 (hw _ (List.mem_of_getElem? (i := 73) rfl)) (hw _ (List.mem_of_getElem? (i := 74) rfl)) (hw _ (List.mem_of_getElem? (i := 76) rfl)) (hw _ (List.mem_of_getElem? (i := 75) rfl)) (hw _ (List.mem_of_getElem? (i := 2) rfl)) (hw _ (List.mem_of_getElem? (i := 77) rfl)) E1974 rfl (by decide) pd_d10 (own_unv2 hw a ac ap aa as _ _ _ _ _ _ _ _ _ _ _ s0 s1 s2 a0' s4 s5 s6 a1' G.2.1 G.2.2.1 G.2.2.2.1 rfl rfl rfl hs0 hs4 n1 n2 n3 n5 n6 n8 ne_ac_as ne_ap_as ne_aa_as ne_a_as ⟨F1975, F1977, F1979, F1981, V1976, V1978, V1980, V1973⟩) rfl rfl rfl rfl (Nat.le_of_eq rfl) (by decide) (by decide) (by decide) (by decide) rfl (fun v1983 T1984 h1985 w1986 q1987 => ?_)
  obtain ⟨rfl, UU⟩ := q1987
  show Go _ _ _ _ _ _ _ _ _ (mkF m 267 #[.val (.long e0), .second, .val (.long e1), .second, .val (.int a0'), .val (.int a1'), .val (.int sel), .val (.int init), .val (.int lo), .val (.int (2 : Int32)), .val (.int s0), .val (.int s4), .val (.int s1), .val (.int s2), .val (.int s5), .val (.int s6), .val (.ref a), .val (.ref as)] [])
  exact own_fin2 hw w1986 lo e0 e1 a0' a1' sel init a ac ap aa as _ _ _ _ _ _ _ _ s0 s1 s2 a0' s4 s5 s6 a1' hs0 hs4 UU
set_option maxRecDepth 65536 in
set_option maxHeartbeats 4000000 in
theorem own_b18_0 (hw : ∀ d ∈ tables_1, d.before a0 Z = true) (w : W Z "com/example/antecedent/antecedent/clock/TreeUnviewPinLaw" "law" code maxLocals ret n0 p l e room_1 s m args below meth c 0 0 T h) (lo : Int32) (e0 e1 : Int64) (a0' a1' sel init : Int32) (aL : Addr) (z0 : n0 ≤ h.size) (SL : Sta Z h "com/example/antecedent/antecedent/clock/Tree" "NO_LOG" "[I" (.ref aL)) :
    Go n0 p e below s (fun v _ => v = some (.int 1)) room_1.cells room_1.slots T (mkF m 18 #[.val (.long e0), .second, .val (.long e1), .second, .val (.int a0'), .val (.int a1'), .val (.int sel), .val (.int init), .val (.int lo), .unset, .unset, .unset, .unset, .unset, .unset, .unset, .unset, .unset] [(.int (0 : Int32))]) := by
  refine gistore (pc' := 20) (Ls := #[.val (.long e0), .second, .val (.long e1), .second, .val (.int a0'), .val (.int a1'), .val (.int sel), .val (.int init), .val (.int lo), .unset, .unset, .unset, .unset, .unset, .unset, .unset, .unset, .unset]) (Ls' := #[.val (.long e0), .second, .val (.long e1), .second, .val (.int a0'), .val (.int a1'), .val (.int sel), .val (.int init), .val (.int lo), .val (.int (0 : Int32)), .unset, .unset, .unset, .unset, .unset, .unset, .unset, .unset]) (rest := []) w at_18 rfl rfl ?_
  refine giload (pc' := 22) (Ls := #[.val (.long e0), .second, .val (.long e1), .second, .val (.int a0'), .val (.int a1'), .val (.int sel), .val (.int init), .val (.int lo), .val (.int (0 : Int32)), .unset, .unset, .unset, .unset, .unset, .unset, .unset, .unset]) (rest := []) w at_20 rfl rfl ?_
  refine giconst (v := (2 : Int32)) (pc' := 23) w at_22 rfl rfl ?_
  refine giushr (pc' := 24) w at_23 rfl ?_
  refine giconst (v := (3 : Int32)) (pc' := 25) w at_24 rfl rfl ?_
  refine giand (pc' := 26) w at_25 rfl ?_
  refine gistore (pc' := 28) (Ls := #[.val (.long e0), .second, .val (.long e1), .second, .val (.int a0'), .val (.int a1'), .val (.int sel), .val (.int init), .val (.int lo), .val (.int (0 : Int32)), .unset, .unset, .unset, .unset, .unset, .unset, .unset, .unset]) (Ls' := #[.val (.long e0), .second, .val (.long e1), .second, .val (.int a0'), .val (.int a1'), .val (.int sel), .val (.int init), .val (.int lo), .val (.int (0 : Int32)), .val (.int ((((sel).toUInt32 >>> ((2 : Int32) &&& 31).toUInt32).toInt32) &&& (3 : Int32))), .unset, .unset, .unset, .unset, .unset, .unset, .unset]) (rest := []) w at_26 rfl rfl ?_
  refine giload (pc' := 30) (Ls := #[.val (.long e0), .second, .val (.long e1), .second, .val (.int a0'), .val (.int a1'), .val (.int sel), .val (.int init), .val (.int lo), .val (.int (0 : Int32)), .val (.int ((((sel).toUInt32 >>> ((2 : Int32) &&& 31).toUInt32).toInt32) &&& (3 : Int32))), .unset, .unset, .unset, .unset, .unset, .unset, .unset]) (rest := []) w at_28 rfl rfl ?_
  refine giconst (v := (4 : Int32)) (pc' := 31) w at_30 rfl rfl ?_
  refine giushr (pc' := 32) w at_31 rfl ?_
  refine giconst (v := (3 : Int32)) (pc' := 33) w at_32 rfl rfl ?_
  refine giand (pc' := 34) w at_33 rfl ?_
  refine gistore (pc' := 36) (Ls := #[.val (.long e0), .second, .val (.long e1), .second, .val (.int a0'), .val (.int a1'), .val (.int sel), .val (.int init), .val (.int lo), .val (.int (0 : Int32)), .val (.int ((((sel).toUInt32 >>> ((2 : Int32) &&& 31).toUInt32).toInt32) &&& (3 : Int32))), .unset, .unset, .unset, .unset, .unset, .unset, .unset]) (Ls' := #[.val (.long e0), .second, .val (.long e1), .second, .val (.int a0'), .val (.int a1'), .val (.int sel), .val (.int init), .val (.int lo), .val (.int (0 : Int32)), .val (.int ((((sel).toUInt32 >>> ((2 : Int32) &&& 31).toUInt32).toInt32) &&& (3 : Int32))), .val (.int ((((sel).toUInt32 >>> ((4 : Int32) &&& 31).toUInt32).toInt32) &&& (3 : Int32))), .unset, .unset, .unset, .unset, .unset, .unset]) (rest := []) w at_34 rfl rfl ?_
  refine glloadN (pc' := 37) (Ls := #[.val (.long e0), .second, .val (.long e1), .second, .val (.int a0'), .val (.int a1'), .val (.int sel), .val (.int init), .val (.int lo), .val (.int (0 : Int32)), .val (.int ((((sel).toUInt32 >>> ((2 : Int32) &&& 31).toUInt32).toInt32) &&& (3 : Int32))), .val (.int ((((sel).toUInt32 >>> ((4 : Int32) &&& 31).toUInt32).toInt32) &&& (3 : Int32))), .unset, .unset, .unset, .unset, .unset, .unset]) (rest := []) w at_36 rfl rfl ?_
  refine gbipush (v := (32 : Int32)) (pc' := 39) w at_37 rfl rfl ?_
  refine glushr (pc' := 40) w at_39 rfl ?_
  refine gl2i (pc' := 41) w at_40 rfl ?_
  refine gistore (pc' := 43) (Ls := #[.val (.long e0), .second, .val (.long e1), .second, .val (.int a0'), .val (.int a1'), .val (.int sel), .val (.int init), .val (.int lo), .val (.int (0 : Int32)), .val (.int ((((sel).toUInt32 >>> ((2 : Int32) &&& 31).toUInt32).toInt32) &&& (3 : Int32))), .val (.int ((((sel).toUInt32 >>> ((4 : Int32) &&& 31).toUInt32).toInt32) &&& (3 : Int32))), .unset, .unset, .unset, .unset, .unset, .unset]) (Ls' := #[.val (.long e0), .second, .val (.long e1), .second, .val (.int a0'), .val (.int a1'), .val (.int sel), .val (.int init), .val (.int lo), .val (.int (0 : Int32)), .val (.int ((((sel).toUInt32 >>> ((2 : Int32) &&& 31).toUInt32).toInt32) &&& (3 : Int32))), .val (.int ((((sel).toUInt32 >>> ((4 : Int32) &&& 31).toUInt32).toInt32) &&& (3 : Int32))), .val (.int ((((e0).toUInt64 >>> ((32 : Int32) &&& 0x3f).toInt64.toUInt64).toInt64).toInt32)), .unset, .unset, .unset, .unset, .unset]) (rest := []) w at_41 rfl rfl ?_
  refine glloadN (pc' := 44) (Ls := #[.val (.long e0), .second, .val (.long e1), .second, .val (.int a0'), .val (.int a1'), .val (.int sel), .val (.int init), .val (.int lo), .val (.int (0 : Int32)), .val (.int ((((sel).toUInt32 >>> ((2 : Int32) &&& 31).toUInt32).toInt32) &&& (3 : Int32))), .val (.int ((((sel).toUInt32 >>> ((4 : Int32) &&& 31).toUInt32).toInt32) &&& (3 : Int32))), .val (.int ((((e0).toUInt64 >>> ((32 : Int32) &&& 0x3f).toInt64.toUInt64).toInt64).toInt32)), .unset, .unset, .unset, .unset, .unset]) (rest := []) w at_43 rfl rfl ?_
  refine gl2i (pc' := 45) w at_44 rfl ?_
  refine gistore (pc' := 47) (Ls := #[.val (.long e0), .second, .val (.long e1), .second, .val (.int a0'), .val (.int a1'), .val (.int sel), .val (.int init), .val (.int lo), .val (.int (0 : Int32)), .val (.int ((((sel).toUInt32 >>> ((2 : Int32) &&& 31).toUInt32).toInt32) &&& (3 : Int32))), .val (.int ((((sel).toUInt32 >>> ((4 : Int32) &&& 31).toUInt32).toInt32) &&& (3 : Int32))), .val (.int ((((e0).toUInt64 >>> ((32 : Int32) &&& 0x3f).toInt64.toUInt64).toInt64).toInt32)), .unset, .unset, .unset, .unset, .unset]) (Ls' := #[.val (.long e0), .second, .val (.long e1), .second, .val (.int a0'), .val (.int a1'), .val (.int sel), .val (.int init), .val (.int lo), .val (.int (0 : Int32)), .val (.int ((((sel).toUInt32 >>> ((2 : Int32) &&& 31).toUInt32).toInt32) &&& (3 : Int32))), .val (.int ((((sel).toUInt32 >>> ((4 : Int32) &&& 31).toUInt32).toInt32) &&& (3 : Int32))), .val (.int ((((e0).toUInt64 >>> ((32 : Int32) &&& 0x3f).toInt64.toUInt64).toInt64).toInt32)), .val (.int (e0.toInt32)), .unset, .unset, .unset, .unset]) (rest := []) w at_45 rfl rfl ?_
  refine glloadN (pc' := 48) (Ls := #[.val (.long e0), .second, .val (.long e1), .second, .val (.int a0'), .val (.int a1'), .val (.int sel), .val (.int init), .val (.int lo), .val (.int (0 : Int32)), .val (.int ((((sel).toUInt32 >>> ((2 : Int32) &&& 31).toUInt32).toInt32) &&& (3 : Int32))), .val (.int ((((sel).toUInt32 >>> ((4 : Int32) &&& 31).toUInt32).toInt32) &&& (3 : Int32))), .val (.int ((((e0).toUInt64 >>> ((32 : Int32) &&& 0x3f).toInt64.toUInt64).toInt64).toInt32)), .val (.int (e0.toInt32)), .unset, .unset, .unset, .unset]) (rest := []) w at_47 rfl rfl ?_
  refine gbipush (v := (32 : Int32)) (pc' := 50) w at_48 rfl rfl ?_
  refine glushr (pc' := 51) w at_50 rfl ?_
  refine gl2i (pc' := 52) w at_51 rfl ?_
  refine gistore (pc' := 54) (Ls := #[.val (.long e0), .second, .val (.long e1), .second, .val (.int a0'), .val (.int a1'), .val (.int sel), .val (.int init), .val (.int lo), .val (.int (0 : Int32)), .val (.int ((((sel).toUInt32 >>> ((2 : Int32) &&& 31).toUInt32).toInt32) &&& (3 : Int32))), .val (.int ((((sel).toUInt32 >>> ((4 : Int32) &&& 31).toUInt32).toInt32) &&& (3 : Int32))), .val (.int ((((e0).toUInt64 >>> ((32 : Int32) &&& 0x3f).toInt64.toUInt64).toInt64).toInt32)), .val (.int (e0.toInt32)), .unset, .unset, .unset, .unset]) (Ls' := #[.val (.long e0), .second, .val (.long e1), .second, .val (.int a0'), .val (.int a1'), .val (.int sel), .val (.int init), .val (.int lo), .val (.int (0 : Int32)), .val (.int ((((sel).toUInt32 >>> ((2 : Int32) &&& 31).toUInt32).toInt32) &&& (3 : Int32))), .val (.int ((((sel).toUInt32 >>> ((4 : Int32) &&& 31).toUInt32).toInt32) &&& (3 : Int32))), .val (.int ((((e0).toUInt64 >>> ((32 : Int32) &&& 0x3f).toInt64.toUInt64).toInt64).toInt32)), .val (.int (e0.toInt32)), .val (.int ((((e1).toUInt64 >>> ((32 : Int32) &&& 0x3f).toInt64.toUInt64).toInt64).toInt32)), .unset, .unset, .unset]) (rest := []) w at_52 rfl rfl ?_
  refine glloadN (pc' := 55) (Ls := #[.val (.long e0), .second, .val (.long e1), .second, .val (.int a0'), .val (.int a1'), .val (.int sel), .val (.int init), .val (.int lo), .val (.int (0 : Int32)), .val (.int ((((sel).toUInt32 >>> ((2 : Int32) &&& 31).toUInt32).toInt32) &&& (3 : Int32))), .val (.int ((((sel).toUInt32 >>> ((4 : Int32) &&& 31).toUInt32).toInt32) &&& (3 : Int32))), .val (.int ((((e0).toUInt64 >>> ((32 : Int32) &&& 0x3f).toInt64.toUInt64).toInt64).toInt32)), .val (.int (e0.toInt32)), .val (.int ((((e1).toUInt64 >>> ((32 : Int32) &&& 0x3f).toInt64.toUInt64).toInt64).toInt32)), .unset, .unset, .unset]) (rest := []) w at_54 rfl rfl ?_
  refine gl2i (pc' := 56) w at_55 rfl ?_
  refine gistore (pc' := 58) (Ls := #[.val (.long e0), .second, .val (.long e1), .second, .val (.int a0'), .val (.int a1'), .val (.int sel), .val (.int init), .val (.int lo), .val (.int (0 : Int32)), .val (.int ((((sel).toUInt32 >>> ((2 : Int32) &&& 31).toUInt32).toInt32) &&& (3 : Int32))), .val (.int ((((sel).toUInt32 >>> ((4 : Int32) &&& 31).toUInt32).toInt32) &&& (3 : Int32))), .val (.int ((((e0).toUInt64 >>> ((32 : Int32) &&& 0x3f).toInt64.toUInt64).toInt64).toInt32)), .val (.int (e0.toInt32)), .val (.int ((((e1).toUInt64 >>> ((32 : Int32) &&& 0x3f).toInt64.toUInt64).toInt64).toInt32)), .unset, .unset, .unset]) (Ls' := #[.val (.long e0), .second, .val (.long e1), .second, .val (.int a0'), .val (.int a1'), .val (.int sel), .val (.int init), .val (.int lo), .val (.int (0 : Int32)), .val (.int ((((sel).toUInt32 >>> ((2 : Int32) &&& 31).toUInt32).toInt32) &&& (3 : Int32))), .val (.int ((((sel).toUInt32 >>> ((4 : Int32) &&& 31).toUInt32).toInt32) &&& (3 : Int32))), .val (.int ((((e0).toUInt64 >>> ((32 : Int32) &&& 0x3f).toInt64.toUInt64).toInt64).toInt32)), .val (.int (e0.toInt32)), .val (.int ((((e1).toUInt64 >>> ((32 : Int32) &&& 0x3f).toInt64.toUInt64).toInt64).toInt32)), .val (.int (e1.toInt32)), .unset, .unset]) (rest := []) w at_56 rfl rfl ?_
  exact own_b58_0 hw w lo e0 e1 a0' a1' sel init aL ((((sel).toUInt32 >>> ((2 : Int32) &&& 31).toUInt32).toInt32) &&& (3 : Int32)) ((((e0).toUInt64 >>> ((32 : Int32) &&& 0x3f).toInt64.toUInt64).toInt64).toInt32) (e0.toInt32) ((((sel).toUInt32 >>> ((4 : Int32) &&& 31).toUInt32).toInt32) &&& (3 : Int32)) ((((e1).toUInt64 >>> ((32 : Int32) &&& 0x3f).toInt64.toUInt64).toInt64).toInt32) (e1.toInt32) (own_m3 _) (own_m3 _) z0 SL
set_option maxRecDepth 65536 in
set_option maxHeartbeats 4000000 in
theorem own_b18_1 (hw : ∀ d ∈ tables_1, d.before a0 Z = true) (w : W Z "com/example/antecedent/antecedent/clock/TreeUnviewPinLaw" "law" code maxLocals ret n0 p l e room_1 s m args below meth c 0 0 T h) (lo : Int32) (e0 e1 : Int64) (a0' a1' sel init : Int32) (aL : Addr) (z0 : n0 ≤ h.size) (SL : Sta Z h "com/example/antecedent/antecedent/clock/Tree" "NO_LOG" "[I" (.ref aL)) :
    Go n0 p e below s (fun v _ => v = some (.int 1)) room_1.cells room_1.slots T (mkF m 18 #[.val (.long e0), .second, .val (.long e1), .second, .val (.int a0'), .val (.int a1'), .val (.int sel), .val (.int init), .val (.int lo), .unset, .unset, .unset, .unset, .unset, .unset, .unset, .unset, .unset] [(.int (1 : Int32))]) := by
  refine gistore (pc' := 20) (Ls := #[.val (.long e0), .second, .val (.long e1), .second, .val (.int a0'), .val (.int a1'), .val (.int sel), .val (.int init), .val (.int lo), .unset, .unset, .unset, .unset, .unset, .unset, .unset, .unset, .unset]) (Ls' := #[.val (.long e0), .second, .val (.long e1), .second, .val (.int a0'), .val (.int a1'), .val (.int sel), .val (.int init), .val (.int lo), .val (.int (1 : Int32)), .unset, .unset, .unset, .unset, .unset, .unset, .unset, .unset]) (rest := []) w at_18 rfl rfl ?_
  refine giload (pc' := 22) (Ls := #[.val (.long e0), .second, .val (.long e1), .second, .val (.int a0'), .val (.int a1'), .val (.int sel), .val (.int init), .val (.int lo), .val (.int (1 : Int32)), .unset, .unset, .unset, .unset, .unset, .unset, .unset, .unset]) (rest := []) w at_20 rfl rfl ?_
  refine giconst (v := (2 : Int32)) (pc' := 23) w at_22 rfl rfl ?_
  refine giushr (pc' := 24) w at_23 rfl ?_
  refine giconst (v := (3 : Int32)) (pc' := 25) w at_24 rfl rfl ?_
  refine giand (pc' := 26) w at_25 rfl ?_
  refine gistore (pc' := 28) (Ls := #[.val (.long e0), .second, .val (.long e1), .second, .val (.int a0'), .val (.int a1'), .val (.int sel), .val (.int init), .val (.int lo), .val (.int (1 : Int32)), .unset, .unset, .unset, .unset, .unset, .unset, .unset, .unset]) (Ls' := #[.val (.long e0), .second, .val (.long e1), .second, .val (.int a0'), .val (.int a1'), .val (.int sel), .val (.int init), .val (.int lo), .val (.int (1 : Int32)), .val (.int ((((sel).toUInt32 >>> ((2 : Int32) &&& 31).toUInt32).toInt32) &&& (3 : Int32))), .unset, .unset, .unset, .unset, .unset, .unset, .unset]) (rest := []) w at_26 rfl rfl ?_
  refine giload (pc' := 30) (Ls := #[.val (.long e0), .second, .val (.long e1), .second, .val (.int a0'), .val (.int a1'), .val (.int sel), .val (.int init), .val (.int lo), .val (.int (1 : Int32)), .val (.int ((((sel).toUInt32 >>> ((2 : Int32) &&& 31).toUInt32).toInt32) &&& (3 : Int32))), .unset, .unset, .unset, .unset, .unset, .unset, .unset]) (rest := []) w at_28 rfl rfl ?_
  refine giconst (v := (4 : Int32)) (pc' := 31) w at_30 rfl rfl ?_
  refine giushr (pc' := 32) w at_31 rfl ?_
  refine giconst (v := (3 : Int32)) (pc' := 33) w at_32 rfl rfl ?_
  refine giand (pc' := 34) w at_33 rfl ?_
  refine gistore (pc' := 36) (Ls := #[.val (.long e0), .second, .val (.long e1), .second, .val (.int a0'), .val (.int a1'), .val (.int sel), .val (.int init), .val (.int lo), .val (.int (1 : Int32)), .val (.int ((((sel).toUInt32 >>> ((2 : Int32) &&& 31).toUInt32).toInt32) &&& (3 : Int32))), .unset, .unset, .unset, .unset, .unset, .unset, .unset]) (Ls' := #[.val (.long e0), .second, .val (.long e1), .second, .val (.int a0'), .val (.int a1'), .val (.int sel), .val (.int init), .val (.int lo), .val (.int (1 : Int32)), .val (.int ((((sel).toUInt32 >>> ((2 : Int32) &&& 31).toUInt32).toInt32) &&& (3 : Int32))), .val (.int ((((sel).toUInt32 >>> ((4 : Int32) &&& 31).toUInt32).toInt32) &&& (3 : Int32))), .unset, .unset, .unset, .unset, .unset, .unset]) (rest := []) w at_34 rfl rfl ?_
  refine glloadN (pc' := 37) (Ls := #[.val (.long e0), .second, .val (.long e1), .second, .val (.int a0'), .val (.int a1'), .val (.int sel), .val (.int init), .val (.int lo), .val (.int (1 : Int32)), .val (.int ((((sel).toUInt32 >>> ((2 : Int32) &&& 31).toUInt32).toInt32) &&& (3 : Int32))), .val (.int ((((sel).toUInt32 >>> ((4 : Int32) &&& 31).toUInt32).toInt32) &&& (3 : Int32))), .unset, .unset, .unset, .unset, .unset, .unset]) (rest := []) w at_36 rfl rfl ?_
  refine gbipush (v := (32 : Int32)) (pc' := 39) w at_37 rfl rfl ?_
  refine glushr (pc' := 40) w at_39 rfl ?_
  refine gl2i (pc' := 41) w at_40 rfl ?_
  refine gistore (pc' := 43) (Ls := #[.val (.long e0), .second, .val (.long e1), .second, .val (.int a0'), .val (.int a1'), .val (.int sel), .val (.int init), .val (.int lo), .val (.int (1 : Int32)), .val (.int ((((sel).toUInt32 >>> ((2 : Int32) &&& 31).toUInt32).toInt32) &&& (3 : Int32))), .val (.int ((((sel).toUInt32 >>> ((4 : Int32) &&& 31).toUInt32).toInt32) &&& (3 : Int32))), .unset, .unset, .unset, .unset, .unset, .unset]) (Ls' := #[.val (.long e0), .second, .val (.long e1), .second, .val (.int a0'), .val (.int a1'), .val (.int sel), .val (.int init), .val (.int lo), .val (.int (1 : Int32)), .val (.int ((((sel).toUInt32 >>> ((2 : Int32) &&& 31).toUInt32).toInt32) &&& (3 : Int32))), .val (.int ((((sel).toUInt32 >>> ((4 : Int32) &&& 31).toUInt32).toInt32) &&& (3 : Int32))), .val (.int ((((e0).toUInt64 >>> ((32 : Int32) &&& 0x3f).toInt64.toUInt64).toInt64).toInt32)), .unset, .unset, .unset, .unset, .unset]) (rest := []) w at_41 rfl rfl ?_
  refine glloadN (pc' := 44) (Ls := #[.val (.long e0), .second, .val (.long e1), .second, .val (.int a0'), .val (.int a1'), .val (.int sel), .val (.int init), .val (.int lo), .val (.int (1 : Int32)), .val (.int ((((sel).toUInt32 >>> ((2 : Int32) &&& 31).toUInt32).toInt32) &&& (3 : Int32))), .val (.int ((((sel).toUInt32 >>> ((4 : Int32) &&& 31).toUInt32).toInt32) &&& (3 : Int32))), .val (.int ((((e0).toUInt64 >>> ((32 : Int32) &&& 0x3f).toInt64.toUInt64).toInt64).toInt32)), .unset, .unset, .unset, .unset, .unset]) (rest := []) w at_43 rfl rfl ?_
  refine gl2i (pc' := 45) w at_44 rfl ?_
  refine gistore (pc' := 47) (Ls := #[.val (.long e0), .second, .val (.long e1), .second, .val (.int a0'), .val (.int a1'), .val (.int sel), .val (.int init), .val (.int lo), .val (.int (1 : Int32)), .val (.int ((((sel).toUInt32 >>> ((2 : Int32) &&& 31).toUInt32).toInt32) &&& (3 : Int32))), .val (.int ((((sel).toUInt32 >>> ((4 : Int32) &&& 31).toUInt32).toInt32) &&& (3 : Int32))), .val (.int ((((e0).toUInt64 >>> ((32 : Int32) &&& 0x3f).toInt64.toUInt64).toInt64).toInt32)), .unset, .unset, .unset, .unset, .unset]) (Ls' := #[.val (.long e0), .second, .val (.long e1), .second, .val (.int a0'), .val (.int a1'), .val (.int sel), .val (.int init), .val (.int lo), .val (.int (1 : Int32)), .val (.int ((((sel).toUInt32 >>> ((2 : Int32) &&& 31).toUInt32).toInt32) &&& (3 : Int32))), .val (.int ((((sel).toUInt32 >>> ((4 : Int32) &&& 31).toUInt32).toInt32) &&& (3 : Int32))), .val (.int ((((e0).toUInt64 >>> ((32 : Int32) &&& 0x3f).toInt64.toUInt64).toInt64).toInt32)), .val (.int (e0.toInt32)), .unset, .unset, .unset, .unset]) (rest := []) w at_45 rfl rfl ?_
  refine glloadN (pc' := 48) (Ls := #[.val (.long e0), .second, .val (.long e1), .second, .val (.int a0'), .val (.int a1'), .val (.int sel), .val (.int init), .val (.int lo), .val (.int (1 : Int32)), .val (.int ((((sel).toUInt32 >>> ((2 : Int32) &&& 31).toUInt32).toInt32) &&& (3 : Int32))), .val (.int ((((sel).toUInt32 >>> ((4 : Int32) &&& 31).toUInt32).toInt32) &&& (3 : Int32))), .val (.int ((((e0).toUInt64 >>> ((32 : Int32) &&& 0x3f).toInt64.toUInt64).toInt64).toInt32)), .val (.int (e0.toInt32)), .unset, .unset, .unset, .unset]) (rest := []) w at_47 rfl rfl ?_
  refine gbipush (v := (32 : Int32)) (pc' := 50) w at_48 rfl rfl ?_
  refine glushr (pc' := 51) w at_50 rfl ?_
  refine gl2i (pc' := 52) w at_51 rfl ?_
  refine gistore (pc' := 54) (Ls := #[.val (.long e0), .second, .val (.long e1), .second, .val (.int a0'), .val (.int a1'), .val (.int sel), .val (.int init), .val (.int lo), .val (.int (1 : Int32)), .val (.int ((((sel).toUInt32 >>> ((2 : Int32) &&& 31).toUInt32).toInt32) &&& (3 : Int32))), .val (.int ((((sel).toUInt32 >>> ((4 : Int32) &&& 31).toUInt32).toInt32) &&& (3 : Int32))), .val (.int ((((e0).toUInt64 >>> ((32 : Int32) &&& 0x3f).toInt64.toUInt64).toInt64).toInt32)), .val (.int (e0.toInt32)), .unset, .unset, .unset, .unset]) (Ls' := #[.val (.long e0), .second, .val (.long e1), .second, .val (.int a0'), .val (.int a1'), .val (.int sel), .val (.int init), .val (.int lo), .val (.int (1 : Int32)), .val (.int ((((sel).toUInt32 >>> ((2 : Int32) &&& 31).toUInt32).toInt32) &&& (3 : Int32))), .val (.int ((((sel).toUInt32 >>> ((4 : Int32) &&& 31).toUInt32).toInt32) &&& (3 : Int32))), .val (.int ((((e0).toUInt64 >>> ((32 : Int32) &&& 0x3f).toInt64.toUInt64).toInt64).toInt32)), .val (.int (e0.toInt32)), .val (.int ((((e1).toUInt64 >>> ((32 : Int32) &&& 0x3f).toInt64.toUInt64).toInt64).toInt32)), .unset, .unset, .unset]) (rest := []) w at_52 rfl rfl ?_
  refine glloadN (pc' := 55) (Ls := #[.val (.long e0), .second, .val (.long e1), .second, .val (.int a0'), .val (.int a1'), .val (.int sel), .val (.int init), .val (.int lo), .val (.int (1 : Int32)), .val (.int ((((sel).toUInt32 >>> ((2 : Int32) &&& 31).toUInt32).toInt32) &&& (3 : Int32))), .val (.int ((((sel).toUInt32 >>> ((4 : Int32) &&& 31).toUInt32).toInt32) &&& (3 : Int32))), .val (.int ((((e0).toUInt64 >>> ((32 : Int32) &&& 0x3f).toInt64.toUInt64).toInt64).toInt32)), .val (.int (e0.toInt32)), .val (.int ((((e1).toUInt64 >>> ((32 : Int32) &&& 0x3f).toInt64.toUInt64).toInt64).toInt32)), .unset, .unset, .unset]) (rest := []) w at_54 rfl rfl ?_
  refine gl2i (pc' := 56) w at_55 rfl ?_
  refine gistore (pc' := 58) (Ls := #[.val (.long e0), .second, .val (.long e1), .second, .val (.int a0'), .val (.int a1'), .val (.int sel), .val (.int init), .val (.int lo), .val (.int (1 : Int32)), .val (.int ((((sel).toUInt32 >>> ((2 : Int32) &&& 31).toUInt32).toInt32) &&& (3 : Int32))), .val (.int ((((sel).toUInt32 >>> ((4 : Int32) &&& 31).toUInt32).toInt32) &&& (3 : Int32))), .val (.int ((((e0).toUInt64 >>> ((32 : Int32) &&& 0x3f).toInt64.toUInt64).toInt64).toInt32)), .val (.int (e0.toInt32)), .val (.int ((((e1).toUInt64 >>> ((32 : Int32) &&& 0x3f).toInt64.toUInt64).toInt64).toInt32)), .unset, .unset, .unset]) (Ls' := #[.val (.long e0), .second, .val (.long e1), .second, .val (.int a0'), .val (.int a1'), .val (.int sel), .val (.int init), .val (.int lo), .val (.int (1 : Int32)), .val (.int ((((sel).toUInt32 >>> ((2 : Int32) &&& 31).toUInt32).toInt32) &&& (3 : Int32))), .val (.int ((((sel).toUInt32 >>> ((4 : Int32) &&& 31).toUInt32).toInt32) &&& (3 : Int32))), .val (.int ((((e0).toUInt64 >>> ((32 : Int32) &&& 0x3f).toInt64.toUInt64).toInt64).toInt32)), .val (.int (e0.toInt32)), .val (.int ((((e1).toUInt64 >>> ((32 : Int32) &&& 0x3f).toInt64.toUInt64).toInt64).toInt32)), .val (.int (e1.toInt32)), .unset, .unset]) (rest := []) w at_56 rfl rfl ?_
  exact own_b58_1 hw w lo e0 e1 a0' a1' sel init aL ((((sel).toUInt32 >>> ((2 : Int32) &&& 31).toUInt32).toInt32) &&& (3 : Int32)) ((((e0).toUInt64 >>> ((32 : Int32) &&& 0x3f).toInt64.toUInt64).toInt64).toInt32) (e0.toInt32) ((((sel).toUInt32 >>> ((4 : Int32) &&& 31).toUInt32).toInt32) &&& (3 : Int32)) ((((e1).toUInt64 >>> ((32 : Int32) &&& 0x3f).toInt64.toUInt64).toInt64).toInt32) (e1.toInt32) (own_m3 _) (own_m3 _) z0 SL
set_option maxRecDepth 65536 in
set_option maxHeartbeats 4000000 in
theorem own_b18_2 (hw : ∀ d ∈ tables_1, d.before a0 Z = true) (w : W Z "com/example/antecedent/antecedent/clock/TreeUnviewPinLaw" "law" code maxLocals ret n0 p l e room_1 s m args below meth c 0 0 T h) (lo : Int32) (e0 e1 : Int64) (a0' a1' sel init : Int32) (aL : Addr) (z0 : n0 ≤ h.size) (SL : Sta Z h "com/example/antecedent/antecedent/clock/Tree" "NO_LOG" "[I" (.ref aL)) :
    Go n0 p e below s (fun v _ => v = some (.int 1)) room_1.cells room_1.slots T (mkF m 18 #[.val (.long e0), .second, .val (.long e1), .second, .val (.int a0'), .val (.int a1'), .val (.int sel), .val (.int init), .val (.int lo), .unset, .unset, .unset, .unset, .unset, .unset, .unset, .unset, .unset] [(.int (2 : Int32))]) := by
  refine gistore (pc' := 20) (Ls := #[.val (.long e0), .second, .val (.long e1), .second, .val (.int a0'), .val (.int a1'), .val (.int sel), .val (.int init), .val (.int lo), .unset, .unset, .unset, .unset, .unset, .unset, .unset, .unset, .unset]) (Ls' := #[.val (.long e0), .second, .val (.long e1), .second, .val (.int a0'), .val (.int a1'), .val (.int sel), .val (.int init), .val (.int lo), .val (.int (2 : Int32)), .unset, .unset, .unset, .unset, .unset, .unset, .unset, .unset]) (rest := []) w at_18 rfl rfl ?_
  refine giload (pc' := 22) (Ls := #[.val (.long e0), .second, .val (.long e1), .second, .val (.int a0'), .val (.int a1'), .val (.int sel), .val (.int init), .val (.int lo), .val (.int (2 : Int32)), .unset, .unset, .unset, .unset, .unset, .unset, .unset, .unset]) (rest := []) w at_20 rfl rfl ?_
  refine giconst (v := (2 : Int32)) (pc' := 23) w at_22 rfl rfl ?_
  refine giushr (pc' := 24) w at_23 rfl ?_
  refine giconst (v := (3 : Int32)) (pc' := 25) w at_24 rfl rfl ?_
  refine giand (pc' := 26) w at_25 rfl ?_
  refine gistore (pc' := 28) (Ls := #[.val (.long e0), .second, .val (.long e1), .second, .val (.int a0'), .val (.int a1'), .val (.int sel), .val (.int init), .val (.int lo), .val (.int (2 : Int32)), .unset, .unset, .unset, .unset, .unset, .unset, .unset, .unset]) (Ls' := #[.val (.long e0), .second, .val (.long e1), .second, .val (.int a0'), .val (.int a1'), .val (.int sel), .val (.int init), .val (.int lo), .val (.int (2 : Int32)), .val (.int ((((sel).toUInt32 >>> ((2 : Int32) &&& 31).toUInt32).toInt32) &&& (3 : Int32))), .unset, .unset, .unset, .unset, .unset, .unset, .unset]) (rest := []) w at_26 rfl rfl ?_
  refine giload (pc' := 30) (Ls := #[.val (.long e0), .second, .val (.long e1), .second, .val (.int a0'), .val (.int a1'), .val (.int sel), .val (.int init), .val (.int lo), .val (.int (2 : Int32)), .val (.int ((((sel).toUInt32 >>> ((2 : Int32) &&& 31).toUInt32).toInt32) &&& (3 : Int32))), .unset, .unset, .unset, .unset, .unset, .unset, .unset]) (rest := []) w at_28 rfl rfl ?_
  refine giconst (v := (4 : Int32)) (pc' := 31) w at_30 rfl rfl ?_
  refine giushr (pc' := 32) w at_31 rfl ?_
  refine giconst (v := (3 : Int32)) (pc' := 33) w at_32 rfl rfl ?_
  refine giand (pc' := 34) w at_33 rfl ?_
  refine gistore (pc' := 36) (Ls := #[.val (.long e0), .second, .val (.long e1), .second, .val (.int a0'), .val (.int a1'), .val (.int sel), .val (.int init), .val (.int lo), .val (.int (2 : Int32)), .val (.int ((((sel).toUInt32 >>> ((2 : Int32) &&& 31).toUInt32).toInt32) &&& (3 : Int32))), .unset, .unset, .unset, .unset, .unset, .unset, .unset]) (Ls' := #[.val (.long e0), .second, .val (.long e1), .second, .val (.int a0'), .val (.int a1'), .val (.int sel), .val (.int init), .val (.int lo), .val (.int (2 : Int32)), .val (.int ((((sel).toUInt32 >>> ((2 : Int32) &&& 31).toUInt32).toInt32) &&& (3 : Int32))), .val (.int ((((sel).toUInt32 >>> ((4 : Int32) &&& 31).toUInt32).toInt32) &&& (3 : Int32))), .unset, .unset, .unset, .unset, .unset, .unset]) (rest := []) w at_34 rfl rfl ?_
  refine glloadN (pc' := 37) (Ls := #[.val (.long e0), .second, .val (.long e1), .second, .val (.int a0'), .val (.int a1'), .val (.int sel), .val (.int init), .val (.int lo), .val (.int (2 : Int32)), .val (.int ((((sel).toUInt32 >>> ((2 : Int32) &&& 31).toUInt32).toInt32) &&& (3 : Int32))), .val (.int ((((sel).toUInt32 >>> ((4 : Int32) &&& 31).toUInt32).toInt32) &&& (3 : Int32))), .unset, .unset, .unset, .unset, .unset, .unset]) (rest := []) w at_36 rfl rfl ?_
  refine gbipush (v := (32 : Int32)) (pc' := 39) w at_37 rfl rfl ?_
  refine glushr (pc' := 40) w at_39 rfl ?_
  refine gl2i (pc' := 41) w at_40 rfl ?_
  refine gistore (pc' := 43) (Ls := #[.val (.long e0), .second, .val (.long e1), .second, .val (.int a0'), .val (.int a1'), .val (.int sel), .val (.int init), .val (.int lo), .val (.int (2 : Int32)), .val (.int ((((sel).toUInt32 >>> ((2 : Int32) &&& 31).toUInt32).toInt32) &&& (3 : Int32))), .val (.int ((((sel).toUInt32 >>> ((4 : Int32) &&& 31).toUInt32).toInt32) &&& (3 : Int32))), .unset, .unset, .unset, .unset, .unset, .unset]) (Ls' := #[.val (.long e0), .second, .val (.long e1), .second, .val (.int a0'), .val (.int a1'), .val (.int sel), .val (.int init), .val (.int lo), .val (.int (2 : Int32)), .val (.int ((((sel).toUInt32 >>> ((2 : Int32) &&& 31).toUInt32).toInt32) &&& (3 : Int32))), .val (.int ((((sel).toUInt32 >>> ((4 : Int32) &&& 31).toUInt32).toInt32) &&& (3 : Int32))), .val (.int ((((e0).toUInt64 >>> ((32 : Int32) &&& 0x3f).toInt64.toUInt64).toInt64).toInt32)), .unset, .unset, .unset, .unset, .unset]) (rest := []) w at_41 rfl rfl ?_
  refine glloadN (pc' := 44) (Ls := #[.val (.long e0), .second, .val (.long e1), .second, .val (.int a0'), .val (.int a1'), .val (.int sel), .val (.int init), .val (.int lo), .val (.int (2 : Int32)), .val (.int ((((sel).toUInt32 >>> ((2 : Int32) &&& 31).toUInt32).toInt32) &&& (3 : Int32))), .val (.int ((((sel).toUInt32 >>> ((4 : Int32) &&& 31).toUInt32).toInt32) &&& (3 : Int32))), .val (.int ((((e0).toUInt64 >>> ((32 : Int32) &&& 0x3f).toInt64.toUInt64).toInt64).toInt32)), .unset, .unset, .unset, .unset, .unset]) (rest := []) w at_43 rfl rfl ?_
  refine gl2i (pc' := 45) w at_44 rfl ?_
  refine gistore (pc' := 47) (Ls := #[.val (.long e0), .second, .val (.long e1), .second, .val (.int a0'), .val (.int a1'), .val (.int sel), .val (.int init), .val (.int lo), .val (.int (2 : Int32)), .val (.int ((((sel).toUInt32 >>> ((2 : Int32) &&& 31).toUInt32).toInt32) &&& (3 : Int32))), .val (.int ((((sel).toUInt32 >>> ((4 : Int32) &&& 31).toUInt32).toInt32) &&& (3 : Int32))), .val (.int ((((e0).toUInt64 >>> ((32 : Int32) &&& 0x3f).toInt64.toUInt64).toInt64).toInt32)), .unset, .unset, .unset, .unset, .unset]) (Ls' := #[.val (.long e0), .second, .val (.long e1), .second, .val (.int a0'), .val (.int a1'), .val (.int sel), .val (.int init), .val (.int lo), .val (.int (2 : Int32)), .val (.int ((((sel).toUInt32 >>> ((2 : Int32) &&& 31).toUInt32).toInt32) &&& (3 : Int32))), .val (.int ((((sel).toUInt32 >>> ((4 : Int32) &&& 31).toUInt32).toInt32) &&& (3 : Int32))), .val (.int ((((e0).toUInt64 >>> ((32 : Int32) &&& 0x3f).toInt64.toUInt64).toInt64).toInt32)), .val (.int (e0.toInt32)), .unset, .unset, .unset, .unset]) (rest := []) w at_45 rfl rfl ?_
  refine glloadN (pc' := 48) (Ls := #[.val (.long e0), .second, .val (.long e1), .second, .val (.int a0'), .val (.int a1'), .val (.int sel), .val (.int init), .val (.int lo), .val (.int (2 : Int32)), .val (.int ((((sel).toUInt32 >>> ((2 : Int32) &&& 31).toUInt32).toInt32) &&& (3 : Int32))), .val (.int ((((sel).toUInt32 >>> ((4 : Int32) &&& 31).toUInt32).toInt32) &&& (3 : Int32))), .val (.int ((((e0).toUInt64 >>> ((32 : Int32) &&& 0x3f).toInt64.toUInt64).toInt64).toInt32)), .val (.int (e0.toInt32)), .unset, .unset, .unset, .unset]) (rest := []) w at_47 rfl rfl ?_
  refine gbipush (v := (32 : Int32)) (pc' := 50) w at_48 rfl rfl ?_
  refine glushr (pc' := 51) w at_50 rfl ?_
  refine gl2i (pc' := 52) w at_51 rfl ?_
  refine gistore (pc' := 54) (Ls := #[.val (.long e0), .second, .val (.long e1), .second, .val (.int a0'), .val (.int a1'), .val (.int sel), .val (.int init), .val (.int lo), .val (.int (2 : Int32)), .val (.int ((((sel).toUInt32 >>> ((2 : Int32) &&& 31).toUInt32).toInt32) &&& (3 : Int32))), .val (.int ((((sel).toUInt32 >>> ((4 : Int32) &&& 31).toUInt32).toInt32) &&& (3 : Int32))), .val (.int ((((e0).toUInt64 >>> ((32 : Int32) &&& 0x3f).toInt64.toUInt64).toInt64).toInt32)), .val (.int (e0.toInt32)), .unset, .unset, .unset, .unset]) (Ls' := #[.val (.long e0), .second, .val (.long e1), .second, .val (.int a0'), .val (.int a1'), .val (.int sel), .val (.int init), .val (.int lo), .val (.int (2 : Int32)), .val (.int ((((sel).toUInt32 >>> ((2 : Int32) &&& 31).toUInt32).toInt32) &&& (3 : Int32))), .val (.int ((((sel).toUInt32 >>> ((4 : Int32) &&& 31).toUInt32).toInt32) &&& (3 : Int32))), .val (.int ((((e0).toUInt64 >>> ((32 : Int32) &&& 0x3f).toInt64.toUInt64).toInt64).toInt32)), .val (.int (e0.toInt32)), .val (.int ((((e1).toUInt64 >>> ((32 : Int32) &&& 0x3f).toInt64.toUInt64).toInt64).toInt32)), .unset, .unset, .unset]) (rest := []) w at_52 rfl rfl ?_
  refine glloadN (pc' := 55) (Ls := #[.val (.long e0), .second, .val (.long e1), .second, .val (.int a0'), .val (.int a1'), .val (.int sel), .val (.int init), .val (.int lo), .val (.int (2 : Int32)), .val (.int ((((sel).toUInt32 >>> ((2 : Int32) &&& 31).toUInt32).toInt32) &&& (3 : Int32))), .val (.int ((((sel).toUInt32 >>> ((4 : Int32) &&& 31).toUInt32).toInt32) &&& (3 : Int32))), .val (.int ((((e0).toUInt64 >>> ((32 : Int32) &&& 0x3f).toInt64.toUInt64).toInt64).toInt32)), .val (.int (e0.toInt32)), .val (.int ((((e1).toUInt64 >>> ((32 : Int32) &&& 0x3f).toInt64.toUInt64).toInt64).toInt32)), .unset, .unset, .unset]) (rest := []) w at_54 rfl rfl ?_
  refine gl2i (pc' := 56) w at_55 rfl ?_
  refine gistore (pc' := 58) (Ls := #[.val (.long e0), .second, .val (.long e1), .second, .val (.int a0'), .val (.int a1'), .val (.int sel), .val (.int init), .val (.int lo), .val (.int (2 : Int32)), .val (.int ((((sel).toUInt32 >>> ((2 : Int32) &&& 31).toUInt32).toInt32) &&& (3 : Int32))), .val (.int ((((sel).toUInt32 >>> ((4 : Int32) &&& 31).toUInt32).toInt32) &&& (3 : Int32))), .val (.int ((((e0).toUInt64 >>> ((32 : Int32) &&& 0x3f).toInt64.toUInt64).toInt64).toInt32)), .val (.int (e0.toInt32)), .val (.int ((((e1).toUInt64 >>> ((32 : Int32) &&& 0x3f).toInt64.toUInt64).toInt64).toInt32)), .unset, .unset, .unset]) (Ls' := #[.val (.long e0), .second, .val (.long e1), .second, .val (.int a0'), .val (.int a1'), .val (.int sel), .val (.int init), .val (.int lo), .val (.int (2 : Int32)), .val (.int ((((sel).toUInt32 >>> ((2 : Int32) &&& 31).toUInt32).toInt32) &&& (3 : Int32))), .val (.int ((((sel).toUInt32 >>> ((4 : Int32) &&& 31).toUInt32).toInt32) &&& (3 : Int32))), .val (.int ((((e0).toUInt64 >>> ((32 : Int32) &&& 0x3f).toInt64.toUInt64).toInt64).toInt32)), .val (.int (e0.toInt32)), .val (.int ((((e1).toUInt64 >>> ((32 : Int32) &&& 0x3f).toInt64.toUInt64).toInt64).toInt32)), .val (.int (e1.toInt32)), .unset, .unset]) (rest := []) w at_56 rfl rfl ?_
  exact own_b58_2 hw w lo e0 e1 a0' a1' sel init aL ((((sel).toUInt32 >>> ((2 : Int32) &&& 31).toUInt32).toInt32) &&& (3 : Int32)) ((((e0).toUInt64 >>> ((32 : Int32) &&& 0x3f).toInt64.toUInt64).toInt64).toInt32) (e0.toInt32) ((((sel).toUInt32 >>> ((4 : Int32) &&& 31).toUInt32).toInt32) &&& (3 : Int32)) ((((e1).toUInt64 >>> ((32 : Int32) &&& 0x3f).toInt64.toUInt64).toInt64).toInt32) (e1.toInt32) (own_m3 _) (own_m3 _) z0 SL
set_option maxRecDepth 65536 in
set_option maxHeartbeats 4000000 in
theorem own_law (hw : ∀ d ∈ tables_1, d.before a0 Z = true) (e0 e1 : Int64) (a0' a1' sel init : Int32) (aL : Addr) (z0 : n0 ≤ h.size) (SL : Sta Z h "com/example/antecedent/antecedent/clock/Tree" "NO_LOG" "[I" (.ref aL)) :
    Ctr l x code maxLocals ret room_1 Z #[(.long e0), (.long e1), (.int a0'), (.int a1'), (.int sel), (.int init)] h n0 (fun v _ => v = some (.int 1)) tables_1 := by
  refine metGo (Ls := #[.val (.long e0), .second, .val (.long e1), .second, .val (.int a0'), .val (.int a1'), .val (.int sel), .val (.int init), .unset, .unset, .unset, .unset, .unset, .unset, .unset, .unset, .unset, .unset]) pn_at (fun m => by first | rfl | (simp [entryFrame, mkF, argsToLocals, Value.category]; done) | (simp [entryFrame, mkF, argsToLocals, Value.category, maxLocals]; done)) ?_
  intro p e s m below meth c T w
  refine giload (pc' := 2) (Ls := #[.val (.long e0), .second, .val (.long e1), .second, .val (.int a0'), .val (.int a1'), .val (.int sel), .val (.int init), .unset, .unset, .unset, .unset, .unset, .unset, .unset, .unset, .unset, .unset]) (rest := []) w at_0 rfl rfl ?_
  refine giconst (v := (3 : Int32)) (pc' := 3) w at_2 rfl rfl ?_
  refine giand (pc' := 4) w at_3 rfl ?_
  refine gistore (pc' := 6) (Ls := #[.val (.long e0), .second, .val (.long e1), .second, .val (.int a0'), .val (.int a1'), .val (.int sel), .val (.int init), .unset, .unset, .unset, .unset, .unset, .unset, .unset, .unset, .unset, .unset]) (Ls' := #[.val (.long e0), .second, .val (.long e1), .second, .val (.int a0'), .val (.int a1'), .val (.int sel), .val (.int init), .val (.int (sel &&& (3 : Int32))), .unset, .unset, .unset, .unset, .unset, .unset, .unset, .unset, .unset]) (rest := []) w at_4 rfl rfl ?_
  refine giload (pc' := 8) (Ls := #[.val (.long e0), .second, .val (.long e1), .second, .val (.int a0'), .val (.int a1'), .val (.int sel), .val (.int init), .val (.int (sel &&& (3 : Int32))), .unset, .unset, .unset, .unset, .unset, .unset, .unset, .unset, .unset]) (rest := []) w at_6 rfl rfl ?_
  refine giconst (v := (3 : Int32)) (pc' := 9) w at_8 rfl rfl ?_
  refine gicmp (pt := 16) (pf := 12) w at_9  (by decide) rfl rfl (fun (c9 : ¬ (sel &&& (3 : Int32)) = (3 : Int32)) => ?_) (fun (c9 : (sel &&& (3 : Int32)) = (3 : Int32)) => ?_)
  · refine giload (pc' := 18) (Ls := #[.val (.long e0), .second, .val (.long e1), .second, .val (.int a0'), .val (.int a1'), .val (.int sel), .val (.int init), .val (.int (sel &&& (3 : Int32))), .unset, .unset, .unset, .unset, .unset, .unset, .unset, .unset, .unset]) (rest := []) w at_16 rfl rfl ?_
    rcases own_w3 c9 with r | r | r <;> rw [r]
    · exact own_b18_0 hw w _ e0 e1 a0' a1' sel init aL z0 SL
    · exact own_b18_1 hw w _ e0 e1 a0' a1' sel init aL z0 SL
    · exact own_b18_2 hw w _ e0 e1 a0' a1' sel init aL z0 SL
  · refine giconst (v := (2 : Int32)) (pc' := 13) w at_12 rfl rfl ?_
    refine ggoto (pc' := 18) w at_13 (by decide) rfl ?_
    exact own_b18_2 hw w _ e0 e1 a0' a1' sel init aL z0 SL
theorem comes_1 {Post : Tables → Env → Array Value → State → Outcome → State → Prop} (hpost : ∀ tb e args s v u, (limb_1_1.after args s (.returned v) u = true ∧ limb_1_2.after args s (.returned v) u = true ∧ True) → FrameEnd s (.returned v) u (Jvm.fieldLocs frame_1_writes args s ++ Jvm.arrayLocs frame_1_arrays args s ++ Jvm.staticLocs frame_1_statics s) 24 192 → Post tb e args s (.returned v) u) :
    ArmFor flags0 classFile x code maxLocals ret World_1 tables_1 room_1 Calls_1 rest_1 Pre_1 Post := by
  intro l hfl _ _ p e ha hc hk s m args below hf hA hF happ hP
  obtain ⟨hcalls, hrest, hpre⟩ := hP
  obtain ⟨-, -, -, hnamed, -, -, -, hat⟩ := (Spec.applies_iff hf).mp happ
  obtain ⟨hg, hn⟩ := and_e (Cond.before_iff.mp (show (Jvm.Cond.and given_1 narrow_1).before args s = true from hpre))
  obtain ⟨hcount, g0⟩ := and_e hg
  obtain ⟨a0, g1⟩ := and_e g0
  obtain ⟨a1, g2⟩ := and_e g1
  obtain ⟨a2, g3⟩ := and_e g2
  obtain ⟨a3, g4⟩ := and_e g3
  obtain ⟨a4, g5⟩ := and_e g4
  obtain ⟨w0, w1, w2, w3, w4, w5, rfl⟩ : ∃ w0 w1 w2 w3 w4 w5 : Value, args = #[w0, w1, w2, w3, w4, w5] := by
    have hs : args.size = 6 := by simpa [Cond.value, given_1] using hcount
    obtain ⟨L⟩ := args
    match L, hs with
    | [w0, w1, w2, w3, w4, w5], _ => exact ⟨w0, w1, w2, w3, w4, w5, rfl⟩
  have hw := fun d (hd : d ∈ tables_1) => atoms_spec (ws := Jvm.Cond.code x code maxLocals ret :: tables_1) hat d (List.mem_cons_of_mem _ hd)
  have hfit : Fit s := fun {y c} hc i hi => by
    obtain ⟨ha, rfl⟩ := Array.getElem?_eq_some_iff.mp hc
    have q := List.all_eq_true.mp ((Array.all_eq_true_iff_forall_mem.mp hF) _ (Array.getElem_mem ha)) i (List.mem_range.mpr hi)
    simpa [Array.getElem?_eq_getElem hi] using q
  obtain ⟨i0, e0⟩ := isL_v a0
  obtain rfl : w0 = (.long i0) := Option.some.inj e0
  obtain ⟨i1, e1⟩ := isL_v a1
  obtain rfl : w1 = (.long i1) := Option.some.inj e1
  obtain ⟨i2, e2⟩ := is_v a2
  obtain rfl : w2 = (.int i2) := Option.some.inj e2
  obtain ⟨i3, e3⟩ := is_v a3
  obtain rfl : w3 = (.int i3) := Option.some.inj e3
  obtain ⟨i4, e4⟩ := is_v a4
  obtain rfl : w4 = (.int i4) := Option.some.inj e4
  obtain ⟨i5, e5⟩ := is_v g5
  obtain rfl : w5 = (.int i5) := Option.some.inj e5
  obtain ⟨x1, y1⟩ := and_e hn
  obtain ⟨aL, eL⟩ := arr_v x1
  have SL := Sta.start eL (Or.inr ⟨(hw _ (List.mem_of_getElem? (i := 2) rfl)), (hw _ (List.mem_of_getElem? (i := 10) rfl))⟩)
  obtain ⟨n, o, h1, h2, h3, _, L, rfl, ⟨N, rfl⟩, hq⟩ := (own_law (h := s.heap) (n0 := s.heap.size) hw i0 i1 i2 i3 i4 i5 aL (Nat.le_refl _) SL) p e ha hc hk s m _ below hf ((Spec.applies_iff_loose hf).mp happ).1 ⟨rfl, State.Warmed39.refl s, rfl⟩ trivial
  refine ⟨n, _, h1, h2, h3, hpost _ _ _ _ _ _ ⟨Cond.after_iff.mpr rfl, Cond.after_iff.mpr (eq_i res_at (Term.int_eval (1)) rfl), trivial⟩ ⟨hq.1, hq.2.1, (hq.2.2.sift fun y hy => Or.inr (N y hy)).mono (by decide) (by decide)⟩⟩
theorem main_1_1 : Claimed_1_1 := comes_1 fun _ _ _ _ _ _ h hF => ⟨h.1, hF⟩
theorem main_1_2 : Claimed_1_2 := comes_1 fun _ _ _ _ _ _ h hF => ⟨h.2.1, hF⟩
end Jvm.Pilot.@@N@@
namespace Jvm.Pilot.@@N@@
open Jvm Jvm.ClassFile Sem Op Lib Jvm.Free Jvm.Stand Jvm.Pilot.@@N@@.Jvm.D
/-! MADE BY PROGRAM (witnessworld.py) out of the Statement's table words and the real class files: 10 classes; the members and pool entries that the words name. The judged class is class 1, her method 1. -/
namespace start1
open Jvm.ClassFile
def u (s : String) : CpInfo := .utf8 (stringToUtf16 s)
/-- a pool by its gaps: so many unusable entries, then the entry; so many at the end -/
def gap : Nat → List CpInfo → List CpInfo
  | 0, r => r
  | n + 1, r => .unusable :: gap n r
def poolList (es : List (Nat × CpInfo)) (last : Nat) : List CpInfo := es.foldr (fun e r => gap e.1 (e.2 :: r)) (gap last [])
def pool (es : List (Nat × CpInfo)) (last : Nat) : Array CpInfo := ⟨poolList es last⟩
def fileOf (pool : Array CpInfo) (this : Nat) (attrs : Array Attribute := #[]) (ms : Array MethodInfo := #[]) (fl : Nat := 33) (sup : Nat := 0) (ifs : Array Nat := #[]) (fds : Array FieldInfo := #[]) : ClassFile where
  minorVersion := 0
  majorVersion := 65
  constantPool := pool
  accessFlags := fl
  thisClass := this
  superClass := sup
  interfaces := ifs
  fields := fds
  methods := ms
  attributes := attrs
def plain (name : String) (sup : Option ClassId) : Class where
  name := name
  kind := .ordinary
  loader := none
  accessFlags := 33
  super := sup
  interfaces := #[]
  cf := none
  fields := #[]
  methods := #[]
  instanceTypes := #[]
  staticTypes := #[]
  resolved := #[]
  callSites := []
  init := .initialized
  statics := none
  mirror := none

def pool0 : Array CpInfo := pool [(5, u "<init>"), (0, u "()V"), (1, .class_ 10), (1, u "java/lang/Object")] 113

def k0c0 : Code := { maxStack := 0, maxLocals := 1, code := object_method_1_code, exceptionTable := #[], attributes := #[] }
def k0m0 : Method := { name := "<init>", desc := "()V", sig := { parameters := [], returnType := none }, accessFlags := 1, code := some k0c0 }
/-- java/lang/Object -/
def k0 : Class := { plain "java/lang/Object" none with
  accessFlags := 33
  interfaces := #[]
  cf := some (fileOf pool0 8 #[] #[{ accessFlags := 1, nameIndex := 5, descriptorIndex := 6, attributes := #[] }] 33 0 #[] #[])
  fields := #[]
  methods := #[k0m0]
  instanceTypes := #[]
  staticTypes := #[]
  resolved := Array.replicate 124 none
  statics := none }

def pool1 : Array CpInfo := pool [(2, .class_ 4), (1, u "java/lang/Object"), (0, u "<init>"), (0, u "()V"), (0, .class_ 8), (0, u "com/example/antecedent/antecedent/clock/Tree"), (0, .methodref 7 10), (0, .nameAndType 5 11), (0, u "(I)V"), (0, .fieldref 7 13), (0, .nameAndType 14 15), (0, u "counts"), (0, u "[I"), (0, .fieldref 7 17), (0, .nameAndType 18 15), (0, u "parents"), (0, .fieldref 7 20), (0, .nameAndType 21 15), (0, u "attached"), (0, .methodref 7 23), (0, .nameAndType 24 25), (0, u "unview"), (0, u "([II)V"), (0, .methodref 27 28), (0, .class_ 29), (0, .nameAndType 30 31), (0, u "com/example/antecedent/antecedent/clock/TreeUnviewPinLaw"), (0, u "check"), (0, u "(Lcom/example/antecedent/antecedent/clock/Tree;II[II)Z"), (0, .fieldref 7 33), (0, .nameAndType 34 35), (0, u "room"), (0, u "I"), (2, u "law"), (0, u "(JJIIII)Z")] 4

def k1m0 : Method := { name := "<init>", desc := "()V", sig := { parameters := [], returnType := none }, accessFlags := 1, code := none }
def k1c1 : Code := { maxStack := 5, maxLocals := 18, code := code, exceptionTable := #[], attributes := #[] }
def k1m1 : Method := { name := "law", desc := "(JJIIII)Z", sig := { parameters := [.long, .long, .int, .int, .int, .int], returnType := some .boolean }, accessFlags := 9, code := some k1c1 }
def k1c2 : Code := { maxStack := 2, maxLocals := 8, code := method_3_code, exceptionTable := #[], attributes := #[] }
def k1m2 : Method := { name := "check", desc := "(Lcom/example/antecedent/antecedent/clock/Tree;II[II)Z", sig := { parameters := [(.object "com/example/antecedent/antecedent/clock/Tree"), .int, .int, (.array .int), .int], returnType := some .boolean }, accessFlags := 10, code := some k1c2 }
/-- com/example/antecedent/antecedent/clock/TreeUnviewPinLaw -/
def k1 : Class := { plain "com/example/antecedent/antecedent/clock/TreeUnviewPinLaw" (some 0) with
  accessFlags := 49
  interfaces := #[]
  cf := some (fileOf pool1 27 #[] #[{ accessFlags := 1, nameIndex := 5, descriptorIndex := 6, attributes := #[] }, { accessFlags := 9, nameIndex := 38, descriptorIndex := 39, attributes := #[] }, { accessFlags := 10, nameIndex := 30, descriptorIndex := 31, attributes := #[] }] 49 2 #[] #[])
  fields := #[]
  methods := #[k1m0, k1m1, k1m2]
  instanceTypes := #[]
  staticTypes := #[]
  resolved := Array.replicate 44 none
  statics := none }

def pool2 : Array CpInfo := pool [(1, .methodref 2 3), (0, .class_ 4), (0, .nameAndType 5 6), (0, u "java/lang/Object"), (0, u "<init>"), (0, u "()V"), (0, .fieldref 8 9), (0, .class_ 10), (0, .nameAndType 11 12), (0, u "com/example/antecedent/antecedent/clock/Tree"), (0, u "NO_LOG"), (0, u "[I"), (0, .fieldref 8 14), (0, .nameAndType 15 12), (0, u "liftedBases"), (0, .fieldref 8 17), (0, .nameAndType 18 12), (0, u "liftedCounts"), (0, .fieldref 8 20), (0, .nameAndType 21 12), (0, u "liftedParents"), (0, .fieldref 8 23), (0, .nameAndType 24 12), (0, u "liftedAttached"), (0, .fieldref 8 26), (0, .nameAndType 27 12), (0, u "earlierLifts"), (0, .fieldref 8 29), (0, .nameAndType 30 12), (0, u "lastLifts"), (0, .fieldref 8 32), (0, .nameAndType 33 12), (0, u "counts"), (0, .fieldref 8 35), (0, .nameAndType 36 12), (0, u "parents"), (0, .fieldref 8 38), (0, .nameAndType 39 12), (0, u "attached"), (0, .fieldref 8 41), (0, .nameAndType 42 12), (0, u "links"), (0, .methodref 8 44), (0, .nameAndType 45 46), (0, u "clear"), (0, u "(I)V"), (2, u "lifts"), (0, u "I"), (0, .fieldref 8 52), (0, .nameAndType 53 50), (0, u "version"), (0, .fieldref 8 55), (0, .nameAndType 56 57), (0, u "blendedFrom"), (0, u "Lcom/example/antecedent/antecedent/clock/Tree;"), (2, .long 2147483647), (1, .fieldref 8 63), (0, .nameAndType 64 50), (0, u "room"), (0, .long 3), (1, .long 2), (11, .class_ 81), (1, u "java/util/Arrays"), (6, .methodref 8 89), (0, .nameAndType 90 6), (0, u "change"), (0, .methodref 8 92), (0, .nameAndType 93 46), (0, u "ensure"), (0, .methodref 8 95), (0, .nameAndType 96 46), (0, u "widen"), (0, .methodref 79 98), (0, .nameAndType 99 100), (0, u "fill"), (0, u "([IIII)V"), (0, .fieldref 8 102), (0, .nameAndType 103 104), (0, u "listed"), (0, u "Z"), (0, .methodref 8 106), (0, .nameAndType 107 108), (0, u "record"), (0, u "(I)I"), (32, u "NONE"), (2, u "FIRST"), (1, u "NEXT"), (1, u "SLOT"), (1, u "LINKS"), (1, u "holders"), (0, u "reserve"), (0, u "J"), (0, u "blendedFromVersion"), (0, u "blendedRoot"), (0, u "blendedTop"), (0, u "blendedAbove"), (9, u "unview"), (0, u "([II)V")] 16

def k2c0 : Code := { maxStack := 3, maxLocals := 2, code := prog_8_method_1_code, exceptionTable := #[], attributes := #[] }
def k2m0 : Method := { name := "<init>", desc := "(I)V", sig := { parameters := [.int], returnType := none }, accessFlags := 0, code := some k2c0 }
def k2c1 : Code := { maxStack := 3, maxLocals := 1, code := prog_8_method_3_code, exceptionTable := #[], attributes := #[] }
def k2m1 : Method := { name := "change", desc := "()V", sig := { parameters := [], returnType := none }, accessFlags := 0, code := some k2c1 }
def k2c2 : Code := { maxStack := 8, maxLocals := 3, code := prog_8_method_4_code, exceptionTable := #[], attributes := #[] }
def k2m2 : Method := { name := "ensure", desc := "(I)V", sig := { parameters := [.int], returnType := none }, accessFlags := 0, code := some k2c2 }
def k2c3 : Code := { maxStack := 4, maxLocals := 2, code := prog_8_method_5_code, exceptionTable := #[], attributes := #[] }
def k2m3 : Method := { name := "clear", desc := "(I)V", sig := { parameters := [.int], returnType := none }, accessFlags := 0, code := some k2c3 }
def k2c4 : Code := { maxStack := 4, maxLocals := 2, code := prog_8_method_6_code, exceptionTable := #[], attributes := #[] }
def k2m4 : Method := { name := "widen", desc := "(I)V", sig := { parameters := [.int], returnType := none }, accessFlags := 0, code := some k2c4 }
def k2c5 : Code := { maxStack := 5, maxLocals := 5, code := prog_8_method_10_code, exceptionTable := #[], attributes := #[] }
def k2m5 : Method := { name := "unview", desc := "([II)V", sig := { parameters := [(.array .int), .int], returnType := none }, accessFlags := 0, code := some k2c5 }
def k2c6 : Code := { maxStack := 2, maxLocals := 1, code := prog_8_method_24_code, exceptionTable := #[], attributes := #[] }
def k2m6 : Method := { name := "record", desc := "(I)I", sig := { parameters := [.int], returnType := some .int }, accessFlags := 10, code := some k2c6 }
/-- com/example/antecedent/antecedent/clock/Tree -/
def k2 : Class := { plain "com/example/antecedent/antecedent/clock/Tree" (some 0) with
  accessFlags := 48
  interfaces := #[]
  cf := some (fileOf pool2 8 #[] #[{ accessFlags := 0, nameIndex := 5, descriptorIndex := 46, attributes := #[] }, { accessFlags := 0, nameIndex := 90, descriptorIndex := 6, attributes := #[] }, { accessFlags := 0, nameIndex := 93, descriptorIndex := 46, attributes := #[] }, { accessFlags := 0, nameIndex := 45, descriptorIndex := 46, attributes := #[] }, { accessFlags := 0, nameIndex := 96, descriptorIndex := 46, attributes := #[] }, { accessFlags := 0, nameIndex := 168, descriptorIndex := 169, attributes := #[] }, { accessFlags := 10, nameIndex := 107, descriptorIndex := 108, attributes := #[] }] 48 2 #[] #[{ accessFlags := 24, nameIndex := 141, descriptorIndex := 50, attributes := #[] }, { accessFlags := 26, nameIndex := 144, descriptorIndex := 50, attributes := #[] }, { accessFlags := 26, nameIndex := 146, descriptorIndex := 50, attributes := #[] }, { accessFlags := 26, nameIndex := 148, descriptorIndex := 50, attributes := #[] }, { accessFlags := 26, nameIndex := 150, descriptorIndex := 50, attributes := #[] }, { accessFlags := 26, nameIndex := 11, descriptorIndex := 12, attributes := #[] }, { accessFlags := 0, nameIndex := 64, descriptorIndex := 50, attributes := #[] }, { accessFlags := 0, nameIndex := 33, descriptorIndex := 12, attributes := #[] }, { accessFlags := 0, nameIndex := 36, descriptorIndex := 12, attributes := #[] }, { accessFlags := 0, nameIndex := 39, descriptorIndex := 12, attributes := #[] }, { accessFlags := 2, nameIndex := 42, descriptorIndex := 12, attributes := #[] }, { accessFlags := 0, nameIndex := 103, descriptorIndex := 104, attributes := #[] }, { accessFlags := 0, nameIndex := 49, descriptorIndex := 50, attributes := #[] }, { accessFlags := 2, nameIndex := 15, descriptorIndex := 12, attributes := #[] }, { accessFlags := 2, nameIndex := 18, descriptorIndex := 12, attributes := #[] }, { accessFlags := 2, nameIndex := 21, descriptorIndex := 12, attributes := #[] }, { accessFlags := 2, nameIndex := 24, descriptorIndex := 12, attributes := #[] }, { accessFlags := 2, nameIndex := 27, descriptorIndex := 12, attributes := #[] }, { accessFlags := 2, nameIndex := 30, descriptorIndex := 12, attributes := #[] }, { accessFlags := 0, nameIndex := 152, descriptorIndex := 50, attributes := #[] }, { accessFlags := 0, nameIndex := 153, descriptorIndex := 154, attributes := #[] }, { accessFlags := 0, nameIndex := 53, descriptorIndex := 50, attributes := #[] }, { accessFlags := 0, nameIndex := 56, descriptorIndex := 57, attributes := #[] }, { accessFlags := 0, nameIndex := 155, descriptorIndex := 50, attributes := #[] }, { accessFlags := 0, nameIndex := 156, descriptorIndex := 50, attributes := #[] }, { accessFlags := 0, nameIndex := 157, descriptorIndex := 50, attributes := #[] }, { accessFlags := 0, nameIndex := 158, descriptorIndex := 50, attributes := #[] }])
  fields := #[{ name := "NONE", type := .int, accessFlags := 24, slot := 0, constantValue := 0 }, { name := "FIRST", type := .int, accessFlags := 26, slot := 1, constantValue := 0 }, { name := "NEXT", type := .int, accessFlags := 26, slot := 2, constantValue := 0 }, { name := "SLOT", type := .int, accessFlags := 26, slot := 3, constantValue := 0 }, { name := "LINKS", type := .int, accessFlags := 26, slot := 4, constantValue := 0 }, { name := "NO_LOG", type := (.array .int), accessFlags := 26, slot := 5, constantValue := 0 }, { name := "room", type := .int, accessFlags := 0, slot := 0, constantValue := 0 }, { name := "counts", type := (.array .int), accessFlags := 0, slot := 1, constantValue := 0 }, { name := "parents", type := (.array .int), accessFlags := 0, slot := 2, constantValue := 0 }, { name := "attached", type := (.array .int), accessFlags := 0, slot := 3, constantValue := 0 }, { name := "links", type := (.array .int), accessFlags := 2, slot := 4, constantValue := 0 }, { name := "listed", type := .boolean, accessFlags := 0, slot := 5, constantValue := 0 }, { name := "lifts", type := .int, accessFlags := 0, slot := 6, constantValue := 0 }, { name := "liftedBases", type := (.array .int), accessFlags := 2, slot := 7, constantValue := 0 }, { name := "liftedCounts", type := (.array .int), accessFlags := 2, slot := 8, constantValue := 0 }, { name := "liftedParents", type := (.array .int), accessFlags := 2, slot := 9, constantValue := 0 }, { name := "liftedAttached", type := (.array .int), accessFlags := 2, slot := 10, constantValue := 0 }, { name := "earlierLifts", type := (.array .int), accessFlags := 2, slot := 11, constantValue := 0 }, { name := "lastLifts", type := (.array .int), accessFlags := 2, slot := 12, constantValue := 0 }, { name := "holders", type := .int, accessFlags := 0, slot := 13, constantValue := 0 }, { name := "reserve", type := .long, accessFlags := 0, slot := 14, constantValue := 0 }, { name := "version", type := .int, accessFlags := 0, slot := 15, constantValue := 0 }, { name := "blendedFrom", type := (.object "com/example/antecedent/antecedent/clock/Tree"), accessFlags := 0, slot := 16, constantValue := 0 }, { name := "blendedFromVersion", type := .int, accessFlags := 0, slot := 17, constantValue := 0 }, { name := "blendedRoot", type := .int, accessFlags := 0, slot := 18, constantValue := 0 }, { name := "blendedTop", type := .int, accessFlags := 0, slot := 19, constantValue := 0 }, { name := "blendedAbove", type := .int, accessFlags := 0, slot := 20, constantValue := 0 }]
  methods := #[k2m0, k2m1, k2m2, k2m3, k2m4, k2m5, k2m6]
  instanceTypes := #[.int, (.array .int), (.array .int), (.array .int), (.array .int), .boolean, .int, (.array .int), (.array .int), (.array .int), (.array .int), (.array .int), (.array .int), .int, .long, .int, (.object "com/example/antecedent/antecedent/clock/Tree"), .int, .int, .int, .int]
  staticTypes := #[.int, .int, .int, .int, .int, (.array .int)]
  resolved := Array.replicate 186 none
  statics := some 0 }

def pool3 : Array CpInfo := pool [(2, .class_ 4), (1, u "java/lang/Object"), (0, u "<init>"), (0, u "()V"), (5, u "([IIII)V"), (0, .methodref 14 15), (0, .class_ 16), (0, .nameAndType 17 18), (0, u "java/util/Arrays"), (0, u "rangeCheck"), (0, u "(III)V"), (55, .class_ 76), (1, u "java/util/Arrays$NaturalOrder"), (36, .class_ 115), (1, u "java/util/Arrays$LegacyMergeSort"), (1, u "Z"), (257, .class_ 376), (0, u "java/util/Arrays$ArrayList"), (68, u "$assertionsDisabled"), (269, u "MIN_ARRAY_SORT_GRAN"), (0, u "I"), (2, u "INSERTIONSORT_THRESHOLD"), (120, u "fill"), (134, .class_ 976), (0, u "java/util/Arrays$ArrayItr")] 52

def k3m0 : Method := { name := "<init>", desc := "()V", sig := { parameters := [], returnType := none }, accessFlags := 2, code := none }
def k3c1 : Code := { maxStack := 4, maxLocals := 3, code := jdk_65_method_30_code, exceptionTable := #[], attributes := #[] }
def k3m1 : Method := { name := "rangeCheck", desc := "(III)V", sig := { parameters := [.int, .int, .int], returnType := none }, accessFlags := 8, code := some k3c1 }
def k3c2 : Code := { maxStack := 3, maxLocals := 5, code := jdk_65_method_104_code, exceptionTable := #[], attributes := #[] }
def k3m2 : Method := { name := "fill", desc := "([IIII)V", sig := { parameters := [(.array .int), .int, .int, .int], returnType := none }, accessFlags := 9, code := some k3c2 }
/-- java/util/Arrays -/
def k3 : Class := { plain "java/util/Arrays" (some 0) with
  accessFlags := 49
  interfaces := #[]
  cf := some (fileOf pool3 14 #[.nestMembers #[975, 375, 113, 74]] #[{ accessFlags := 2, nameIndex := 5, descriptorIndex := 6, attributes := #[] }, { accessFlags := 8, nameIndex := 17, descriptorIndex := 18, attributes := #[] }, { accessFlags := 9, nameIndex := 840, descriptorIndex := 12, attributes := #[] }] 49 2 #[] #[{ accessFlags := 26, nameIndex := 715, descriptorIndex := 716, attributes := #[] }, { accessFlags := 26, nameIndex := 719, descriptorIndex := 716, attributes := #[] }, { accessFlags := 4120, nameIndex := 445, descriptorIndex := 117, attributes := #[] }])
  fields := #[{ name := "MIN_ARRAY_SORT_GRAN", type := .int, accessFlags := 26, slot := 0, constantValue := 0 }, { name := "INSERTIONSORT_THRESHOLD", type := .int, accessFlags := 26, slot := 1, constantValue := 0 }, { name := "$assertionsDisabled", type := .boolean, accessFlags := 4120, slot := 2, constantValue := 0 }]
  methods := #[k3m0, k3m1, k3m2]
  instanceTypes := #[]
  staticTypes := #[.int, .int, .boolean]
  resolved := Array.replicate 1029 none
  statics := none }

def pool4 : Array CpInfo := pool [(1, u "java/lang/Cloneable"), (0, .class_ 1), (0, u "java/lang/Object"), (0, .class_ 3)] 3

/-- java/lang/Cloneable -/
def k4 : Class := { plain "java/lang/Cloneable" (some 0) with
  accessFlags := 1537
  interfaces := #[]
  cf := some (fileOf pool4 2 #[] #[] 1537 4 #[] #[])
  fields := #[]
  methods := #[]
  instanceTypes := #[]
  staticTypes := #[]
  resolved := Array.replicate 8 none
  statics := none }

def pool5 : Array CpInfo := pool [(1, u "java/io/Serializable"), (0, .class_ 1), (0, u "java/lang/Object"), (0, .class_ 3)] 3

/-- java/io/Serializable -/
def k5 : Class := { plain "java/io/Serializable" (some 0) with
  accessFlags := 1537
  interfaces := #[]
  cf := some (fileOf pool5 2 #[] #[] 1537 4 #[] #[])
  fields := #[]
  methods := #[]
  instanceTypes := #[]
  staticTypes := #[]
  resolved := Array.replicate 8 none
  statics := none }

/-- the primitive byte -/
def k6 : Class := { plain "byte" none with kind := .primitive 'B', accessFlags := 0x411 }
/-- [B -/
def k7 : Class := { plain "[B" (some 0) with kind := .array 6 .byte, interfaces := #[4, 5], accessFlags := 1041 }

/-- the primitive int -/
def k8 : Class := { plain "int" none with kind := .primitive 'I', accessFlags := 0x411 }
/-- [I -/
def k9 : Class := { plain "[I" (some 0) with kind := .array 8 .int, interfaces := #[4, 5], accessFlags := 1041 }

def heap : Heap := #[{ cls := 2, slots := #[.int 0, .int 0, .int 0, .int 0, .int 0, .ref 1], vm := .statics 2 },
  { cls := 9, slots := #[], vm := .none }]
def classes : Array Class := #[k0, k1, k2, k3, k4, k5, k6, k7, k8, k9]
def interned : List (Array UInt16 × Addr) := []
def slotsUsed : Nat := 6
def theMethod : MethodId := ⟨1, 1⟩
def args0 : Array Value := #[.long 11, .long 5, .int 1, .int 2, .int 6, .int 9]
def aboutOver (below : List Frame) : State where
  vm := { classes := classes, interned := interned.toArray }
  heap := heap
  slotsUsed := slotsUsed
  threads := #[{ frames := .invoking theMethod args0 :: below }]
def below0 : List Frame := [.native { method := ⟨0, 0⟩, args := #[] }]
def about1 : State := aboutOver below0
def p0 : Program := .bare "" "" ""
def e0 : Env := launch0.env 0 0 0
theorem w_frames : about1.frames = Frame.invoking theMethod args0 :: below0 := rfl
set_option maxRecDepth 65536 in
theorem w_args : argsFit about1.vm theMethod args0 = true := by decide +kernel
set_option maxRecDepth 65536 in
theorem w_heap : heapFits about1 = true := by decide +kernel
set_option maxRecDepth 65536 in
theorem w_runnable : about1.curStatus? = some .runnable := by decide +kernel
set_option maxRecDepth 65536 in
theorem w_alone : about1.alone = true := by decide +kernel
set_option maxRecDepth 65536 in
theorem w_named : about1.methodNamed? x = some theMethod := by decide +kernel
set_option maxRecDepth 65536 in
theorem w_hears : about1.hears theMethod below0 = true := by decide +kernel
set_option maxRecDepth 65536 in
theorem w_ripe : about1.ripe theMethod args0 below0 = true := by decide +kernel
theorem w_running : about1.status = .running := rfl
set_option maxRecDepth 65536 in
theorem w_room : about1.hasRoom e0.platform room_1 = true :=
  launch0.hasRoom_least _ room_1 (by decide +kernel) (by decide +kernel) (by decide +kernel) (by decide +kernel) (by decide +kernel) (by decide +kernel)
theorem allAtoms_all (ts : List Jvm.Cond) (a : Array Jvm.Value) (st : Jvm.State) : (allAtoms ts).before a st = ts.all (fun c => c.before a st) := by
  induction ts with
  | nil => rfl
  | cons c t ih =>
    show (Jvm.Cond.and c (allAtoms t)).before a st = _
    rw [Jvm.Cond.before_and, ih, List.all_cons]
def words1 : List Jvm.Cond := Jvm.Cond.code x code maxLocals ret :: tables_1
/-- a 'code' word, met by the world's own term for the bytes: nothing is compared byte by byte -/
theorem code_word {y : MethodName} {bytes : ByteArray} {mx : Nat} {rt : Option FieldType} {a : Array Value} {s : State} {m : MethodId} {meth : Method} {c : Code} (h1 : s.methodNamed? y = some m) (h2 : s.vm.method? m = some meth) (h3 : meth.code = some c) (h4 : c.code = bytes)
    (h5 : (c.maxLocals == mx && c.exceptionTable.isEmpty && decide (c.maxStack ≤ mostOperands) && decide (meth.sig.returnType = rt) && !meth.locks && decide (parseMethodDescriptor y.desc = some meth.sig)) = true) : (Jvm.Cond.code y bytes mx rt).before a s = true := by
  simp only [Bool.and_eq_true, beq_iff_eq, Bool.not_eq_true', decide_eq_true_eq] at h5
  obtain ⟨⟨⟨⟨⟨g1, g2⟩, g3⟩, g4⟩, g5⟩, g6⟩ := h5
  simp [Cond.before, Cond.holds, Cond.value, h1, h2, h3, h4, g1, g2, g3, g4, g5, g6]
def isCode : Jvm.Cond → Bool
  | .code _ _ _ _ => true
  | _ => false
theorem all_split {L : List Jvm.Cond} {P : Jvm.Cond → Bool} (h1 : L.all (fun c => isCode c || P c) = true) (h2 : ∀ c ∈ L.filter isCode, P c = true) : L.all P = true := by
  refine List.all_eq_true.mpr fun c hc => ?_
  have h := List.all_eq_true.mp h1 c hc
  rcases Bool.eq_false_or_eq_true (isCode c) with hi | hi
  · exact h2 c (List.mem_filter.mpr ⟨hc, hi⟩)
  · simpa [hi] using h
set_option maxRecDepth 65536 in
theorem w_c0 : (Jvm.Cond.code x code maxLocals ret).before args0 about1 = true := code_word (m := ⟨1, 1⟩) (meth := k1m1) (c := k1c1) (by decide +kernel) rfl rfl rfl (by decide +kernel)
set_option maxRecDepth 65536 in
theorem w_c1 : (Jvm.Cond.code ({ cls := "com/example/antecedent/antecedent/clock/Tree", name := "<init>", desc := "(I)V" } : Jvm.MethodName) prog_8_method_1_code (2 : Nat) (Option.none : Option Jvm.ClassFile.FieldType)).before args0 about1 = true := code_word (m := ⟨2, 0⟩) (meth := k2m0) (c := k2c0) (by decide +kernel) rfl rfl rfl (by decide +kernel)
set_option maxRecDepth 65536 in
theorem w_c2 : (Jvm.Cond.code ({ cls := "java/lang/Object", name := "<init>", desc := "()V" } : Jvm.MethodName) object_method_1_code (1 : Nat) (Option.none : Option Jvm.ClassFile.FieldType)).before args0 about1 = true := code_word (m := ⟨0, 0⟩) (meth := k0m0) (c := k0c0) (by decide +kernel) rfl rfl rfl (by decide +kernel)
set_option maxRecDepth 65536 in
theorem w_c3 : (Jvm.Cond.code ({ cls := "com/example/antecedent/antecedent/clock/Tree", name := "clear", desc := "(I)V" } : Jvm.MethodName) prog_8_method_5_code (2 : Nat) (Option.none : Option Jvm.ClassFile.FieldType)).before args0 about1 = true := code_word (m := ⟨2, 3⟩) (meth := k2m3) (c := k2c3) (by decide +kernel) rfl rfl rfl (by decide +kernel)
set_option maxRecDepth 65536 in
theorem w_c4 : (Jvm.Cond.code ({ cls := "com/example/antecedent/antecedent/clock/Tree", name := "change", desc := "()V" } : Jvm.MethodName) prog_8_method_3_code (1 : Nat) (Option.none : Option Jvm.ClassFile.FieldType)).before args0 about1 = true := code_word (m := ⟨2, 1⟩) (meth := k2m1) (c := k2c1) (by decide +kernel) rfl rfl rfl (by decide +kernel)
set_option maxRecDepth 65536 in
theorem w_c5 : (Jvm.Cond.code ({ cls := "com/example/antecedent/antecedent/clock/Tree", name := "ensure", desc := "(I)V" } : Jvm.MethodName) prog_8_method_4_code (3 : Nat) (Option.none : Option Jvm.ClassFile.FieldType)).before args0 about1 = true := code_word (m := ⟨2, 2⟩) (meth := k2m2) (c := k2c2) (by decide +kernel) rfl rfl rfl (by decide +kernel)
set_option maxRecDepth 65536 in
theorem w_c6 : (Jvm.Cond.code ({ cls := "com/example/antecedent/antecedent/clock/Tree", name := "widen", desc := "(I)V" } : Jvm.MethodName) prog_8_method_6_code (2 : Nat) (Option.none : Option Jvm.ClassFile.FieldType)).before args0 about1 = true := code_word (m := ⟨2, 4⟩) (meth := k2m4) (c := k2c4) (by decide +kernel) rfl rfl rfl (by decide +kernel)
set_option maxRecDepth 65536 in
theorem w_c7 : (Jvm.Cond.code ({ cls := "java/util/Arrays", name := "fill", desc := "([IIII)V" } : Jvm.MethodName) jdk_65_method_104_code (5 : Nat) (Option.none : Option Jvm.ClassFile.FieldType)).before args0 about1 = true := code_word (m := ⟨3, 2⟩) (meth := k3m2) (c := k3c2) (by decide +kernel) rfl rfl rfl (by decide +kernel)
set_option maxRecDepth 65536 in
theorem w_c8 : (Jvm.Cond.code ({ cls := "java/util/Arrays", name := "rangeCheck", desc := "(III)V" } : Jvm.MethodName) jdk_65_method_30_code (3 : Nat) (Option.none : Option Jvm.ClassFile.FieldType)).before args0 about1 = true := code_word (m := ⟨3, 1⟩) (meth := k3m1) (c := k3c1) (by decide +kernel) rfl rfl rfl (by decide +kernel)
set_option maxRecDepth 65536 in
theorem w_c9 : (Jvm.Cond.code ({ cls := "com/example/antecedent/antecedent/clock/Tree", name := "record", desc := "(I)I" } : Jvm.MethodName) prog_8_method_24_code (1 : Nat) (Option.some Jvm.ClassFile.FieldType.int)).before args0 about1 = true := code_word (m := ⟨2, 6⟩) (meth := k2m6) (c := k2c6) (by decide +kernel) rfl rfl rfl (by decide +kernel)
set_option maxRecDepth 65536 in
theorem w_c10 : (Jvm.Cond.code ({ cls := "com/example/antecedent/antecedent/clock/Tree", name := "unview", desc := "([II)V" } : Jvm.MethodName) prog_8_method_10_code (5 : Nat) (Option.none : Option Jvm.ClassFile.FieldType)).before args0 about1 = true := code_word (m := ⟨2, 5⟩) (meth := k2m5) (c := k2c5) (by decide +kernel) rfl rfl rfl (by decide +kernel)
set_option maxRecDepth 65536 in
theorem w_c11 : (Jvm.Cond.code ({ cls := "com/example/antecedent/antecedent/clock/TreeUnviewPinLaw", name := "check", desc := "(Lcom/example/antecedent/antecedent/clock/Tree;II[II)Z" } : Jvm.MethodName) method_3_code (8 : Nat) (Option.some Jvm.ClassFile.FieldType.boolean)).before args0 about1 = true := code_word (m := ⟨1, 2⟩) (meth := k1m2) (c := k1c2) (by decide +kernel) rfl rfl rfl (by decide +kernel)
def codes1 : List Jvm.Cond := [Jvm.Cond.code x code maxLocals ret, Jvm.Cond.code ({ cls := "com/example/antecedent/antecedent/clock/Tree", name := "<init>", desc := "(I)V" } : Jvm.MethodName) prog_8_method_1_code (2 : Nat) (Option.none : Option Jvm.ClassFile.FieldType), Jvm.Cond.code ({ cls := "java/lang/Object", name := "<init>", desc := "()V" } : Jvm.MethodName) object_method_1_code (1 : Nat) (Option.none : Option Jvm.ClassFile.FieldType), Jvm.Cond.code ({ cls := "com/example/antecedent/antecedent/clock/Tree", name := "clear", desc := "(I)V" } : Jvm.MethodName) prog_8_method_5_code (2 : Nat) (Option.none : Option Jvm.ClassFile.FieldType), Jvm.Cond.code ({ cls := "com/example/antecedent/antecedent/clock/Tree", name := "change", desc := "()V" } : Jvm.MethodName) prog_8_method_3_code (1 : Nat) (Option.none : Option Jvm.ClassFile.FieldType), Jvm.Cond.code ({ cls := "com/example/antecedent/antecedent/clock/Tree", name := "ensure", desc := "(I)V" } : Jvm.MethodName) prog_8_method_4_code (3 : Nat) (Option.none : Option Jvm.ClassFile.FieldType), Jvm.Cond.code ({ cls := "com/example/antecedent/antecedent/clock/Tree", name := "widen", desc := "(I)V" } : Jvm.MethodName) prog_8_method_6_code (2 : Nat) (Option.none : Option Jvm.ClassFile.FieldType), Jvm.Cond.code ({ cls := "java/util/Arrays", name := "fill", desc := "([IIII)V" } : Jvm.MethodName) jdk_65_method_104_code (5 : Nat) (Option.none : Option Jvm.ClassFile.FieldType), Jvm.Cond.code ({ cls := "java/util/Arrays", name := "rangeCheck", desc := "(III)V" } : Jvm.MethodName) jdk_65_method_30_code (3 : Nat) (Option.none : Option Jvm.ClassFile.FieldType), Jvm.Cond.code ({ cls := "com/example/antecedent/antecedent/clock/Tree", name := "record", desc := "(I)I" } : Jvm.MethodName) prog_8_method_24_code (1 : Nat) (Option.some Jvm.ClassFile.FieldType.int), Jvm.Cond.code ({ cls := "com/example/antecedent/antecedent/clock/Tree", name := "unview", desc := "([II)V" } : Jvm.MethodName) prog_8_method_10_code (5 : Nat) (Option.none : Option Jvm.ClassFile.FieldType), Jvm.Cond.code ({ cls := "com/example/antecedent/antecedent/clock/TreeUnviewPinLaw", name := "check", desc := "(Lcom/example/antecedent/antecedent/clock/Tree;II[II)Z" } : Jvm.MethodName) method_3_code (8 : Nat) (Option.some Jvm.ClassFile.FieldType.boolean)]
set_option maxRecDepth 65536 in
theorem codes_eq : words1.filter isCode = codes1 := rfl
theorem w_codes : ∀ c ∈ words1.filter isCode, c.before args0 about1 = true := by
  rw [codes_eq]
  intro c hc
  simp only [codes1, List.mem_cons, List.not_mem_nil, or_false] at hc
  rcases hc with rfl | rfl | rfl | rfl | rfl | rfl | rfl | rfl | rfl | rfl | rfl | rfl
  · exact w_c0
  · exact w_c1
  · exact w_c2
  · exact w_c3
  · exact w_c4
  · exact w_c5
  · exact w_c6
  · exact w_c7
  · exact w_c8
  · exact w_c9
  · exact w_c10
  · exact w_c11
set_option maxRecDepth 65536 in
theorem w_t1 : (words1.take 24).all (fun c => isCode c || c.before args0 about1) = true := by decide +kernel
set_option maxRecDepth 65536 in
theorem w_t2 : ((words1.drop 24).take 24).all (fun c => isCode c || c.before args0 about1) = true := by decide +kernel
set_option maxRecDepth 65536 in
theorem w_t3 : (((words1.drop 24).drop 24).take 24).all (fun c => isCode c || c.before args0 about1) = true := by decide +kernel
set_option maxRecDepth 65536 in
theorem w_t4 : (((words1.drop 24).drop 24).drop 24).all (fun c => isCode c || c.before args0 about1) = true := by decide +kernel
theorem w_tables : (allAtoms (Jvm.Cond.code x code maxLocals ret :: tables_1)).before args0 about1 = true := by
  rw [allAtoms_all]
  show words1.all (fun c => c.before args0 about1) = true
  refine all_split ?_ w_codes
  rw [← List.take_append_drop 24 words1, List.all_append, w_t1, ← List.take_append_drop 24 (words1.drop 24), List.all_append, w_t2, ← List.take_append_drop 24 ((words1.drop 24).drop 24), List.all_append, w_t3, w_t4]
  rfl
set_option maxRecDepth 65536 in
theorem w_case : (Jvm.Cond.and given_1 narrow_1).before args0 about1 = true := by decide +kernel
theorem w_applies : (headSpec (Jvm.Cond.code x code maxLocals ret :: tables_1) room_1).applies x e0.platform about1 = true :=
  (Spec.applies_iff w_frames).mpr ⟨w_running, w_runnable, w_alone, w_named, w_hears, w_ripe, w_room, w_tables⟩
theorem atStart : AtStart classFile x code maxLocals ret World_1 tables_1 room_1 Calls_1 rest_1 Pre_1 launch0 p0 e0 about1 theMethod args0 below0 :=
  ⟨lists_1, trivial, launch0.admits_env _ _ _, launch0.least_env, fairChoices_fair.cas, fairChoices_fair.clock, w_frames, w_args, w_heap, w_applies, trivial, trivial, w_case⟩
end start1
theorem witness_1 : WitnessClaimed_1 := ⟨start1.p0, start1.e0, start1.about1, start1.theMethod, start1.args0, start1.below0, start1.atStart⟩
end Jvm.Pilot.@@N@@
