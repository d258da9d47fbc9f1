import JvmDerived
import JvmDerived.Pilot.@@N@@Statement
import JvmDerived.Pilot.@@N@@Code
set_option linter.unusedVariables false
set_option linter.unusedSimpArgs false
@@BLOCK:NumsL.lean.txt@@
namespace Jvm.Pilot.@@N@@
open Jvm Jvm.ClassFile Sem Op Lib Jvm.Free Jvm.Stand Jvm.LawKit Jvm.RoadKit Bundle Jvm.Pilot.@@N@@.Jvm.D
section GoKit
variable {p : Program} {l : Launch} {e : Env} {R : Room} {s : State} {m : MethodId} {args : Array Value} {below : List Frame} {meth : Method} {c : Code} {T : State} {Z : State} {own nm : String} {bytes : ByteArray} {mx : Nat} {rt : Option FieldType} {n0 k n : Nat} {h : Heap} {Q : Option Value → Heap → Prop} {CC NN : Nat} {a0 : Array Value} {Ls Ls' : Array Slot} {rest : List Value} {pc pc' : Nat}
/-- where a walk stands -/
def W (Z : State) (own nm : String) (bytes : ByteArray) (mx : Nat) (rt : Option FieldType) (n0 : Nat) (p : Program) (l : Launch) (e : Env) (R : Room) (s : State) (m : MethodId) (args : Array Value) (below : List Frame) (meth : Method) (c : Code) (k n : Nat) (T : State) (h : Heap) : Prop :=
  p.tables.exec = Jvm.exec ∧ c.code = bytes ∧ s.vm.findClass own = some m.cls ∧ Z.Warmed39 s.vm ∧ c.maxLocals = mx ∧ meth.name = nm ∧ meth.sig.returnType = rt ∧ meth.locks = false ∧ (∃ L, Stand p l e R s m args below meth c T L k n ∧ Fr n0 L) ∧ T.heap = h
/-- from this frame the method ends well -/
def Go (n0 : Nat) (p : Program) (e : Env) (below : List Frame) (s : State) (Q : Option Value → Heap → Prop) (CC NN : Nat) (T : State) (g : JFrame) : Prop :=
  ∃ s₂ o, Steps p.tables e below (T.setTop g) s₂ ∧ s₂.status = .running ∧ Ended s₂ below o ∧ ∃ v L, o = .returned v ∧ (Fr n0 L ∧ Q v s₂.heap) ∧ FrameEnd s o s₂ L CC NN
/-- a body's contract: of these arguments, at this heap -/
def Ctr (l : Launch) (y : MethodName) (yb : ByteArray) (ymx : Nat) (yr : Option FieldType) (rm : Room) (Z : State) (as : Array Value) (h0 : Heap) (n0 : Nat) (Q : Option Value → Heap → Prop) (ws : List Jvm.Cond) : Prop :=
  MetFree l y (head1 (Jvm.Cond.code y yb ymx yr :: ws) rm) (fun a U => a = as ∧ Z.Warmed39 U.vm ∧ U.heap = h0) (fun _ _ _ _ _ => True) (fun _ U o U' => ∃ v L, o = .returned v ∧ (Fr n0 L ∧ Q v U'.heap) ∧ FrameEnd U o U' L rm.cells rm.slots)
theorem metGo {y : MethodName} {rm : Room} {as : Array Value} {ws : List Jvm.Cond} (hpn : plainFor y = true) (hef : ∀ m, entryFrame m as mx = mkF m 0 Ls [])
    (H : ∀ (p : Program) (e : Env) (s : State) (m : MethodId) (below : List Frame) (meth : Method) (c : Code) (T : State), W Z y.cls y.name bytes mx rt n0 p l e rm s m as below meth c 0 0 T h → Go n0 p e below s Q rm.cells rm.slots T (mkF m 0 Ls [])) : Ctr l y bytes mx rt rm Z as h n0 Q ws := by
  refine MetFree.of_bodySF hpn hisR ?_
  intro p e s m args below meth c s₁ Bd hml0 hP hK
  obtain ⟨rfl, hZ, hh⟩ := hP
  have e0 : s₁.heap = h := by rw [← hh, Bd.state]; rfl
  obtain ⟨s₂, o, st, r⟩ := H p e s m below meth c s₁ ⟨Bd.exec, Bd.bytes, findClass_of_methodNamed Bd.named, hZ, hml0, (name_of_methodNamed Bd.named Bd.method).1, Bd.returns, Bd.notSynchronized, ⟨[], Stand.of_body Bd, Fr.nil n0⟩, e0⟩
  exact ⟨s₂, o, castTop (hef m) st, r⟩
def cY : ClassFile.Cond → Int32 → Int32 → Prop
  | .eq, x, y => x = y
  | .ne, x, y => ¬ x = y
  | .lt, x, y => x < y
  | .ge, x, y => ¬ x < y
  | .gt, x, y => y < x
  | .le, x, y => ¬ y < x
def cN : ClassFile.Cond → Int32 → Int32 → Prop
  | .eq, x, y => ¬ x = y
  | .ne, x, y => x = y
  | .lt, x, y => ¬ x < y
  | .ge, x, y => x < y
  | .gt, x, y => ¬ y < x
  | .le, x, y => y < x
def lY : ClassFile.Cond → Int64 → Int64 → Prop
  | .eq, x, y => x = y
  | .ne, x, y => ¬ x = y
  | .lt, x, y => x < y
  | .ge, x, y => ¬ x < y
  | .gt, x, y => y < x
  | .le, x, y => ¬ y < x
def lN : ClassFile.Cond → Int64 → Int64 → Prop
  | .eq, x, y => ¬ x = y
  | .ne, x, y => x = y
  | .lt, x, y => ¬ x < y
  | .ge, x, y => x < y
  | .gt, x, y => ¬ y < x
  | .le, x, y => y < x
theorem c_or (cd : ClassFile.Cond) (x y : Int32) : (cY cd x y ∧ if_icmp.holds cd x y = true) ∨ (cN cd x y ∧ if_icmp.holds cd x y = false) := by
  cases cd
  · by_cases q : x = y
    · exact Or.inl ⟨q, (teq q).1⟩
    · exact Or.inr ⟨q, (feq q).1⟩
  · by_cases q : x = y
    · exact Or.inr ⟨q, (teq q).2⟩
    · exact Or.inl ⟨q, (feq q).2⟩
  · by_cases q : x < y
    · exact Or.inl ⟨q, (tlt q).1⟩
    · exact Or.inr ⟨q, (flt q).1⟩
  · by_cases q : x < y
    · exact Or.inr ⟨q, (tlt q).2.1⟩
    · exact Or.inl ⟨q, (flt q).2.1⟩
  · by_cases q : y < x
    · exact Or.inl ⟨q, (tlt q).2.2.1⟩
    · exact Or.inr ⟨q, (flt q).2.2.1⟩
  · by_cases q : y < x
    · exact Or.inr ⟨q, (tlt q).2.2.2⟩
    · exact Or.inl ⟨q, (flt q).2.2.2⟩
theorem lY_of (cd : ClassFile.Cond) (x y : Int64) (q : cY cd (lcmpW x y) 0) : lY cd x y := by
  cases cd
  · exact (lw_eq x y).mp q
  · exact fun r => q ((lw_eq x y).mpr r)
  · exact (lw_lt x y).mp q
  · exact fun r => q ((lw_lt x y).mpr r)
  · exact (lw_gt x y).mp q
  · exact fun r => q ((lw_gt x y).mpr r)
theorem lN_of (cd : ClassFile.Cond) (x y : Int64) (q : cN cd (lcmpW x y) 0) : lN cd x y := by
  cases cd
  · exact fun r => q ((lw_eq x y).mpr r)
  · exact (lw_eq x y).mp q
  · exact fun r => q ((lw_lt x y).mpr r)
  · exact (lw_lt x y).mp q
  · exact fun r => q ((lw_gt x y).mpr r)
  · exact (lw_gt x y).mp q

theorem giload (w : W Z own nm bytes mx rt n0 p l e R s m args below meth c k n T h) {j : Nat} {v : Int32} (hd : decode bytes pc = .ok (.iload j, 2)) (hl : Ls[j]? = some (.val (.int v))) (hp : pc + 2 = pc') (K : Go n0 p e below s Q CC NN T (mkF m pc' Ls (.int v :: rest))) : Go n0 p e below s Q CC NN T (mkF m pc Ls (rest)) := by
  obtain ⟨hx, hb, -, -, -, -, -, -, ⟨L, X, -⟩, -⟩ := w
  obtain ⟨s₂, o, st, r⟩ := K
  subst hp hb
  exact ⟨s₂, o, XS.iload X.here hx rfl hd hl st, r⟩
theorem giloadN (w : W Z own nm bytes mx rt n0 p l e R s m args below meth c k n T h) {j : Fin 4} {v : Int32} (hd : decode bytes pc = .ok (.iload_n j, 1)) (hl : Ls[j.val]? = some (.val (.int v))) (hp : pc + 1 = pc') (K : Go n0 p e below s Q CC NN T (mkF m pc' Ls (.int v :: rest))) : Go n0 p e below s Q CC NN T (mkF m pc Ls (rest)) := by
  obtain ⟨hx, hb, -, -, -, -, -, -, ⟨L, X, -⟩, -⟩ := w
  obtain ⟨s₂, o, st, r⟩ := K
  subst hp hb
  exact ⟨s₂, o, XS.iloadN X.here hx rfl hd hl st, r⟩
theorem glload (w : W Z own nm bytes mx rt n0 p l e R s m args below meth c k n T h) {j : Nat} {v : Int64} (hd : decode bytes pc = .ok (.lload j, 2)) (hl : Ls[j]? = some (.val (.long v))) (hp : pc + 2 = pc') (K : Go n0 p e below s Q CC NN T (mkF m pc' Ls (.long v :: rest))) : Go n0 p e below s Q CC NN T (mkF m pc Ls (rest)) := by
  obtain ⟨hx, hb, -, -, -, -, -, -, ⟨L, X, -⟩, -⟩ := w
  obtain ⟨s₂, o, st, r⟩ := K
  subst hp hb
  exact ⟨s₂, o, XS.lload X.here hx rfl hd hl st, r⟩
theorem glloadN (w : W Z own nm bytes mx rt n0 p l e R s m args below meth c k n T h) {j : Fin 4} {v : Int64} (hd : decode bytes pc = .ok (.lload_n j, 1)) (hl : Ls[j.val]? = some (.val (.long v))) (hp : pc + 1 = pc') (K : Go n0 p e below s Q CC NN T (mkF m pc' Ls (.long v :: rest))) : Go n0 p e below s Q CC NN T (mkF m pc Ls (rest)) := by
  obtain ⟨hx, hb, -, -, -, -, -, -, ⟨L, X, -⟩, -⟩ := w
  obtain ⟨s₂, o, st, r⟩ := K
  subst hp hb
  exact ⟨s₂, o, XS.lloadN X.here hx rfl hd hl st, r⟩
theorem gaload (w : W Z own nm bytes mx rt n0 p l e R s m args below meth c k n T h) {j : Nat} {v : Value} (hd : decode bytes pc = .ok (.aload j, 2)) (hl : Ls[j]? = some (.val v)) (hv : v.isRef = true) (hp : pc + 2 = pc') (K : Go n0 p e below s Q CC NN T (mkF m pc' Ls (v :: rest))) : Go n0 p e below s Q CC NN T (mkF m pc Ls (rest)) := by
  obtain ⟨hx, hb, -, -, -, -, -, -, ⟨L, X, -⟩, -⟩ := w
  obtain ⟨s₂, o, st, r⟩ := K
  subst hp hb
  exact ⟨s₂, o, XS.aload X.here hx rfl hd hl hv st, r⟩
theorem galoadN (w : W Z own nm bytes mx rt n0 p l e R s m args below meth c k n T h) {j : Fin 4} {v : Value} (hd : decode bytes pc = .ok (.aload_n j, 1)) (hl : Ls[j.val]? = some (.val v)) (hv : v.isRef = true) (hp : pc + 1 = pc') (K : Go n0 p e below s Q CC NN T (mkF m pc' Ls (v :: rest))) : Go n0 p e below s Q CC NN T (mkF m pc Ls (rest)) := by
  obtain ⟨hx, hb, -, -, -, -, -, -, ⟨L, X, -⟩, -⟩ := w
  obtain ⟨s₂, o, st, r⟩ := K
  subst hp hb
  exact ⟨s₂, o, XS.aloadN X.here hx rfl hd hl hv st, r⟩
theorem gistore (w : W Z own nm bytes mx rt n0 p l e R s m args below meth c k n T h) {j : Nat} {v : Int32} (hd : decode bytes pc = .ok (.istore j, 2)) (hl : storeLocals Ls j (.int v) = some Ls') (hp : pc + 2 = pc') (K : Go n0 p e below s Q CC NN T (mkF m pc' Ls' (rest))) : Go n0 p e below s Q CC NN T (mkF m pc Ls (.int v :: rest)) := by
  obtain ⟨hx, hb, -, -, -, -, -, -, ⟨L, X, -⟩, -⟩ := w
  obtain ⟨s₂, o, st, r⟩ := K
  subst hp hb
  exact ⟨s₂, o, XS.istore X.here hx rfl hd rfl hl st, r⟩
theorem gistoreN (w : W Z own nm bytes mx rt n0 p l e R s m args below meth c k n T h) {j : Fin 4} {v : Int32} (hd : decode bytes pc = .ok (.istore_n j, 1)) (hl : storeLocals Ls j.val (.int v) = some Ls') (hp : pc + 1 = pc') (K : Go n0 p e below s Q CC NN T (mkF m pc' Ls' (rest))) : Go n0 p e below s Q CC NN T (mkF m pc Ls (.int v :: rest)) := by
  obtain ⟨hx, hb, -, -, -, -, -, -, ⟨L, X, -⟩, -⟩ := w
  obtain ⟨s₂, o, st, r⟩ := K
  subst hp hb
  exact ⟨s₂, o, XS.istoreN X.here hx rfl hd rfl hl st, r⟩
theorem glstore (w : W Z own nm bytes mx rt n0 p l e R s m args below meth c k n T h) {j : Nat} {v : Int64} (hd : decode bytes pc = .ok (.lstore j, 2)) (hl : storeLocals Ls j (.long v) = some Ls') (hp : pc + 2 = pc') (K : Go n0 p e below s Q CC NN T (mkF m pc' Ls' (rest))) : Go n0 p e below s Q CC NN T (mkF m pc Ls (.long v :: rest)) := by
  obtain ⟨hx, hb, -, -, -, -, -, -, ⟨L, X, -⟩, -⟩ := w
  obtain ⟨s₂, o, st, r⟩ := K
  subst hp hb
  exact ⟨s₂, o, XS.lstore X.here hx rfl hd rfl hl st, r⟩
theorem glstoreN (w : W Z own nm bytes mx rt n0 p l e R s m args below meth c k n T h) {j : Fin 4} {v : Int64} (hd : decode bytes pc = .ok (.lstore_n j, 1)) (hl : storeLocals Ls j.val (.long v) = some Ls') (hp : pc + 1 = pc') (K : Go n0 p e below s Q CC NN T (mkF m pc' Ls' (rest))) : Go n0 p e below s Q CC NN T (mkF m pc Ls (.long v :: rest)) := by
  obtain ⟨hx, hb, -, -, -, -, -, -, ⟨L, X, -⟩, -⟩ := w
  obtain ⟨s₂, o, st, r⟩ := K
  subst hp hb
  exact ⟨s₂, o, XS.lstoreN X.here hx rfl hd rfl hl st, r⟩
theorem gastore (w : W Z own nm bytes mx rt n0 p l e R s m args below meth c k n T h) {j : Nat} {v : Value} (hd : decode bytes pc = .ok (.astore j, 2)) (hv : v.isRef = true) (hl : storeLocals Ls j v = some Ls') (hp : pc + 2 = pc') (K : Go n0 p e below s Q CC NN T (mkF m pc' Ls' (rest))) : Go n0 p e below s Q CC NN T (mkF m pc Ls (v :: rest)) := by
  obtain ⟨hx, hb, -, -, -, -, -, -, ⟨L, X, -⟩, -⟩ := w
  obtain ⟨s₂, o, st, r⟩ := K
  subst hp hb
  exact ⟨s₂, o, XS.astore X.here hx rfl hd rfl hv hl st, r⟩
theorem gastoreN (w : W Z own nm bytes mx rt n0 p l e R s m args below meth c k n T h) {j : Fin 4} {v : Value} (hd : decode bytes pc = .ok (.astore_n j, 1)) (hv : v.isRef = true) (hl : storeLocals Ls j.val v = some Ls') (hp : pc + 1 = pc') (K : Go n0 p e below s Q CC NN T (mkF m pc' Ls' (rest))) : Go n0 p e below s Q CC NN T (mkF m pc Ls (v :: rest)) := by
  obtain ⟨hx, hb, -, -, -, -, -, -, ⟨L, X, -⟩, -⟩ := w
  obtain ⟨s₂, o, st, r⟩ := K
  subst hp hb
  exact ⟨s₂, o, XS.astoreN X.here hx rfl hd rfl hv hl st, r⟩
theorem giinc (w : W Z own nm bytes mx rt n0 p l e R s m args below meth c k n T h) {j : Nat} {i : Int} {v : Int32} (hd : decode bytes pc = .ok (.iinc j i, 3)) (hl : Ls[j]? = some (.val (.int v))) (hl' : storeLocals Ls j (.int (v + Int32.ofInt i)) = some Ls') (hp : pc + 3 = pc') (K : Go n0 p e below s Q CC NN T (mkF m pc' Ls' (rest))) : Go n0 p e below s Q CC NN T (mkF m pc Ls (rest)) := by
  obtain ⟨hx, hb, -, -, -, -, -, -, ⟨L, X, -⟩, -⟩ := w
  obtain ⟨s₂, o, st, r⟩ := K
  subst hp hb
  exact ⟨s₂, o, XS.iinc X.here hx rfl hd hl hl' st, r⟩
theorem giconst (w : W Z own nm bytes mx rt n0 p l e R s m args below meth c k n T h) {i : Int} {v : Int32} (hd : decode bytes pc = .ok (.iconst i, 1)) (hv : Int32.ofInt i = v) (hp : pc + 1 = pc') (K : Go n0 p e below s Q CC NN T (mkF m pc' Ls (.int v :: rest))) : Go n0 p e below s Q CC NN T (mkF m pc Ls (rest)) := by
  obtain ⟨hx, hb, -, -, -, -, -, -, ⟨L, X, -⟩, -⟩ := w
  obtain ⟨s₂, o, st, r⟩ := K
  subst hp hb hv
  exact ⟨s₂, o, XS.iconst X.here hx rfl hd st, r⟩
theorem gbipush (w : W Z own nm bytes mx rt n0 p l e R s m args below meth c k n T h) {i : Int} {v : Int32} (hd : decode bytes pc = .ok (.bipush i, 2)) (hv : (Int8.ofInt i).toInt32 = v) (hp : pc + 2 = pc') (K : Go n0 p e below s Q CC NN T (mkF m pc' Ls (.int v :: rest))) : Go n0 p e below s Q CC NN T (mkF m pc Ls (rest)) := by
  obtain ⟨hx, hb, -, -, -, -, -, -, ⟨L, X, -⟩, -⟩ := w
  obtain ⟨s₂, o, st, r⟩ := K
  subst hp hb hv
  exact ⟨s₂, o, XS.bipush X.here hx rfl hd st, r⟩
theorem gsipush (w : W Z own nm bytes mx rt n0 p l e R s m args below meth c k n T h) {i : Int} {v : Int32} (hd : decode bytes pc = .ok (.sipush i, 3)) (hv : (Int16.ofInt i).toInt32 = v) (hp : pc + 3 = pc') (K : Go n0 p e below s Q CC NN T (mkF m pc' Ls (.int v :: rest))) : Go n0 p e below s Q CC NN T (mkF m pc Ls (rest)) := by
  obtain ⟨hx, hb, -, -, -, -, -, -, ⟨L, X, -⟩, -⟩ := w
  obtain ⟨s₂, o, st, r⟩ := K
  subst hp hb hv
  exact ⟨s₂, o, XS.sipush X.here hx rfl hd st, r⟩
theorem glconst (w : W Z own nm bytes mx rt n0 p l e R s m args below meth c k n T h) {i : Fin 2} {v : Int64} (hd : decode bytes pc = .ok (.lconst i, 1)) (hv : Int64.ofNat i = v) (hp : pc + 1 = pc') (K : Go n0 p e below s Q CC NN T (mkF m pc' Ls (.long v :: rest))) : Go n0 p e below s Q CC NN T (mkF m pc Ls (rest)) := by
  obtain ⟨hx, hb, -, -, -, -, -, -, ⟨L, X, -⟩, -⟩ := w
  obtain ⟨s₂, o, st, r⟩ := K
  subst hp hb hv
  exact ⟨s₂, o, XS.lconst X.here hx rfl hd st, r⟩
theorem gnull (w : W Z own nm bytes mx rt n0 p l e R s m args below meth c k n T h) (hd : decode bytes pc = .ok (.aconst_null, 1)) (hp : pc + 1 = pc') (K : Go n0 p e below s Q CC NN T (mkF m pc' Ls (.null :: rest))) : Go n0 p e below s Q CC NN T (mkF m pc Ls (rest)) := by
  obtain ⟨hx, hb, -, -, -, -, -, -, ⟨L, X, -⟩, -⟩ := w
  obtain ⟨s₂, o, st, r⟩ := K
  subst hp hb
  exact ⟨s₂, o, XS.aconstNull X.here hx rfl hd  st, r⟩
theorem giadd (w : W Z own nm bytes mx rt n0 p l e R s m args below meth c k n T h) {x y : Int32} (hd : decode bytes pc = .ok (.iadd, 1)) (hp : pc + 1 = pc') (K : Go n0 p e below s Q CC NN T (mkF m pc' Ls (.int (x + y) :: rest))) : Go n0 p e below s Q CC NN T (mkF m pc Ls (.int y :: .int x :: rest)) := by
  obtain ⟨hx, hb, -, -, -, -, -, -, ⟨L, X, -⟩, -⟩ := w
  obtain ⟨s₂, o, st, r⟩ := K
  subst hp hb
  exact ⟨s₂, o, XS.iadd X.here hx rfl hd rfl st, r⟩
theorem gladd (w : W Z own nm bytes mx rt n0 p l e R s m args below meth c k n T h) {x y : Int64} (hd : decode bytes pc = .ok (.ladd, 1)) (hp : pc + 1 = pc') (K : Go n0 p e below s Q CC NN T (mkF m pc' Ls (.long (x + y) :: rest))) : Go n0 p e below s Q CC NN T (mkF m pc Ls (.long y :: .long x :: rest)) := by
  obtain ⟨hx, hb, -, -, -, -, -, -, ⟨L, X, -⟩, -⟩ := w
  obtain ⟨s₂, o, st, r⟩ := K
  subst hp hb
  exact ⟨s₂, o, XS.ladd X.here hx rfl hd rfl st, r⟩
theorem gisub (w : W Z own nm bytes mx rt n0 p l e R s m args below meth c k n T h) {x y : Int32} (hd : decode bytes pc = .ok (.isub, 1)) (hp : pc + 1 = pc') (K : Go n0 p e below s Q CC NN T (mkF m pc' Ls (.int (x - y) :: rest))) : Go n0 p e below s Q CC NN T (mkF m pc Ls (.int y :: .int x :: rest)) := by
  obtain ⟨hx, hb, -, -, -, -, -, -, ⟨L, X, -⟩, -⟩ := w
  obtain ⟨s₂, o, st, r⟩ := K
  subst hp hb
  exact ⟨s₂, o, XS.isub X.here hx rfl hd rfl st, r⟩
theorem glsub (w : W Z own nm bytes mx rt n0 p l e R s m args below meth c k n T h) {x y : Int64} (hd : decode bytes pc = .ok (.lsub, 1)) (hp : pc + 1 = pc') (K : Go n0 p e below s Q CC NN T (mkF m pc' Ls (.long (x - y) :: rest))) : Go n0 p e below s Q CC NN T (mkF m pc Ls (.long y :: .long x :: rest)) := by
  obtain ⟨hx, hb, -, -, -, -, -, -, ⟨L, X, -⟩, -⟩ := w
  obtain ⟨s₂, o, st, r⟩ := K
  subst hp hb
  exact ⟨s₂, o, XS.lsub X.here hx rfl hd rfl st, r⟩
theorem gimul (w : W Z own nm bytes mx rt n0 p l e R s m args below meth c k n T h) {x y : Int32} (hd : decode bytes pc = .ok (.imul, 1)) (hp : pc + 1 = pc') (K : Go n0 p e below s Q CC NN T (mkF m pc' Ls (.int (x * y) :: rest))) : Go n0 p e below s Q CC NN T (mkF m pc Ls (.int y :: .int x :: rest)) := by
  obtain ⟨hx, hb, -, -, -, -, -, -, ⟨L, X, -⟩, -⟩ := w
  obtain ⟨s₂, o, st, r⟩ := K
  subst hp hb
  exact ⟨s₂, o, XS.imul X.here hx rfl hd rfl st, r⟩
theorem glmul (w : W Z own nm bytes mx rt n0 p l e R s m args below meth c k n T h) {x y : Int64} (hd : decode bytes pc = .ok (.lmul, 1)) (hp : pc + 1 = pc') (K : Go n0 p e below s Q CC NN T (mkF m pc' Ls (.long (x * y) :: rest))) : Go n0 p e below s Q CC NN T (mkF m pc Ls (.long y :: .long x :: rest)) := by
  obtain ⟨hx, hb, -, -, -, -, -, -, ⟨L, X, -⟩, -⟩ := w
  obtain ⟨s₂, o, st, r⟩ := K
  subst hp hb
  exact ⟨s₂, o, XS.lmul X.here hx rfl hd rfl st, r⟩
theorem giand (w : W Z own nm bytes mx rt n0 p l e R s m args below meth c k n T h) {x y : Int32} (hd : decode bytes pc = .ok (.iand, 1)) (hp : pc + 1 = pc') (K : Go n0 p e below s Q CC NN T (mkF m pc' Ls (.int (x &&& y) :: rest))) : Go n0 p e below s Q CC NN T (mkF m pc Ls (.int y :: .int x :: rest)) := by
  obtain ⟨hx, hb, -, -, -, -, -, -, ⟨L, X, -⟩, -⟩ := w
  obtain ⟨s₂, o, st, r⟩ := K
  subst hp hb
  exact ⟨s₂, o, XS.iand X.here hx rfl hd rfl st, r⟩
theorem gland (w : W Z own nm bytes mx rt n0 p l e R s m args below meth c k n T h) {x y : Int64} (hd : decode bytes pc = .ok (.land, 1)) (hp : pc + 1 = pc') (K : Go n0 p e below s Q CC NN T (mkF m pc' Ls (.long (x &&& y) :: rest))) : Go n0 p e below s Q CC NN T (mkF m pc Ls (.long y :: .long x :: rest)) := by
  obtain ⟨hx, hb, -, -, -, -, -, -, ⟨L, X, -⟩, -⟩ := w
  obtain ⟨s₂, o, st, r⟩ := K
  subst hp hb
  exact ⟨s₂, o, XS.land X.here hx rfl hd rfl st, r⟩
theorem gior (w : W Z own nm bytes mx rt n0 p l e R s m args below meth c k n T h) {x y : Int32} (hd : decode bytes pc = .ok (.ior, 1)) (hp : pc + 1 = pc') (K : Go n0 p e below s Q CC NN T (mkF m pc' Ls (.int (x ||| y) :: rest))) : Go n0 p e below s Q CC NN T (mkF m pc Ls (.int y :: .int x :: rest)) := by
  obtain ⟨hx, hb, -, -, -, -, -, -, ⟨L, X, -⟩, -⟩ := w
  obtain ⟨s₂, o, st, r⟩ := K
  subst hp hb
  exact ⟨s₂, o, XS.ior X.here hx rfl hd rfl st, r⟩
theorem glor (w : W Z own nm bytes mx rt n0 p l e R s m args below meth c k n T h) {x y : Int64} (hd : decode bytes pc = .ok (.lor, 1)) (hp : pc + 1 = pc') (K : Go n0 p e below s Q CC NN T (mkF m pc' Ls (.long (x ||| y) :: rest))) : Go n0 p e below s Q CC NN T (mkF m pc Ls (.long y :: .long x :: rest)) := by
  obtain ⟨hx, hb, -, -, -, -, -, -, ⟨L, X, -⟩, -⟩ := w
  obtain ⟨s₂, o, st, r⟩ := K
  subst hp hb
  exact ⟨s₂, o, XS.lor X.here hx rfl hd rfl st, r⟩
theorem gixor (w : W Z own nm bytes mx rt n0 p l e R s m args below meth c k n T h) {x y : Int32} (hd : decode bytes pc = .ok (.ixor, 1)) (hp : pc + 1 = pc') (K : Go n0 p e below s Q CC NN T (mkF m pc' Ls (.int (x ^^^ y) :: rest))) : Go n0 p e below s Q CC NN T (mkF m pc Ls (.int y :: .int x :: rest)) := by
  obtain ⟨hx, hb, -, -, -, -, -, -, ⟨L, X, -⟩, -⟩ := w
  obtain ⟨s₂, o, st, r⟩ := K
  subst hp hb
  exact ⟨s₂, o, XS.ixor X.here hx rfl hd rfl st, r⟩
theorem glxor (w : W Z own nm bytes mx rt n0 p l e R s m args below meth c k n T h) {x y : Int64} (hd : decode bytes pc = .ok (.lxor, 1)) (hp : pc + 1 = pc') (K : Go n0 p e below s Q CC NN T (mkF m pc' Ls (.long (x ^^^ y) :: rest))) : Go n0 p e below s Q CC NN T (mkF m pc Ls (.long y :: .long x :: rest)) := by
  obtain ⟨hx, hb, -, -, -, -, -, -, ⟨L, X, -⟩, -⟩ := w
  obtain ⟨s₂, o, st, r⟩ := K
  subst hp hb
  exact ⟨s₂, o, XS.lxor X.here hx rfl hd rfl st, r⟩
theorem gineg (w : W Z own nm bytes mx rt n0 p l e R s m args below meth c k n T h) {x : Int32} (hd : decode bytes pc = .ok (.ineg, 1)) (hp : pc + 1 = pc') (K : Go n0 p e below s Q CC NN T (mkF m pc' Ls (.int (-x) :: rest))) : Go n0 p e below s Q CC NN T (mkF m pc Ls (.int x :: rest)) := by
  obtain ⟨hx, hb, -, -, -, -, -, -, ⟨L, X, -⟩, -⟩ := w
  obtain ⟨s₂, o, st, r⟩ := K
  subst hp hb
  exact ⟨s₂, o, XS.ineg X.here hx rfl hd rfl st, r⟩
theorem gidiv (w : W Z own nm bytes mx rt n0 p l e R s m args below meth c k n T h) {x y : Int32} (hd : decode bytes pc = .ok (.idiv, 1)) (hy : y ≠ 0) (hp : pc + 1 = pc') (K : Go n0 p e below s Q CC NN T (mkF m pc' Ls (.int (x / y) :: rest))) : Go n0 p e below s Q CC NN T (mkF m pc Ls (.int y :: .int x :: rest)) := by
  obtain ⟨hx, hb, -, -, -, -, -, -, ⟨L, X, -⟩, -⟩ := w
  obtain ⟨s₂, o, st, r⟩ := K
  subst hp hb
  exact ⟨s₂, o, XS.idiv X.here hx rfl hd rfl hy st, r⟩
theorem gldiv (w : W Z own nm bytes mx rt n0 p l e R s m args below meth c k n T h) {x y : Int64} (hd : decode bytes pc = .ok (.ldiv, 1)) (hy : y ≠ 0) (hp : pc + 1 = pc') (K : Go n0 p e below s Q CC NN T (mkF m pc' Ls (.long (x / y) :: rest))) : Go n0 p e below s Q CC NN T (mkF m pc Ls (.long y :: .long x :: rest)) := by
  obtain ⟨hx, hb, -, -, -, -, -, -, ⟨L, X, -⟩, -⟩ := w
  obtain ⟨s₂, o, st, r⟩ := K
  subst hp hb
  exact ⟨s₂, o, XS.ldiv X.here hx rfl hd rfl hy st, r⟩
theorem girem (w : W Z own nm bytes mx rt n0 p l e R s m args below meth c k n T h) {x y : Int32} (hd : decode bytes pc = .ok (.irem, 1)) (hy : y ≠ 0) (hp : pc + 1 = pc') (K : Go n0 p e below s Q CC NN T (mkF m pc' Ls (.int (x - (x / y) * y) :: rest))) : Go n0 p e below s Q CC NN T (mkF m pc Ls (.int y :: .int x :: rest)) := by
  obtain ⟨hx, hb, -, -, -, -, -, -, ⟨L, X, -⟩, -⟩ := w
  obtain ⟨s₂, o, st, r⟩ := K
  subst hp hb
  exact ⟨s₂, o, XS.irem X.here hx rfl hd rfl hy st, r⟩
theorem glrem (w : W Z own nm bytes mx rt n0 p l e R s m args below meth c k n T h) {x y : Int64} (hd : decode bytes pc = .ok (.lrem, 1)) (hy : y ≠ 0) (hp : pc + 1 = pc') (K : Go n0 p e below s Q CC NN T (mkF m pc' Ls (.long (x - (x / y) * y) :: rest))) : Go n0 p e below s Q CC NN T (mkF m pc Ls (.long y :: .long x :: rest)) := by
  obtain ⟨hx, hb, -, -, -, -, -, -, ⟨L, X, -⟩, -⟩ := w
  obtain ⟨s₂, o, st, r⟩ := K
  subst hp hb
  exact ⟨s₂, o, XS.lrem X.here hx rfl hd rfl hy st, r⟩
theorem gishl (w : W Z own nm bytes mx rt n0 p l e R s m args below meth c k n T h) {x : Int32} {y : Int32} (hd : decode bytes pc = .ok (.ishl, 1)) (hp : pc + 1 = pc') (K : Go n0 p e below s Q CC NN T (mkF m pc' Ls (.int (x <<< (y &&& 31)) :: rest))) : Go n0 p e below s Q CC NN T (mkF m pc Ls (.int y :: .int x :: rest)) := by
  obtain ⟨hx, hb, -, -, -, -, -, -, ⟨L, X, -⟩, -⟩ := w
  obtain ⟨s₂, o, st, r⟩ := K
  subst hp hb
  exact ⟨s₂, o, XS.ishl X.here hx rfl hd rfl st, r⟩
theorem gishr (w : W Z own nm bytes mx rt n0 p l e R s m args below meth c k n T h) {x : Int32} {y : Int32} (hd : decode bytes pc = .ok (.ishr, 1)) (hp : pc + 1 = pc') (K : Go n0 p e below s Q CC NN T (mkF m pc' Ls (.int (x >>> (y &&& 31)) :: rest))) : Go n0 p e below s Q CC NN T (mkF m pc Ls (.int y :: .int x :: rest)) := by
  obtain ⟨hx, hb, -, -, -, -, -, -, ⟨L, X, -⟩, -⟩ := w
  obtain ⟨s₂, o, st, r⟩ := K
  subst hp hb
  exact ⟨s₂, o, XS.ishr X.here hx rfl hd rfl st, r⟩
theorem giushr (w : W Z own nm bytes mx rt n0 p l e R s m args below meth c k n T h) {x : Int32} {y : Int32} (hd : decode bytes pc = .ok (.iushr, 1)) (hp : pc + 1 = pc') (K : Go n0 p e below s Q CC NN T (mkF m pc' Ls (.int ((x.toUInt32 >>> (y &&& 31).toUInt32).toInt32) :: rest))) : Go n0 p e below s Q CC NN T (mkF m pc Ls (.int y :: .int x :: rest)) := by
  obtain ⟨hx, hb, -, -, -, -, -, -, ⟨L, X, -⟩, -⟩ := w
  obtain ⟨s₂, o, st, r⟩ := K
  subst hp hb
  exact ⟨s₂, o, XS.iushr X.here hx rfl hd rfl st, r⟩
theorem glshl (w : W Z own nm bytes mx rt n0 p l e R s m args below meth c k n T h) {x : Int64} {y : Int32} (hd : decode bytes pc = .ok (.lshl, 1)) (hp : pc + 1 = pc') (K : Go n0 p e below s Q CC NN T (mkF m pc' Ls (.long (x <<< (y &&& 0x3f).toInt64) :: rest))) : Go n0 p e below s Q CC NN T (mkF m pc Ls (.int y :: .long x :: rest)) := by
  obtain ⟨hx, hb, -, -, -, -, -, -, ⟨L, X, -⟩, -⟩ := w
  obtain ⟨s₂, o, st, r⟩ := K
  subst hp hb
  exact ⟨s₂, o, XS.lshl X.here hx rfl hd rfl st, r⟩
theorem glshr (w : W Z own nm bytes mx rt n0 p l e R s m args below meth c k n T h) {x : Int64} {y : Int32} (hd : decode bytes pc = .ok (.lshr, 1)) (hp : pc + 1 = pc') (K : Go n0 p e below s Q CC NN T (mkF m pc' Ls (.long (x >>> (y &&& 0x3f).toInt64) :: rest))) : Go n0 p e below s Q CC NN T (mkF m pc Ls (.int y :: .long x :: rest)) := by
  obtain ⟨hx, hb, -, -, -, -, -, -, ⟨L, X, -⟩, -⟩ := w
  obtain ⟨s₂, o, st, r⟩ := K
  subst hp hb
  exact ⟨s₂, o, XS.lshr X.here hx rfl hd rfl st, r⟩
theorem glushr (w : W Z own nm bytes mx rt n0 p l e R s m args below meth c k n T h) {x : Int64} {y : Int32} (hd : decode bytes pc = .ok (.lushr, 1)) (hp : pc + 1 = pc') (K : Go n0 p e below s Q CC NN T (mkF m pc' Ls (.long ((x.toUInt64 >>> (y &&& 0x3f).toInt64.toUInt64).toInt64) :: rest))) : Go n0 p e below s Q CC NN T (mkF m pc Ls (.int y :: .long x :: rest)) := by
  obtain ⟨hx, hb, -, -, -, -, -, -, ⟨L, X, -⟩, -⟩ := w
  obtain ⟨s₂, o, st, r⟩ := K
  subst hp hb
  exact ⟨s₂, o, XS.lushr X.here hx rfl hd rfl st, r⟩
theorem gi2b (w : W Z own nm bytes mx rt n0 p l e R s m args below meth c k n T h) {v : Int32} (hd : decode bytes pc = .ok (.i2b, 1)) (hp : pc + 1 = pc') (K : Go n0 p e below s Q CC NN T (mkF m pc' Ls (.int (v.toInt8.toInt32) :: rest))) : Go n0 p e below s Q CC NN T (mkF m pc Ls (.int v :: rest)) := by
  obtain ⟨hx, hb, -, -, -, -, -, -, ⟨L, X, -⟩, -⟩ := w
  obtain ⟨s₂, o, st, r⟩ := K
  subst hp hb
  exact ⟨s₂, o, XS.i2b X.here hx rfl hd rfl st, r⟩
theorem gi2c (w : W Z own nm bytes mx rt n0 p l e R s m args below meth c k n T h) {v : Int32} (hd : decode bytes pc = .ok (.i2c, 1)) (hp : pc + 1 = pc') (K : Go n0 p e below s Q CC NN T (mkF m pc' Ls (.int (v.toUInt32.toUInt16.toUInt32.toInt32) :: rest))) : Go n0 p e below s Q CC NN T (mkF m pc Ls (.int v :: rest)) := by
  obtain ⟨hx, hb, -, -, -, -, -, -, ⟨L, X, -⟩, -⟩ := w
  obtain ⟨s₂, o, st, r⟩ := K
  subst hp hb
  exact ⟨s₂, o, XS.i2c X.here hx rfl hd rfl st, r⟩
theorem gi2l (w : W Z own nm bytes mx rt n0 p l e R s m args below meth c k n T h) {v : Int32} (hd : decode bytes pc = .ok (.i2l, 1)) (hp : pc + 1 = pc') (K : Go n0 p e below s Q CC NN T (mkF m pc' Ls (.long (v.toInt64) :: rest))) : Go n0 p e below s Q CC NN T (mkF m pc Ls (.int v :: rest)) := by
  obtain ⟨hx, hb, -, -, -, -, -, -, ⟨L, X, -⟩, -⟩ := w
  obtain ⟨s₂, o, st, r⟩ := K
  subst hp hb
  exact ⟨s₂, o, XS.i2l X.here hx rfl hd rfl st, r⟩
theorem gl2i (w : W Z own nm bytes mx rt n0 p l e R s m args below meth c k n T h) {v : Int64} (hd : decode bytes pc = .ok (.l2i, 1)) (hp : pc + 1 = pc') (K : Go n0 p e below s Q CC NN T (mkF m pc' Ls (.int (v.toInt32) :: rest))) : Go n0 p e below s Q CC NN T (mkF m pc Ls (.long v :: rest)) := by
  obtain ⟨hx, hb, -, -, -, -, -, -, ⟨L, X, -⟩, -⟩ := w
  obtain ⟨s₂, o, st, r⟩ := K
  subst hp hb
  exact ⟨s₂, o, XS.l2i X.here hx rfl hd rfl st, r⟩
theorem gdup (w : W Z own nm bytes mx rt n0 p l e R s m args below meth c k n T h) {x : Value} (hd : decode bytes pc = .ok (.dup, 1)) (hc : x.category = 1) (hp : pc + 1 = pc') (K : Go n0 p e below s Q CC NN T (mkF m pc' Ls (x :: x :: rest))) : Go n0 p e below s Q CC NN T (mkF m pc Ls (x :: rest)) := by
  obtain ⟨hx, hb, -, -, -, -, -, -, ⟨L, X, -⟩, -⟩ := w
  obtain ⟨s₂, o, st, r⟩ := K
  subst hp hb
  exact ⟨s₂, o, XS.dup X.here hx rfl hd rfl hc st, r⟩
theorem gpop (w : W Z own nm bytes mx rt n0 p l e R s m args below meth c k n T h) {x : Value} (hd : decode bytes pc = .ok (.pop, 1)) (hc : x.category = 1) (hp : pc + 1 = pc') (K : Go n0 p e below s Q CC NN T (mkF m pc' Ls (rest))) : Go n0 p e below s Q CC NN T (mkF m pc Ls (x :: rest)) := by
  obtain ⟨hx, hb, -, -, -, -, -, -, ⟨L, X, -⟩, -⟩ := w
  obtain ⟨s₂, o, st, r⟩ := K
  subst hp hb
  exact ⟨s₂, o, XS.pop X.here hx rfl hd rfl hc st, r⟩
theorem gdupx1 (w : W Z own nm bytes mx rt n0 p l e R s m args below meth c k n T h) {x y : Value} (hd : decode bytes pc = .ok (.dup_x1, 1)) (hc : x.category = 1) (hc2 : y.category = 1) (hp : pc + 1 = pc') (K : Go n0 p e below s Q CC NN T (mkF m pc' Ls (x :: y :: x :: rest))) : Go n0 p e below s Q CC NN T (mkF m pc Ls (x :: y :: rest)) := by
  obtain ⟨hx, hb, -, -, -, -, -, -, ⟨L, X, -⟩, -⟩ := w
  obtain ⟨s₂, o, st, r⟩ := K
  subst hp hb
  exact ⟨s₂, o, XS.dupX1 X.here hx rfl hd rfl hc hc2 st, r⟩
theorem ggoto (w : W Z own nm bytes mx rt n0 p l e R s m args below meth c k n T h) {o : Int} (hd : decode bytes pc = .ok (.goto o, 3)) (ho : 0 ≤ (pc : Int) + o) (hp : ((pc : Int) + o).toNat = pc') (K : Go n0 p e below s Q CC NN T (mkF m pc' Ls rest)) : Go n0 p e below s Q CC NN T (mkF m pc Ls rest) := by
  obtain ⟨hx, hb, -, -, -, -, -, -, ⟨L, X, -⟩, -⟩ := w
  obtain ⟨s₂, q, st, r⟩ := K
  subst hb
  exact ⟨s₂, q, XS.goto X.here hx rfl rfl hd ho hp st, r⟩
theorem gif (w : W Z own nm bytes mx rt n0 p l e R s m args below meth c k n T h) {cd : ClassFile.Cond} {x : Int32} {o : Int} {pt pf : Nat} (hd : decode bytes pc = .ok (.ifCond cd o, 3)) (ho : 0 ≤ (pc : Int) + o) (ht : ((pc : Int) + o).toNat = pt) (hf : pc + 3 = pf)
    (Kt : cY cd x 0 → Go n0 p e below s Q CC NN T (mkF m pt Ls rest)) (Kf : cN cd x 0 → Go n0 p e below s Q CC NN T (mkF m pf Ls rest)) : Go n0 p e below s Q CC NN T (mkF m pc Ls (.int x :: rest)) := by
  obtain ⟨hx, hb, -, -, -, -, -, -, ⟨L, X, -⟩, -⟩ := w
  subst hb hf
  rcases c_or cd x 0 with ⟨q, q'⟩ | ⟨q, q'⟩
  · obtain ⟨s₂, z, st, r⟩ := Kt q
    exact ⟨s₂, z, XS.ifYes X.here hx rfl rfl hd rfl ((if0 _ _).trans q') ho ht st, r⟩
  · obtain ⟨s₂, z, st, r⟩ := Kf q
    exact ⟨s₂, z, XS.ifNo X.here hx rfl hd rfl ((if0 _ _).trans q') st, r⟩
theorem gicmp (w : W Z own nm bytes mx rt n0 p l e R s m args below meth c k n T h) {cd : ClassFile.Cond} {x y : Int32} {o : Int} {pt pf : Nat} (hd : decode bytes pc = .ok (.if_icmp cd o, 3)) (ho : 0 ≤ (pc : Int) + o) (ht : ((pc : Int) + o).toNat = pt) (hf : pc + 3 = pf)
    (Kt : cY cd x y → Go n0 p e below s Q CC NN T (mkF m pt Ls rest)) (Kf : cN cd x y → Go n0 p e below s Q CC NN T (mkF m pf Ls rest)) : Go n0 p e below s Q CC NN T (mkF m pc Ls (.int y :: .int x :: rest)) := by
  obtain ⟨hx, hb, -, -, -, -, -, -, ⟨L, X, -⟩, -⟩ := w
  subst hb hf
  rcases c_or cd x y with ⟨q, q'⟩ | ⟨q, q'⟩
  · obtain ⟨s₂, z, st, r⟩ := Kt q
    exact ⟨s₂, z, XS.icmpYes X.here hx rfl rfl hd rfl q' ho ht st, r⟩
  · obtain ⟨s₂, z, st, r⟩ := Kf q
    exact ⟨s₂, z, XS.icmpNo X.here hx rfl hd rfl q' st, r⟩
theorem glcmpif (w : W Z own nm bytes mx rt n0 p l e R s m args below meth c k n T h) {cd : ClassFile.Cond} {x y : Int64} {o : Int} {pm pt pf : Nat} (hd0 : decode bytes pc = .ok (.lcmp, 1)) (hm : pc + 1 = pm) (hd : decode bytes pm = .ok (.ifCond cd o, 3)) (ho : 0 ≤ (pm : Int) + o) (ht : ((pm : Int) + o).toNat = pt) (hf : pm + 3 = pf)
    (Kt : lY cd x y → Go n0 p e below s Q CC NN T (mkF m pt Ls rest)) (Kf : lN cd x y → Go n0 p e below s Q CC NN T (mkF m pf Ls rest)) : Go n0 p e below s Q CC NN T (mkF m pc Ls (.long y :: .long x :: rest)) := by
  have K : Go n0 p e below s Q CC NN T (mkF m pm Ls (.int (lcmpW x y) :: rest)) := gif w hd ho ht hf (fun q => Kt (lY_of cd x y q)) (fun q => Kf (lN_of cd x y q))
  obtain ⟨hx, hb, -, -, -, -, -, -, ⟨L, X, -⟩, -⟩ := w
  obtain ⟨s₂, z, st, r⟩ := K
  subst hb hm
  exact ⟨s₂, z, XS.lcmp X.here hx rfl hd0 rfl st, r⟩
theorem gacmp (w : W Z own nm bytes mx rt n0 p l e R s m args below meth c k n T h) {cd : ClassFile.ACond} {x y : Value} {o : Int} {pt pf : Nat} (hd : decode bytes pc = .ok (.if_acmp cd o, 3)) (ho : 0 ≤ (pc : Int) + o) (h1 : x.isRef = true) (h2 : y.isRef = true) (ht : (if acV cd true = true then ((pc : Int) + o).toNat else pc + 3) = pt) (hf : (if acV cd false = true then ((pc : Int) + o).toNat else pc + 3) = pf)
    (Ke : x = y → Go n0 p e below s Q CC NN T (mkF m pt Ls rest)) (Kn : ¬ x = y → Go n0 p e below s Q CC NN T (mkF m pf Ls rest)) : Go n0 p e below s Q CC NN T (mkF m pc Ls (y :: x :: rest)) := by
  obtain ⟨hx, hb, -, -, -, -, -, -, ⟨L, X, -⟩, -⟩ := w
  subst hb
  by_cases q : x = y
  · obtain ⟨s₂, z, st, r⟩ := Ke q
    exact ⟨s₂, z, Jvm.RoadKit.acmp (g := mkF m pc Ls (y :: x :: rest)) X hx rfl h1 h2 (same := true) rfl hd rfl (decide_eq_true q) ho ht.symm st, r⟩
  · obtain ⟨s₂, z, st, r⟩ := Kn q
    exact ⟨s₂, z, Jvm.RoadKit.acmp (g := mkF m pc Ls (y :: x :: rest)) X hx rfl h1 h2 (same := false) rfl hd rfl (decide_eq_false q) ho hf.symm st, r⟩
theorem gifnullY (w : W Z own nm bytes mx rt n0 p l e R s m args below meth c k n T h) {o : Int} (hd : decode bytes pc = .ok (.ifnull o, 3)) (ho : 0 ≤ (pc : Int) + o) (hp : ((pc : Int) + o).toNat = pc') (K : Go n0 p e below s Q CC NN T (mkF m pc' Ls rest)) : Go n0 p e below s Q CC NN T (mkF m pc Ls (.null :: rest)) := by
  obtain ⟨hx, hb, -, -, -, -, -, -, ⟨L, X, -⟩, -⟩ := w
  obtain ⟨s₂, q, st, r⟩ := K
  subst hb
  exact ⟨s₂, q, XS.ifnullYes X.here hx rfl rfl hd rfl ho hp st, r⟩
theorem gifnullN (w : W Z own nm bytes mx rt n0 p l e R s m args below meth c k n T h) {o : Int} {b : Addr} (hd : decode bytes pc = .ok (.ifnull o, 3)) (hp : pc + 3 = pc') (K : Go n0 p e below s Q CC NN T (mkF m pc' Ls rest)) : Go n0 p e below s Q CC NN T (mkF m pc Ls (.ref b :: rest)) := by
  obtain ⟨hx, hb, -, -, -, -, -, -, ⟨L, X, -⟩, -⟩ := w
  obtain ⟨s₂, q, st, r⟩ := K
  subst hb hp
  exact ⟨s₂, q, XS.ifnullNo X.here hx rfl hd rfl st, r⟩
theorem gifnonnullY (w : W Z own nm bytes mx rt n0 p l e R s m args below meth c k n T h) {o : Int} {b : Addr} (hd : decode bytes pc = .ok (.ifnonnull o, 3)) (ho : 0 ≤ (pc : Int) + o) (hp : ((pc : Int) + o).toNat = pc') (K : Go n0 p e below s Q CC NN T (mkF m pc' Ls rest)) : Go n0 p e below s Q CC NN T (mkF m pc Ls (.ref b :: rest)) := by
  obtain ⟨hx, hb, -, -, -, -, -, -, ⟨L, X, -⟩, -⟩ := w
  obtain ⟨s₂, q, st, r⟩ := K
  subst hb
  exact ⟨s₂, q, XS.ifnonnullYes X.here hx rfl rfl hd rfl ho hp st, r⟩
theorem gifnonnullN (w : W Z own nm bytes mx rt n0 p l e R s m args below meth c k n T h) {o : Int} (hd : decode bytes pc = .ok (.ifnonnull o, 3)) (hp : pc + 3 = pc') (K : Go n0 p e below s Q CC NN T (mkF m pc' Ls rest)) : Go n0 p e below s Q CC NN T (mkF m pc Ls (.null :: rest)) := by
  obtain ⟨hx, hb, -, -, -, -, -, -, ⟨L, X, -⟩, -⟩ := w
  obtain ⟨s₂, q, st, r⟩ := K
  subst hb hp
  exact ⟨s₂, q, XS.ifnonnullNo X.here hx rfl hd rfl st, r⟩
theorem gldc2 (w : W Z own nm bytes mx rt n0 p l e R s m args below meth c k n T h) {index : Nat} {v : Int64} (hd : decode bytes pc = .ok (.ldc2_w index, 3)) (w1 : (Jvm.Cond.constantLong own index v).before a0 Z = true) (hp : pc + 3 = pc') (K : Go n0 p e below s Q CC NN T (mkF m pc' Ls (.long v :: rest))) : Go n0 p e below s Q CC NN T (mkF m pc Ls rest) := by
  obtain ⟨hx, hb, hown, hZ, -, -, -, -, ⟨L, X, -⟩, -⟩ := w
  obtain ⟨s₂, q, st, r⟩ := K
  subst hb hp
  exact ⟨s₂, q, X.ldc2Long hx hown (mvT hZ w1) (g := mkF m pc Ls rest) rfl hd _ st, r⟩
theorem gldcI (w : W Z own nm bytes mx rt n0 p l e R s m args below meth c k n T h) {index : Nat} {v : Int32} (hd : decode bytes pc = .ok (.ldc index, 2)) (w1 : (Jvm.Cond.constant own index v).before a0 Z = true) (hp : pc + 2 = pc') (K : Go n0 p e below s Q CC NN T (mkF m pc' Ls (.int v :: rest))) : Go n0 p e below s Q CC NN T (mkF m pc Ls rest) := by
  obtain ⟨hx, hb, hown, hZ, -, -, -, -, ⟨L, X, -⟩, -⟩ := w
  obtain ⟨s₂, q, st, r⟩ := K
  subst hb hp
  exact ⟨s₂, q, X.ldcInt hx hown (mvT hZ w1) (g := mkF m pc Ls rest) rfl hd _ st, r⟩

theorem ggetF (w : W Z own nm bytes mx rt n0 p l e R s m args below meth c k n T h) {index : Nat} {O n' d : String} {a : Addr} {v : Value} (hd : decode bytes pc = .ok (.getfield index, 3)) (w1 : (Jvm.Cond.fieldLink own index O n' d).before a0 Z = true) (F : Fld Z h a O n' d v) (hp : pc + 3 = pc')
    (K : ∀ T', W Z own nm bytes mx rt n0 p l e R s m args below meth c k n T' h → Go n0 p e below s Q CC NN T' (mkF m pc' Ls (v :: rest))) : Go n0 p e below s Q CC NN T (mkF m pc Ls (.ref a :: rest)) := by
  obtain ⟨hx, hb, hown, hZ, r1, r2, r3, r4, ⟨L, X, N⟩, eT⟩ := w
  obtain ⟨T', X', e', st⟩ := getF X hx hZ hown (host := "") (Or.inl w1) Via.refl eT F (g := mkF m pc Ls (.ref a :: rest)) rfl rfl (by rw [hb]; exact hd)
  obtain ⟨s₂, q, st', r⟩ := K T' ⟨hx, hb, hown, hZ, r1, r2, r3, r4, ⟨L, X', N⟩, e'⟩
  subst hp
  exact ⟨s₂, q, st _ st', r⟩
theorem ggetS (w : W Z own nm bytes mx rt n0 p l e R s m args below meth c k n T h) {index : Nat} {O n' d : String} {v : Value} (hd : decode bytes pc = .ok (.getstatic index, 3)) (w1 : (Jvm.Cond.fieldLink own index O n' d).before a0 Z = true) (F : Sta Z h O n' d v) (hp : pc + 3 = pc')
    (K : ∀ T', W Z own nm bytes mx rt n0 p l e R s m args below meth c k n T' h → Go n0 p e below s Q CC NN T' (mkF m pc' Ls (v :: rest))) : Go n0 p e below s Q CC NN T (mkF m pc Ls rest) := by
  obtain ⟨hx, hb, hown, hZ, r1, r2, r3, r4, ⟨L, X, N⟩, eT⟩ := w
  obtain ⟨T', X', e', st⟩ := getS (host := "") X hx hZ hown w1 Via.refl eT F (g := mkF m pc Ls rest) rfl (by rw [hb]; exact hd)
  obtain ⟨s₂, q, st', r⟩ := K T' ⟨hx, hb, hown, hZ, r1, r2, r3, r4, ⟨L, X', N⟩, e'⟩
  subst hp
  exact ⟨s₂, q, st _ st', r⟩
theorem ggetSN (w : W Z own nm bytes mx rt n0 p l e R s m args below meth c k n T h) {index : Nat} {O n' d host : String} {v : Value} (hd : decode bytes pc = .ok (.getstatic index, 3)) (w1 : (Jvm.Cond.fieldLinkNest own index O n' d host).before a0 Z = true) (F : Sta Z h O n' d v) (hp : pc + 3 = pc')
    (K : ∀ T', W Z own nm bytes mx rt n0 p l e R s m args below meth c k n T' h → Go n0 p e below s Q CC NN T' (mkF m pc' Ls (v :: rest))) : Go n0 p e below s Q CC NN T (mkF m pc Ls rest) := by
  obtain ⟨hx, hb, hown, hZ, r1, r2, r3, r4, ⟨L, X, N⟩, eT⟩ := w
  obtain ⟨T', X', e', st⟩ := getS2 X hx hZ hown (Or.inr w1) Via.refl eT F (g := mkF m pc Ls rest) rfl (by rw [hb]; exact hd)
  obtain ⟨s₂, q, st', r⟩ := K T' ⟨hx, hb, hown, hZ, r1, r2, r3, r4, ⟨L, X', N⟩, e'⟩
  subst hp
  exact ⟨s₂, q, st _ st', r⟩
/-- putfield: what is written may be narrowed (v to v') -/
theorem gputF (w : W Z own nm bytes mx rt n0 p l e R s m args below meth c k n T h) {index kk : Nat} {O n' d C : String} {ty : FieldType} {a : Addr} {v v' old : Value} (hd : decode bytes pc = .ok (.putfield index, 3)) (w1 : (Jvm.Cond.fieldLink own index O n' d).before a0 Z = true) (F : Fld Z h a O n' d old) (E : Exa Z h a C)
    (LL : (Jvm.Cond.lays C O n' d).before a0 Z = true ∨ ((Jvm.Cond.laysFinal C O n' d).before a0 Z = true ∧ own = O ∧ nm = "<init>")) (wi : (Jvm.Cond.instantiable C kk).before a0 Z = true) (hty : parseFieldDescriptor d = some ty) (hn : narrow ty v = v') (hf : fits ty v' = true) (hna : n0 ≤ a) (hp : pc + 3 = pc')
    (K : ∀ T' h', W Z own nm bytes mx rt n0 p l e R s m args below meth c k n T' h' → Wr h h' a (Jvm.RoadKit.slotOf Z O n' d) v' → Go n0 p e below s Q CC NN T' (mkF m pc' Ls rest)) : Go n0 p e below s Q CC NN T (mkF m pc Ls (v :: .ref a :: rest)) := by
  obtain ⟨hx, hb, hown, hZ, r1, r2, r3, r4, ⟨L, X, N⟩, eT⟩ := w
  obtain ⟨T', h', X', e', Wx, st⟩ := putFN X hx hZ hown w1 Via.refl eT F E (LL.imp id fun q => ⟨q.1, q.2.1, r2.trans q.2.2⟩) wi hty hn hf (g := mkF m pc Ls (v :: .ref a :: rest)) rfl rfl (by rw [hb]; exact hd)
  obtain ⟨s₂, q, st', r⟩ := K T' h' ⟨hx, hb, hown, hZ, r1, r2, r3, r4, ⟨_, X', Fr.snoc X' N hna⟩, e'⟩ Wx
  subst hp
  exact ⟨s₂, q, st _ st', r⟩
theorem gnewO (w : W Z own nm bytes mx rt n0 p l e R s m args below meth c k n T h) {index j : Nat} {C : String} (hd : decode bytes pc = .ok (.new index, 3)) (w1 : (Jvm.Cond.classLink own index C).before a0 Z = true) (wi : (Jvm.Cond.instantiable C j).before a0 Z = true) (wz : (Jvm.Cond.initialized C).before a0 Z = true) (hc : k + 1 ≤ R.cells) (hl : n + j ≤ R.slots) (hp : pc + 3 = pc')
    (K : ∀ T' h' a, h.size = a → W Z own nm bytes mx rt n0 p l e R s m args below meth c (k + 1) (n + j) T' h' → Ext h h' → Exa Z h' a C → (∀ {O f d : String} {ty : FieldType}, Laid Z a0 C O f d → parseFieldDescriptor d = some ty → Fld Z h' a O f d (defaultValue ty)) → Go n0 p e below s Q CC NN T' (mkF m pc' Ls (.ref a :: rest))) : Go n0 p e below s Q CC NN T (mkF m pc Ls rest) := by
  obtain ⟨hx, hb, hown, hZ, r1, r2, r3, r4, ⟨L, X, N⟩, eT⟩ := w
  obtain ⟨T', h', X', e', E, A, D, -, st⟩ := newO X hx hZ hown w1 wi wz eT (g := mkF m pc Ls rest) rfl (by rw [hb]; exact hd) hc hl
  obtain ⟨s₂, q, st', r⟩ := K T' h' _ rfl ⟨hx, hb, hown, hZ, r1, r2, r3, r4, ⟨_, X', N⟩, e'⟩ E A D
  subst hp
  exact ⟨s₂, q, st _ st', r⟩
theorem gnewP (w : W Z own nm bytes mx rt n0 p l e R s m args below meth c k n T h) {aty : ArrayType} {z : Int32} {cap : Nat} {ty : FieldType} (hd : decode bytes pc = .ok (.newarray aty, 2)) (hty : newarray.typeOf aty = ty) (w1 : (Jvm.Cond.arrayClass ty).before a0 Z = true) (hn : ¬ z < 0) (hcap : z.toNatClampNeg ≤ cap) (hb8 : cap * 8 ≤ 536870912) (hc : k + 1 ≤ R.cells) (hl : n + cap ≤ R.slots) (hp : pc + 2 = pc')
    (K : ∀ T' h' a kA, h.size = a → W Z own nm bytes mx rt n0 p l e R s m args below meth c (k + 1) (n + cap) T' h' → Ext h h' → Arv Z h' a kA ty z [] (defaultValue ty) → Go n0 p e below s Q CC NN T' (mkF m pc' Ls (.ref a :: rest))) : Go n0 p e below s Q CC NN T (mkF m pc Ls (.int z :: rest)) := by
  obtain ⟨hx, hb, hown, hZ, r1, r2, r3, r4, ⟨L, X, N⟩, eT⟩ := w
  subst hty
  obtain ⟨T', h', cA, X', e', E, A, st⟩ := newP X hx hZ w1 eT (g := mkF m pc Ls (.int z :: rest)) rfl (by rw [hb]; exact hd) rfl hn hcap hb8 hc hl
  obtain ⟨s₂, q, st', r⟩ := K T' h' _ cA rfl ⟨hx, hb, hown, hZ, r1, r2, r3, r4, ⟨_, X', N⟩, e'⟩ E (Arv.new A hn)
  subst hp
  exact ⟨s₂, q, st _ st', r⟩
theorem ginitO (w : W Z own nm bytes mx rt n0 p l e R s m args below meth c k n T h) {index : Nat} {a : Addr} {Wt : Nat} (hd : decode bytes pc = .ok (.invokespecial index, 3)) (w1 : (Jvm.Cond.methodLink own index Lib.objectInit).before a0 Z = true) (w2 : (Jvm.Cond.instanceMethod Lib.objectInit).before a0 Z = true) (w3 : (Jvm.Cond.code Lib.objectInit ⟨#[0xb1]⟩ 1 none).before a0 Z = true)
    (hsz : Ls.size = mx) (hf : 1 ≤ R.frames) (hW : (rest.map fun v => v.category).sum ≤ Wt) (hl : Wt + 12 ≤ R.locals) (hp : pc + 3 = pc')
    (K : ∀ T', W Z own nm bytes mx rt n0 p l e R s m args below meth c k n T' h → Go n0 p e below s Q CC NN T' (mkF m pc' Ls rest)) : Go n0 p e below s Q CC NN T (mkF m pc Ls (.ref a :: rest)) := by
  obtain ⟨hx, hb, hown, hZ, r1, r2, r3, r4, ⟨L, X, N⟩, eT⟩ := w
  obtain ⟨T', X', e', st⟩ := initO X hx hZ hown w1 w2 w3 eT (g := mkF m pc Ls (.ref a :: rest)) rfl (hsz.trans r1.symm) rfl (by rw [hb]; exact hd) hf (W := Wt) (by show 2 * 0 + _ ≤ _; omega) hl
  obtain ⟨s₂, q, st', r⟩ := K T' ⟨hx, hb, hown, hZ, r1, r2, r3, r4, ⟨L, X', N⟩, e'⟩
  subst hp
  exact ⟨s₂, q, st _ st', r⟩
theorem glen (w : W Z own nm bytes mx rt n0 p l e R s m args below meth c k n T h) {a : Addr} {kA : ClassId} {ty : FieldType} {z : Int32} {vs : List Value} {dv : Value} (hd : decode bytes pc = .ok (.arraylength, 1)) (V : Arv Z h a kA ty z vs dv) (hp : pc + 1 = pc') (K : Go n0 p e below s Q CC NN T (mkF m pc' Ls (.int z :: rest))) : Go n0 p e below s Q CC NN T (mkF m pc Ls (.ref a :: rest)) := by
  obtain ⟨hx, hb, hown, hZ, r1, r2, r3, r4, ⟨L, X, N⟩, eT⟩ := w
  obtain ⟨cl, A, -, S, N1, -, -⟩ := V
  obtain ⟨s₂, q, st', r⟩ := K
  subst hp
  refine ⟨s₂, q, X.arraylength hx (by rw [eT]; exact A.1) (State.isArrayOf_alike hZ.alike A.2.1) (g := mkF m pc Ls (.ref a :: rest)) rfl rfl (by rw [hb]; exact hd) _ ?_, r⟩
  rw [len_of S N1]
  exact st'

theorem gbaload (w : W Z own nm bytes mx rt n0 p l e R s m args below meth c k n T h) {a : Addr} {kA : ClassId} {z j : Int32} {vs : List Value} {dv v : Value} (hd : decode bytes pc = .ok (.baload, 1)) (V : Arv Z h a kA .byte z vs dv) (hj : ¬ j < 0 ∧ j < z) (hv : vs.getD j.toNatClampNeg dv = v) (hp : pc + 1 = pc') (K : Go n0 p e below s Q CC NN T (mkF m pc' Ls (v :: rest))) : Go n0 p e below s Q CC NN T (mkF m pc Ls (.int j :: .ref a :: rest)) := by
  obtain ⟨hx, hb, hown, hZ, r1, r2, r3, r4, ⟨L, X, N⟩, eT⟩ := w
  obtain ⟨cl, A, -, S, -, H, -⟩ := V
  obtain ⟨s₂, q, st', r⟩ := K
  subst hp
  exact ⟨s₂, q, X.baloadBytes hx (j := j) (v := v) (by rw [eT]; exact A.1) (State.isArrayOf_alike hZ.alike A.2.1) A.2.2 (inb_of S hj) (H.at (inb_of S hj) hv) (g := mkF m pc Ls (.int j :: .ref a :: rest)) rfl rfl (by rw [hb]; exact hd) _ st', r⟩

theorem giaload (w : W Z own nm bytes mx rt n0 p l e R s m args below meth c k n T h) {a : Addr} {kA : ClassId} {z j : Int32} {vs : List Value} {dv v : Value} (hd : decode bytes pc = .ok (.iaload, 1)) (V : Arv Z h a kA .int z vs dv) (hj : ¬ j < 0 ∧ j < z) (hv : vs.getD j.toNatClampNeg dv = v) (hp : pc + 1 = pc') (K : Go n0 p e below s Q CC NN T (mkF m pc' Ls (v :: rest))) : Go n0 p e below s Q CC NN T (mkF m pc Ls (.int j :: .ref a :: rest)) := by
  obtain ⟨hx, hb, hown, hZ, r1, r2, r3, r4, ⟨L, X, N⟩, eT⟩ := w
  obtain ⟨cl, A, -, S, -, H, -⟩ := V
  obtain ⟨s₂, q, st', r⟩ := K
  subst hp
  exact ⟨s₂, q, X.iaload hx (j := j) (v := v) (by rw [eT]; exact A.1) (State.isArrayOf_alike hZ.alike A.2.1) A.2.2 (inb_of S hj) (H.at (inb_of S hj) hv) (g := mkF m pc Ls (.int j :: .ref a :: rest)) rfl rfl (by rw [hb]; exact hd) _ st', r⟩

theorem gbastore (w : W Z own nm bytes mx rt n0 p l e R s m args below meth c k n T h) {a : Addr} {kA : ClassId} {z j x x' : Int32} {vs : List Value} {dv : Value} (hd : decode bytes pc = .ok (.bastore, 1)) (hxv : x.toInt8.toInt32 = x') (V : Arv Z h a kA .byte z vs dv) (hj : ¬ j < 0 ∧ j < z) (i : Nat) (hi : j.toNatClampNeg = i) (hlt : i < vs.length) (hna : n0 ≤ a) (hp : pc + 1 = pc')
    (K : ∀ T' h', W Z own nm bytes mx rt n0 p l e R s m args below meth c k n T' h' → Wr h h' a i (.int x') → Arv Z h' a kA .byte z (vs.set i (.int x')) dv → Go n0 p e below s Q CC NN T' (mkF m pc' Ls rest)) : Go n0 p e below s Q CC NN T (mkF m pc Ls (.int x :: .int j :: .ref a :: rest)) := by
  obtain ⟨hx, hb, hown, hZ, r1, r2, r3, r4, ⟨L, X, N⟩, eT⟩ := w
  obtain ⟨cl, A, q1, S, N1, H, Gf⟩ := V
  subst hxv
  obtain ⟨T', h', X', e', Wx, st⟩ := stB X hx hZ eT A (j := j) (x := x) (inb_of S hj) (g := mkF m pc Ls (.int x :: .int j :: .ref a :: rest)) rfl rfl (by rw [hb]; exact hd)
  obtain ⟨s₂, q, st', r⟩ := K T' h' ⟨hx, hb, hown, hZ, r1, r2, r3, r4, ⟨_, X', Fr.snoc X' N hna⟩, e'⟩ (hi ▸ Wx) (Arv.set A q1 S N1 H Gf (fits_nar_byte _) Wx i hi hlt)
  subst hp
  exact ⟨s₂, q, st _ st', r⟩

theorem giastore (w : W Z own nm bytes mx rt n0 p l e R s m args below meth c k n T h) {a : Addr} {kA : ClassId} {z j x x' : Int32} {vs : List Value} {dv : Value} (hd : decode bytes pc = .ok (.iastore, 1)) (hxv : x = x') (V : Arv Z h a kA .int z vs dv) (hj : ¬ j < 0 ∧ j < z) (i : Nat) (hi : j.toNatClampNeg = i) (hlt : i < vs.length) (hna : n0 ≤ a) (hp : pc + 1 = pc')
    (K : ∀ T' h', W Z own nm bytes mx rt n0 p l e R s m args below meth c k n T' h' → Wr h h' a i (.int x') → Arv Z h' a kA .int z (vs.set i (.int x')) dv → Go n0 p e below s Q CC NN T' (mkF m pc' Ls rest)) : Go n0 p e below s Q CC NN T (mkF m pc Ls (.int x :: .int j :: .ref a :: rest)) := by
  obtain ⟨hx, hb, hown, hZ, r1, r2, r3, r4, ⟨L, X, N⟩, eT⟩ := w
  obtain ⟨cl, A, q1, S, N1, H, Gf⟩ := V
  subst hxv
  obtain ⟨T', h', X', e', Wx, st⟩ := stI X hx hZ eT A (j := j) (x := x) (inb_of S hj) (g := mkF m pc Ls (.int x :: .int j :: .ref a :: rest)) rfl rfl (by rw [hb]; exact hd)
  obtain ⟨s₂, q, st', r⟩ := K T' h' ⟨hx, hb, hown, hZ, r1, r2, r3, r4, ⟨_, X', Fr.snoc X' N hna⟩, e'⟩ (hi ▸ Wx) (Arv.set A q1 S N1 H Gf rfl Wx i hi hlt)
  subst hp
  exact ⟨s₂, q, st _ st', r⟩

theorem gret0 (w : W Z own nm bytes mx none n0 p l e R s m args below meth c k n T h) (hd : decode bytes pc = .ok (.return_, 1)) (hk : k ≤ CC) (hn : n ≤ NN) (hQ : Q none h) : Go n0 p e below s Q CC NN T (mkF m pc Ls []) := by
  obtain ⟨hx, hb, hown, hZ, r1, r2, r3, r4, ⟨L, X, N⟩, eT⟩ := w
  obtain ⟨fs, hr, hrun, hended, hW, hsame⟩ := X.leave (v := none) (fun _ => rfl) r4
  refine ⟨_, _, X.returnOut hx r3 (by rw [hb]; exact hd) hr, hrun, hended, _, _, rfl, ⟨N, ?_⟩, ⟨_, rfl⟩, hW, hsame.mono hk hn⟩
  show Q none T.heap
  rw [eT]; exact hQ
theorem gret {t : FieldType} (w : W Z own nm bytes mx (some t) n0 p l e R s m args below meth c k n T h) {v : Value} {i : Instr} (hd : decode bytes pc = .ok (i, 1)) (hn' : narrow t v = v)
    (hi : (i = .ireturn ∧ (t = .int ∨ t = .boolean ∨ t = .byte ∨ t = .char ∨ t = .short) ∧ ∃ z, v = .int z) ∨ (i = .lreturn ∧ t = .long ∧ ∃ z, v = .long z) ∨ (i = .dreturn ∧ t = .double ∧ ∃ z, v = .double z) ∨ (i = .freturn ∧ t = .float ∧ ∃ z, v = .float z) ∨ (i = .areturn ∧ t.isReference = true ∧ v.isRef = true))
    (hk : k ≤ CC) (hn : n ≤ NN) (hQ : Q (some v) h) : Go n0 p e below s Q CC NN T (mkF m pc Ls (v :: rest)) := by
  obtain ⟨hx, hb, hown, hZ, r1, r2, r3, r4, ⟨L, X, N⟩, eT⟩ := w
  obtain ⟨fs, hr, hrun, hended, hW, hsame⟩ := X.leave (v := some v) (fun q => by rw [r3] at q; cases q) r4
  refine ⟨_, _, retOut X hx r3 hn' hi (by rw [hb]; exact hd) hr, hrun, hended, _, _, rfl, ⟨N, ?_⟩, ⟨_, rfl⟩, hW, hsame.mono hk hn⟩
  show Q (some v) T.heap
  rw [eT]; exact hQ
theorem gretI (w : W Z own nm bytes mx (some .int) n0 p l e R s m args below meth c k n T h) {v : Int32} (hd : decode bytes pc = .ok (.ireturn, 1)) (hk : k ≤ CC) (hn : n ≤ NN) (hQ : Q (some (.int v)) h) : Go n0 p e below s Q CC NN T (mkF m pc Ls (.int v :: rest)) :=
  gret w hd rfl (Or.inl ⟨rfl, Or.inl rfl, _, rfl⟩) hk hn hQ
theorem gretJ (w : W Z own nm bytes mx (some .long) n0 p l e R s m args below meth c k n T h) {v : Int64} (hd : decode bytes pc = .ok (.lreturn, 1)) (hk : k ≤ CC) (hn : n ≤ NN) (hQ : Q (some (.long v)) h) : Go n0 p e below s Q CC NN T (mkF m pc Ls (.long v :: rest)) :=
  gret w hd rfl (Or.inr (Or.inl ⟨rfl, rfl, _, rfl⟩)) hk hn hQ
theorem gretZ (w : W Z own nm bytes mx (some .boolean) n0 p l e R s m args below meth c k n T h) {v : Int32} (hd : decode bytes pc = .ok (.ireturn, 1)) (hv : narrow .boolean (.int v) = .int v) (hk : k ≤ CC) (hn : n ≤ NN) (hQ : Q (some (.int v)) h) : Go n0 p e below s Q CC NN T (mkF m pc Ls (.int v :: rest)) :=
  gret w hd hv (Or.inl ⟨rfl, Or.inr (Or.inl rfl), _, rfl⟩) hk hn hQ
theorem gretB (w : W Z own nm bytes mx (some .byte) n0 p l e R s m args below meth c k n T h) {v : Int32} (hd : decode bytes pc = .ok (.ireturn, 1)) (hv : narrow .byte (.int v) = .int v) (hk : k ≤ CC) (hn : n ≤ NN) (hQ : Q (some (.int v)) h) : Go n0 p e below s Q CC NN T (mkF m pc Ls (.int v :: rest)) :=
  gret w hd hv (Or.inl ⟨rfl, Or.inr (Or.inr (Or.inl rfl)), _, rfl⟩) hk hn hQ
theorem gretA {t : FieldType} (w : W Z own nm bytes mx (some t) n0 p l e R s m args below meth c k n T h) {v : Value} (hd : decode bytes pc = .ok (.areturn, 1)) (ht : t.isReference = true) (hv : v.isRef = true) (hn' : narrow t v = v) (hk : k ≤ CC) (hn : n ≤ NN) (hQ : Q (some v) h) : Go n0 p e below s Q CC NN T (mkF m pc Ls (v :: rest)) :=
  gret w hd hn' (Or.inr (Or.inr (Or.inr (Or.inr ⟨rfl, ht, hv⟩)))) hk hn hQ

theorem gcast (w : W Z own nm bytes mx rt n0 p l e R s m args below meth c k n T h) {index : Nat} {Kc : String} {a : Addr} (hd : decode bytes pc = .ok (.checkcast index, 3)) (w1 : (Jvm.Cond.classLink own index Kc).before a0 Z = true) (F : Ins Z h a Kc true) (hp : pc + 3 = pc')
    (K : ∀ T', W Z own nm bytes mx rt n0 p l e R s m args below meth c k n T' h → Go n0 p e below s Q CC NN T' (mkF m pc' Ls (.ref a :: rest))) : Go n0 p e below s Q CC NN T (mkF m pc Ls (.ref a :: rest)) := by
  obtain ⟨hx, hb, hown, hZ, r1, r2, r3, r4, ⟨L, X, N⟩, eT⟩ := w
  obtain ⟨T', X', e', st⟩ := castY X hx hZ hown w1 eT F (g := mkF m pc Ls (.ref a :: rest)) rfl rfl (by rw [hb]; exact hd)
  obtain ⟨s₂, q, st', r⟩ := K T' ⟨hx, hb, hown, hZ, r1, r2, r3, r4, ⟨L, X', N⟩, e'⟩
  subst hp
  exact ⟨s₂, q, st _ st', r⟩
theorem ginstY (w : W Z own nm bytes mx rt n0 p l e R s m args below meth c k n T h) {index : Nat} {Kc : String} {a : Addr} (hd : decode bytes pc = .ok (.instanceof index, 3)) (w1 : (Jvm.Cond.classLink own index Kc).before a0 Z = true) (F : Ins Z h a Kc true) (hp : pc + 3 = pc')
    (K : ∀ T', W Z own nm bytes mx rt n0 p l e R s m args below meth c k n T' h → Go n0 p e below s Q CC NN T' (mkF m pc' Ls (.int 1 :: rest))) : Go n0 p e below s Q CC NN T (mkF m pc Ls (.ref a :: rest)) := by
  obtain ⟨hx, hb, hown, hZ, r1, r2, r3, r4, ⟨L, X, N⟩, eT⟩ := w
  obtain ⟨T', X', e', st⟩ := instY X hx hZ hown w1 eT F (g := mkF m pc Ls (.ref a :: rest)) rfl rfl (by rw [hb]; exact hd)
  obtain ⟨s₂, q, st', r⟩ := K T' ⟨hx, hb, hown, hZ, r1, r2, r3, r4, ⟨L, X', N⟩, e'⟩
  subst hp
  exact ⟨s₂, q, st _ st', r⟩

theorem gcallS (w : W Z own nm bytes mx rt n0 p l e R s m args below meth c k n T h) {index : Nat} {y : MethodName} {yb : ByteArray} {ymx : Nat} {yr : Option FieldType} {rm : Room} {as : Array Value} {Q' : Option Value → Heap → Prop} {argsL : List Value} {stk : List Value} {ps : List FieldType} {ro : Option FieldType} {Wt : Nat} (hd : decode bytes pc = .ok (.invokestatic index, 3)) (w1 : (Jvm.Cond.methodLink own index y).before a0 Z = true) (w2 : (Jvm.Cond.static y).before a0 Z = true) (w3 : (Jvm.Cond.initialized y.cls).before a0 Z = true) (w4 : (Jvm.Cond.code y yb ymx yr).before a0 Z = true)
    (hy : y.cls ≠ "java/lang/invoke/MethodHandle" ∧ y.cls ≠ "java/lang/invoke/VarHandle") (hpd : parseMethodDescriptor y.desc = some ⟨ps, ro⟩) (ctr : Ctr l y yb ymx yr rm Z as h n0 Q' []) (has : argsL.toArray = as) (hlen : argsL.length = ps.length) (hst : stk = argsL.reverse ++ rest) (hsz : Ls.size = mx) (hW : (rest.map fun v => v.category).sum ≤ Wt) (hf : rm.frames + 1 ≤ R.frames) (hl : Wt + (ymx + 11) + rm.locals ≤ R.locals) (hc : k + rm.cells ≤ R.cells) (hs : n + rm.slots ≤ R.slots) (hp : pc + 3 = pc')
    (K : ∀ v T' h', W Z own nm bytes mx rt n0 p l e R s m args below meth c (k + rm.cells) (n + rm.slots) T' h' → Q' v h' → Go n0 p e below s Q CC NN T' (mkF m pc' Ls (v.toList ++ rest))) : Go n0 p e below s Q CC NN T (mkF m pc Ls stk) := by
  obtain ⟨hx, hb, hown, hZ, r1, r2, r3, r4, ⟨L, X, N⟩, eT⟩ := w
  obtain ⟨v, _, ⟨T', L', k', n'⟩, -, X', ⟨Lc, hQ, hl1, hc1, hs1⟩, st⟩ := Jvm.LawKit.callS X hx (y := y) hown (mvT hZ w1) (mvT hZ w2) (mvT hZ w3) (mvT hZ w4) hy (backOf (W := Wt) (Q := fun v h L => Fr n0 L ∧ Q' v h) ctr hZ w4 w3 hf hl) (g := mkF m pc Ls stk) rfl (hsz.trans r1.symm) (argsL := argsL) (rest := rest) (lenOf hpd hlen) hst (by show 2 * 0 + _ ≤ _; omega) (by rw [hb]; exact hd) (fun _ _ => ⟨has, eT, hc, hs⟩)
  dsimp only [Pt.U, Pt.locs, Pt.cells, Pt.slots] at X' st hQ hl1 hc1 hs1
  subst hl1 hc1 hs1
  obtain ⟨s₂, q, st', r⟩ := K v T' T'.heap ⟨hx, hb, hown, hZ, r1, r2, r3, r4, ⟨_, X', Fr.app N hQ.1⟩, rfl⟩ hQ.2
  subst hp
  exact ⟨s₂, q, st _ st', r⟩
theorem gcallN (w : W Z own nm bytes mx rt n0 p l e R s m args below meth c k n T h) {index : Nat} {y : MethodName} {yb : ByteArray} {ymx : Nat} {rm : Room} {as : Array Value} {Q' : Option Value → Heap → Prop} {argsL : List Value} {stk : List Value} {ps : List FieldType} {ro : Option FieldType} {Wt : Nat} {a : Addr} (hd : decode bytes pc = .ok (.invokespecial index, 3)) (w1 : (Jvm.Cond.methodLink own index y).before a0 Z = true) (w2 : (Jvm.Cond.instanceMethod y).before a0 Z = true) (w3 : (Jvm.Cond.initialized y.cls).before a0 Z = true) (w4 : (Jvm.Cond.code y yb ymx none).before a0 Z = true) (hyn : y.name = "<init>")
    (hy : y.cls ≠ "java/lang/invoke/MethodHandle" ∧ y.cls ≠ "java/lang/invoke/VarHandle") (hpd : parseMethodDescriptor y.desc = some ⟨ps, ro⟩) (ctr : Ctr l y yb ymx none rm Z as h n0 Q' []) (has : (.ref a :: argsL).toArray = as) (hlen : argsL.length = ps.length) (hst : stk = argsL.reverse ++ .ref a :: rest) (hsz : Ls.size = mx) (hW : (rest.map fun v => v.category).sum ≤ Wt) (hf : rm.frames + 1 ≤ R.frames) (hl : Wt + (ymx + 11) + rm.locals ≤ R.locals) (hc : k + rm.cells ≤ R.cells) (hs : n + rm.slots ≤ R.slots) (hp : pc + 3 = pc')
    (K : ∀ v T' h', W Z own nm bytes mx rt n0 p l e R s m args below meth c (k + rm.cells) (n + rm.slots) T' h' → Q' v h' → Go n0 p e below s Q CC NN T' (mkF m pc' Ls (v.toList ++ rest))) : Go n0 p e below s Q CC NN T (mkF m pc Ls stk) := by
  obtain ⟨hx, hb, hown, hZ, r1, r2, r3, r4, ⟨L, X, N⟩, eT⟩ := w
  obtain ⟨v, _, ⟨T', L', k', n'⟩, -, X', ⟨Lc, hQ, hl1, hc1, hs1⟩, st⟩ := X.specialBack hx (y := y) hyn hown (mvT hZ w1) (mvT hZ w2) (mvT hZ w4) hy (backOf (W := Wt) (Q := fun v h L => Fr n0 L ∧ Q' v h) ctr hZ w4 w3 hf hl) (g := mkF m pc Ls stk) rfl (hsz.trans r1.symm) (Steps.refl _) (a := a) (argsL := argsL) (rest := rest) (lenOf hpd hlen) hst (by show 2 * 0 + _ ≤ _; omega) (by rw [hb]; exact hd) (fun _ _ => ⟨has, eT, hc, hs⟩)
  dsimp only [Pt.U, Pt.locs, Pt.cells, Pt.slots] at X' st hQ hl1 hc1 hs1
  subst hl1 hc1 hs1
  obtain ⟨s₂, q, st', r⟩ := K v T' T'.heap ⟨hx, hb, hown, hZ, r1, r2, r3, r4, ⟨_, X', Fr.app N hQ.1⟩, rfl⟩ hQ.2
  subst hp
  exact ⟨s₂, q, st.trans st', r⟩
theorem gcallV (w : W Z own nm bytes mx rt n0 p l e R s m args below meth c k n T h) {index : Nat} {y : MethodName} {yb : ByteArray} {ymx : Nat} {yr : Option FieldType} {rm : Room} {as : Array Value} {Q' : Option Value → Heap → Prop} {argsL : List Value} {stk : List Value} {ps : List FieldType} {ro : Option FieldType} {Wt : Nat} {a : Addr} {C : String} (hd : decode bytes pc = .ok (.invokevirtual index, 3)) (w1 : (Jvm.Cond.methodLink own index y).before a0 Z = true) (w2 : (Jvm.Cond.declares y).before a0 Z = true) (w5 : (Jvm.Cond.selects C y y).before a0 Z = true) (w6 : (Jvm.Cond.instanceMethod y).before a0 Z = true) (w3 : (Jvm.Cond.initialized y.cls).before a0 Z = true) (w4 : (Jvm.Cond.code y yb ymx yr).before a0 Z = true)
    (E : Exa Z h a C) (hC : y.cls = C) (hy : y.cls ≠ "java/lang/invoke/MethodHandle" ∧ y.cls ≠ "java/lang/invoke/VarHandle") (hpd : parseMethodDescriptor y.desc = some ⟨ps, ro⟩) (ctr : Ctr l y yb ymx yr rm Z as h n0 Q' []) (has : (.ref a :: argsL).toArray = as) (hlen : argsL.length = ps.length) (hst : stk = argsL.reverse ++ .ref a :: rest) (hsz : Ls.size = mx) (hW : (rest.map fun v => v.category).sum ≤ Wt) (hf : rm.frames + 1 ≤ R.frames) (hl : Wt + (ymx + 11) + rm.locals ≤ R.locals) (hc : k + rm.cells ≤ R.cells) (hs : n + rm.slots ≤ R.slots) (hp : pc + 3 = pc')
    (K : ∀ v T' h', W Z own nm bytes mx rt n0 p l e R s m args below meth c (k + rm.cells) (n + rm.slots) T' h' → Q' v h' → Go n0 p e below s Q CC NN T' (mkF m pc' Ls (v.toList ++ rest))) : Go n0 p e below s Q CC NN T (mkF m pc Ls stk) := by
  obtain ⟨hx, hb, hown, hZ, r1, r2, r3, r4, ⟨L, X, N⟩, eT⟩ := w
  obtain ⟨cq, kq, qa, qb, qc⟩ := isOf hZ eT E
  subst hC
  obtain ⟨v, _, ⟨T', L', k', n'⟩, -, X', ⟨Lc, hQ, hl1, hc1, hs1⟩, st⟩ := X.virtualBack hx (y := y) (z := y) hown (mvT hZ w1) (mvT hZ w2) (notFace_of_selects (args := #[]) (mvT hZ w5)) (mvT hZ w5) (mvT hZ w6) hy (backOf (W := Wt) (Q := fun v h L => Fr n0 L ∧ Q' v h) ctr hZ w4 w3 hf hl) qa qc (g := mkF m pc Ls stk) rfl (hsz.trans r1.symm) (Steps.refl _) (argsL := argsL) (rest := rest) (lenOf hpd hlen) hst (by show 2 * 0 + _ ≤ _; omega) (by rw [hb]; exact hd) (fun _ _ => ⟨has, eT, hc, hs⟩)
  dsimp only [Pt.U, Pt.locs, Pt.cells, Pt.slots] at X' st hQ hl1 hc1 hs1
  subst hl1 hc1 hs1
  obtain ⟨s₂, q, st', r⟩ := K v T' T'.heap ⟨hx, hb, hown, hZ, r1, r2, r3, r4, ⟨_, X', Fr.app N hQ.1⟩, rfl⟩ hQ.2
  subst hp
  exact ⟨s₂, q, st.trans st', r⟩
theorem gaaload (w : W Z own nm bytes mx rt n0 p l e R s m args below meth c k n T h) {a : Addr} {cl : Cell} {ty : FieldType} {j : Int32} {v : Value} (hd : decode bytes pc = .ok (.aaload, 1)) (A : Arr Z h a cl ty) (hty : ty.isReference = true) (hin : ¬ (j < 0 ∨ cl.slots.size ≤ j.toNatClampNeg)) (hv : cl.slots[j.toNatClampNeg]? = some v) (hp : pc + 1 = pc') (K : Go n0 p e below s Q CC NN T (mkF m pc' Ls (v :: rest))) : Go n0 p e below s Q CC NN T (mkF m pc Ls (.int j :: .ref a :: rest)) := by
  obtain ⟨hx, hb, hown, hZ, r1, r2, r3, r4, ⟨L, X, N⟩, eT⟩ := w
  obtain ⟨s₂, q, st', r⟩ := K
  subst hp
  exact ⟨s₂, q, X.aaload hx (j := j) (v := v) (by rw [eT]; exact A.1) (State.isArrayOf_alike hZ.alike A.2.1) hty A.2.2 hin hv (g := mkF m pc Ls (.int j :: .ref a :: rest)) rfl rfl (by rw [hb]; exact hd) _ st', r⟩
theorem glenA (w : W Z own nm bytes mx rt n0 p l e R s m args below meth c k n T h) {a : Addr} {cl : Cell} {ty : FieldType} {z : Int32} (hd : decode bytes pc = .ok (.arraylength, 1)) (A : Arr Z h a cl ty) (hz : cl.slots.size.toInt32 = z) (hp : pc + 1 = pc') (K : Go n0 p e below s Q CC NN T (mkF m pc' Ls (.int z :: rest))) : Go n0 p e below s Q CC NN T (mkF m pc Ls (.ref a :: rest)) := by
  obtain ⟨hx, hb, hown, hZ, r1, r2, r3, r4, ⟨L, X, N⟩, eT⟩ := w
  obtain ⟨s₂, q, st', r⟩ := K
  subst hp hz
  exact ⟨s₂, q, X.arraylength hx (by rw [eT]; exact A.1) (State.isArrayOf_alike hZ.alike A.2.1) (g := mkF m pc Ls (.ref a :: rest)) rfl rfl (by rw [hb]; exact hd) _ st', r⟩
theorem gclone (w : W Z own nm bytes mx rt n0 p l e R s m args below meth c k n T h) {index Wt cap : Nat} {ad : String} {a : Addr} {cl : Cell} {ty : FieldType} (hd : decode bytes pc = .ok (.invokevirtual index, 3)) (w1 : (Jvm.Cond.methodLink own index ⟨ad, "clone", "()Ljava/lang/Object;"⟩).before a0 Z = true) (w2 : (Jvm.Cond.sameMethod ad "java/lang/Object" "clone" "()Ljava/lang/Object;").before a0 Z = true) (w3 : (Jvm.Cond.native ⟨"java/lang/Object", "clone", "()Ljava/lang/Object;"⟩).before a0 Z = true)
    (w4 : (Jvm.Cond.instanceMethod ⟨"java/lang/Object", "clone", "()Ljava/lang/Object;"⟩).before a0 Z = true) (w5 : (Jvm.Cond.selects ad ⟨ad, "clone", "()Ljava/lang/Object;"⟩ ⟨"java/lang/Object", "clone", "()Ljava/lang/Object;"⟩).before a0 Z = true) (w6 : (Jvm.Cond.castable ad "java/lang/Cloneable").before a0 Z = true)
    (A : Arr Z h a cl ty) (E : Exa Z h a ad) (F : FitC Z cl) (hsz : Ls.size = mx) (hf : 1 ≤ R.frames) (hW : (rest.map fun v => v.category).sum ≤ Wt) (hl : Wt + 14 ≤ R.locals) (hcap : cl.slots.size ≤ cap) (hc : k + 1 ≤ R.cells) (hsl : n + cap ≤ R.slots) (hp : pc + 3 = pc')
    (K : ∀ T' h' a', h.size = a' → W Z own nm bytes mx rt n0 p l e R s m args below meth c (k + 1) (n + cap) T' h' → Ext h h' → Arr Z h' a' (cloneOf cl) ty → Exa Z h' a' ad → Go n0 p e below s Q CC NN T' (mkF m pc' Ls (.ref a' :: rest))) : Go n0 p e below s Q CC NN T (mkF m pc Ls (.ref a :: rest)) := by
  obtain ⟨hx, hb, hown, hZ, r1, r2, r3, r4, ⟨L, X, N⟩, eT⟩ := w
  obtain ⟨T', h', X', e', Ex, A', E', st⟩ := cloneA X hx hZ hown w1 w2 w3 w4 w5 w6 eT A E F (g := mkF m pc Ls (.ref a :: rest)) rfl (hsz.trans r1.symm) rfl (by rw [hb]; exact hd) hf (W := Wt) (by show 2 * 0 + _ ≤ _; omega) hl hcap hc hsl
  obtain ⟨s₂, q, st', r⟩ := K T' h' _ rfl ⟨hx, hb, hown, hZ, r1, r2, r3, r4, ⟨_, X', N⟩, e'⟩ Ex A' E'
  subst hp
  exact ⟨s₂, q, st _ st', r⟩
theorem metGoH {y : MethodName} {rm : Room} {as : Array Value} {ws : List Jvm.Cond} (hpn : plainFor y = true) (hef : ∀ m, entryFrame m as mx = mkF m 0 Ls [])
    (H : ∀ (p : Program) (e : Env) (s : State) (m : MethodId) (below : List Frame) (meth : Method) (c : Code) (T : State), W Z y.cls y.name bytes mx rt n0 p l e rm s m as below meth c 0 0 T h → s.heap = h → Go n0 p e below s Q rm.cells rm.slots T (mkF m 0 Ls [])) : Ctr l y bytes mx rt rm Z as h n0 Q ws := by
  refine MetFree.of_bodySF hpn hisR ?_
  intro p e s m args below meth c s₁ Bd hml0 hP hK
  obtain ⟨rfl, hZ, hh⟩ := hP
  have e0 : s₁.heap = h := by rw [← hh, Bd.state]; rfl
  obtain ⟨s₂, o, st, r⟩ := H p e s m below meth c s₁ ⟨Bd.exec, Bd.bytes, findClass_of_methodNamed Bd.named, hZ, hml0, (name_of_methodNamed Bd.named Bd.method).1, Bd.returns, Bd.notSynchronized, ⟨[], Stand.of_body Bd, Fr.nil n0⟩, e0⟩ hh
  exact ⟨s₂, o, castTop (hef m) st, r⟩
theorem ginst0 (w : W Z own nm bytes mx rt n0 p l e R s m args below meth c k n T h) {index : Nat} (hd : decode bytes pc = .ok (.instanceof index, 3)) (hp : pc + 3 = pc') (K : Go n0 p e below s Q CC NN T (mkF m pc' Ls (.int 0 :: rest))) : Go n0 p e below s Q CC NN T (mkF m pc Ls (.null :: rest)) := by
  obtain ⟨hx, hb, -, -, -, -, -, -, ⟨L, X, -⟩, -⟩ := w
  obtain ⟨s₂, q, st, r⟩ := K
  subst hb hp
  exact ⟨s₂, q, X.instanceofNull hx (g := mkF m pc Ls (.null :: rest)) rfl rfl hd _ st, r⟩
theorem ginstN (w : W Z own nm bytes mx rt n0 p l e R s m args below meth c k n T h) (hs : s.heap = h) {index : Nat} {Kc C : String} {a : Addr} (hd : decode bytes pc = .ok (.instanceof index, 3)) (w1 : (Jvm.Cond.classLink own index Kc).before a0 Z = true) (F : Ins Z h a Kc false) (E : Exa Z h a C) (hp : pc + 3 = pc')
    (K : ∀ T', W Z own nm bytes mx rt n0 p l e R s m args below meth c k n T' h → Go n0 p e below s Q CC NN T' (mkF m pc' Ls (.int 0 :: rest))) : Go n0 p e below s Q CC NN T (mkF m pc Ls (.ref a :: rest)) := by
  obtain ⟨hx, hb, hown, hZ, r1, r2, r3, r4, ⟨L, X, N⟩, eT⟩ := w
  obtain ⟨T', X', e', st⟩ := instN X hx hZ hown w1 eT (hs ▸ F) (hs ▸ E) (g := mkF m pc Ls (.ref a :: rest)) rfl rfl (by rw [hb]; exact hd)
  obtain ⟨s₂, q, st', r⟩ := K T' ⟨hx, hb, hown, hZ, r1, r2, r3, r4, ⟨L, X', N⟩, e'⟩
  subst hp
  exact ⟨s₂, q, st _ st', r⟩
theorem gcopy (w : W Z own nm bytes mx rt n0 p l e R s m args below meth c k n T h) {index Wt : Nat} {a b : Addr} {ka kb : ClassId} {z z' sp dp nn : Int32} {vs vd : List Value} {dv dd : Value} (hd : decode bytes pc = .ok (.invokestatic index, 3)) (w1 : (Jvm.Cond.methodLink own index Jvm.Stand.acN).before a0 Z = true) (w2 : (Jvm.Cond.native Jvm.Stand.acN).before a0 Z = true) (w3 : (Jvm.Cond.static Jvm.Stand.acN).before a0 Z = true) (w4 : (Jvm.Cond.initialized "java/lang/System").before a0 Z = true)
    (A : Arv Z h a ka .byte z vs dv) (B : Arv Z h b kb .byte z' vd dd) (h1 : ¬ sp < 0) (h2 : ¬ dp < 0) (h3 : ¬ nn < 0) (h4 : sp.toNatClampNeg + nn.toNatClampNeg ≤ z.toNatClampNeg) (h5 : dp.toNatClampNeg + nn.toNatClampNeg ≤ z'.toNatClampNeg) (hlv : dp.toNatClampNeg + nn.toNatClampNeg ≤ vd.length) (ge : n0 ≤ b)
    (hsz : Ls.size = mx) (hf : 1 ≤ R.frames) (hW : (rest.map fun v => v.category).sum ≤ Wt) (hlo : Wt + (nativeFrameWords "java/lang/System" "arraycopy" 5 + 11) ≤ R.locals) (hp : pc + 3 = pc')
    (K : ∀ T' h' us, W Z own nm bytes mx rt n0 p l e R s m args below meth c k n T' h' → Keep h h' [b] → us.length = nn.toNatClampNeg → Arv Z h' b kb .byte z' (vd.take dp.toNatClampNeg ++ us ++ vd.drop (dp.toNatClampNeg + nn.toNatClampNeg)) dd → Go n0 p e below s Q CC NN T' (mkF m pc' Ls rest)) : Go n0 p e below s Q CC NN T (mkF m pc Ls (.int nn :: .int dp :: .ref b :: .int sp :: .ref a :: rest)) := by
  obtain ⟨hx, hb, hown, hZ, r1, r2, r3, r4, ⟨L, X, N⟩, eT⟩ := w
  obtain ⟨T', h', L', X', e', N', Kp, V', st⟩ := cpA X hx hZ hown w1 w2 w3 w4 eT A B (Or.inl ⟨rfl, rfl⟩) h1 h2 h3 h4 h5 rfl hlv N ge (g := mkF m pc Ls (.int nn :: .int dp :: .ref b :: .int sp :: .ref a :: rest)) rfl (hsz.trans r1.symm) rfl (by rw [hb]; exact hd) hf (W := Wt) (by show 2 * 0 + _ ≤ _; omega) hlo
  obtain ⟨s₂, q, st', r⟩ := K T' h' _ ⟨hx, hb, hown, hZ, r1, r2, r3, r4, ⟨_, X', N'⟩, e'⟩ Kp (by rw [List.length_map, List.length_range]) V'
  subst hp
  exact ⟨s₂, q, st _ st', r⟩
theorem gifnullV (w : W Z own nm bytes mx rt n0 p l e R s m args below meth c k n T h) {v : Value} {o : Int} {pt pf : Nat} (hd : decode bytes pc = .ok (.ifnull o, 3)) (ho : 0 ≤ (pc : Int) + o) (ht : ((pc : Int) + o).toNat = pt) (hf : pc + 3 = pf) (hv : v.isRef = true) (Kt : v = .null → Go n0 p e below s Q CC NN T (mkF m pt Ls rest)) (Kf : ¬ v = .null → Go n0 p e below s Q CC NN T (mkF m pf Ls rest)) : Go n0 p e below s Q CC NN T (mkF m pc Ls (v :: rest)) := by
  rcases ref_cases hv with rfl | ⟨a, rfl⟩
  · exact gifnullY w hd ho ht (Kt rfl)
  · exact gifnullN w hd hf (Kf nofun)
theorem wmono (w : W Z own nm bytes mx rt n0 p l e R s m args below meth c k n T h) {k' n' : Nat} (hk : k ≤ k') (hn : n ≤ n') : W Z own nm bytes mx rt n0 p l e R s m args below meth c k' n' T h := by
  obtain ⟨hx, hb, hown, hZ, r1, r2, r3, r4, ⟨L, X, N⟩, eT⟩ := w
  exact ⟨hx, hb, hown, hZ, r1, r2, r3, r4, ⟨L, ⟨X.admits, X.cas, X.clock, X.frames, X.room, X.hears, X.method, X.code, X.here, X.tail, X.warmed, X.limits, X.bytes, X.same.mono hk hn⟩, N⟩, eT⟩
theorem gcallP (w : W Z own nm bytes mx rt n0 p l e R s m args below meth c k n T h) {index : Nat} {y : MethodName} {yb : ByteArray} {ymx : Nat} {yr : Option FieldType} {rm : Room} {as : Array Value} {Q' : Option Value → Heap → Prop} {argsL : List Value} {stk : List Value} {ps : List FieldType} {ro : Option FieldType} {Wt : Nat} {a : Addr} {C : String} {ji : Nat} (hd : decode bytes pc = .ok (.invokevirtual index, 3)) (w1 : (Jvm.Cond.methodLink own index y).before a0 Z = true) (w2 : (Jvm.Cond.instanceMethod y).before a0 Z = true) (w5 : (Jvm.Cond.instantiable y.cls ji).before a0 Z = true) (w6 : (Jvm.Cond.privateMethod y).before a0 Z = true) (w3 : (Jvm.Cond.initialized y.cls).before a0 Z = true) (w4 : (Jvm.Cond.code y yb ymx yr).before a0 Z = true)
    (E : Exa Z h a C) (hy : y.cls ≠ "java/lang/invoke/MethodHandle" ∧ y.cls ≠ "java/lang/invoke/VarHandle") (hpd : parseMethodDescriptor y.desc = some ⟨ps, ro⟩) (ctr : Ctr l y yb ymx yr rm Z as h n0 Q' []) (has : (.ref a :: argsL).toArray = as) (hlen : argsL.length = ps.length) (hst : stk = argsL.reverse ++ .ref a :: rest) (hsz : Ls.size = mx) (hW : (rest.map fun v => v.category).sum ≤ Wt) (hf : rm.frames + 1 ≤ R.frames) (hl : Wt + (ymx + 11) + rm.locals ≤ R.locals) (hc : k + rm.cells ≤ R.cells) (hs : n + rm.slots ≤ R.slots) (hp : pc + 3 = pc')
    (K : ∀ v T' h', W Z own nm bytes mx rt n0 p l e R s m args below meth c (k + rm.cells) (n + rm.slots) T' h' → Q' v h' → Go n0 p e below s Q CC NN T' (mkF m pc' Ls (v.toList ++ rest))) : Go n0 p e below s Q CC NN T (mkF m pc Ls stk) := by
  obtain ⟨hx, hb, hown, hZ, r1, r2, r3, r4, ⟨L, X, N⟩, eT⟩ := w
  obtain ⟨cq, qa, qb⟩ := E.cell
  obtain ⟨ci, ki, i1, i2, -, i4, -, -⟩ := Cond.instantiable_spec (mvT hZ w5 (args := #[]))
  have hni : ki.isInterface = false := (Bool.or_eq_false_iff.mp i4).1
  have hpr := Cond.privateMethod_at (mvP hZ w6 (args := #[]))
  have hsel := selects_self_of_private (args := args) i1 i2 hni hpr (mvT hZ w2) hy
  obtain ⟨v, _, ⟨T', L', k', n'⟩, -, X', ⟨Lc, hQ, hl1, hc1, hs1⟩, st⟩ := X.privateBack hx (y := y) hown (mvT hZ w1) (mvT hZ w2) hsel hpr (mvT hZ w4) hy (backOf (W := Wt) (Q := fun v h L => Fr n0 L ∧ Q' v h) ctr hZ w4 w3 hf hl) (g := mkF m pc Ls stk) rfl (hsz.trans r1.symm) (Steps.refl _) (a := a) (by rw [eT]; exact qa) qb (argsL := argsL) (rest := rest) (lenOf hpd hlen) hst (by show 2 * 0 + _ ≤ _; omega) (by rw [hb]; exact hd) (fun _ _ => ⟨has, eT, hc, hs⟩)
  dsimp only [Pt.U, Pt.locs, Pt.cells, Pt.slots] at X' st hQ hl1 hc1 hs1
  subst hl1 hc1 hs1
  obtain ⟨s₂, q, st', r⟩ := K v T' T'.heap ⟨hx, hb, hown, hZ, r1, r2, r3, r4, ⟨_, X', Fr.app N hQ.1⟩, rfl⟩ hQ.2
  subst hp
  exact ⟨s₂, q, st.trans st', r⟩
theorem ref_cat {v : Value} (h : v.isRef = true) : v.category = 1 := by
  rcases ref_cases h with rfl | ⟨a, rfl⟩ <;> rfl
theorem own_bb (y : Int32) : y.toInt8.toInt32.toInt8.toInt32 = y.toInt8.toInt32 := by rw [Int8.toInt8_toInt32]
end GoKit

theorem d1_0 : decode method_3_code 0 = .ok (.lload_n 0, 1) := by decide +kernel
theorem d1_1 : decode method_3_code 1 = .ok (.bipush 8, 2) := by decide +kernel
theorem d1_3 : decode method_3_code 3 = .ok (.iload_n 2, 1) := by decide +kernel
theorem d1_4 : decode method_3_code 4 = .ok (.imul, 1) := by decide +kernel
theorem d1_5 : decode method_3_code 5 = .ok (.lushr, 1) := by decide +kernel
theorem d1_6 : decode method_3_code 6 = .ok (.ldc2_w 7, 3) := by decide +kernel
theorem d1_9 : decode method_3_code 9 = .ok (.land, 1) := by decide +kernel
theorem d1_10 : decode method_3_code 10 = .ok (.l2i, 1) := by decide +kernel
theorem d1_11 : decode method_3_code 11 = .ok (.istore 5, 2) := by decide +kernel
theorem d1_13 : decode method_3_code 13 = .ok (.iload 5, 2) := by decide +kernel
theorem d1_15 : decode method_3_code 15 = .ok (.iload_n 3, 1) := by decide +kernel
theorem d1_16 : decode method_3_code 16 = .ok (.if_icmp .lt 19, 3) := by decide +kernel
theorem d1_19 : decode method_3_code 19 = .ok (.iload 5, 2) := by decide +kernel
theorem d1_21 : decode method_3_code 21 = .ok (.iload 4, 2) := by decide +kernel
theorem d1_23 : decode method_3_code 23 = .ok (.if_icmp .gt 12, 3) := by decide +kernel
theorem d1_26 : decode method_3_code 26 = .ok (.ldc2_w 23, 3) := by decide +kernel
theorem d1_29 : decode method_3_code 29 = .ok (.bipush 8, 2) := by decide +kernel
theorem d1_31 : decode method_3_code 31 = .ok (.iload_n 2, 1) := by decide +kernel
theorem d1_32 : decode method_3_code 32 = .ok (.imul, 1) := by decide +kernel
theorem d1_33 : decode method_3_code 33 = .ok (.lshl, 1) := by decide +kernel
theorem d1_34 : decode method_3_code 34 = .ok (.lreturn, 1) := by decide +kernel
theorem d1_35 : decode method_3_code 35 = .ok (.lconst 0, 1) := by decide +kernel
theorem d1_36 : decode method_3_code 36 = .ok (.lreturn, 1) := by decide +kernel
theorem pn_d1 : plainFor (⟨"com/example/antecedent/antecedent/trace/WordsBetweenPinLaw", "bit", "(JIII)J"⟩ : MethodName) = true := by first | (refine plainFor_of_name ?_; simp [plainName, overriddenIn]; done) | decide +kernel
theorem pd_d1 : parseMethodDescriptor "(JIII)J" = some ⟨[.long, .int, .int, .int], some .long⟩ := by decide +kernel
theorem d2_0 : decode prog_60_method_8_code 0 = .ok (.lload_n 0, 1) := by decide +kernel
theorem d2_1 : decode prog_60_method_8_code 1 = .ok (.ldc2_w 32, 3) := by decide +kernel
theorem d2_4 : decode prog_60_method_8_code 4 = .ok (.land, 1) := by decide +kernel
theorem d2_5 : decode prog_60_method_8_code 5 = .ok (.lstore 4, 2) := by decide +kernel
theorem d2_7 : decode prog_60_method_8_code 7 = .ok (.lload 4, 2) := by decide +kernel
theorem d2_9 : decode prog_60_method_8_code 9 = .ok (.ldc2_w 34, 3) := by decide +kernel
theorem d2_12 : decode prog_60_method_8_code 12 = .ok (.sipush 128, 3) := by decide +kernel
theorem d2_15 : decode prog_60_method_8_code 15 = .ok (.iload_n 2, 1) := by decide +kernel
theorem d2_16 : decode prog_60_method_8_code 16 = .ok (.isub, 1) := by decide +kernel
theorem d2_17 : decode prog_60_method_8_code 17 = .ok (.i2l, 1) := by decide +kernel
theorem d2_18 : decode prog_60_method_8_code 18 = .ok (.lmul, 1) := by decide +kernel
theorem d2_19 : decode prog_60_method_8_code 19 = .ok (.ladd, 1) := by decide +kernel
theorem d2_20 : decode prog_60_method_8_code 20 = .ok (.lstore 6, 2) := by decide +kernel
theorem d2_22 : decode prog_60_method_8_code 22 = .ok (.lload 4, 2) := by decide +kernel
theorem d2_24 : decode prog_60_method_8_code 24 = .ok (.ldc2_w 34, 3) := by decide +kernel
theorem d2_27 : decode prog_60_method_8_code 27 = .ok (.sipush 128, 3) := by decide +kernel
theorem d2_30 : decode prog_60_method_8_code 30 = .ok (.iload_n 3, 1) := by decide +kernel
theorem d2_31 : decode prog_60_method_8_code 31 = .ok (.isub, 1) := by decide +kernel
theorem d2_32 : decode prog_60_method_8_code 32 = .ok (.iconst 1, 1) := by decide +kernel
theorem d2_33 : decode prog_60_method_8_code 33 = .ok (.isub, 1) := by decide +kernel
theorem d2_34 : decode prog_60_method_8_code 34 = .ok (.i2l, 1) := by decide +kernel
theorem d2_35 : decode prog_60_method_8_code 35 = .ok (.lmul, 1) := by decide +kernel
theorem d2_36 : decode prog_60_method_8_code 36 = .ok (.ladd, 1) := by decide +kernel
theorem d2_37 : decode prog_60_method_8_code 37 = .ok (.lstore 8, 2) := by decide +kernel
theorem d2_39 : decode prog_60_method_8_code 39 = .ok (.lload 6, 2) := by decide +kernel
theorem d2_41 : decode prog_60_method_8_code 41 = .ok (.lload 8, 2) := by decide +kernel
theorem d2_43 : decode prog_60_method_8_code 43 = .ok (.ldc2_w 30, 3) := by decide +kernel
theorem d2_46 : decode prog_60_method_8_code 46 = .ok (.lxor, 1) := by decide +kernel
theorem d2_47 : decode prog_60_method_8_code 47 = .ok (.land, 1) := by decide +kernel
theorem d2_48 : decode prog_60_method_8_code 48 = .ok (.lload_n 0, 1) := by decide +kernel
theorem d2_49 : decode prog_60_method_8_code 49 = .ok (.ldc2_w 30, 3) := by decide +kernel
theorem d2_52 : decode prog_60_method_8_code 52 = .ok (.lxor, 1) := by decide +kernel
theorem d2_53 : decode prog_60_method_8_code 53 = .ok (.land, 1) := by decide +kernel
theorem d2_54 : decode prog_60_method_8_code 54 = .ok (.ldc2_w 40, 3) := by decide +kernel
theorem d2_57 : decode prog_60_method_8_code 57 = .ok (.land, 1) := by decide +kernel
theorem d2_58 : decode prog_60_method_8_code 58 = .ok (.lreturn, 1) := by decide +kernel
theorem pn_d2 : plainFor (⟨"com/example/antecedent/antecedent/trace/Words", "between", "(JII)J"⟩ : MethodName) = true := by first | (refine plainFor_of_name ?_; simp [plainName, overriddenIn]; done) | decide +kernel
theorem pd_d2 : parseMethodDescriptor "(JII)J" = some ⟨[.long, .int, .int], some .long⟩ := by decide +kernel
theorem pn_at0 : plainName "com/example/antecedent/antecedent/trace/WordsBetweenPinLaw" = true := by first | (simp [plainName, overriddenIn]; done) | decide +kernel
theorem pn_at : plainFor x = true := plainFor_of_name pn_at0
variable {p : Program} {l : Launch} {e : Env} {s : State} {m : MethodId} {args : Array Value} {below : List Frame} {meth : Method} {c : Code} {T : State} {Z : State} {n0 : Nat} {h : Heap} {a0 : Array Value}
def own_bt (wd : Int64) (le mo : Int32) : Int64 := (((((wd &&& (9187201950435737471 : Int64)) + ((72340172838076673 : Int64) * (((128 : Int32) - le).toInt64))) &&& (((wd &&& (9187201950435737471 : Int64)) + ((72340172838076673 : Int64) * ((((128 : Int32) - mo) - (1 : Int32)).toInt64))) ^^^ (-1 : Int64))) &&& (wd ^^^ (-1 : Int64))) &&& (-9187201950435737472 : Int64))
def own_by (wd : Int64) (i : Int32) : Int32 := (((wd.toUInt64 >>> (((8 : Int32) * i) &&& 0x3f).toInt64.toUInt64).toInt64) &&& (255 : Int64)).toInt32
def own_bit (wd : Int64) (i le mo : Int32) : Int64 := if own_by wd i < le then 0 else if mo < own_by wd i then 0 else ((128 : Int64) <<< (((8 : Int32) * i) &&& 0x3f).toInt64)
theorem own_inj {x y : Int64} (q : x.toBitVec.toNat = y.toBitVec.toNat) : x = y := Int64.toBitVec_inj.mp (BitVec.eq_of_toNat_eq q)
def dg (n i : Nat) : Nat := n / 256 ^ i % 256
theorem dg_and (n m i : Nat) : dg (n &&& m) i = dg n i &&& dg m i := by
  unfold dg
  rw [show 256 ^ i = 2 ^ (8 * i) from by rw [Nat.pow_mul]]
  rw [← Nat.shiftRight_eq_div_pow, ← Nat.shiftRight_eq_div_pow, ← Nat.shiftRight_eq_div_pow, Nat.shiftRight_and_distrib, show 256 = 2 ^ 8 from rfl, Nat.and_mod_two_pow]
theorem dg_or (n m i : Nat) : dg (n ||| m) i = dg n i ||| dg m i := by
  unfold dg
  rw [show 256 ^ i = 2 ^ (8 * i) from by rw [Nat.pow_mul]]
  rw [← Nat.shiftRight_eq_div_pow, ← Nat.shiftRight_eq_div_pow, ← Nat.shiftRight_eq_div_pow, Nat.shiftRight_or_distrib, show 256 = 2 ^ 8 from rfl, Nat.or_mod_two_pow]
theorem dg_xor (n m i : Nat) : dg (n ^^^ m) i = dg n i ^^^ dg m i := by
  unfold dg
  rw [show 256 ^ i = 2 ^ (8 * i) from by rw [Nat.pow_mul]]
  rw [← Nat.shiftRight_eq_div_pow, ← Nat.shiftRight_eq_div_pow, ← Nat.shiftRight_eq_div_pow, Nat.shiftRight_xor_distrib, show 256 = 2 ^ 8 from rfl, Nat.xor_mod_two_pow]
theorem dg_ext {n m : Nat} (hn : n < 18446744073709551616) (hm : m < 18446744073709551616) (q : ∀ i, i < 8 → dg n i = dg m i) : n = m := by
  have q0 := q 0 (by decide)
  have q1 := q 1 (by decide)
  have q2 := q 2 (by decide)
  have q3 := q 3 (by decide)
  have q4 := q 4 (by decide)
  have q5 := q 5 (by decide)
  have q6 := q 6 (by decide)
  have q7 := q 7 (by decide)
  simp only [dg, Nat.reducePow, Nat.div_one] at q0 q1 q2 q3 q4 q5 q6 q7
  omega
theorem dg_lt (n i : Nat) : dg n i < 256 := Nat.mod_lt _ (by decide)
theorem dg_num (n : Nat) (hn : n < 18446744073709551616) : n = dg n 0 + 256 * dg n 1 + 65536 * dg n 2 + 16777216 * dg n 3 + 4294967296 * dg n 4 + 1099511627776 * dg n 5 + 281474976710656 * dg n 6 + 72057594037927936 * dg n 7 := by
  simp only [dg, Nat.reducePow, Nat.div_one]
  omega
theorem dg_sum (d : Nat → Nat) (h : ∀ i, d i < 256) (i : Nat) (hi : i < 8) : dg (d 0 + 256 * d 1 + 65536 * d 2 + 16777216 * d 3 + 4294967296 * d 4 + 1099511627776 * d 5 + 281474976710656 * d 6 + 72057594037927936 * d 7) i = d i := by
  have h0 := h 0
  have h1 := h 1
  have h2 := h 2
  have h3 := h 3
  have h4 := h 4
  have h5 := h 5
  have h6 := h 6
  have h7 := h 7
  have c : i = 0 ∨ i = 1 ∨ i = 2 ∨ i = 3 ∨ i = 4 ∨ i = 5 ∨ i = 6 ∨ i = 7 := by omega
  rcases c with rfl | rfl | rfl | rfl | rfl | rfl | rfl | rfl <;> simp only [dg, Nat.reducePow, Nat.div_one] <;> omega
theorem own_h (x : Nat) (hx : x < 256) : x &&& 128 = if 128 ≤ x then 128 else 0 := by
  have g : ∀ q : Fin 256, q.1 &&& 128 = if 128 ≤ q.1 then 128 else 0 := by decide +kernel
  exact g ⟨x, hx⟩
theorem own_hx (x : Nat) (hx : x < 256) : (x ^^^ 255) &&& 128 = if 128 ≤ x then 0 else 128 := by
  have g : ∀ q : Fin 256, (q.1 ^^^ 255) &&& 128 = if 128 ≤ q.1 then 0 else 128 := by decide +kernel
  exact g ⟨x, hx⟩
theorem own_7f (x : Nat) : x &&& 127 = x % 128 := Nat.and_two_pow_sub_one_eq_mod x 7
theorem own_dig {B t u L M : Nat} (hB : B < 256) (ht : t = B % 128 + (128 - L)) (hu : u = B % 128 + (127 - M)) (hL : L < 128) (hM : M < 128) : (((t &&& (u ^^^ 255)) &&& (B ^^^ 255)) &&& 128) = if B < L then 0 else if M < B then 0 else 128 := by
  have e : (((t &&& (u ^^^ 255)) &&& (B ^^^ 255)) &&& 128) = (t &&& 128) &&& (((u ^^^ 255) &&& 128) &&& ((B ^^^ 255) &&& 128)) := by
    rw [show (t &&& 128) &&& (((u ^^^ 255) &&& 128) &&& ((B ^^^ 255) &&& 128)) = ((t &&& (u ^^^ 255)) &&& (B ^^^ 255)) &&& (128 &&& (128 &&& 128)) from by ac_rfl]
    rfl
  rw [e, own_h t (by omega), own_hx u (by omega), own_hx B hB]
  split <;> split <;> split <;> (try split) <;> (try split) <;> first | rfl | omega
theorem own_tN (wd c : Int64) (k : Nat) (hc : c.toBitVec.toNat = k) (hk : k ≤ 128) : ((wd &&& (9187201950435737471 : Int64)) + (72340172838076673 : Int64) * c).toBitVec.toNat = (dg wd.toBitVec.toNat 0 % 128 + k) + 256 * (dg wd.toBitVec.toNat 1 % 128 + k) + 65536 * (dg wd.toBitVec.toNat 2 % 128 + k) + 16777216 * (dg wd.toBitVec.toNat 3 % 128 + k) + 4294967296 * (dg wd.toBitVec.toNat 4 % 128 + k) + 1099511627776 * (dg wd.toBitVec.toNat 5 % 128 + k) + 281474976710656 * (dg wd.toBitVec.toNat 6 % 128 + k) + 72057594037927936 * (dg wd.toBitVec.toNat 7 % 128 + k) := by
  rw [Int64.toBitVec_add, BitVec.toNat_add, Int64.toBitVec_mul, BitVec.toNat_mul, Int64.toBitVec_and, BitVec.toNat_and, hc]
  have m : (9187201950435737471 : Int64).toBitVec.toNat = 9187201950435737471 := by decide
  have m2 : (72340172838076673 : Int64).toBitVec.toNat = 72340172838076673 := by decide
  rw [m, m2]
  generalize wd.toBitVec.toNat = N
  have hx : N &&& 9187201950435737471 < 18446744073709551616 := Nat.lt_of_le_of_lt Nat.and_le_right (by decide)
  have e := dg_num _ hx
  have f : ∀ i, i < 8 → dg (N &&& 9187201950435737471) i = dg N i % 128 := fun i hi => by
    rw [dg_and, ← own_7f]
    have c : i = 0 ∨ i = 1 ∨ i = 2 ∨ i = 3 ∨ i = 4 ∨ i = 5 ∨ i = 6 ∨ i = 7 := by omega
    rcases c with rfl | rfl | rfl | rfl | rfl | rfl | rfl | rfl <;> rfl
  rw [f 0 (by decide), f 1 (by decide), f 2 (by decide), f 3 (by decide), f 4 (by decide), f 5 (by decide), f 6 (by decide), f 7 (by decide)] at e
  rw [e]
  omega
theorem own_pos32 {x : Int32} (h : 0 ≤ x.toInt) : x.toInt64.toBitVec.toNat = x.toInt.toNat := by
  have a := c_i2l x
  have c1 : x.toInt64.toInt = if 2 * x.toInt64.toBitVec.toNat < 2 ^ 64 then (x.toInt64.toBitVec.toNat : Int) else (x.toInt64.toBitVec.toNat : Int) - ((2 ^ 64 : Nat) : Int) := BitVec.toInt_eq_toNat_cond _
  have r := x.toInt64.toBitVec.isLt
  split at c1 <;> omega
theorem own_dT (wd : Int64) {le : Int32} (hl : ¬ le < 0 ∧ le < 128) (i : Nat) (hi : i < 8) : dg ((wd &&& (9187201950435737471 : Int64)) + ((72340172838076673 : Int64) * (((128 : Int32) - le).toInt64))).toBitVec.toNat i = dg wd.toBitVec.toNat i % 128 + (128 - le.toInt.toNat) := by
  obtain ⟨h1, h2⟩ := hl
  rw [Int32.lt_iff_toInt_lt] at h1 h2
  have k0 : (0 : Int32).toInt = 0 := rfl
  have k1 : (128 : Int32).toInt = 128 := rfl
  have a := c_isub 128 le
  have r := rng32 (128 - le)
  rw [own_tN wd _ (128 - le.toInt.toNat) (by rw [own_pos32 (by omega)]; omega) (by omega)]
  exact dg_sum (fun i => dg wd.toBitVec.toNat i % 128 + (128 - le.toInt.toNat)) (fun i => by omega) i hi
theorem own_dU (wd : Int64) {mo : Int32} (hl : ¬ mo < 0 ∧ mo < 128) (i : Nat) (hi : i < 8) : dg ((wd &&& (9187201950435737471 : Int64)) + ((72340172838076673 : Int64) * ((((128 : Int32) - mo) - (1 : Int32)).toInt64))).toBitVec.toNat i = dg wd.toBitVec.toNat i % 128 + (127 - mo.toInt.toNat) := by
  obtain ⟨h1, h2⟩ := hl
  rw [Int32.lt_iff_toInt_lt] at h1 h2
  have k0 : (0 : Int32).toInt = 0 := rfl
  have k1 : (128 : Int32).toInt = 128 := rfl
  have k2 : (1 : Int32).toInt = 1 := rfl
  have a := c_isub 128 mo
  have b := c_isub (128 - mo) 1
  have r := rng32 (128 - mo)
  have r2 := rng32 (128 - mo - 1)
  rw [own_tN wd _ (127 - mo.toInt.toNat) (by rw [own_pos32 (by omega)]; omega) (by omega)]
  exact dg_sum (fun i => dg wd.toBitVec.toNat i % 128 + (127 - mo.toInt.toNat)) (fun i => by omega) i hi
theorem own_to32 (y : Int64) : (y &&& (255 : Int64)).toInt32.toInt = ((y.toBitVec.toNat % 256 : Nat) : Int) := by
  have e : (y &&& (255 : Int64)).toInt32.toBitVec.toNat = y.toBitVec.toNat % 256 := by
    rw [Int64.toBitVec_toInt32, BitVec.signExtend_eq_setWidth_of_le _ (by decide), BitVec.toNat_setWidth, Int64.toBitVec_and, BitVec.toNat_and, show (255 : Int64).toBitVec.toNat = 2 ^ 8 - 1 from by decide, Nat.and_two_pow_sub_one_eq_mod]
    omega
  have c1 : (y &&& (255 : Int64)).toInt32.toInt = if 2 * (y &&& (255 : Int64)).toInt32.toBitVec.toNat < 2 ^ 32 then ((y &&& (255 : Int64)).toInt32.toBitVec.toNat : Int) else ((y &&& (255 : Int64)).toInt32.toBitVec.toNat : Int) - ((2 ^ 32 : Nat) : Int) := BitVec.toInt_eq_toNat_cond _
  rw [e] at c1
  split at c1 <;> omega
theorem own_by0 (wd : Int64) : (own_by wd 0).toInt = (dg wd.toBitVec.toNat 0 : Int) := by
  unfold own_by
  rw [own_to32, show (((8 : Int32) * 0) &&& 0x3f).toInt64.toUInt64 = 0 from by decide]
  have e : ((wd.toUInt64 >>> (0 : UInt64)).toInt64).toBitVec.toNat = wd.toBitVec.toNat / 256 ^ 0 := by
    show (wd.toUInt64 >>> (0 : UInt64)).toNat = _
    rw [UInt64.toNat_shiftRight]
    show wd.toBitVec.toNat >>> 0 = _
    rw [Nat.shiftRight_eq_div_pow]
  rw [e]; rfl
theorem own_sh0 : ((128 : Int64) <<< (((8 : Int32) * 0) &&& 0x3f).toInt64).toBitVec.toNat = 128 * 256 ^ 0 := by decide
theorem own_by1 (wd : Int64) : (own_by wd 1).toInt = (dg wd.toBitVec.toNat 1 : Int) := by
  unfold own_by
  rw [own_to32, show (((8 : Int32) * 1) &&& 0x3f).toInt64.toUInt64 = 8 from by decide]
  have e : ((wd.toUInt64 >>> (8 : UInt64)).toInt64).toBitVec.toNat = wd.toBitVec.toNat / 256 ^ 1 := by
    show (wd.toUInt64 >>> (8 : UInt64)).toNat = _
    rw [UInt64.toNat_shiftRight]
    show wd.toBitVec.toNat >>> 8 = _
    rw [Nat.shiftRight_eq_div_pow]
  rw [e]; rfl
theorem own_sh1 : ((128 : Int64) <<< (((8 : Int32) * 1) &&& 0x3f).toInt64).toBitVec.toNat = 128 * 256 ^ 1 := by decide
theorem own_by2 (wd : Int64) : (own_by wd 2).toInt = (dg wd.toBitVec.toNat 2 : Int) := by
  unfold own_by
  rw [own_to32, show (((8 : Int32) * 2) &&& 0x3f).toInt64.toUInt64 = 16 from by decide]
  have e : ((wd.toUInt64 >>> (16 : UInt64)).toInt64).toBitVec.toNat = wd.toBitVec.toNat / 256 ^ 2 := by
    show (wd.toUInt64 >>> (16 : UInt64)).toNat = _
    rw [UInt64.toNat_shiftRight]
    show wd.toBitVec.toNat >>> 16 = _
    rw [Nat.shiftRight_eq_div_pow]
  rw [e]; rfl
theorem own_sh2 : ((128 : Int64) <<< (((8 : Int32) * 2) &&& 0x3f).toInt64).toBitVec.toNat = 128 * 256 ^ 2 := by decide
theorem own_by3 (wd : Int64) : (own_by wd 3).toInt = (dg wd.toBitVec.toNat 3 : Int) := by
  unfold own_by
  rw [own_to32, show (((8 : Int32) * 3) &&& 0x3f).toInt64.toUInt64 = 24 from by decide]
  have e : ((wd.toUInt64 >>> (24 : UInt64)).toInt64).toBitVec.toNat = wd.toBitVec.toNat / 256 ^ 3 := by
    show (wd.toUInt64 >>> (24 : UInt64)).toNat = _
    rw [UInt64.toNat_shiftRight]
    show wd.toBitVec.toNat >>> 24 = _
    rw [Nat.shiftRight_eq_div_pow]
  rw [e]; rfl
theorem own_sh3 : ((128 : Int64) <<< (((8 : Int32) * 3) &&& 0x3f).toInt64).toBitVec.toNat = 128 * 256 ^ 3 := by decide
theorem own_by4 (wd : Int64) : (own_by wd 4).toInt = (dg wd.toBitVec.toNat 4 : Int) := by
  unfold own_by
  rw [own_to32, show (((8 : Int32) * 4) &&& 0x3f).toInt64.toUInt64 = 32 from by decide]
  have e : ((wd.toUInt64 >>> (32 : UInt64)).toInt64).toBitVec.toNat = wd.toBitVec.toNat / 256 ^ 4 := by
    show (wd.toUInt64 >>> (32 : UInt64)).toNat = _
    rw [UInt64.toNat_shiftRight]
    show wd.toBitVec.toNat >>> 32 = _
    rw [Nat.shiftRight_eq_div_pow]
  rw [e]; rfl
theorem own_sh4 : ((128 : Int64) <<< (((8 : Int32) * 4) &&& 0x3f).toInt64).toBitVec.toNat = 128 * 256 ^ 4 := by decide
theorem own_by5 (wd : Int64) : (own_by wd 5).toInt = (dg wd.toBitVec.toNat 5 : Int) := by
  unfold own_by
  rw [own_to32, show (((8 : Int32) * 5) &&& 0x3f).toInt64.toUInt64 = 40 from by decide]
  have e : ((wd.toUInt64 >>> (40 : UInt64)).toInt64).toBitVec.toNat = wd.toBitVec.toNat / 256 ^ 5 := by
    show (wd.toUInt64 >>> (40 : UInt64)).toNat = _
    rw [UInt64.toNat_shiftRight]
    show wd.toBitVec.toNat >>> 40 = _
    rw [Nat.shiftRight_eq_div_pow]
  rw [e]; rfl
theorem own_sh5 : ((128 : Int64) <<< (((8 : Int32) * 5) &&& 0x3f).toInt64).toBitVec.toNat = 128 * 256 ^ 5 := by decide
theorem own_by6 (wd : Int64) : (own_by wd 6).toInt = (dg wd.toBitVec.toNat 6 : Int) := by
  unfold own_by
  rw [own_to32, show (((8 : Int32) * 6) &&& 0x3f).toInt64.toUInt64 = 48 from by decide]
  have e : ((wd.toUInt64 >>> (48 : UInt64)).toInt64).toBitVec.toNat = wd.toBitVec.toNat / 256 ^ 6 := by
    show (wd.toUInt64 >>> (48 : UInt64)).toNat = _
    rw [UInt64.toNat_shiftRight]
    show wd.toBitVec.toNat >>> 48 = _
    rw [Nat.shiftRight_eq_div_pow]
  rw [e]; rfl
theorem own_sh6 : ((128 : Int64) <<< (((8 : Int32) * 6) &&& 0x3f).toInt64).toBitVec.toNat = 128 * 256 ^ 6 := by decide
theorem own_by7 (wd : Int64) : (own_by wd 7).toInt = (dg wd.toBitVec.toNat 7 : Int) := by
  unfold own_by
  rw [own_to32, show (((8 : Int32) * 7) &&& 0x3f).toInt64.toUInt64 = 56 from by decide]
  have e : ((wd.toUInt64 >>> (56 : UInt64)).toInt64).toBitVec.toNat = wd.toBitVec.toNat / 256 ^ 7 := by
    show (wd.toUInt64 >>> (56 : UInt64)).toNat = _
    rw [UInt64.toNat_shiftRight]
    show wd.toBitVec.toNat >>> 56 = _
    rw [Nat.shiftRight_eq_div_pow]
  rw [e]; rfl
theorem own_sh7 : ((128 : Int64) <<< (((8 : Int32) * 7) &&& 0x3f).toInt64).toBitVec.toNat = 128 * 256 ^ 7 := by decide
def own_F (B L M : Nat) : Nat := if B < L then 0 else if M < B then 0 else 128
theorem own_F_lt (B L M : Nat) : own_F B L M < 256 := by unfold own_F; split <;> (try split) <;> decide
theorem own_bitN {wd : Int64} {i le mo : Int32} {j : Nat} (hl : ¬ le < 0 ∧ le < 128) (hm : ¬ mo < 0 ∧ mo < 128) (hb : (own_by wd i).toInt = (dg wd.toBitVec.toNat j : Int)) (hs : ((128 : Int64) <<< (((8 : Int32) * i) &&& 0x3f).toInt64).toBitVec.toNat = 128 * 256 ^ j) : (own_bit wd i le mo).toBitVec.toNat = own_F (dg wd.toBitVec.toNat j) le.toInt.toNat mo.toInt.toNat * 256 ^ j := by
  have h1 := hl.1
  have h2 := hm.1
  have z : (0 : Int64).toBitVec.toNat = 0 := rfl
  rw [Int32.lt_iff_toInt_lt] at h1 h2
  have k0 : (0 : Int32).toInt = 0 := rfl
  unfold own_bit own_F
  by_cases c1 : own_by wd i < le
  · have c1' := c1
    rw [Int32.lt_iff_toInt_lt] at c1'
    rw [if_pos c1, if_pos (show dg wd.toBitVec.toNat j < le.toInt.toNat by omega), Nat.zero_mul, z]
  · have c1' := c1
    rw [Int32.lt_iff_toInt_lt] at c1'
    rw [if_neg c1, if_neg (show ¬ dg wd.toBitVec.toNat j < le.toInt.toNat by omega)]
    by_cases c2 : mo < own_by wd i
    · have c2' := c2
      rw [Int32.lt_iff_toInt_lt] at c2'
      rw [if_pos c2, if_pos (show mo.toInt.toNat < dg wd.toBitVec.toNat j by omega), Nat.zero_mul, z]
    · have c2' := c2
      rw [Int32.lt_iff_toInt_lt] at c2'
      rw [if_neg c2, if_neg (show ¬ mo.toInt.toNat < dg wd.toBitVec.toNat j by omega), hs]
theorem dgm {F : Nat} (hF : F < 256) (i j : Nat) (hi : i < 8) (hj : j < 8) : dg (F * 256 ^ j) i = if i = j then F else 0 := by
  have c : i = 0 ∨ i = 1 ∨ i = 2 ∨ i = 3 ∨ i = 4 ∨ i = 5 ∨ i = 6 ∨ i = 7 := by omega
  have d : j = 0 ∨ j = 1 ∨ j = 2 ∨ j = 3 ∨ j = 4 ∨ j = 5 ∨ j = 6 ∨ j = 7 := by omega
  rcases c with rfl | rfl | rfl | rfl | rfl | rfl | rfl | rfl <;> rcases d with rfl | rfl | rfl | rfl | rfl | rfl | rfl | rfl <;> simp only [dg, Nat.reducePow, Nat.div_one, Nat.mul_one, Nat.reduceEqDiff, if_true, if_false, reduceIte] <;> omega
theorem own_words (wd : Int64) {le mo : Int32} (hl : ¬ le < 0 ∧ le < 128) (hm : ¬ mo < 0 ∧ mo < 128) : own_bt wd le mo = (((((((own_bit wd 0 le mo ||| own_bit wd 1 le mo) ||| own_bit wd 2 le mo) ||| own_bit wd 3 le mo) ||| own_bit wd 4 le mo) ||| own_bit wd 5 le mo) ||| own_bit wd 6 le mo) ||| own_bit wd 7 le mo) := by
  apply own_inj
  apply dg_ext (BitVec.isLt _) (BitVec.isLt _)
  intro i hi
  have hL : le.toInt.toNat < 128 := by
    have h2 := hl.2
    rw [Int32.lt_iff_toInt_lt] at h2
    have k1 : (128 : Int32).toInt = 128 := rfl
    omega
  have hM : mo.toInt.toNat < 128 := by
    have h2 := hm.2
    rw [Int32.lt_iff_toInt_lt] at h2
    have k1 : (128 : Int32).toInt = 128 := rfl
    omega
  have l : dg (own_bt wd le mo).toBitVec.toNat i = own_F (dg wd.toBitVec.toNat i) le.toInt.toNat mo.toInt.toNat := by
    unfold own_bt
    rw [Int64.toBitVec_and, BitVec.toNat_and, Int64.toBitVec_and, BitVec.toNat_and, Int64.toBitVec_and, BitVec.toNat_and, Int64.toBitVec_xor, BitVec.toNat_xor, Int64.toBitVec_xor, BitVec.toNat_xor, dg_and, dg_and, dg_and, dg_xor, dg_xor, own_dT wd hl i hi, own_dU wd hm i hi]
    have m1 : dg (-1 : Int64).toBitVec.toNat i = 255 := by
      have c : i = 0 ∨ i = 1 ∨ i = 2 ∨ i = 3 ∨ i = 4 ∨ i = 5 ∨ i = 6 ∨ i = 7 := by omega
      rcases c with rfl | rfl | rfl | rfl | rfl | rfl | rfl | rfl <;> decide
    have m2 : dg (-9187201950435737472 : Int64).toBitVec.toNat i = 128 := by
      have c : i = 0 ∨ i = 1 ∨ i = 2 ∨ i = 3 ∨ i = 4 ∨ i = 5 ∨ i = 6 ∨ i = 7 := by omega
      rcases c with rfl | rfl | rfl | rfl | rfl | rfl | rfl | rfl <;> decide
    rw [m1, m2]
    exact own_dig (dg_lt _ _) rfl rfl hL hM
  rw [l]
  simp only [Int64.toBitVec_or, BitVec.toNat_or, dg_or]
  rw [own_bitN hl hm (own_by0 wd) own_sh0, own_bitN hl hm (own_by1 wd) own_sh1, own_bitN hl hm (own_by2 wd) own_sh2, own_bitN hl hm (own_by3 wd) own_sh3, own_bitN hl hm (own_by4 wd) own_sh4, own_bitN hl hm (own_by5 wd) own_sh5, own_bitN hl hm (own_by6 wd) own_sh6, own_bitN hl hm (own_by7 wd) own_sh7]
  rw [dgm (own_F_lt _ _ _) i 0 hi (by decide), dgm (own_F_lt _ _ _) i 1 hi (by decide), dgm (own_F_lt _ _ _) i 2 hi (by decide), dgm (own_F_lt _ _ _) i 3 hi (by decide), dgm (own_F_lt _ _ _) i 4 hi (by decide), dgm (own_F_lt _ _ _) i 5 hi (by decide), dgm (own_F_lt _ _ _) i 6 hi (by decide), dgm (own_F_lt _ _ _) i 7 hi (by decide)]
  have c : i = 0 ∨ i = 1 ∨ i = 2 ∨ i = 3 ∨ i = 4 ∨ i = 5 ∨ i = 6 ∨ i = 7 := by omega
  rcases c with rfl | rfl | rfl | rfl | rfl | rfl | rfl | rfl <;> simp
theorem own_m127 (k : Int32) : ¬ (k &&& (127 : Int32)) < 0 ∧ (k &&& (127 : Int32)) < 128 := by
  have e : (k &&& (127 : Int32)).toInt = k.toInt % 2 ^ 7 := Jvm.Kit.i32_mask k 127 (k := 7) (by decide) (by decide)
  rw [Int32.lt_iff_toInt_lt, Int32.lt_iff_toInt_lt, e]
  have k0 : (0 : Int32).toInt = 0 := rfl
  have k4 : (128 : Int32).toInt = 128 := rfl
  omega
set_option maxRecDepth 65536 in
set_option maxHeartbeats 4000000 in
theorem own_c2 (hw : ∀ d ∈ tables_1, d.before a0 Z = true) (wd : Int64) (le mo : Int32) :
    Ctr l (⟨"com/example/antecedent/antecedent/trace/Words", "between", "(JII)J"⟩ : MethodName) prog_60_method_8_code 10 (some .long) ({ frames := 0, cells := 0, slots := 0, locals := 0 } : Room) Z #[(.long wd), (.int le), (.int mo)] h n0 (fun v h' => v = some (.long (own_bt wd le mo)) ∧ h' = h) [] := by
  refine metGo (Ls := #[.val (.long wd), .second, .val (.int le), .val (.int mo), .unset, .unset, .unset, .unset, .unset, .unset]) pn_d2 (fun m => by first | rfl | (simp [entryFrame, mkF, argsToLocals, Value.category]; done) | (simp [entryFrame, mkF, argsToLocals, Value.category, maxLocals]; done)) ?_
  intro p e s m below meth c T w
  refine glloadN (pc' := 1) (Ls := #[.val (.long wd), .second, .val (.int le), .val (.int mo), .unset, .unset, .unset, .unset, .unset, .unset]) (rest := []) w d2_0 rfl rfl ?_
  refine gldc2 (v := (9187201950435737471 : Int64)) (pc' := 4) w d2_1 (hw _ (List.mem_of_getElem? (i := 9) rfl)) rfl ?_
  refine gland (pc' := 5) w d2_4 rfl ?_
  refine glstore (pc' := 7) (Ls := #[.val (.long wd), .second, .val (.int le), .val (.int mo), .unset, .unset, .unset, .unset, .unset, .unset]) (Ls' := #[.val (.long wd), .second, .val (.int le), .val (.int mo), .val (.long (wd &&& (9187201950435737471 : Int64))), .second, .unset, .unset, .unset, .unset]) (rest := []) w d2_5 rfl rfl ?_
  refine glload (pc' := 9) (Ls := #[.val (.long wd), .second, .val (.int le), .val (.int mo), .val (.long (wd &&& (9187201950435737471 : Int64))), .second, .unset, .unset, .unset, .unset]) (rest := []) w d2_7 rfl rfl ?_
  refine gldc2 (v := (72340172838076673 : Int64)) (pc' := 12) w d2_9 (hw _ (List.mem_of_getElem? (i := 10) rfl)) rfl ?_
  refine gsipush (v := (128 : Int32)) (pc' := 15) w d2_12 rfl rfl ?_
  refine giloadN (pc' := 16) (Ls := #[.val (.long wd), .second, .val (.int le), .val (.int mo), .val (.long (wd &&& (9187201950435737471 : Int64))), .second, .unset, .unset, .unset, .unset]) (rest := [(.int (128 : Int32)), (.long (72340172838076673 : Int64)), (.long (wd &&& (9187201950435737471 : Int64)))]) w d2_15 rfl rfl ?_
  refine gisub (pc' := 17) w d2_16 rfl ?_
  refine gi2l (pc' := 18) w d2_17 rfl ?_
  refine glmul (pc' := 19) w d2_18 rfl ?_
  refine gladd (pc' := 20) w d2_19 rfl ?_
  refine glstore (pc' := 22) (Ls := #[.val (.long wd), .second, .val (.int le), .val (.int mo), .val (.long (wd &&& (9187201950435737471 : Int64))), .second, .unset, .unset, .unset, .unset]) (Ls' := #[.val (.long wd), .second, .val (.int le), .val (.int mo), .val (.long (wd &&& (9187201950435737471 : Int64))), .second, .val (.long ((wd &&& (9187201950435737471 : Int64)) + ((72340172838076673 : Int64) * (((128 : Int32) - le).toInt64)))), .second, .unset, .unset]) (rest := []) w d2_20 rfl rfl ?_
  refine glload (pc' := 24) (Ls := #[.val (.long wd), .second, .val (.int le), .val (.int mo), .val (.long (wd &&& (9187201950435737471 : Int64))), .second, .val (.long ((wd &&& (9187201950435737471 : Int64)) + ((72340172838076673 : Int64) * (((128 : Int32) - le).toInt64)))), .second, .unset, .unset]) (rest := []) w d2_22 rfl rfl ?_
  refine gldc2 (v := (72340172838076673 : Int64)) (pc' := 27) w d2_24 (hw _ (List.mem_of_getElem? (i := 10) rfl)) rfl ?_
  refine gsipush (v := (128 : Int32)) (pc' := 30) w d2_27 rfl rfl ?_
  refine giloadN (pc' := 31) (Ls := #[.val (.long wd), .second, .val (.int le), .val (.int mo), .val (.long (wd &&& (9187201950435737471 : Int64))), .second, .val (.long ((wd &&& (9187201950435737471 : Int64)) + ((72340172838076673 : Int64) * (((128 : Int32) - le).toInt64)))), .second, .unset, .unset]) (rest := [(.int (128 : Int32)), (.long (72340172838076673 : Int64)), (.long (wd &&& (9187201950435737471 : Int64)))]) w d2_30 rfl rfl ?_
  refine gisub (pc' := 32) w d2_31 rfl ?_
  refine giconst (v := (1 : Int32)) (pc' := 33) w d2_32 rfl rfl ?_
  refine gisub (pc' := 34) w d2_33 rfl ?_
  refine gi2l (pc' := 35) w d2_34 rfl ?_
  refine glmul (pc' := 36) w d2_35 rfl ?_
  refine gladd (pc' := 37) w d2_36 rfl ?_
  refine glstore (pc' := 39) (Ls := #[.val (.long wd), .second, .val (.int le), .val (.int mo), .val (.long (wd &&& (9187201950435737471 : Int64))), .second, .val (.long ((wd &&& (9187201950435737471 : Int64)) + ((72340172838076673 : Int64) * (((128 : Int32) - le).toInt64)))), .second, .unset, .unset]) (Ls' := #[.val (.long wd), .second, .val (.int le), .val (.int mo), .val (.long (wd &&& (9187201950435737471 : Int64))), .second, .val (.long ((wd &&& (9187201950435737471 : Int64)) + ((72340172838076673 : Int64) * (((128 : Int32) - le).toInt64)))), .second, .val (.long ((wd &&& (9187201950435737471 : Int64)) + ((72340172838076673 : Int64) * ((((128 : Int32) - mo) - (1 : Int32)).toInt64)))), .second]) (rest := []) w d2_37 rfl rfl ?_
  refine glload (pc' := 41) (Ls := #[.val (.long wd), .second, .val (.int le), .val (.int mo), .val (.long (wd &&& (9187201950435737471 : Int64))), .second, .val (.long ((wd &&& (9187201950435737471 : Int64)) + ((72340172838076673 : Int64) * (((128 : Int32) - le).toInt64)))), .second, .val (.long ((wd &&& (9187201950435737471 : Int64)) + ((72340172838076673 : Int64) * ((((128 : Int32) - mo) - (1 : Int32)).toInt64)))), .second]) (rest := []) w d2_39 rfl rfl ?_
  refine glload (pc' := 43) (Ls := #[.val (.long wd), .second, .val (.int le), .val (.int mo), .val (.long (wd &&& (9187201950435737471 : Int64))), .second, .val (.long ((wd &&& (9187201950435737471 : Int64)) + ((72340172838076673 : Int64) * (((128 : Int32) - le).toInt64)))), .second, .val (.long ((wd &&& (9187201950435737471 : Int64)) + ((72340172838076673 : Int64) * ((((128 : Int32) - mo) - (1 : Int32)).toInt64)))), .second]) (rest := [(.long ((wd &&& (9187201950435737471 : Int64)) + ((72340172838076673 : Int64) * (((128 : Int32) - le).toInt64))))]) w d2_41 rfl rfl ?_
  refine gldc2 (v := (-1 : Int64)) (pc' := 46) w d2_43 (hw _ (List.mem_of_getElem? (i := 11) rfl)) rfl ?_
  refine glxor (pc' := 47) w d2_46 rfl ?_
  refine gland (pc' := 48) w d2_47 rfl ?_
  refine glloadN (pc' := 49) (Ls := #[.val (.long wd), .second, .val (.int le), .val (.int mo), .val (.long (wd &&& (9187201950435737471 : Int64))), .second, .val (.long ((wd &&& (9187201950435737471 : Int64)) + ((72340172838076673 : Int64) * (((128 : Int32) - le).toInt64)))), .second, .val (.long ((wd &&& (9187201950435737471 : Int64)) + ((72340172838076673 : Int64) * ((((128 : Int32) - mo) - (1 : Int32)).toInt64)))), .second]) (rest := [(.long (((wd &&& (9187201950435737471 : Int64)) + ((72340172838076673 : Int64) * (((128 : Int32) - le).toInt64))) &&& (((wd &&& (9187201950435737471 : Int64)) + ((72340172838076673 : Int64) * ((((128 : Int32) - mo) - (1 : Int32)).toInt64))) ^^^ (-1 : Int64))))]) w d2_48 rfl rfl ?_
  refine gldc2 (v := (-1 : Int64)) (pc' := 52) w d2_49 (hw _ (List.mem_of_getElem? (i := 11) rfl)) rfl ?_
  refine glxor (pc' := 53) w d2_52 rfl ?_
  refine gland (pc' := 54) w d2_53 rfl ?_
  refine gldc2 (v := (-9187201950435737472 : Int64)) (pc' := 57) w d2_54 (hw _ (List.mem_of_getElem? (i := 12) rfl)) rfl ?_
  refine gland (pc' := 58) w d2_57 rfl ?_
  exact gretJ w d2_58 (by decide) (by decide) ⟨rfl, rfl⟩
set_option maxRecDepth 65536 in
set_option maxHeartbeats 4000000 in
theorem own_c1 (hw : ∀ d ∈ tables_1, d.before a0 Z = true) (wd : Int64) (i le mo : Int32) :
    Ctr l (⟨"com/example/antecedent/antecedent/trace/WordsBetweenPinLaw", "bit", "(JIII)J"⟩ : MethodName) method_3_code 6 (some .long) ({ frames := 0, cells := 0, slots := 0, locals := 0 } : Room) Z #[(.long wd), (.int i), (.int le), (.int mo)] h n0 (fun v h' => v = some (.long (own_bit wd i le mo)) ∧ h' = h) [] := by
  refine metGo (Ls := #[.val (.long wd), .second, .val (.int i), .val (.int le), .val (.int mo), .unset]) pn_d1 (fun m => by first | rfl | (simp [entryFrame, mkF, argsToLocals, Value.category]; done) | (simp [entryFrame, mkF, argsToLocals, Value.category, maxLocals]; done)) ?_
  intro p e s m below meth c T w
  refine glloadN (pc' := 1) (Ls := #[.val (.long wd), .second, .val (.int i), .val (.int le), .val (.int mo), .unset]) (rest := []) w d1_0 rfl rfl ?_
  refine gbipush (v := (8 : Int32)) (pc' := 3) w d1_1 rfl rfl ?_
  refine giloadN (pc' := 4) (Ls := #[.val (.long wd), .second, .val (.int i), .val (.int le), .val (.int mo), .unset]) (rest := [(.int (8 : Int32)), (.long wd)]) w d1_3 rfl rfl ?_
  refine gimul (pc' := 5) w d1_4 rfl ?_
  refine glushr (pc' := 6) w d1_5 rfl ?_
  refine gldc2 (v := (255 : Int64)) (pc' := 9) w d1_6 (hw _ (List.mem_of_getElem? (i := 4) rfl)) rfl ?_
  refine gland (pc' := 10) w d1_9 rfl ?_
  refine gl2i (pc' := 11) w d1_10 rfl ?_
  refine gistore (pc' := 13) (Ls := #[.val (.long wd), .second, .val (.int i), .val (.int le), .val (.int mo), .unset]) (Ls' := #[.val (.long wd), .second, .val (.int i), .val (.int le), .val (.int mo), .val (.int (((((wd).toUInt64 >>> (((8 : Int32) * i) &&& 0x3f).toInt64.toUInt64).toInt64) &&& (255 : Int64)).toInt32))]) (rest := []) w d1_11 rfl rfl ?_
  refine giload (pc' := 15) (Ls := #[.val (.long wd), .second, .val (.int i), .val (.int le), .val (.int mo), .val (.int (((((wd).toUInt64 >>> (((8 : Int32) * i) &&& 0x3f).toInt64.toUInt64).toInt64) &&& (255 : Int64)).toInt32))]) (rest := []) w d1_13 rfl rfl ?_
  refine giloadN (pc' := 16) (Ls := #[.val (.long wd), .second, .val (.int i), .val (.int le), .val (.int mo), .val (.int (((((wd).toUInt64 >>> (((8 : Int32) * i) &&& 0x3f).toInt64.toUInt64).toInt64) &&& (255 : Int64)).toInt32))]) (rest := [(.int (((((wd).toUInt64 >>> (((8 : Int32) * i) &&& 0x3f).toInt64.toUInt64).toInt64) &&& (255 : Int64)).toInt32))]) w d1_15 rfl rfl ?_
  refine gicmp (pt := 35) (pf := 19) w d1_16  (by decide) rfl rfl (fun (c16 : (((((wd).toUInt64 >>> (((8 : Int32) * i) &&& 0x3f).toInt64.toUInt64).toInt64) &&& (255 : Int64)).toInt32) < le) => ?_) (fun (c16 : ¬ (((((wd).toUInt64 >>> (((8 : Int32) * i) &&& 0x3f).toInt64.toUInt64).toInt64) &&& (255 : Int64)).toInt32) < le) => ?_)
  · refine glconst (v := (0 : Int64)) (pc' := 36) w d1_35 rfl rfl ?_
    exact gretJ w d1_36 (by decide) (by decide) ⟨by unfold own_bit own_by; rw [if_pos c16], rfl⟩
  · refine giload (pc' := 21) (Ls := #[.val (.long wd), .second, .val (.int i), .val (.int le), .val (.int mo), .val (.int (((((wd).toUInt64 >>> (((8 : Int32) * i) &&& 0x3f).toInt64.toUInt64).toInt64) &&& (255 : Int64)).toInt32))]) (rest := []) w d1_19 rfl rfl ?_
    refine giload (pc' := 23) (Ls := #[.val (.long wd), .second, .val (.int i), .val (.int le), .val (.int mo), .val (.int (((((wd).toUInt64 >>> (((8 : Int32) * i) &&& 0x3f).toInt64.toUInt64).toInt64) &&& (255 : Int64)).toInt32))]) (rest := [(.int (((((wd).toUInt64 >>> (((8 : Int32) * i) &&& 0x3f).toInt64.toUInt64).toInt64) &&& (255 : Int64)).toInt32))]) w d1_21 rfl rfl ?_
    refine gicmp (pt := 35) (pf := 26) w d1_23  (by decide) rfl rfl (fun (c23 : mo < (((((wd).toUInt64 >>> (((8 : Int32) * i) &&& 0x3f).toInt64.toUInt64).toInt64) &&& (255 : Int64)).toInt32)) => ?_) (fun (c23 : ¬ mo < (((((wd).toUInt64 >>> (((8 : Int32) * i) &&& 0x3f).toInt64.toUInt64).toInt64) &&& (255 : Int64)).toInt32)) => ?_)
    · refine glconst (v := (0 : Int64)) (pc' := 36) w d1_35 rfl rfl ?_
      exact gretJ w d1_36 (by decide) (by decide) ⟨by unfold own_bit own_by; rw [if_neg c16, if_pos c23], rfl⟩
    · refine gldc2 (v := (128 : Int64)) (pc' := 29) w d1_26 (hw _ (List.mem_of_getElem? (i := 14) rfl)) rfl ?_
      refine gbipush (v := (8 : Int32)) (pc' := 31) w d1_29 rfl rfl ?_
      refine giloadN (pc' := 32) (Ls := #[.val (.long wd), .second, .val (.int i), .val (.int le), .val (.int mo), .val (.int (((((wd).toUInt64 >>> (((8 : Int32) * i) &&& 0x3f).toInt64.toUInt64).toInt64) &&& (255 : Int64)).toInt32))]) (rest := [(.int (8 : Int32)), (.long (128 : Int64))]) w d1_31 rfl rfl ?_
      refine gimul (pc' := 33) w d1_32 rfl ?_
      refine glshl (pc' := 34) w d1_33 rfl ?_
      exact gretJ w d1_34 (by decide) (by decide) ⟨by unfold own_bit own_by; rw [if_neg c16, if_neg c23], rfl⟩
set_option maxRecDepth 65536 in
set_option maxHeartbeats 4000000 in
theorem own_b116 (hw : ∀ d ∈ tables_1, d.before a0 Z = true) (w : W Z "com/example/antecedent/antecedent/trace/WordsBetweenPinLaw" "law" code maxLocals ret n0 p l e room_1 s m args below meth c 0 0 T h) (w0 wd : Int64) (lo hi sel le mo pp kk vv : Int32) (hl : ¬ le < 0 ∧ le < 128) (hm : ¬ mo < 0 ∧ mo < 128) :
    Go n0 p e below s (fun v _ => v = some (.int 1)) room_1.cells room_1.slots T (mkF m 116 #[.val (.long w0), .second, .val (.int lo), .val (.int hi), .val (.int sel), .val (.int le), .val (.int mo), .val (.int pp), .val (.int kk), .val (.int vv), .val (.long wd), .second, .unset, .unset] []) := by
  refine glload (pc' := 118) (Ls := #[.val (.long w0), .second, .val (.int lo), .val (.int hi), .val (.int sel), .val (.int le), .val (.int mo), .val (.int pp), .val (.int kk), .val (.int vv), .val (.long wd), .second, .unset, .unset]) (rest := []) w at_116 rfl rfl ?_
  refine giconst (v := (0 : Int32)) (pc' := 119) w at_118 rfl rfl ?_
  refine giload (pc' := 121) (Ls := #[.val (.long w0), .second, .val (.int lo), .val (.int hi), .val (.int sel), .val (.int le), .val (.int mo), .val (.int pp), .val (.int kk), .val (.int vv), .val (.long wd), .second, .unset, .unset]) (rest := [(.int (0 : Int32)), (.long wd)]) w at_119 rfl rfl ?_
  refine giload (pc' := 123) (Ls := #[.val (.long w0), .second, .val (.int lo), .val (.int hi), .val (.int sel), .val (.int le), .val (.int mo), .val (.int pp), .val (.int kk), .val (.int vv), .val (.long wd), .second, .unset, .unset]) (rest := [(.int le), (.int (0 : Int32)), (.long wd)]) w at_121 rfl rfl ?_
  refine gcallS (pc' := 126) (argsL := [(.long wd), (.int (0 : Int32)), (.int le), (.int mo)]) (rest := []) (Wt := 0) w at_123 (hw _ (List.mem_of_getElem? (i := 0) rfl)) (hw _ (List.mem_of_getElem? (i := 1) rfl)) (hw _ (List.mem_of_getElem? (i := 2) rfl)) (hw _ (List.mem_of_getElem? (i := 3) rfl)) (by decide) pd_d1 (own_c1 hw wd (0 : Int32) le mo) rfl rfl rfl rfl (Nat.le_of_eq rfl) (by decide) (by decide) (by decide) (by decide) rfl (fun v1 T2 h3 w4 q5 => ?_)
  obtain ⟨rfl, eh⟩ := q5
  show Go _ _ _ _ _ _ _ _ _ (mkF m 126 #[.val (.long w0), .second, .val (.int lo), .val (.int hi), .val (.int sel), .val (.int le), .val (.int mo), .val (.int pp), .val (.int kk), .val (.int vv), .val (.long wd), .second, .unset, .unset] [(.long (own_bit wd (0 : Int32) le mo))])
  rw [eh] at w4
  refine glload (pc' := 128) (Ls := #[.val (.long w0), .second, .val (.int lo), .val (.int hi), .val (.int sel), .val (.int le), .val (.int mo), .val (.int pp), .val (.int kk), .val (.int vv), .val (.long wd), .second, .unset, .unset]) (rest := [(.long (own_bit wd (0 : Int32) le mo))]) w4 at_126 rfl rfl ?_
  refine giconst (v := (1 : Int32)) (pc' := 129) w4 at_128 rfl rfl ?_
  refine giload (pc' := 131) (Ls := #[.val (.long w0), .second, .val (.int lo), .val (.int hi), .val (.int sel), .val (.int le), .val (.int mo), .val (.int pp), .val (.int kk), .val (.int vv), .val (.long wd), .second, .unset, .unset]) (rest := [(.int (1 : Int32)), (.long wd), (.long (own_bit wd (0 : Int32) le mo))]) w4 at_129 rfl rfl ?_
  refine giload (pc' := 133) (Ls := #[.val (.long w0), .second, .val (.int lo), .val (.int hi), .val (.int sel), .val (.int le), .val (.int mo), .val (.int pp), .val (.int kk), .val (.int vv), .val (.long wd), .second, .unset, .unset]) (rest := [(.int le), (.int (1 : Int32)), (.long wd), (.long (own_bit wd (0 : Int32) le mo))]) w4 at_131 rfl rfl ?_
  refine gcallS (pc' := 136) (argsL := [(.long wd), (.int (1 : Int32)), (.int le), (.int mo)]) (rest := [(.long (own_bit wd (0 : Int32) le mo))]) (Wt := 2) w4 at_133 (hw _ (List.mem_of_getElem? (i := 0) rfl)) (hw _ (List.mem_of_getElem? (i := 1) rfl)) (hw _ (List.mem_of_getElem? (i := 2) rfl)) (hw _ (List.mem_of_getElem? (i := 3) rfl)) (by decide) pd_d1 (own_c1 hw wd (1 : Int32) le mo) rfl rfl rfl rfl (Nat.le_of_eq rfl) (by decide) (by decide) (by decide) (by decide) rfl (fun v6 T7 h8 w9 q10 => ?_)
  obtain ⟨rfl, eh⟩ := q10
  show Go _ _ _ _ _ _ _ _ _ (mkF m 136 #[.val (.long w0), .second, .val (.int lo), .val (.int hi), .val (.int sel), .val (.int le), .val (.int mo), .val (.int pp), .val (.int kk), .val (.int vv), .val (.long wd), .second, .unset, .unset] [(.long (own_bit wd (1 : Int32) le mo)), (.long (own_bit wd (0 : Int32) le mo))])
  rw [eh] at w9
  refine glor (pc' := 137) w9 at_136 rfl ?_
  refine glload (pc' := 139) (Ls := #[.val (.long w0), .second, .val (.int lo), .val (.int hi), .val (.int sel), .val (.int le), .val (.int mo), .val (.int pp), .val (.int kk), .val (.int vv), .val (.long wd), .second, .unset, .unset]) (rest := [(.long ((own_bit wd (0 : Int32) le mo) ||| (own_bit wd (1 : Int32) le mo)))]) w9 at_137 rfl rfl ?_
  refine giconst (v := (2 : Int32)) (pc' := 140) w9 at_139 rfl rfl ?_
  refine giload (pc' := 142) (Ls := #[.val (.long w0), .second, .val (.int lo), .val (.int hi), .val (.int sel), .val (.int le), .val (.int mo), .val (.int pp), .val (.int kk), .val (.int vv), .val (.long wd), .second, .unset, .unset]) (rest := [(.int (2 : Int32)), (.long wd), (.long ((own_bit wd (0 : Int32) le mo) ||| (own_bit wd (1 : Int32) le mo)))]) w9 at_140 rfl rfl ?_
  refine giload (pc' := 144) (Ls := #[.val (.long w0), .second, .val (.int lo), .val (.int hi), .val (.int sel), .val (.int le), .val (.int mo), .val (.int pp), .val (.int kk), .val (.int vv), .val (.long wd), .second, .unset, .unset]) (rest := [(.int le), (.int (2 : Int32)), (.long wd), (.long ((own_bit wd (0 : Int32) le mo) ||| (own_bit wd (1 : Int32) le mo)))]) w9 at_142 rfl rfl ?_
  refine gcallS (pc' := 147) (argsL := [(.long wd), (.int (2 : Int32)), (.int le), (.int mo)]) (rest := [(.long ((own_bit wd (0 : Int32) le mo) ||| (own_bit wd (1 : Int32) le mo)))]) (Wt := 2) w9 at_144 (hw _ (List.mem_of_getElem? (i := 0) rfl)) (hw _ (List.mem_of_getElem? (i := 1) rfl)) (hw _ (List.mem_of_getElem? (i := 2) rfl)) (hw _ (List.mem_of_getElem? (i := 3) rfl)) (by decide) pd_d1 (own_c1 hw wd (2 : Int32) le mo) rfl rfl rfl rfl (Nat.le_of_eq rfl) (by decide) (by decide) (by decide) (by decide) rfl (fun v11 T12 h13 w14 q15 => ?_)
  obtain ⟨rfl, eh⟩ := q15
  show Go _ _ _ _ _ _ _ _ _ (mkF m 147 #[.val (.long w0), .second, .val (.int lo), .val (.int hi), .val (.int sel), .val (.int le), .val (.int mo), .val (.int pp), .val (.int kk), .val (.int vv), .val (.long wd), .second, .unset, .unset] [(.long (own_bit wd (2 : Int32) le mo)), (.long ((own_bit wd (0 : Int32) le mo) ||| (own_bit wd (1 : Int32) le mo)))])
  rw [eh] at w14
  refine glor (pc' := 148) w14 at_147 rfl ?_
  refine glload (pc' := 150) (Ls := #[.val (.long w0), .second, .val (.int lo), .val (.int hi), .val (.int sel), .val (.int le), .val (.int mo), .val (.int pp), .val (.int kk), .val (.int vv), .val (.long wd), .second, .unset, .unset]) (rest := [(.long (((own_bit wd (0 : Int32) le mo) ||| (own_bit wd (1 : Int32) le mo)) ||| (own_bit wd (2 : Int32) le mo)))]) w14 at_148 rfl rfl ?_
  refine giconst (v := (3 : Int32)) (pc' := 151) w14 at_150 rfl rfl ?_
  refine giload (pc' := 153) (Ls := #[.val (.long w0), .second, .val (.int lo), .val (.int hi), .val (.int sel), .val (.int le), .val (.int mo), .val (.int pp), .val (.int kk), .val (.int vv), .val (.long wd), .second, .unset, .unset]) (rest := [(.int (3 : Int32)), (.long wd), (.long (((own_bit wd (0 : Int32) le mo) ||| (own_bit wd (1 : Int32) le mo)) ||| (own_bit wd (2 : Int32) le mo)))]) w14 at_151 rfl rfl ?_
  refine giload (pc' := 155) (Ls := #[.val (.long w0), .second, .val (.int lo), .val (.int hi), .val (.int sel), .val (.int le), .val (.int mo), .val (.int pp), .val (.int kk), .val (.int vv), .val (.long wd), .second, .unset, .unset]) (rest := [(.int le), (.int (3 : Int32)), (.long wd), (.long (((own_bit wd (0 : Int32) le mo) ||| (own_bit wd (1 : Int32) le mo)) ||| (own_bit wd (2 : Int32) le mo)))]) w14 at_153 rfl rfl ?_
  refine gcallS (pc' := 158) (argsL := [(.long wd), (.int (3 : Int32)), (.int le), (.int mo)]) (rest := [(.long (((own_bit wd (0 : Int32) le mo) ||| (own_bit wd (1 : Int32) le mo)) ||| (own_bit wd (2 : Int32) le mo)))]) (Wt := 2) w14 at_155 (hw _ (List.mem_of_getElem? (i := 0) rfl)) (hw _ (List.mem_of_getElem? (i := 1) rfl)) (hw _ (List.mem_of_getElem? (i := 2) rfl)) (hw _ (List.mem_of_getElem? (i := 3) rfl)) (by decide) pd_d1 (own_c1 hw wd (3 : Int32) le mo) rfl rfl rfl rfl (Nat.le_of_eq rfl) (by decide) (by decide) (by decide) (by decide) rfl (fun v16 T17 h18 w19 q20 => ?_)
  obtain ⟨rfl, eh⟩ := q20
  show Go _ _ _ _ _ _ _ _ _ (mkF m 158 #[.val (.long w0), .second, .val (.int lo), .val (.int hi), .val (.int sel), .val (.int le), .val (.int mo), .val (.int pp), .val (.int kk), .val (.int vv), .val (.long wd), .second, .unset, .unset] [(.long (own_bit wd (3 : Int32) le mo)), (.long (((own_bit wd (0 : Int32) le mo) ||| (own_bit wd (1 : Int32) le mo)) ||| (own_bit wd (2 : Int32) le mo)))])
  rw [eh] at w19
  refine glor (pc' := 159) w19 at_158 rfl ?_
  refine glload (pc' := 161) (Ls := #[.val (.long w0), .second, .val (.int lo), .val (.int hi), .val (.int sel), .val (.int le), .val (.int mo), .val (.int pp), .val (.int kk), .val (.int vv), .val (.long wd), .second, .unset, .unset]) (rest := [(.long ((((own_bit wd (0 : Int32) le mo) ||| (own_bit wd (1 : Int32) le mo)) ||| (own_bit wd (2 : Int32) le mo)) ||| (own_bit wd (3 : Int32) le mo)))]) w19 at_159 rfl rfl ?_
  refine giconst (v := (4 : Int32)) (pc' := 162) w19 at_161 rfl rfl ?_
  refine giload (pc' := 164) (Ls := #[.val (.long w0), .second, .val (.int lo), .val (.int hi), .val (.int sel), .val (.int le), .val (.int mo), .val (.int pp), .val (.int kk), .val (.int vv), .val (.long wd), .second, .unset, .unset]) (rest := [(.int (4 : Int32)), (.long wd), (.long ((((own_bit wd (0 : Int32) le mo) ||| (own_bit wd (1 : Int32) le mo)) ||| (own_bit wd (2 : Int32) le mo)) ||| (own_bit wd (3 : Int32) le mo)))]) w19 at_162 rfl rfl ?_
  refine giload (pc' := 166) (Ls := #[.val (.long w0), .second, .val (.int lo), .val (.int hi), .val (.int sel), .val (.int le), .val (.int mo), .val (.int pp), .val (.int kk), .val (.int vv), .val (.long wd), .second, .unset, .unset]) (rest := [(.int le), (.int (4 : Int32)), (.long wd), (.long ((((own_bit wd (0 : Int32) le mo) ||| (own_bit wd (1 : Int32) le mo)) ||| (own_bit wd (2 : Int32) le mo)) ||| (own_bit wd (3 : Int32) le mo)))]) w19 at_164 rfl rfl ?_
  refine gcallS (pc' := 169) (argsL := [(.long wd), (.int (4 : Int32)), (.int le), (.int mo)]) (rest := [(.long ((((own_bit wd (0 : Int32) le mo) ||| (own_bit wd (1 : Int32) le mo)) ||| (own_bit wd (2 : Int32) le mo)) ||| (own_bit wd (3 : Int32) le mo)))]) (Wt := 2) w19 at_166 (hw _ (List.mem_of_getElem? (i := 0) rfl)) (hw _ (List.mem_of_getElem? (i := 1) rfl)) (hw _ (List.mem_of_getElem? (i := 2) rfl)) (hw _ (List.mem_of_getElem? (i := 3) rfl)) (by decide) pd_d1 (own_c1 hw wd (4 : Int32) le mo) rfl rfl rfl rfl (Nat.le_of_eq rfl) (by decide) (by decide) (by decide) (by decide) rfl (fun v21 T22 h23 w24 q25 => ?_)
  obtain ⟨rfl, eh⟩ := q25
  show Go _ _ _ _ _ _ _ _ _ (mkF m 169 #[.val (.long w0), .second, .val (.int lo), .val (.int hi), .val (.int sel), .val (.int le), .val (.int mo), .val (.int pp), .val (.int kk), .val (.int vv), .val (.long wd), .second, .unset, .unset] [(.long (own_bit wd (4 : Int32) le mo)), (.long ((((own_bit wd (0 : Int32) le mo) ||| (own_bit wd (1 : Int32) le mo)) ||| (own_bit wd (2 : Int32) le mo)) ||| (own_bit wd (3 : Int32) le mo)))])
  rw [eh] at w24
  refine glor (pc' := 170) w24 at_169 rfl ?_
  refine glload (pc' := 172) (Ls := #[.val (.long w0), .second, .val (.int lo), .val (.int hi), .val (.int sel), .val (.int le), .val (.int mo), .val (.int pp), .val (.int kk), .val (.int vv), .val (.long wd), .second, .unset, .unset]) (rest := [(.long (((((own_bit wd (0 : Int32) le mo) ||| (own_bit wd (1 : Int32) le mo)) ||| (own_bit wd (2 : Int32) le mo)) ||| (own_bit wd (3 : Int32) le mo)) ||| (own_bit wd (4 : Int32) le mo)))]) w24 at_170 rfl rfl ?_
  refine giconst (v := (5 : Int32)) (pc' := 173) w24 at_172 rfl rfl ?_
  refine giload (pc' := 175) (Ls := #[.val (.long w0), .second, .val (.int lo), .val (.int hi), .val (.int sel), .val (.int le), .val (.int mo), .val (.int pp), .val (.int kk), .val (.int vv), .val (.long wd), .second, .unset, .unset]) (rest := [(.int (5 : Int32)), (.long wd), (.long (((((own_bit wd (0 : Int32) le mo) ||| (own_bit wd (1 : Int32) le mo)) ||| (own_bit wd (2 : Int32) le mo)) ||| (own_bit wd (3 : Int32) le mo)) ||| (own_bit wd (4 : Int32) le mo)))]) w24 at_173 rfl rfl ?_
  refine giload (pc' := 177) (Ls := #[.val (.long w0), .second, .val (.int lo), .val (.int hi), .val (.int sel), .val (.int le), .val (.int mo), .val (.int pp), .val (.int kk), .val (.int vv), .val (.long wd), .second, .unset, .unset]) (rest := [(.int le), (.int (5 : Int32)), (.long wd), (.long (((((own_bit wd (0 : Int32) le mo) ||| (own_bit wd (1 : Int32) le mo)) ||| (own_bit wd (2 : Int32) le mo)) ||| (own_bit wd (3 : Int32) le mo)) ||| (own_bit wd (4 : Int32) le mo)))]) w24 at_175 rfl rfl ?_
  refine gcallS (pc' := 180) (argsL := [(.long wd), (.int (5 : Int32)), (.int le), (.int mo)]) (rest := [(.long (((((own_bit wd (0 : Int32) le mo) ||| (own_bit wd (1 : Int32) le mo)) ||| (own_bit wd (2 : Int32) le mo)) ||| (own_bit wd (3 : Int32) le mo)) ||| (own_bit wd (4 : Int32) le mo)))]) (Wt := 2) w24 at_177 (hw _ (List.mem_of_getElem? (i := 0) rfl)) (hw _ (List.mem_of_getElem? (i := 1) rfl)) (hw _ (List.mem_of_getElem? (i := 2) rfl)) (hw _ (List.mem_of_getElem? (i := 3) rfl)) (by decide) pd_d1 (own_c1 hw wd (5 : Int32) le mo) rfl rfl rfl rfl (Nat.le_of_eq rfl) (by decide) (by decide) (by decide) (by decide) rfl (fun v26 T27 h28 w29 q30 => ?_)
  obtain ⟨rfl, eh⟩ := q30
  show Go _ _ _ _ _ _ _ _ _ (mkF m 180 #[.val (.long w0), .second, .val (.int lo), .val (.int hi), .val (.int sel), .val (.int le), .val (.int mo), .val (.int pp), .val (.int kk), .val (.int vv), .val (.long wd), .second, .unset, .unset] [(.long (own_bit wd (5 : Int32) le mo)), (.long (((((own_bit wd (0 : Int32) le mo) ||| (own_bit wd (1 : Int32) le mo)) ||| (own_bit wd (2 : Int32) le mo)) ||| (own_bit wd (3 : Int32) le mo)) ||| (own_bit wd (4 : Int32) le mo)))])
  rw [eh] at w29
  refine glor (pc' := 181) w29 at_180 rfl ?_
  refine glload (pc' := 183) (Ls := #[.val (.long w0), .second, .val (.int lo), .val (.int hi), .val (.int sel), .val (.int le), .val (.int mo), .val (.int pp), .val (.int kk), .val (.int vv), .val (.long wd), .second, .unset, .unset]) (rest := [(.long ((((((own_bit wd (0 : Int32) le mo) ||| (own_bit wd (1 : Int32) le mo)) ||| (own_bit wd (2 : Int32) le mo)) ||| (own_bit wd (3 : Int32) le mo)) ||| (own_bit wd (4 : Int32) le mo)) ||| (own_bit wd (5 : Int32) le mo)))]) w29 at_181 rfl rfl ?_
  refine gbipush (v := (6 : Int32)) (pc' := 185) w29 at_183 rfl rfl ?_
  refine giload (pc' := 187) (Ls := #[.val (.long w0), .second, .val (.int lo), .val (.int hi), .val (.int sel), .val (.int le), .val (.int mo), .val (.int pp), .val (.int kk), .val (.int vv), .val (.long wd), .second, .unset, .unset]) (rest := [(.int (6 : Int32)), (.long wd), (.long ((((((own_bit wd (0 : Int32) le mo) ||| (own_bit wd (1 : Int32) le mo)) ||| (own_bit wd (2 : Int32) le mo)) ||| (own_bit wd (3 : Int32) le mo)) ||| (own_bit wd (4 : Int32) le mo)) ||| (own_bit wd (5 : Int32) le mo)))]) w29 at_185 rfl rfl ?_
  refine giload (pc' := 189) (Ls := #[.val (.long w0), .second, .val (.int lo), .val (.int hi), .val (.int sel), .val (.int le), .val (.int mo), .val (.int pp), .val (.int kk), .val (.int vv), .val (.long wd), .second, .unset, .unset]) (rest := [(.int le), (.int (6 : Int32)), (.long wd), (.long ((((((own_bit wd (0 : Int32) le mo) ||| (own_bit wd (1 : Int32) le mo)) ||| (own_bit wd (2 : Int32) le mo)) ||| (own_bit wd (3 : Int32) le mo)) ||| (own_bit wd (4 : Int32) le mo)) ||| (own_bit wd (5 : Int32) le mo)))]) w29 at_187 rfl rfl ?_
  refine gcallS (pc' := 192) (argsL := [(.long wd), (.int (6 : Int32)), (.int le), (.int mo)]) (rest := [(.long ((((((own_bit wd (0 : Int32) le mo) ||| (own_bit wd (1 : Int32) le mo)) ||| (own_bit wd (2 : Int32) le mo)) ||| (own_bit wd (3 : Int32) le mo)) ||| (own_bit wd (4 : Int32) le mo)) ||| (own_bit wd (5 : Int32) le mo)))]) (Wt := 2) w29 at_189 (hw _ (List.mem_of_getElem? (i := 0) rfl)) (hw _ (List.mem_of_getElem? (i := 1) rfl)) (hw _ (List.mem_of_getElem? (i := 2) rfl)) (hw _ (List.mem_of_getElem? (i := 3) rfl)) (by decide) pd_d1 (own_c1 hw wd (6 : Int32) le mo) rfl rfl rfl rfl (Nat.le_of_eq rfl) (by decide) (by decide) (by decide) (by decide) rfl (fun v31 T32 h33 w34 q35 => ?_)
  obtain ⟨rfl, eh⟩ := q35
  show Go _ _ _ _ _ _ _ _ _ (mkF m 192 #[.val (.long w0), .second, .val (.int lo), .val (.int hi), .val (.int sel), .val (.int le), .val (.int mo), .val (.int pp), .val (.int kk), .val (.int vv), .val (.long wd), .second, .unset, .unset] [(.long (own_bit wd (6 : Int32) le mo)), (.long ((((((own_bit wd (0 : Int32) le mo) ||| (own_bit wd (1 : Int32) le mo)) ||| (own_bit wd (2 : Int32) le mo)) ||| (own_bit wd (3 : Int32) le mo)) ||| (own_bit wd (4 : Int32) le mo)) ||| (own_bit wd (5 : Int32) le mo)))])
  rw [eh] at w34
  refine glor (pc' := 193) w34 at_192 rfl ?_
  refine glload (pc' := 195) (Ls := #[.val (.long w0), .second, .val (.int lo), .val (.int hi), .val (.int sel), .val (.int le), .val (.int mo), .val (.int pp), .val (.int kk), .val (.int vv), .val (.long wd), .second, .unset, .unset]) (rest := [(.long (((((((own_bit wd (0 : Int32) le mo) ||| (own_bit wd (1 : Int32) le mo)) ||| (own_bit wd (2 : Int32) le mo)) ||| (own_bit wd (3 : Int32) le mo)) ||| (own_bit wd (4 : Int32) le mo)) ||| (own_bit wd (5 : Int32) le mo)) ||| (own_bit wd (6 : Int32) le mo)))]) w34 at_193 rfl rfl ?_
  refine gbipush (v := (7 : Int32)) (pc' := 197) w34 at_195 rfl rfl ?_
  refine giload (pc' := 199) (Ls := #[.val (.long w0), .second, .val (.int lo), .val (.int hi), .val (.int sel), .val (.int le), .val (.int mo), .val (.int pp), .val (.int kk), .val (.int vv), .val (.long wd), .second, .unset, .unset]) (rest := [(.int (7 : Int32)), (.long wd), (.long (((((((own_bit wd (0 : Int32) le mo) ||| (own_bit wd (1 : Int32) le mo)) ||| (own_bit wd (2 : Int32) le mo)) ||| (own_bit wd (3 : Int32) le mo)) ||| (own_bit wd (4 : Int32) le mo)) ||| (own_bit wd (5 : Int32) le mo)) ||| (own_bit wd (6 : Int32) le mo)))]) w34 at_197 rfl rfl ?_
  refine giload (pc' := 201) (Ls := #[.val (.long w0), .second, .val (.int lo), .val (.int hi), .val (.int sel), .val (.int le), .val (.int mo), .val (.int pp), .val (.int kk), .val (.int vv), .val (.long wd), .second, .unset, .unset]) (rest := [(.int le), (.int (7 : Int32)), (.long wd), (.long (((((((own_bit wd (0 : Int32) le mo) ||| (own_bit wd (1 : Int32) le mo)) ||| (own_bit wd (2 : Int32) le mo)) ||| (own_bit wd (3 : Int32) le mo)) ||| (own_bit wd (4 : Int32) le mo)) ||| (own_bit wd (5 : Int32) le mo)) ||| (own_bit wd (6 : Int32) le mo)))]) w34 at_199 rfl rfl ?_
  refine gcallS (pc' := 204) (argsL := [(.long wd), (.int (7 : Int32)), (.int le), (.int mo)]) (rest := [(.long (((((((own_bit wd (0 : Int32) le mo) ||| (own_bit wd (1 : Int32) le mo)) ||| (own_bit wd (2 : Int32) le mo)) ||| (own_bit wd (3 : Int32) le mo)) ||| (own_bit wd (4 : Int32) le mo)) ||| (own_bit wd (5 : Int32) le mo)) ||| (own_bit wd (6 : Int32) le mo)))]) (Wt := 2) w34 at_201 (hw _ (List.mem_of_getElem? (i := 0) rfl)) (hw _ (List.mem_of_getElem? (i := 1) rfl)) (hw _ (List.mem_of_getElem? (i := 2) rfl)) (hw _ (List.mem_of_getElem? (i := 3) rfl)) (by decide) pd_d1 (own_c1 hw wd (7 : Int32) le mo) rfl rfl rfl rfl (Nat.le_of_eq rfl) (by decide) (by decide) (by decide) (by decide) rfl (fun v36 T37 h38 w39 q40 => ?_)
  obtain ⟨rfl, eh⟩ := q40
  show Go _ _ _ _ _ _ _ _ _ (mkF m 204 #[.val (.long w0), .second, .val (.int lo), .val (.int hi), .val (.int sel), .val (.int le), .val (.int mo), .val (.int pp), .val (.int kk), .val (.int vv), .val (.long wd), .second, .unset, .unset] [(.long (own_bit wd (7 : Int32) le mo)), (.long (((((((own_bit wd (0 : Int32) le mo) ||| (own_bit wd (1 : Int32) le mo)) ||| (own_bit wd (2 : Int32) le mo)) ||| (own_bit wd (3 : Int32) le mo)) ||| (own_bit wd (4 : Int32) le mo)) ||| (own_bit wd (5 : Int32) le mo)) ||| (own_bit wd (6 : Int32) le mo)))])
  rw [eh] at w39
  refine glor (pc' := 205) w39 at_204 rfl ?_
  refine glstore (pc' := 207) (Ls := #[.val (.long w0), .second, .val (.int lo), .val (.int hi), .val (.int sel), .val (.int le), .val (.int mo), .val (.int pp), .val (.int kk), .val (.int vv), .val (.long wd), .second, .unset, .unset]) (Ls' := #[.val (.long w0), .second, .val (.int lo), .val (.int hi), .val (.int sel), .val (.int le), .val (.int mo), .val (.int pp), .val (.int kk), .val (.int vv), .val (.long wd), .second, .val (.long ((((((((own_bit wd (0 : Int32) le mo) ||| (own_bit wd (1 : Int32) le mo)) ||| (own_bit wd (2 : Int32) le mo)) ||| (own_bit wd (3 : Int32) le mo)) ||| (own_bit wd (4 : Int32) le mo)) ||| (own_bit wd (5 : Int32) le mo)) ||| (own_bit wd (6 : Int32) le mo)) ||| (own_bit wd (7 : Int32) le mo))), .second]) (rest := []) w39 at_205 rfl rfl ?_
  refine glload (pc' := 209) (Ls := #[.val (.long w0), .second, .val (.int lo), .val (.int hi), .val (.int sel), .val (.int le), .val (.int mo), .val (.int pp), .val (.int kk), .val (.int vv), .val (.long wd), .second, .val (.long ((((((((own_bit wd (0 : Int32) le mo) ||| (own_bit wd (1 : Int32) le mo)) ||| (own_bit wd (2 : Int32) le mo)) ||| (own_bit wd (3 : Int32) le mo)) ||| (own_bit wd (4 : Int32) le mo)) ||| (own_bit wd (5 : Int32) le mo)) ||| (own_bit wd (6 : Int32) le mo)) ||| (own_bit wd (7 : Int32) le mo))), .second]) (rest := []) w39 at_207 rfl rfl ?_
  refine giload (pc' := 211) (Ls := #[.val (.long w0), .second, .val (.int lo), .val (.int hi), .val (.int sel), .val (.int le), .val (.int mo), .val (.int pp), .val (.int kk), .val (.int vv), .val (.long wd), .second, .val (.long ((((((((own_bit wd (0 : Int32) le mo) ||| (own_bit wd (1 : Int32) le mo)) ||| (own_bit wd (2 : Int32) le mo)) ||| (own_bit wd (3 : Int32) le mo)) ||| (own_bit wd (4 : Int32) le mo)) ||| (own_bit wd (5 : Int32) le mo)) ||| (own_bit wd (6 : Int32) le mo)) ||| (own_bit wd (7 : Int32) le mo))), .second]) (rest := [(.long wd)]) w39 at_209 rfl rfl ?_
  refine giload (pc' := 213) (Ls := #[.val (.long w0), .second, .val (.int lo), .val (.int hi), .val (.int sel), .val (.int le), .val (.int mo), .val (.int pp), .val (.int kk), .val (.int vv), .val (.long wd), .second, .val (.long ((((((((own_bit wd (0 : Int32) le mo) ||| (own_bit wd (1 : Int32) le mo)) ||| (own_bit wd (2 : Int32) le mo)) ||| (own_bit wd (3 : Int32) le mo)) ||| (own_bit wd (4 : Int32) le mo)) ||| (own_bit wd (5 : Int32) le mo)) ||| (own_bit wd (6 : Int32) le mo)) ||| (own_bit wd (7 : Int32) le mo))), .second]) (rest := [(.int le), (.long wd)]) w39 at_211 rfl rfl ?_
  refine gcallS (pc' := 216) (argsL := [(.long wd), (.int le), (.int mo)]) (rest := []) (Wt := 0) w39 at_213 (hw _ (List.mem_of_getElem? (i := 5) rfl)) (hw _ (List.mem_of_getElem? (i := 6) rfl)) (hw _ (List.mem_of_getElem? (i := 7) rfl)) (hw _ (List.mem_of_getElem? (i := 8) rfl)) (by decide) pd_d2 (own_c2 hw wd le mo) rfl rfl rfl rfl (Nat.le_of_eq rfl) (by decide) (by decide) (by decide) (by decide) rfl (fun v41 T42 h43 w44 q45 => ?_)
  obtain ⟨rfl, eh⟩ := q45
  show Go _ _ _ _ _ _ _ _ _ (mkF m 216 #[.val (.long w0), .second, .val (.int lo), .val (.int hi), .val (.int sel), .val (.int le), .val (.int mo), .val (.int pp), .val (.int kk), .val (.int vv), .val (.long wd), .second, .val (.long ((((((((own_bit wd (0 : Int32) le mo) ||| (own_bit wd (1 : Int32) le mo)) ||| (own_bit wd (2 : Int32) le mo)) ||| (own_bit wd (3 : Int32) le mo)) ||| (own_bit wd (4 : Int32) le mo)) ||| (own_bit wd (5 : Int32) le mo)) ||| (own_bit wd (6 : Int32) le mo)) ||| (own_bit wd (7 : Int32) le mo))), .second] [(.long (own_bt wd le mo))])
  rw [eh] at w44
  refine glload (pc' := 218) (Ls := #[.val (.long w0), .second, .val (.int lo), .val (.int hi), .val (.int sel), .val (.int le), .val (.int mo), .val (.int pp), .val (.int kk), .val (.int vv), .val (.long wd), .second, .val (.long ((((((((own_bit wd (0 : Int32) le mo) ||| (own_bit wd (1 : Int32) le mo)) ||| (own_bit wd (2 : Int32) le mo)) ||| (own_bit wd (3 : Int32) le mo)) ||| (own_bit wd (4 : Int32) le mo)) ||| (own_bit wd (5 : Int32) le mo)) ||| (own_bit wd (6 : Int32) le mo)) ||| (own_bit wd (7 : Int32) le mo))), .second]) (rest := [(.long (own_bt wd le mo))]) w44 at_216 rfl rfl ?_
  refine glcmpif (pm := 219) (pt := 226) (pf := 222) w44 at_218 rfl at_219 (by decide) rfl rfl (fun (c218 : ¬ (own_bt wd le mo) = ((((((((own_bit wd (0 : Int32) le mo) ||| (own_bit wd (1 : Int32) le mo)) ||| (own_bit wd (2 : Int32) le mo)) ||| (own_bit wd (3 : Int32) le mo)) ||| (own_bit wd (4 : Int32) le mo)) ||| (own_bit wd (5 : Int32) le mo)) ||| (own_bit wd (6 : Int32) le mo)) ||| (own_bit wd (7 : Int32) le mo))) => ?_) (fun (c218 : (own_bt wd le mo) = ((((((((own_bit wd (0 : Int32) le mo) ||| (own_bit wd (1 : Int32) le mo)) ||| (own_bit wd (2 : Int32) le mo)) ||| (own_bit wd (3 : Int32) le mo)) ||| (own_bit wd (4 : Int32) le mo)) ||| (own_bit wd (5 : Int32) le mo)) ||| (own_bit wd (6 : Int32) le mo)) ||| (own_bit wd (7 : Int32) le mo))) => ?_)
  · refine giconst (v := (0 : Int32)) (pc' := 227) w44 at_226 rfl rfl ?_
    exact absurd (own_words wd hl hm) c218
  · refine giconst (v := (1 : Int32)) (pc' := 223) w44 at_222 rfl rfl ?_
    refine ggoto (pc' := 227) w44 at_223 (by decide) rfl ?_
    exact gretZ w44 at_227 rfl (by decide) (by decide) rfl
set_option maxRecDepth 65536 in
set_option maxHeartbeats 4000000 in
theorem own_b73 (hw : ∀ d ∈ tables_1, d.before a0 Z = true) (w : W Z "com/example/antecedent/antecedent/trace/WordsBetweenPinLaw" "law" code maxLocals ret n0 p l e room_1 s m args below meth c 0 0 T h) (w0 : Int64) (lo hi sel le mo pp kk vv : Int32) (hl : ¬ le < 0 ∧ le < 128) (hm : ¬ mo < 0 ∧ mo < 128) :
    Go n0 p e below s (fun v _ => v = some (.int 1)) room_1.cells room_1.slots T (mkF m 73 #[.val (.long w0), .second, .val (.int lo), .val (.int hi), .val (.int sel), .val (.int le), .val (.int mo), .val (.int pp), .val (.int kk), .val (.int vv), .unset, .unset, .unset, .unset] []) := by
  refine glloadN (pc' := 74) (Ls := #[.val (.long w0), .second, .val (.int lo), .val (.int hi), .val (.int sel), .val (.int le), .val (.int mo), .val (.int pp), .val (.int kk), .val (.int vv), .unset, .unset, .unset, .unset]) (rest := []) w at_73 rfl rfl ?_
  refine glstore (pc' := 76) (Ls := #[.val (.long w0), .second, .val (.int lo), .val (.int hi), .val (.int sel), .val (.int le), .val (.int mo), .val (.int pp), .val (.int kk), .val (.int vv), .unset, .unset, .unset, .unset]) (Ls' := #[.val (.long w0), .second, .val (.int lo), .val (.int hi), .val (.int sel), .val (.int le), .val (.int mo), .val (.int pp), .val (.int kk), .val (.int vv), .val (.long w0), .second, .unset, .unset]) (rest := []) w at_74 rfl rfl ?_
  refine giload (pc' := 78) (Ls := #[.val (.long w0), .second, .val (.int lo), .val (.int hi), .val (.int sel), .val (.int le), .val (.int mo), .val (.int pp), .val (.int kk), .val (.int vv), .val (.long w0), .second, .unset, .unset]) (rest := []) w at_76 rfl rfl ?_
  refine giconst (v := (5 : Int32)) (pc' := 79) w at_78 rfl rfl ?_
  refine giushr (pc' := 80) w at_79 rfl ?_
  refine giconst (v := (1 : Int32)) (pc' := 81) w at_80 rfl rfl ?_
  refine giand (pc' := 82) w at_81 rfl ?_
  refine gif (pt := 116) (pf := 85) w at_82  (by decide) rfl rfl (fun (c82 : ((((sel).toUInt32 >>> ((5 : Int32) &&& 31).toUInt32).toInt32) &&& (1 : Int32)) = (0 : Int32)) => ?_) (fun (c82 : ¬ ((((sel).toUInt32 >>> ((5 : Int32) &&& 31).toUInt32).toInt32) &&& (1 : Int32)) = (0 : Int32)) => ?_)
  · exact own_b116 hw w w0 w0 lo hi sel le mo pp kk vv hl hm
  · refine glloadN (pc' := 86) (Ls := #[.val (.long w0), .second, .val (.int lo), .val (.int hi), .val (.int sel), .val (.int le), .val (.int mo), .val (.int pp), .val (.int kk), .val (.int vv), .val (.long w0), .second, .unset, .unset]) (rest := []) w at_85 rfl rfl ?_
    refine gldc2 (v := (255 : Int64)) (pc' := 89) w at_86 (hw _ (List.mem_of_getElem? (i := 4) rfl)) rfl ?_
    refine gbipush (v := (8 : Int32)) (pc' := 91) w at_89 rfl rfl ?_
    refine giload (pc' := 93) (Ls := #[.val (.long w0), .second, .val (.int lo), .val (.int hi), .val (.int sel), .val (.int le), .val (.int mo), .val (.int pp), .val (.int kk), .val (.int vv), .val (.long w0), .second, .unset, .unset]) (rest := [(.int (8 : Int32)), (.long (255 : Int64)), (.long w0)]) w at_91 rfl rfl ?_
    refine gimul (pc' := 94) w at_93 rfl ?_
    refine glshl (pc' := 95) w at_94 rfl ?_
    refine gldc2 (v := (-1 : Int64)) (pc' := 98) w at_95 (hw _ (List.mem_of_getElem? (i := 13) rfl)) rfl ?_
    refine glxor (pc' := 99) w at_98 rfl ?_
    refine gland (pc' := 100) w at_99 rfl ?_
    refine giload (pc' := 102) (Ls := #[.val (.long w0), .second, .val (.int lo), .val (.int hi), .val (.int sel), .val (.int le), .val (.int mo), .val (.int pp), .val (.int kk), .val (.int vv), .val (.long w0), .second, .unset, .unset]) (rest := [(.long (w0 &&& ((((255 : Int64) <<< (((8 : Int32) * pp) &&& 0x3f).toInt64)) ^^^ (-1 : Int64))))]) w at_100 rfl rfl ?_
    refine gsipush (v := (255 : Int32)) (pc' := 105) w at_102 rfl rfl ?_
    refine giand (pc' := 106) w at_105 rfl ?_
    refine gi2l (pc' := 107) w at_106 rfl ?_
    refine gbipush (v := (8 : Int32)) (pc' := 109) w at_107 rfl rfl ?_
    refine giload (pc' := 111) (Ls := #[.val (.long w0), .second, .val (.int lo), .val (.int hi), .val (.int sel), .val (.int le), .val (.int mo), .val (.int pp), .val (.int kk), .val (.int vv), .val (.long w0), .second, .unset, .unset]) (rest := [(.int (8 : Int32)), (.long ((vv &&& (255 : Int32)).toInt64)), (.long (w0 &&& ((((255 : Int64) <<< (((8 : Int32) * pp) &&& 0x3f).toInt64)) ^^^ (-1 : Int64))))]) w at_109 rfl rfl ?_
    refine gimul (pc' := 112) w at_111 rfl ?_
    refine glshl (pc' := 113) w at_112 rfl ?_
    refine glor (pc' := 114) w at_113 rfl ?_
    refine glstore (pc' := 116) (Ls := #[.val (.long w0), .second, .val (.int lo), .val (.int hi), .val (.int sel), .val (.int le), .val (.int mo), .val (.int pp), .val (.int kk), .val (.int vv), .val (.long w0), .second, .unset, .unset]) (Ls' := #[.val (.long w0), .second, .val (.int lo), .val (.int hi), .val (.int sel), .val (.int le), .val (.int mo), .val (.int pp), .val (.int kk), .val (.int vv), .val (.long ((w0 &&& ((((255 : Int64) <<< (((8 : Int32) * pp) &&& 0x3f).toInt64)) ^^^ (-1 : Int64))) ||| ((((vv &&& (255 : Int32)).toInt64) <<< (((8 : Int32) * pp) &&& 0x3f).toInt64)))), .second, .unset, .unset]) (rest := []) w at_114 rfl rfl ?_
    exact own_b116 hw w w0 ((w0 &&& ((((255 : Int64) <<< (((8 : Int32) * pp) &&& 0x3f).toInt64)) ^^^ (-1 : Int64))) ||| ((((vv &&& (255 : Int32)).toInt64) <<< (((8 : Int32) * pp) &&& 0x3f).toInt64))) lo hi sel le mo pp kk vv hl hm
set_option maxRecDepth 65536 in
set_option maxHeartbeats 4000000 in
theorem own_law (hw : ∀ d ∈ tables_1, d.before a0 Z = true) (w0 : Int64) (lo hi sel : Int32) :
    Ctr l x code maxLocals ret room_1 Z #[(.long w0), (.int lo), (.int hi), (.int sel)] h n0 (fun v _ => v = some (.int 1)) tables_1 := by
  refine metGo (Ls := #[.val (.long w0), .second, .val (.int lo), .val (.int hi), .val (.int sel), .unset, .unset, .unset, .unset, .unset, .unset, .unset, .unset, .unset]) pn_at (fun m => by first | rfl | (simp [entryFrame, mkF, argsToLocals, Value.category]; done) | (simp [entryFrame, mkF, argsToLocals, Value.category, maxLocals]; done)) ?_
  intro p e s m below meth c T w
  refine giloadN (pc' := 1) (Ls := #[.val (.long w0), .second, .val (.int lo), .val (.int hi), .val (.int sel), .unset, .unset, .unset, .unset, .unset, .unset, .unset, .unset, .unset]) (rest := []) w at_0 rfl rfl ?_
  refine gbipush (v := (127 : Int32)) (pc' := 3) w at_1 rfl rfl ?_
  refine giand (pc' := 4) w at_3 rfl ?_
  refine gistore (pc' := 6) (Ls := #[.val (.long w0), .second, .val (.int lo), .val (.int hi), .val (.int sel), .unset, .unset, .unset, .unset, .unset, .unset, .unset, .unset, .unset]) (Ls' := #[.val (.long w0), .second, .val (.int lo), .val (.int hi), .val (.int sel), .val (.int (lo &&& (127 : Int32))), .unset, .unset, .unset, .unset, .unset, .unset, .unset, .unset]) (rest := []) w at_4 rfl rfl ?_
  refine giloadN (pc' := 7) (Ls := #[.val (.long w0), .second, .val (.int lo), .val (.int hi), .val (.int sel), .val (.int (lo &&& (127 : Int32))), .unset, .unset, .unset, .unset, .unset, .unset, .unset, .unset]) (rest := []) w at_6 rfl rfl ?_
  refine gbipush (v := (127 : Int32)) (pc' := 9) w at_7 rfl rfl ?_
  refine giand (pc' := 10) w at_9 rfl ?_
  refine gistore (pc' := 12) (Ls := #[.val (.long w0), .second, .val (.int lo), .val (.int hi), .val (.int sel), .val (.int (lo &&& (127 : Int32))), .unset, .unset, .unset, .unset, .unset, .unset, .unset, .unset]) (Ls' := #[.val (.long w0), .second, .val (.int lo), .val (.int hi), .val (.int sel), .val (.int (lo &&& (127 : Int32))), .val (.int (hi &&& (127 : Int32))), .unset, .unset, .unset, .unset, .unset, .unset, .unset]) (rest := []) w at_10 rfl rfl ?_
  refine giload (pc' := 14) (Ls := #[.val (.long w0), .second, .val (.int lo), .val (.int hi), .val (.int sel), .val (.int (lo &&& (127 : Int32))), .val (.int (hi &&& (127 : Int32))), .unset, .unset, .unset, .unset, .unset, .unset, .unset]) (rest := []) w at_12 rfl rfl ?_
  refine gbipush (v := (7 : Int32)) (pc' := 16) w at_14 rfl rfl ?_
  refine giand (pc' := 17) w at_16 rfl ?_
  refine gistore (pc' := 19) (Ls := #[.val (.long w0), .second, .val (.int lo), .val (.int hi), .val (.int sel), .val (.int (lo &&& (127 : Int32))), .val (.int (hi &&& (127 : Int32))), .unset, .unset, .unset, .unset, .unset, .unset, .unset]) (Ls' := #[.val (.long w0), .second, .val (.int lo), .val (.int hi), .val (.int sel), .val (.int (lo &&& (127 : Int32))), .val (.int (hi &&& (127 : Int32))), .val (.int (sel &&& (7 : Int32))), .unset, .unset, .unset, .unset, .unset, .unset]) (rest := []) w at_17 rfl rfl ?_
  refine giload (pc' := 21) (Ls := #[.val (.long w0), .second, .val (.int lo), .val (.int hi), .val (.int sel), .val (.int (lo &&& (127 : Int32))), .val (.int (hi &&& (127 : Int32))), .val (.int (sel &&& (7 : Int32))), .unset, .unset, .unset, .unset, .unset, .unset]) (rest := []) w at_19 rfl rfl ?_
  refine giconst (v := (3 : Int32)) (pc' := 22) w at_21 rfl rfl ?_
  refine giushr (pc' := 23) w at_22 rfl ?_
  refine giconst (v := (3 : Int32)) (pc' := 24) w at_23 rfl rfl ?_
  refine giand (pc' := 25) w at_24 rfl ?_
  refine gistore (pc' := 27) (Ls := #[.val (.long w0), .second, .val (.int lo), .val (.int hi), .val (.int sel), .val (.int (lo &&& (127 : Int32))), .val (.int (hi &&& (127 : Int32))), .val (.int (sel &&& (7 : Int32))), .unset, .unset, .unset, .unset, .unset, .unset]) (Ls' := #[.val (.long w0), .second, .val (.int lo), .val (.int hi), .val (.int sel), .val (.int (lo &&& (127 : Int32))), .val (.int (hi &&& (127 : Int32))), .val (.int (sel &&& (7 : Int32))), .val (.int ((((sel).toUInt32 >>> ((3 : Int32) &&& 31).toUInt32).toInt32) &&& (3 : Int32))), .unset, .unset, .unset, .unset, .unset]) (rest := []) w at_25 rfl rfl ?_
  refine giload (pc' := 29) (Ls := #[.val (.long w0), .second, .val (.int lo), .val (.int hi), .val (.int sel), .val (.int (lo &&& (127 : Int32))), .val (.int (hi &&& (127 : Int32))), .val (.int (sel &&& (7 : Int32))), .val (.int ((((sel).toUInt32 >>> ((3 : Int32) &&& 31).toUInt32).toInt32) &&& (3 : Int32))), .unset, .unset, .unset, .unset, .unset]) (rest := []) w at_27 rfl rfl ?_
  refine gif (pt := 39) (pf := 32) w at_29  (by decide) rfl rfl (fun (c29 : ¬ ((((sel).toUInt32 >>> ((3 : Int32) &&& 31).toUInt32).toInt32) &&& (3 : Int32)) = (0 : Int32)) => ?_) (fun (c29 : ((((sel).toUInt32 >>> ((3 : Int32) &&& 31).toUInt32).toInt32) &&& (3 : Int32)) = (0 : Int32)) => ?_)
  · refine giload (pc' := 41) (Ls := #[.val (.long w0), .second, .val (.int lo), .val (.int hi), .val (.int sel), .val (.int (lo &&& (127 : Int32))), .val (.int (hi &&& (127 : Int32))), .val (.int (sel &&& (7 : Int32))), .val (.int ((((sel).toUInt32 >>> ((3 : Int32) &&& 31).toUInt32).toInt32) &&& (3 : Int32))), .unset, .unset, .unset, .unset, .unset]) (rest := []) w at_39 rfl rfl ?_
    refine giconst (v := (1 : Int32)) (pc' := 42) w at_41 rfl rfl ?_
    refine gicmp (pt := 52) (pf := 45) w at_42  (by decide) rfl rfl (fun (c42 : ¬ ((((sel).toUInt32 >>> ((3 : Int32) &&& 31).toUInt32).toInt32) &&& (3 : Int32)) = (1 : Int32)) => ?_) (fun (c42 : ((((sel).toUInt32 >>> ((3 : Int32) &&& 31).toUInt32).toInt32) &&& (3 : Int32)) = (1 : Int32)) => ?_)
    · refine giload (pc' := 54) (Ls := #[.val (.long w0), .second, .val (.int lo), .val (.int hi), .val (.int sel), .val (.int (lo &&& (127 : Int32))), .val (.int (hi &&& (127 : Int32))), .val (.int (sel &&& (7 : Int32))), .val (.int ((((sel).toUInt32 >>> ((3 : Int32) &&& 31).toUInt32).toInt32) &&& (3 : Int32))), .unset, .unset, .unset, .unset, .unset]) (rest := []) w at_52 rfl rfl ?_
      refine giconst (v := (2 : Int32)) (pc' := 55) w at_54 rfl rfl ?_
      refine gicmp (pt := 67) (pf := 58) w at_55  (by decide) rfl rfl (fun (c55 : ¬ ((((sel).toUInt32 >>> ((3 : Int32) &&& 31).toUInt32).toInt32) &&& (3 : Int32)) = (2 : Int32)) => ?_) (fun (c55 : ((((sel).toUInt32 >>> ((3 : Int32) &&& 31).toUInt32).toInt32) &&& (3 : Int32)) = (2 : Int32)) => ?_)
      · refine giload (pc' := 69) (Ls := #[.val (.long w0), .second, .val (.int lo), .val (.int hi), .val (.int sel), .val (.int (lo &&& (127 : Int32))), .val (.int (hi &&& (127 : Int32))), .val (.int (sel &&& (7 : Int32))), .val (.int ((((sel).toUInt32 >>> ((3 : Int32) &&& 31).toUInt32).toInt32) &&& (3 : Int32))), .unset, .unset, .unset, .unset, .unset]) (rest := []) w at_67 rfl rfl ?_
        refine giconst (v := (1 : Int32)) (pc' := 70) w at_69 rfl rfl ?_
        refine giadd (pc' := 71) w at_70 rfl ?_
        refine gistore (pc' := 73) (Ls := #[.val (.long w0), .second, .val (.int lo), .val (.int hi), .val (.int sel), .val (.int (lo &&& (127 : Int32))), .val (.int (hi &&& (127 : Int32))), .val (.int (sel &&& (7 : Int32))), .val (.int ((((sel).toUInt32 >>> ((3 : Int32) &&& 31).toUInt32).toInt32) &&& (3 : Int32))), .unset, .unset, .unset, .unset, .unset]) (Ls' := #[.val (.long w0), .second, .val (.int lo), .val (.int hi), .val (.int sel), .val (.int (lo &&& (127 : Int32))), .val (.int (hi &&& (127 : Int32))), .val (.int (sel &&& (7 : Int32))), .val (.int ((((sel).toUInt32 >>> ((3 : Int32) &&& 31).toUInt32).toInt32) &&& (3 : Int32))), .val (.int ((hi &&& (127 : Int32)) + (1 : Int32))), .unset, .unset, .unset, .unset]) (rest := []) w at_71 rfl rfl ?_
        exact own_b73 hw w w0 lo hi sel (lo &&& (127 : Int32)) (hi &&& (127 : Int32)) (sel &&& (7 : Int32)) ((((sel).toUInt32 >>> ((3 : Int32) &&& 31).toUInt32).toInt32) &&& (3 : Int32)) ((hi &&& (127 : Int32)) + (1 : Int32)) (own_m127 _) (own_m127 _)
      · refine giload (pc' := 60) (Ls := #[.val (.long w0), .second, .val (.int lo), .val (.int hi), .val (.int sel), .val (.int (lo &&& (127 : Int32))), .val (.int (hi &&& (127 : Int32))), .val (.int (sel &&& (7 : Int32))), .val (.int ((((sel).toUInt32 >>> ((3 : Int32) &&& 31).toUInt32).toInt32) &&& (3 : Int32))), .unset, .unset, .unset, .unset, .unset]) (rest := []) w at_58 rfl rfl ?_
        refine giconst (v := (1 : Int32)) (pc' := 61) w at_60 rfl rfl ?_
        refine gisub (pc' := 62) w at_61 rfl ?_
        refine gistore (pc' := 64) (Ls := #[.val (.long w0), .second, .val (.int lo), .val (.int hi), .val (.int sel), .val (.int (lo &&& (127 : Int32))), .val (.int (hi &&& (127 : Int32))), .val (.int (sel &&& (7 : Int32))), .val (.int ((((sel).toUInt32 >>> ((3 : Int32) &&& 31).toUInt32).toInt32) &&& (3 : Int32))), .unset, .unset, .unset, .unset, .unset]) (Ls' := #[.val (.long w0), .second, .val (.int lo), .val (.int hi), .val (.int sel), .val (.int (lo &&& (127 : Int32))), .val (.int (hi &&& (127 : Int32))), .val (.int (sel &&& (7 : Int32))), .val (.int ((((sel).toUInt32 >>> ((3 : Int32) &&& 31).toUInt32).toInt32) &&& (3 : Int32))), .val (.int ((lo &&& (127 : Int32)) - (1 : Int32))), .unset, .unset, .unset, .unset]) (rest := []) w at_62 rfl rfl ?_
        refine ggoto (pc' := 73) w at_64 (by decide) rfl ?_
        exact own_b73 hw w w0 lo hi sel (lo &&& (127 : Int32)) (hi &&& (127 : Int32)) (sel &&& (7 : Int32)) ((((sel).toUInt32 >>> ((3 : Int32) &&& 31).toUInt32).toInt32) &&& (3 : Int32)) ((lo &&& (127 : Int32)) - (1 : Int32)) (own_m127 _) (own_m127 _)
    · refine giload (pc' := 47) (Ls := #[.val (.long w0), .second, .val (.int lo), .val (.int hi), .val (.int sel), .val (.int (lo &&& (127 : Int32))), .val (.int (hi &&& (127 : Int32))), .val (.int (sel &&& (7 : Int32))), .val (.int ((((sel).toUInt32 >>> ((3 : Int32) &&& 31).toUInt32).toInt32) &&& (3 : Int32))), .unset, .unset, .unset, .unset, .unset]) (rest := []) w at_45 rfl rfl ?_
      refine gistore (pc' := 49) (Ls := #[.val (.long w0), .second, .val (.int lo), .val (.int hi), .val (.int sel), .val (.int (lo &&& (127 : Int32))), .val (.int (hi &&& (127 : Int32))), .val (.int (sel &&& (7 : Int32))), .val (.int ((((sel).toUInt32 >>> ((3 : Int32) &&& 31).toUInt32).toInt32) &&& (3 : Int32))), .unset, .unset, .unset, .unset, .unset]) (Ls' := #[.val (.long w0), .second, .val (.int lo), .val (.int hi), .val (.int sel), .val (.int (lo &&& (127 : Int32))), .val (.int (hi &&& (127 : Int32))), .val (.int (sel &&& (7 : Int32))), .val (.int ((((sel).toUInt32 >>> ((3 : Int32) &&& 31).toUInt32).toInt32) &&& (3 : Int32))), .val (.int (hi &&& (127 : Int32))), .unset, .unset, .unset, .unset]) (rest := []) w at_47 rfl rfl ?_
      refine ggoto (pc' := 73) w at_49 (by decide) rfl ?_
      exact own_b73 hw w w0 lo hi sel (lo &&& (127 : Int32)) (hi &&& (127 : Int32)) (sel &&& (7 : Int32)) ((((sel).toUInt32 >>> ((3 : Int32) &&& 31).toUInt32).toInt32) &&& (3 : Int32)) (hi &&& (127 : Int32)) (own_m127 _) (own_m127 _)
  · refine giload (pc' := 34) (Ls := #[.val (.long w0), .second, .val (.int lo), .val (.int hi), .val (.int sel), .val (.int (lo &&& (127 : Int32))), .val (.int (hi &&& (127 : Int32))), .val (.int (sel &&& (7 : Int32))), .val (.int ((((sel).toUInt32 >>> ((3 : Int32) &&& 31).toUInt32).toInt32) &&& (3 : Int32))), .unset, .unset, .unset, .unset, .unset]) (rest := []) w at_32 rfl rfl ?_
    refine gistore (pc' := 36) (Ls := #[.val (.long w0), .second, .val (.int lo), .val (.int hi), .val (.int sel), .val (.int (lo &&& (127 : Int32))), .val (.int (hi &&& (127 : Int32))), .val (.int (sel &&& (7 : Int32))), .val (.int ((((sel).toUInt32 >>> ((3 : Int32) &&& 31).toUInt32).toInt32) &&& (3 : Int32))), .unset, .unset, .unset, .unset, .unset]) (Ls' := #[.val (.long w0), .second, .val (.int lo), .val (.int hi), .val (.int sel), .val (.int (lo &&& (127 : Int32))), .val (.int (hi &&& (127 : Int32))), .val (.int (sel &&& (7 : Int32))), .val (.int ((((sel).toUInt32 >>> ((3 : Int32) &&& 31).toUInt32).toInt32) &&& (3 : Int32))), .val (.int (lo &&& (127 : Int32))), .unset, .unset, .unset, .unset]) (rest := []) w at_34 rfl rfl ?_
    refine ggoto (pc' := 73) w at_36 (by decide) rfl ?_
    exact own_b73 hw w w0 lo hi sel (lo &&& (127 : Int32)) (hi &&& (127 : Int32)) (sel &&& (7 : Int32)) ((((sel).toUInt32 >>> ((3 : Int32) &&& 31).toUInt32).toInt32) &&& (3 : Int32)) (lo &&& (127 : Int32)) (own_m127 _) (own_m127 _)
theorem comes_1 {Post : Tables → Env → Array Value → State → Outcome → State → Prop} (hpost : ∀ tb e args s v u, (limb_1_1.after args s (.returned v) u = true ∧ limb_1_2.after args s (.returned v) u = true ∧ True) → FrameEnd s (.returned v) u (Jvm.fieldLocs frame_1_writes args s ++ Jvm.arrayLocs frame_1_arrays args s ++ Jvm.staticLocs frame_1_statics s) 0 0 → Post tb e args s (.returned v) u) :
    ArmFor flags0 classFile x code maxLocals ret World_1 tables_1 room_1 Calls_1 rest_1 Pre_1 Post := by
  intro l hfl _ _ p e ha hc hk s m args below hf hA hF happ hP
  obtain ⟨hcalls, hrest, hpre⟩ := hP
  obtain ⟨-, -, -, hnamed, -, -, -, hat⟩ := (Spec.applies_iff hf).mp happ
  obtain ⟨hg, hn⟩ := and_e (Cond.before_iff.mp (show (Jvm.Cond.and given_1 narrow_1).before args s = true from hpre))
  obtain ⟨hcount, g0⟩ := and_e hg
  obtain ⟨a0, g1⟩ := and_e g0
  obtain ⟨a1, g2⟩ := and_e g1
  obtain ⟨a2, g3⟩ := and_e g2
  obtain ⟨w0, w1, w2, w3, rfl⟩ : ∃ w0 w1 w2 w3 : Value, args = #[w0, w1, w2, w3] := by
    have hs : args.size = 4 := by simpa [Cond.value, given_1] using hcount
    obtain ⟨L⟩ := args
    match L, hs with
    | [w0, w1, w2, w3], _ => exact ⟨w0, w1, w2, w3, rfl⟩
  have hw := fun d (hd : d ∈ tables_1) => atoms_spec (ws := Jvm.Cond.code x code maxLocals ret :: tables_1) hat d (List.mem_cons_of_mem _ hd)
  have hfit : Fit s := fun {y c} hc i hi => by
    obtain ⟨ha, rfl⟩ := Array.getElem?_eq_some_iff.mp hc
    have q := List.all_eq_true.mp ((Array.all_eq_true_iff_forall_mem.mp hF) _ (Array.getElem_mem ha)) i (List.mem_range.mpr hi)
    simpa [Array.getElem?_eq_getElem hi] using q
  obtain ⟨i0, e0⟩ := isL_v a0
  obtain rfl : w0 = (.long i0) := Option.some.inj e0
  obtain ⟨i1, e1⟩ := is_v a1
  obtain rfl : w1 = (.int i1) := Option.some.inj e1
  obtain ⟨i2, e2⟩ := is_v a2
  obtain rfl : w2 = (.int i2) := Option.some.inj e2
  obtain ⟨i3, e3⟩ := is_v g3
  obtain rfl : w3 = (.int i3) := Option.some.inj e3
  obtain ⟨n, o, h1, h2, h3, _, L, rfl, ⟨N, rfl⟩, hq⟩ := (own_law (h := s.heap) (n0 := s.heap.size) hw i0 i1 i2 i3) p e ha hc hk s m _ below hf ((Spec.applies_iff_loose hf).mp happ).1 ⟨rfl, State.Warmed39.refl s, rfl⟩ trivial
  refine ⟨n, _, h1, h2, h3, hpost _ _ _ _ _ _ ⟨Cond.after_iff.mpr rfl, Cond.after_iff.mpr (eq_i res_at (Term.int_eval (1)) rfl), trivial⟩ ⟨hq.1, hq.2.1, (hq.2.2.sift fun y hy => Or.inr (N y hy)).mono (by decide) (by decide)⟩⟩
theorem main_1_1 : Claimed_1_1 := comes_1 fun _ _ _ _ _ _ h hF => ⟨h.1, hF⟩
theorem main_1_2 : Claimed_1_2 := comes_1 fun _ _ _ _ _ _ h hF => ⟨h.2.1, hF⟩
end Jvm.Pilot.@@N@@
namespace Jvm.Pilot.@@N@@
open Jvm Jvm.ClassFile Sem Op Lib Jvm.Free Jvm.Stand Jvm.Pilot.@@N@@.Jvm.D
/-! MADE BY PROGRAM (witnessworld.py) out of the Statement's table words and the real class files: 9 classes; the members and pool entries that the words name. The judged class is class 1, her method 1. -/
namespace start1
open Jvm.ClassFile
def u (s : String) : CpInfo := .utf8 (stringToUtf16 s)
/-- a pool by its gaps: so many unusable entries, then the entry; so many at the end -/
def gap : Nat → List CpInfo → List CpInfo
  | 0, r => r
  | n + 1, r => .unusable :: gap n r
def poolList (es : List (Nat × CpInfo)) (last : Nat) : List CpInfo := es.foldr (fun e r => gap e.1 (e.2 :: r)) (gap last [])
def pool (es : List (Nat × CpInfo)) (last : Nat) : Array CpInfo := ⟨poolList es last⟩
def fileOf (pool : Array CpInfo) (this : Nat) (attrs : Array Attribute := #[]) (ms : Array MethodInfo := #[]) (fl : Nat := 33) (sup : Nat := 0) (ifs : Array Nat := #[]) (fds : Array FieldInfo := #[]) : ClassFile where
  minorVersion := 0
  majorVersion := 65
  constantPool := pool
  accessFlags := fl
  thisClass := this
  superClass := sup
  interfaces := ifs
  fields := fds
  methods := ms
  attributes := attrs
def plain (name : String) (sup : Option ClassId) : Class where
  name := name
  kind := .ordinary
  loader := none
  accessFlags := 33
  super := sup
  interfaces := #[]
  cf := none
  fields := #[]
  methods := #[]
  instanceTypes := #[]
  staticTypes := #[]
  resolved := #[]
  callSites := []
  init := .initialized
  statics := none
  mirror := none

def pool0 : Array CpInfo := pool [(5, u "<init>"), (0, u "()V"), (1, .class_ 10), (1, u "java/lang/Object")] 113

def k0m0 : Method := { name := "<init>", desc := "()V", sig := { parameters := [], returnType := none }, accessFlags := 1, code := none }
/-- java/lang/Object -/
def k0 : Class := { plain "java/lang/Object" none with
  accessFlags := 33
  interfaces := #[]
  cf := some (fileOf pool0 8 #[] #[{ accessFlags := 1, nameIndex := 5, descriptorIndex := 6, attributes := #[] }] 33 0 #[] #[])
  fields := #[]
  methods := #[k0m0]
  instanceTypes := #[]
  staticTypes := #[]
  resolved := Array.replicate 124 none
  statics := none }

def pool1 : Array CpInfo := pool [(2, .class_ 4), (1, u "java/lang/Object"), (0, u "<init>"), (0, u "()V"), (0, .long 255), (1, .long 18446744073709551615), (1, .methodref 12 13), (0, .class_ 14), (0, .nameAndType 15 16), (0, u "com/example/antecedent/antecedent/trace/WordsBetweenPinLaw"), (0, u "bit"), (0, u "(JIII)J"), (0, .methodref 18 19), (0, .class_ 20), (0, .nameAndType 21 22), (0, u "com/example/antecedent/antecedent/trace/Words"), (0, u "between"), (0, u "(JII)J"), (0, .long 128), (3, u "law"), (0, u "(JIII)Z")] 3

def k1m0 : Method := { name := "<init>", desc := "()V", sig := { parameters := [], returnType := none }, accessFlags := 2, code := none }
def k1c1 : Code := { maxStack := 7, maxLocals := 14, code := code, exceptionTable := #[], attributes := #[] }
def k1m1 : Method := { name := "law", desc := "(JIII)Z", sig := { parameters := [.long, .int, .int, .int], returnType := some .boolean }, accessFlags := 9, code := some k1c1 }
def k1c2 : Code := { maxStack := 4, maxLocals := 6, code := method_3_code, exceptionTable := #[], attributes := #[] }
def k1m2 : Method := { name := "bit", desc := "(JIII)J", sig := { parameters := [.long, .int, .int, .int], returnType := some .long }, accessFlags := 10, code := some k1c2 }
/-- com/example/antecedent/antecedent/trace/WordsBetweenPinLaw -/
def k1 : Class := { plain "com/example/antecedent/antecedent/trace/WordsBetweenPinLaw" (some 0) with
  accessFlags := 49
  interfaces := #[]
  cf := some (fileOf pool1 12 #[] #[{ accessFlags := 2, nameIndex := 5, descriptorIndex := 6, attributes := #[] }, { accessFlags := 9, nameIndex := 27, descriptorIndex := 28, attributes := #[] }, { accessFlags := 10, nameIndex := 15, descriptorIndex := 16, attributes := #[] }] 49 2 #[] #[])
  fields := #[]
  methods := #[k1m0, k1m1, k1m2]
  instanceTypes := #[]
  staticTypes := #[]
  resolved := Array.replicate 32 none
  statics := none }

def pool2 : Array CpInfo := pool [(2, .class_ 4), (1, u "java/lang/Object"), (0, u "<init>"), (0, u "()V"), (1, .class_ 10), (1, u "com/example/antecedent/antecedent/trace/Words"), (0, u "LITTLE_ENDIAN_LONG"), (0, u "Ljava/lang/invoke/VarHandle;"), (17, .long 18446744073709551615), (1, .long 9187201950435737471), (1, .long 72340172838076673), (5, .long 9259542123273814144), (21, u "TOPS"), (0, u "J"), (1, u "ONES"), (0, u "GATHER"), (0, u "LOWS"), (8, u "between"), (0, u "(JII)J")] 5

def k2m0 : Method := { name := "<init>", desc := "()V", sig := { parameters := [], returnType := none }, accessFlags := 2, code := none }
def k2c1 : Code := { maxStack := 6, maxLocals := 10, code := prog_60_method_8_code, exceptionTable := #[], attributes := #[] }
def k2m1 : Method := { name := "between", desc := "(JII)J", sig := { parameters := [.long, .int, .int], returnType := some .long }, accessFlags := 8, code := some k2c1 }
/-- com/example/antecedent/antecedent/trace/Words -/
def k2 : Class := { plain "com/example/antecedent/antecedent/trace/Words" (some 0) with
  accessFlags := 48
  interfaces := #[]
  cf := some (fileOf pool2 8 #[] #[{ accessFlags := 2, nameIndex := 5, descriptorIndex := 6, attributes := #[] }, { accessFlags := 8, nameIndex := 76, descriptorIndex := 77, attributes := #[] }] 48 2 #[] #[{ accessFlags := 24, nameIndex := 62, descriptorIndex := 63, attributes := #[] }, { accessFlags := 26, nameIndex := 65, descriptorIndex := 63, attributes := #[] }, { accessFlags := 26, nameIndex := 66, descriptorIndex := 63, attributes := #[] }, { accessFlags := 26, nameIndex := 67, descriptorIndex := 63, attributes := #[] }, { accessFlags := 26, nameIndex := 11, descriptorIndex := 12, attributes := #[] }])
  fields := #[{ name := "TOPS", type := .long, accessFlags := 24, slot := 0, constantValue := 0 }, { name := "ONES", type := .long, accessFlags := 26, slot := 1, constantValue := 0 }, { name := "GATHER", type := .long, accessFlags := 26, slot := 2, constantValue := 0 }, { name := "LOWS", type := .long, accessFlags := 26, slot := 3, constantValue := 0 }, { name := "LITTLE_ENDIAN_LONG", type := (.object "java/lang/invoke/VarHandle"), accessFlags := 26, slot := 4, constantValue := 0 }]
  methods := #[k2m0, k2m1]
  instanceTypes := #[]
  staticTypes := #[.long, .long, .long, .long, (.object "java/lang/invoke/VarHandle")]
  resolved := Array.replicate 83 none
  statics := none }

def pool3 : Array CpInfo := pool [(1, u "java/lang/Cloneable"), (0, .class_ 1), (0, u "java/lang/Object"), (0, .class_ 3)] 3

/-- java/lang/Cloneable -/
def k3 : Class := { plain "java/lang/Cloneable" (some 0) with
  accessFlags := 1537
  interfaces := #[]
  cf := some (fileOf pool3 2 #[] #[] 1537 4 #[] #[])
  fields := #[]
  methods := #[]
  instanceTypes := #[]
  staticTypes := #[]
  resolved := Array.replicate 8 none
  statics := none }

def pool4 : Array CpInfo := pool [(1, u "java/io/Serializable"), (0, .class_ 1), (0, u "java/lang/Object"), (0, .class_ 3)] 3

/-- java/io/Serializable -/
def k4 : Class := { plain "java/io/Serializable" (some 0) with
  accessFlags := 1537
  interfaces := #[]
  cf := some (fileOf pool4 2 #[] #[] 1537 4 #[] #[])
  fields := #[]
  methods := #[]
  instanceTypes := #[]
  staticTypes := #[]
  resolved := Array.replicate 8 none
  statics := none }

/-- the primitive byte -/
def k5 : Class := { plain "byte" none with kind := .primitive 'B', accessFlags := 0x411 }
/-- [B -/
def k6 : Class := { plain "[B" (some 0) with kind := .array 5 .byte, interfaces := #[3, 4], accessFlags := 1041 }

/-- the primitive int -/
def k7 : Class := { plain "int" none with kind := .primitive 'I', accessFlags := 0x411 }
/-- [I -/
def k8 : Class := { plain "[I" (some 0) with kind := .array 7 .int, interfaces := #[3, 4], accessFlags := 1041 }

def heap : Heap := #[]
def classes : Array Class := #[k0, k1, k2, k3, k4, k5, k6, k7, k8]
def interned : List (Array UInt16 × Addr) := []
def slotsUsed : Nat := 0
def theMethod : MethodId := ⟨1, 1⟩
def args0 : Array Value := #[.long 11, .int 5, .int 1, .int 2]
def aboutOver (below : List Frame) : State where
  vm := { classes := classes, interned := interned.toArray }
  heap := heap
  slotsUsed := slotsUsed
  threads := #[{ frames := .invoking theMethod args0 :: below }]
def below0 : List Frame := [.native { method := ⟨0, 0⟩, args := #[] }]
def about1 : State := aboutOver below0
def p0 : Program := .bare "" "" ""
def e0 : Env := launch0.env 0 0 0
theorem w_frames : about1.frames = Frame.invoking theMethod args0 :: below0 := rfl
set_option maxRecDepth 65536 in
theorem w_args : argsFit about1.vm theMethod args0 = true := by decide +kernel
set_option maxRecDepth 65536 in
theorem w_heap : heapFits about1 = true := by decide +kernel
set_option maxRecDepth 65536 in
theorem w_runnable : about1.curStatus? = some .runnable := by decide +kernel
set_option maxRecDepth 65536 in
theorem w_alone : about1.alone = true := by decide +kernel
set_option maxRecDepth 65536 in
theorem w_named : about1.methodNamed? x = some theMethod := by decide +kernel
set_option maxRecDepth 65536 in
theorem w_hears : about1.hears theMethod below0 = true := by decide +kernel
set_option maxRecDepth 65536 in
theorem w_ripe : about1.ripe theMethod args0 below0 = true := by decide +kernel
theorem w_running : about1.status = .running := rfl
set_option maxRecDepth 65536 in
theorem w_room : about1.hasRoom e0.platform room_1 = true :=
  launch0.hasRoom_least _ room_1 (by decide +kernel) (by decide +kernel) (by decide +kernel) (by decide +kernel) (by decide +kernel) (by decide +kernel)
theorem allAtoms_all (ts : List Jvm.Cond) (a : Array Jvm.Value) (st : Jvm.State) : (allAtoms ts).before a st = ts.all (fun c => c.before a st) := by
  induction ts with
  | nil => rfl
  | cons c t ih =>
    show (Jvm.Cond.and c (allAtoms t)).before a st = _
    rw [Jvm.Cond.before_and, ih, List.all_cons]
def words1 : List Jvm.Cond := Jvm.Cond.code x code maxLocals ret :: tables_1
/-- a 'code' word, met by the world's own term for the bytes: nothing is compared byte by byte -/
theorem code_word {y : MethodName} {bytes : ByteArray} {mx : Nat} {rt : Option FieldType} {a : Array Value} {s : State} {m : MethodId} {meth : Method} {c : Code} (h1 : s.methodNamed? y = some m) (h2 : s.vm.method? m = some meth) (h3 : meth.code = some c) (h4 : c.code = bytes)
    (h5 : (c.maxLocals == mx && c.exceptionTable.isEmpty && decide (c.maxStack ≤ mostOperands) && decide (meth.sig.returnType = rt) && !meth.locks && decide (parseMethodDescriptor y.desc = some meth.sig)) = true) : (Jvm.Cond.code y bytes mx rt).before a s = true := by
  simp only [Bool.and_eq_true, beq_iff_eq, Bool.not_eq_true', decide_eq_true_eq] at h5
  obtain ⟨⟨⟨⟨⟨g1, g2⟩, g3⟩, g4⟩, g5⟩, g6⟩ := h5
  simp [Cond.before, Cond.holds, Cond.value, h1, h2, h3, h4, g1, g2, g3, g4, g5, g6]
def isCode : Jvm.Cond → Bool
  | .code _ _ _ _ => true
  | _ => false
theorem all_split {L : List Jvm.Cond} {P : Jvm.Cond → Bool} (h1 : L.all (fun c => isCode c || P c) = true) (h2 : ∀ c ∈ L.filter isCode, P c = true) : L.all P = true := by
  refine List.all_eq_true.mpr fun c hc => ?_
  have h := List.all_eq_true.mp h1 c hc
  rcases Bool.eq_false_or_eq_true (isCode c) with hi | hi
  · exact h2 c (List.mem_filter.mpr ⟨hc, hi⟩)
  · simpa [hi] using h
set_option maxRecDepth 65536 in
theorem w_c0 : (Jvm.Cond.code x code maxLocals ret).before args0 about1 = true := code_word (m := ⟨1, 1⟩) (meth := k1m1) (c := k1c1) (by decide +kernel) rfl rfl rfl (by decide +kernel)
set_option maxRecDepth 65536 in
theorem w_c1 : (Jvm.Cond.code ({ cls := "com/example/antecedent/antecedent/trace/WordsBetweenPinLaw", name := "bit", desc := "(JIII)J" } : Jvm.MethodName) method_3_code (6 : Nat) (Option.some Jvm.ClassFile.FieldType.long)).before args0 about1 = true := code_word (m := ⟨1, 2⟩) (meth := k1m2) (c := k1c2) (by decide +kernel) rfl rfl rfl (by decide +kernel)
set_option maxRecDepth 65536 in
theorem w_c2 : (Jvm.Cond.code ({ cls := "com/example/antecedent/antecedent/trace/Words", name := "between", desc := "(JII)J" } : Jvm.MethodName) prog_60_method_8_code (10 : Nat) (Option.some Jvm.ClassFile.FieldType.long)).before args0 about1 = true := code_word (m := ⟨2, 1⟩) (meth := k2m1) (c := k2c1) (by decide +kernel) rfl rfl rfl (by decide +kernel)
def codes1 : List Jvm.Cond := [Jvm.Cond.code x code maxLocals ret, Jvm.Cond.code ({ cls := "com/example/antecedent/antecedent/trace/WordsBetweenPinLaw", name := "bit", desc := "(JIII)J" } : Jvm.MethodName) method_3_code (6 : Nat) (Option.some Jvm.ClassFile.FieldType.long), Jvm.Cond.code ({ cls := "com/example/antecedent/antecedent/trace/Words", name := "between", desc := "(JII)J" } : Jvm.MethodName) prog_60_method_8_code (10 : Nat) (Option.some Jvm.ClassFile.FieldType.long)]
set_option maxRecDepth 65536 in
theorem codes_eq : words1.filter isCode = codes1 := rfl
theorem w_codes : ∀ c ∈ words1.filter isCode, c.before args0 about1 = true := by
  rw [codes_eq]
  intro c hc
  simp only [codes1, List.mem_cons, List.not_mem_nil, or_false] at hc
  rcases hc with rfl | rfl | rfl
  · exact w_c0
  · exact w_c1
  · exact w_c2
set_option maxRecDepth 65536 in
theorem w_t1 : words1.all (fun c => isCode c || c.before args0 about1) = true := by decide +kernel
theorem w_tables : (allAtoms (Jvm.Cond.code x code maxLocals ret :: tables_1)).before args0 about1 = true := by
  rw [allAtoms_all]
  show words1.all (fun c => c.before args0 about1) = true
  refine all_split ?_ w_codes
  rw [w_t1]
set_option maxRecDepth 65536 in
theorem w_case : (Jvm.Cond.and given_1 narrow_1).before args0 about1 = true := by decide +kernel
theorem w_applies : (headSpec (Jvm.Cond.code x code maxLocals ret :: tables_1) room_1).applies x e0.platform about1 = true :=
  (Spec.applies_iff w_frames).mpr ⟨w_running, w_runnable, w_alone, w_named, w_hears, w_ripe, w_room, w_tables⟩
theorem atStart : AtStart classFile x code maxLocals ret World_1 tables_1 room_1 Calls_1 rest_1 Pre_1 launch0 p0 e0 about1 theMethod args0 below0 :=
  ⟨lists_1, trivial, launch0.admits_env _ _ _, launch0.least_env, fairChoices_fair.cas, fairChoices_fair.clock, w_frames, w_args, w_heap, w_applies, trivial, trivial, w_case⟩
end start1
theorem witness_1 : WitnessClaimed_1 := ⟨start1.p0, start1.e0, start1.about1, start1.theMethod, start1.args0, start1.below0, start1.atStart⟩
end Jvm.Pilot.@@N@@
