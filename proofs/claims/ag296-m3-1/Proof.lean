import JvmDerived
import JvmDerived.Pilot.@@N@@Statement
import JvmDerived.Pilot.@@N@@Code
set_option linter.unusedVariables false
set_option linter.unusedSimpArgs false
@@BLOCK:NumsL.lean.txt@@
namespace Jvm.Pilot.@@N@@
open Jvm Jvm.ClassFile Sem Op Lib Jvm.Free Jvm.Stand Jvm.LawKit Jvm.RoadKit Bundle Jvm.Pilot.@@N@@.Jvm.D
section GoKit
variable {p : Program} {l : Launch} {e : Env} {R : Room} {s : State} {m : MethodId} {args : Array Value} {below : List Frame} {meth : Method} {c : Code} {T : State} {Z : State} {own nm : String} {bytes : ByteArray} {mx : Nat} {rt : Option FieldType} {n0 k n : Nat} {h : Heap} {Q : Option Value → Heap → Prop} {CC NN : Nat} {a0 : Array Value} {Ls Ls' : Array Slot} {rest : List Value} {pc pc' : Nat}
/-- where a walk stands -/
def W (Z : State) (own nm : String) (bytes : ByteArray) (mx : Nat) (rt : Option FieldType) (n0 : Nat) (p : Program) (l : Launch) (e : Env) (R : Room) (s : State) (m : MethodId) (args : Array Value) (below : List Frame) (meth : Method) (c : Code) (k n : Nat) (T : State) (h : Heap) : Prop :=
  p.tables.exec = Jvm.exec ∧ c.code = bytes ∧ s.vm.findClass own = some m.cls ∧ Z.Warmed39 s.vm ∧ c.maxLocals = mx ∧ meth.name = nm ∧ meth.sig.returnType = rt ∧ meth.locks = false ∧ (∃ L, Stand p l e R s m args below meth c T L k n ∧ Fr n0 L) ∧ T.heap = h
/-- from this frame the method ends well -/
def Go (n0 : Nat) (p : Program) (e : Env) (below : List Frame) (s : State) (Q : Option Value → Heap → Prop) (CC NN : Nat) (T : State) (g : JFrame) : Prop :=
  ∃ s₂ o, Steps p.tables e below (T.setTop g) s₂ ∧ s₂.status = .running ∧ Ended s₂ below o ∧ ∃ v L, o = .returned v ∧ (Fr n0 L ∧ Q v s₂.heap) ∧ FrameEnd s o s₂ L CC NN
/-- a body's contract: of these arguments, at this heap -/
def Ctr (l : Launch) (y : MethodName) (yb : ByteArray) (ymx : Nat) (yr : Option FieldType) (rm : Room) (Z : State) (as : Array Value) (h0 : Heap) (n0 : Nat) (Q : Option Value → Heap → Prop) (ws : List Jvm.Cond) : Prop :=
  MetFree l y (head1 (Jvm.Cond.code y yb ymx yr :: ws) rm) (fun a U => a = as ∧ Z.Warmed39 U.vm ∧ U.heap = h0) (fun _ _ _ _ _ => True) (fun _ U o U' => ∃ v L, o = .returned v ∧ (Fr n0 L ∧ Q v U'.heap) ∧ FrameEnd U o U' L rm.cells rm.slots)
theorem metGo {y : MethodName} {rm : Room} {as : Array Value} {ws : List Jvm.Cond} (hpn : plainFor y = true) (hef : ∀ m, entryFrame m as mx = mkF m 0 Ls [])
    (H : ∀ (p : Program) (e : Env) (s : State) (m : MethodId) (below : List Frame) (meth : Method) (c : Code) (T : State), W Z y.cls y.name bytes mx rt n0 p l e rm s m as below meth c 0 0 T h → Go n0 p e below s Q rm.cells rm.slots T (mkF m 0 Ls [])) : Ctr l y bytes mx rt rm Z as h n0 Q ws := by
  refine MetFree.of_bodySF hpn hisR ?_
  intro p e s m args below meth c s₁ Bd hml0 hP hK
  obtain ⟨rfl, hZ, hh⟩ := hP
  have e0 : s₁.heap = h := by rw [← hh, Bd.state]; rfl
  obtain ⟨s₂, o, st, r⟩ := H p e s m below meth c s₁ ⟨Bd.exec, Bd.bytes, findClass_of_methodNamed Bd.named, hZ, hml0, (name_of_methodNamed Bd.named Bd.method).1, Bd.returns, Bd.notSynchronized, ⟨[], Stand.of_body Bd, Fr.nil n0⟩, e0⟩
  exact ⟨s₂, o, castTop (hef m) st, r⟩
def cY : ClassFile.Cond → Int32 → Int32 → Prop
  | .eq, x, y => x = y
  | .ne, x, y => ¬ x = y
  | .lt, x, y => x < y
  | .ge, x, y => ¬ x < y
  | .gt, x, y => y < x
  | .le, x, y => ¬ y < x
def cN : ClassFile.Cond → Int32 → Int32 → Prop
  | .eq, x, y => ¬ x = y
  | .ne, x, y => x = y
  | .lt, x, y => ¬ x < y
  | .ge, x, y => x < y
  | .gt, x, y => ¬ y < x
  | .le, x, y => y < x
def lY : ClassFile.Cond → Int64 → Int64 → Prop
  | .eq, x, y => x = y
  | .ne, x, y => ¬ x = y
  | .lt, x, y => x < y
  | .ge, x, y => ¬ x < y
  | .gt, x, y => y < x
  | .le, x, y => ¬ y < x
def lN : ClassFile.Cond → Int64 → Int64 → Prop
  | .eq, x, y => ¬ x = y
  | .ne, x, y => x = y
  | .lt, x, y => ¬ x < y
  | .ge, x, y => x < y
  | .gt, x, y => ¬ y < x
  | .le, x, y => y < x
theorem c_or (cd : ClassFile.Cond) (x y : Int32) : (cY cd x y ∧ if_icmp.holds cd x y = true) ∨ (cN cd x y ∧ if_icmp.holds cd x y = false) := by
  cases cd
  · by_cases q : x = y
    · exact Or.inl ⟨q, (teq q).1⟩
    · exact Or.inr ⟨q, (feq q).1⟩
  · by_cases q : x = y
    · exact Or.inr ⟨q, (teq q).2⟩
    · exact Or.inl ⟨q, (feq q).2⟩
  · by_cases q : x < y
    · exact Or.inl ⟨q, (tlt q).1⟩
    · exact Or.inr ⟨q, (flt q).1⟩
  · by_cases q : x < y
    · exact Or.inr ⟨q, (tlt q).2.1⟩
    · exact Or.inl ⟨q, (flt q).2.1⟩
  · by_cases q : y < x
    · exact Or.inl ⟨q, (tlt q).2.2.1⟩
    · exact Or.inr ⟨q, (flt q).2.2.1⟩
  · by_cases q : y < x
    · exact Or.inr ⟨q, (tlt q).2.2.2⟩
    · exact Or.inl ⟨q, (flt q).2.2.2⟩
theorem lY_of (cd : ClassFile.Cond) (x y : Int64) (q : cY cd (lcmpW x y) 0) : lY cd x y := by
  cases cd
  · exact (lw_eq x y).mp q
  · exact fun r => q ((lw_eq x y).mpr r)
  · exact (lw_lt x y).mp q
  · exact fun r => q ((lw_lt x y).mpr r)
  · exact (lw_gt x y).mp q
  · exact fun r => q ((lw_gt x y).mpr r)
theorem lN_of (cd : ClassFile.Cond) (x y : Int64) (q : cN cd (lcmpW x y) 0) : lN cd x y := by
  cases cd
  · exact fun r => q ((lw_eq x y).mpr r)
  · exact (lw_eq x y).mp q
  · exact fun r => q ((lw_lt x y).mpr r)
  · exact (lw_lt x y).mp q
  · exact fun r => q ((lw_gt x y).mpr r)
  · exact (lw_gt x y).mp q

theorem giload (w : W Z own nm bytes mx rt n0 p l e R s m args below meth c k n T h) {j : Nat} {v : Int32} (hd : decode bytes pc = .ok (.iload j, 2)) (hl : Ls[j]? = some (.val (.int v))) (hp : pc + 2 = pc') (K : Go n0 p e below s Q CC NN T (mkF m pc' Ls (.int v :: rest))) : Go n0 p e below s Q CC NN T (mkF m pc Ls (rest)) := by
  obtain ⟨hx, hb, -, -, -, -, -, -, ⟨L, X, -⟩, -⟩ := w
  obtain ⟨s₂, o, st, r⟩ := K
  subst hp hb
  exact ⟨s₂, o, XS.iload X.here hx rfl hd hl st, r⟩
theorem giloadN (w : W Z own nm bytes mx rt n0 p l e R s m args below meth c k n T h) {j : Fin 4} {v : Int32} (hd : decode bytes pc = .ok (.iload_n j, 1)) (hl : Ls[j.val]? = some (.val (.int v))) (hp : pc + 1 = pc') (K : Go n0 p e below s Q CC NN T (mkF m pc' Ls (.int v :: rest))) : Go n0 p e below s Q CC NN T (mkF m pc Ls (rest)) := by
  obtain ⟨hx, hb, -, -, -, -, -, -, ⟨L, X, -⟩, -⟩ := w
  obtain ⟨s₂, o, st, r⟩ := K
  subst hp hb
  exact ⟨s₂, o, XS.iloadN X.here hx rfl hd hl st, r⟩
theorem glload (w : W Z own nm bytes mx rt n0 p l e R s m args below meth c k n T h) {j : Nat} {v : Int64} (hd : decode bytes pc = .ok (.lload j, 2)) (hl : Ls[j]? = some (.val (.long v))) (hp : pc + 2 = pc') (K : Go n0 p e below s Q CC NN T (mkF m pc' Ls (.long v :: rest))) : Go n0 p e below s Q CC NN T (mkF m pc Ls (rest)) := by
  obtain ⟨hx, hb, -, -, -, -, -, -, ⟨L, X, -⟩, -⟩ := w
  obtain ⟨s₂, o, st, r⟩ := K
  subst hp hb
  exact ⟨s₂, o, XS.lload X.here hx rfl hd hl st, r⟩
theorem glloadN (w : W Z own nm bytes mx rt n0 p l e R s m args below meth c k n T h) {j : Fin 4} {v : Int64} (hd : decode bytes pc = .ok (.lload_n j, 1)) (hl : Ls[j.val]? = some (.val (.long v))) (hp : pc + 1 = pc') (K : Go n0 p e below s Q CC NN T (mkF m pc' Ls (.long v :: rest))) : Go n0 p e below s Q CC NN T (mkF m pc Ls (rest)) := by
  obtain ⟨hx, hb, -, -, -, -, -, -, ⟨L, X, -⟩, -⟩ := w
  obtain ⟨s₂, o, st, r⟩ := K
  subst hp hb
  exact ⟨s₂, o, XS.lloadN X.here hx rfl hd hl st, r⟩
theorem gaload (w : W Z own nm bytes mx rt n0 p l e R s m args below meth c k n T h) {j : Nat} {v : Value} (hd : decode bytes pc = .ok (.aload j, 2)) (hl : Ls[j]? = some (.val v)) (hv : v.isRef = true) (hp : pc + 2 = pc') (K : Go n0 p e below s Q CC NN T (mkF m pc' Ls (v :: rest))) : Go n0 p e below s Q CC NN T (mkF m pc Ls (rest)) := by
  obtain ⟨hx, hb, -, -, -, -, -, -, ⟨L, X, -⟩, -⟩ := w
  obtain ⟨s₂, o, st, r⟩ := K
  subst hp hb
  exact ⟨s₂, o, XS.aload X.here hx rfl hd hl hv st, r⟩
theorem galoadN (w : W Z own nm bytes mx rt n0 p l e R s m args below meth c k n T h) {j : Fin 4} {v : Value} (hd : decode bytes pc = .ok (.aload_n j, 1)) (hl : Ls[j.val]? = some (.val v)) (hv : v.isRef = true) (hp : pc + 1 = pc') (K : Go n0 p e below s Q CC NN T (mkF m pc' Ls (v :: rest))) : Go n0 p e below s Q CC NN T (mkF m pc Ls (rest)) := by
  obtain ⟨hx, hb, -, -, -, -, -, -, ⟨L, X, -⟩, -⟩ := w
  obtain ⟨s₂, o, st, r⟩ := K
  subst hp hb
  exact ⟨s₂, o, XS.aloadN X.here hx rfl hd hl hv st, r⟩
theorem gistore (w : W Z own nm bytes mx rt n0 p l e R s m args below meth c k n T h) {j : Nat} {v : Int32} (hd : decode bytes pc = .ok (.istore j, 2)) (hl : storeLocals Ls j (.int v) = some Ls') (hp : pc + 2 = pc') (K : Go n0 p e below s Q CC NN T (mkF m pc' Ls' (rest))) : Go n0 p e below s Q CC NN T (mkF m pc Ls (.int v :: rest)) := by
  obtain ⟨hx, hb, -, -, -, -, -, -, ⟨L, X, -⟩, -⟩ := w
  obtain ⟨s₂, o, st, r⟩ := K
  subst hp hb
  exact ⟨s₂, o, XS.istore X.here hx rfl hd rfl hl st, r⟩
theorem gistoreN (w : W Z own nm bytes mx rt n0 p l e R s m args below meth c k n T h) {j : Fin 4} {v : Int32} (hd : decode bytes pc = .ok (.istore_n j, 1)) (hl : storeLocals Ls j.val (.int v) = some Ls') (hp : pc + 1 = pc') (K : Go n0 p e below s Q CC NN T (mkF m pc' Ls' (rest))) : Go n0 p e below s Q CC NN T (mkF m pc Ls (.int v :: rest)) := by
  obtain ⟨hx, hb, -, -, -, -, -, -, ⟨L, X, -⟩, -⟩ := w
  obtain ⟨s₂, o, st, r⟩ := K
  subst hp hb
  exact ⟨s₂, o, XS.istoreN X.here hx rfl hd rfl hl st, r⟩
theorem glstore (w : W Z own nm bytes mx rt n0 p l e R s m args below meth c k n T h) {j : Nat} {v : Int64} (hd : decode bytes pc = .ok (.lstore j, 2)) (hl : storeLocals Ls j (.long v) = some Ls') (hp : pc + 2 = pc') (K : Go n0 p e below s Q CC NN T (mkF m pc' Ls' (rest))) : Go n0 p e below s Q CC NN T (mkF m pc Ls (.long v :: rest)) := by
  obtain ⟨hx, hb, -, -, -, -, -, -, ⟨L, X, -⟩, -⟩ := w
  obtain ⟨s₂, o, st, r⟩ := K
  subst hp hb
  exact ⟨s₂, o, XS.lstore X.here hx rfl hd rfl hl st, r⟩
theorem glstoreN (w : W Z own nm bytes mx rt n0 p l e R s m args below meth c k n T h) {j : Fin 4} {v : Int64} (hd : decode bytes pc = .ok (.lstore_n j, 1)) (hl : storeLocals Ls j.val (.long v) = some Ls') (hp : pc + 1 = pc') (K : Go n0 p e below s Q CC NN T (mkF m pc' Ls' (rest))) : Go n0 p e below s Q CC NN T (mkF m pc Ls (.long v :: rest)) := by
  obtain ⟨hx, hb, -, -, -, -, -, -, ⟨L, X, -⟩, -⟩ := w
  obtain ⟨s₂, o, st, r⟩ := K
  subst hp hb
  exact ⟨s₂, o, XS.lstoreN X.here hx rfl hd rfl hl st, r⟩
theorem gastore (w : W Z own nm bytes mx rt n0 p l e R s m args below meth c k n T h) {j : Nat} {v : Value} (hd : decode bytes pc = .ok (.astore j, 2)) (hv : v.isRef = true) (hl : storeLocals Ls j v = some Ls') (hp : pc + 2 = pc') (K : Go n0 p e below s Q CC NN T (mkF m pc' Ls' (rest))) : Go n0 p e below s Q CC NN T (mkF m pc Ls (v :: rest)) := by
  obtain ⟨hx, hb, -, -, -, -, -, -, ⟨L, X, -⟩, -⟩ := w
  obtain ⟨s₂, o, st, r⟩ := K
  subst hp hb
  exact ⟨s₂, o, XS.astore X.here hx rfl hd rfl hv hl st, r⟩
theorem gastoreN (w : W Z own nm bytes mx rt n0 p l e R s m args below meth c k n T h) {j : Fin 4} {v : Value} (hd : decode bytes pc = .ok (.astore_n j, 1)) (hv : v.isRef = true) (hl : storeLocals Ls j.val v = some Ls') (hp : pc + 1 = pc') (K : Go n0 p e below s Q CC NN T (mkF m pc' Ls' (rest))) : Go n0 p e below s Q CC NN T (mkF m pc Ls (v :: rest)) := by
  obtain ⟨hx, hb, -, -, -, -, -, -, ⟨L, X, -⟩, -⟩ := w
  obtain ⟨s₂, o, st, r⟩ := K
  subst hp hb
  exact ⟨s₂, o, XS.astoreN X.here hx rfl hd rfl hv hl st, r⟩
theorem giinc (w : W Z own nm bytes mx rt n0 p l e R s m args below meth c k n T h) {j : Nat} {i : Int} {v : Int32} (hd : decode bytes pc = .ok (.iinc j i, 3)) (hl : Ls[j]? = some (.val (.int v))) (hl' : storeLocals Ls j (.int (v + Int32.ofInt i)) = some Ls') (hp : pc + 3 = pc') (K : Go n0 p e below s Q CC NN T (mkF m pc' Ls' (rest))) : Go n0 p e below s Q CC NN T (mkF m pc Ls (rest)) := by
  obtain ⟨hx, hb, -, -, -, -, -, -, ⟨L, X, -⟩, -⟩ := w
  obtain ⟨s₂, o, st, r⟩ := K
  subst hp hb
  exact ⟨s₂, o, XS.iinc X.here hx rfl hd hl hl' st, r⟩
theorem giconst (w : W Z own nm bytes mx rt n0 p l e R s m args below meth c k n T h) {i : Int} {v : Int32} (hd : decode bytes pc = .ok (.iconst i, 1)) (hv : Int32.ofInt i = v) (hp : pc + 1 = pc') (K : Go n0 p e below s Q CC NN T (mkF m pc' Ls (.int v :: rest))) : Go n0 p e below s Q CC NN T (mkF m pc Ls (rest)) := by
  obtain ⟨hx, hb, -, -, -, -, -, -, ⟨L, X, -⟩, -⟩ := w
  obtain ⟨s₂, o, st, r⟩ := K
  subst hp hb hv
  exact ⟨s₂, o, XS.iconst X.here hx rfl hd st, r⟩
theorem gbipush (w : W Z own nm bytes mx rt n0 p l e R s m args below meth c k n T h) {i : Int} {v : Int32} (hd : decode bytes pc = .ok (.bipush i, 2)) (hv : (Int8.ofInt i).toInt32 = v) (hp : pc + 2 = pc') (K : Go n0 p e below s Q CC NN T (mkF m pc' Ls (.int v :: rest))) : Go n0 p e below s Q CC NN T (mkF m pc Ls (rest)) := by
  obtain ⟨hx, hb, -, -, -, -, -, -, ⟨L, X, -⟩, -⟩ := w
  obtain ⟨s₂, o, st, r⟩ := K
  subst hp hb hv
  exact ⟨s₂, o, XS.bipush X.here hx rfl hd st, r⟩
theorem gsipush (w : W Z own nm bytes mx rt n0 p l e R s m args below meth c k n T h) {i : Int} {v : Int32} (hd : decode bytes pc = .ok (.sipush i, 3)) (hv : (Int16.ofInt i).toInt32 = v) (hp : pc + 3 = pc') (K : Go n0 p e below s Q CC NN T (mkF m pc' Ls (.int v :: rest))) : Go n0 p e below s Q CC NN T (mkF m pc Ls (rest)) := by
  obtain ⟨hx, hb, -, -, -, -, -, -, ⟨L, X, -⟩, -⟩ := w
  obtain ⟨s₂, o, st, r⟩ := K
  subst hp hb hv
  exact ⟨s₂, o, XS.sipush X.here hx rfl hd st, r⟩
theorem glconst (w : W Z own nm bytes mx rt n0 p l e R s m args below meth c k n T h) {i : Fin 2} {v : Int64} (hd : decode bytes pc = .ok (.lconst i, 1)) (hv : Int64.ofNat i = v) (hp : pc + 1 = pc') (K : Go n0 p e below s Q CC NN T (mkF m pc' Ls (.long v :: rest))) : Go n0 p e below s Q CC NN T (mkF m pc Ls (rest)) := by
  obtain ⟨hx, hb, -, -, -, -, -, -, ⟨L, X, -⟩, -⟩ := w
  obtain ⟨s₂, o, st, r⟩ := K
  subst hp hb hv
  exact ⟨s₂, o, XS.lconst X.here hx rfl hd st, r⟩
theorem gnull (w : W Z own nm bytes mx rt n0 p l e R s m args below meth c k n T h) (hd : decode bytes pc = .ok (.aconst_null, 1)) (hp : pc + 1 = pc') (K : Go n0 p e below s Q CC NN T (mkF m pc' Ls (.null :: rest))) : Go n0 p e below s Q CC NN T (mkF m pc Ls (rest)) := by
  obtain ⟨hx, hb, -, -, -, -, -, -, ⟨L, X, -⟩, -⟩ := w
  obtain ⟨s₂, o, st, r⟩ := K
  subst hp hb
  exact ⟨s₂, o, XS.aconstNull X.here hx rfl hd  st, r⟩
theorem giadd (w : W Z own nm bytes mx rt n0 p l e R s m args below meth c k n T h) {x y : Int32} (hd : decode bytes pc = .ok (.iadd, 1)) (hp : pc + 1 = pc') (K : Go n0 p e below s Q CC NN T (mkF m pc' Ls (.int (x + y) :: rest))) : Go n0 p e below s Q CC NN T (mkF m pc Ls (.int y :: .int x :: rest)) := by
  obtain ⟨hx, hb, -, -, -, -, -, -, ⟨L, X, -⟩, -⟩ := w
  obtain ⟨s₂, o, st, r⟩ := K
  subst hp hb
  exact ⟨s₂, o, XS.iadd X.here hx rfl hd rfl st, r⟩
theorem gladd (w : W Z own nm bytes mx rt n0 p l e R s m args below meth c k n T h) {x y : Int64} (hd : decode bytes pc = .ok (.ladd, 1)) (hp : pc + 1 = pc') (K : Go n0 p e below s Q CC NN T (mkF m pc' Ls (.long (x + y) :: rest))) : Go n0 p e below s Q CC NN T (mkF m pc Ls (.long y :: .long x :: rest)) := by
  obtain ⟨hx, hb, -, -, -, -, -, -, ⟨L, X, -⟩, -⟩ := w
  obtain ⟨s₂, o, st, r⟩ := K
  subst hp hb
  exact ⟨s₂, o, XS.ladd X.here hx rfl hd rfl st, r⟩
theorem gisub (w : W Z own nm bytes mx rt n0 p l e R s m args below meth c k n T h) {x y : Int32} (hd : decode bytes pc = .ok (.isub, 1)) (hp : pc + 1 = pc') (K : Go n0 p e below s Q CC NN T (mkF m pc' Ls (.int (x - y) :: rest))) : Go n0 p e below s Q CC NN T (mkF m pc Ls (.int y :: .int x :: rest)) := by
  obtain ⟨hx, hb, -, -, -, -, -, -, ⟨L, X, -⟩, -⟩ := w
  obtain ⟨s₂, o, st, r⟩ := K
  subst hp hb
  exact ⟨s₂, o, XS.isub X.here hx rfl hd rfl st, r⟩
theorem glsub (w : W Z own nm bytes mx rt n0 p l e R s m args below meth c k n T h) {x y : Int64} (hd : decode bytes pc = .ok (.lsub, 1)) (hp : pc + 1 = pc') (K : Go n0 p e below s Q CC NN T (mkF m pc' Ls (.long (x - y) :: rest))) : Go n0 p e below s Q CC NN T (mkF m pc Ls (.long y :: .long x :: rest)) := by
  obtain ⟨hx, hb, -, -, -, -, -, -, ⟨L, X, -⟩, -⟩ := w
  obtain ⟨s₂, o, st, r⟩ := K
  subst hp hb
  exact ⟨s₂, o, XS.lsub X.here hx rfl hd rfl st, r⟩
theorem gimul (w : W Z own nm bytes mx rt n0 p l e R s m args below meth c k n T h) {x y : Int32} (hd : decode bytes pc = .ok (.imul, 1)) (hp : pc + 1 = pc') (K : Go n0 p e below s Q CC NN T (mkF m pc' Ls (.int (x * y) :: rest))) : Go n0 p e below s Q CC NN T (mkF m pc Ls (.int y :: .int x :: rest)) := by
  obtain ⟨hx, hb, -, -, -, -, -, -, ⟨L, X, -⟩, -⟩ := w
  obtain ⟨s₂, o, st, r⟩ := K
  subst hp hb
  exact ⟨s₂, o, XS.imul X.here hx rfl hd rfl st, r⟩
theorem glmul (w : W Z own nm bytes mx rt n0 p l e R s m args below meth c k n T h) {x y : Int64} (hd : decode bytes pc = .ok (.lmul, 1)) (hp : pc + 1 = pc') (K : Go n0 p e below s Q CC NN T (mkF m pc' Ls (.long (x * y) :: rest))) : Go n0 p e below s Q CC NN T (mkF m pc Ls (.long y :: .long x :: rest)) := by
  obtain ⟨hx, hb, -, -, -, -, -, -, ⟨L, X, -⟩, -⟩ := w
  obtain ⟨s₂, o, st, r⟩ := K
  subst hp hb
  exact ⟨s₂, o, XS.lmul X.here hx rfl hd rfl st, r⟩
theorem giand (w : W Z own nm bytes mx rt n0 p l e R s m args below meth c k n T h) {x y : Int32} (hd : decode bytes pc = .ok (.iand, 1)) (hp : pc + 1 = pc') (K : Go n0 p e below s Q CC NN T (mkF m pc' Ls (.int (x &&& y) :: rest))) : Go n0 p e below s Q CC NN T (mkF m pc Ls (.int y :: .int x :: rest)) := by
  obtain ⟨hx, hb, -, -, -, -, -, -, ⟨L, X, -⟩, -⟩ := w
  obtain ⟨s₂, o, st, r⟩ := K
  subst hp hb
  exact ⟨s₂, o, XS.iand X.here hx rfl hd rfl st, r⟩
theorem gland (w : W Z own nm bytes mx rt n0 p l e R s m args below meth c k n T h) {x y : Int64} (hd : decode bytes pc = .ok (.land, 1)) (hp : pc + 1 = pc') (K : Go n0 p e below s Q CC NN T (mkF m pc' Ls (.long (x &&& y) :: rest))) : Go n0 p e below s Q CC NN T (mkF m pc Ls (.long y :: .long x :: rest)) := by
  obtain ⟨hx, hb, -, -, -, -, -, -, ⟨L, X, -⟩, -⟩ := w
  obtain ⟨s₂, o, st, r⟩ := K
  subst hp hb
  exact ⟨s₂, o, XS.land X.here hx rfl hd rfl st, r⟩
theorem gior (w : W Z own nm bytes mx rt n0 p l e R s m args below meth c k n T h) {x y : Int32} (hd : decode bytes pc = .ok (.ior, 1)) (hp : pc + 1 = pc') (K : Go n0 p e below s Q CC NN T (mkF m pc' Ls (.int (x ||| y) :: rest))) : Go n0 p e below s Q CC NN T (mkF m pc Ls (.int y :: .int x :: rest)) := by
  obtain ⟨hx, hb, -, -, -, -, -, -, ⟨L, X, -⟩, -⟩ := w
  obtain ⟨s₂, o, st, r⟩ := K
  subst hp hb
  exact ⟨s₂, o, XS.ior X.here hx rfl hd rfl st, r⟩
theorem glor (w : W Z own nm bytes mx rt n0 p l e R s m args below meth c k n T h) {x y : Int64} (hd : decode bytes pc = .ok (.lor, 1)) (hp : pc + 1 = pc') (K : Go n0 p e below s Q CC NN T (mkF m pc' Ls (.long (x ||| y) :: rest))) : Go n0 p e below s Q CC NN T (mkF m pc Ls (.long y :: .long x :: rest)) := by
  obtain ⟨hx, hb, -, -, -, -, -, -, ⟨L, X, -⟩, -⟩ := w
  obtain ⟨s₂, o, st, r⟩ := K
  subst hp hb
  exact ⟨s₂, o, XS.lor X.here hx rfl hd rfl st, r⟩
theorem gixor (w : W Z own nm bytes mx rt n0 p l e R s m args below meth c k n T h) {x y : Int32} (hd : decode bytes pc = .ok (.ixor, 1)) (hp : pc + 1 = pc') (K : Go n0 p e below s Q CC NN T (mkF m pc' Ls (.int (x ^^^ y) :: rest))) : Go n0 p e below s Q CC NN T (mkF m pc Ls (.int y :: .int x :: rest)) := by
  obtain ⟨hx, hb, -, -, -, -, -, -, ⟨L, X, -⟩, -⟩ := w
  obtain ⟨s₂, o, st, r⟩ := K
  subst hp hb
  exact ⟨s₂, o, XS.ixor X.here hx rfl hd rfl st, r⟩
theorem glxor (w : W Z own nm bytes mx rt n0 p l e R s m args below meth c k n T h) {x y : Int64} (hd : decode bytes pc = .ok (.lxor, 1)) (hp : pc + 1 = pc') (K : Go n0 p e below s Q CC NN T (mkF m pc' Ls (.long (x ^^^ y) :: rest))) : Go n0 p e below s Q CC NN T (mkF m pc Ls (.long y :: .long x :: rest)) := by
  obtain ⟨hx, hb, -, -, -, -, -, -, ⟨L, X, -⟩, -⟩ := w
  obtain ⟨s₂, o, st, r⟩ := K
  subst hp hb
  exact ⟨s₂, o, XS.lxor X.here hx rfl hd rfl st, r⟩
theorem gineg (w : W Z own nm bytes mx rt n0 p l e R s m args below meth c k n T h) {x : Int32} (hd : decode bytes pc = .ok (.ineg, 1)) (hp : pc + 1 = pc') (K : Go n0 p e below s Q CC NN T (mkF m pc' Ls (.int (-x) :: rest))) : Go n0 p e below s Q CC NN T (mkF m pc Ls (.int x :: rest)) := by
  obtain ⟨hx, hb, -, -, -, -, -, -, ⟨L, X, -⟩, -⟩ := w
  obtain ⟨s₂, o, st, r⟩ := K
  subst hp hb
  exact ⟨s₂, o, XS.ineg X.here hx rfl hd rfl st, r⟩
theorem gidiv (w : W Z own nm bytes mx rt n0 p l e R s m args below meth c k n T h) {x y : Int32} (hd : decode bytes pc = .ok (.idiv, 1)) (hy : y ≠ 0) (hp : pc + 1 = pc') (K : Go n0 p e below s Q CC NN T (mkF m pc' Ls (.int (x / y) :: rest))) : Go n0 p e below s Q CC NN T (mkF m pc Ls (.int y :: .int x :: rest)) := by
  obtain ⟨hx, hb, -, -, -, -, -, -, ⟨L, X, -⟩, -⟩ := w
  obtain ⟨s₂, o, st, r⟩ := K
  subst hp hb
  exact ⟨s₂, o, XS.idiv X.here hx rfl hd rfl hy st, r⟩
theorem gldiv (w : W Z own nm bytes mx rt n0 p l e R s m args below meth c k n T h) {x y : Int64} (hd : decode bytes pc = .ok (.ldiv, 1)) (hy : y ≠ 0) (hp : pc + 1 = pc') (K : Go n0 p e below s Q CC NN T (mkF m pc' Ls (.long (x / y) :: rest))) : Go n0 p e below s Q CC NN T (mkF m pc Ls (.long y :: .long x :: rest)) := by
  obtain ⟨hx, hb, -, -, -, -, -, -, ⟨L, X, -⟩, -⟩ := w
  obtain ⟨s₂, o, st, r⟩ := K
  subst hp hb
  exact ⟨s₂, o, XS.ldiv X.here hx rfl hd rfl hy st, r⟩
theorem girem (w : W Z own nm bytes mx rt n0 p l e R s m args below meth c k n T h) {x y : Int32} (hd : decode bytes pc = .ok (.irem, 1)) (hy : y ≠ 0) (hp : pc + 1 = pc') (K : Go n0 p e below s Q CC NN T (mkF m pc' Ls (.int (x - (x / y) * y) :: rest))) : Go n0 p e below s Q CC NN T (mkF m pc Ls (.int y :: .int x :: rest)) := by
  obtain ⟨hx, hb, -, -, -, -, -, -, ⟨L, X, -⟩, -⟩ := w
  obtain ⟨s₂, o, st, r⟩ := K
  subst hp hb
  exact ⟨s₂, o, XS.irem X.here hx rfl hd rfl hy st, r⟩
theorem glrem (w : W Z own nm bytes mx rt n0 p l e R s m args below meth c k n T h) {x y : Int64} (hd : decode bytes pc = .ok (.lrem, 1)) (hy : y ≠ 0) (hp : pc + 1 = pc') (K : Go n0 p e below s Q CC NN T (mkF m pc' Ls (.long (x - (x / y) * y) :: rest))) : Go n0 p e below s Q CC NN T (mkF m pc Ls (.long y :: .long x :: rest)) := by
  obtain ⟨hx, hb, -, -, -, -, -, -, ⟨L, X, -⟩, -⟩ := w
  obtain ⟨s₂, o, st, r⟩ := K
  subst hp hb
  exact ⟨s₂, o, XS.lrem X.here hx rfl hd rfl hy st, r⟩
theorem gishl (w : W Z own nm bytes mx rt n0 p l e R s m args below meth c k n T h) {x : Int32} {y : Int32} (hd : decode bytes pc = .ok (.ishl, 1)) (hp : pc + 1 = pc') (K : Go n0 p e below s Q CC NN T (mkF m pc' Ls (.int (x <<< (y &&& 31)) :: rest))) : Go n0 p e below s Q CC NN T (mkF m pc Ls (.int y :: .int x :: rest)) := by
  obtain ⟨hx, hb, -, -, -, -, -, -, ⟨L, X, -⟩, -⟩ := w
  obtain ⟨s₂, o, st, r⟩ := K
  subst hp hb
  exact ⟨s₂, o, XS.ishl X.here hx rfl hd rfl st, r⟩
theorem gishr (w : W Z own nm bytes mx rt n0 p l e R s m args below meth c k n T h) {x : Int32} {y : Int32} (hd : decode bytes pc = .ok (.ishr, 1)) (hp : pc + 1 = pc') (K : Go n0 p e below s Q CC NN T (mkF m pc' Ls (.int (x >>> (y &&& 31)) :: rest))) : Go n0 p e below s Q CC NN T (mkF m pc Ls (.int y :: .int x :: rest)) := by
  obtain ⟨hx, hb, -, -, -, -, -, -, ⟨L, X, -⟩, -⟩ := w
  obtain ⟨s₂, o, st, r⟩ := K
  subst hp hb
  exact ⟨s₂, o, XS.ishr X.here hx rfl hd rfl st, r⟩
theorem giushr (w : W Z own nm bytes mx rt n0 p l e R s m args below meth c k n T h) {x : Int32} {y : Int32} (hd : decode bytes pc = .ok (.iushr, 1)) (hp : pc + 1 = pc') (K : Go n0 p e below s Q CC NN T (mkF m pc' Ls (.int ((x.toUInt32 >>> (y &&& 31).toUInt32).toInt32) :: rest))) : Go n0 p e below s Q CC NN T (mkF m pc Ls (.int y :: .int x :: rest)) := by
  obtain ⟨hx, hb, -, -, -, -, -, -, ⟨L, X, -⟩, -⟩ := w
  obtain ⟨s₂, o, st, r⟩ := K
  subst hp hb
  exact ⟨s₂, o, XS.iushr X.here hx rfl hd rfl st, r⟩
theorem glshl (w : W Z own nm bytes mx rt n0 p l e R s m args below meth c k n T h) {x : Int64} {y : Int32} (hd : decode bytes pc = .ok (.lshl, 1)) (hp : pc + 1 = pc') (K : Go n0 p e below s Q CC NN T (mkF m pc' Ls (.long (x <<< (y &&& 0x3f).toInt64) :: rest))) : Go n0 p e below s Q CC NN T (mkF m pc Ls (.int y :: .long x :: rest)) := by
  obtain ⟨hx, hb, -, -, -, -, -, -, ⟨L, X, -⟩, -⟩ := w
  obtain ⟨s₂, o, st, r⟩ := K
  subst hp hb
  exact ⟨s₂, o, XS.lshl X.here hx rfl hd rfl st, r⟩
theorem glshr (w : W Z own nm bytes mx rt n0 p l e R s m args below meth c k n T h) {x : Int64} {y : Int32} (hd : decode bytes pc = .ok (.lshr, 1)) (hp : pc + 1 = pc') (K : Go n0 p e below s Q CC NN T (mkF m pc' Ls (.long (x >>> (y &&& 0x3f).toInt64) :: rest))) : Go n0 p e below s Q CC NN T (mkF m pc Ls (.int y :: .long x :: rest)) := by
  obtain ⟨hx, hb, -, -, -, -, -, -, ⟨L, X, -⟩, -⟩ := w
  obtain ⟨s₂, o, st, r⟩ := K
  subst hp hb
  exact ⟨s₂, o, XS.lshr X.here hx rfl hd rfl st, r⟩
theorem glushr (w : W Z own nm bytes mx rt n0 p l e R s m args below meth c k n T h) {x : Int64} {y : Int32} (hd : decode bytes pc = .ok (.lushr, 1)) (hp : pc + 1 = pc') (K : Go n0 p e below s Q CC NN T (mkF m pc' Ls (.long ((x.toUInt64 >>> (y &&& 0x3f).toInt64.toUInt64).toInt64) :: rest))) : Go n0 p e below s Q CC NN T (mkF m pc Ls (.int y :: .long x :: rest)) := by
  obtain ⟨hx, hb, -, -, -, -, -, -, ⟨L, X, -⟩, -⟩ := w
  obtain ⟨s₂, o, st, r⟩ := K
  subst hp hb
  exact ⟨s₂, o, XS.lushr X.here hx rfl hd rfl st, r⟩
theorem gi2b (w : W Z own nm bytes mx rt n0 p l e R s m args below meth c k n T h) {v : Int32} (hd : decode bytes pc = .ok (.i2b, 1)) (hp : pc + 1 = pc') (K : Go n0 p e below s Q CC NN T (mkF m pc' Ls (.int (v.toInt8.toInt32) :: rest))) : Go n0 p e below s Q CC NN T (mkF m pc Ls (.int v :: rest)) := by
  obtain ⟨hx, hb, -, -, -, -, -, -, ⟨L, X, -⟩, -⟩ := w
  obtain ⟨s₂, o, st, r⟩ := K
  subst hp hb
  exact ⟨s₂, o, XS.i2b X.here hx rfl hd rfl st, r⟩
theorem gi2c (w : W Z own nm bytes mx rt n0 p l e R s m args below meth c k n T h) {v : Int32} (hd : decode bytes pc = .ok (.i2c, 1)) (hp : pc + 1 = pc') (K : Go n0 p e below s Q CC NN T (mkF m pc' Ls (.int (v.toUInt32.toUInt16.toUInt32.toInt32) :: rest))) : Go n0 p e below s Q CC NN T (mkF m pc Ls (.int v :: rest)) := by
  obtain ⟨hx, hb, -, -, -, -, -, -, ⟨L, X, -⟩, -⟩ := w
  obtain ⟨s₂, o, st, r⟩ := K
  subst hp hb
  exact ⟨s₂, o, XS.i2c X.here hx rfl hd rfl st, r⟩
theorem gi2l (w : W Z own nm bytes mx rt n0 p l e R s m args below meth c k n T h) {v : Int32} (hd : decode bytes pc = .ok (.i2l, 1)) (hp : pc + 1 = pc') (K : Go n0 p e below s Q CC NN T (mkF m pc' Ls (.long (v.toInt64) :: rest))) : Go n0 p e below s Q CC NN T (mkF m pc Ls (.int v :: rest)) := by
  obtain ⟨hx, hb, -, -, -, -, -, -, ⟨L, X, -⟩, -⟩ := w
  obtain ⟨s₂, o, st, r⟩ := K
  subst hp hb
  exact ⟨s₂, o, XS.i2l X.here hx rfl hd rfl st, r⟩
theorem gl2i (w : W Z own nm bytes mx rt n0 p l e R s m args below meth c k n T h) {v : Int64} (hd : decode bytes pc = .ok (.l2i, 1)) (hp : pc + 1 = pc') (K : Go n0 p e below s Q CC NN T (mkF m pc' Ls (.int (v.toInt32) :: rest))) : Go n0 p e below s Q CC NN T (mkF m pc Ls (.long v :: rest)) := by
  obtain ⟨hx, hb, -, -, -, -, -, -, ⟨L, X, -⟩, -⟩ := w
  obtain ⟨s₂, o, st, r⟩ := K
  subst hp hb
  exact ⟨s₂, o, XS.l2i X.here hx rfl hd rfl st, r⟩
theorem gdup (w : W Z own nm bytes mx rt n0 p l e R s m args below meth c k n T h) {x : Value} (hd : decode bytes pc = .ok (.dup, 1)) (hc : x.category = 1) (hp : pc + 1 = pc') (K : Go n0 p e below s Q CC NN T (mkF m pc' Ls (x :: x :: rest))) : Go n0 p e below s Q CC NN T (mkF m pc Ls (x :: rest)) := by
  obtain ⟨hx, hb, -, -, -, -, -, -, ⟨L, X, -⟩, -⟩ := w
  obtain ⟨s₂, o, st, r⟩ := K
  subst hp hb
  exact ⟨s₂, o, XS.dup X.here hx rfl hd rfl hc st, r⟩
theorem gpop (w : W Z own nm bytes mx rt n0 p l e R s m args below meth c k n T h) {x : Value} (hd : decode bytes pc = .ok (.pop, 1)) (hc : x.category = 1) (hp : pc + 1 = pc') (K : Go n0 p e below s Q CC NN T (mkF m pc' Ls (rest))) : Go n0 p e below s Q CC NN T (mkF m pc Ls (x :: rest)) := by
  obtain ⟨hx, hb, -, -, -, -, -, -, ⟨L, X, -⟩, -⟩ := w
  obtain ⟨s₂, o, st, r⟩ := K
  subst hp hb
  exact ⟨s₂, o, XS.pop X.here hx rfl hd rfl hc st, r⟩
theorem gdupx1 (w : W Z own nm bytes mx rt n0 p l e R s m args below meth c k n T h) {x y : Value} (hd : decode bytes pc = .ok (.dup_x1, 1)) (hc : x.category = 1) (hc2 : y.category = 1) (hp : pc + 1 = pc') (K : Go n0 p e below s Q CC NN T (mkF m pc' Ls (x :: y :: x :: rest))) : Go n0 p e below s Q CC NN T (mkF m pc Ls (x :: y :: rest)) := by
  obtain ⟨hx, hb, -, -, -, -, -, -, ⟨L, X, -⟩, -⟩ := w
  obtain ⟨s₂, o, st, r⟩ := K
  subst hp hb
  exact ⟨s₂, o, XS.dupX1 X.here hx rfl hd rfl hc hc2 st, r⟩
theorem ggoto (w : W Z own nm bytes mx rt n0 p l e R s m args below meth c k n T h) {o : Int} (hd : decode bytes pc = .ok (.goto o, 3)) (ho : 0 ≤ (pc : Int) + o) (hp : ((pc : Int) + o).toNat = pc') (K : Go n0 p e below s Q CC NN T (mkF m pc' Ls rest)) : Go n0 p e below s Q CC NN T (mkF m pc Ls rest) := by
  obtain ⟨hx, hb, -, -, -, -, -, -, ⟨L, X, -⟩, -⟩ := w
  obtain ⟨s₂, q, st, r⟩ := K
  subst hb
  exact ⟨s₂, q, XS.goto X.here hx rfl rfl hd ho hp st, r⟩
theorem gif (w : W Z own nm bytes mx rt n0 p l e R s m args below meth c k n T h) {cd : ClassFile.Cond} {x : Int32} {o : Int} {pt pf : Nat} (hd : decode bytes pc = .ok (.ifCond cd o, 3)) (ho : 0 ≤ (pc : Int) + o) (ht : ((pc : Int) + o).toNat = pt) (hf : pc + 3 = pf)
    (Kt : cY cd x 0 → Go n0 p e below s Q CC NN T (mkF m pt Ls rest)) (Kf : cN cd x 0 → Go n0 p e below s Q CC NN T (mkF m pf Ls rest)) : Go n0 p e below s Q CC NN T (mkF m pc Ls (.int x :: rest)) := by
  obtain ⟨hx, hb, -, -, -, -, -, -, ⟨L, X, -⟩, -⟩ := w
  subst hb hf
  rcases c_or cd x 0 with ⟨q, q'⟩ | ⟨q, q'⟩
  · obtain ⟨s₂, z, st, r⟩ := Kt q
    exact ⟨s₂, z, XS.ifYes X.here hx rfl rfl hd rfl ((if0 _ _).trans q') ho ht st, r⟩
  · obtain ⟨s₂, z, st, r⟩ := Kf q
    exact ⟨s₂, z, XS.ifNo X.here hx rfl hd rfl ((if0 _ _).trans q') st, r⟩
theorem gicmp (w : W Z own nm bytes mx rt n0 p l e R s m args below meth c k n T h) {cd : ClassFile.Cond} {x y : Int32} {o : Int} {pt pf : Nat} (hd : decode bytes pc = .ok (.if_icmp cd o, 3)) (ho : 0 ≤ (pc : Int) + o) (ht : ((pc : Int) + o).toNat = pt) (hf : pc + 3 = pf)
    (Kt : cY cd x y → Go n0 p e below s Q CC NN T (mkF m pt Ls rest)) (Kf : cN cd x y → Go n0 p e below s Q CC NN T (mkF m pf Ls rest)) : Go n0 p e below s Q CC NN T (mkF m pc Ls (.int y :: .int x :: rest)) := by
  obtain ⟨hx, hb, -, -, -, -, -, -, ⟨L, X, -⟩, -⟩ := w
  subst hb hf
  rcases c_or cd x y with ⟨q, q'⟩ | ⟨q, q'⟩
  · obtain ⟨s₂, z, st, r⟩ := Kt q
    exact ⟨s₂, z, XS.icmpYes X.here hx rfl rfl hd rfl q' ho ht st, r⟩
  · obtain ⟨s₂, z, st, r⟩ := Kf q
    exact ⟨s₂, z, XS.icmpNo X.here hx rfl hd rfl q' st, r⟩
theorem glcmpif (w : W Z own nm bytes mx rt n0 p l e R s m args below meth c k n T h) {cd : ClassFile.Cond} {x y : Int64} {o : Int} {pm pt pf : Nat} (hd0 : decode bytes pc = .ok (.lcmp, 1)) (hm : pc + 1 = pm) (hd : decode bytes pm = .ok (.ifCond cd o, 3)) (ho : 0 ≤ (pm : Int) + o) (ht : ((pm : Int) + o).toNat = pt) (hf : pm + 3 = pf)
    (Kt : lY cd x y → Go n0 p e below s Q CC NN T (mkF m pt Ls rest)) (Kf : lN cd x y → Go n0 p e below s Q CC NN T (mkF m pf Ls rest)) : Go n0 p e below s Q CC NN T (mkF m pc Ls (.long y :: .long x :: rest)) := by
  have K : Go n0 p e below s Q CC NN T (mkF m pm Ls (.int (lcmpW x y) :: rest)) := gif w hd ho ht hf (fun q => Kt (lY_of cd x y q)) (fun q => Kf (lN_of cd x y q))
  obtain ⟨hx, hb, -, -, -, -, -, -, ⟨L, X, -⟩, -⟩ := w
  obtain ⟨s₂, z, st, r⟩ := K
  subst hb hm
  exact ⟨s₂, z, XS.lcmp X.here hx rfl hd0 rfl st, r⟩
theorem gacmp (w : W Z own nm bytes mx rt n0 p l e R s m args below meth c k n T h) {cd : ClassFile.ACond} {x y : Value} {o : Int} {pt pf : Nat} (hd : decode bytes pc = .ok (.if_acmp cd o, 3)) (ho : 0 ≤ (pc : Int) + o) (h1 : x.isRef = true) (h2 : y.isRef = true) (ht : (if acV cd true = true then ((pc : Int) + o).toNat else pc + 3) = pt) (hf : (if acV cd false = true then ((pc : Int) + o).toNat else pc + 3) = pf)
    (Ke : x = y → Go n0 p e below s Q CC NN T (mkF m pt Ls rest)) (Kn : ¬ x = y → Go n0 p e below s Q CC NN T (mkF m pf Ls rest)) : Go n0 p e below s Q CC NN T (mkF m pc Ls (y :: x :: rest)) := by
  obtain ⟨hx, hb, -, -, -, -, -, -, ⟨L, X, -⟩, -⟩ := w
  subst hb
  by_cases q : x = y
  · obtain ⟨s₂, z, st, r⟩ := Ke q
    exact ⟨s₂, z, Jvm.RoadKit.acmp (g := mkF m pc Ls (y :: x :: rest)) X hx rfl h1 h2 (same := true) rfl hd rfl (decide_eq_true q) ho ht.symm st, r⟩
  · obtain ⟨s₂, z, st, r⟩ := Kn q
    exact ⟨s₂, z, Jvm.RoadKit.acmp (g := mkF m pc Ls (y :: x :: rest)) X hx rfl h1 h2 (same := false) rfl hd rfl (decide_eq_false q) ho hf.symm st, r⟩
theorem gifnullY (w : W Z own nm bytes mx rt n0 p l e R s m args below meth c k n T h) {o : Int} (hd : decode bytes pc = .ok (.ifnull o, 3)) (ho : 0 ≤ (pc : Int) + o) (hp : ((pc : Int) + o).toNat = pc') (K : Go n0 p e below s Q CC NN T (mkF m pc' Ls rest)) : Go n0 p e below s Q CC NN T (mkF m pc Ls (.null :: rest)) := by
  obtain ⟨hx, hb, -, -, -, -, -, -, ⟨L, X, -⟩, -⟩ := w
  obtain ⟨s₂, q, st, r⟩ := K
  subst hb
  exact ⟨s₂, q, XS.ifnullYes X.here hx rfl rfl hd rfl ho hp st, r⟩
theorem gifnullN (w : W Z own nm bytes mx rt n0 p l e R s m args below meth c k n T h) {o : Int} {b : Addr} (hd : decode bytes pc = .ok (.ifnull o, 3)) (hp : pc + 3 = pc') (K : Go n0 p e below s Q CC NN T (mkF m pc' Ls rest)) : Go n0 p e below s Q CC NN T (mkF m pc Ls (.ref b :: rest)) := by
  obtain ⟨hx, hb, -, -, -, -, -, -, ⟨L, X, -⟩, -⟩ := w
  obtain ⟨s₂, q, st, r⟩ := K
  subst hb hp
  exact ⟨s₂, q, XS.ifnullNo X.here hx rfl hd rfl st, r⟩
theorem gifnonnullY (w : W Z own nm bytes mx rt n0 p l e R s m args below meth c k n T h) {o : Int} {b : Addr} (hd : decode bytes pc = .ok (.ifnonnull o, 3)) (ho : 0 ≤ (pc : Int) + o) (hp : ((pc : Int) + o).toNat = pc') (K : Go n0 p e below s Q CC NN T (mkF m pc' Ls rest)) : Go n0 p e below s Q CC NN T (mkF m pc Ls (.ref b :: rest)) := by
  obtain ⟨hx, hb, -, -, -, -, -, -, ⟨L, X, -⟩, -⟩ := w
  obtain ⟨s₂, q, st, r⟩ := K
  subst hb
  exact ⟨s₂, q, XS.ifnonnullYes X.here hx rfl rfl hd rfl ho hp st, r⟩
theorem gifnonnullN (w : W Z own nm bytes mx rt n0 p l e R s m args below meth c k n T h) {o : Int} (hd : decode bytes pc = .ok (.ifnonnull o, 3)) (hp : pc + 3 = pc') (K : Go n0 p e below s Q CC NN T (mkF m pc' Ls rest)) : Go n0 p e below s Q CC NN T (mkF m pc Ls (.null :: rest)) := by
  obtain ⟨hx, hb, -, -, -, -, -, -, ⟨L, X, -⟩, -⟩ := w
  obtain ⟨s₂, q, st, r⟩ := K
  subst hb hp
  exact ⟨s₂, q, XS.ifnonnullNo X.here hx rfl hd rfl st, r⟩
theorem gldc2 (w : W Z own nm bytes mx rt n0 p l e R s m args below meth c k n T h) {index : Nat} {v : Int64} (hd : decode bytes pc = .ok (.ldc2_w index, 3)) (w1 : (Jvm.Cond.constantLong own index v).before a0 Z = true) (hp : pc + 3 = pc') (K : Go n0 p e below s Q CC NN T (mkF m pc' Ls (.long v :: rest))) : Go n0 p e below s Q CC NN T (mkF m pc Ls rest) := by
  obtain ⟨hx, hb, hown, hZ, -, -, -, -, ⟨L, X, -⟩, -⟩ := w
  obtain ⟨s₂, q, st, r⟩ := K
  subst hb hp
  exact ⟨s₂, q, X.ldc2Long hx hown (mvT hZ w1) (g := mkF m pc Ls rest) rfl hd _ st, r⟩
theorem gldcI (w : W Z own nm bytes mx rt n0 p l e R s m args below meth c k n T h) {index : Nat} {v : Int32} (hd : decode bytes pc = .ok (.ldc index, 2)) (w1 : (Jvm.Cond.constant own index v).before a0 Z = true) (hp : pc + 2 = pc') (K : Go n0 p e below s Q CC NN T (mkF m pc' Ls (.int v :: rest))) : Go n0 p e below s Q CC NN T (mkF m pc Ls rest) := by
  obtain ⟨hx, hb, hown, hZ, -, -, -, -, ⟨L, X, -⟩, -⟩ := w
  obtain ⟨s₂, q, st, r⟩ := K
  subst hb hp
  exact ⟨s₂, q, X.ldcInt hx hown (mvT hZ w1) (g := mkF m pc Ls rest) rfl hd _ st, r⟩

theorem ggetF (w : W Z own nm bytes mx rt n0 p l e R s m args below meth c k n T h) {index : Nat} {O n' d : String} {a : Addr} {v : Value} (hd : decode bytes pc = .ok (.getfield index, 3)) (w1 : (Jvm.Cond.fieldLink own index O n' d).before a0 Z = true) (F : Fld Z h a O n' d v) (hp : pc + 3 = pc')
    (K : ∀ T', W Z own nm bytes mx rt n0 p l e R s m args below meth c k n T' h → Go n0 p e below s Q CC NN T' (mkF m pc' Ls (v :: rest))) : Go n0 p e below s Q CC NN T (mkF m pc Ls (.ref a :: rest)) := by
  obtain ⟨hx, hb, hown, hZ, r1, r2, r3, r4, ⟨L, X, N⟩, eT⟩ := w
  obtain ⟨T', X', e', st⟩ := getF X hx hZ hown (host := "") (Or.inl w1) Via.refl eT F (g := mkF m pc Ls (.ref a :: rest)) rfl rfl (by rw [hb]; exact hd)
  obtain ⟨s₂, q, st', r⟩ := K T' ⟨hx, hb, hown, hZ, r1, r2, r3, r4, ⟨L, X', N⟩, e'⟩
  subst hp
  exact ⟨s₂, q, st _ st', r⟩
theorem ggetS (w : W Z own nm bytes mx rt n0 p l e R s m args below meth c k n T h) {index : Nat} {O n' d : String} {v : Value} (hd : decode bytes pc = .ok (.getstatic index, 3)) (w1 : (Jvm.Cond.fieldLink own index O n' d).before a0 Z = true) (F : Sta Z h O n' d v) (hp : pc + 3 = pc')
    (K : ∀ T', W Z own nm bytes mx rt n0 p l e R s m args below meth c k n T' h → Go n0 p e below s Q CC NN T' (mkF m pc' Ls (v :: rest))) : Go n0 p e below s Q CC NN T (mkF m pc Ls rest) := by
  obtain ⟨hx, hb, hown, hZ, r1, r2, r3, r4, ⟨L, X, N⟩, eT⟩ := w
  obtain ⟨T', X', e', st⟩ := getS (host := "") X hx hZ hown w1 Via.refl eT F (g := mkF m pc Ls rest) rfl (by rw [hb]; exact hd)
  obtain ⟨s₂, q, st', r⟩ := K T' ⟨hx, hb, hown, hZ, r1, r2, r3, r4, ⟨L, X', N⟩, e'⟩
  subst hp
  exact ⟨s₂, q, st _ st', r⟩
theorem ggetSN (w : W Z own nm bytes mx rt n0 p l e R s m args below meth c k n T h) {index : Nat} {O n' d host : String} {v : Value} (hd : decode bytes pc = .ok (.getstatic index, 3)) (w1 : (Jvm.Cond.fieldLinkNest own index O n' d host).before a0 Z = true) (F : Sta Z h O n' d v) (hp : pc + 3 = pc')
    (K : ∀ T', W Z own nm bytes mx rt n0 p l e R s m args below meth c k n T' h → Go n0 p e below s Q CC NN T' (mkF m pc' Ls (v :: rest))) : Go n0 p e below s Q CC NN T (mkF m pc Ls rest) := by
  obtain ⟨hx, hb, hown, hZ, r1, r2, r3, r4, ⟨L, X, N⟩, eT⟩ := w
  obtain ⟨T', X', e', st⟩ := getS2 X hx hZ hown (Or.inr w1) Via.refl eT F (g := mkF m pc Ls rest) rfl (by rw [hb]; exact hd)
  obtain ⟨s₂, q, st', r⟩ := K T' ⟨hx, hb, hown, hZ, r1, r2, r3, r4, ⟨L, X', N⟩, e'⟩
  subst hp
  exact ⟨s₂, q, st _ st', r⟩
/-- putfield: what is written may be narrowed (v to v') -/
theorem gputF (w : W Z own nm bytes mx rt n0 p l e R s m args below meth c k n T h) {index kk : Nat} {O n' d C : String} {ty : FieldType} {a : Addr} {v v' old : Value} (hd : decode bytes pc = .ok (.putfield index, 3)) (w1 : (Jvm.Cond.fieldLink own index O n' d).before a0 Z = true) (F : Fld Z h a O n' d old) (E : Exa Z h a C)
    (LL : (Jvm.Cond.lays C O n' d).before a0 Z = true ∨ ((Jvm.Cond.laysFinal C O n' d).before a0 Z = true ∧ own = O ∧ nm = "<init>")) (wi : (Jvm.Cond.instantiable C kk).before a0 Z = true) (hty : parseFieldDescriptor d = some ty) (hn : narrow ty v = v') (hf : fits ty v' = true) (hna : n0 ≤ a) (hp : pc + 3 = pc')
    (K : ∀ T' h', W Z own nm bytes mx rt n0 p l e R s m args below meth c k n T' h' → Wr h h' a (Jvm.RoadKit.slotOf Z O n' d) v' → Go n0 p e below s Q CC NN T' (mkF m pc' Ls rest)) : Go n0 p e below s Q CC NN T (mkF m pc Ls (v :: .ref a :: rest)) := by
  obtain ⟨hx, hb, hown, hZ, r1, r2, r3, r4, ⟨L, X, N⟩, eT⟩ := w
  obtain ⟨T', h', X', e', Wx, st⟩ := putFN X hx hZ hown w1 Via.refl eT F E (LL.imp id fun q => ⟨q.1, q.2.1, r2.trans q.2.2⟩) wi hty hn hf (g := mkF m pc Ls (v :: .ref a :: rest)) rfl rfl (by rw [hb]; exact hd)
  obtain ⟨s₂, q, st', r⟩ := K T' h' ⟨hx, hb, hown, hZ, r1, r2, r3, r4, ⟨_, X', Fr.snoc X' N hna⟩, e'⟩ Wx
  subst hp
  exact ⟨s₂, q, st _ st', r⟩
theorem gnewO (w : W Z own nm bytes mx rt n0 p l e R s m args below meth c k n T h) {index j : Nat} {C : String} (hd : decode bytes pc = .ok (.new index, 3)) (w1 : (Jvm.Cond.classLink own index C).before a0 Z = true) (wi : (Jvm.Cond.instantiable C j).before a0 Z = true) (wz : (Jvm.Cond.initialized C).before a0 Z = true) (hc : k + 1 ≤ R.cells) (hl : n + j ≤ R.slots) (hp : pc + 3 = pc')
    (K : ∀ T' h' a, h.size = a → W Z own nm bytes mx rt n0 p l e R s m args below meth c (k + 1) (n + j) T' h' → Ext h h' → Exa Z h' a C → (∀ {O f d : String} {ty : FieldType}, Laid Z a0 C O f d → parseFieldDescriptor d = some ty → Fld Z h' a O f d (defaultValue ty)) → Go n0 p e below s Q CC NN T' (mkF m pc' Ls (.ref a :: rest))) : Go n0 p e below s Q CC NN T (mkF m pc Ls rest) := by
  obtain ⟨hx, hb, hown, hZ, r1, r2, r3, r4, ⟨L, X, N⟩, eT⟩ := w
  obtain ⟨T', h', X', e', E, A, D, -, st⟩ := newO X hx hZ hown w1 wi wz eT (g := mkF m pc Ls rest) rfl (by rw [hb]; exact hd) hc hl
  obtain ⟨s₂, q, st', r⟩ := K T' h' _ rfl ⟨hx, hb, hown, hZ, r1, r2, r3, r4, ⟨_, X', N⟩, e'⟩ E A D
  subst hp
  exact ⟨s₂, q, st _ st', r⟩
theorem gnewP (w : W Z own nm bytes mx rt n0 p l e R s m args below meth c k n T h) {aty : ArrayType} {z : Int32} {cap : Nat} {ty : FieldType} (hd : decode bytes pc = .ok (.newarray aty, 2)) (hty : newarray.typeOf aty = ty) (w1 : (Jvm.Cond.arrayClass ty).before a0 Z = true) (hn : ¬ z < 0) (hcap : z.toNatClampNeg ≤ cap) (hb8 : cap * 8 ≤ 536870912) (hc : k + 1 ≤ R.cells) (hl : n + cap ≤ R.slots) (hp : pc + 2 = pc')
    (K : ∀ T' h' a kA, h.size = a → W Z own nm bytes mx rt n0 p l e R s m args below meth c (k + 1) (n + cap) T' h' → Ext h h' → Arv Z h' a kA ty z [] (defaultValue ty) → Go n0 p e below s Q CC NN T' (mkF m pc' Ls (.ref a :: rest))) : Go n0 p e below s Q CC NN T (mkF m pc Ls (.int z :: rest)) := by
  obtain ⟨hx, hb, hown, hZ, r1, r2, r3, r4, ⟨L, X, N⟩, eT⟩ := w
  subst hty
  obtain ⟨T', h', cA, X', e', E, A, st⟩ := newP X hx hZ w1 eT (g := mkF m pc Ls (.int z :: rest)) rfl (by rw [hb]; exact hd) rfl hn hcap hb8 hc hl
  obtain ⟨s₂, q, st', r⟩ := K T' h' _ cA rfl ⟨hx, hb, hown, hZ, r1, r2, r3, r4, ⟨_, X', N⟩, e'⟩ E (Arv.new A hn)
  subst hp
  exact ⟨s₂, q, st _ st', r⟩
theorem ginitO (w : W Z own nm bytes mx rt n0 p l e R s m args below meth c k n T h) {index : Nat} {a : Addr} {Wt : Nat} (hd : decode bytes pc = .ok (.invokespecial index, 3)) (w1 : (Jvm.Cond.methodLink own index Lib.objectInit).before a0 Z = true) (w2 : (Jvm.Cond.instanceMethod Lib.objectInit).before a0 Z = true) (w3 : (Jvm.Cond.code Lib.objectInit ⟨#[0xb1]⟩ 1 none).before a0 Z = true)
    (hsz : Ls.size = mx) (hf : 1 ≤ R.frames) (hW : (rest.map fun v => v.category).sum ≤ Wt) (hl : Wt + 12 ≤ R.locals) (hp : pc + 3 = pc')
    (K : ∀ T', W Z own nm bytes mx rt n0 p l e R s m args below meth c k n T' h → Go n0 p e below s Q CC NN T' (mkF m pc' Ls rest)) : Go n0 p e below s Q CC NN T (mkF m pc Ls (.ref a :: rest)) := by
  obtain ⟨hx, hb, hown, hZ, r1, r2, r3, r4, ⟨L, X, N⟩, eT⟩ := w
  obtain ⟨T', X', e', st⟩ := initO X hx hZ hown w1 w2 w3 eT (g := mkF m pc Ls (.ref a :: rest)) rfl (hsz.trans r1.symm) rfl (by rw [hb]; exact hd) hf (W := Wt) (by show 2 * 0 + _ ≤ _; omega) hl
  obtain ⟨s₂, q, st', r⟩ := K T' ⟨hx, hb, hown, hZ, r1, r2, r3, r4, ⟨L, X', N⟩, e'⟩
  subst hp
  exact ⟨s₂, q, st _ st', r⟩
theorem glen (w : W Z own nm bytes mx rt n0 p l e R s m args below meth c k n T h) {a : Addr} {kA : ClassId} {ty : FieldType} {z : Int32} {vs : List Value} {dv : Value} (hd : decode bytes pc = .ok (.arraylength, 1)) (V : Arv Z h a kA ty z vs dv) (hp : pc + 1 = pc') (K : Go n0 p e below s Q CC NN T (mkF m pc' Ls (.int z :: rest))) : Go n0 p e below s Q CC NN T (mkF m pc Ls (.ref a :: rest)) := by
  obtain ⟨hx, hb, hown, hZ, r1, r2, r3, r4, ⟨L, X, N⟩, eT⟩ := w
  obtain ⟨cl, A, -, S, N1, -, -⟩ := V
  obtain ⟨s₂, q, st', r⟩ := K
  subst hp
  refine ⟨s₂, q, X.arraylength hx (by rw [eT]; exact A.1) (State.isArrayOf_alike hZ.alike A.2.1) (g := mkF m pc Ls (.ref a :: rest)) rfl rfl (by rw [hb]; exact hd) _ ?_, r⟩
  rw [len_of S N1]
  exact st'

theorem gbaload (w : W Z own nm bytes mx rt n0 p l e R s m args below meth c k n T h) {a : Addr} {kA : ClassId} {z j : Int32} {vs : List Value} {dv v : Value} (hd : decode bytes pc = .ok (.baload, 1)) (V : Arv Z h a kA .byte z vs dv) (hj : ¬ j < 0 ∧ j < z) (hv : vs.getD j.toNatClampNeg dv = v) (hp : pc + 1 = pc') (K : Go n0 p e below s Q CC NN T (mkF m pc' Ls (v :: rest))) : Go n0 p e below s Q CC NN T (mkF m pc Ls (.int j :: .ref a :: rest)) := by
  obtain ⟨hx, hb, hown, hZ, r1, r2, r3, r4, ⟨L, X, N⟩, eT⟩ := w
  obtain ⟨cl, A, -, S, -, H, -⟩ := V
  obtain ⟨s₂, q, st', r⟩ := K
  subst hp
  exact ⟨s₂, q, X.baloadBytes hx (j := j) (v := v) (by rw [eT]; exact A.1) (State.isArrayOf_alike hZ.alike A.2.1) A.2.2 (inb_of S hj) (H.at (inb_of S hj) hv) (g := mkF m pc Ls (.int j :: .ref a :: rest)) rfl rfl (by rw [hb]; exact hd) _ st', r⟩

theorem giaload (w : W Z own nm bytes mx rt n0 p l e R s m args below meth c k n T h) {a : Addr} {kA : ClassId} {z j : Int32} {vs : List Value} {dv v : Value} (hd : decode bytes pc = .ok (.iaload, 1)) (V : Arv Z h a kA .int z vs dv) (hj : ¬ j < 0 ∧ j < z) (hv : vs.getD j.toNatClampNeg dv = v) (hp : pc + 1 = pc') (K : Go n0 p e below s Q CC NN T (mkF m pc' Ls (v :: rest))) : Go n0 p e below s Q CC NN T (mkF m pc Ls (.int j :: .ref a :: rest)) := by
  obtain ⟨hx, hb, hown, hZ, r1, r2, r3, r4, ⟨L, X, N⟩, eT⟩ := w
  obtain ⟨cl, A, -, S, -, H, -⟩ := V
  obtain ⟨s₂, q, st', r⟩ := K
  subst hp
  exact ⟨s₂, q, X.iaload hx (j := j) (v := v) (by rw [eT]; exact A.1) (State.isArrayOf_alike hZ.alike A.2.1) A.2.2 (inb_of S hj) (H.at (inb_of S hj) hv) (g := mkF m pc Ls (.int j :: .ref a :: rest)) rfl rfl (by rw [hb]; exact hd) _ st', r⟩

theorem gbastore (w : W Z own nm bytes mx rt n0 p l e R s m args below meth c k n T h) {a : Addr} {kA : ClassId} {z j x x' : Int32} {vs : List Value} {dv : Value} (hd : decode bytes pc = .ok (.bastore, 1)) (hxv : x.toInt8.toInt32 = x') (V : Arv Z h a kA .byte z vs dv) (hj : ¬ j < 0 ∧ j < z) (i : Nat) (hi : j.toNatClampNeg = i) (hlt : i < vs.length) (hna : n0 ≤ a) (hp : pc + 1 = pc')
    (K : ∀ T' h', W Z own nm bytes mx rt n0 p l e R s m args below meth c k n T' h' → Wr h h' a i (.int x') → Arv Z h' a kA .byte z (vs.set i (.int x')) dv → Go n0 p e below s Q CC NN T' (mkF m pc' Ls rest)) : Go n0 p e below s Q CC NN T (mkF m pc Ls (.int x :: .int j :: .ref a :: rest)) := by
  obtain ⟨hx, hb, hown, hZ, r1, r2, r3, r4, ⟨L, X, N⟩, eT⟩ := w
  obtain ⟨cl, A, q1, S, N1, H, Gf⟩ := V
  subst hxv
  obtain ⟨T', h', X', e', Wx, st⟩ := stB X hx hZ eT A (j := j) (x := x) (inb_of S hj) (g := mkF m pc Ls (.int x :: .int j :: .ref a :: rest)) rfl rfl (by rw [hb]; exact hd)
  obtain ⟨s₂, q, st', r⟩ := K T' h' ⟨hx, hb, hown, hZ, r1, r2, r3, r4, ⟨_, X', Fr.snoc X' N hna⟩, e'⟩ (hi ▸ Wx) (Arv.set A q1 S N1 H Gf (fits_nar_byte _) Wx i hi hlt)
  subst hp
  exact ⟨s₂, q, st _ st', r⟩

theorem giastore (w : W Z own nm bytes mx rt n0 p l e R s m args below meth c k n T h) {a : Addr} {kA : ClassId} {z j x x' : Int32} {vs : List Value} {dv : Value} (hd : decode bytes pc = .ok (.iastore, 1)) (hxv : x = x') (V : Arv Z h a kA .int z vs dv) (hj : ¬ j < 0 ∧ j < z) (i : Nat) (hi : j.toNatClampNeg = i) (hlt : i < vs.length) (hna : n0 ≤ a) (hp : pc + 1 = pc')
    (K : ∀ T' h', W Z own nm bytes mx rt n0 p l e R s m args below meth c k n T' h' → Wr h h' a i (.int x') → Arv Z h' a kA .int z (vs.set i (.int x')) dv → Go n0 p e below s Q CC NN T' (mkF m pc' Ls rest)) : Go n0 p e below s Q CC NN T (mkF m pc Ls (.int x :: .int j :: .ref a :: rest)) := by
  obtain ⟨hx, hb, hown, hZ, r1, r2, r3, r4, ⟨L, X, N⟩, eT⟩ := w
  obtain ⟨cl, A, q1, S, N1, H, Gf⟩ := V
  subst hxv
  obtain ⟨T', h', X', e', Wx, st⟩ := stI X hx hZ eT A (j := j) (x := x) (inb_of S hj) (g := mkF m pc Ls (.int x :: .int j :: .ref a :: rest)) rfl rfl (by rw [hb]; exact hd)
  obtain ⟨s₂, q, st', r⟩ := K T' h' ⟨hx, hb, hown, hZ, r1, r2, r3, r4, ⟨_, X', Fr.snoc X' N hna⟩, e'⟩ (hi ▸ Wx) (Arv.set A q1 S N1 H Gf rfl Wx i hi hlt)
  subst hp
  exact ⟨s₂, q, st _ st', r⟩

theorem gret0 (w : W Z own nm bytes mx none n0 p l e R s m args below meth c k n T h) (hd : decode bytes pc = .ok (.return_, 1)) (hk : k ≤ CC) (hn : n ≤ NN) (hQ : Q none h) : Go n0 p e below s Q CC NN T (mkF m pc Ls []) := by
  obtain ⟨hx, hb, hown, hZ, r1, r2, r3, r4, ⟨L, X, N⟩, eT⟩ := w
  obtain ⟨fs, hr, hrun, hended, hW, hsame⟩ := X.leave (v := none) (fun _ => rfl) r4
  refine ⟨_, _, X.returnOut hx r3 (by rw [hb]; exact hd) hr, hrun, hended, _, _, rfl, ⟨N, ?_⟩, ⟨_, rfl⟩, hW, hsame.mono hk hn⟩
  show Q none T.heap
  rw [eT]; exact hQ
theorem gret {t : FieldType} (w : W Z own nm bytes mx (some t) n0 p l e R s m args below meth c k n T h) {v : Value} {i : Instr} (hd : decode bytes pc = .ok (i, 1)) (hn' : narrow t v = v)
    (hi : (i = .ireturn ∧ (t = .int ∨ t = .boolean ∨ t = .byte ∨ t = .char ∨ t = .short) ∧ ∃ z, v = .int z) ∨ (i = .lreturn ∧ t = .long ∧ ∃ z, v = .long z) ∨ (i = .dreturn ∧ t = .double ∧ ∃ z, v = .double z) ∨ (i = .freturn ∧ t = .float ∧ ∃ z, v = .float z) ∨ (i = .areturn ∧ t.isReference = true ∧ v.isRef = true))
    (hk : k ≤ CC) (hn : n ≤ NN) (hQ : Q (some v) h) : Go n0 p e below s Q CC NN T (mkF m pc Ls (v :: rest)) := by
  obtain ⟨hx, hb, hown, hZ, r1, r2, r3, r4, ⟨L, X, N⟩, eT⟩ := w
  obtain ⟨fs, hr, hrun, hended, hW, hsame⟩ := X.leave (v := some v) (fun q => by rw [r3] at q; cases q) r4
  refine ⟨_, _, retOut X hx r3 hn' hi (by rw [hb]; exact hd) hr, hrun, hended, _, _, rfl, ⟨N, ?_⟩, ⟨_, rfl⟩, hW, hsame.mono hk hn⟩
  show Q (some v) T.heap
  rw [eT]; exact hQ
theorem gretI (w : W Z own nm bytes mx (some .int) n0 p l e R s m args below meth c k n T h) {v : Int32} (hd : decode bytes pc = .ok (.ireturn, 1)) (hk : k ≤ CC) (hn : n ≤ NN) (hQ : Q (some (.int v)) h) : Go n0 p e below s Q CC NN T (mkF m pc Ls (.int v :: rest)) :=
  gret w hd rfl (Or.inl ⟨rfl, Or.inl rfl, _, rfl⟩) hk hn hQ
theorem gretJ (w : W Z own nm bytes mx (some .long) n0 p l e R s m args below meth c k n T h) {v : Int64} (hd : decode bytes pc = .ok (.lreturn, 1)) (hk : k ≤ CC) (hn : n ≤ NN) (hQ : Q (some (.long v)) h) : Go n0 p e below s Q CC NN T (mkF m pc Ls (.long v :: rest)) :=
  gret w hd rfl (Or.inr (Or.inl ⟨rfl, rfl, _, rfl⟩)) hk hn hQ
theorem gretZ (w : W Z own nm bytes mx (some .boolean) n0 p l e R s m args below meth c k n T h) {v : Int32} (hd : decode bytes pc = .ok (.ireturn, 1)) (hv : narrow .boolean (.int v) = .int v) (hk : k ≤ CC) (hn : n ≤ NN) (hQ : Q (some (.int v)) h) : Go n0 p e below s Q CC NN T (mkF m pc Ls (.int v :: rest)) :=
  gret w hd hv (Or.inl ⟨rfl, Or.inr (Or.inl rfl), _, rfl⟩) hk hn hQ
theorem gretB (w : W Z own nm bytes mx (some .byte) n0 p l e R s m args below meth c k n T h) {v : Int32} (hd : decode bytes pc = .ok (.ireturn, 1)) (hv : narrow .byte (.int v) = .int v) (hk : k ≤ CC) (hn : n ≤ NN) (hQ : Q (some (.int v)) h) : Go n0 p e below s Q CC NN T (mkF m pc Ls (.int v :: rest)) :=
  gret w hd hv (Or.inl ⟨rfl, Or.inr (Or.inr (Or.inl rfl)), _, rfl⟩) hk hn hQ
theorem gretA {t : FieldType} (w : W Z own nm bytes mx (some t) n0 p l e R s m args below meth c k n T h) {v : Value} (hd : decode bytes pc = .ok (.areturn, 1)) (ht : t.isReference = true) (hv : v.isRef = true) (hn' : narrow t v = v) (hk : k ≤ CC) (hn : n ≤ NN) (hQ : Q (some v) h) : Go n0 p e below s Q CC NN T (mkF m pc Ls (v :: rest)) :=
  gret w hd hn' (Or.inr (Or.inr (Or.inr (Or.inr ⟨rfl, ht, hv⟩)))) hk hn hQ

theorem gcast (w : W Z own nm bytes mx rt n0 p l e R s m args below meth c k n T h) {index : Nat} {Kc : String} {a : Addr} (hd : decode bytes pc = .ok (.checkcast index, 3)) (w1 : (Jvm.Cond.classLink own index Kc).before a0 Z = true) (F : Ins Z h a Kc true) (hp : pc + 3 = pc')
    (K : ∀ T', W Z own nm bytes mx rt n0 p l e R s m args below meth c k n T' h → Go n0 p e below s Q CC NN T' (mkF m pc' Ls (.ref a :: rest))) : Go n0 p e below s Q CC NN T (mkF m pc Ls (.ref a :: rest)) := by
  obtain ⟨hx, hb, hown, hZ, r1, r2, r3, r4, ⟨L, X, N⟩, eT⟩ := w
  obtain ⟨T', X', e', st⟩ := castY X hx hZ hown w1 eT F (g := mkF m pc Ls (.ref a :: rest)) rfl rfl (by rw [hb]; exact hd)
  obtain ⟨s₂, q, st', r⟩ := K T' ⟨hx, hb, hown, hZ, r1, r2, r3, r4, ⟨L, X', N⟩, e'⟩
  subst hp
  exact ⟨s₂, q, st _ st', r⟩
theorem ginstY (w : W Z own nm bytes mx rt n0 p l e R s m args below meth c k n T h) {index : Nat} {Kc : String} {a : Addr} (hd : decode bytes pc = .ok (.instanceof index, 3)) (w1 : (Jvm.Cond.classLink own index Kc).before a0 Z = true) (F : Ins Z h a Kc true) (hp : pc + 3 = pc')
    (K : ∀ T', W Z own nm bytes mx rt n0 p l e R s m args below meth c k n T' h → Go n0 p e below s Q CC NN T' (mkF m pc' Ls (.int 1 :: rest))) : Go n0 p e below s Q CC NN T (mkF m pc Ls (.ref a :: rest)) := by
  obtain ⟨hx, hb, hown, hZ, r1, r2, r3, r4, ⟨L, X, N⟩, eT⟩ := w
  obtain ⟨T', X', e', st⟩ := instY X hx hZ hown w1 eT F (g := mkF m pc Ls (.ref a :: rest)) rfl rfl (by rw [hb]; exact hd)
  obtain ⟨s₂, q, st', r⟩ := K T' ⟨hx, hb, hown, hZ, r1, r2, r3, r4, ⟨L, X', N⟩, e'⟩
  subst hp
  exact ⟨s₂, q, st _ st', r⟩

theorem gcallS (w : W Z own nm bytes mx rt n0 p l e R s m args below meth c k n T h) {index : Nat} {y : MethodName} {yb : ByteArray} {ymx : Nat} {yr : Option FieldType} {rm : Room} {as : Array Value} {Q' : Option Value → Heap → Prop} {argsL : List Value} {stk : List Value} {ps : List FieldType} {ro : Option FieldType} {Wt : Nat} (hd : decode bytes pc = .ok (.invokestatic index, 3)) (w1 : (Jvm.Cond.methodLink own index y).before a0 Z = true) (w2 : (Jvm.Cond.static y).before a0 Z = true) (w3 : (Jvm.Cond.initialized y.cls).before a0 Z = true) (w4 : (Jvm.Cond.code y yb ymx yr).before a0 Z = true)
    (hy : y.cls ≠ "java/lang/invoke/MethodHandle" ∧ y.cls ≠ "java/lang/invoke/VarHandle") (hpd : parseMethodDescriptor y.desc = some ⟨ps, ro⟩) (ctr : Ctr l y yb ymx yr rm Z as h n0 Q' []) (has : argsL.toArray = as) (hlen : argsL.length = ps.length) (hst : stk = argsL.reverse ++ rest) (hsz : Ls.size = mx) (hW : (rest.map fun v => v.category).sum ≤ Wt) (hf : rm.frames + 1 ≤ R.frames) (hl : Wt + (ymx + 11) + rm.locals ≤ R.locals) (hc : k + rm.cells ≤ R.cells) (hs : n + rm.slots ≤ R.slots) (hp : pc + 3 = pc')
    (K : ∀ v T' h', W Z own nm bytes mx rt n0 p l e R s m args below meth c (k + rm.cells) (n + rm.slots) T' h' → Q' v h' → Go n0 p e below s Q CC NN T' (mkF m pc' Ls (v.toList ++ rest))) : Go n0 p e below s Q CC NN T (mkF m pc Ls stk) := by
  obtain ⟨hx, hb, hown, hZ, r1, r2, r3, r4, ⟨L, X, N⟩, eT⟩ := w
  obtain ⟨v, _, ⟨T', L', k', n'⟩, -, X', ⟨Lc, hQ, hl1, hc1, hs1⟩, st⟩ := Jvm.LawKit.callS X hx (y := y) hown (mvT hZ w1) (mvT hZ w2) (mvT hZ w3) (mvT hZ w4) hy (backOf (W := Wt) (Q := fun v h L => Fr n0 L ∧ Q' v h) ctr hZ w4 w3 hf hl) (g := mkF m pc Ls stk) rfl (hsz.trans r1.symm) (argsL := argsL) (rest := rest) (lenOf hpd hlen) hst (by show 2 * 0 + _ ≤ _; omega) (by rw [hb]; exact hd) (fun _ _ => ⟨has, eT, hc, hs⟩)
  dsimp only [Pt.U, Pt.locs, Pt.cells, Pt.slots] at X' st hQ hl1 hc1 hs1
  subst hl1 hc1 hs1
  obtain ⟨s₂, q, st', r⟩ := K v T' T'.heap ⟨hx, hb, hown, hZ, r1, r2, r3, r4, ⟨_, X', Fr.app N hQ.1⟩, rfl⟩ hQ.2
  subst hp
  exact ⟨s₂, q, st _ st', r⟩
theorem gcallN (w : W Z own nm bytes mx rt n0 p l e R s m args below meth c k n T h) {index : Nat} {y : MethodName} {yb : ByteArray} {ymx : Nat} {rm : Room} {as : Array Value} {Q' : Option Value → Heap → Prop} {argsL : List Value} {stk : List Value} {ps : List FieldType} {ro : Option FieldType} {Wt : Nat} {a : Addr} (hd : decode bytes pc = .ok (.invokespecial index, 3)) (w1 : (Jvm.Cond.methodLink own index y).before a0 Z = true) (w2 : (Jvm.Cond.instanceMethod y).before a0 Z = true) (w3 : (Jvm.Cond.initialized y.cls).before a0 Z = true) (w4 : (Jvm.Cond.code y yb ymx none).before a0 Z = true) (hyn : y.name = "<init>")
    (hy : y.cls ≠ "java/lang/invoke/MethodHandle" ∧ y.cls ≠ "java/lang/invoke/VarHandle") (hpd : parseMethodDescriptor y.desc = some ⟨ps, ro⟩) (ctr : Ctr l y yb ymx none rm Z as h n0 Q' []) (has : (.ref a :: argsL).toArray = as) (hlen : argsL.length = ps.length) (hst : stk = argsL.reverse ++ .ref a :: rest) (hsz : Ls.size = mx) (hW : (rest.map fun v => v.category).sum ≤ Wt) (hf : rm.frames + 1 ≤ R.frames) (hl : Wt + (ymx + 11) + rm.locals ≤ R.locals) (hc : k + rm.cells ≤ R.cells) (hs : n + rm.slots ≤ R.slots) (hp : pc + 3 = pc')
    (K : ∀ v T' h', W Z own nm bytes mx rt n0 p l e R s m args below meth c (k + rm.cells) (n + rm.slots) T' h' → Q' v h' → Go n0 p e below s Q CC NN T' (mkF m pc' Ls (v.toList ++ rest))) : Go n0 p e below s Q CC NN T (mkF m pc Ls stk) := by
  obtain ⟨hx, hb, hown, hZ, r1, r2, r3, r4, ⟨L, X, N⟩, eT⟩ := w
  obtain ⟨v, _, ⟨T', L', k', n'⟩, -, X', ⟨Lc, hQ, hl1, hc1, hs1⟩, st⟩ := X.specialBack hx (y := y) hyn hown (mvT hZ w1) (mvT hZ w2) (mvT hZ w4) hy (backOf (W := Wt) (Q := fun v h L => Fr n0 L ∧ Q' v h) ctr hZ w4 w3 hf hl) (g := mkF m pc Ls stk) rfl (hsz.trans r1.symm) (Steps.refl _) (a := a) (argsL := argsL) (rest := rest) (lenOf hpd hlen) hst (by show 2 * 0 + _ ≤ _; omega) (by rw [hb]; exact hd) (fun _ _ => ⟨has, eT, hc, hs⟩)
  dsimp only [Pt.U, Pt.locs, Pt.cells, Pt.slots] at X' st hQ hl1 hc1 hs1
  subst hl1 hc1 hs1
  obtain ⟨s₂, q, st', r⟩ := K v T' T'.heap ⟨hx, hb, hown, hZ, r1, r2, r3, r4, ⟨_, X', Fr.app N hQ.1⟩, rfl⟩ hQ.2
  subst hp
  exact ⟨s₂, q, st.trans st', r⟩
theorem gcallV (w : W Z own nm bytes mx rt n0 p l e R s m args below meth c k n T h) {index : Nat} {y : MethodName} {yb : ByteArray} {ymx : Nat} {yr : Option FieldType} {rm : Room} {as : Array Value} {Q' : Option Value → Heap → Prop} {argsL : List Value} {stk : List Value} {ps : List FieldType} {ro : Option FieldType} {Wt : Nat} {a : Addr} {C : String} (hd : decode bytes pc = .ok (.invokevirtual index, 3)) (w1 : (Jvm.Cond.methodLink own index y).before a0 Z = true) (w2 : (Jvm.Cond.declares y).before a0 Z = true) (w5 : (Jvm.Cond.selects C y y).before a0 Z = true) (w6 : (Jvm.Cond.instanceMethod y).before a0 Z = true) (w3 : (Jvm.Cond.initialized y.cls).before a0 Z = true) (w4 : (Jvm.Cond.code y yb ymx yr).before a0 Z = true)
    (E : Exa Z h a C) (hC : y.cls = C) (hy : y.cls ≠ "java/lang/invoke/MethodHandle" ∧ y.cls ≠ "java/lang/invoke/VarHandle") (hpd : parseMethodDescriptor y.desc = some ⟨ps, ro⟩) (ctr : Ctr l y yb ymx yr rm Z as h n0 Q' []) (has : (.ref a :: argsL).toArray = as) (hlen : argsL.length = ps.length) (hst : stk = argsL.reverse ++ .ref a :: rest) (hsz : Ls.size = mx) (hW : (rest.map fun v => v.category).sum ≤ Wt) (hf : rm.frames + 1 ≤ R.frames) (hl : Wt + (ymx + 11) + rm.locals ≤ R.locals) (hc : k + rm.cells ≤ R.cells) (hs : n + rm.slots ≤ R.slots) (hp : pc + 3 = pc')
    (K : ∀ v T' h', W Z own nm bytes mx rt n0 p l e R s m args below meth c (k + rm.cells) (n + rm.slots) T' h' → Q' v h' → Go n0 p e below s Q CC NN T' (mkF m pc' Ls (v.toList ++ rest))) : Go n0 p e below s Q CC NN T (mkF m pc Ls stk) := by
  obtain ⟨hx, hb, hown, hZ, r1, r2, r3, r4, ⟨L, X, N⟩, eT⟩ := w
  obtain ⟨cq, kq, qa, qb, qc⟩ := isOf hZ eT E
  subst hC
  obtain ⟨v, _, ⟨T', L', k', n'⟩, -, X', ⟨Lc, hQ, hl1, hc1, hs1⟩, st⟩ := X.virtualBack hx (y := y) (z := y) hown (mvT hZ w1) (mvT hZ w2) (notFace_of_selects (args := #[]) (mvT hZ w5)) (mvT hZ w5) (mvT hZ w6) hy (backOf (W := Wt) (Q := fun v h L => Fr n0 L ∧ Q' v h) ctr hZ w4 w3 hf hl) qa qc (g := mkF m pc Ls stk) rfl (hsz.trans r1.symm) (Steps.refl _) (argsL := argsL) (rest := rest) (lenOf hpd hlen) hst (by show 2 * 0 + _ ≤ _; omega) (by rw [hb]; exact hd) (fun _ _ => ⟨has, eT, hc, hs⟩)
  dsimp only [Pt.U, Pt.locs, Pt.cells, Pt.slots] at X' st hQ hl1 hc1 hs1
  subst hl1 hc1 hs1
  obtain ⟨s₂, q, st', r⟩ := K v T' T'.heap ⟨hx, hb, hown, hZ, r1, r2, r3, r4, ⟨_, X', Fr.app N hQ.1⟩, rfl⟩ hQ.2
  subst hp
  exact ⟨s₂, q, st.trans st', r⟩
theorem gaaload (w : W Z own nm bytes mx rt n0 p l e R s m args below meth c k n T h) {a : Addr} {cl : Cell} {ty : FieldType} {j : Int32} {v : Value} (hd : decode bytes pc = .ok (.aaload, 1)) (A : Arr Z h a cl ty) (hty : ty.isReference = true) (hin : ¬ (j < 0 ∨ cl.slots.size ≤ j.toNatClampNeg)) (hv : cl.slots[j.toNatClampNeg]? = some v) (hp : pc + 1 = pc') (K : Go n0 p e below s Q CC NN T (mkF m pc' Ls (v :: rest))) : Go n0 p e below s Q CC NN T (mkF m pc Ls (.int j :: .ref a :: rest)) := by
  obtain ⟨hx, hb, hown, hZ, r1, r2, r3, r4, ⟨L, X, N⟩, eT⟩ := w
  obtain ⟨s₂, q, st', r⟩ := K
  subst hp
  exact ⟨s₂, q, X.aaload hx (j := j) (v := v) (by rw [eT]; exact A.1) (State.isArrayOf_alike hZ.alike A.2.1) hty A.2.2 hin hv (g := mkF m pc Ls (.int j :: .ref a :: rest)) rfl rfl (by rw [hb]; exact hd) _ st', r⟩
theorem glenA (w : W Z own nm bytes mx rt n0 p l e R s m args below meth c k n T h) {a : Addr} {cl : Cell} {ty : FieldType} {z : Int32} (hd : decode bytes pc = .ok (.arraylength, 1)) (A : Arr Z h a cl ty) (hz : cl.slots.size.toInt32 = z) (hp : pc + 1 = pc') (K : Go n0 p e below s Q CC NN T (mkF m pc' Ls (.int z :: rest))) : Go n0 p e below s Q CC NN T (mkF m pc Ls (.ref a :: rest)) := by
  obtain ⟨hx, hb, hown, hZ, r1, r2, r3, r4, ⟨L, X, N⟩, eT⟩ := w
  obtain ⟨s₂, q, st', r⟩ := K
  subst hp hz
  exact ⟨s₂, q, X.arraylength hx (by rw [eT]; exact A.1) (State.isArrayOf_alike hZ.alike A.2.1) (g := mkF m pc Ls (.ref a :: rest)) rfl rfl (by rw [hb]; exact hd) _ st', r⟩
theorem gclone (w : W Z own nm bytes mx rt n0 p l e R s m args below meth c k n T h) {index Wt cap : Nat} {ad : String} {a : Addr} {cl : Cell} {ty : FieldType} (hd : decode bytes pc = .ok (.invokevirtual index, 3)) (w1 : (Jvm.Cond.methodLink own index ⟨ad, "clone", "()Ljava/lang/Object;"⟩).before a0 Z = true) (w2 : (Jvm.Cond.sameMethod ad "java/lang/Object" "clone" "()Ljava/lang/Object;").before a0 Z = true) (w3 : (Jvm.Cond.native ⟨"java/lang/Object", "clone", "()Ljava/lang/Object;"⟩).before a0 Z = true)
    (w4 : (Jvm.Cond.instanceMethod ⟨"java/lang/Object", "clone", "()Ljava/lang/Object;"⟩).before a0 Z = true) (w5 : (Jvm.Cond.selects ad ⟨ad, "clone", "()Ljava/lang/Object;"⟩ ⟨"java/lang/Object", "clone", "()Ljava/lang/Object;"⟩).before a0 Z = true) (w6 : (Jvm.Cond.castable ad "java/lang/Cloneable").before a0 Z = true)
    (A : Arr Z h a cl ty) (E : Exa Z h a ad) (F : FitC Z cl) (hsz : Ls.size = mx) (hf : 1 ≤ R.frames) (hW : (rest.map fun v => v.category).sum ≤ Wt) (hl : Wt + 14 ≤ R.locals) (hcap : cl.slots.size ≤ cap) (hc : k + 1 ≤ R.cells) (hsl : n + cap ≤ R.slots) (hp : pc + 3 = pc')
    (K : ∀ T' h' a', h.size = a' → W Z own nm bytes mx rt n0 p l e R s m args below meth c (k + 1) (n + cap) T' h' → Ext h h' → Arr Z h' a' (cloneOf cl) ty → Exa Z h' a' ad → Go n0 p e below s Q CC NN T' (mkF m pc' Ls (.ref a' :: rest))) : Go n0 p e below s Q CC NN T (mkF m pc Ls (.ref a :: rest)) := by
  obtain ⟨hx, hb, hown, hZ, r1, r2, r3, r4, ⟨L, X, N⟩, eT⟩ := w
  obtain ⟨T', h', X', e', Ex, A', E', st⟩ := cloneA X hx hZ hown w1 w2 w3 w4 w5 w6 eT A E F (g := mkF m pc Ls (.ref a :: rest)) rfl (hsz.trans r1.symm) rfl (by rw [hb]; exact hd) hf (W := Wt) (by show 2 * 0 + _ ≤ _; omega) hl hcap hc hsl
  obtain ⟨s₂, q, st', r⟩ := K T' h' _ rfl ⟨hx, hb, hown, hZ, r1, r2, r3, r4, ⟨_, X', N⟩, e'⟩ Ex A' E'
  subst hp
  exact ⟨s₂, q, st _ st', r⟩
theorem metGoH {y : MethodName} {rm : Room} {as : Array Value} {ws : List Jvm.Cond} (hpn : plainFor y = true) (hef : ∀ m, entryFrame m as mx = mkF m 0 Ls [])
    (H : ∀ (p : Program) (e : Env) (s : State) (m : MethodId) (below : List Frame) (meth : Method) (c : Code) (T : State), W Z y.cls y.name bytes mx rt n0 p l e rm s m as below meth c 0 0 T h → s.heap = h → Go n0 p e below s Q rm.cells rm.slots T (mkF m 0 Ls [])) : Ctr l y bytes mx rt rm Z as h n0 Q ws := by
  refine MetFree.of_bodySF hpn hisR ?_
  intro p e s m args below meth c s₁ Bd hml0 hP hK
  obtain ⟨rfl, hZ, hh⟩ := hP
  have e0 : s₁.heap = h := by rw [← hh, Bd.state]; rfl
  obtain ⟨s₂, o, st, r⟩ := H p e s m below meth c s₁ ⟨Bd.exec, Bd.bytes, findClass_of_methodNamed Bd.named, hZ, hml0, (name_of_methodNamed Bd.named Bd.method).1, Bd.returns, Bd.notSynchronized, ⟨[], Stand.of_body Bd, Fr.nil n0⟩, e0⟩ hh
  exact ⟨s₂, o, castTop (hef m) st, r⟩
theorem ginst0 (w : W Z own nm bytes mx rt n0 p l e R s m args below meth c k n T h) {index : Nat} (hd : decode bytes pc = .ok (.instanceof index, 3)) (hp : pc + 3 = pc') (K : Go n0 p e below s Q CC NN T (mkF m pc' Ls (.int 0 :: rest))) : Go n0 p e below s Q CC NN T (mkF m pc Ls (.null :: rest)) := by
  obtain ⟨hx, hb, -, -, -, -, -, -, ⟨L, X, -⟩, -⟩ := w
  obtain ⟨s₂, q, st, r⟩ := K
  subst hb hp
  exact ⟨s₂, q, X.instanceofNull hx (g := mkF m pc Ls (.null :: rest)) rfl rfl hd _ st, r⟩
theorem ginstN (w : W Z own nm bytes mx rt n0 p l e R s m args below meth c k n T h) (hs : s.heap = h) {index : Nat} {Kc C : String} {a : Addr} (hd : decode bytes pc = .ok (.instanceof index, 3)) (w1 : (Jvm.Cond.classLink own index Kc).before a0 Z = true) (F : Ins Z h a Kc false) (E : Exa Z h a C) (hp : pc + 3 = pc')
    (K : ∀ T', W Z own nm bytes mx rt n0 p l e R s m args below meth c k n T' h → Go n0 p e below s Q CC NN T' (mkF m pc' Ls (.int 0 :: rest))) : Go n0 p e below s Q CC NN T (mkF m pc Ls (.ref a :: rest)) := by
  obtain ⟨hx, hb, hown, hZ, r1, r2, r3, r4, ⟨L, X, N⟩, eT⟩ := w
  obtain ⟨T', X', e', st⟩ := instN X hx hZ hown w1 eT (hs ▸ F) (hs ▸ E) (g := mkF m pc Ls (.ref a :: rest)) rfl rfl (by rw [hb]; exact hd)
  obtain ⟨s₂, q, st', r⟩ := K T' ⟨hx, hb, hown, hZ, r1, r2, r3, r4, ⟨L, X', N⟩, e'⟩
  subst hp
  exact ⟨s₂, q, st _ st', r⟩
theorem gcopy (w : W Z own nm bytes mx rt n0 p l e R s m args below meth c k n T h) {index Wt : Nat} {a b : Addr} {ka kb : ClassId} {z z' sp dp nn : Int32} {vs vd : List Value} {dv dd : Value} (hd : decode bytes pc = .ok (.invokestatic index, 3)) (w1 : (Jvm.Cond.methodLink own index Jvm.Stand.acN).before a0 Z = true) (w2 : (Jvm.Cond.native Jvm.Stand.acN).before a0 Z = true) (w3 : (Jvm.Cond.static Jvm.Stand.acN).before a0 Z = true) (w4 : (Jvm.Cond.initialized "java/lang/System").before a0 Z = true)
    (A : Arv Z h a ka .byte z vs dv) (B : Arv Z h b kb .byte z' vd dd) (h1 : ¬ sp < 0) (h2 : ¬ dp < 0) (h3 : ¬ nn < 0) (h4 : sp.toNatClampNeg + nn.toNatClampNeg ≤ z.toNatClampNeg) (h5 : dp.toNatClampNeg + nn.toNatClampNeg ≤ z'.toNatClampNeg) (hlv : dp.toNatClampNeg + nn.toNatClampNeg ≤ vd.length) (ge : n0 ≤ b)
    (hsz : Ls.size = mx) (hf : 1 ≤ R.frames) (hW : (rest.map fun v => v.category).sum ≤ Wt) (hlo : Wt + (nativeFrameWords "java/lang/System" "arraycopy" 5 + 11) ≤ R.locals) (hp : pc + 3 = pc')
    (K : ∀ T' h' us, W Z own nm bytes mx rt n0 p l e R s m args below meth c k n T' h' → Keep h h' [b] → us.length = nn.toNatClampNeg → Arv Z h' b kb .byte z' (vd.take dp.toNatClampNeg ++ us ++ vd.drop (dp.toNatClampNeg + nn.toNatClampNeg)) dd → Go n0 p e below s Q CC NN T' (mkF m pc' Ls rest)) : Go n0 p e below s Q CC NN T (mkF m pc Ls (.int nn :: .int dp :: .ref b :: .int sp :: .ref a :: rest)) := by
  obtain ⟨hx, hb, hown, hZ, r1, r2, r3, r4, ⟨L, X, N⟩, eT⟩ := w
  obtain ⟨T', h', L', X', e', N', Kp, V', st⟩ := cpA X hx hZ hown w1 w2 w3 w4 eT A B (Or.inl ⟨rfl, rfl⟩) h1 h2 h3 h4 h5 rfl hlv N ge (g := mkF m pc Ls (.int nn :: .int dp :: .ref b :: .int sp :: .ref a :: rest)) rfl (hsz.trans r1.symm) rfl (by rw [hb]; exact hd) hf (W := Wt) (by show 2 * 0 + _ ≤ _; omega) hlo
  obtain ⟨s₂, q, st', r⟩ := K T' h' _ ⟨hx, hb, hown, hZ, r1, r2, r3, r4, ⟨_, X', N'⟩, e'⟩ Kp (by rw [List.length_map, List.length_range]) V'
  subst hp
  exact ⟨s₂, q, st _ st', r⟩
theorem gifnullV (w : W Z own nm bytes mx rt n0 p l e R s m args below meth c k n T h) {v : Value} {o : Int} {pt pf : Nat} (hd : decode bytes pc = .ok (.ifnull o, 3)) (ho : 0 ≤ (pc : Int) + o) (ht : ((pc : Int) + o).toNat = pt) (hf : pc + 3 = pf) (hv : v.isRef = true) (Kt : v = .null → Go n0 p e below s Q CC NN T (mkF m pt Ls rest)) (Kf : ¬ v = .null → Go n0 p e below s Q CC NN T (mkF m pf Ls rest)) : Go n0 p e below s Q CC NN T (mkF m pc Ls (v :: rest)) := by
  rcases ref_cases hv with rfl | ⟨a, rfl⟩
  · exact gifnullY w hd ho ht (Kt rfl)
  · exact gifnullN w hd hf (Kf nofun)
theorem wmono (w : W Z own nm bytes mx rt n0 p l e R s m args below meth c k n T h) {k' n' : Nat} (hk : k ≤ k') (hn : n ≤ n') : W Z own nm bytes mx rt n0 p l e R s m args below meth c k' n' T h := by
  obtain ⟨hx, hb, hown, hZ, r1, r2, r3, r4, ⟨L, X, N⟩, eT⟩ := w
  exact ⟨hx, hb, hown, hZ, r1, r2, r3, r4, ⟨L, ⟨X.admits, X.cas, X.clock, X.frames, X.room, X.hears, X.method, X.code, X.here, X.tail, X.warmed, X.limits, X.bytes, X.same.mono hk hn⟩, N⟩, eT⟩
theorem gcallP (w : W Z own nm bytes mx rt n0 p l e R s m args below meth c k n T h) {index : Nat} {y : MethodName} {yb : ByteArray} {ymx : Nat} {yr : Option FieldType} {rm : Room} {as : Array Value} {Q' : Option Value → Heap → Prop} {argsL : List Value} {stk : List Value} {ps : List FieldType} {ro : Option FieldType} {Wt : Nat} {a : Addr} {C : String} {ji : Nat} (hd : decode bytes pc = .ok (.invokevirtual index, 3)) (w1 : (Jvm.Cond.methodLink own index y).before a0 Z = true) (w2 : (Jvm.Cond.instanceMethod y).before a0 Z = true) (w5 : (Jvm.Cond.instantiable y.cls ji).before a0 Z = true) (w6 : (Jvm.Cond.privateMethod y).before a0 Z = true) (w3 : (Jvm.Cond.initialized y.cls).before a0 Z = true) (w4 : (Jvm.Cond.code y yb ymx yr).before a0 Z = true)
    (E : Exa Z h a C) (hy : y.cls ≠ "java/lang/invoke/MethodHandle" ∧ y.cls ≠ "java/lang/invoke/VarHandle") (hpd : parseMethodDescriptor y.desc = some ⟨ps, ro⟩) (ctr : Ctr l y yb ymx yr rm Z as h n0 Q' []) (has : (.ref a :: argsL).toArray = as) (hlen : argsL.length = ps.length) (hst : stk = argsL.reverse ++ .ref a :: rest) (hsz : Ls.size = mx) (hW : (rest.map fun v => v.category).sum ≤ Wt) (hf : rm.frames + 1 ≤ R.frames) (hl : Wt + (ymx + 11) + rm.locals ≤ R.locals) (hc : k + rm.cells ≤ R.cells) (hs : n + rm.slots ≤ R.slots) (hp : pc + 3 = pc')
    (K : ∀ v T' h', W Z own nm bytes mx rt n0 p l e R s m args below meth c (k + rm.cells) (n + rm.slots) T' h' → Q' v h' → Go n0 p e below s Q CC NN T' (mkF m pc' Ls (v.toList ++ rest))) : Go n0 p e below s Q CC NN T (mkF m pc Ls stk) := by
  obtain ⟨hx, hb, hown, hZ, r1, r2, r3, r4, ⟨L, X, N⟩, eT⟩ := w
  obtain ⟨cq, qa, qb⟩ := E.cell
  obtain ⟨ci, ki, i1, i2, -, i4, -, -⟩ := Cond.instantiable_spec (mvT hZ w5 (args := #[]))
  have hni : ki.isInterface = false := (Bool.or_eq_false_iff.mp i4).1
  have hpr := Cond.privateMethod_at (mvP hZ w6 (args := #[]))
  have hsel := selects_self_of_private (args := args) i1 i2 hni hpr (mvT hZ w2) hy
  obtain ⟨v, _, ⟨T', L', k', n'⟩, -, X', ⟨Lc, hQ, hl1, hc1, hs1⟩, st⟩ := X.privateBack hx (y := y) hown (mvT hZ w1) (mvT hZ w2) hsel hpr (mvT hZ w4) hy (backOf (W := Wt) (Q := fun v h L => Fr n0 L ∧ Q' v h) ctr hZ w4 w3 hf hl) (g := mkF m pc Ls stk) rfl (hsz.trans r1.symm) (Steps.refl _) (a := a) (by rw [eT]; exact qa) qb (argsL := argsL) (rest := rest) (lenOf hpd hlen) hst (by show 2 * 0 + _ ≤ _; omega) (by rw [hb]; exact hd) (fun _ _ => ⟨has, eT, hc, hs⟩)
  dsimp only [Pt.U, Pt.locs, Pt.cells, Pt.slots] at X' st hQ hl1 hc1 hs1
  subst hl1 hc1 hs1
  obtain ⟨s₂, q, st', r⟩ := K v T' T'.heap ⟨hx, hb, hown, hZ, r1, r2, r3, r4, ⟨_, X', Fr.app N hQ.1⟩, rfl⟩ hQ.2
  subst hp
  exact ⟨s₂, q, st.trans st', r⟩
theorem own_bb (y : Int32) : y.toInt8.toInt32.toInt8.toInt32 = y.toInt8.toInt32 := by rw [Int8.toInt8_toInt32]
end GoKit

theorem d1_0 : decode prog_22_method_8_code 0 = .ok (.lconst 0, 1) := by decide +kernel
theorem d1_1 : decode prog_22_method_8_code 1 = .ok (.lstore_n 2, 1) := by decide +kernel
theorem d1_2 : decode prog_22_method_8_code 2 = .ok (.iload_n 1, 1) := by decide +kernel
theorem d1_3 : decode prog_22_method_8_code 3 = .ok (.istore 4, 2) := by decide +kernel
theorem d1_5 : decode prog_22_method_8_code 5 = .ok (.iload 4, 2) := by decide +kernel
theorem d1_7 : decode prog_22_method_8_code 7 = .ok (.iload_n 1, 1) := by decide +kernel
theorem d1_8 : decode prog_22_method_8_code 8 = .ok (.iconst 4, 1) := by decide +kernel
theorem d1_9 : decode prog_22_method_8_code 9 = .ok (.iadd, 1) := by decide +kernel
theorem d1_10 : decode prog_22_method_8_code 10 = .ok (.if_icmp .ge 23, 3) := by decide +kernel
theorem d1_13 : decode prog_22_method_8_code 13 = .ok (.lload_n 2, 1) := by decide +kernel
theorem d1_14 : decode prog_22_method_8_code 14 = .ok (.bipush 7, 2) := by decide +kernel
theorem d1_16 : decode prog_22_method_8_code 16 = .ok (.lshl, 1) := by decide +kernel
theorem d1_17 : decode prog_22_method_8_code 17 = .ok (.aload_n 0, 1) := by decide +kernel
theorem d1_18 : decode prog_22_method_8_code 18 = .ok (.iload 4, 2) := by decide +kernel
theorem d1_20 : decode prog_22_method_8_code 20 = .ok (.baload, 1) := by decide +kernel
theorem d1_21 : decode prog_22_method_8_code 21 = .ok (.bipush 127, 2) := by decide +kernel
theorem d1_23 : decode prog_22_method_8_code 23 = .ok (.iand, 1) := by decide +kernel
theorem d1_24 : decode prog_22_method_8_code 24 = .ok (.i2l, 1) := by decide +kernel
theorem d1_25 : decode prog_22_method_8_code 25 = .ok (.lor, 1) := by decide +kernel
theorem d1_26 : decode prog_22_method_8_code 26 = .ok (.lstore_n 2, 1) := by decide +kernel
theorem d1_27 : decode prog_22_method_8_code 27 = .ok (.iinc 4 1, 3) := by decide +kernel
theorem d1_30 : decode prog_22_method_8_code 30 = .ok (.goto (-25), 3) := by decide +kernel
theorem d1_33 : decode prog_22_method_8_code 33 = .ok (.lload_n 2, 1) := by decide +kernel
theorem d1_34 : decode prog_22_method_8_code 34 = .ok (.lreturn, 1) := by decide +kernel
theorem pn_d1 : plainFor (⟨"com/example/kindred/kindred/index/Id3v2", "synchsafe", "([BI)J"⟩ : MethodName) = true := by first | (refine plainFor_of_name ?_; simp [plainName, overriddenIn]; done) | decide +kernel
theorem pd_d1 : parseMethodDescriptor "([BI)J" = some ⟨[(.array .byte), .int], some .long⟩ := by decide +kernel
theorem pn_at0 : plainName "com/example/kindred/kindred/index/Id3v2SynchsafePinLaw" = true := by first | (simp [plainName, overriddenIn]; done) | decide +kernel
theorem pn_at : plainFor x = true := plainFor_of_name pn_at0
variable {p : Program} {l : Launch} {e : Env} {s : State} {m : MethodId} {args : Array Value} {below : List Frame} {meth : Method} {c : Code} {T : State} {Z : State} {n0 : Nat} {h : Heap} {a0 : Array Value}
def own_acc (b0 b1 b2 b3 : Int32) : Int64 := (((((((((((((0 : Int64) <<< ((7 : Int32) &&& 0x3f).toInt64)) ||| ((b0 &&& (127 : Int32)).toInt64)) <<< ((7 : Int32) &&& 0x3f).toInt64)) ||| ((b1 &&& (127 : Int32)).toInt64)) <<< ((7 : Int32) &&& 0x3f).toInt64)) ||| ((b2 &&& (127 : Int32)).toInt64)) <<< ((7 : Int32) &&& 0x3f).toInt64)) ||| ((b3 &&& (127 : Int32)).toInt64))
theorem own_inj {x y : Int64} (q : x.toBitVec.toNat = y.toBitVec.toNat) : x = y := Int64.toBitVec_inj.mp (BitVec.eq_of_toNat_eq q)
theorem own_zero : (0 : Int64).toBitVec.toNat = 0 := rfl
theorem own_or (x y : Int64) (k : Nat) (h1 : x.toBitVec.toNat % 2 ^ k = 0) (h2 : y.toBitVec.toNat < 2 ^ k) : (x ||| y).toBitVec.toNat = x.toBitVec.toNat + y.toBitVec.toNat := by
  rw [Int64.toBitVec_or, BitVec.toNat_or]
  have e : x.toBitVec.toNat = (x.toBitVec.toNat / 2 ^ k) <<< k := by
    rw [Nat.shiftLeft_eq]
    have := Nat.div_add_mod x.toBitVec.toNat (2 ^ k)
    rw [h1, Nat.add_zero, Nat.mul_comm] at this
    exact this.symm
  rw [e]
  exact (Nat.shiftLeft_add_eq_or_of_lt h2 _).symm
theorem own_low (y : Int32) (msk : Int32) (k : Nat) (hk : k ≤ 31) (hm : msk.toBitVec.toNat = 2 ^ k - 1) (hs : msk.toBitVec.msb = false) : (y &&& msk).toInt64.toBitVec.toNat = y.toBitVec.toNat % 2 ^ k := by
  rw [Int32.toBitVec_toInt64, BitVec.signExtend_eq_setWidth_of_msb_false, BitVec.toNat_setWidth, Int32.toBitVec_and, BitVec.toNat_and, hm, Nat.and_two_pow_sub_one_eq_mod]
  · apply Nat.mod_eq_of_lt
    have := Nat.mod_lt y.toBitVec.toNat (Nat.two_pow_pos k)
    have : 2 ^ k ≤ 2 ^ 31 := Nat.pow_le_pow_right (by decide) hk
    omega
  · rw [Int32.toBitVec_and, BitVec.msb_and, hs, Bool.and_false]
theorem own_shl8 (a : Int64) : (a <<< ((8 : Int32) &&& 0x3f).toInt64).toBitVec.toNat = a.toBitVec.toNat * 256 % 18446744073709551616 := by
  rw [Int64.toBitVec_shiftLeft, show (((8 : Int32) &&& 0x3f).toInt64.toBitVec.smod 64) = 8#64 from by decide]
  show (a.toBitVec <<< (8 : Nat)).toNat = _
  rw [BitVec.toNat_shiftLeft, Nat.shiftLeft_eq]
theorem own_or8 (a : Int64) (y : Int32) : ((a <<< ((8 : Int32) &&& 0x3f).toInt64) ||| (y &&& (255 : Int32)).toInt64).toBitVec.toNat = (a.toBitVec.toNat * 256 + y.toBitVec.toNat % 256) % 18446744073709551616 := by
  have e := own_low y 255 8 (by decide) (by decide) (by decide)
  have s := own_shl8 a
  rw [own_or _ _ 8 (by rw [s]; omega) (by rw [e]; exact Nat.mod_lt _ (by decide)), s, e]
  omega
theorem own_b8 (y : Int64) : y.toInt32.toInt8.toInt32.toBitVec.toNat % 256 = y.toBitVec.toNat % 256 := by
  have a := (c_i2b y.toInt32).1
  have b := c_l2i y
  have c1 : y.toInt = if 2 * y.toBitVec.toNat < 2 ^ 64 then (y.toBitVec.toNat : Int) else (y.toBitVec.toNat : Int) - ((2 ^ 64 : Nat) : Int) := BitVec.toInt_eq_toNat_cond _
  have c2 : y.toInt32.toInt8.toInt32.toInt = if 2 * y.toInt32.toInt8.toInt32.toBitVec.toNat < 2 ^ 32 then (y.toInt32.toInt8.toInt32.toBitVec.toNat : Int) else (y.toInt32.toInt8.toInt32.toBitVec.toNat : Int) - ((2 ^ 32 : Nat) : Int) := BitVec.toInt_eq_toNat_cond _
  split at c1 <;> split at c2 <;> omega
theorem own_b8i (y : Int32) : y.toInt8.toInt32.toBitVec.toNat % 256 = y.toBitVec.toNat % 256 := by
  have a := (c_i2b y).1
  have c1 : y.toInt = if 2 * y.toBitVec.toNat < 2 ^ 32 then (y.toBitVec.toNat : Int) else (y.toBitVec.toNat : Int) - ((2 ^ 32 : Nat) : Int) := BitVec.toInt_eq_toNat_cond _
  have c2 : y.toInt8.toInt32.toInt = if 2 * y.toInt8.toInt32.toBitVec.toNat < 2 ^ 32 then (y.toInt8.toInt32.toBitVec.toNat : Int) else (y.toInt8.toInt32.toBitVec.toNat : Int) - ((2 ^ 32 : Nat) : Int) := BitVec.toInt_eq_toNat_cond _
  split at c1 <;> split at c2 <;> omega
theorem own_shl7 (a : Int64) : (a <<< ((7 : Int32) &&& 0x3f).toInt64).toBitVec.toNat = a.toBitVec.toNat * 128 % 18446744073709551616 := by
  rw [Int64.toBitVec_shiftLeft, show (((7 : Int32) &&& 0x3f).toInt64.toBitVec.smod 64) = 7#64 from by decide]
  show (a.toBitVec <<< (7 : Nat)).toNat = _
  rw [BitVec.toNat_shiftLeft, Nat.shiftLeft_eq]
theorem own_or7 (a : Int64) (y : Int32) : ((a <<< ((7 : Int32) &&& 0x3f).toInt64) ||| (y &&& (127 : Int32)).toInt64).toBitVec.toNat = (a.toBitVec.toNat * 128 + y.toBitVec.toNat % 128) % 18446744073709551616 := by
  have e := own_low y 127 7 (by decide) (by decide) (by decide)
  have s := own_shl7 a
  rw [own_or _ _ 7 (by rw [s]; omega) (by rw [e]; exact Nat.mod_lt _ (by decide)), s, e]
  omega
theorem own_shl14 (a : Int64) : (a <<< ((14 : Int32) &&& 0x3f).toInt64).toBitVec.toNat = a.toBitVec.toNat * 16384 % 18446744073709551616 := by
  rw [Int64.toBitVec_shiftLeft, show (((14 : Int32) &&& 0x3f).toInt64.toBitVec.smod 64) = 14#64 from by decide]
  show (a.toBitVec <<< (14 : Nat)).toNat = _
  rw [BitVec.toNat_shiftLeft, Nat.shiftLeft_eq]
theorem own_shl21 (a : Int64) : (a <<< ((21 : Int32) &&& 0x3f).toInt64).toBitVec.toNat = a.toBitVec.toNat * 2097152 % 18446744073709551616 := by
  rw [Int64.toBitVec_shiftLeft, show (((21 : Int32) &&& 0x3f).toInt64.toBitVec.smod 64) = 21#64 from by decide]
  show (a.toBitVec <<< (21 : Nat)).toNat = _
  rw [BitVec.toNat_shiftLeft, Nat.shiftLeft_eq]
theorem own_accN (b0 b1 b2 b3 : Int32) : (own_acc b0 b1 b2 b3).toBitVec.toNat = (b0.toBitVec.toNat % 128) * 2097152 + (b1.toBitVec.toNat % 128) * 16384 + (b2.toBitVec.toNat % 128) * 128 + b3.toBitVec.toNat % 128 := by
  unfold own_acc
  simp only [own_or7]
  rw [own_zero]
  omega
theorem own_8N (q0 q1 q2 q3 : Int32) : (own_acc q0.toInt8.toInt32 q1.toInt8.toInt32 q2.toInt8.toInt32 q3.toInt8.toInt32).toBitVec.toNat = (q0.toBitVec.toNat % 128) * 2097152 + (q1.toBitVec.toNat % 128) * 16384 + (q2.toBitVec.toNat % 128) * 128 + q3.toBitVec.toNat % 128 := by
  rw [own_accN]
  have a0 := own_b8i q0
  have a1 := own_b8i q1
  have a2 := own_b8i q2
  have a3 := own_b8i q3
  omega
theorem own_eq (q0 q1 q2 q3 : Int32) : own_acc q0.toInt8.toInt32 q1.toInt8.toInt32 q2.toInt8.toInt32 q3.toInt8.toInt32 = (((((q0 &&& (127 : Int32)).toInt64 <<< ((21 : Int32) &&& 0x3f).toInt64) ||| ((q1 &&& (127 : Int32)).toInt64 <<< ((14 : Int32) &&& 0x3f).toInt64)) ||| ((q2 &&& (127 : Int32)).toInt64 <<< ((7 : Int32) &&& 0x3f).toInt64)) ||| (q3 &&& (127 : Int32)).toInt64) := by
  apply own_inj
  rw [own_8N]
  have e0 := own_low q0 127 7 (by decide) (by decide) (by decide)
  have e1 := own_low q1 127 7 (by decide) (by decide) (by decide)
  have e2 := own_low q2 127 7 (by decide) (by decide) (by decide)
  have e3 := own_low q3 127 7 (by decide) (by decide) (by decide)
  have s0 := own_shl21 (q0 &&& (127 : Int32)).toInt64
  have s1 := own_shl14 (q1 &&& (127 : Int32)).toInt64
  have s2 := own_shl7 (q2 &&& (127 : Int32)).toInt64
  have o1 := own_or ((q0 &&& (127 : Int32)).toInt64 <<< ((21 : Int32) &&& 0x3f).toInt64) ((q1 &&& (127 : Int32)).toInt64 <<< ((14 : Int32) &&& 0x3f).toInt64) 21 (by omega) (by omega)
  have o2 := own_or (((q0 &&& (127 : Int32)).toInt64 <<< ((21 : Int32) &&& 0x3f).toInt64) ||| ((q1 &&& (127 : Int32)).toInt64 <<< ((14 : Int32) &&& 0x3f).toInt64)) ((q2 &&& (127 : Int32)).toInt64 <<< ((7 : Int32) &&& 0x3f).toInt64) 14 (by omega) (by omega)
  have o3 := own_or ((((q0 &&& (127 : Int32)).toInt64 <<< ((21 : Int32) &&& 0x3f).toInt64) ||| ((q1 &&& (127 : Int32)).toInt64 <<< ((14 : Int32) &&& 0x3f).toInt64)) ||| ((q2 &&& (127 : Int32)).toInt64 <<< ((7 : Int32) &&& 0x3f).toInt64)) (q3 &&& (127 : Int32)).toInt64 7 (by omega) (by omega)
  omega
theorem own_rng (q0 q1 q2 q3 : Int32) : ¬ own_acc q0.toInt8.toInt32 q1.toInt8.toInt32 q2.toInt8.toInt32 q3.toInt8.toInt32 < (0 : Int64) ∧ own_acc q0.toInt8.toInt32 q1.toInt8.toInt32 q2.toInt8.toInt32 q3.toInt8.toInt32 < (268435456 : Int64) := by
  have e := own_8N q0 q1 q2 q3
  rw [Int64.lt_iff_toInt_lt, Int64.lt_iff_toInt_lt]
  have k0 : (0 : Int64).toInt = 0 := rfl
  have k1 : (268435456 : Int64).toInt = 268435456 := rfl
  generalize own_acc q0.toInt8.toInt32 q1.toInt8.toInt32 q2.toInt8.toInt32 q3.toInt8.toInt32 = y at *
  have c1 : y.toInt = if 2 * y.toBitVec.toNat < 2 ^ 64 then (y.toBitVec.toNat : Int) else (y.toBitVec.toNat : Int) - ((2 ^ 64 : Nat) : Int) := BitVec.toInt_eq_toNat_cond _
  split at c1 <;> omega
set_option maxRecDepth 65536 in
set_option maxHeartbeats 4000000 in
theorem own_c0 (hw : ∀ d ∈ tables_1, d.before a0 Z = true) (a : Addr) (ka : ClassId) (vs : List Value) (dv : Value) (b0 b1 b2 b3 : Int32) (V : Arv Z h a ka .byte (7 : Int32) vs dv) (v0 : vs.getD (0 : Int32).toNatClampNeg dv = .int b0) (v1 : vs.getD (1 : Int32).toNatClampNeg dv = .int b1) (v2 : vs.getD (2 : Int32).toNatClampNeg dv = .int b2) (v3 : vs.getD (3 : Int32).toNatClampNeg dv = .int b3) :
    Ctr l (⟨"com/example/kindred/kindred/index/Id3v2", "synchsafe", "([BI)J"⟩ : MethodName) prog_22_method_8_code 5 (some .long) ({ frames := 0, cells := 0, slots := 0, locals := 0 } : Room) Z #[(.ref a), (.int (0 : Int32))] h n0 (fun v h' => v = some (.long (own_acc b0 b1 b2 b3)) ∧ h' = h) [] := by
  refine metGo (Ls := #[.val (.ref a), .val (.int (0 : Int32)), .unset, .unset, .unset]) pn_d1 (fun m => by first | rfl | (simp [entryFrame, mkF, argsToLocals, Value.category]; done) | (simp [entryFrame, mkF, argsToLocals, Value.category, maxLocals]; done)) ?_
  intro p e s m below meth c T w
  refine glconst (v := (0 : Int64)) (pc' := 1) w d1_0 rfl rfl ?_
  refine glstoreN (pc' := 2) (Ls := #[.val (.ref a), .val (.int (0 : Int32)), .unset, .unset, .unset]) (Ls' := #[.val (.ref a), .val (.int (0 : Int32)), .val (.long (0 : Int64)), .second, .unset]) (rest := []) w d1_1 rfl rfl ?_
  refine giloadN (pc' := 3) (Ls := #[.val (.ref a), .val (.int (0 : Int32)), .val (.long (0 : Int64)), .second, .unset]) (rest := []) w d1_2 rfl rfl ?_
  refine gistore (pc' := 5) (Ls := #[.val (.ref a), .val (.int (0 : Int32)), .val (.long (0 : Int64)), .second, .unset]) (Ls' := #[.val (.ref a), .val (.int (0 : Int32)), .val (.long (0 : Int64)), .second, .val (.int (0 : Int32))]) (rest := []) w d1_3 rfl rfl ?_
  refine giload (pc' := 7) (Ls := #[.val (.ref a), .val (.int (0 : Int32)), .val (.long (0 : Int64)), .second, .val (.int (0 : Int32))]) (rest := []) w d1_5 rfl rfl ?_
  refine giloadN (pc' := 8) (Ls := #[.val (.ref a), .val (.int (0 : Int32)), .val (.long (0 : Int64)), .second, .val (.int (0 : Int32))]) (rest := [(.int (0 : Int32))]) w d1_7 rfl rfl ?_
  refine giconst (v := (4 : Int32)) (pc' := 9) w d1_8 rfl rfl ?_
  refine giadd (pc' := 10) w d1_9 rfl ?_
  refine gicmp (pt := 33) (pf := 13) w d1_10  (by decide) rfl rfl (fun (c10 : ¬ (0 : Int32) < ((0 : Int32) + (4 : Int32))) => ?_) (fun (c10 : (0 : Int32) < ((0 : Int32) + (4 : Int32))) => ?_)
  · exact absurd c10 (by decide)
  · refine glloadN (pc' := 14) (Ls := #[.val (.ref a), .val (.int (0 : Int32)), .val (.long (0 : Int64)), .second, .val (.int (0 : Int32))]) (rest := []) w d1_13 rfl rfl ?_
    refine gbipush (v := (7 : Int32)) (pc' := 16) w d1_14 rfl rfl ?_
    refine glshl (pc' := 17) w d1_16 rfl ?_
    refine galoadN (pc' := 18) (Ls := #[.val (.ref a), .val (.int (0 : Int32)), .val (.long (0 : Int64)), .second, .val (.int (0 : Int32))]) (rest := [(.long (((0 : Int64) <<< ((7 : Int32) &&& 0x3f).toInt64)))]) w d1_17 rfl rfl rfl ?_
    refine giload (pc' := 20) (Ls := #[.val (.ref a), .val (.int (0 : Int32)), .val (.long (0 : Int64)), .second, .val (.int (0 : Int32))]) (rest := [(.ref a), (.long (((0 : Int64) <<< ((7 : Int32) &&& 0x3f).toInt64)))]) w d1_18 rfl rfl ?_
    refine gbaload (pc' := 21) (v := (.int b0)) w d1_20 V (by decide) v0 rfl ?_
    refine gbipush (v := (127 : Int32)) (pc' := 23) w d1_21 rfl rfl ?_
    refine giand (pc' := 24) w d1_23 rfl ?_
    refine gi2l (pc' := 25) w d1_24 rfl ?_
    refine glor (pc' := 26) w d1_25 rfl ?_
    refine glstoreN (pc' := 27) (Ls := #[.val (.ref a), .val (.int (0 : Int32)), .val (.long (0 : Int64)), .second, .val (.int (0 : Int32))]) (Ls' := #[.val (.ref a), .val (.int (0 : Int32)), .val (.long ((((0 : Int64) <<< ((7 : Int32) &&& 0x3f).toInt64)) ||| ((b0 &&& (127 : Int32)).toInt64))), .second, .val (.int (0 : Int32))]) (rest := []) w d1_26 rfl rfl ?_
    refine giinc (pc' := 30) (Ls := #[.val (.ref a), .val (.int (0 : Int32)), .val (.long ((((0 : Int64) <<< ((7 : Int32) &&& 0x3f).toInt64)) ||| ((b0 &&& (127 : Int32)).toInt64))), .second, .val (.int (0 : Int32))]) (Ls' := #[.val (.ref a), .val (.int (0 : Int32)), .val (.long ((((0 : Int64) <<< ((7 : Int32) &&& 0x3f).toInt64)) ||| ((b0 &&& (127 : Int32)).toInt64))), .second, .val (.int (1 : Int32))]) (rest := []) w d1_27 rfl rfl rfl ?_
    refine ggoto (pc' := 5) w d1_30 (by decide) rfl ?_
    refine giload (pc' := 7) (Ls := #[.val (.ref a), .val (.int (0 : Int32)), .val (.long ((((0 : Int64) <<< ((7 : Int32) &&& 0x3f).toInt64)) ||| ((b0 &&& (127 : Int32)).toInt64))), .second, .val (.int (1 : Int32))]) (rest := []) w d1_5 rfl rfl ?_
    refine giloadN (pc' := 8) (Ls := #[.val (.ref a), .val (.int (0 : Int32)), .val (.long ((((0 : Int64) <<< ((7 : Int32) &&& 0x3f).toInt64)) ||| ((b0 &&& (127 : Int32)).toInt64))), .second, .val (.int (1 : Int32))]) (rest := [(.int (1 : Int32))]) w d1_7 rfl rfl ?_
    refine giconst (v := (4 : Int32)) (pc' := 9) w d1_8 rfl rfl ?_
    refine giadd (pc' := 10) w d1_9 rfl ?_
    refine gicmp (pt := 33) (pf := 13) w d1_10  (by decide) rfl rfl (fun (c10_1 : ¬ (1 : Int32) < ((0 : Int32) + (4 : Int32))) => ?_) (fun (c10_1 : (1 : Int32) < ((0 : Int32) + (4 : Int32))) => ?_)
    · exact absurd c10_1 (by decide)
    · refine glloadN (pc' := 14) (Ls := #[.val (.ref a), .val (.int (0 : Int32)), .val (.long ((((0 : Int64) <<< ((7 : Int32) &&& 0x3f).toInt64)) ||| ((b0 &&& (127 : Int32)).toInt64))), .second, .val (.int (1 : Int32))]) (rest := []) w d1_13 rfl rfl ?_
      refine gbipush (v := (7 : Int32)) (pc' := 16) w d1_14 rfl rfl ?_
      refine glshl (pc' := 17) w d1_16 rfl ?_
      refine galoadN (pc' := 18) (Ls := #[.val (.ref a), .val (.int (0 : Int32)), .val (.long ((((0 : Int64) <<< ((7 : Int32) &&& 0x3f).toInt64)) ||| ((b0 &&& (127 : Int32)).toInt64))), .second, .val (.int (1 : Int32))]) (rest := [(.long ((((((0 : Int64) <<< ((7 : Int32) &&& 0x3f).toInt64)) ||| ((b0 &&& (127 : Int32)).toInt64)) <<< ((7 : Int32) &&& 0x3f).toInt64)))]) w d1_17 rfl rfl rfl ?_
      refine giload (pc' := 20) (Ls := #[.val (.ref a), .val (.int (0 : Int32)), .val (.long ((((0 : Int64) <<< ((7 : Int32) &&& 0x3f).toInt64)) ||| ((b0 &&& (127 : Int32)).toInt64))), .second, .val (.int (1 : Int32))]) (rest := [(.ref a), (.long ((((((0 : Int64) <<< ((7 : Int32) &&& 0x3f).toInt64)) ||| ((b0 &&& (127 : Int32)).toInt64)) <<< ((7 : Int32) &&& 0x3f).toInt64)))]) w d1_18 rfl rfl ?_
      refine gbaload (pc' := 21) (v := (.int b1)) w d1_20 V (by decide) v1 rfl ?_
      refine gbipush (v := (127 : Int32)) (pc' := 23) w d1_21 rfl rfl ?_
      refine giand (pc' := 24) w d1_23 rfl ?_
      refine gi2l (pc' := 25) w d1_24 rfl ?_
      refine glor (pc' := 26) w d1_25 rfl ?_
      refine glstoreN (pc' := 27) (Ls := #[.val (.ref a), .val (.int (0 : Int32)), .val (.long ((((0 : Int64) <<< ((7 : Int32) &&& 0x3f).toInt64)) ||| ((b0 &&& (127 : Int32)).toInt64))), .second, .val (.int (1 : Int32))]) (Ls' := #[.val (.ref a), .val (.int (0 : Int32)), .val (.long (((((((0 : Int64) <<< ((7 : Int32) &&& 0x3f).toInt64)) ||| ((b0 &&& (127 : Int32)).toInt64)) <<< ((7 : Int32) &&& 0x3f).toInt64)) ||| ((b1 &&& (127 : Int32)).toInt64))), .second, .val (.int (1 : Int32))]) (rest := []) w d1_26 rfl rfl ?_
      refine giinc (pc' := 30) (Ls := #[.val (.ref a), .val (.int (0 : Int32)), .val (.long (((((((0 : Int64) <<< ((7 : Int32) &&& 0x3f).toInt64)) ||| ((b0 &&& (127 : Int32)).toInt64)) <<< ((7 : Int32) &&& 0x3f).toInt64)) ||| ((b1 &&& (127 : Int32)).toInt64))), .second, .val (.int (1 : Int32))]) (Ls' := #[.val (.ref a), .val (.int (0 : Int32)), .val (.long (((((((0 : Int64) <<< ((7 : Int32) &&& 0x3f).toInt64)) ||| ((b0 &&& (127 : Int32)).toInt64)) <<< ((7 : Int32) &&& 0x3f).toInt64)) ||| ((b1 &&& (127 : Int32)).toInt64))), .second, .val (.int (2 : Int32))]) (rest := []) w d1_27 rfl rfl rfl ?_
      refine ggoto (pc' := 5) w d1_30 (by decide) rfl ?_
      refine giload (pc' := 7) (Ls := #[.val (.ref a), .val (.int (0 : Int32)), .val (.long (((((((0 : Int64) <<< ((7 : Int32) &&& 0x3f).toInt64)) ||| ((b0 &&& (127 : Int32)).toInt64)) <<< ((7 : Int32) &&& 0x3f).toInt64)) ||| ((b1 &&& (127 : Int32)).toInt64))), .second, .val (.int (2 : Int32))]) (rest := []) w d1_5 rfl rfl ?_
      refine giloadN (pc' := 8) (Ls := #[.val (.ref a), .val (.int (0 : Int32)), .val (.long (((((((0 : Int64) <<< ((7 : Int32) &&& 0x3f).toInt64)) ||| ((b0 &&& (127 : Int32)).toInt64)) <<< ((7 : Int32) &&& 0x3f).toInt64)) ||| ((b1 &&& (127 : Int32)).toInt64))), .second, .val (.int (2 : Int32))]) (rest := [(.int (2 : Int32))]) w d1_7 rfl rfl ?_
      refine giconst (v := (4 : Int32)) (pc' := 9) w d1_8 rfl rfl ?_
      refine giadd (pc' := 10) w d1_9 rfl ?_
      refine gicmp (pt := 33) (pf := 13) w d1_10  (by decide) rfl rfl (fun (c10_2 : ¬ (2 : Int32) < ((0 : Int32) + (4 : Int32))) => ?_) (fun (c10_2 : (2 : Int32) < ((0 : Int32) + (4 : Int32))) => ?_)
      · exact absurd c10_2 (by decide)
      · refine glloadN (pc' := 14) (Ls := #[.val (.ref a), .val (.int (0 : Int32)), .val (.long (((((((0 : Int64) <<< ((7 : Int32) &&& 0x3f).toInt64)) ||| ((b0 &&& (127 : Int32)).toInt64)) <<< ((7 : Int32) &&& 0x3f).toInt64)) ||| ((b1 &&& (127 : Int32)).toInt64))), .second, .val (.int (2 : Int32))]) (rest := []) w d1_13 rfl rfl ?_
        refine gbipush (v := (7 : Int32)) (pc' := 16) w d1_14 rfl rfl ?_
        refine glshl (pc' := 17) w d1_16 rfl ?_
        refine galoadN (pc' := 18) (Ls := #[.val (.ref a), .val (.int (0 : Int32)), .val (.long (((((((0 : Int64) <<< ((7 : Int32) &&& 0x3f).toInt64)) ||| ((b0 &&& (127 : Int32)).toInt64)) <<< ((7 : Int32) &&& 0x3f).toInt64)) ||| ((b1 &&& (127 : Int32)).toInt64))), .second, .val (.int (2 : Int32))]) (rest := [(.long (((((((((0 : Int64) <<< ((7 : Int32) &&& 0x3f).toInt64)) ||| ((b0 &&& (127 : Int32)).toInt64)) <<< ((7 : Int32) &&& 0x3f).toInt64)) ||| ((b1 &&& (127 : Int32)).toInt64)) <<< ((7 : Int32) &&& 0x3f).toInt64)))]) w d1_17 rfl rfl rfl ?_
        refine giload (pc' := 20) (Ls := #[.val (.ref a), .val (.int (0 : Int32)), .val (.long (((((((0 : Int64) <<< ((7 : Int32) &&& 0x3f).toInt64)) ||| ((b0 &&& (127 : Int32)).toInt64)) <<< ((7 : Int32) &&& 0x3f).toInt64)) ||| ((b1 &&& (127 : Int32)).toInt64))), .second, .val (.int (2 : Int32))]) (rest := [(.ref a), (.long (((((((((0 : Int64) <<< ((7 : Int32) &&& 0x3f).toInt64)) ||| ((b0 &&& (127 : Int32)).toInt64)) <<< ((7 : Int32) &&& 0x3f).toInt64)) ||| ((b1 &&& (127 : Int32)).toInt64)) <<< ((7 : Int32) &&& 0x3f).toInt64)))]) w d1_18 rfl rfl ?_
        refine gbaload (pc' := 21) (v := (.int b2)) w d1_20 V (by decide) v2 rfl ?_
        refine gbipush (v := (127 : Int32)) (pc' := 23) w d1_21 rfl rfl ?_
        refine giand (pc' := 24) w d1_23 rfl ?_
        refine gi2l (pc' := 25) w d1_24 rfl ?_
        refine glor (pc' := 26) w d1_25 rfl ?_
        refine glstoreN (pc' := 27) (Ls := #[.val (.ref a), .val (.int (0 : Int32)), .val (.long (((((((0 : Int64) <<< ((7 : Int32) &&& 0x3f).toInt64)) ||| ((b0 &&& (127 : Int32)).toInt64)) <<< ((7 : Int32) &&& 0x3f).toInt64)) ||| ((b1 &&& (127 : Int32)).toInt64))), .second, .val (.int (2 : Int32))]) (Ls' := #[.val (.ref a), .val (.int (0 : Int32)), .val (.long ((((((((((0 : Int64) <<< ((7 : Int32) &&& 0x3f).toInt64)) ||| ((b0 &&& (127 : Int32)).toInt64)) <<< ((7 : Int32) &&& 0x3f).toInt64)) ||| ((b1 &&& (127 : Int32)).toInt64)) <<< ((7 : Int32) &&& 0x3f).toInt64)) ||| ((b2 &&& (127 : Int32)).toInt64))), .second, .val (.int (2 : Int32))]) (rest := []) w d1_26 rfl rfl ?_
        refine giinc (pc' := 30) (Ls := #[.val (.ref a), .val (.int (0 : Int32)), .val (.long ((((((((((0 : Int64) <<< ((7 : Int32) &&& 0x3f).toInt64)) ||| ((b0 &&& (127 : Int32)).toInt64)) <<< ((7 : Int32) &&& 0x3f).toInt64)) ||| ((b1 &&& (127 : Int32)).toInt64)) <<< ((7 : Int32) &&& 0x3f).toInt64)) ||| ((b2 &&& (127 : Int32)).toInt64))), .second, .val (.int (2 : Int32))]) (Ls' := #[.val (.ref a), .val (.int (0 : Int32)), .val (.long ((((((((((0 : Int64) <<< ((7 : Int32) &&& 0x3f).toInt64)) ||| ((b0 &&& (127 : Int32)).toInt64)) <<< ((7 : Int32) &&& 0x3f).toInt64)) ||| ((b1 &&& (127 : Int32)).toInt64)) <<< ((7 : Int32) &&& 0x3f).toInt64)) ||| ((b2 &&& (127 : Int32)).toInt64))), .second, .val (.int (3 : Int32))]) (rest := []) w d1_27 rfl rfl rfl ?_
        refine ggoto (pc' := 5) w d1_30 (by decide) rfl ?_
        refine giload (pc' := 7) (Ls := #[.val (.ref a), .val (.int (0 : Int32)), .val (.long ((((((((((0 : Int64) <<< ((7 : Int32) &&& 0x3f).toInt64)) ||| ((b0 &&& (127 : Int32)).toInt64)) <<< ((7 : Int32) &&& 0x3f).toInt64)) ||| ((b1 &&& (127 : Int32)).toInt64)) <<< ((7 : Int32) &&& 0x3f).toInt64)) ||| ((b2 &&& (127 : Int32)).toInt64))), .second, .val (.int (3 : Int32))]) (rest := []) w d1_5 rfl rfl ?_
        refine giloadN (pc' := 8) (Ls := #[.val (.ref a), .val (.int (0 : Int32)), .val (.long ((((((((((0 : Int64) <<< ((7 : Int32) &&& 0x3f).toInt64)) ||| ((b0 &&& (127 : Int32)).toInt64)) <<< ((7 : Int32) &&& 0x3f).toInt64)) ||| ((b1 &&& (127 : Int32)).toInt64)) <<< ((7 : Int32) &&& 0x3f).toInt64)) ||| ((b2 &&& (127 : Int32)).toInt64))), .second, .val (.int (3 : Int32))]) (rest := [(.int (3 : Int32))]) w d1_7 rfl rfl ?_
        refine giconst (v := (4 : Int32)) (pc' := 9) w d1_8 rfl rfl ?_
        refine giadd (pc' := 10) w d1_9 rfl ?_
        refine gicmp (pt := 33) (pf := 13) w d1_10  (by decide) rfl rfl (fun (c10_3 : ¬ (3 : Int32) < ((0 : Int32) + (4 : Int32))) => ?_) (fun (c10_3 : (3 : Int32) < ((0 : Int32) + (4 : Int32))) => ?_)
        · exact absurd c10_3 (by decide)
        · refine glloadN (pc' := 14) (Ls := #[.val (.ref a), .val (.int (0 : Int32)), .val (.long ((((((((((0 : Int64) <<< ((7 : Int32) &&& 0x3f).toInt64)) ||| ((b0 &&& (127 : Int32)).toInt64)) <<< ((7 : Int32) &&& 0x3f).toInt64)) ||| ((b1 &&& (127 : Int32)).toInt64)) <<< ((7 : Int32) &&& 0x3f).toInt64)) ||| ((b2 &&& (127 : Int32)).toInt64))), .second, .val (.int (3 : Int32))]) (rest := []) w d1_13 rfl rfl ?_
          refine gbipush (v := (7 : Int32)) (pc' := 16) w d1_14 rfl rfl ?_
          refine glshl (pc' := 17) w d1_16 rfl ?_
          refine galoadN (pc' := 18) (Ls := #[.val (.ref a), .val (.int (0 : Int32)), .val (.long ((((((((((0 : Int64) <<< ((7 : Int32) &&& 0x3f).toInt64)) ||| ((b0 &&& (127 : Int32)).toInt64)) <<< ((7 : Int32) &&& 0x3f).toInt64)) ||| ((b1 &&& (127 : Int32)).toInt64)) <<< ((7 : Int32) &&& 0x3f).toInt64)) ||| ((b2 &&& (127 : Int32)).toInt64))), .second, .val (.int (3 : Int32))]) (rest := [(.long ((((((((((((0 : Int64) <<< ((7 : Int32) &&& 0x3f).toInt64)) ||| ((b0 &&& (127 : Int32)).toInt64)) <<< ((7 : Int32) &&& 0x3f).toInt64)) ||| ((b1 &&& (127 : Int32)).toInt64)) <<< ((7 : Int32) &&& 0x3f).toInt64)) ||| ((b2 &&& (127 : Int32)).toInt64)) <<< ((7 : Int32) &&& 0x3f).toInt64)))]) w d1_17 rfl rfl rfl ?_
          refine giload (pc' := 20) (Ls := #[.val (.ref a), .val (.int (0 : Int32)), .val (.long ((((((((((0 : Int64) <<< ((7 : Int32) &&& 0x3f).toInt64)) ||| ((b0 &&& (127 : Int32)).toInt64)) <<< ((7 : Int32) &&& 0x3f).toInt64)) ||| ((b1 &&& (127 : Int32)).toInt64)) <<< ((7 : Int32) &&& 0x3f).toInt64)) ||| ((b2 &&& (127 : Int32)).toInt64))), .second, .val (.int (3 : Int32))]) (rest := [(.ref a), (.long ((((((((((((0 : Int64) <<< ((7 : Int32) &&& 0x3f).toInt64)) ||| ((b0 &&& (127 : Int32)).toInt64)) <<< ((7 : Int32) &&& 0x3f).toInt64)) ||| ((b1 &&& (127 : Int32)).toInt64)) <<< ((7 : Int32) &&& 0x3f).toInt64)) ||| ((b2 &&& (127 : Int32)).toInt64)) <<< ((7 : Int32) &&& 0x3f).toInt64)))]) w d1_18 rfl rfl ?_
          refine gbaload (pc' := 21) (v := (.int b3)) w d1_20 V (by decide) v3 rfl ?_
          refine gbipush (v := (127 : Int32)) (pc' := 23) w d1_21 rfl rfl ?_
          refine giand (pc' := 24) w d1_23 rfl ?_
          refine gi2l (pc' := 25) w d1_24 rfl ?_
          refine glor (pc' := 26) w d1_25 rfl ?_
          refine glstoreN (pc' := 27) (Ls := #[.val (.ref a), .val (.int (0 : Int32)), .val (.long ((((((((((0 : Int64) <<< ((7 : Int32) &&& 0x3f).toInt64)) ||| ((b0 &&& (127 : Int32)).toInt64)) <<< ((7 : Int32) &&& 0x3f).toInt64)) ||| ((b1 &&& (127 : Int32)).toInt64)) <<< ((7 : Int32) &&& 0x3f).toInt64)) ||| ((b2 &&& (127 : Int32)).toInt64))), .second, .val (.int (3 : Int32))]) (Ls' := #[.val (.ref a), .val (.int (0 : Int32)), .val (.long (((((((((((((0 : Int64) <<< ((7 : Int32) &&& 0x3f).toInt64)) ||| ((b0 &&& (127 : Int32)).toInt64)) <<< ((7 : Int32) &&& 0x3f).toInt64)) ||| ((b1 &&& (127 : Int32)).toInt64)) <<< ((7 : Int32) &&& 0x3f).toInt64)) ||| ((b2 &&& (127 : Int32)).toInt64)) <<< ((7 : Int32) &&& 0x3f).toInt64)) ||| ((b3 &&& (127 : Int32)).toInt64))), .second, .val (.int (3 : Int32))]) (rest := []) w d1_26 rfl rfl ?_
          refine giinc (pc' := 30) (Ls := #[.val (.ref a), .val (.int (0 : Int32)), .val (.long (((((((((((((0 : Int64) <<< ((7 : Int32) &&& 0x3f).toInt64)) ||| ((b0 &&& (127 : Int32)).toInt64)) <<< ((7 : Int32) &&& 0x3f).toInt64)) ||| ((b1 &&& (127 : Int32)).toInt64)) <<< ((7 : Int32) &&& 0x3f).toInt64)) ||| ((b2 &&& (127 : Int32)).toInt64)) <<< ((7 : Int32) &&& 0x3f).toInt64)) ||| ((b3 &&& (127 : Int32)).toInt64))), .second, .val (.int (3 : Int32))]) (Ls' := #[.val (.ref a), .val (.int (0 : Int32)), .val (.long (((((((((((((0 : Int64) <<< ((7 : Int32) &&& 0x3f).toInt64)) ||| ((b0 &&& (127 : Int32)).toInt64)) <<< ((7 : Int32) &&& 0x3f).toInt64)) ||| ((b1 &&& (127 : Int32)).toInt64)) <<< ((7 : Int32) &&& 0x3f).toInt64)) ||| ((b2 &&& (127 : Int32)).toInt64)) <<< ((7 : Int32) &&& 0x3f).toInt64)) ||| ((b3 &&& (127 : Int32)).toInt64))), .second, .val (.int (4 : Int32))]) (rest := []) w d1_27 rfl rfl rfl ?_
          refine ggoto (pc' := 5) w d1_30 (by decide) rfl ?_
          refine giload (pc' := 7) (Ls := #[.val (.ref a), .val (.int (0 : Int32)), .val (.long (((((((((((((0 : Int64) <<< ((7 : Int32) &&& 0x3f).toInt64)) ||| ((b0 &&& (127 : Int32)).toInt64)) <<< ((7 : Int32) &&& 0x3f).toInt64)) ||| ((b1 &&& (127 : Int32)).toInt64)) <<< ((7 : Int32) &&& 0x3f).toInt64)) ||| ((b2 &&& (127 : Int32)).toInt64)) <<< ((7 : Int32) &&& 0x3f).toInt64)) ||| ((b3 &&& (127 : Int32)).toInt64))), .second, .val (.int (4 : Int32))]) (rest := []) w d1_5 rfl rfl ?_
          refine giloadN (pc' := 8) (Ls := #[.val (.ref a), .val (.int (0 : Int32)), .val (.long (((((((((((((0 : Int64) <<< ((7 : Int32) &&& 0x3f).toInt64)) ||| ((b0 &&& (127 : Int32)).toInt64)) <<< ((7 : Int32) &&& 0x3f).toInt64)) ||| ((b1 &&& (127 : Int32)).toInt64)) <<< ((7 : Int32) &&& 0x3f).toInt64)) ||| ((b2 &&& (127 : Int32)).toInt64)) <<< ((7 : Int32) &&& 0x3f).toInt64)) ||| ((b3 &&& (127 : Int32)).toInt64))), .second, .val (.int (4 : Int32))]) (rest := [(.int (4 : Int32))]) w d1_7 rfl rfl ?_
          refine giconst (v := (4 : Int32)) (pc' := 9) w d1_8 rfl rfl ?_
          refine giadd (pc' := 10) w d1_9 rfl ?_
          refine gicmp (pt := 33) (pf := 13) w d1_10  (by decide) rfl rfl (fun (c10_4 : ¬ (4 : Int32) < ((0 : Int32) + (4 : Int32))) => ?_) (fun (c10_4 : (4 : Int32) < ((0 : Int32) + (4 : Int32))) => ?_)
          · refine glloadN (pc' := 34) (Ls := #[.val (.ref a), .val (.int (0 : Int32)), .val (.long (((((((((((((0 : Int64) <<< ((7 : Int32) &&& 0x3f).toInt64)) ||| ((b0 &&& (127 : Int32)).toInt64)) <<< ((7 : Int32) &&& 0x3f).toInt64)) ||| ((b1 &&& (127 : Int32)).toInt64)) <<< ((7 : Int32) &&& 0x3f).toInt64)) ||| ((b2 &&& (127 : Int32)).toInt64)) <<< ((7 : Int32) &&& 0x3f).toInt64)) ||| ((b3 &&& (127 : Int32)).toInt64))), .second, .val (.int (4 : Int32))]) (rest := []) w d1_33 rfl rfl ?_
            exact gretJ w d1_34 (by decide) (by decide) ⟨rfl, rfl⟩
          · exact absurd c10_4 (by decide)
set_option maxRecDepth 65536 in
set_option maxHeartbeats 4000000 in
theorem own_c1 (hw : ∀ d ∈ tables_1, d.before a0 Z = true) (a : Addr) (ka : ClassId) (vs : List Value) (dv : Value) (b0 b1 b2 b3 : Int32) (V : Arv Z h a ka .byte (7 : Int32) vs dv) (v0 : vs.getD (1 : Int32).toNatClampNeg dv = .int b0) (v1 : vs.getD (2 : Int32).toNatClampNeg dv = .int b1) (v2 : vs.getD (3 : Int32).toNatClampNeg dv = .int b2) (v3 : vs.getD (4 : Int32).toNatClampNeg dv = .int b3) :
    Ctr l (⟨"com/example/kindred/kindred/index/Id3v2", "synchsafe", "([BI)J"⟩ : MethodName) prog_22_method_8_code 5 (some .long) ({ frames := 0, cells := 0, slots := 0, locals := 0 } : Room) Z #[(.ref a), (.int (1 : Int32))] h n0 (fun v h' => v = some (.long (own_acc b0 b1 b2 b3)) ∧ h' = h) [] := by
  refine metGo (Ls := #[.val (.ref a), .val (.int (1 : Int32)), .unset, .unset, .unset]) pn_d1 (fun m => by first | rfl | (simp [entryFrame, mkF, argsToLocals, Value.category]; done) | (simp [entryFrame, mkF, argsToLocals, Value.category, maxLocals]; done)) ?_
  intro p e s m below meth c T w
  refine glconst (v := (0 : Int64)) (pc' := 1) w d1_0 rfl rfl ?_
  refine glstoreN (pc' := 2) (Ls := #[.val (.ref a), .val (.int (1 : Int32)), .unset, .unset, .unset]) (Ls' := #[.val (.ref a), .val (.int (1 : Int32)), .val (.long (0 : Int64)), .second, .unset]) (rest := []) w d1_1 rfl rfl ?_
  refine giloadN (pc' := 3) (Ls := #[.val (.ref a), .val (.int (1 : Int32)), .val (.long (0 : Int64)), .second, .unset]) (rest := []) w d1_2 rfl rfl ?_
  refine gistore (pc' := 5) (Ls := #[.val (.ref a), .val (.int (1 : Int32)), .val (.long (0 : Int64)), .second, .unset]) (Ls' := #[.val (.ref a), .val (.int (1 : Int32)), .val (.long (0 : Int64)), .second, .val (.int (1 : Int32))]) (rest := []) w d1_3 rfl rfl ?_
  refine giload (pc' := 7) (Ls := #[.val (.ref a), .val (.int (1 : Int32)), .val (.long (0 : Int64)), .second, .val (.int (1 : Int32))]) (rest := []) w d1_5 rfl rfl ?_
  refine giloadN (pc' := 8) (Ls := #[.val (.ref a), .val (.int (1 : Int32)), .val (.long (0 : Int64)), .second, .val (.int (1 : Int32))]) (rest := [(.int (1 : Int32))]) w d1_7 rfl rfl ?_
  refine giconst (v := (4 : Int32)) (pc' := 9) w d1_8 rfl rfl ?_
  refine giadd (pc' := 10) w d1_9 rfl ?_
  refine gicmp (pt := 33) (pf := 13) w d1_10  (by decide) rfl rfl (fun (c10 : ¬ (1 : Int32) < ((1 : Int32) + (4 : Int32))) => ?_) (fun (c10 : (1 : Int32) < ((1 : Int32) + (4 : Int32))) => ?_)
  · exact absurd c10 (by decide)
  · refine glloadN (pc' := 14) (Ls := #[.val (.ref a), .val (.int (1 : Int32)), .val (.long (0 : Int64)), .second, .val (.int (1 : Int32))]) (rest := []) w d1_13 rfl rfl ?_
    refine gbipush (v := (7 : Int32)) (pc' := 16) w d1_14 rfl rfl ?_
    refine glshl (pc' := 17) w d1_16 rfl ?_
    refine galoadN (pc' := 18) (Ls := #[.val (.ref a), .val (.int (1 : Int32)), .val (.long (0 : Int64)), .second, .val (.int (1 : Int32))]) (rest := [(.long (((0 : Int64) <<< ((7 : Int32) &&& 0x3f).toInt64)))]) w d1_17 rfl rfl rfl ?_
    refine giload (pc' := 20) (Ls := #[.val (.ref a), .val (.int (1 : Int32)), .val (.long (0 : Int64)), .second, .val (.int (1 : Int32))]) (rest := [(.ref a), (.long (((0 : Int64) <<< ((7 : Int32) &&& 0x3f).toInt64)))]) w d1_18 rfl rfl ?_
    refine gbaload (pc' := 21) (v := (.int b0)) w d1_20 V (by decide) v0 rfl ?_
    refine gbipush (v := (127 : Int32)) (pc' := 23) w d1_21 rfl rfl ?_
    refine giand (pc' := 24) w d1_23 rfl ?_
    refine gi2l (pc' := 25) w d1_24 rfl ?_
    refine glor (pc' := 26) w d1_25 rfl ?_
    refine glstoreN (pc' := 27) (Ls := #[.val (.ref a), .val (.int (1 : Int32)), .val (.long (0 : Int64)), .second, .val (.int (1 : Int32))]) (Ls' := #[.val (.ref a), .val (.int (1 : Int32)), .val (.long ((((0 : Int64) <<< ((7 : Int32) &&& 0x3f).toInt64)) ||| ((b0 &&& (127 : Int32)).toInt64))), .second, .val (.int (1 : Int32))]) (rest := []) w d1_26 rfl rfl ?_
    refine giinc (pc' := 30) (Ls := #[.val (.ref a), .val (.int (1 : Int32)), .val (.long ((((0 : Int64) <<< ((7 : Int32) &&& 0x3f).toInt64)) ||| ((b0 &&& (127 : Int32)).toInt64))), .second, .val (.int (1 : Int32))]) (Ls' := #[.val (.ref a), .val (.int (1 : Int32)), .val (.long ((((0 : Int64) <<< ((7 : Int32) &&& 0x3f).toInt64)) ||| ((b0 &&& (127 : Int32)).toInt64))), .second, .val (.int (2 : Int32))]) (rest := []) w d1_27 rfl rfl rfl ?_
    refine ggoto (pc' := 5) w d1_30 (by decide) rfl ?_
    refine giload (pc' := 7) (Ls := #[.val (.ref a), .val (.int (1 : Int32)), .val (.long ((((0 : Int64) <<< ((7 : Int32) &&& 0x3f).toInt64)) ||| ((b0 &&& (127 : Int32)).toInt64))), .second, .val (.int (2 : Int32))]) (rest := []) w d1_5 rfl rfl ?_
    refine giloadN (pc' := 8) (Ls := #[.val (.ref a), .val (.int (1 : Int32)), .val (.long ((((0 : Int64) <<< ((7 : Int32) &&& 0x3f).toInt64)) ||| ((b0 &&& (127 : Int32)).toInt64))), .second, .val (.int (2 : Int32))]) (rest := [(.int (2 : Int32))]) w d1_7 rfl rfl ?_
    refine giconst (v := (4 : Int32)) (pc' := 9) w d1_8 rfl rfl ?_
    refine giadd (pc' := 10) w d1_9 rfl ?_
    refine gicmp (pt := 33) (pf := 13) w d1_10  (by decide) rfl rfl (fun (c10_1 : ¬ (2 : Int32) < ((1 : Int32) + (4 : Int32))) => ?_) (fun (c10_1 : (2 : Int32) < ((1 : Int32) + (4 : Int32))) => ?_)
    · exact absurd c10_1 (by decide)
    · refine glloadN (pc' := 14) (Ls := #[.val (.ref a), .val (.int (1 : Int32)), .val (.long ((((0 : Int64) <<< ((7 : Int32) &&& 0x3f).toInt64)) ||| ((b0 &&& (127 : Int32)).toInt64))), .second, .val (.int (2 : Int32))]) (rest := []) w d1_13 rfl rfl ?_
      refine gbipush (v := (7 : Int32)) (pc' := 16) w d1_14 rfl rfl ?_
      refine glshl (pc' := 17) w d1_16 rfl ?_
      refine galoadN (pc' := 18) (Ls := #[.val (.ref a), .val (.int (1 : Int32)), .val (.long ((((0 : Int64) <<< ((7 : Int32) &&& 0x3f).toInt64)) ||| ((b0 &&& (127 : Int32)).toInt64))), .second, .val (.int (2 : Int32))]) (rest := [(.long ((((((0 : Int64) <<< ((7 : Int32) &&& 0x3f).toInt64)) ||| ((b0 &&& (127 : Int32)).toInt64)) <<< ((7 : Int32) &&& 0x3f).toInt64)))]) w d1_17 rfl rfl rfl ?_
      refine giload (pc' := 20) (Ls := #[.val (.ref a), .val (.int (1 : Int32)), .val (.long ((((0 : Int64) <<< ((7 : Int32) &&& 0x3f).toInt64)) ||| ((b0 &&& (127 : Int32)).toInt64))), .second, .val (.int (2 : Int32))]) (rest := [(.ref a), (.long ((((((0 : Int64) <<< ((7 : Int32) &&& 0x3f).toInt64)) ||| ((b0 &&& (127 : Int32)).toInt64)) <<< ((7 : Int32) &&& 0x3f).toInt64)))]) w d1_18 rfl rfl ?_
      refine gbaload (pc' := 21) (v := (.int b1)) w d1_20 V (by decide) v1 rfl ?_
      refine gbipush (v := (127 : Int32)) (pc' := 23) w d1_21 rfl rfl ?_
      refine giand (pc' := 24) w d1_23 rfl ?_
      refine gi2l (pc' := 25) w d1_24 rfl ?_
      refine glor (pc' := 26) w d1_25 rfl ?_
      refine glstoreN (pc' := 27) (Ls := #[.val (.ref a), .val (.int (1 : Int32)), .val (.long ((((0 : Int64) <<< ((7 : Int32) &&& 0x3f).toInt64)) ||| ((b0 &&& (127 : Int32)).toInt64))), .second, .val (.int (2 : Int32))]) (Ls' := #[.val (.ref a), .val (.int (1 : Int32)), .val (.long (((((((0 : Int64) <<< ((7 : Int32) &&& 0x3f).toInt64)) ||| ((b0 &&& (127 : Int32)).toInt64)) <<< ((7 : Int32) &&& 0x3f).toInt64)) ||| ((b1 &&& (127 : Int32)).toInt64))), .second, .val (.int (2 : Int32))]) (rest := []) w d1_26 rfl rfl ?_
      refine giinc (pc' := 30) (Ls := #[.val (.ref a), .val (.int (1 : Int32)), .val (.long (((((((0 : Int64) <<< ((7 : Int32) &&& 0x3f).toInt64)) ||| ((b0 &&& (127 : Int32)).toInt64)) <<< ((7 : Int32) &&& 0x3f).toInt64)) ||| ((b1 &&& (127 : Int32)).toInt64))), .second, .val (.int (2 : Int32))]) (Ls' := #[.val (.ref a), .val (.int (1 : Int32)), .val (.long (((((((0 : Int64) <<< ((7 : Int32) &&& 0x3f).toInt64)) ||| ((b0 &&& (127 : Int32)).toInt64)) <<< ((7 : Int32) &&& 0x3f).toInt64)) ||| ((b1 &&& (127 : Int32)).toInt64))), .second, .val (.int (3 : Int32))]) (rest := []) w d1_27 rfl rfl rfl ?_
      refine ggoto (pc' := 5) w d1_30 (by decide) rfl ?_
      refine giload (pc' := 7) (Ls := #[.val (.ref a), .val (.int (1 : Int32)), .val (.long (((((((0 : Int64) <<< ((7 : Int32) &&& 0x3f).toInt64)) ||| ((b0 &&& (127 : Int32)).toInt64)) <<< ((7 : Int32) &&& 0x3f).toInt64)) ||| ((b1 &&& (127 : Int32)).toInt64))), .second, .val (.int (3 : Int32))]) (rest := []) w d1_5 rfl rfl ?_
      refine giloadN (pc' := 8) (Ls := #[.val (.ref a), .val (.int (1 : Int32)), .val (.long (((((((0 : Int64) <<< ((7 : Int32) &&& 0x3f).toInt64)) ||| ((b0 &&& (127 : Int32)).toInt64)) <<< ((7 : Int32) &&& 0x3f).toInt64)) ||| ((b1 &&& (127 : Int32)).toInt64))), .second, .val (.int (3 : Int32))]) (rest := [(.int (3 : Int32))]) w d1_7 rfl rfl ?_
      refine giconst (v := (4 : Int32)) (pc' := 9) w d1_8 rfl rfl ?_
      refine giadd (pc' := 10) w d1_9 rfl ?_
      refine gicmp (pt := 33) (pf := 13) w d1_10  (by decide) rfl rfl (fun (c10_2 : ¬ (3 : Int32) < ((1 : Int32) + (4 : Int32))) => ?_) (fun (c10_2 : (3 : Int32) < ((1 : Int32) + (4 : Int32))) => ?_)
      · exact absurd c10_2 (by decide)
      · refine glloadN (pc' := 14) (Ls := #[.val (.ref a), .val (.int (1 : Int32)), .val (.long (((((((0 : Int64) <<< ((7 : Int32) &&& 0x3f).toInt64)) ||| ((b0 &&& (127 : Int32)).toInt64)) <<< ((7 : Int32) &&& 0x3f).toInt64)) ||| ((b1 &&& (127 : Int32)).toInt64))), .second, .val (.int (3 : Int32))]) (rest := []) w d1_13 rfl rfl ?_
        refine gbipush (v := (7 : Int32)) (pc' := 16) w d1_14 rfl rfl ?_
        refine glshl (pc' := 17) w d1_16 rfl ?_
        refine galoadN (pc' := 18) (Ls := #[.val (.ref a), .val (.int (1 : Int32)), .val (.long (((((((0 : Int64) <<< ((7 : Int32) &&& 0x3f).toInt64)) ||| ((b0 &&& (127 : Int32)).toInt64)) <<< ((7 : Int32) &&& 0x3f).toInt64)) ||| ((b1 &&& (127 : Int32)).toInt64))), .second, .val (.int (3 : Int32))]) (rest := [(.long (((((((((0 : Int64) <<< ((7 : Int32) &&& 0x3f).toInt64)) ||| ((b0 &&& (127 : Int32)).toInt64)) <<< ((7 : Int32) &&& 0x3f).toInt64)) ||| ((b1 &&& (127 : Int32)).toInt64)) <<< ((7 : Int32) &&& 0x3f).toInt64)))]) w d1_17 rfl rfl rfl ?_
        refine giload (pc' := 20) (Ls := #[.val (.ref a), .val (.int (1 : Int32)), .val (.long (((((((0 : Int64) <<< ((7 : Int32) &&& 0x3f).toInt64)) ||| ((b0 &&& (127 : Int32)).toInt64)) <<< ((7 : Int32) &&& 0x3f).toInt64)) ||| ((b1 &&& (127 : Int32)).toInt64))), .second, .val (.int (3 : Int32))]) (rest := [(.ref a), (.long (((((((((0 : Int64) <<< ((7 : Int32) &&& 0x3f).toInt64)) ||| ((b0 &&& (127 : Int32)).toInt64)) <<< ((7 : Int32) &&& 0x3f).toInt64)) ||| ((b1 &&& (127 : Int32)).toInt64)) <<< ((7 : Int32) &&& 0x3f).toInt64)))]) w d1_18 rfl rfl ?_
        refine gbaload (pc' := 21) (v := (.int b2)) w d1_20 V (by decide) v2 rfl ?_
        refine gbipush (v := (127 : Int32)) (pc' := 23) w d1_21 rfl rfl ?_
        refine giand (pc' := 24) w d1_23 rfl ?_
        refine gi2l (pc' := 25) w d1_24 rfl ?_
        refine glor (pc' := 26) w d1_25 rfl ?_
        refine glstoreN (pc' := 27) (Ls := #[.val (.ref a), .val (.int (1 : Int32)), .val (.long (((((((0 : Int64) <<< ((7 : Int32) &&& 0x3f).toInt64)) ||| ((b0 &&& (127 : Int32)).toInt64)) <<< ((7 : Int32) &&& 0x3f).toInt64)) ||| ((b1 &&& (127 : Int32)).toInt64))), .second, .val (.int (3 : Int32))]) (Ls' := #[.val (.ref a), .val (.int (1 : Int32)), .val (.long ((((((((((0 : Int64) <<< ((7 : Int32) &&& 0x3f).toInt64)) ||| ((b0 &&& (127 : Int32)).toInt64)) <<< ((7 : Int32) &&& 0x3f).toInt64)) ||| ((b1 &&& (127 : Int32)).toInt64)) <<< ((7 : Int32) &&& 0x3f).toInt64)) ||| ((b2 &&& (127 : Int32)).toInt64))), .second, .val (.int (3 : Int32))]) (rest := []) w d1_26 rfl rfl ?_
        refine giinc (pc' := 30) (Ls := #[.val (.ref a), .val (.int (1 : Int32)), .val (.long ((((((((((0 : Int64) <<< ((7 : Int32) &&& 0x3f).toInt64)) ||| ((b0 &&& (127 : Int32)).toInt64)) <<< ((7 : Int32) &&& 0x3f).toInt64)) ||| ((b1 &&& (127 : Int32)).toInt64)) <<< ((7 : Int32) &&& 0x3f).toInt64)) ||| ((b2 &&& (127 : Int32)).toInt64))), .second, .val (.int (3 : Int32))]) (Ls' := #[.val (.ref a), .val (.int (1 : Int32)), .val (.long ((((((((((0 : Int64) <<< ((7 : Int32) &&& 0x3f).toInt64)) ||| ((b0 &&& (127 : Int32)).toInt64)) <<< ((7 : Int32) &&& 0x3f).toInt64)) ||| ((b1 &&& (127 : Int32)).toInt64)) <<< ((7 : Int32) &&& 0x3f).toInt64)) ||| ((b2 &&& (127 : Int32)).toInt64))), .second, .val (.int (4 : Int32))]) (rest := []) w d1_27 rfl rfl rfl ?_
        refine ggoto (pc' := 5) w d1_30 (by decide) rfl ?_
        refine giload (pc' := 7) (Ls := #[.val (.ref a), .val (.int (1 : Int32)), .val (.long ((((((((((0 : Int64) <<< ((7 : Int32) &&& 0x3f).toInt64)) ||| ((b0 &&& (127 : Int32)).toInt64)) <<< ((7 : Int32) &&& 0x3f).toInt64)) ||| ((b1 &&& (127 : Int32)).toInt64)) <<< ((7 : Int32) &&& 0x3f).toInt64)) ||| ((b2 &&& (127 : Int32)).toInt64))), .second, .val (.int (4 : Int32))]) (rest := []) w d1_5 rfl rfl ?_
        refine giloadN (pc' := 8) (Ls := #[.val (.ref a), .val (.int (1 : Int32)), .val (.long ((((((((((0 : Int64) <<< ((7 : Int32) &&& 0x3f).toInt64)) ||| ((b0 &&& (127 : Int32)).toInt64)) <<< ((7 : Int32) &&& 0x3f).toInt64)) ||| ((b1 &&& (127 : Int32)).toInt64)) <<< ((7 : Int32) &&& 0x3f).toInt64)) ||| ((b2 &&& (127 : Int32)).toInt64))), .second, .val (.int (4 : Int32))]) (rest := [(.int (4 : Int32))]) w d1_7 rfl rfl ?_
        refine giconst (v := (4 : Int32)) (pc' := 9) w d1_8 rfl rfl ?_
        refine giadd (pc' := 10) w d1_9 rfl ?_
        refine gicmp (pt := 33) (pf := 13) w d1_10  (by decide) rfl rfl (fun (c10_3 : ¬ (4 : Int32) < ((1 : Int32) + (4 : Int32))) => ?_) (fun (c10_3 : (4 : Int32) < ((1 : Int32) + (4 : Int32))) => ?_)
        · exact absurd c10_3 (by decide)
        · refine glloadN (pc' := 14) (Ls := #[.val (.ref a), .val (.int (1 : Int32)), .val (.long ((((((((((0 : Int64) <<< ((7 : Int32) &&& 0x3f).toInt64)) ||| ((b0 &&& (127 : Int32)).toInt64)) <<< ((7 : Int32) &&& 0x3f).toInt64)) ||| ((b1 &&& (127 : Int32)).toInt64)) <<< ((7 : Int32) &&& 0x3f).toInt64)) ||| ((b2 &&& (127 : Int32)).toInt64))), .second, .val (.int (4 : Int32))]) (rest := []) w d1_13 rfl rfl ?_
          refine gbipush (v := (7 : Int32)) (pc' := 16) w d1_14 rfl rfl ?_
          refine glshl (pc' := 17) w d1_16 rfl ?_
          refine galoadN (pc' := 18) (Ls := #[.val (.ref a), .val (.int (1 : Int32)), .val (.long ((((((((((0 : Int64) <<< ((7 : Int32) &&& 0x3f).toInt64)) ||| ((b0 &&& (127 : Int32)).toInt64)) <<< ((7 : Int32) &&& 0x3f).toInt64)) ||| ((b1 &&& (127 : Int32)).toInt64)) <<< ((7 : Int32) &&& 0x3f).toInt64)) ||| ((b2 &&& (127 : Int32)).toInt64))), .second, .val (.int (4 : Int32))]) (rest := [(.long ((((((((((((0 : Int64) <<< ((7 : Int32) &&& 0x3f).toInt64)) ||| ((b0 &&& (127 : Int32)).toInt64)) <<< ((7 : Int32) &&& 0x3f).toInt64)) ||| ((b1 &&& (127 : Int32)).toInt64)) <<< ((7 : Int32) &&& 0x3f).toInt64)) ||| ((b2 &&& (127 : Int32)).toInt64)) <<< ((7 : Int32) &&& 0x3f).toInt64)))]) w d1_17 rfl rfl rfl ?_
          refine giload (pc' := 20) (Ls := #[.val (.ref a), .val (.int (1 : Int32)), .val (.long ((((((((((0 : Int64) <<< ((7 : Int32) &&& 0x3f).toInt64)) ||| ((b0 &&& (127 : Int32)).toInt64)) <<< ((7 : Int32) &&& 0x3f).toInt64)) ||| ((b1 &&& (127 : Int32)).toInt64)) <<< ((7 : Int32) &&& 0x3f).toInt64)) ||| ((b2 &&& (127 : Int32)).toInt64))), .second, .val (.int (4 : Int32))]) (rest := [(.ref a), (.long ((((((((((((0 : Int64) <<< ((7 : Int32) &&& 0x3f).toInt64)) ||| ((b0 &&& (127 : Int32)).toInt64)) <<< ((7 : Int32) &&& 0x3f).toInt64)) ||| ((b1 &&& (127 : Int32)).toInt64)) <<< ((7 : Int32) &&& 0x3f).toInt64)) ||| ((b2 &&& (127 : Int32)).toInt64)) <<< ((7 : Int32) &&& 0x3f).toInt64)))]) w d1_18 rfl rfl ?_
          refine gbaload (pc' := 21) (v := (.int b3)) w d1_20 V (by decide) v3 rfl ?_
          refine gbipush (v := (127 : Int32)) (pc' := 23) w d1_21 rfl rfl ?_
          refine giand (pc' := 24) w d1_23 rfl ?_
          refine gi2l (pc' := 25) w d1_24 rfl ?_
          refine glor (pc' := 26) w d1_25 rfl ?_
          refine glstoreN (pc' := 27) (Ls := #[.val (.ref a), .val (.int (1 : Int32)), .val (.long ((((((((((0 : Int64) <<< ((7 : Int32) &&& 0x3f).toInt64)) ||| ((b0 &&& (127 : Int32)).toInt64)) <<< ((7 : Int32) &&& 0x3f).toInt64)) ||| ((b1 &&& (127 : Int32)).toInt64)) <<< ((7 : Int32) &&& 0x3f).toInt64)) ||| ((b2 &&& (127 : Int32)).toInt64))), .second, .val (.int (4 : Int32))]) (Ls' := #[.val (.ref a), .val (.int (1 : Int32)), .val (.long (((((((((((((0 : Int64) <<< ((7 : Int32) &&& 0x3f).toInt64)) ||| ((b0 &&& (127 : Int32)).toInt64)) <<< ((7 : Int32) &&& 0x3f).toInt64)) ||| ((b1 &&& (127 : Int32)).toInt64)) <<< ((7 : Int32) &&& 0x3f).toInt64)) ||| ((b2 &&& (127 : Int32)).toInt64)) <<< ((7 : Int32) &&& 0x3f).toInt64)) ||| ((b3 &&& (127 : Int32)).toInt64))), .second, .val (.int (4 : Int32))]) (rest := []) w d1_26 rfl rfl ?_
          refine giinc (pc' := 30) (Ls := #[.val (.ref a), .val (.int (1 : Int32)), .val (.long (((((((((((((0 : Int64) <<< ((7 : Int32) &&& 0x3f).toInt64)) ||| ((b0 &&& (127 : Int32)).toInt64)) <<< ((7 : Int32) &&& 0x3f).toInt64)) ||| ((b1 &&& (127 : Int32)).toInt64)) <<< ((7 : Int32) &&& 0x3f).toInt64)) ||| ((b2 &&& (127 : Int32)).toInt64)) <<< ((7 : Int32) &&& 0x3f).toInt64)) ||| ((b3 &&& (127 : Int32)).toInt64))), .second, .val (.int (4 : Int32))]) (Ls' := #[.val (.ref a), .val (.int (1 : Int32)), .val (.long (((((((((((((0 : Int64) <<< ((7 : Int32) &&& 0x3f).toInt64)) ||| ((b0 &&& (127 : Int32)).toInt64)) <<< ((7 : Int32) &&& 0x3f).toInt64)) ||| ((b1 &&& (127 : Int32)).toInt64)) <<< ((7 : Int32) &&& 0x3f).toInt64)) ||| ((b2 &&& (127 : Int32)).toInt64)) <<< ((7 : Int32) &&& 0x3f).toInt64)) ||| ((b3 &&& (127 : Int32)).toInt64))), .second, .val (.int (5 : Int32))]) (rest := []) w d1_27 rfl rfl rfl ?_
          refine ggoto (pc' := 5) w d1_30 (by decide) rfl ?_
          refine giload (pc' := 7) (Ls := #[.val (.ref a), .val (.int (1 : Int32)), .val (.long (((((((((((((0 : Int64) <<< ((7 : Int32) &&& 0x3f).toInt64)) ||| ((b0 &&& (127 : Int32)).toInt64)) <<< ((7 : Int32) &&& 0x3f).toInt64)) ||| ((b1 &&& (127 : Int32)).toInt64)) <<< ((7 : Int32) &&& 0x3f).toInt64)) ||| ((b2 &&& (127 : Int32)).toInt64)) <<< ((7 : Int32) &&& 0x3f).toInt64)) ||| ((b3 &&& (127 : Int32)).toInt64))), .second, .val (.int (5 : Int32))]) (rest := []) w d1_5 rfl rfl ?_
          refine giloadN (pc' := 8) (Ls := #[.val (.ref a), .val (.int (1 : Int32)), .val (.long (((((((((((((0 : Int64) <<< ((7 : Int32) &&& 0x3f).toInt64)) ||| ((b0 &&& (127 : Int32)).toInt64)) <<< ((7 : Int32) &&& 0x3f).toInt64)) ||| ((b1 &&& (127 : Int32)).toInt64)) <<< ((7 : Int32) &&& 0x3f).toInt64)) ||| ((b2 &&& (127 : Int32)).toInt64)) <<< ((7 : Int32) &&& 0x3f).toInt64)) ||| ((b3 &&& (127 : Int32)).toInt64))), .second, .val (.int (5 : Int32))]) (rest := [(.int (5 : Int32))]) w d1_7 rfl rfl ?_
          refine giconst (v := (4 : Int32)) (pc' := 9) w d1_8 rfl rfl ?_
          refine giadd (pc' := 10) w d1_9 rfl ?_
          refine gicmp (pt := 33) (pf := 13) w d1_10  (by decide) rfl rfl (fun (c10_4 : ¬ (5 : Int32) < ((1 : Int32) + (4 : Int32))) => ?_) (fun (c10_4 : (5 : Int32) < ((1 : Int32) + (4 : Int32))) => ?_)
          · refine glloadN (pc' := 34) (Ls := #[.val (.ref a), .val (.int (1 : Int32)), .val (.long (((((((((((((0 : Int64) <<< ((7 : Int32) &&& 0x3f).toInt64)) ||| ((b0 &&& (127 : Int32)).toInt64)) <<< ((7 : Int32) &&& 0x3f).toInt64)) ||| ((b1 &&& (127 : Int32)).toInt64)) <<< ((7 : Int32) &&& 0x3f).toInt64)) ||| ((b2 &&& (127 : Int32)).toInt64)) <<< ((7 : Int32) &&& 0x3f).toInt64)) ||| ((b3 &&& (127 : Int32)).toInt64))), .second, .val (.int (5 : Int32))]) (rest := []) w d1_33 rfl rfl ?_
            exact gretJ w d1_34 (by decide) (by decide) ⟨rfl, rfl⟩
          · exact absurd c10_4 (by decide)
set_option maxRecDepth 65536 in
set_option maxHeartbeats 4000000 in
theorem own_c2 (hw : ∀ d ∈ tables_1, d.before a0 Z = true) (a : Addr) (ka : ClassId) (vs : List Value) (dv : Value) (b0 b1 b2 b3 : Int32) (V : Arv Z h a ka .byte (7 : Int32) vs dv) (v0 : vs.getD (2 : Int32).toNatClampNeg dv = .int b0) (v1 : vs.getD (3 : Int32).toNatClampNeg dv = .int b1) (v2 : vs.getD (4 : Int32).toNatClampNeg dv = .int b2) (v3 : vs.getD (5 : Int32).toNatClampNeg dv = .int b3) :
    Ctr l (⟨"com/example/kindred/kindred/index/Id3v2", "synchsafe", "([BI)J"⟩ : MethodName) prog_22_method_8_code 5 (some .long) ({ frames := 0, cells := 0, slots := 0, locals := 0 } : Room) Z #[(.ref a), (.int (2 : Int32))] h n0 (fun v h' => v = some (.long (own_acc b0 b1 b2 b3)) ∧ h' = h) [] := by
  refine metGo (Ls := #[.val (.ref a), .val (.int (2 : Int32)), .unset, .unset, .unset]) pn_d1 (fun m => by first | rfl | (simp [entryFrame, mkF, argsToLocals, Value.category]; done) | (simp [entryFrame, mkF, argsToLocals, Value.category, maxLocals]; done)) ?_
  intro p e s m below meth c T w
  refine glconst (v := (0 : Int64)) (pc' := 1) w d1_0 rfl rfl ?_
  refine glstoreN (pc' := 2) (Ls := #[.val (.ref a), .val (.int (2 : Int32)), .unset, .unset, .unset]) (Ls' := #[.val (.ref a), .val (.int (2 : Int32)), .val (.long (0 : Int64)), .second, .unset]) (rest := []) w d1_1 rfl rfl ?_
  refine giloadN (pc' := 3) (Ls := #[.val (.ref a), .val (.int (2 : Int32)), .val (.long (0 : Int64)), .second, .unset]) (rest := []) w d1_2 rfl rfl ?_
  refine gistore (pc' := 5) (Ls := #[.val (.ref a), .val (.int (2 : Int32)), .val (.long (0 : Int64)), .second, .unset]) (Ls' := #[.val (.ref a), .val (.int (2 : Int32)), .val (.long (0 : Int64)), .second, .val (.int (2 : Int32))]) (rest := []) w d1_3 rfl rfl ?_
  refine giload (pc' := 7) (Ls := #[.val (.ref a), .val (.int (2 : Int32)), .val (.long (0 : Int64)), .second, .val (.int (2 : Int32))]) (rest := []) w d1_5 rfl rfl ?_
  refine giloadN (pc' := 8) (Ls := #[.val (.ref a), .val (.int (2 : Int32)), .val (.long (0 : Int64)), .second, .val (.int (2 : Int32))]) (rest := [(.int (2 : Int32))]) w d1_7 rfl rfl ?_
  refine giconst (v := (4 : Int32)) (pc' := 9) w d1_8 rfl rfl ?_
  refine giadd (pc' := 10) w d1_9 rfl ?_
  refine gicmp (pt := 33) (pf := 13) w d1_10  (by decide) rfl rfl (fun (c10 : ¬ (2 : Int32) < ((2 : Int32) + (4 : Int32))) => ?_) (fun (c10 : (2 : Int32) < ((2 : Int32) + (4 : Int32))) => ?_)
  · exact absurd c10 (by decide)
  · refine glloadN (pc' := 14) (Ls := #[.val (.ref a), .val (.int (2 : Int32)), .val (.long (0 : Int64)), .second, .val (.int (2 : Int32))]) (rest := []) w d1_13 rfl rfl ?_
    refine gbipush (v := (7 : Int32)) (pc' := 16) w d1_14 rfl rfl ?_
    refine glshl (pc' := 17) w d1_16 rfl ?_
    refine galoadN (pc' := 18) (Ls := #[.val (.ref a), .val (.int (2 : Int32)), .val (.long (0 : Int64)), .second, .val (.int (2 : Int32))]) (rest := [(.long (((0 : Int64) <<< ((7 : Int32) &&& 0x3f).toInt64)))]) w d1_17 rfl rfl rfl ?_
    refine giload (pc' := 20) (Ls := #[.val (.ref a), .val (.int (2 : Int32)), .val (.long (0 : Int64)), .second, .val (.int (2 : Int32))]) (rest := [(.ref a), (.long (((0 : Int64) <<< ((7 : Int32) &&& 0x3f).toInt64)))]) w d1_18 rfl rfl ?_
    refine gbaload (pc' := 21) (v := (.int b0)) w d1_20 V (by decide) v0 rfl ?_
    refine gbipush (v := (127 : Int32)) (pc' := 23) w d1_21 rfl rfl ?_
    refine giand (pc' := 24) w d1_23 rfl ?_
    refine gi2l (pc' := 25) w d1_24 rfl ?_
    refine glor (pc' := 26) w d1_25 rfl ?_
    refine glstoreN (pc' := 27) (Ls := #[.val (.ref a), .val (.int (2 : Int32)), .val (.long (0 : Int64)), .second, .val (.int (2 : Int32))]) (Ls' := #[.val (.ref a), .val (.int (2 : Int32)), .val (.long ((((0 : Int64) <<< ((7 : Int32) &&& 0x3f).toInt64)) ||| ((b0 &&& (127 : Int32)).toInt64))), .second, .val (.int (2 : Int32))]) (rest := []) w d1_26 rfl rfl ?_
    refine giinc (pc' := 30) (Ls := #[.val (.ref a), .val (.int (2 : Int32)), .val (.long ((((0 : Int64) <<< ((7 : Int32) &&& 0x3f).toInt64)) ||| ((b0 &&& (127 : Int32)).toInt64))), .second, .val (.int (2 : Int32))]) (Ls' := #[.val (.ref a), .val (.int (2 : Int32)), .val (.long ((((0 : Int64) <<< ((7 : Int32) &&& 0x3f).toInt64)) ||| ((b0 &&& (127 : Int32)).toInt64))), .second, .val (.int (3 : Int32))]) (rest := []) w d1_27 rfl rfl rfl ?_
    refine ggoto (pc' := 5) w d1_30 (by decide) rfl ?_
    refine giload (pc' := 7) (Ls := #[.val (.ref a), .val (.int (2 : Int32)), .val (.long ((((0 : Int64) <<< ((7 : Int32) &&& 0x3f).toInt64)) ||| ((b0 &&& (127 : Int32)).toInt64))), .second, .val (.int (3 : Int32))]) (rest := []) w d1_5 rfl rfl ?_
    refine giloadN (pc' := 8) (Ls := #[.val (.ref a), .val (.int (2 : Int32)), .val (.long ((((0 : Int64) <<< ((7 : Int32) &&& 0x3f).toInt64)) ||| ((b0 &&& (127 : Int32)).toInt64))), .second, .val (.int (3 : Int32))]) (rest := [(.int (3 : Int32))]) w d1_7 rfl rfl ?_
    refine giconst (v := (4 : Int32)) (pc' := 9) w d1_8 rfl rfl ?_
    refine giadd (pc' := 10) w d1_9 rfl ?_
    refine gicmp (pt := 33) (pf := 13) w d1_10  (by decide) rfl rfl (fun (c10_1 : ¬ (3 : Int32) < ((2 : Int32) + (4 : Int32))) => ?_) (fun (c10_1 : (3 : Int32) < ((2 : Int32) + (4 : Int32))) => ?_)
    · exact absurd c10_1 (by decide)
    · refine glloadN (pc' := 14) (Ls := #[.val (.ref a), .val (.int (2 : Int32)), .val (.long ((((0 : Int64) <<< ((7 : Int32) &&& 0x3f).toInt64)) ||| ((b0 &&& (127 : Int32)).toInt64))), .second, .val (.int (3 : Int32))]) (rest := []) w d1_13 rfl rfl ?_
      refine gbipush (v := (7 : Int32)) (pc' := 16) w d1_14 rfl rfl ?_
      refine glshl (pc' := 17) w d1_16 rfl ?_
      refine galoadN (pc' := 18) (Ls := #[.val (.ref a), .val (.int (2 : Int32)), .val (.long ((((0 : Int64) <<< ((7 : Int32) &&& 0x3f).toInt64)) ||| ((b0 &&& (127 : Int32)).toInt64))), .second, .val (.int (3 : Int32))]) (rest := [(.long ((((((0 : Int64) <<< ((7 : Int32) &&& 0x3f).toInt64)) ||| ((b0 &&& (127 : Int32)).toInt64)) <<< ((7 : Int32) &&& 0x3f).toInt64)))]) w d1_17 rfl rfl rfl ?_
      refine giload (pc' := 20) (Ls := #[.val (.ref a), .val (.int (2 : Int32)), .val (.long ((((0 : Int64) <<< ((7 : Int32) &&& 0x3f).toInt64)) ||| ((b0 &&& (127 : Int32)).toInt64))), .second, .val (.int (3 : Int32))]) (rest := [(.ref a), (.long ((((((0 : Int64) <<< ((7 : Int32) &&& 0x3f).toInt64)) ||| ((b0 &&& (127 : Int32)).toInt64)) <<< ((7 : Int32) &&& 0x3f).toInt64)))]) w d1_18 rfl rfl ?_
      refine gbaload (pc' := 21) (v := (.int b1)) w d1_20 V (by decide) v1 rfl ?_
      refine gbipush (v := (127 : Int32)) (pc' := 23) w d1_21 rfl rfl ?_
      refine giand (pc' := 24) w d1_23 rfl ?_
      refine gi2l (pc' := 25) w d1_24 rfl ?_
      refine glor (pc' := 26) w d1_25 rfl ?_
      refine glstoreN (pc' := 27) (Ls := #[.val (.ref a), .val (.int (2 : Int32)), .val (.long ((((0 : Int64) <<< ((7 : Int32) &&& 0x3f).toInt64)) ||| ((b0 &&& (127 : Int32)).toInt64))), .second, .val (.int (3 : Int32))]) (Ls' := #[.val (.ref a), .val (.int (2 : Int32)), .val (.long (((((((0 : Int64) <<< ((7 : Int32) &&& 0x3f).toInt64)) ||| ((b0 &&& (127 : Int32)).toInt64)) <<< ((7 : Int32) &&& 0x3f).toInt64)) ||| ((b1 &&& (127 : Int32)).toInt64))), .second, .val (.int (3 : Int32))]) (rest := []) w d1_26 rfl rfl ?_
      refine giinc (pc' := 30) (Ls := #[.val (.ref a), .val (.int (2 : Int32)), .val (.long (((((((0 : Int64) <<< ((7 : Int32) &&& 0x3f).toInt64)) ||| ((b0 &&& (127 : Int32)).toInt64)) <<< ((7 : Int32) &&& 0x3f).toInt64)) ||| ((b1 &&& (127 : Int32)).toInt64))), .second, .val (.int (3 : Int32))]) (Ls' := #[.val (.ref a), .val (.int (2 : Int32)), .val (.long (((((((0 : Int64) <<< ((7 : Int32) &&& 0x3f).toInt64)) ||| ((b0 &&& (127 : Int32)).toInt64)) <<< ((7 : Int32) &&& 0x3f).toInt64)) ||| ((b1 &&& (127 : Int32)).toInt64))), .second, .val (.int (4 : Int32))]) (rest := []) w d1_27 rfl rfl rfl ?_
      refine ggoto (pc' := 5) w d1_30 (by decide) rfl ?_
      refine giload (pc' := 7) (Ls := #[.val (.ref a), .val (.int (2 : Int32)), .val (.long (((((((0 : Int64) <<< ((7 : Int32) &&& 0x3f).toInt64)) ||| ((b0 &&& (127 : Int32)).toInt64)) <<< ((7 : Int32) &&& 0x3f).toInt64)) ||| ((b1 &&& (127 : Int32)).toInt64))), .second, .val (.int (4 : Int32))]) (rest := []) w d1_5 rfl rfl ?_
      refine giloadN (pc' := 8) (Ls := #[.val (.ref a), .val (.int (2 : Int32)), .val (.long (((((((0 : Int64) <<< ((7 : Int32) &&& 0x3f).toInt64)) ||| ((b0 &&& (127 : Int32)).toInt64)) <<< ((7 : Int32) &&& 0x3f).toInt64)) ||| ((b1 &&& (127 : Int32)).toInt64))), .second, .val (.int (4 : Int32))]) (rest := [(.int (4 : Int32))]) w d1_7 rfl rfl ?_
      refine giconst (v := (4 : Int32)) (pc' := 9) w d1_8 rfl rfl ?_
      refine giadd (pc' := 10) w d1_9 rfl ?_
      refine gicmp (pt := 33) (pf := 13) w d1_10  (by decide) rfl rfl (fun (c10_2 : ¬ (4 : Int32) < ((2 : Int32) + (4 : Int32))) => ?_) (fun (c10_2 : (4 : Int32) < ((2 : Int32) + (4 : Int32))) => ?_)
      · exact absurd c10_2 (by decide)
      · refine glloadN (pc' := 14) (Ls := #[.val (.ref a), .val (.int (2 : Int32)), .val (.long (((((((0 : Int64) <<< ((7 : Int32) &&& 0x3f).toInt64)) ||| ((b0 &&& (127 : Int32)).toInt64)) <<< ((7 : Int32) &&& 0x3f).toInt64)) ||| ((b1 &&& (127 : Int32)).toInt64))), .second, .val (.int (4 : Int32))]) (rest := []) w d1_13 rfl rfl ?_
        refine gbipush (v := (7 : Int32)) (pc' := 16) w d1_14 rfl rfl ?_
        refine glshl (pc' := 17) w d1_16 rfl ?_
        refine galoadN (pc' := 18) (Ls := #[.val (.ref a), .val (.int (2 : Int32)), .val (.long (((((((0 : Int64) <<< ((7 : Int32) &&& 0x3f).toInt64)) ||| ((b0 &&& (127 : Int32)).toInt64)) <<< ((7 : Int32) &&& 0x3f).toInt64)) ||| ((b1 &&& (127 : Int32)).toInt64))), .second, .val (.int (4 : Int32))]) (rest := [(.long (((((((((0 : Int64) <<< ((7 : Int32) &&& 0x3f).toInt64)) ||| ((b0 &&& (127 : Int32)).toInt64)) <<< ((7 : Int32) &&& 0x3f).toInt64)) ||| ((b1 &&& (127 : Int32)).toInt64)) <<< ((7 : Int32) &&& 0x3f).toInt64)))]) w d1_17 rfl rfl rfl ?_
        refine giload (pc' := 20) (Ls := #[.val (.ref a), .val (.int (2 : Int32)), .val (.long (((((((0 : Int64) <<< ((7 : Int32) &&& 0x3f).toInt64)) ||| ((b0 &&& (127 : Int32)).toInt64)) <<< ((7 : Int32) &&& 0x3f).toInt64)) ||| ((b1 &&& (127 : Int32)).toInt64))), .second, .val (.int (4 : Int32))]) (rest := [(.ref a), (.long (((((((((0 : Int64) <<< ((7 : Int32) &&& 0x3f).toInt64)) ||| ((b0 &&& (127 : Int32)).toInt64)) <<< ((7 : Int32) &&& 0x3f).toInt64)) ||| ((b1 &&& (127 : Int32)).toInt64)) <<< ((7 : Int32) &&& 0x3f).toInt64)))]) w d1_18 rfl rfl ?_
        refine gbaload (pc' := 21) (v := (.int b2)) w d1_20 V (by decide) v2 rfl ?_
        refine gbipush (v := (127 : Int32)) (pc' := 23) w d1_21 rfl rfl ?_
        refine giand (pc' := 24) w d1_23 rfl ?_
        refine gi2l (pc' := 25) w d1_24 rfl ?_
        refine glor (pc' := 26) w d1_25 rfl ?_
        refine glstoreN (pc' := 27) (Ls := #[.val (.ref a), .val (.int (2 : Int32)), .val (.long (((((((0 : Int64) <<< ((7 : Int32) &&& 0x3f).toInt64)) ||| ((b0 &&& (127 : Int32)).toInt64)) <<< ((7 : Int32) &&& 0x3f).toInt64)) ||| ((b1 &&& (127 : Int32)).toInt64))), .second, .val (.int (4 : Int32))]) (Ls' := #[.val (.ref a), .val (.int (2 : Int32)), .val (.long ((((((((((0 : Int64) <<< ((7 : Int32) &&& 0x3f).toInt64)) ||| ((b0 &&& (127 : Int32)).toInt64)) <<< ((7 : Int32) &&& 0x3f).toInt64)) ||| ((b1 &&& (127 : Int32)).toInt64)) <<< ((7 : Int32) &&& 0x3f).toInt64)) ||| ((b2 &&& (127 : Int32)).toInt64))), .second, .val (.int (4 : Int32))]) (rest := []) w d1_26 rfl rfl ?_
        refine giinc (pc' := 30) (Ls := #[.val (.ref a), .val (.int (2 : Int32)), .val (.long ((((((((((0 : Int64) <<< ((7 : Int32) &&& 0x3f).toInt64)) ||| ((b0 &&& (127 : Int32)).toInt64)) <<< ((7 : Int32) &&& 0x3f).toInt64)) ||| ((b1 &&& (127 : Int32)).toInt64)) <<< ((7 : Int32) &&& 0x3f).toInt64)) ||| ((b2 &&& (127 : Int32)).toInt64))), .second, .val (.int (4 : Int32))]) (Ls' := #[.val (.ref a), .val (.int (2 : Int32)), .val (.long ((((((((((0 : Int64) <<< ((7 : Int32) &&& 0x3f).toInt64)) ||| ((b0 &&& (127 : Int32)).toInt64)) <<< ((7 : Int32) &&& 0x3f).toInt64)) ||| ((b1 &&& (127 : Int32)).toInt64)) <<< ((7 : Int32) &&& 0x3f).toInt64)) ||| ((b2 &&& (127 : Int32)).toInt64))), .second, .val (.int (5 : Int32))]) (rest := []) w d1_27 rfl rfl rfl ?_
        refine ggoto (pc' := 5) w d1_30 (by decide) rfl ?_
        refine giload (pc' := 7) (Ls := #[.val (.ref a), .val (.int (2 : Int32)), .val (.long ((((((((((0 : Int64) <<< ((7 : Int32) &&& 0x3f).toInt64)) ||| ((b0 &&& (127 : Int32)).toInt64)) <<< ((7 : Int32) &&& 0x3f).toInt64)) ||| ((b1 &&& (127 : Int32)).toInt64)) <<< ((7 : Int32) &&& 0x3f).toInt64)) ||| ((b2 &&& (127 : Int32)).toInt64))), .second, .val (.int (5 : Int32))]) (rest := []) w d1_5 rfl rfl ?_
        refine giloadN (pc' := 8) (Ls := #[.val (.ref a), .val (.int (2 : Int32)), .val (.long ((((((((((0 : Int64) <<< ((7 : Int32) &&& 0x3f).toInt64)) ||| ((b0 &&& (127 : Int32)).toInt64)) <<< ((7 : Int32) &&& 0x3f).toInt64)) ||| ((b1 &&& (127 : Int32)).toInt64)) <<< ((7 : Int32) &&& 0x3f).toInt64)) ||| ((b2 &&& (127 : Int32)).toInt64))), .second, .val (.int (5 : Int32))]) (rest := [(.int (5 : Int32))]) w d1_7 rfl rfl ?_
        refine giconst (v := (4 : Int32)) (pc' := 9) w d1_8 rfl rfl ?_
        refine giadd (pc' := 10) w d1_9 rfl ?_
        refine gicmp (pt := 33) (pf := 13) w d1_10  (by decide) rfl rfl (fun (c10_3 : ¬ (5 : Int32) < ((2 : Int32) + (4 : Int32))) => ?_) (fun (c10_3 : (5 : Int32) < ((2 : Int32) + (4 : Int32))) => ?_)
        · exact absurd c10_3 (by decide)
        · refine glloadN (pc' := 14) (Ls := #[.val (.ref a), .val (.int (2 : Int32)), .val (.long ((((((((((0 : Int64) <<< ((7 : Int32) &&& 0x3f).toInt64)) ||| ((b0 &&& (127 : Int32)).toInt64)) <<< ((7 : Int32) &&& 0x3f).toInt64)) ||| ((b1 &&& (127 : Int32)).toInt64)) <<< ((7 : Int32) &&& 0x3f).toInt64)) ||| ((b2 &&& (127 : Int32)).toInt64))), .second, .val (.int (5 : Int32))]) (rest := []) w d1_13 rfl rfl ?_
          refine gbipush (v := (7 : Int32)) (pc' := 16) w d1_14 rfl rfl ?_
          refine glshl (pc' := 17) w d1_16 rfl ?_
          refine galoadN (pc' := 18) (Ls := #[.val (.ref a), .val (.int (2 : Int32)), .val (.long ((((((((((0 : Int64) <<< ((7 : Int32) &&& 0x3f).toInt64)) ||| ((b0 &&& (127 : Int32)).toInt64)) <<< ((7 : Int32) &&& 0x3f).toInt64)) ||| ((b1 &&& (127 : Int32)).toInt64)) <<< ((7 : Int32) &&& 0x3f).toInt64)) ||| ((b2 &&& (127 : Int32)).toInt64))), .second, .val (.int (5 : Int32))]) (rest := [(.long ((((((((((((0 : Int64) <<< ((7 : Int32) &&& 0x3f).toInt64)) ||| ((b0 &&& (127 : Int32)).toInt64)) <<< ((7 : Int32) &&& 0x3f).toInt64)) ||| ((b1 &&& (127 : Int32)).toInt64)) <<< ((7 : Int32) &&& 0x3f).toInt64)) ||| ((b2 &&& (127 : Int32)).toInt64)) <<< ((7 : Int32) &&& 0x3f).toInt64)))]) w d1_17 rfl rfl rfl ?_
          refine giload (pc' := 20) (Ls := #[.val (.ref a), .val (.int (2 : Int32)), .val (.long ((((((((((0 : Int64) <<< ((7 : Int32) &&& 0x3f).toInt64)) ||| ((b0 &&& (127 : Int32)).toInt64)) <<< ((7 : Int32) &&& 0x3f).toInt64)) ||| ((b1 &&& (127 : Int32)).toInt64)) <<< ((7 : Int32) &&& 0x3f).toInt64)) ||| ((b2 &&& (127 : Int32)).toInt64))), .second, .val (.int (5 : Int32))]) (rest := [(.ref a), (.long ((((((((((((0 : Int64) <<< ((7 : Int32) &&& 0x3f).toInt64)) ||| ((b0 &&& (127 : Int32)).toInt64)) <<< ((7 : Int32) &&& 0x3f).toInt64)) ||| ((b1 &&& (127 : Int32)).toInt64)) <<< ((7 : Int32) &&& 0x3f).toInt64)) ||| ((b2 &&& (127 : Int32)).toInt64)) <<< ((7 : Int32) &&& 0x3f).toInt64)))]) w d1_18 rfl rfl ?_
          refine gbaload (pc' := 21) (v := (.int b3)) w d1_20 V (by decide) v3 rfl ?_
          refine gbipush (v := (127 : Int32)) (pc' := 23) w d1_21 rfl rfl ?_
          refine giand (pc' := 24) w d1_23 rfl ?_
          refine gi2l (pc' := 25) w d1_24 rfl ?_
          refine glor (pc' := 26) w d1_25 rfl ?_
          refine glstoreN (pc' := 27) (Ls := #[.val (.ref a), .val (.int (2 : Int32)), .val (.long ((((((((((0 : Int64) <<< ((7 : Int32) &&& 0x3f).toInt64)) ||| ((b0 &&& (127 : Int32)).toInt64)) <<< ((7 : Int32) &&& 0x3f).toInt64)) ||| ((b1 &&& (127 : Int32)).toInt64)) <<< ((7 : Int32) &&& 0x3f).toInt64)) ||| ((b2 &&& (127 : Int32)).toInt64))), .second, .val (.int (5 : Int32))]) (Ls' := #[.val (.ref a), .val (.int (2 : Int32)), .val (.long (((((((((((((0 : Int64) <<< ((7 : Int32) &&& 0x3f).toInt64)) ||| ((b0 &&& (127 : Int32)).toInt64)) <<< ((7 : Int32) &&& 0x3f).toInt64)) ||| ((b1 &&& (127 : Int32)).toInt64)) <<< ((7 : Int32) &&& 0x3f).toInt64)) ||| ((b2 &&& (127 : Int32)).toInt64)) <<< ((7 : Int32) &&& 0x3f).toInt64)) ||| ((b3 &&& (127 : Int32)).toInt64))), .second, .val (.int (5 : Int32))]) (rest := []) w d1_26 rfl rfl ?_
          refine giinc (pc' := 30) (Ls := #[.val (.ref a), .val (.int (2 : Int32)), .val (.long (((((((((((((0 : Int64) <<< ((7 : Int32) &&& 0x3f).toInt64)) ||| ((b0 &&& (127 : Int32)).toInt64)) <<< ((7 : Int32) &&& 0x3f).toInt64)) ||| ((b1 &&& (127 : Int32)).toInt64)) <<< ((7 : Int32) &&& 0x3f).toInt64)) ||| ((b2 &&& (127 : Int32)).toInt64)) <<< ((7 : Int32) &&& 0x3f).toInt64)) ||| ((b3 &&& (127 : Int32)).toInt64))), .second, .val (.int (5 : Int32))]) (Ls' := #[.val (.ref a), .val (.int (2 : Int32)), .val (.long (((((((((((((0 : Int64) <<< ((7 : Int32) &&& 0x3f).toInt64)) ||| ((b0 &&& (127 : Int32)).toInt64)) <<< ((7 : Int32) &&& 0x3f).toInt64)) ||| ((b1 &&& (127 : Int32)).toInt64)) <<< ((7 : Int32) &&& 0x3f).toInt64)) ||| ((b2 &&& (127 : Int32)).toInt64)) <<< ((7 : Int32) &&& 0x3f).toInt64)) ||| ((b3 &&& (127 : Int32)).toInt64))), .second, .val (.int (6 : Int32))]) (rest := []) w d1_27 rfl rfl rfl ?_
          refine ggoto (pc' := 5) w d1_30 (by decide) rfl ?_
          refine giload (pc' := 7) (Ls := #[.val (.ref a), .val (.int (2 : Int32)), .val (.long (((((((((((((0 : Int64) <<< ((7 : Int32) &&& 0x3f).toInt64)) ||| ((b0 &&& (127 : Int32)).toInt64)) <<< ((7 : Int32) &&& 0x3f).toInt64)) ||| ((b1 &&& (127 : Int32)).toInt64)) <<< ((7 : Int32) &&& 0x3f).toInt64)) ||| ((b2 &&& (127 : Int32)).toInt64)) <<< ((7 : Int32) &&& 0x3f).toInt64)) ||| ((b3 &&& (127 : Int32)).toInt64))), .second, .val (.int (6 : Int32))]) (rest := []) w d1_5 rfl rfl ?_
          refine giloadN (pc' := 8) (Ls := #[.val (.ref a), .val (.int (2 : Int32)), .val (.long (((((((((((((0 : Int64) <<< ((7 : Int32) &&& 0x3f).toInt64)) ||| ((b0 &&& (127 : Int32)).toInt64)) <<< ((7 : Int32) &&& 0x3f).toInt64)) ||| ((b1 &&& (127 : Int32)).toInt64)) <<< ((7 : Int32) &&& 0x3f).toInt64)) ||| ((b2 &&& (127 : Int32)).toInt64)) <<< ((7 : Int32) &&& 0x3f).toInt64)) ||| ((b3 &&& (127 : Int32)).toInt64))), .second, .val (.int (6 : Int32))]) (rest := [(.int (6 : Int32))]) w d1_7 rfl rfl ?_
          refine giconst (v := (4 : Int32)) (pc' := 9) w d1_8 rfl rfl ?_
          refine giadd (pc' := 10) w d1_9 rfl ?_
          refine gicmp (pt := 33) (pf := 13) w d1_10  (by decide) rfl rfl (fun (c10_4 : ¬ (6 : Int32) < ((2 : Int32) + (4 : Int32))) => ?_) (fun (c10_4 : (6 : Int32) < ((2 : Int32) + (4 : Int32))) => ?_)
          · refine glloadN (pc' := 34) (Ls := #[.val (.ref a), .val (.int (2 : Int32)), .val (.long (((((((((((((0 : Int64) <<< ((7 : Int32) &&& 0x3f).toInt64)) ||| ((b0 &&& (127 : Int32)).toInt64)) <<< ((7 : Int32) &&& 0x3f).toInt64)) ||| ((b1 &&& (127 : Int32)).toInt64)) <<< ((7 : Int32) &&& 0x3f).toInt64)) ||| ((b2 &&& (127 : Int32)).toInt64)) <<< ((7 : Int32) &&& 0x3f).toInt64)) ||| ((b3 &&& (127 : Int32)).toInt64))), .second, .val (.int (6 : Int32))]) (rest := []) w d1_33 rfl rfl ?_
            exact gretJ w d1_34 (by decide) (by decide) ⟨rfl, rfl⟩
          · exact absurd c10_4 (by decide)
set_option maxRecDepth 65536 in
set_option maxHeartbeats 4000000 in
theorem own_c3 (hw : ∀ d ∈ tables_1, d.before a0 Z = true) (a : Addr) (ka : ClassId) (vs : List Value) (dv : Value) (b0 b1 b2 b3 : Int32) (V : Arv Z h a ka .byte (7 : Int32) vs dv) (v0 : vs.getD (3 : Int32).toNatClampNeg dv = .int b0) (v1 : vs.getD (4 : Int32).toNatClampNeg dv = .int b1) (v2 : vs.getD (5 : Int32).toNatClampNeg dv = .int b2) (v3 : vs.getD (6 : Int32).toNatClampNeg dv = .int b3) :
    Ctr l (⟨"com/example/kindred/kindred/index/Id3v2", "synchsafe", "([BI)J"⟩ : MethodName) prog_22_method_8_code 5 (some .long) ({ frames := 0, cells := 0, slots := 0, locals := 0 } : Room) Z #[(.ref a), (.int (3 : Int32))] h n0 (fun v h' => v = some (.long (own_acc b0 b1 b2 b3)) ∧ h' = h) [] := by
  refine metGo (Ls := #[.val (.ref a), .val (.int (3 : Int32)), .unset, .unset, .unset]) pn_d1 (fun m => by first | rfl | (simp [entryFrame, mkF, argsToLocals, Value.category]; done) | (simp [entryFrame, mkF, argsToLocals, Value.category, maxLocals]; done)) ?_
  intro p e s m below meth c T w
  refine glconst (v := (0 : Int64)) (pc' := 1) w d1_0 rfl rfl ?_
  refine glstoreN (pc' := 2) (Ls := #[.val (.ref a), .val (.int (3 : Int32)), .unset, .unset, .unset]) (Ls' := #[.val (.ref a), .val (.int (3 : Int32)), .val (.long (0 : Int64)), .second, .unset]) (rest := []) w d1_1 rfl rfl ?_
  refine giloadN (pc' := 3) (Ls := #[.val (.ref a), .val (.int (3 : Int32)), .val (.long (0 : Int64)), .second, .unset]) (rest := []) w d1_2 rfl rfl ?_
  refine gistore (pc' := 5) (Ls := #[.val (.ref a), .val (.int (3 : Int32)), .val (.long (0 : Int64)), .second, .unset]) (Ls' := #[.val (.ref a), .val (.int (3 : Int32)), .val (.long (0 : Int64)), .second, .val (.int (3 : Int32))]) (rest := []) w d1_3 rfl rfl ?_
  refine giload (pc' := 7) (Ls := #[.val (.ref a), .val (.int (3 : Int32)), .val (.long (0 : Int64)), .second, .val (.int (3 : Int32))]) (rest := []) w d1_5 rfl rfl ?_
  refine giloadN (pc' := 8) (Ls := #[.val (.ref a), .val (.int (3 : Int32)), .val (.long (0 : Int64)), .second, .val (.int (3 : Int32))]) (rest := [(.int (3 : Int32))]) w d1_7 rfl rfl ?_
  refine giconst (v := (4 : Int32)) (pc' := 9) w d1_8 rfl rfl ?_
  refine giadd (pc' := 10) w d1_9 rfl ?_
  refine gicmp (pt := 33) (pf := 13) w d1_10  (by decide) rfl rfl (fun (c10 : ¬ (3 : Int32) < ((3 : Int32) + (4 : Int32))) => ?_) (fun (c10 : (3 : Int32) < ((3 : Int32) + (4 : Int32))) => ?_)
  · exact absurd c10 (by decide)
  · refine glloadN (pc' := 14) (Ls := #[.val (.ref a), .val (.int (3 : Int32)), .val (.long (0 : Int64)), .second, .val (.int (3 : Int32))]) (rest := []) w d1_13 rfl rfl ?_
    refine gbipush (v := (7 : Int32)) (pc' := 16) w d1_14 rfl rfl ?_
    refine glshl (pc' := 17) w d1_16 rfl ?_
    refine galoadN (pc' := 18) (Ls := #[.val (.ref a), .val (.int (3 : Int32)), .val (.long (0 : Int64)), .second, .val (.int (3 : Int32))]) (rest := [(.long (((0 : Int64) <<< ((7 : Int32) &&& 0x3f).toInt64)))]) w d1_17 rfl rfl rfl ?_
    refine giload (pc' := 20) (Ls := #[.val (.ref a), .val (.int (3 : Int32)), .val (.long (0 : Int64)), .second, .val (.int (3 : Int32))]) (rest := [(.ref a), (.long (((0 : Int64) <<< ((7 : Int32) &&& 0x3f).toInt64)))]) w d1_18 rfl rfl ?_
    refine gbaload (pc' := 21) (v := (.int b0)) w d1_20 V (by decide) v0 rfl ?_
    refine gbipush (v := (127 : Int32)) (pc' := 23) w d1_21 rfl rfl ?_
    refine giand (pc' := 24) w d1_23 rfl ?_
    refine gi2l (pc' := 25) w d1_24 rfl ?_
    refine glor (pc' := 26) w d1_25 rfl ?_
    refine glstoreN (pc' := 27) (Ls := #[.val (.ref a), .val (.int (3 : Int32)), .val (.long (0 : Int64)), .second, .val (.int (3 : Int32))]) (Ls' := #[.val (.ref a), .val (.int (3 : Int32)), .val (.long ((((0 : Int64) <<< ((7 : Int32) &&& 0x3f).toInt64)) ||| ((b0 &&& (127 : Int32)).toInt64))), .second, .val (.int (3 : Int32))]) (rest := []) w d1_26 rfl rfl ?_
    refine giinc (pc' := 30) (Ls := #[.val (.ref a), .val (.int (3 : Int32)), .val (.long ((((0 : Int64) <<< ((7 : Int32) &&& 0x3f).toInt64)) ||| ((b0 &&& (127 : Int32)).toInt64))), .second, .val (.int (3 : Int32))]) (Ls' := #[.val (.ref a), .val (.int (3 : Int32)), .val (.long ((((0 : Int64) <<< ((7 : Int32) &&& 0x3f).toInt64)) ||| ((b0 &&& (127 : Int32)).toInt64))), .second, .val (.int (4 : Int32))]) (rest := []) w d1_27 rfl rfl rfl ?_
    refine ggoto (pc' := 5) w d1_30 (by decide) rfl ?_
    refine giload (pc' := 7) (Ls := #[.val (.ref a), .val (.int (3 : Int32)), .val (.long ((((0 : Int64) <<< ((7 : Int32) &&& 0x3f).toInt64)) ||| ((b0 &&& (127 : Int32)).toInt64))), .second, .val (.int (4 : Int32))]) (rest := []) w d1_5 rfl rfl ?_
    refine giloadN (pc' := 8) (Ls := #[.val (.ref a), .val (.int (3 : Int32)), .val (.long ((((0 : Int64) <<< ((7 : Int32) &&& 0x3f).toInt64)) ||| ((b0 &&& (127 : Int32)).toInt64))), .second, .val (.int (4 : Int32))]) (rest := [(.int (4 : Int32))]) w d1_7 rfl rfl ?_
    refine giconst (v := (4 : Int32)) (pc' := 9) w d1_8 rfl rfl ?_
    refine giadd (pc' := 10) w d1_9 rfl ?_
    refine gicmp (pt := 33) (pf := 13) w d1_10  (by decide) rfl rfl (fun (c10_1 : ¬ (4 : Int32) < ((3 : Int32) + (4 : Int32))) => ?_) (fun (c10_1 : (4 : Int32) < ((3 : Int32) + (4 : Int32))) => ?_)
    · exact absurd c10_1 (by decide)
    · refine glloadN (pc' := 14) (Ls := #[.val (.ref a), .val (.int (3 : Int32)), .val (.long ((((0 : Int64) <<< ((7 : Int32) &&& 0x3f).toInt64)) ||| ((b0 &&& (127 : Int32)).toInt64))), .second, .val (.int (4 : Int32))]) (rest := []) w d1_13 rfl rfl ?_
      refine gbipush (v := (7 : Int32)) (pc' := 16) w d1_14 rfl rfl ?_
      refine glshl (pc' := 17) w d1_16 rfl ?_
      refine galoadN (pc' := 18) (Ls := #[.val (.ref a), .val (.int (3 : Int32)), .val (.long ((((0 : Int64) <<< ((7 : Int32) &&& 0x3f).toInt64)) ||| ((b0 &&& (127 : Int32)).toInt64))), .second, .val (.int (4 : Int32))]) (rest := [(.long ((((((0 : Int64) <<< ((7 : Int32) &&& 0x3f).toInt64)) ||| ((b0 &&& (127 : Int32)).toInt64)) <<< ((7 : Int32) &&& 0x3f).toInt64)))]) w d1_17 rfl rfl rfl ?_
      refine giload (pc' := 20) (Ls := #[.val (.ref a), .val (.int (3 : Int32)), .val (.long ((((0 : Int64) <<< ((7 : Int32) &&& 0x3f).toInt64)) ||| ((b0 &&& (127 : Int32)).toInt64))), .second, .val (.int (4 : Int32))]) (rest := [(.ref a), (.long ((((((0 : Int64) <<< ((7 : Int32) &&& 0x3f).toInt64)) ||| ((b0 &&& (127 : Int32)).toInt64)) <<< ((7 : Int32) &&& 0x3f).toInt64)))]) w d1_18 rfl rfl ?_
      refine gbaload (pc' := 21) (v := (.int b1)) w d1_20 V (by decide) v1 rfl ?_
      refine gbipush (v := (127 : Int32)) (pc' := 23) w d1_21 rfl rfl ?_
      refine giand (pc' := 24) w d1_23 rfl ?_
      refine gi2l (pc' := 25) w d1_24 rfl ?_
      refine glor (pc' := 26) w d1_25 rfl ?_
      refine glstoreN (pc' := 27) (Ls := #[.val (.ref a), .val (.int (3 : Int32)), .val (.long ((((0 : Int64) <<< ((7 : Int32) &&& 0x3f).toInt64)) ||| ((b0 &&& (127 : Int32)).toInt64))), .second, .val (.int (4 : Int32))]) (Ls' := #[.val (.ref a), .val (.int (3 : Int32)), .val (.long (((((((0 : Int64) <<< ((7 : Int32) &&& 0x3f).toInt64)) ||| ((b0 &&& (127 : Int32)).toInt64)) <<< ((7 : Int32) &&& 0x3f).toInt64)) ||| ((b1 &&& (127 : Int32)).toInt64))), .second, .val (.int (4 : Int32))]) (rest := []) w d1_26 rfl rfl ?_
      refine giinc (pc' := 30) (Ls := #[.val (.ref a), .val (.int (3 : Int32)), .val (.long (((((((0 : Int64) <<< ((7 : Int32) &&& 0x3f).toInt64)) ||| ((b0 &&& (127 : Int32)).toInt64)) <<< ((7 : Int32) &&& 0x3f).toInt64)) ||| ((b1 &&& (127 : Int32)).toInt64))), .second, .val (.int (4 : Int32))]) (Ls' := #[.val (.ref a), .val (.int (3 : Int32)), .val (.long (((((((0 : Int64) <<< ((7 : Int32) &&& 0x3f).toInt64)) ||| ((b0 &&& (127 : Int32)).toInt64)) <<< ((7 : Int32) &&& 0x3f).toInt64)) ||| ((b1 &&& (127 : Int32)).toInt64))), .second, .val (.int (5 : Int32))]) (rest := []) w d1_27 rfl rfl rfl ?_
      refine ggoto (pc' := 5) w d1_30 (by decide) rfl ?_
      refine giload (pc' := 7) (Ls := #[.val (.ref a), .val (.int (3 : Int32)), .val (.long (((((((0 : Int64) <<< ((7 : Int32) &&& 0x3f).toInt64)) ||| ((b0 &&& (127 : Int32)).toInt64)) <<< ((7 : Int32) &&& 0x3f).toInt64)) ||| ((b1 &&& (127 : Int32)).toInt64))), .second, .val (.int (5 : Int32))]) (rest := []) w d1_5 rfl rfl ?_
      refine giloadN (pc' := 8) (Ls := #[.val (.ref a), .val (.int (3 : Int32)), .val (.long (((((((0 : Int64) <<< ((7 : Int32) &&& 0x3f).toInt64)) ||| ((b0 &&& (127 : Int32)).toInt64)) <<< ((7 : Int32) &&& 0x3f).toInt64)) ||| ((b1 &&& (127 : Int32)).toInt64))), .second, .val (.int (5 : Int32))]) (rest := [(.int (5 : Int32))]) w d1_7 rfl rfl ?_
      refine giconst (v := (4 : Int32)) (pc' := 9) w d1_8 rfl rfl ?_
      refine giadd (pc' := 10) w d1_9 rfl ?_
      refine gicmp (pt := 33) (pf := 13) w d1_10  (by decide) rfl rfl (fun (c10_2 : ¬ (5 : Int32) < ((3 : Int32) + (4 : Int32))) => ?_) (fun (c10_2 : (5 : Int32) < ((3 : Int32) + (4 : Int32))) => ?_)
      · exact absurd c10_2 (by decide)
      · refine glloadN (pc' := 14) (Ls := #[.val (.ref a), .val (.int (3 : Int32)), .val (.long (((((((0 : Int64) <<< ((7 : Int32) &&& 0x3f).toInt64)) ||| ((b0 &&& (127 : Int32)).toInt64)) <<< ((7 : Int32) &&& 0x3f).toInt64)) ||| ((b1 &&& (127 : Int32)).toInt64))), .second, .val (.int (5 : Int32))]) (rest := []) w d1_13 rfl rfl ?_
        refine gbipush (v := (7 : Int32)) (pc' := 16) w d1_14 rfl rfl ?_
        refine glshl (pc' := 17) w d1_16 rfl ?_
        refine galoadN (pc' := 18) (Ls := #[.val (.ref a), .val (.int (3 : Int32)), .val (.long (((((((0 : Int64) <<< ((7 : Int32) &&& 0x3f).toInt64)) ||| ((b0 &&& (127 : Int32)).toInt64)) <<< ((7 : Int32) &&& 0x3f).toInt64)) ||| ((b1 &&& (127 : Int32)).toInt64))), .second, .val (.int (5 : Int32))]) (rest := [(.long (((((((((0 : Int64) <<< ((7 : Int32) &&& 0x3f).toInt64)) ||| ((b0 &&& (127 : Int32)).toInt64)) <<< ((7 : Int32) &&& 0x3f).toInt64)) ||| ((b1 &&& (127 : Int32)).toInt64)) <<< ((7 : Int32) &&& 0x3f).toInt64)))]) w d1_17 rfl rfl rfl ?_
        refine giload (pc' := 20) (Ls := #[.val (.ref a), .val (.int (3 : Int32)), .val (.long (((((((0 : Int64) <<< ((7 : Int32) &&& 0x3f).toInt64)) ||| ((b0 &&& (127 : Int32)).toInt64)) <<< ((7 : Int32) &&& 0x3f).toInt64)) ||| ((b1 &&& (127 : Int32)).toInt64))), .second, .val (.int (5 : Int32))]) (rest := [(.ref a), (.long (((((((((0 : Int64) <<< ((7 : Int32) &&& 0x3f).toInt64)) ||| ((b0 &&& (127 : Int32)).toInt64)) <<< ((7 : Int32) &&& 0x3f).toInt64)) ||| ((b1 &&& (127 : Int32)).toInt64)) <<< ((7 : Int32) &&& 0x3f).toInt64)))]) w d1_18 rfl rfl ?_
        refine gbaload (pc' := 21) (v := (.int b2)) w d1_20 V (by decide) v2 rfl ?_
        refine gbipush (v := (127 : Int32)) (pc' := 23) w d1_21 rfl rfl ?_
        refine giand (pc' := 24) w d1_23 rfl ?_
        refine gi2l (pc' := 25) w d1_24 rfl ?_
        refine glor (pc' := 26) w d1_25 rfl ?_
        refine glstoreN (pc' := 27) (Ls := #[.val (.ref a), .val (.int (3 : Int32)), .val (.long (((((((0 : Int64) <<< ((7 : Int32) &&& 0x3f).toInt64)) ||| ((b0 &&& (127 : Int32)).toInt64)) <<< ((7 : Int32) &&& 0x3f).toInt64)) ||| ((b1 &&& (127 : Int32)).toInt64))), .second, .val (.int (5 : Int32))]) (Ls' := #[.val (.ref a), .val (.int (3 : Int32)), .val (.long ((((((((((0 : Int64) <<< ((7 : Int32) &&& 0x3f).toInt64)) ||| ((b0 &&& (127 : Int32)).toInt64)) <<< ((7 : Int32) &&& 0x3f).toInt64)) ||| ((b1 &&& (127 : Int32)).toInt64)) <<< ((7 : Int32) &&& 0x3f).toInt64)) ||| ((b2 &&& (127 : Int32)).toInt64))), .second, .val (.int (5 : Int32))]) (rest := []) w d1_26 rfl rfl ?_
        refine giinc (pc' := 30) (Ls := #[.val (.ref a), .val (.int (3 : Int32)), .val (.long ((((((((((0 : Int64) <<< ((7 : Int32) &&& 0x3f).toInt64)) ||| ((b0 &&& (127 : Int32)).toInt64)) <<< ((7 : Int32) &&& 0x3f).toInt64)) ||| ((b1 &&& (127 : Int32)).toInt64)) <<< ((7 : Int32) &&& 0x3f).toInt64)) ||| ((b2 &&& (127 : Int32)).toInt64))), .second, .val (.int (5 : Int32))]) (Ls' := #[.val (.ref a), .val (.int (3 : Int32)), .val (.long ((((((((((0 : Int64) <<< ((7 : Int32) &&& 0x3f).toInt64)) ||| ((b0 &&& (127 : Int32)).toInt64)) <<< ((7 : Int32) &&& 0x3f).toInt64)) ||| ((b1 &&& (127 : Int32)).toInt64)) <<< ((7 : Int32) &&& 0x3f).toInt64)) ||| ((b2 &&& (127 : Int32)).toInt64))), .second, .val (.int (6 : Int32))]) (rest := []) w d1_27 rfl rfl rfl ?_
        refine ggoto (pc' := 5) w d1_30 (by decide) rfl ?_
        refine giload (pc' := 7) (Ls := #[.val (.ref a), .val (.int (3 : Int32)), .val (.long ((((((((((0 : Int64) <<< ((7 : Int32) &&& 0x3f).toInt64)) ||| ((b0 &&& (127 : Int32)).toInt64)) <<< ((7 : Int32) &&& 0x3f).toInt64)) ||| ((b1 &&& (127 : Int32)).toInt64)) <<< ((7 : Int32) &&& 0x3f).toInt64)) ||| ((b2 &&& (127 : Int32)).toInt64))), .second, .val (.int (6 : Int32))]) (rest := []) w d1_5 rfl rfl ?_
        refine giloadN (pc' := 8) (Ls := #[.val (.ref a), .val (.int (3 : Int32)), .val (.long ((((((((((0 : Int64) <<< ((7 : Int32) &&& 0x3f).toInt64)) ||| ((b0 &&& (127 : Int32)).toInt64)) <<< ((7 : Int32) &&& 0x3f).toInt64)) ||| ((b1 &&& (127 : Int32)).toInt64)) <<< ((7 : Int32) &&& 0x3f).toInt64)) ||| ((b2 &&& (127 : Int32)).toInt64))), .second, .val (.int (6 : Int32))]) (rest := [(.int (6 : Int32))]) w d1_7 rfl rfl ?_
        refine giconst (v := (4 : Int32)) (pc' := 9) w d1_8 rfl rfl ?_
        refine giadd (pc' := 10) w d1_9 rfl ?_
        refine gicmp (pt := 33) (pf := 13) w d1_10  (by decide) rfl rfl (fun (c10_3 : ¬ (6 : Int32) < ((3 : Int32) + (4 : Int32))) => ?_) (fun (c10_3 : (6 : Int32) < ((3 : Int32) + (4 : Int32))) => ?_)
        · exact absurd c10_3 (by decide)
        · refine glloadN (pc' := 14) (Ls := #[.val (.ref a), .val (.int (3 : Int32)), .val (.long ((((((((((0 : Int64) <<< ((7 : Int32) &&& 0x3f).toInt64)) ||| ((b0 &&& (127 : Int32)).toInt64)) <<< ((7 : Int32) &&& 0x3f).toInt64)) ||| ((b1 &&& (127 : Int32)).toInt64)) <<< ((7 : Int32) &&& 0x3f).toInt64)) ||| ((b2 &&& (127 : Int32)).toInt64))), .second, .val (.int (6 : Int32))]) (rest := []) w d1_13 rfl rfl ?_
          refine gbipush (v := (7 : Int32)) (pc' := 16) w d1_14 rfl rfl ?_
          refine glshl (pc' := 17) w d1_16 rfl ?_
          refine galoadN (pc' := 18) (Ls := #[.val (.ref a), .val (.int (3 : Int32)), .val (.long ((((((((((0 : Int64) <<< ((7 : Int32) &&& 0x3f).toInt64)) ||| ((b0 &&& (127 : Int32)).toInt64)) <<< ((7 : Int32) &&& 0x3f).toInt64)) ||| ((b1 &&& (127 : Int32)).toInt64)) <<< ((7 : Int32) &&& 0x3f).toInt64)) ||| ((b2 &&& (127 : Int32)).toInt64))), .second, .val (.int (6 : Int32))]) (rest := [(.long ((((((((((((0 : Int64) <<< ((7 : Int32) &&& 0x3f).toInt64)) ||| ((b0 &&& (127 : Int32)).toInt64)) <<< ((7 : Int32) &&& 0x3f).toInt64)) ||| ((b1 &&& (127 : Int32)).toInt64)) <<< ((7 : Int32) &&& 0x3f).toInt64)) ||| ((b2 &&& (127 : Int32)).toInt64)) <<< ((7 : Int32) &&& 0x3f).toInt64)))]) w d1_17 rfl rfl rfl ?_
          refine giload (pc' := 20) (Ls := #[.val (.ref a), .val (.int (3 : Int32)), .val (.long ((((((((((0 : Int64) <<< ((7 : Int32) &&& 0x3f).toInt64)) ||| ((b0 &&& (127 : Int32)).toInt64)) <<< ((7 : Int32) &&& 0x3f).toInt64)) ||| ((b1 &&& (127 : Int32)).toInt64)) <<< ((7 : Int32) &&& 0x3f).toInt64)) ||| ((b2 &&& (127 : Int32)).toInt64))), .second, .val (.int (6 : Int32))]) (rest := [(.ref a), (.long ((((((((((((0 : Int64) <<< ((7 : Int32) &&& 0x3f).toInt64)) ||| ((b0 &&& (127 : Int32)).toInt64)) <<< ((7 : Int32) &&& 0x3f).toInt64)) ||| ((b1 &&& (127 : Int32)).toInt64)) <<< ((7 : Int32) &&& 0x3f).toInt64)) ||| ((b2 &&& (127 : Int32)).toInt64)) <<< ((7 : Int32) &&& 0x3f).toInt64)))]) w d1_18 rfl rfl ?_
          refine gbaload (pc' := 21) (v := (.int b3)) w d1_20 V (by decide) v3 rfl ?_
          refine gbipush (v := (127 : Int32)) (pc' := 23) w d1_21 rfl rfl ?_
          refine giand (pc' := 24) w d1_23 rfl ?_
          refine gi2l (pc' := 25) w d1_24 rfl ?_
          refine glor (pc' := 26) w d1_25 rfl ?_
          refine glstoreN (pc' := 27) (Ls := #[.val (.ref a), .val (.int (3 : Int32)), .val (.long ((((((((((0 : Int64) <<< ((7 : Int32) &&& 0x3f).toInt64)) ||| ((b0 &&& (127 : Int32)).toInt64)) <<< ((7 : Int32) &&& 0x3f).toInt64)) ||| ((b1 &&& (127 : Int32)).toInt64)) <<< ((7 : Int32) &&& 0x3f).toInt64)) ||| ((b2 &&& (127 : Int32)).toInt64))), .second, .val (.int (6 : Int32))]) (Ls' := #[.val (.ref a), .val (.int (3 : Int32)), .val (.long (((((((((((((0 : Int64) <<< ((7 : Int32) &&& 0x3f).toInt64)) ||| ((b0 &&& (127 : Int32)).toInt64)) <<< ((7 : Int32) &&& 0x3f).toInt64)) ||| ((b1 &&& (127 : Int32)).toInt64)) <<< ((7 : Int32) &&& 0x3f).toInt64)) ||| ((b2 &&& (127 : Int32)).toInt64)) <<< ((7 : Int32) &&& 0x3f).toInt64)) ||| ((b3 &&& (127 : Int32)).toInt64))), .second, .val (.int (6 : Int32))]) (rest := []) w d1_26 rfl rfl ?_
          refine giinc (pc' := 30) (Ls := #[.val (.ref a), .val (.int (3 : Int32)), .val (.long (((((((((((((0 : Int64) <<< ((7 : Int32) &&& 0x3f).toInt64)) ||| ((b0 &&& (127 : Int32)).toInt64)) <<< ((7 : Int32) &&& 0x3f).toInt64)) ||| ((b1 &&& (127 : Int32)).toInt64)) <<< ((7 : Int32) &&& 0x3f).toInt64)) ||| ((b2 &&& (127 : Int32)).toInt64)) <<< ((7 : Int32) &&& 0x3f).toInt64)) ||| ((b3 &&& (127 : Int32)).toInt64))), .second, .val (.int (6 : Int32))]) (Ls' := #[.val (.ref a), .val (.int (3 : Int32)), .val (.long (((((((((((((0 : Int64) <<< ((7 : Int32) &&& 0x3f).toInt64)) ||| ((b0 &&& (127 : Int32)).toInt64)) <<< ((7 : Int32) &&& 0x3f).toInt64)) ||| ((b1 &&& (127 : Int32)).toInt64)) <<< ((7 : Int32) &&& 0x3f).toInt64)) ||| ((b2 &&& (127 : Int32)).toInt64)) <<< ((7 : Int32) &&& 0x3f).toInt64)) ||| ((b3 &&& (127 : Int32)).toInt64))), .second, .val (.int (7 : Int32))]) (rest := []) w d1_27 rfl rfl rfl ?_
          refine ggoto (pc' := 5) w d1_30 (by decide) rfl ?_
          refine giload (pc' := 7) (Ls := #[.val (.ref a), .val (.int (3 : Int32)), .val (.long (((((((((((((0 : Int64) <<< ((7 : Int32) &&& 0x3f).toInt64)) ||| ((b0 &&& (127 : Int32)).toInt64)) <<< ((7 : Int32) &&& 0x3f).toInt64)) ||| ((b1 &&& (127 : Int32)).toInt64)) <<< ((7 : Int32) &&& 0x3f).toInt64)) ||| ((b2 &&& (127 : Int32)).toInt64)) <<< ((7 : Int32) &&& 0x3f).toInt64)) ||| ((b3 &&& (127 : Int32)).toInt64))), .second, .val (.int (7 : Int32))]) (rest := []) w d1_5 rfl rfl ?_
          refine giloadN (pc' := 8) (Ls := #[.val (.ref a), .val (.int (3 : Int32)), .val (.long (((((((((((((0 : Int64) <<< ((7 : Int32) &&& 0x3f).toInt64)) ||| ((b0 &&& (127 : Int32)).toInt64)) <<< ((7 : Int32) &&& 0x3f).toInt64)) ||| ((b1 &&& (127 : Int32)).toInt64)) <<< ((7 : Int32) &&& 0x3f).toInt64)) ||| ((b2 &&& (127 : Int32)).toInt64)) <<< ((7 : Int32) &&& 0x3f).toInt64)) ||| ((b3 &&& (127 : Int32)).toInt64))), .second, .val (.int (7 : Int32))]) (rest := [(.int (7 : Int32))]) w d1_7 rfl rfl ?_
          refine giconst (v := (4 : Int32)) (pc' := 9) w d1_8 rfl rfl ?_
          refine giadd (pc' := 10) w d1_9 rfl ?_
          refine gicmp (pt := 33) (pf := 13) w d1_10  (by decide) rfl rfl (fun (c10_4 : ¬ (7 : Int32) < ((3 : Int32) + (4 : Int32))) => ?_) (fun (c10_4 : (7 : Int32) < ((3 : Int32) + (4 : Int32))) => ?_)
          · refine glloadN (pc' := 34) (Ls := #[.val (.ref a), .val (.int (3 : Int32)), .val (.long (((((((((((((0 : Int64) <<< ((7 : Int32) &&& 0x3f).toInt64)) ||| ((b0 &&& (127 : Int32)).toInt64)) <<< ((7 : Int32) &&& 0x3f).toInt64)) ||| ((b1 &&& (127 : Int32)).toInt64)) <<< ((7 : Int32) &&& 0x3f).toInt64)) ||| ((b2 &&& (127 : Int32)).toInt64)) <<< ((7 : Int32) &&& 0x3f).toInt64)) ||| ((b3 &&& (127 : Int32)).toInt64))), .second, .val (.int (7 : Int32))]) (rest := []) w d1_33 rfl rfl ?_
            exact gretJ w d1_34 (by decide) (by decide) ⟨rfl, rfl⟩
          · exact absurd c10_4 (by decide)
set_option maxRecDepth 65536 in
set_option maxHeartbeats 4000000 in
theorem own_n0 (hw : ∀ d ∈ tables_1, d.before a0 Z = true) (w : W Z "com/example/kindred/kindred/index/Id3v2SynchsafePinLaw" "law" code maxLocals ret n0 p l e room_1 s m args below meth c 0 0 T h) (q0 q1 q2 q3 off : Int32) (fl : Int64) (z0 : n0 ≤ h.size) :
    Go n0 p e below s (fun v _ => v = some (.int 1)) room_1.cells room_1.slots T (mkF m 6 #[.val (.int q0), .val (.int q1), .val (.int q2), .val (.int q3), .val (.int off), .val (.long fl), .second, .val (.int (0 : Int32)), .unset, .unset, .unset, .unset, .unset] []) := by
  refine gbipush (v := (7 : Int32)) (pc' := 8) w at_6 rfl rfl ?_
  refine gnewP (pc' := 10) (cap := 7) (ty := .byte) w at_8 rfl (hw _ (List.mem_of_getElem? (i := 0) rfl)) (by decide) (by decide) (by decide) (by decide) (by decide) rfl (fun T2 h3 a1 k_a1 s4 w5 E6 V7 => ?_)
  have g_a1 : n0 ≤ a1 := Nat.le_trans z0 (Nat.le_of_eq s4)
  have z9 := Nat.le_trans z0 E6.1
  have V8 : Arv Z h3 a1 k_a1 .byte (7 : Int32) [(.int (0 : Int32)), (.int (0 : Int32)), (.int (0 : Int32)), (.int (0 : Int32)), (.int (0 : Int32)), (.int (0 : Int32)), (.int (0 : Int32))] (.int (0 : Int32)) := V7.pad (pad_rep [] _ 7)
  refine gastore (pc' := 12) (Ls := #[.val (.int q0), .val (.int q1), .val (.int q2), .val (.int q3), .val (.int off), .val (.long fl), .second, .val (.int (0 : Int32)), .unset, .unset, .unset, .unset, .unset]) (Ls' := #[.val (.int q0), .val (.int q1), .val (.int q2), .val (.int q3), .val (.int off), .val (.long fl), .second, .val (.int (0 : Int32)), .val (.ref a1), .unset, .unset, .unset, .unset]) (rest := []) w5 at_10 rfl rfl rfl ?_
  refine gaload (pc' := 14) (Ls := #[.val (.int q0), .val (.int q1), .val (.int q2), .val (.int q3), .val (.int off), .val (.long fl), .second, .val (.int (0 : Int32)), .val (.ref a1), .unset, .unset, .unset, .unset]) (rest := []) w5 at_12 rfl rfl rfl ?_
  refine giconst (v := (0 : Int32)) (pc' := 15) w5 at_14 rfl rfl ?_
  refine glload (pc' := 17) (Ls := #[.val (.int q0), .val (.int q1), .val (.int q2), .val (.int q3), .val (.int off), .val (.long fl), .second, .val (.int (0 : Int32)), .val (.ref a1), .unset, .unset, .unset, .unset]) (rest := [(.int (0 : Int32)), (.ref a1)]) w5 at_15 rfl rfl ?_
  refine gl2i (pc' := 18) w5 at_17 rfl ?_
  refine gi2b (pc' := 19) w5 at_18 rfl ?_
  refine gbastore (pc' := 20) (x' := ((fl.toInt32).toInt8.toInt32)) w5 at_19 (own_bb _) V8 (by decide) (0) rfl (by simp) g_a1 rfl (fun T10 h11 w12 W13 V14 => ?_)
  have z16 : n0 ≤ h11.size := by rw [W13.size]; exact z9
  have V15 : Arv Z h11 a1 k_a1 .byte (7 : Int32) [(.int ((fl.toInt32).toInt8.toInt32)), (.int (0 : Int32)), (.int (0 : Int32)), (.int (0 : Int32)), (.int (0 : Int32)), (.int (0 : Int32)), (.int (0 : Int32))] (.int (0 : Int32)) := V14
  refine gaload (pc' := 22) (Ls := #[.val (.int q0), .val (.int q1), .val (.int q2), .val (.int q3), .val (.int off), .val (.long fl), .second, .val (.int (0 : Int32)), .val (.ref a1), .unset, .unset, .unset, .unset]) (rest := []) w12 at_20 rfl rfl rfl ?_
  refine giconst (v := (1 : Int32)) (pc' := 23) w12 at_22 rfl rfl ?_
  refine glload (pc' := 25) (Ls := #[.val (.int q0), .val (.int q1), .val (.int q2), .val (.int q3), .val (.int off), .val (.long fl), .second, .val (.int (0 : Int32)), .val (.ref a1), .unset, .unset, .unset, .unset]) (rest := [(.int (1 : Int32)), (.ref a1)]) w12 at_23 rfl rfl ?_
  refine gbipush (v := (8 : Int32)) (pc' := 27) w12 at_25 rfl rfl ?_
  refine glushr (pc' := 28) w12 at_27 rfl ?_
  refine gl2i (pc' := 29) w12 at_28 rfl ?_
  refine gi2b (pc' := 30) w12 at_29 rfl ?_
  refine gbastore (pc' := 31) (x' := (((((fl).toUInt64 >>> ((8 : Int32) &&& 0x3f).toInt64.toUInt64).toInt64).toInt32).toInt8.toInt32)) w12 at_30 (own_bb _) V15 (by decide) (1) rfl (by simp) g_a1 rfl (fun T17 h18 w19 W20 V21 => ?_)
  have z23 : n0 ≤ h18.size := by rw [W20.size]; exact z16
  have V22 : Arv Z h18 a1 k_a1 .byte (7 : Int32) [(.int ((fl.toInt32).toInt8.toInt32)), (.int (((((fl).toUInt64 >>> ((8 : Int32) &&& 0x3f).toInt64.toUInt64).toInt64).toInt32).toInt8.toInt32)), (.int (0 : Int32)), (.int (0 : Int32)), (.int (0 : Int32)), (.int (0 : Int32)), (.int (0 : Int32))] (.int (0 : Int32)) := V21
  refine gaload (pc' := 33) (Ls := #[.val (.int q0), .val (.int q1), .val (.int q2), .val (.int q3), .val (.int off), .val (.long fl), .second, .val (.int (0 : Int32)), .val (.ref a1), .unset, .unset, .unset, .unset]) (rest := []) w19 at_31 rfl rfl rfl ?_
  refine giconst (v := (2 : Int32)) (pc' := 34) w19 at_33 rfl rfl ?_
  refine glload (pc' := 36) (Ls := #[.val (.int q0), .val (.int q1), .val (.int q2), .val (.int q3), .val (.int off), .val (.long fl), .second, .val (.int (0 : Int32)), .val (.ref a1), .unset, .unset, .unset, .unset]) (rest := [(.int (2 : Int32)), (.ref a1)]) w19 at_34 rfl rfl ?_
  refine gbipush (v := (16 : Int32)) (pc' := 38) w19 at_36 rfl rfl ?_
  refine glushr (pc' := 39) w19 at_38 rfl ?_
  refine gl2i (pc' := 40) w19 at_39 rfl ?_
  refine gi2b (pc' := 41) w19 at_40 rfl ?_
  refine gbastore (pc' := 42) (x' := (((((fl).toUInt64 >>> ((16 : Int32) &&& 0x3f).toInt64.toUInt64).toInt64).toInt32).toInt8.toInt32)) w19 at_41 (own_bb _) V22 (by decide) (2) rfl (by simp) g_a1 rfl (fun T24 h25 w26 W27 V28 => ?_)
  have z30 : n0 ≤ h25.size := by rw [W27.size]; exact z23
  have V29 : Arv Z h25 a1 k_a1 .byte (7 : Int32) [(.int ((fl.toInt32).toInt8.toInt32)), (.int (((((fl).toUInt64 >>> ((8 : Int32) &&& 0x3f).toInt64.toUInt64).toInt64).toInt32).toInt8.toInt32)), (.int (((((fl).toUInt64 >>> ((16 : Int32) &&& 0x3f).toInt64.toUInt64).toInt64).toInt32).toInt8.toInt32)), (.int (0 : Int32)), (.int (0 : Int32)), (.int (0 : Int32)), (.int (0 : Int32))] (.int (0 : Int32)) := V28
  refine gaload (pc' := 44) (Ls := #[.val (.int q0), .val (.int q1), .val (.int q2), .val (.int q3), .val (.int off), .val (.long fl), .second, .val (.int (0 : Int32)), .val (.ref a1), .unset, .unset, .unset, .unset]) (rest := []) w26 at_42 rfl rfl rfl ?_
  refine giconst (v := (3 : Int32)) (pc' := 45) w26 at_44 rfl rfl ?_
  refine glload (pc' := 47) (Ls := #[.val (.int q0), .val (.int q1), .val (.int q2), .val (.int q3), .val (.int off), .val (.long fl), .second, .val (.int (0 : Int32)), .val (.ref a1), .unset, .unset, .unset, .unset]) (rest := [(.int (3 : Int32)), (.ref a1)]) w26 at_45 rfl rfl ?_
  refine gbipush (v := (24 : Int32)) (pc' := 49) w26 at_47 rfl rfl ?_
  refine glushr (pc' := 50) w26 at_49 rfl ?_
  refine gl2i (pc' := 51) w26 at_50 rfl ?_
  refine gi2b (pc' := 52) w26 at_51 rfl ?_
  refine gbastore (pc' := 53) (x' := (((((fl).toUInt64 >>> ((24 : Int32) &&& 0x3f).toInt64.toUInt64).toInt64).toInt32).toInt8.toInt32)) w26 at_52 (own_bb _) V29 (by decide) (3) rfl (by simp) g_a1 rfl (fun T31 h32 w33 W34 V35 => ?_)
  have z37 : n0 ≤ h32.size := by rw [W34.size]; exact z30
  have V36 : Arv Z h32 a1 k_a1 .byte (7 : Int32) [(.int ((fl.toInt32).toInt8.toInt32)), (.int (((((fl).toUInt64 >>> ((8 : Int32) &&& 0x3f).toInt64.toUInt64).toInt64).toInt32).toInt8.toInt32)), (.int (((((fl).toUInt64 >>> ((16 : Int32) &&& 0x3f).toInt64.toUInt64).toInt64).toInt32).toInt8.toInt32)), (.int (((((fl).toUInt64 >>> ((24 : Int32) &&& 0x3f).toInt64.toUInt64).toInt64).toInt32).toInt8.toInt32)), (.int (0 : Int32)), (.int (0 : Int32)), (.int (0 : Int32))] (.int (0 : Int32)) := V35
  refine gaload (pc' := 55) (Ls := #[.val (.int q0), .val (.int q1), .val (.int q2), .val (.int q3), .val (.int off), .val (.long fl), .second, .val (.int (0 : Int32)), .val (.ref a1), .unset, .unset, .unset, .unset]) (rest := []) w33 at_53 rfl rfl rfl ?_
  refine giconst (v := (4 : Int32)) (pc' := 56) w33 at_55 rfl rfl ?_
  refine glload (pc' := 58) (Ls := #[.val (.int q0), .val (.int q1), .val (.int q2), .val (.int q3), .val (.int off), .val (.long fl), .second, .val (.int (0 : Int32)), .val (.ref a1), .unset, .unset, .unset, .unset]) (rest := [(.int (4 : Int32)), (.ref a1)]) w33 at_56 rfl rfl ?_
  refine gbipush (v := (32 : Int32)) (pc' := 60) w33 at_58 rfl rfl ?_
  refine glushr (pc' := 61) w33 at_60 rfl ?_
  refine gl2i (pc' := 62) w33 at_61 rfl ?_
  refine gi2b (pc' := 63) w33 at_62 rfl ?_
  refine gbastore (pc' := 64) (x' := (((((fl).toUInt64 >>> ((32 : Int32) &&& 0x3f).toInt64.toUInt64).toInt64).toInt32).toInt8.toInt32)) w33 at_63 (own_bb _) V36 (by decide) (4) rfl (by simp) g_a1 rfl (fun T38 h39 w40 W41 V42 => ?_)
  have z44 : n0 ≤ h39.size := by rw [W41.size]; exact z37
  have V43 : Arv Z h39 a1 k_a1 .byte (7 : Int32) [(.int ((fl.toInt32).toInt8.toInt32)), (.int (((((fl).toUInt64 >>> ((8 : Int32) &&& 0x3f).toInt64.toUInt64).toInt64).toInt32).toInt8.toInt32)), (.int (((((fl).toUInt64 >>> ((16 : Int32) &&& 0x3f).toInt64.toUInt64).toInt64).toInt32).toInt8.toInt32)), (.int (((((fl).toUInt64 >>> ((24 : Int32) &&& 0x3f).toInt64.toUInt64).toInt64).toInt32).toInt8.toInt32)), (.int (((((fl).toUInt64 >>> ((32 : Int32) &&& 0x3f).toInt64.toUInt64).toInt64).toInt32).toInt8.toInt32)), (.int (0 : Int32)), (.int (0 : Int32))] (.int (0 : Int32)) := V42
  refine gaload (pc' := 66) (Ls := #[.val (.int q0), .val (.int q1), .val (.int q2), .val (.int q3), .val (.int off), .val (.long fl), .second, .val (.int (0 : Int32)), .val (.ref a1), .unset, .unset, .unset, .unset]) (rest := []) w40 at_64 rfl rfl rfl ?_
  refine giconst (v := (5 : Int32)) (pc' := 67) w40 at_66 rfl rfl ?_
  refine glload (pc' := 69) (Ls := #[.val (.int q0), .val (.int q1), .val (.int q2), .val (.int q3), .val (.int off), .val (.long fl), .second, .val (.int (0 : Int32)), .val (.ref a1), .unset, .unset, .unset, .unset]) (rest := [(.int (5 : Int32)), (.ref a1)]) w40 at_67 rfl rfl ?_
  refine gbipush (v := (40 : Int32)) (pc' := 71) w40 at_69 rfl rfl ?_
  refine glushr (pc' := 72) w40 at_71 rfl ?_
  refine gl2i (pc' := 73) w40 at_72 rfl ?_
  refine gi2b (pc' := 74) w40 at_73 rfl ?_
  refine gbastore (pc' := 75) (x' := (((((fl).toUInt64 >>> ((40 : Int32) &&& 0x3f).toInt64.toUInt64).toInt64).toInt32).toInt8.toInt32)) w40 at_74 (own_bb _) V43 (by decide) (5) rfl (by simp) g_a1 rfl (fun T45 h46 w47 W48 V49 => ?_)
  have z51 : n0 ≤ h46.size := by rw [W48.size]; exact z44
  have V50 : Arv Z h46 a1 k_a1 .byte (7 : Int32) [(.int ((fl.toInt32).toInt8.toInt32)), (.int (((((fl).toUInt64 >>> ((8 : Int32) &&& 0x3f).toInt64.toUInt64).toInt64).toInt32).toInt8.toInt32)), (.int (((((fl).toUInt64 >>> ((16 : Int32) &&& 0x3f).toInt64.toUInt64).toInt64).toInt32).toInt8.toInt32)), (.int (((((fl).toUInt64 >>> ((24 : Int32) &&& 0x3f).toInt64.toUInt64).toInt64).toInt32).toInt8.toInt32)), (.int (((((fl).toUInt64 >>> ((32 : Int32) &&& 0x3f).toInt64.toUInt64).toInt64).toInt32).toInt8.toInt32)), (.int (((((fl).toUInt64 >>> ((40 : Int32) &&& 0x3f).toInt64.toUInt64).toInt64).toInt32).toInt8.toInt32)), (.int (0 : Int32))] (.int (0 : Int32)) := V49
  refine gaload (pc' := 77) (Ls := #[.val (.int q0), .val (.int q1), .val (.int q2), .val (.int q3), .val (.int off), .val (.long fl), .second, .val (.int (0 : Int32)), .val (.ref a1), .unset, .unset, .unset, .unset]) (rest := []) w47 at_75 rfl rfl rfl ?_
  refine gbipush (v := (6 : Int32)) (pc' := 79) w47 at_77 rfl rfl ?_
  refine glload (pc' := 81) (Ls := #[.val (.int q0), .val (.int q1), .val (.int q2), .val (.int q3), .val (.int off), .val (.long fl), .second, .val (.int (0 : Int32)), .val (.ref a1), .unset, .unset, .unset, .unset]) (rest := [(.int (6 : Int32)), (.ref a1)]) w47 at_79 rfl rfl ?_
  refine gbipush (v := (48 : Int32)) (pc' := 83) w47 at_81 rfl rfl ?_
  refine glushr (pc' := 84) w47 at_83 rfl ?_
  refine gl2i (pc' := 85) w47 at_84 rfl ?_
  refine gi2b (pc' := 86) w47 at_85 rfl ?_
  refine gbastore (pc' := 87) (x' := (((((fl).toUInt64 >>> ((48 : Int32) &&& 0x3f).toInt64.toUInt64).toInt64).toInt32).toInt8.toInt32)) w47 at_86 (own_bb _) V50 (by decide) (6) rfl (by simp) g_a1 rfl (fun T52 h53 w54 W55 V56 => ?_)
  have z58 : n0 ≤ h53.size := by rw [W55.size]; exact z51
  have V57 : Arv Z h53 a1 k_a1 .byte (7 : Int32) [(.int ((fl.toInt32).toInt8.toInt32)), (.int (((((fl).toUInt64 >>> ((8 : Int32) &&& 0x3f).toInt64.toUInt64).toInt64).toInt32).toInt8.toInt32)), (.int (((((fl).toUInt64 >>> ((16 : Int32) &&& 0x3f).toInt64.toUInt64).toInt64).toInt32).toInt8.toInt32)), (.int (((((fl).toUInt64 >>> ((24 : Int32) &&& 0x3f).toInt64.toUInt64).toInt64).toInt32).toInt8.toInt32)), (.int (((((fl).toUInt64 >>> ((32 : Int32) &&& 0x3f).toInt64.toUInt64).toInt64).toInt32).toInt8.toInt32)), (.int (((((fl).toUInt64 >>> ((40 : Int32) &&& 0x3f).toInt64.toUInt64).toInt64).toInt32).toInt8.toInt32)), (.int (((((fl).toUInt64 >>> ((48 : Int32) &&& 0x3f).toInt64.toUInt64).toInt64).toInt32).toInt8.toInt32))] (.int (0 : Int32)) := V56
  refine gaload (pc' := 89) (Ls := #[.val (.int q0), .val (.int q1), .val (.int q2), .val (.int q3), .val (.int off), .val (.long fl), .second, .val (.int (0 : Int32)), .val (.ref a1), .unset, .unset, .unset, .unset]) (rest := []) w54 at_87 rfl rfl rfl ?_
  refine giload (pc' := 91) (Ls := #[.val (.int q0), .val (.int q1), .val (.int q2), .val (.int q3), .val (.int off), .val (.long fl), .second, .val (.int (0 : Int32)), .val (.ref a1), .unset, .unset, .unset, .unset]) (rest := [(.ref a1)]) w54 at_89 rfl rfl ?_
  refine giloadN (pc' := 92) (Ls := #[.val (.int q0), .val (.int q1), .val (.int q2), .val (.int q3), .val (.int off), .val (.long fl), .second, .val (.int (0 : Int32)), .val (.ref a1), .unset, .unset, .unset, .unset]) (rest := [(.int (0 : Int32)), (.ref a1)]) w54 at_91 rfl rfl ?_
  refine gi2b (pc' := 93) w54 at_92 rfl ?_
  refine gbastore (pc' := 94) (x' := (q0.toInt8.toInt32)) w54 at_93 (own_bb _) V57 (by decide) (0) rfl (by simp) g_a1 rfl (fun T59 h60 w61 W62 V63 => ?_)
  have z65 : n0 ≤ h60.size := by rw [W62.size]; exact z58
  have V64 : Arv Z h60 a1 k_a1 .byte (7 : Int32) [(.int (q0.toInt8.toInt32)), (.int (((((fl).toUInt64 >>> ((8 : Int32) &&& 0x3f).toInt64.toUInt64).toInt64).toInt32).toInt8.toInt32)), (.int (((((fl).toUInt64 >>> ((16 : Int32) &&& 0x3f).toInt64.toUInt64).toInt64).toInt32).toInt8.toInt32)), (.int (((((fl).toUInt64 >>> ((24 : Int32) &&& 0x3f).toInt64.toUInt64).toInt64).toInt32).toInt8.toInt32)), (.int (((((fl).toUInt64 >>> ((32 : Int32) &&& 0x3f).toInt64.toUInt64).toInt64).toInt32).toInt8.toInt32)), (.int (((((fl).toUInt64 >>> ((40 : Int32) &&& 0x3f).toInt64.toUInt64).toInt64).toInt32).toInt8.toInt32)), (.int (((((fl).toUInt64 >>> ((48 : Int32) &&& 0x3f).toInt64.toUInt64).toInt64).toInt32).toInt8.toInt32))] (.int (0 : Int32)) := V63
  refine gaload (pc' := 96) (Ls := #[.val (.int q0), .val (.int q1), .val (.int q2), .val (.int q3), .val (.int off), .val (.long fl), .second, .val (.int (0 : Int32)), .val (.ref a1), .unset, .unset, .unset, .unset]) (rest := []) w61 at_94 rfl rfl rfl ?_
  refine giload (pc' := 98) (Ls := #[.val (.int q0), .val (.int q1), .val (.int q2), .val (.int q3), .val (.int off), .val (.long fl), .second, .val (.int (0 : Int32)), .val (.ref a1), .unset, .unset, .unset, .unset]) (rest := [(.ref a1)]) w61 at_96 rfl rfl ?_
  refine giconst (v := (1 : Int32)) (pc' := 99) w61 at_98 rfl rfl ?_
  refine giadd (pc' := 100) w61 at_99 rfl ?_
  refine giloadN (pc' := 101) (Ls := #[.val (.int q0), .val (.int q1), .val (.int q2), .val (.int q3), .val (.int off), .val (.long fl), .second, .val (.int (0 : Int32)), .val (.ref a1), .unset, .unset, .unset, .unset]) (rest := [(.int ((0 : Int32) + (1 : Int32))), (.ref a1)]) w61 at_100 rfl rfl ?_
  refine gi2b (pc' := 102) w61 at_101 rfl ?_
  refine gbastore (pc' := 103) (x' := (q1.toInt8.toInt32)) w61 at_102 (own_bb _) V64 (by decide) (1) rfl (by simp) g_a1 rfl (fun T66 h67 w68 W69 V70 => ?_)
  have z72 : n0 ≤ h67.size := by rw [W69.size]; exact z65
  have V71 : Arv Z h67 a1 k_a1 .byte (7 : Int32) [(.int (q0.toInt8.toInt32)), (.int (q1.toInt8.toInt32)), (.int (((((fl).toUInt64 >>> ((16 : Int32) &&& 0x3f).toInt64.toUInt64).toInt64).toInt32).toInt8.toInt32)), (.int (((((fl).toUInt64 >>> ((24 : Int32) &&& 0x3f).toInt64.toUInt64).toInt64).toInt32).toInt8.toInt32)), (.int (((((fl).toUInt64 >>> ((32 : Int32) &&& 0x3f).toInt64.toUInt64).toInt64).toInt32).toInt8.toInt32)), (.int (((((fl).toUInt64 >>> ((40 : Int32) &&& 0x3f).toInt64.toUInt64).toInt64).toInt32).toInt8.toInt32)), (.int (((((fl).toUInt64 >>> ((48 : Int32) &&& 0x3f).toInt64.toUInt64).toInt64).toInt32).toInt8.toInt32))] (.int (0 : Int32)) := V70
  refine gaload (pc' := 105) (Ls := #[.val (.int q0), .val (.int q1), .val (.int q2), .val (.int q3), .val (.int off), .val (.long fl), .second, .val (.int (0 : Int32)), .val (.ref a1), .unset, .unset, .unset, .unset]) (rest := []) w68 at_103 rfl rfl rfl ?_
  refine giload (pc' := 107) (Ls := #[.val (.int q0), .val (.int q1), .val (.int q2), .val (.int q3), .val (.int off), .val (.long fl), .second, .val (.int (0 : Int32)), .val (.ref a1), .unset, .unset, .unset, .unset]) (rest := [(.ref a1)]) w68 at_105 rfl rfl ?_
  refine giconst (v := (2 : Int32)) (pc' := 108) w68 at_107 rfl rfl ?_
  refine giadd (pc' := 109) w68 at_108 rfl ?_
  refine giloadN (pc' := 110) (Ls := #[.val (.int q0), .val (.int q1), .val (.int q2), .val (.int q3), .val (.int off), .val (.long fl), .second, .val (.int (0 : Int32)), .val (.ref a1), .unset, .unset, .unset, .unset]) (rest := [(.int ((0 : Int32) + (2 : Int32))), (.ref a1)]) w68 at_109 rfl rfl ?_
  refine gi2b (pc' := 111) w68 at_110 rfl ?_
  refine gbastore (pc' := 112) (x' := (q2.toInt8.toInt32)) w68 at_111 (own_bb _) V71 (by decide) (2) rfl (by simp) g_a1 rfl (fun T73 h74 w75 W76 V77 => ?_)
  have z79 : n0 ≤ h74.size := by rw [W76.size]; exact z72
  have V78 : Arv Z h74 a1 k_a1 .byte (7 : Int32) [(.int (q0.toInt8.toInt32)), (.int (q1.toInt8.toInt32)), (.int (q2.toInt8.toInt32)), (.int (((((fl).toUInt64 >>> ((24 : Int32) &&& 0x3f).toInt64.toUInt64).toInt64).toInt32).toInt8.toInt32)), (.int (((((fl).toUInt64 >>> ((32 : Int32) &&& 0x3f).toInt64.toUInt64).toInt64).toInt32).toInt8.toInt32)), (.int (((((fl).toUInt64 >>> ((40 : Int32) &&& 0x3f).toInt64.toUInt64).toInt64).toInt32).toInt8.toInt32)), (.int (((((fl).toUInt64 >>> ((48 : Int32) &&& 0x3f).toInt64.toUInt64).toInt64).toInt32).toInt8.toInt32))] (.int (0 : Int32)) := V77
  refine gaload (pc' := 114) (Ls := #[.val (.int q0), .val (.int q1), .val (.int q2), .val (.int q3), .val (.int off), .val (.long fl), .second, .val (.int (0 : Int32)), .val (.ref a1), .unset, .unset, .unset, .unset]) (rest := []) w75 at_112 rfl rfl rfl ?_
  refine giload (pc' := 116) (Ls := #[.val (.int q0), .val (.int q1), .val (.int q2), .val (.int q3), .val (.int off), .val (.long fl), .second, .val (.int (0 : Int32)), .val (.ref a1), .unset, .unset, .unset, .unset]) (rest := [(.ref a1)]) w75 at_114 rfl rfl ?_
  refine giconst (v := (3 : Int32)) (pc' := 117) w75 at_116 rfl rfl ?_
  refine giadd (pc' := 118) w75 at_117 rfl ?_
  refine giloadN (pc' := 119) (Ls := #[.val (.int q0), .val (.int q1), .val (.int q2), .val (.int q3), .val (.int off), .val (.long fl), .second, .val (.int (0 : Int32)), .val (.ref a1), .unset, .unset, .unset, .unset]) (rest := [(.int ((0 : Int32) + (3 : Int32))), (.ref a1)]) w75 at_118 rfl rfl ?_
  refine gi2b (pc' := 120) w75 at_119 rfl ?_
  refine gbastore (pc' := 121) (x' := (q3.toInt8.toInt32)) w75 at_120 (own_bb _) V78 (by decide) (3) rfl (by simp) g_a1 rfl (fun T80 h81 w82 W83 V84 => ?_)
  have z86 : n0 ≤ h81.size := by rw [W83.size]; exact z79
  have V85 : Arv Z h81 a1 k_a1 .byte (7 : Int32) [(.int (q0.toInt8.toInt32)), (.int (q1.toInt8.toInt32)), (.int (q2.toInt8.toInt32)), (.int (q3.toInt8.toInt32)), (.int (((((fl).toUInt64 >>> ((32 : Int32) &&& 0x3f).toInt64.toUInt64).toInt64).toInt32).toInt8.toInt32)), (.int (((((fl).toUInt64 >>> ((40 : Int32) &&& 0x3f).toInt64.toUInt64).toInt64).toInt32).toInt8.toInt32)), (.int (((((fl).toUInt64 >>> ((48 : Int32) &&& 0x3f).toInt64.toUInt64).toInt64).toInt32).toInt8.toInt32))] (.int (0 : Int32)) := V84
  refine giloadN (pc' := 122) (Ls := #[.val (.int q0), .val (.int q1), .val (.int q2), .val (.int q3), .val (.int off), .val (.long fl), .second, .val (.int (0 : Int32)), .val (.ref a1), .unset, .unset, .unset, .unset]) (rest := []) w82 at_121 rfl rfl ?_
  refine gbipush (v := (127 : Int32)) (pc' := 124) w82 at_122 rfl rfl ?_
  refine giand (pc' := 125) w82 at_124 rfl ?_
  refine gi2l (pc' := 126) w82 at_125 rfl ?_
  refine gbipush (v := (21 : Int32)) (pc' := 128) w82 at_126 rfl rfl ?_
  refine glshl (pc' := 129) w82 at_128 rfl ?_
  refine giloadN (pc' := 130) (Ls := #[.val (.int q0), .val (.int q1), .val (.int q2), .val (.int q3), .val (.int off), .val (.long fl), .second, .val (.int (0 : Int32)), .val (.ref a1), .unset, .unset, .unset, .unset]) (rest := [(.long ((((q0 &&& (127 : Int32)).toInt64) <<< ((21 : Int32) &&& 0x3f).toInt64)))]) w82 at_129 rfl rfl ?_
  refine gbipush (v := (127 : Int32)) (pc' := 132) w82 at_130 rfl rfl ?_
  refine giand (pc' := 133) w82 at_132 rfl ?_
  refine gi2l (pc' := 134) w82 at_133 rfl ?_
  refine gbipush (v := (14 : Int32)) (pc' := 136) w82 at_134 rfl rfl ?_
  refine glshl (pc' := 137) w82 at_136 rfl ?_
  refine glor (pc' := 138) w82 at_137 rfl ?_
  refine giloadN (pc' := 139) (Ls := #[.val (.int q0), .val (.int q1), .val (.int q2), .val (.int q3), .val (.int off), .val (.long fl), .second, .val (.int (0 : Int32)), .val (.ref a1), .unset, .unset, .unset, .unset]) (rest := [(.long (((((q0 &&& (127 : Int32)).toInt64) <<< ((21 : Int32) &&& 0x3f).toInt64)) ||| ((((q1 &&& (127 : Int32)).toInt64) <<< ((14 : Int32) &&& 0x3f).toInt64))))]) w82 at_138 rfl rfl ?_
  refine gbipush (v := (127 : Int32)) (pc' := 141) w82 at_139 rfl rfl ?_
  refine giand (pc' := 142) w82 at_141 rfl ?_
  refine gi2l (pc' := 143) w82 at_142 rfl ?_
  refine gbipush (v := (7 : Int32)) (pc' := 145) w82 at_143 rfl rfl ?_
  refine glshl (pc' := 146) w82 at_145 rfl ?_
  refine glor (pc' := 147) w82 at_146 rfl ?_
  refine giloadN (pc' := 148) (Ls := #[.val (.int q0), .val (.int q1), .val (.int q2), .val (.int q3), .val (.int off), .val (.long fl), .second, .val (.int (0 : Int32)), .val (.ref a1), .unset, .unset, .unset, .unset]) (rest := [(.long ((((((q0 &&& (127 : Int32)).toInt64) <<< ((21 : Int32) &&& 0x3f).toInt64)) ||| ((((q1 &&& (127 : Int32)).toInt64) <<< ((14 : Int32) &&& 0x3f).toInt64))) ||| ((((q2 &&& (127 : Int32)).toInt64) <<< ((7 : Int32) &&& 0x3f).toInt64))))]) w82 at_147 rfl rfl ?_
  refine gbipush (v := (127 : Int32)) (pc' := 150) w82 at_148 rfl rfl ?_
  refine giand (pc' := 151) w82 at_150 rfl ?_
  refine gi2l (pc' := 152) w82 at_151 rfl ?_
  refine glor (pc' := 153) w82 at_152 rfl ?_
  refine glstore (pc' := 155) (Ls := #[.val (.int q0), .val (.int q1), .val (.int q2), .val (.int q3), .val (.int off), .val (.long fl), .second, .val (.int (0 : Int32)), .val (.ref a1), .unset, .unset, .unset, .unset]) (Ls' := #[.val (.int q0), .val (.int q1), .val (.int q2), .val (.int q3), .val (.int off), .val (.long fl), .second, .val (.int (0 : Int32)), .val (.ref a1), .val (.long (((((((q0 &&& (127 : Int32)).toInt64) <<< ((21 : Int32) &&& 0x3f).toInt64)) ||| ((((q1 &&& (127 : Int32)).toInt64) <<< ((14 : Int32) &&& 0x3f).toInt64))) ||| ((((q2 &&& (127 : Int32)).toInt64) <<< ((7 : Int32) &&& 0x3f).toInt64))) ||| ((q3 &&& (127 : Int32)).toInt64))), .second, .unset, .unset]) (rest := []) w82 at_153 rfl rfl ?_
  refine gaload (pc' := 157) (Ls := #[.val (.int q0), .val (.int q1), .val (.int q2), .val (.int q3), .val (.int off), .val (.long fl), .second, .val (.int (0 : Int32)), .val (.ref a1), .val (.long (((((((q0 &&& (127 : Int32)).toInt64) <<< ((21 : Int32) &&& 0x3f).toInt64)) ||| ((((q1 &&& (127 : Int32)).toInt64) <<< ((14 : Int32) &&& 0x3f).toInt64))) ||| ((((q2 &&& (127 : Int32)).toInt64) <<< ((7 : Int32) &&& 0x3f).toInt64))) ||| ((q3 &&& (127 : Int32)).toInt64))), .second, .unset, .unset]) (rest := []) w82 at_155 rfl rfl rfl ?_
  refine giload (pc' := 159) (Ls := #[.val (.int q0), .val (.int q1), .val (.int q2), .val (.int q3), .val (.int off), .val (.long fl), .second, .val (.int (0 : Int32)), .val (.ref a1), .val (.long (((((((q0 &&& (127 : Int32)).toInt64) <<< ((21 : Int32) &&& 0x3f).toInt64)) ||| ((((q1 &&& (127 : Int32)).toInt64) <<< ((14 : Int32) &&& 0x3f).toInt64))) ||| ((((q2 &&& (127 : Int32)).toInt64) <<< ((7 : Int32) &&& 0x3f).toInt64))) ||| ((q3 &&& (127 : Int32)).toInt64))), .second, .unset, .unset]) (rest := [(.ref a1)]) w82 at_157 rfl rfl ?_
  refine gcallS (pc' := 162) (argsL := [(.ref a1), (.int (0 : Int32))]) (rest := []) (Wt := 0) w82 at_159 (hw _ (List.mem_of_getElem? (i := 1) rfl)) (hw _ (List.mem_of_getElem? (i := 2) rfl)) (hw _ (List.mem_of_getElem? (i := 3) rfl)) (hw _ (List.mem_of_getElem? (i := 4) rfl)) (by decide) pd_d1 (own_c0 hw a1 k_a1 _ _ (q0.toInt8.toInt32) (q1.toInt8.toInt32) (q2.toInt8.toInt32) (q3.toInt8.toInt32) V85 rfl rfl rfl rfl) rfl rfl rfl rfl (Nat.le_of_eq rfl) (by decide) (by decide) (by decide) (by decide) rfl (fun v87 T88 h89 w90 q91 => ?_)
  obtain ⟨rfl, eh⟩ := q91
  show Go _ _ _ _ _ _ _ _ _ (mkF m 162 #[.val (.int q0), .val (.int q1), .val (.int q2), .val (.int q3), .val (.int off), .val (.long fl), .second, .val (.int (0 : Int32)), .val (.ref a1), .val (.long (((((((q0 &&& (127 : Int32)).toInt64) <<< ((21 : Int32) &&& 0x3f).toInt64)) ||| ((((q1 &&& (127 : Int32)).toInt64) <<< ((14 : Int32) &&& 0x3f).toInt64))) ||| ((((q2 &&& (127 : Int32)).toInt64) <<< ((7 : Int32) &&& 0x3f).toInt64))) ||| ((q3 &&& (127 : Int32)).toInt64))), .second, .unset, .unset] [(.long (own_acc (q0.toInt8.toInt32) (q1.toInt8.toInt32) (q2.toInt8.toInt32) (q3.toInt8.toInt32)))])
  rw [eh] at w90
  refine glstore (pc' := 164) (Ls := #[.val (.int q0), .val (.int q1), .val (.int q2), .val (.int q3), .val (.int off), .val (.long fl), .second, .val (.int (0 : Int32)), .val (.ref a1), .val (.long (((((((q0 &&& (127 : Int32)).toInt64) <<< ((21 : Int32) &&& 0x3f).toInt64)) ||| ((((q1 &&& (127 : Int32)).toInt64) <<< ((14 : Int32) &&& 0x3f).toInt64))) ||| ((((q2 &&& (127 : Int32)).toInt64) <<< ((7 : Int32) &&& 0x3f).toInt64))) ||| ((q3 &&& (127 : Int32)).toInt64))), .second, .unset, .unset]) (Ls' := #[.val (.int q0), .val (.int q1), .val (.int q2), .val (.int q3), .val (.int off), .val (.long fl), .second, .val (.int (0 : Int32)), .val (.ref a1), .val (.long (((((((q0 &&& (127 : Int32)).toInt64) <<< ((21 : Int32) &&& 0x3f).toInt64)) ||| ((((q1 &&& (127 : Int32)).toInt64) <<< ((14 : Int32) &&& 0x3f).toInt64))) ||| ((((q2 &&& (127 : Int32)).toInt64) <<< ((7 : Int32) &&& 0x3f).toInt64))) ||| ((q3 &&& (127 : Int32)).toInt64))), .second, .val (.long (own_acc (q0.toInt8.toInt32) (q1.toInt8.toInt32) (q2.toInt8.toInt32) (q3.toInt8.toInt32))), .second]) (rest := []) w90 at_162 rfl rfl ?_
  refine glload (pc' := 166) (Ls := #[.val (.int q0), .val (.int q1), .val (.int q2), .val (.int q3), .val (.int off), .val (.long fl), .second, .val (.int (0 : Int32)), .val (.ref a1), .val (.long (((((((q0 &&& (127 : Int32)).toInt64) <<< ((21 : Int32) &&& 0x3f).toInt64)) ||| ((((q1 &&& (127 : Int32)).toInt64) <<< ((14 : Int32) &&& 0x3f).toInt64))) ||| ((((q2 &&& (127 : Int32)).toInt64) <<< ((7 : Int32) &&& 0x3f).toInt64))) ||| ((q3 &&& (127 : Int32)).toInt64))), .second, .val (.long (own_acc (q0.toInt8.toInt32) (q1.toInt8.toInt32) (q2.toInt8.toInt32) (q3.toInt8.toInt32))), .second]) (rest := []) w90 at_164 rfl rfl ?_
  refine glload (pc' := 168) (Ls := #[.val (.int q0), .val (.int q1), .val (.int q2), .val (.int q3), .val (.int off), .val (.long fl), .second, .val (.int (0 : Int32)), .val (.ref a1), .val (.long (((((((q0 &&& (127 : Int32)).toInt64) <<< ((21 : Int32) &&& 0x3f).toInt64)) ||| ((((q1 &&& (127 : Int32)).toInt64) <<< ((14 : Int32) &&& 0x3f).toInt64))) ||| ((((q2 &&& (127 : Int32)).toInt64) <<< ((7 : Int32) &&& 0x3f).toInt64))) ||| ((q3 &&& (127 : Int32)).toInt64))), .second, .val (.long (own_acc (q0.toInt8.toInt32) (q1.toInt8.toInt32) (q2.toInt8.toInt32) (q3.toInt8.toInt32))), .second]) (rest := [(.long (own_acc (q0.toInt8.toInt32) (q1.toInt8.toInt32) (q2.toInt8.toInt32) (q3.toInt8.toInt32)))]) w90 at_166 rfl rfl ?_
  refine glcmpif (pm := 169) (pt := 192) (pf := 172) w90 at_168 rfl at_169 (by decide) rfl rfl (fun (c168 : ¬ (own_acc (q0.toInt8.toInt32) (q1.toInt8.toInt32) (q2.toInt8.toInt32) (q3.toInt8.toInt32)) = (((((((q0 &&& (127 : Int32)).toInt64) <<< ((21 : Int32) &&& 0x3f).toInt64)) ||| ((((q1 &&& (127 : Int32)).toInt64) <<< ((14 : Int32) &&& 0x3f).toInt64))) ||| ((((q2 &&& (127 : Int32)).toInt64) <<< ((7 : Int32) &&& 0x3f).toInt64))) ||| ((q3 &&& (127 : Int32)).toInt64))) => ?_) (fun (c168 : (own_acc (q0.toInt8.toInt32) (q1.toInt8.toInt32) (q2.toInt8.toInt32) (q3.toInt8.toInt32)) = (((((((q0 &&& (127 : Int32)).toInt64) <<< ((21 : Int32) &&& 0x3f).toInt64)) ||| ((((q1 &&& (127 : Int32)).toInt64) <<< ((14 : Int32) &&& 0x3f).toInt64))) ||| ((((q2 &&& (127 : Int32)).toInt64) <<< ((7 : Int32) &&& 0x3f).toInt64))) ||| ((q3 &&& (127 : Int32)).toInt64))) => ?_)
  · refine giconst (v := (0 : Int32)) (pc' := 193) w90 at_192 rfl rfl ?_
    exact absurd (own_eq q0 q1 q2 q3) c168
  · refine glload (pc' := 174) (Ls := #[.val (.int q0), .val (.int q1), .val (.int q2), .val (.int q3), .val (.int off), .val (.long fl), .second, .val (.int (0 : Int32)), .val (.ref a1), .val (.long (((((((q0 &&& (127 : Int32)).toInt64) <<< ((21 : Int32) &&& 0x3f).toInt64)) ||| ((((q1 &&& (127 : Int32)).toInt64) <<< ((14 : Int32) &&& 0x3f).toInt64))) ||| ((((q2 &&& (127 : Int32)).toInt64) <<< ((7 : Int32) &&& 0x3f).toInt64))) ||| ((q3 &&& (127 : Int32)).toInt64))), .second, .val (.long (own_acc (q0.toInt8.toInt32) (q1.toInt8.toInt32) (q2.toInt8.toInt32) (q3.toInt8.toInt32))), .second]) (rest := []) w90 at_172 rfl rfl ?_
    refine glconst (v := (0 : Int64)) (pc' := 175) w90 at_174 rfl rfl ?_
    refine glcmpif (pm := 176) (pt := 192) (pf := 179) w90 at_175 rfl at_176 (by decide) rfl rfl (fun (c175 : (own_acc (q0.toInt8.toInt32) (q1.toInt8.toInt32) (q2.toInt8.toInt32) (q3.toInt8.toInt32)) < (0 : Int64)) => ?_) (fun (c175 : ¬ (own_acc (q0.toInt8.toInt32) (q1.toInt8.toInt32) (q2.toInt8.toInt32) (q3.toInt8.toInt32)) < (0 : Int64)) => ?_)
    · refine giconst (v := (0 : Int32)) (pc' := 193) w90 at_192 rfl rfl ?_
      exact absurd c175 (own_rng q0 q1 q2 q3).1
    · refine glload (pc' := 181) (Ls := #[.val (.int q0), .val (.int q1), .val (.int q2), .val (.int q3), .val (.int off), .val (.long fl), .second, .val (.int (0 : Int32)), .val (.ref a1), .val (.long (((((((q0 &&& (127 : Int32)).toInt64) <<< ((21 : Int32) &&& 0x3f).toInt64)) ||| ((((q1 &&& (127 : Int32)).toInt64) <<< ((14 : Int32) &&& 0x3f).toInt64))) ||| ((((q2 &&& (127 : Int32)).toInt64) <<< ((7 : Int32) &&& 0x3f).toInt64))) ||| ((q3 &&& (127 : Int32)).toInt64))), .second, .val (.long (own_acc (q0.toInt8.toInt32) (q1.toInt8.toInt32) (q2.toInt8.toInt32) (q3.toInt8.toInt32))), .second]) (rest := []) w90 at_179 rfl rfl ?_
      refine gldc2 (v := (268435456 : Int64)) (pc' := 184) w90 at_181 (hw _ (List.mem_of_getElem? (i := 5) rfl)) rfl ?_
      refine glcmpif (pm := 185) (pt := 192) (pf := 188) w90 at_184 rfl at_185 (by decide) rfl rfl (fun (c184 : ¬ (own_acc (q0.toInt8.toInt32) (q1.toInt8.toInt32) (q2.toInt8.toInt32) (q3.toInt8.toInt32)) < (268435456 : Int64)) => ?_) (fun (c184 : (own_acc (q0.toInt8.toInt32) (q1.toInt8.toInt32) (q2.toInt8.toInt32) (q3.toInt8.toInt32)) < (268435456 : Int64)) => ?_)
      · refine giconst (v := (0 : Int32)) (pc' := 193) w90 at_192 rfl rfl ?_
        exact absurd (own_rng q0 q1 q2 q3).2 c184
      · refine giconst (v := (1 : Int32)) (pc' := 189) w90 at_188 rfl rfl ?_
        refine ggoto (pc' := 193) w90 at_189 (by decide) rfl ?_
        exact gretZ w90 at_193 rfl (by decide) (by decide) rfl
set_option maxRecDepth 65536 in
set_option maxHeartbeats 4000000 in
theorem own_n1 (hw : ∀ d ∈ tables_1, d.before a0 Z = true) (w : W Z "com/example/kindred/kindred/index/Id3v2SynchsafePinLaw" "law" code maxLocals ret n0 p l e room_1 s m args below meth c 0 0 T h) (q0 q1 q2 q3 off : Int32) (fl : Int64) (z0 : n0 ≤ h.size) :
    Go n0 p e below s (fun v _ => v = some (.int 1)) room_1.cells room_1.slots T (mkF m 6 #[.val (.int q0), .val (.int q1), .val (.int q2), .val (.int q3), .val (.int off), .val (.long fl), .second, .val (.int (1 : Int32)), .unset, .unset, .unset, .unset, .unset] []) := by
  refine gbipush (v := (7 : Int32)) (pc' := 8) w at_6 rfl rfl ?_
  refine gnewP (pc' := 10) (cap := 7) (ty := .byte) w at_8 rfl (hw _ (List.mem_of_getElem? (i := 0) rfl)) (by decide) (by decide) (by decide) (by decide) (by decide) rfl (fun T93 h94 a92 k_a92 s95 w96 E97 V98 => ?_)
  have g_a92 : n0 ≤ a92 := Nat.le_trans z0 (Nat.le_of_eq s95)
  have z100 := Nat.le_trans z0 E97.1
  have V99 : Arv Z h94 a92 k_a92 .byte (7 : Int32) [(.int (0 : Int32)), (.int (0 : Int32)), (.int (0 : Int32)), (.int (0 : Int32)), (.int (0 : Int32)), (.int (0 : Int32)), (.int (0 : Int32))] (.int (0 : Int32)) := V98.pad (pad_rep [] _ 7)
  refine gastore (pc' := 12) (Ls := #[.val (.int q0), .val (.int q1), .val (.int q2), .val (.int q3), .val (.int off), .val (.long fl), .second, .val (.int (1 : Int32)), .unset, .unset, .unset, .unset, .unset]) (Ls' := #[.val (.int q0), .val (.int q1), .val (.int q2), .val (.int q3), .val (.int off), .val (.long fl), .second, .val (.int (1 : Int32)), .val (.ref a92), .unset, .unset, .unset, .unset]) (rest := []) w96 at_10 rfl rfl rfl ?_
  refine gaload (pc' := 14) (Ls := #[.val (.int q0), .val (.int q1), .val (.int q2), .val (.int q3), .val (.int off), .val (.long fl), .second, .val (.int (1 : Int32)), .val (.ref a92), .unset, .unset, .unset, .unset]) (rest := []) w96 at_12 rfl rfl rfl ?_
  refine giconst (v := (0 : Int32)) (pc' := 15) w96 at_14 rfl rfl ?_
  refine glload (pc' := 17) (Ls := #[.val (.int q0), .val (.int q1), .val (.int q2), .val (.int q3), .val (.int off), .val (.long fl), .second, .val (.int (1 : Int32)), .val (.ref a92), .unset, .unset, .unset, .unset]) (rest := [(.int (0 : Int32)), (.ref a92)]) w96 at_15 rfl rfl ?_
  refine gl2i (pc' := 18) w96 at_17 rfl ?_
  refine gi2b (pc' := 19) w96 at_18 rfl ?_
  refine gbastore (pc' := 20) (x' := ((fl.toInt32).toInt8.toInt32)) w96 at_19 (own_bb _) V99 (by decide) (0) rfl (by simp) g_a92 rfl (fun T101 h102 w103 W104 V105 => ?_)
  have z107 : n0 ≤ h102.size := by rw [W104.size]; exact z100
  have V106 : Arv Z h102 a92 k_a92 .byte (7 : Int32) [(.int ((fl.toInt32).toInt8.toInt32)), (.int (0 : Int32)), (.int (0 : Int32)), (.int (0 : Int32)), (.int (0 : Int32)), (.int (0 : Int32)), (.int (0 : Int32))] (.int (0 : Int32)) := V105
  refine gaload (pc' := 22) (Ls := #[.val (.int q0), .val (.int q1), .val (.int q2), .val (.int q3), .val (.int off), .val (.long fl), .second, .val (.int (1 : Int32)), .val (.ref a92), .unset, .unset, .unset, .unset]) (rest := []) w103 at_20 rfl rfl rfl ?_
  refine giconst (v := (1 : Int32)) (pc' := 23) w103 at_22 rfl rfl ?_
  refine glload (pc' := 25) (Ls := #[.val (.int q0), .val (.int q1), .val (.int q2), .val (.int q3), .val (.int off), .val (.long fl), .second, .val (.int (1 : Int32)), .val (.ref a92), .unset, .unset, .unset, .unset]) (rest := [(.int (1 : Int32)), (.ref a92)]) w103 at_23 rfl rfl ?_
  refine gbipush (v := (8 : Int32)) (pc' := 27) w103 at_25 rfl rfl ?_
  refine glushr (pc' := 28) w103 at_27 rfl ?_
  refine gl2i (pc' := 29) w103 at_28 rfl ?_
  refine gi2b (pc' := 30) w103 at_29 rfl ?_
  refine gbastore (pc' := 31) (x' := (((((fl).toUInt64 >>> ((8 : Int32) &&& 0x3f).toInt64.toUInt64).toInt64).toInt32).toInt8.toInt32)) w103 at_30 (own_bb _) V106 (by decide) (1) rfl (by simp) g_a92 rfl (fun T108 h109 w110 W111 V112 => ?_)
  have z114 : n0 ≤ h109.size := by rw [W111.size]; exact z107
  have V113 : Arv Z h109 a92 k_a92 .byte (7 : Int32) [(.int ((fl.toInt32).toInt8.toInt32)), (.int (((((fl).toUInt64 >>> ((8 : Int32) &&& 0x3f).toInt64.toUInt64).toInt64).toInt32).toInt8.toInt32)), (.int (0 : Int32)), (.int (0 : Int32)), (.int (0 : Int32)), (.int (0 : Int32)), (.int (0 : Int32))] (.int (0 : Int32)) := V112
  refine gaload (pc' := 33) (Ls := #[.val (.int q0), .val (.int q1), .val (.int q2), .val (.int q3), .val (.int off), .val (.long fl), .second, .val (.int (1 : Int32)), .val (.ref a92), .unset, .unset, .unset, .unset]) (rest := []) w110 at_31 rfl rfl rfl ?_
  refine giconst (v := (2 : Int32)) (pc' := 34) w110 at_33 rfl rfl ?_
  refine glload (pc' := 36) (Ls := #[.val (.int q0), .val (.int q1), .val (.int q2), .val (.int q3), .val (.int off), .val (.long fl), .second, .val (.int (1 : Int32)), .val (.ref a92), .unset, .unset, .unset, .unset]) (rest := [(.int (2 : Int32)), (.ref a92)]) w110 at_34 rfl rfl ?_
  refine gbipush (v := (16 : Int32)) (pc' := 38) w110 at_36 rfl rfl ?_
  refine glushr (pc' := 39) w110 at_38 rfl ?_
  refine gl2i (pc' := 40) w110 at_39 rfl ?_
  refine gi2b (pc' := 41) w110 at_40 rfl ?_
  refine gbastore (pc' := 42) (x' := (((((fl).toUInt64 >>> ((16 : Int32) &&& 0x3f).toInt64.toUInt64).toInt64).toInt32).toInt8.toInt32)) w110 at_41 (own_bb _) V113 (by decide) (2) rfl (by simp) g_a92 rfl (fun T115 h116 w117 W118 V119 => ?_)
  have z121 : n0 ≤ h116.size := by rw [W118.size]; exact z114
  have V120 : Arv Z h116 a92 k_a92 .byte (7 : Int32) [(.int ((fl.toInt32).toInt8.toInt32)), (.int (((((fl).toUInt64 >>> ((8 : Int32) &&& 0x3f).toInt64.toUInt64).toInt64).toInt32).toInt8.toInt32)), (.int (((((fl).toUInt64 >>> ((16 : Int32) &&& 0x3f).toInt64.toUInt64).toInt64).toInt32).toInt8.toInt32)), (.int (0 : Int32)), (.int (0 : Int32)), (.int (0 : Int32)), (.int (0 : Int32))] (.int (0 : Int32)) := V119
  refine gaload (pc' := 44) (Ls := #[.val (.int q0), .val (.int q1), .val (.int q2), .val (.int q3), .val (.int off), .val (.long fl), .second, .val (.int (1 : Int32)), .val (.ref a92), .unset, .unset, .unset, .unset]) (rest := []) w117 at_42 rfl rfl rfl ?_
  refine giconst (v := (3 : Int32)) (pc' := 45) w117 at_44 rfl rfl ?_
  refine glload (pc' := 47) (Ls := #[.val (.int q0), .val (.int q1), .val (.int q2), .val (.int q3), .val (.int off), .val (.long fl), .second, .val (.int (1 : Int32)), .val (.ref a92), .unset, .unset, .unset, .unset]) (rest := [(.int (3 : Int32)), (.ref a92)]) w117 at_45 rfl rfl ?_
  refine gbipush (v := (24 : Int32)) (pc' := 49) w117 at_47 rfl rfl ?_
  refine glushr (pc' := 50) w117 at_49 rfl ?_
  refine gl2i (pc' := 51) w117 at_50 rfl ?_
  refine gi2b (pc' := 52) w117 at_51 rfl ?_
  refine gbastore (pc' := 53) (x' := (((((fl).toUInt64 >>> ((24 : Int32) &&& 0x3f).toInt64.toUInt64).toInt64).toInt32).toInt8.toInt32)) w117 at_52 (own_bb _) V120 (by decide) (3) rfl (by simp) g_a92 rfl (fun T122 h123 w124 W125 V126 => ?_)
  have z128 : n0 ≤ h123.size := by rw [W125.size]; exact z121
  have V127 : Arv Z h123 a92 k_a92 .byte (7 : Int32) [(.int ((fl.toInt32).toInt8.toInt32)), (.int (((((fl).toUInt64 >>> ((8 : Int32) &&& 0x3f).toInt64.toUInt64).toInt64).toInt32).toInt8.toInt32)), (.int (((((fl).toUInt64 >>> ((16 : Int32) &&& 0x3f).toInt64.toUInt64).toInt64).toInt32).toInt8.toInt32)), (.int (((((fl).toUInt64 >>> ((24 : Int32) &&& 0x3f).toInt64.toUInt64).toInt64).toInt32).toInt8.toInt32)), (.int (0 : Int32)), (.int (0 : Int32)), (.int (0 : Int32))] (.int (0 : Int32)) := V126
  refine gaload (pc' := 55) (Ls := #[.val (.int q0), .val (.int q1), .val (.int q2), .val (.int q3), .val (.int off), .val (.long fl), .second, .val (.int (1 : Int32)), .val (.ref a92), .unset, .unset, .unset, .unset]) (rest := []) w124 at_53 rfl rfl rfl ?_
  refine giconst (v := (4 : Int32)) (pc' := 56) w124 at_55 rfl rfl ?_
  refine glload (pc' := 58) (Ls := #[.val (.int q0), .val (.int q1), .val (.int q2), .val (.int q3), .val (.int off), .val (.long fl), .second, .val (.int (1 : Int32)), .val (.ref a92), .unset, .unset, .unset, .unset]) (rest := [(.int (4 : Int32)), (.ref a92)]) w124 at_56 rfl rfl ?_
  refine gbipush (v := (32 : Int32)) (pc' := 60) w124 at_58 rfl rfl ?_
  refine glushr (pc' := 61) w124 at_60 rfl ?_
  refine gl2i (pc' := 62) w124 at_61 rfl ?_
  refine gi2b (pc' := 63) w124 at_62 rfl ?_
  refine gbastore (pc' := 64) (x' := (((((fl).toUInt64 >>> ((32 : Int32) &&& 0x3f).toInt64.toUInt64).toInt64).toInt32).toInt8.toInt32)) w124 at_63 (own_bb _) V127 (by decide) (4) rfl (by simp) g_a92 rfl (fun T129 h130 w131 W132 V133 => ?_)
  have z135 : n0 ≤ h130.size := by rw [W132.size]; exact z128
  have V134 : Arv Z h130 a92 k_a92 .byte (7 : Int32) [(.int ((fl.toInt32).toInt8.toInt32)), (.int (((((fl).toUInt64 >>> ((8 : Int32) &&& 0x3f).toInt64.toUInt64).toInt64).toInt32).toInt8.toInt32)), (.int (((((fl).toUInt64 >>> ((16 : Int32) &&& 0x3f).toInt64.toUInt64).toInt64).toInt32).toInt8.toInt32)), (.int (((((fl).toUInt64 >>> ((24 : Int32) &&& 0x3f).toInt64.toUInt64).toInt64).toInt32).toInt8.toInt32)), (.int (((((fl).toUInt64 >>> ((32 : Int32) &&& 0x3f).toInt64.toUInt64).toInt64).toInt32).toInt8.toInt32)), (.int (0 : Int32)), (.int (0 : Int32))] (.int (0 : Int32)) := V133
  refine gaload (pc' := 66) (Ls := #[.val (.int q0), .val (.int q1), .val (.int q2), .val (.int q3), .val (.int off), .val (.long fl), .second, .val (.int (1 : Int32)), .val (.ref a92), .unset, .unset, .unset, .unset]) (rest := []) w131 at_64 rfl rfl rfl ?_
  refine giconst (v := (5 : Int32)) (pc' := 67) w131 at_66 rfl rfl ?_
  refine glload (pc' := 69) (Ls := #[.val (.int q0), .val (.int q1), .val (.int q2), .val (.int q3), .val (.int off), .val (.long fl), .second, .val (.int (1 : Int32)), .val (.ref a92), .unset, .unset, .unset, .unset]) (rest := [(.int (5 : Int32)), (.ref a92)]) w131 at_67 rfl rfl ?_
  refine gbipush (v := (40 : Int32)) (pc' := 71) w131 at_69 rfl rfl ?_
  refine glushr (pc' := 72) w131 at_71 rfl ?_
  refine gl2i (pc' := 73) w131 at_72 rfl ?_
  refine gi2b (pc' := 74) w131 at_73 rfl ?_
  refine gbastore (pc' := 75) (x' := (((((fl).toUInt64 >>> ((40 : Int32) &&& 0x3f).toInt64.toUInt64).toInt64).toInt32).toInt8.toInt32)) w131 at_74 (own_bb _) V134 (by decide) (5) rfl (by simp) g_a92 rfl (fun T136 h137 w138 W139 V140 => ?_)
  have z142 : n0 ≤ h137.size := by rw [W139.size]; exact z135
  have V141 : Arv Z h137 a92 k_a92 .byte (7 : Int32) [(.int ((fl.toInt32).toInt8.toInt32)), (.int (((((fl).toUInt64 >>> ((8 : Int32) &&& 0x3f).toInt64.toUInt64).toInt64).toInt32).toInt8.toInt32)), (.int (((((fl).toUInt64 >>> ((16 : Int32) &&& 0x3f).toInt64.toUInt64).toInt64).toInt32).toInt8.toInt32)), (.int (((((fl).toUInt64 >>> ((24 : Int32) &&& 0x3f).toInt64.toUInt64).toInt64).toInt32).toInt8.toInt32)), (.int (((((fl).toUInt64 >>> ((32 : Int32) &&& 0x3f).toInt64.toUInt64).toInt64).toInt32).toInt8.toInt32)), (.int (((((fl).toUInt64 >>> ((40 : Int32) &&& 0x3f).toInt64.toUInt64).toInt64).toInt32).toInt8.toInt32)), (.int (0 : Int32))] (.int (0 : Int32)) := V140
  refine gaload (pc' := 77) (Ls := #[.val (.int q0), .val (.int q1), .val (.int q2), .val (.int q3), .val (.int off), .val (.long fl), .second, .val (.int (1 : Int32)), .val (.ref a92), .unset, .unset, .unset, .unset]) (rest := []) w138 at_75 rfl rfl rfl ?_
  refine gbipush (v := (6 : Int32)) (pc' := 79) w138 at_77 rfl rfl ?_
  refine glload (pc' := 81) (Ls := #[.val (.int q0), .val (.int q1), .val (.int q2), .val (.int q3), .val (.int off), .val (.long fl), .second, .val (.int (1 : Int32)), .val (.ref a92), .unset, .unset, .unset, .unset]) (rest := [(.int (6 : Int32)), (.ref a92)]) w138 at_79 rfl rfl ?_
  refine gbipush (v := (48 : Int32)) (pc' := 83) w138 at_81 rfl rfl ?_
  refine glushr (pc' := 84) w138 at_83 rfl ?_
  refine gl2i (pc' := 85) w138 at_84 rfl ?_
  refine gi2b (pc' := 86) w138 at_85 rfl ?_
  refine gbastore (pc' := 87) (x' := (((((fl).toUInt64 >>> ((48 : Int32) &&& 0x3f).toInt64.toUInt64).toInt64).toInt32).toInt8.toInt32)) w138 at_86 (own_bb _) V141 (by decide) (6) rfl (by simp) g_a92 rfl (fun T143 h144 w145 W146 V147 => ?_)
  have z149 : n0 ≤ h144.size := by rw [W146.size]; exact z142
  have V148 : Arv Z h144 a92 k_a92 .byte (7 : Int32) [(.int ((fl.toInt32).toInt8.toInt32)), (.int (((((fl).toUInt64 >>> ((8 : Int32) &&& 0x3f).toInt64.toUInt64).toInt64).toInt32).toInt8.toInt32)), (.int (((((fl).toUInt64 >>> ((16 : Int32) &&& 0x3f).toInt64.toUInt64).toInt64).toInt32).toInt8.toInt32)), (.int (((((fl).toUInt64 >>> ((24 : Int32) &&& 0x3f).toInt64.toUInt64).toInt64).toInt32).toInt8.toInt32)), (.int (((((fl).toUInt64 >>> ((32 : Int32) &&& 0x3f).toInt64.toUInt64).toInt64).toInt32).toInt8.toInt32)), (.int (((((fl).toUInt64 >>> ((40 : Int32) &&& 0x3f).toInt64.toUInt64).toInt64).toInt32).toInt8.toInt32)), (.int (((((fl).toUInt64 >>> ((48 : Int32) &&& 0x3f).toInt64.toUInt64).toInt64).toInt32).toInt8.toInt32))] (.int (0 : Int32)) := V147
  refine gaload (pc' := 89) (Ls := #[.val (.int q0), .val (.int q1), .val (.int q2), .val (.int q3), .val (.int off), .val (.long fl), .second, .val (.int (1 : Int32)), .val (.ref a92), .unset, .unset, .unset, .unset]) (rest := []) w145 at_87 rfl rfl rfl ?_
  refine giload (pc' := 91) (Ls := #[.val (.int q0), .val (.int q1), .val (.int q2), .val (.int q3), .val (.int off), .val (.long fl), .second, .val (.int (1 : Int32)), .val (.ref a92), .unset, .unset, .unset, .unset]) (rest := [(.ref a92)]) w145 at_89 rfl rfl ?_
  refine giloadN (pc' := 92) (Ls := #[.val (.int q0), .val (.int q1), .val (.int q2), .val (.int q3), .val (.int off), .val (.long fl), .second, .val (.int (1 : Int32)), .val (.ref a92), .unset, .unset, .unset, .unset]) (rest := [(.int (1 : Int32)), (.ref a92)]) w145 at_91 rfl rfl ?_
  refine gi2b (pc' := 93) w145 at_92 rfl ?_
  refine gbastore (pc' := 94) (x' := (q0.toInt8.toInt32)) w145 at_93 (own_bb _) V148 (by decide) (1) rfl (by simp) g_a92 rfl (fun T150 h151 w152 W153 V154 => ?_)
  have z156 : n0 ≤ h151.size := by rw [W153.size]; exact z149
  have V155 : Arv Z h151 a92 k_a92 .byte (7 : Int32) [(.int ((fl.toInt32).toInt8.toInt32)), (.int (q0.toInt8.toInt32)), (.int (((((fl).toUInt64 >>> ((16 : Int32) &&& 0x3f).toInt64.toUInt64).toInt64).toInt32).toInt8.toInt32)), (.int (((((fl).toUInt64 >>> ((24 : Int32) &&& 0x3f).toInt64.toUInt64).toInt64).toInt32).toInt8.toInt32)), (.int (((((fl).toUInt64 >>> ((32 : Int32) &&& 0x3f).toInt64.toUInt64).toInt64).toInt32).toInt8.toInt32)), (.int (((((fl).toUInt64 >>> ((40 : Int32) &&& 0x3f).toInt64.toUInt64).toInt64).toInt32).toInt8.toInt32)), (.int (((((fl).toUInt64 >>> ((48 : Int32) &&& 0x3f).toInt64.toUInt64).toInt64).toInt32).toInt8.toInt32))] (.int (0 : Int32)) := V154
  refine gaload (pc' := 96) (Ls := #[.val (.int q0), .val (.int q1), .val (.int q2), .val (.int q3), .val (.int off), .val (.long fl), .second, .val (.int (1 : Int32)), .val (.ref a92), .unset, .unset, .unset, .unset]) (rest := []) w152 at_94 rfl rfl rfl ?_
  refine giload (pc' := 98) (Ls := #[.val (.int q0), .val (.int q1), .val (.int q2), .val (.int q3), .val (.int off), .val (.long fl), .second, .val (.int (1 : Int32)), .val (.ref a92), .unset, .unset, .unset, .unset]) (rest := [(.ref a92)]) w152 at_96 rfl rfl ?_
  refine giconst (v := (1 : Int32)) (pc' := 99) w152 at_98 rfl rfl ?_
  refine giadd (pc' := 100) w152 at_99 rfl ?_
  refine giloadN (pc' := 101) (Ls := #[.val (.int q0), .val (.int q1), .val (.int q2), .val (.int q3), .val (.int off), .val (.long fl), .second, .val (.int (1 : Int32)), .val (.ref a92), .unset, .unset, .unset, .unset]) (rest := [(.int ((1 : Int32) + (1 : Int32))), (.ref a92)]) w152 at_100 rfl rfl ?_
  refine gi2b (pc' := 102) w152 at_101 rfl ?_
  refine gbastore (pc' := 103) (x' := (q1.toInt8.toInt32)) w152 at_102 (own_bb _) V155 (by decide) (2) rfl (by simp) g_a92 rfl (fun T157 h158 w159 W160 V161 => ?_)
  have z163 : n0 ≤ h158.size := by rw [W160.size]; exact z156
  have V162 : Arv Z h158 a92 k_a92 .byte (7 : Int32) [(.int ((fl.toInt32).toInt8.toInt32)), (.int (q0.toInt8.toInt32)), (.int (q1.toInt8.toInt32)), (.int (((((fl).toUInt64 >>> ((24 : Int32) &&& 0x3f).toInt64.toUInt64).toInt64).toInt32).toInt8.toInt32)), (.int (((((fl).toUInt64 >>> ((32 : Int32) &&& 0x3f).toInt64.toUInt64).toInt64).toInt32).toInt8.toInt32)), (.int (((((fl).toUInt64 >>> ((40 : Int32) &&& 0x3f).toInt64.toUInt64).toInt64).toInt32).toInt8.toInt32)), (.int (((((fl).toUInt64 >>> ((48 : Int32) &&& 0x3f).toInt64.toUInt64).toInt64).toInt32).toInt8.toInt32))] (.int (0 : Int32)) := V161
  refine gaload (pc' := 105) (Ls := #[.val (.int q0), .val (.int q1), .val (.int q2), .val (.int q3), .val (.int off), .val (.long fl), .second, .val (.int (1 : Int32)), .val (.ref a92), .unset, .unset, .unset, .unset]) (rest := []) w159 at_103 rfl rfl rfl ?_
  refine giload (pc' := 107) (Ls := #[.val (.int q0), .val (.int q1), .val (.int q2), .val (.int q3), .val (.int off), .val (.long fl), .second, .val (.int (1 : Int32)), .val (.ref a92), .unset, .unset, .unset, .unset]) (rest := [(.ref a92)]) w159 at_105 rfl rfl ?_
  refine giconst (v := (2 : Int32)) (pc' := 108) w159 at_107 rfl rfl ?_
  refine giadd (pc' := 109) w159 at_108 rfl ?_
  refine giloadN (pc' := 110) (Ls := #[.val (.int q0), .val (.int q1), .val (.int q2), .val (.int q3), .val (.int off), .val (.long fl), .second, .val (.int (1 : Int32)), .val (.ref a92), .unset, .unset, .unset, .unset]) (rest := [(.int ((1 : Int32) + (2 : Int32))), (.ref a92)]) w159 at_109 rfl rfl ?_
  refine gi2b (pc' := 111) w159 at_110 rfl ?_
  refine gbastore (pc' := 112) (x' := (q2.toInt8.toInt32)) w159 at_111 (own_bb _) V162 (by decide) (3) rfl (by simp) g_a92 rfl (fun T164 h165 w166 W167 V168 => ?_)
  have z170 : n0 ≤ h165.size := by rw [W167.size]; exact z163
  have V169 : Arv Z h165 a92 k_a92 .byte (7 : Int32) [(.int ((fl.toInt32).toInt8.toInt32)), (.int (q0.toInt8.toInt32)), (.int (q1.toInt8.toInt32)), (.int (q2.toInt8.toInt32)), (.int (((((fl).toUInt64 >>> ((32 : Int32) &&& 0x3f).toInt64.toUInt64).toInt64).toInt32).toInt8.toInt32)), (.int (((((fl).toUInt64 >>> ((40 : Int32) &&& 0x3f).toInt64.toUInt64).toInt64).toInt32).toInt8.toInt32)), (.int (((((fl).toUInt64 >>> ((48 : Int32) &&& 0x3f).toInt64.toUInt64).toInt64).toInt32).toInt8.toInt32))] (.int (0 : Int32)) := V168
  refine gaload (pc' := 114) (Ls := #[.val (.int q0), .val (.int q1), .val (.int q2), .val (.int q3), .val (.int off), .val (.long fl), .second, .val (.int (1 : Int32)), .val (.ref a92), .unset, .unset, .unset, .unset]) (rest := []) w166 at_112 rfl rfl rfl ?_
  refine giload (pc' := 116) (Ls := #[.val (.int q0), .val (.int q1), .val (.int q2), .val (.int q3), .val (.int off), .val (.long fl), .second, .val (.int (1 : Int32)), .val (.ref a92), .unset, .unset, .unset, .unset]) (rest := [(.ref a92)]) w166 at_114 rfl rfl ?_
  refine giconst (v := (3 : Int32)) (pc' := 117) w166 at_116 rfl rfl ?_
  refine giadd (pc' := 118) w166 at_117 rfl ?_
  refine giloadN (pc' := 119) (Ls := #[.val (.int q0), .val (.int q1), .val (.int q2), .val (.int q3), .val (.int off), .val (.long fl), .second, .val (.int (1 : Int32)), .val (.ref a92), .unset, .unset, .unset, .unset]) (rest := [(.int ((1 : Int32) + (3 : Int32))), (.ref a92)]) w166 at_118 rfl rfl ?_
  refine gi2b (pc' := 120) w166 at_119 rfl ?_
  refine gbastore (pc' := 121) (x' := (q3.toInt8.toInt32)) w166 at_120 (own_bb _) V169 (by decide) (4) rfl (by simp) g_a92 rfl (fun T171 h172 w173 W174 V175 => ?_)
  have z177 : n0 ≤ h172.size := by rw [W174.size]; exact z170
  have V176 : Arv Z h172 a92 k_a92 .byte (7 : Int32) [(.int ((fl.toInt32).toInt8.toInt32)), (.int (q0.toInt8.toInt32)), (.int (q1.toInt8.toInt32)), (.int (q2.toInt8.toInt32)), (.int (q3.toInt8.toInt32)), (.int (((((fl).toUInt64 >>> ((40 : Int32) &&& 0x3f).toInt64.toUInt64).toInt64).toInt32).toInt8.toInt32)), (.int (((((fl).toUInt64 >>> ((48 : Int32) &&& 0x3f).toInt64.toUInt64).toInt64).toInt32).toInt8.toInt32))] (.int (0 : Int32)) := V175
  refine giloadN (pc' := 122) (Ls := #[.val (.int q0), .val (.int q1), .val (.int q2), .val (.int q3), .val (.int off), .val (.long fl), .second, .val (.int (1 : Int32)), .val (.ref a92), .unset, .unset, .unset, .unset]) (rest := []) w173 at_121 rfl rfl ?_
  refine gbipush (v := (127 : Int32)) (pc' := 124) w173 at_122 rfl rfl ?_
  refine giand (pc' := 125) w173 at_124 rfl ?_
  refine gi2l (pc' := 126) w173 at_125 rfl ?_
  refine gbipush (v := (21 : Int32)) (pc' := 128) w173 at_126 rfl rfl ?_
  refine glshl (pc' := 129) w173 at_128 rfl ?_
  refine giloadN (pc' := 130) (Ls := #[.val (.int q0), .val (.int q1), .val (.int q2), .val (.int q3), .val (.int off), .val (.long fl), .second, .val (.int (1 : Int32)), .val (.ref a92), .unset, .unset, .unset, .unset]) (rest := [(.long ((((q0 &&& (127 : Int32)).toInt64) <<< ((21 : Int32) &&& 0x3f).toInt64)))]) w173 at_129 rfl rfl ?_
  refine gbipush (v := (127 : Int32)) (pc' := 132) w173 at_130 rfl rfl ?_
  refine giand (pc' := 133) w173 at_132 rfl ?_
  refine gi2l (pc' := 134) w173 at_133 rfl ?_
  refine gbipush (v := (14 : Int32)) (pc' := 136) w173 at_134 rfl rfl ?_
  refine glshl (pc' := 137) w173 at_136 rfl ?_
  refine glor (pc' := 138) w173 at_137 rfl ?_
  refine giloadN (pc' := 139) (Ls := #[.val (.int q0), .val (.int q1), .val (.int q2), .val (.int q3), .val (.int off), .val (.long fl), .second, .val (.int (1 : Int32)), .val (.ref a92), .unset, .unset, .unset, .unset]) (rest := [(.long (((((q0 &&& (127 : Int32)).toInt64) <<< ((21 : Int32) &&& 0x3f).toInt64)) ||| ((((q1 &&& (127 : Int32)).toInt64) <<< ((14 : Int32) &&& 0x3f).toInt64))))]) w173 at_138 rfl rfl ?_
  refine gbipush (v := (127 : Int32)) (pc' := 141) w173 at_139 rfl rfl ?_
  refine giand (pc' := 142) w173 at_141 rfl ?_
  refine gi2l (pc' := 143) w173 at_142 rfl ?_
  refine gbipush (v := (7 : Int32)) (pc' := 145) w173 at_143 rfl rfl ?_
  refine glshl (pc' := 146) w173 at_145 rfl ?_
  refine glor (pc' := 147) w173 at_146 rfl ?_
  refine giloadN (pc' := 148) (Ls := #[.val (.int q0), .val (.int q1), .val (.int q2), .val (.int q3), .val (.int off), .val (.long fl), .second, .val (.int (1 : Int32)), .val (.ref a92), .unset, .unset, .unset, .unset]) (rest := [(.long ((((((q0 &&& (127 : Int32)).toInt64) <<< ((21 : Int32) &&& 0x3f).toInt64)) ||| ((((q1 &&& (127 : Int32)).toInt64) <<< ((14 : Int32) &&& 0x3f).toInt64))) ||| ((((q2 &&& (127 : Int32)).toInt64) <<< ((7 : Int32) &&& 0x3f).toInt64))))]) w173 at_147 rfl rfl ?_
  refine gbipush (v := (127 : Int32)) (pc' := 150) w173 at_148 rfl rfl ?_
  refine giand (pc' := 151) w173 at_150 rfl ?_
  refine gi2l (pc' := 152) w173 at_151 rfl ?_
  refine glor (pc' := 153) w173 at_152 rfl ?_
  refine glstore (pc' := 155) (Ls := #[.val (.int q0), .val (.int q1), .val (.int q2), .val (.int q3), .val (.int off), .val (.long fl), .second, .val (.int (1 : Int32)), .val (.ref a92), .unset, .unset, .unset, .unset]) (Ls' := #[.val (.int q0), .val (.int q1), .val (.int q2), .val (.int q3), .val (.int off), .val (.long fl), .second, .val (.int (1 : Int32)), .val (.ref a92), .val (.long (((((((q0 &&& (127 : Int32)).toInt64) <<< ((21 : Int32) &&& 0x3f).toInt64)) ||| ((((q1 &&& (127 : Int32)).toInt64) <<< ((14 : Int32) &&& 0x3f).toInt64))) ||| ((((q2 &&& (127 : Int32)).toInt64) <<< ((7 : Int32) &&& 0x3f).toInt64))) ||| ((q3 &&& (127 : Int32)).toInt64))), .second, .unset, .unset]) (rest := []) w173 at_153 rfl rfl ?_
  refine gaload (pc' := 157) (Ls := #[.val (.int q0), .val (.int q1), .val (.int q2), .val (.int q3), .val (.int off), .val (.long fl), .second, .val (.int (1 : Int32)), .val (.ref a92), .val (.long (((((((q0 &&& (127 : Int32)).toInt64) <<< ((21 : Int32) &&& 0x3f).toInt64)) ||| ((((q1 &&& (127 : Int32)).toInt64) <<< ((14 : Int32) &&& 0x3f).toInt64))) ||| ((((q2 &&& (127 : Int32)).toInt64) <<< ((7 : Int32) &&& 0x3f).toInt64))) ||| ((q3 &&& (127 : Int32)).toInt64))), .second, .unset, .unset]) (rest := []) w173 at_155 rfl rfl rfl ?_
  refine giload (pc' := 159) (Ls := #[.val (.int q0), .val (.int q1), .val (.int q2), .val (.int q3), .val (.int off), .val (.long fl), .second, .val (.int (1 : Int32)), .val (.ref a92), .val (.long (((((((q0 &&& (127 : Int32)).toInt64) <<< ((21 : Int32) &&& 0x3f).toInt64)) ||| ((((q1 &&& (127 : Int32)).toInt64) <<< ((14 : Int32) &&& 0x3f).toInt64))) ||| ((((q2 &&& (127 : Int32)).toInt64) <<< ((7 : Int32) &&& 0x3f).toInt64))) ||| ((q3 &&& (127 : Int32)).toInt64))), .second, .unset, .unset]) (rest := [(.ref a92)]) w173 at_157 rfl rfl ?_
  refine gcallS (pc' := 162) (argsL := [(.ref a92), (.int (1 : Int32))]) (rest := []) (Wt := 0) w173 at_159 (hw _ (List.mem_of_getElem? (i := 1) rfl)) (hw _ (List.mem_of_getElem? (i := 2) rfl)) (hw _ (List.mem_of_getElem? (i := 3) rfl)) (hw _ (List.mem_of_getElem? (i := 4) rfl)) (by decide) pd_d1 (own_c1 hw a92 k_a92 _ _ (q0.toInt8.toInt32) (q1.toInt8.toInt32) (q2.toInt8.toInt32) (q3.toInt8.toInt32) V176 rfl rfl rfl rfl) rfl rfl rfl rfl (Nat.le_of_eq rfl) (by decide) (by decide) (by decide) (by decide) rfl (fun v178 T179 h180 w181 q182 => ?_)
  obtain ⟨rfl, eh⟩ := q182
  show Go _ _ _ _ _ _ _ _ _ (mkF m 162 #[.val (.int q0), .val (.int q1), .val (.int q2), .val (.int q3), .val (.int off), .val (.long fl), .second, .val (.int (1 : Int32)), .val (.ref a92), .val (.long (((((((q0 &&& (127 : Int32)).toInt64) <<< ((21 : Int32) &&& 0x3f).toInt64)) ||| ((((q1 &&& (127 : Int32)).toInt64) <<< ((14 : Int32) &&& 0x3f).toInt64))) ||| ((((q2 &&& (127 : Int32)).toInt64) <<< ((7 : Int32) &&& 0x3f).toInt64))) ||| ((q3 &&& (127 : Int32)).toInt64))), .second, .unset, .unset] [(.long (own_acc (q0.toInt8.toInt32) (q1.toInt8.toInt32) (q2.toInt8.toInt32) (q3.toInt8.toInt32)))])
  rw [eh] at w181
  refine glstore (pc' := 164) (Ls := #[.val (.int q0), .val (.int q1), .val (.int q2), .val (.int q3), .val (.int off), .val (.long fl), .second, .val (.int (1 : Int32)), .val (.ref a92), .val (.long (((((((q0 &&& (127 : Int32)).toInt64) <<< ((21 : Int32) &&& 0x3f).toInt64)) ||| ((((q1 &&& (127 : Int32)).toInt64) <<< ((14 : Int32) &&& 0x3f).toInt64))) ||| ((((q2 &&& (127 : Int32)).toInt64) <<< ((7 : Int32) &&& 0x3f).toInt64))) ||| ((q3 &&& (127 : Int32)).toInt64))), .second, .unset, .unset]) (Ls' := #[.val (.int q0), .val (.int q1), .val (.int q2), .val (.int q3), .val (.int off), .val (.long fl), .second, .val (.int (1 : Int32)), .val (.ref a92), .val (.long (((((((q0 &&& (127 : Int32)).toInt64) <<< ((21 : Int32) &&& 0x3f).toInt64)) ||| ((((q1 &&& (127 : Int32)).toInt64) <<< ((14 : Int32) &&& 0x3f).toInt64))) ||| ((((q2 &&& (127 : Int32)).toInt64) <<< ((7 : Int32) &&& 0x3f).toInt64))) ||| ((q3 &&& (127 : Int32)).toInt64))), .second, .val (.long (own_acc (q0.toInt8.toInt32) (q1.toInt8.toInt32) (q2.toInt8.toInt32) (q3.toInt8.toInt32))), .second]) (rest := []) w181 at_162 rfl rfl ?_
  refine glload (pc' := 166) (Ls := #[.val (.int q0), .val (.int q1), .val (.int q2), .val (.int q3), .val (.int off), .val (.long fl), .second, .val (.int (1 : Int32)), .val (.ref a92), .val (.long (((((((q0 &&& (127 : Int32)).toInt64) <<< ((21 : Int32) &&& 0x3f).toInt64)) ||| ((((q1 &&& (127 : Int32)).toInt64) <<< ((14 : Int32) &&& 0x3f).toInt64))) ||| ((((q2 &&& (127 : Int32)).toInt64) <<< ((7 : Int32) &&& 0x3f).toInt64))) ||| ((q3 &&& (127 : Int32)).toInt64))), .second, .val (.long (own_acc (q0.toInt8.toInt32) (q1.toInt8.toInt32) (q2.toInt8.toInt32) (q3.toInt8.toInt32))), .second]) (rest := []) w181 at_164 rfl rfl ?_
  refine glload (pc' := 168) (Ls := #[.val (.int q0), .val (.int q1), .val (.int q2), .val (.int q3), .val (.int off), .val (.long fl), .second, .val (.int (1 : Int32)), .val (.ref a92), .val (.long (((((((q0 &&& (127 : Int32)).toInt64) <<< ((21 : Int32) &&& 0x3f).toInt64)) ||| ((((q1 &&& (127 : Int32)).toInt64) <<< ((14 : Int32) &&& 0x3f).toInt64))) ||| ((((q2 &&& (127 : Int32)).toInt64) <<< ((7 : Int32) &&& 0x3f).toInt64))) ||| ((q3 &&& (127 : Int32)).toInt64))), .second, .val (.long (own_acc (q0.toInt8.toInt32) (q1.toInt8.toInt32) (q2.toInt8.toInt32) (q3.toInt8.toInt32))), .second]) (rest := [(.long (own_acc (q0.toInt8.toInt32) (q1.toInt8.toInt32) (q2.toInt8.toInt32) (q3.toInt8.toInt32)))]) w181 at_166 rfl rfl ?_
  refine glcmpif (pm := 169) (pt := 192) (pf := 172) w181 at_168 rfl at_169 (by decide) rfl rfl (fun (c168 : ¬ (own_acc (q0.toInt8.toInt32) (q1.toInt8.toInt32) (q2.toInt8.toInt32) (q3.toInt8.toInt32)) = (((((((q0 &&& (127 : Int32)).toInt64) <<< ((21 : Int32) &&& 0x3f).toInt64)) ||| ((((q1 &&& (127 : Int32)).toInt64) <<< ((14 : Int32) &&& 0x3f).toInt64))) ||| ((((q2 &&& (127 : Int32)).toInt64) <<< ((7 : Int32) &&& 0x3f).toInt64))) ||| ((q3 &&& (127 : Int32)).toInt64))) => ?_) (fun (c168 : (own_acc (q0.toInt8.toInt32) (q1.toInt8.toInt32) (q2.toInt8.toInt32) (q3.toInt8.toInt32)) = (((((((q0 &&& (127 : Int32)).toInt64) <<< ((21 : Int32) &&& 0x3f).toInt64)) ||| ((((q1 &&& (127 : Int32)).toInt64) <<< ((14 : Int32) &&& 0x3f).toInt64))) ||| ((((q2 &&& (127 : Int32)).toInt64) <<< ((7 : Int32) &&& 0x3f).toInt64))) ||| ((q3 &&& (127 : Int32)).toInt64))) => ?_)
  · refine giconst (v := (0 : Int32)) (pc' := 193) w181 at_192 rfl rfl ?_
    exact absurd (own_eq q0 q1 q2 q3) c168
  · refine glload (pc' := 174) (Ls := #[.val (.int q0), .val (.int q1), .val (.int q2), .val (.int q3), .val (.int off), .val (.long fl), .second, .val (.int (1 : Int32)), .val (.ref a92), .val (.long (((((((q0 &&& (127 : Int32)).toInt64) <<< ((21 : Int32) &&& 0x3f).toInt64)) ||| ((((q1 &&& (127 : Int32)).toInt64) <<< ((14 : Int32) &&& 0x3f).toInt64))) ||| ((((q2 &&& (127 : Int32)).toInt64) <<< ((7 : Int32) &&& 0x3f).toInt64))) ||| ((q3 &&& (127 : Int32)).toInt64))), .second, .val (.long (own_acc (q0.toInt8.toInt32) (q1.toInt8.toInt32) (q2.toInt8.toInt32) (q3.toInt8.toInt32))), .second]) (rest := []) w181 at_172 rfl rfl ?_
    refine glconst (v := (0 : Int64)) (pc' := 175) w181 at_174 rfl rfl ?_
    refine glcmpif (pm := 176) (pt := 192) (pf := 179) w181 at_175 rfl at_176 (by decide) rfl rfl (fun (c175 : (own_acc (q0.toInt8.toInt32) (q1.toInt8.toInt32) (q2.toInt8.toInt32) (q3.toInt8.toInt32)) < (0 : Int64)) => ?_) (fun (c175 : ¬ (own_acc (q0.toInt8.toInt32) (q1.toInt8.toInt32) (q2.toInt8.toInt32) (q3.toInt8.toInt32)) < (0 : Int64)) => ?_)
    · refine giconst (v := (0 : Int32)) (pc' := 193) w181 at_192 rfl rfl ?_
      exact absurd c175 (own_rng q0 q1 q2 q3).1
    · refine glload (pc' := 181) (Ls := #[.val (.int q0), .val (.int q1), .val (.int q2), .val (.int q3), .val (.int off), .val (.long fl), .second, .val (.int (1 : Int32)), .val (.ref a92), .val (.long (((((((q0 &&& (127 : Int32)).toInt64) <<< ((21 : Int32) &&& 0x3f).toInt64)) ||| ((((q1 &&& (127 : Int32)).toInt64) <<< ((14 : Int32) &&& 0x3f).toInt64))) ||| ((((q2 &&& (127 : Int32)).toInt64) <<< ((7 : Int32) &&& 0x3f).toInt64))) ||| ((q3 &&& (127 : Int32)).toInt64))), .second, .val (.long (own_acc (q0.toInt8.toInt32) (q1.toInt8.toInt32) (q2.toInt8.toInt32) (q3.toInt8.toInt32))), .second]) (rest := []) w181 at_179 rfl rfl ?_
      refine gldc2 (v := (268435456 : Int64)) (pc' := 184) w181 at_181 (hw _ (List.mem_of_getElem? (i := 5) rfl)) rfl ?_
      refine glcmpif (pm := 185) (pt := 192) (pf := 188) w181 at_184 rfl at_185 (by decide) rfl rfl (fun (c184 : ¬ (own_acc (q0.toInt8.toInt32) (q1.toInt8.toInt32) (q2.toInt8.toInt32) (q3.toInt8.toInt32)) < (268435456 : Int64)) => ?_) (fun (c184 : (own_acc (q0.toInt8.toInt32) (q1.toInt8.toInt32) (q2.toInt8.toInt32) (q3.toInt8.toInt32)) < (268435456 : Int64)) => ?_)
      · refine giconst (v := (0 : Int32)) (pc' := 193) w181 at_192 rfl rfl ?_
        exact absurd (own_rng q0 q1 q2 q3).2 c184
      · refine giconst (v := (1 : Int32)) (pc' := 189) w181 at_188 rfl rfl ?_
        refine ggoto (pc' := 193) w181 at_189 (by decide) rfl ?_
        exact gretZ w181 at_193 rfl (by decide) (by decide) rfl
set_option maxRecDepth 65536 in
set_option maxHeartbeats 4000000 in
theorem own_n2 (hw : ∀ d ∈ tables_1, d.before a0 Z = true) (w : W Z "com/example/kindred/kindred/index/Id3v2SynchsafePinLaw" "law" code maxLocals ret n0 p l e room_1 s m args below meth c 0 0 T h) (q0 q1 q2 q3 off : Int32) (fl : Int64) (z0 : n0 ≤ h.size) :
    Go n0 p e below s (fun v _ => v = some (.int 1)) room_1.cells room_1.slots T (mkF m 6 #[.val (.int q0), .val (.int q1), .val (.int q2), .val (.int q3), .val (.int off), .val (.long fl), .second, .val (.int (2 : Int32)), .unset, .unset, .unset, .unset, .unset] []) := by
  refine gbipush (v := (7 : Int32)) (pc' := 8) w at_6 rfl rfl ?_
  refine gnewP (pc' := 10) (cap := 7) (ty := .byte) w at_8 rfl (hw _ (List.mem_of_getElem? (i := 0) rfl)) (by decide) (by decide) (by decide) (by decide) (by decide) rfl (fun T184 h185 a183 k_a183 s186 w187 E188 V189 => ?_)
  have g_a183 : n0 ≤ a183 := Nat.le_trans z0 (Nat.le_of_eq s186)
  have z191 := Nat.le_trans z0 E188.1
  have V190 : Arv Z h185 a183 k_a183 .byte (7 : Int32) [(.int (0 : Int32)), (.int (0 : Int32)), (.int (0 : Int32)), (.int (0 : Int32)), (.int (0 : Int32)), (.int (0 : Int32)), (.int (0 : Int32))] (.int (0 : Int32)) := V189.pad (pad_rep [] _ 7)
  refine gastore (pc' := 12) (Ls := #[.val (.int q0), .val (.int q1), .val (.int q2), .val (.int q3), .val (.int off), .val (.long fl), .second, .val (.int (2 : Int32)), .unset, .unset, .unset, .unset, .unset]) (Ls' := #[.val (.int q0), .val (.int q1), .val (.int q2), .val (.int q3), .val (.int off), .val (.long fl), .second, .val (.int (2 : Int32)), .val (.ref a183), .unset, .unset, .unset, .unset]) (rest := []) w187 at_10 rfl rfl rfl ?_
  refine gaload (pc' := 14) (Ls := #[.val (.int q0), .val (.int q1), .val (.int q2), .val (.int q3), .val (.int off), .val (.long fl), .second, .val (.int (2 : Int32)), .val (.ref a183), .unset, .unset, .unset, .unset]) (rest := []) w187 at_12 rfl rfl rfl ?_
  refine giconst (v := (0 : Int32)) (pc' := 15) w187 at_14 rfl rfl ?_
  refine glload (pc' := 17) (Ls := #[.val (.int q0), .val (.int q1), .val (.int q2), .val (.int q3), .val (.int off), .val (.long fl), .second, .val (.int (2 : Int32)), .val (.ref a183), .unset, .unset, .unset, .unset]) (rest := [(.int (0 : Int32)), (.ref a183)]) w187 at_15 rfl rfl ?_
  refine gl2i (pc' := 18) w187 at_17 rfl ?_
  refine gi2b (pc' := 19) w187 at_18 rfl ?_
  refine gbastore (pc' := 20) (x' := ((fl.toInt32).toInt8.toInt32)) w187 at_19 (own_bb _) V190 (by decide) (0) rfl (by simp) g_a183 rfl (fun T192 h193 w194 W195 V196 => ?_)
  have z198 : n0 ≤ h193.size := by rw [W195.size]; exact z191
  have V197 : Arv Z h193 a183 k_a183 .byte (7 : Int32) [(.int ((fl.toInt32).toInt8.toInt32)), (.int (0 : Int32)), (.int (0 : Int32)), (.int (0 : Int32)), (.int (0 : Int32)), (.int (0 : Int32)), (.int (0 : Int32))] (.int (0 : Int32)) := V196
  refine gaload (pc' := 22) (Ls := #[.val (.int q0), .val (.int q1), .val (.int q2), .val (.int q3), .val (.int off), .val (.long fl), .second, .val (.int (2 : Int32)), .val (.ref a183), .unset, .unset, .unset, .unset]) (rest := []) w194 at_20 rfl rfl rfl ?_
  refine giconst (v := (1 : Int32)) (pc' := 23) w194 at_22 rfl rfl ?_
  refine glload (pc' := 25) (Ls := #[.val (.int q0), .val (.int q1), .val (.int q2), .val (.int q3), .val (.int off), .val (.long fl), .second, .val (.int (2 : Int32)), .val (.ref a183), .unset, .unset, .unset, .unset]) (rest := [(.int (1 : Int32)), (.ref a183)]) w194 at_23 rfl rfl ?_
  refine gbipush (v := (8 : Int32)) (pc' := 27) w194 at_25 rfl rfl ?_
  refine glushr (pc' := 28) w194 at_27 rfl ?_
  refine gl2i (pc' := 29) w194 at_28 rfl ?_
  refine gi2b (pc' := 30) w194 at_29 rfl ?_
  refine gbastore (pc' := 31) (x' := (((((fl).toUInt64 >>> ((8 : Int32) &&& 0x3f).toInt64.toUInt64).toInt64).toInt32).toInt8.toInt32)) w194 at_30 (own_bb _) V197 (by decide) (1) rfl (by simp) g_a183 rfl (fun T199 h200 w201 W202 V203 => ?_)
  have z205 : n0 ≤ h200.size := by rw [W202.size]; exact z198
  have V204 : Arv Z h200 a183 k_a183 .byte (7 : Int32) [(.int ((fl.toInt32).toInt8.toInt32)), (.int (((((fl).toUInt64 >>> ((8 : Int32) &&& 0x3f).toInt64.toUInt64).toInt64).toInt32).toInt8.toInt32)), (.int (0 : Int32)), (.int (0 : Int32)), (.int (0 : Int32)), (.int (0 : Int32)), (.int (0 : Int32))] (.int (0 : Int32)) := V203
  refine gaload (pc' := 33) (Ls := #[.val (.int q0), .val (.int q1), .val (.int q2), .val (.int q3), .val (.int off), .val (.long fl), .second, .val (.int (2 : Int32)), .val (.ref a183), .unset, .unset, .unset, .unset]) (rest := []) w201 at_31 rfl rfl rfl ?_
  refine giconst (v := (2 : Int32)) (pc' := 34) w201 at_33 rfl rfl ?_
  refine glload (pc' := 36) (Ls := #[.val (.int q0), .val (.int q1), .val (.int q2), .val (.int q3), .val (.int off), .val (.long fl), .second, .val (.int (2 : Int32)), .val (.ref a183), .unset, .unset, .unset, .unset]) (rest := [(.int (2 : Int32)), (.ref a183)]) w201 at_34 rfl rfl ?_
  refine gbipush (v := (16 : Int32)) (pc' := 38) w201 at_36 rfl rfl ?_
  refine glushr (pc' := 39) w201 at_38 rfl ?_
  refine gl2i (pc' := 40) w201 at_39 rfl ?_
  refine gi2b (pc' := 41) w201 at_40 rfl ?_
  refine gbastore (pc' := 42) (x' := (((((fl).toUInt64 >>> ((16 : Int32) &&& 0x3f).toInt64.toUInt64).toInt64).toInt32).toInt8.toInt32)) w201 at_41 (own_bb _) V204 (by decide) (2) rfl (by simp) g_a183 rfl (fun T206 h207 w208 W209 V210 => ?_)
  have z212 : n0 ≤ h207.size := by rw [W209.size]; exact z205
  have V211 : Arv Z h207 a183 k_a183 .byte (7 : Int32) [(.int ((fl.toInt32).toInt8.toInt32)), (.int (((((fl).toUInt64 >>> ((8 : Int32) &&& 0x3f).toInt64.toUInt64).toInt64).toInt32).toInt8.toInt32)), (.int (((((fl).toUInt64 >>> ((16 : Int32) &&& 0x3f).toInt64.toUInt64).toInt64).toInt32).toInt8.toInt32)), (.int (0 : Int32)), (.int (0 : Int32)), (.int (0 : Int32)), (.int (0 : Int32))] (.int (0 : Int32)) := V210
  refine gaload (pc' := 44) (Ls := #[.val (.int q0), .val (.int q1), .val (.int q2), .val (.int q3), .val (.int off), .val (.long fl), .second, .val (.int (2 : Int32)), .val (.ref a183), .unset, .unset, .unset, .unset]) (rest := []) w208 at_42 rfl rfl rfl ?_
  refine giconst (v := (3 : Int32)) (pc' := 45) w208 at_44 rfl rfl ?_
  refine glload (pc' := 47) (Ls := #[.val (.int q0), .val (.int q1), .val (.int q2), .val (.int q3), .val (.int off), .val (.long fl), .second, .val (.int (2 : Int32)), .val (.ref a183), .unset, .unset, .unset, .unset]) (rest := [(.int (3 : Int32)), (.ref a183)]) w208 at_45 rfl rfl ?_
  refine gbipush (v := (24 : Int32)) (pc' := 49) w208 at_47 rfl rfl ?_
  refine glushr (pc' := 50) w208 at_49 rfl ?_
  refine gl2i (pc' := 51) w208 at_50 rfl ?_
  refine gi2b (pc' := 52) w208 at_51 rfl ?_
  refine gbastore (pc' := 53) (x' := (((((fl).toUInt64 >>> ((24 : Int32) &&& 0x3f).toInt64.toUInt64).toInt64).toInt32).toInt8.toInt32)) w208 at_52 (own_bb _) V211 (by decide) (3) rfl (by simp) g_a183 rfl (fun T213 h214 w215 W216 V217 => ?_)
  have z219 : n0 ≤ h214.size := by rw [W216.size]; exact z212
  have V218 : Arv Z h214 a183 k_a183 .byte (7 : Int32) [(.int ((fl.toInt32).toInt8.toInt32)), (.int (((((fl).toUInt64 >>> ((8 : Int32) &&& 0x3f).toInt64.toUInt64).toInt64).toInt32).toInt8.toInt32)), (.int (((((fl).toUInt64 >>> ((16 : Int32) &&& 0x3f).toInt64.toUInt64).toInt64).toInt32).toInt8.toInt32)), (.int (((((fl).toUInt64 >>> ((24 : Int32) &&& 0x3f).toInt64.toUInt64).toInt64).toInt32).toInt8.toInt32)), (.int (0 : Int32)), (.int (0 : Int32)), (.int (0 : Int32))] (.int (0 : Int32)) := V217
  refine gaload (pc' := 55) (Ls := #[.val (.int q0), .val (.int q1), .val (.int q2), .val (.int q3), .val (.int off), .val (.long fl), .second, .val (.int (2 : Int32)), .val (.ref a183), .unset, .unset, .unset, .unset]) (rest := []) w215 at_53 rfl rfl rfl ?_
  refine giconst (v := (4 : Int32)) (pc' := 56) w215 at_55 rfl rfl ?_
  refine glload (pc' := 58) (Ls := #[.val (.int q0), .val (.int q1), .val (.int q2), .val (.int q3), .val (.int off), .val (.long fl), .second, .val (.int (2 : Int32)), .val (.ref a183), .unset, .unset, .unset, .unset]) (rest := [(.int (4 : Int32)), (.ref a183)]) w215 at_56 rfl rfl ?_
  refine gbipush (v := (32 : Int32)) (pc' := 60) w215 at_58 rfl rfl ?_
  refine glushr (pc' := 61) w215 at_60 rfl ?_
  refine gl2i (pc' := 62) w215 at_61 rfl ?_
  refine gi2b (pc' := 63) w215 at_62 rfl ?_
  refine gbastore (pc' := 64) (x' := (((((fl).toUInt64 >>> ((32 : Int32) &&& 0x3f).toInt64.toUInt64).toInt64).toInt32).toInt8.toInt32)) w215 at_63 (own_bb _) V218 (by decide) (4) rfl (by simp) g_a183 rfl (fun T220 h221 w222 W223 V224 => ?_)
  have z226 : n0 ≤ h221.size := by rw [W223.size]; exact z219
  have V225 : Arv Z h221 a183 k_a183 .byte (7 : Int32) [(.int ((fl.toInt32).toInt8.toInt32)), (.int (((((fl).toUInt64 >>> ((8 : Int32) &&& 0x3f).toInt64.toUInt64).toInt64).toInt32).toInt8.toInt32)), (.int (((((fl).toUInt64 >>> ((16 : Int32) &&& 0x3f).toInt64.toUInt64).toInt64).toInt32).toInt8.toInt32)), (.int (((((fl).toUInt64 >>> ((24 : Int32) &&& 0x3f).toInt64.toUInt64).toInt64).toInt32).toInt8.toInt32)), (.int (((((fl).toUInt64 >>> ((32 : Int32) &&& 0x3f).toInt64.toUInt64).toInt64).toInt32).toInt8.toInt32)), (.int (0 : Int32)), (.int (0 : Int32))] (.int (0 : Int32)) := V224
  refine gaload (pc' := 66) (Ls := #[.val (.int q0), .val (.int q1), .val (.int q2), .val (.int q3), .val (.int off), .val (.long fl), .second, .val (.int (2 : Int32)), .val (.ref a183), .unset, .unset, .unset, .unset]) (rest := []) w222 at_64 rfl rfl rfl ?_
  refine giconst (v := (5 : Int32)) (pc' := 67) w222 at_66 rfl rfl ?_
  refine glload (pc' := 69) (Ls := #[.val (.int q0), .val (.int q1), .val (.int q2), .val (.int q3), .val (.int off), .val (.long fl), .second, .val (.int (2 : Int32)), .val (.ref a183), .unset, .unset, .unset, .unset]) (rest := [(.int (5 : Int32)), (.ref a183)]) w222 at_67 rfl rfl ?_
  refine gbipush (v := (40 : Int32)) (pc' := 71) w222 at_69 rfl rfl ?_
  refine glushr (pc' := 72) w222 at_71 rfl ?_
  refine gl2i (pc' := 73) w222 at_72 rfl ?_
  refine gi2b (pc' := 74) w222 at_73 rfl ?_
  refine gbastore (pc' := 75) (x' := (((((fl).toUInt64 >>> ((40 : Int32) &&& 0x3f).toInt64.toUInt64).toInt64).toInt32).toInt8.toInt32)) w222 at_74 (own_bb _) V225 (by decide) (5) rfl (by simp) g_a183 rfl (fun T227 h228 w229 W230 V231 => ?_)
  have z233 : n0 ≤ h228.size := by rw [W230.size]; exact z226
  have V232 : Arv Z h228 a183 k_a183 .byte (7 : Int32) [(.int ((fl.toInt32).toInt8.toInt32)), (.int (((((fl).toUInt64 >>> ((8 : Int32) &&& 0x3f).toInt64.toUInt64).toInt64).toInt32).toInt8.toInt32)), (.int (((((fl).toUInt64 >>> ((16 : Int32) &&& 0x3f).toInt64.toUInt64).toInt64).toInt32).toInt8.toInt32)), (.int (((((fl).toUInt64 >>> ((24 : Int32) &&& 0x3f).toInt64.toUInt64).toInt64).toInt32).toInt8.toInt32)), (.int (((((fl).toUInt64 >>> ((32 : Int32) &&& 0x3f).toInt64.toUInt64).toInt64).toInt32).toInt8.toInt32)), (.int (((((fl).toUInt64 >>> ((40 : Int32) &&& 0x3f).toInt64.toUInt64).toInt64).toInt32).toInt8.toInt32)), (.int (0 : Int32))] (.int (0 : Int32)) := V231
  refine gaload (pc' := 77) (Ls := #[.val (.int q0), .val (.int q1), .val (.int q2), .val (.int q3), .val (.int off), .val (.long fl), .second, .val (.int (2 : Int32)), .val (.ref a183), .unset, .unset, .unset, .unset]) (rest := []) w229 at_75 rfl rfl rfl ?_
  refine gbipush (v := (6 : Int32)) (pc' := 79) w229 at_77 rfl rfl ?_
  refine glload (pc' := 81) (Ls := #[.val (.int q0), .val (.int q1), .val (.int q2), .val (.int q3), .val (.int off), .val (.long fl), .second, .val (.int (2 : Int32)), .val (.ref a183), .unset, .unset, .unset, .unset]) (rest := [(.int (6 : Int32)), (.ref a183)]) w229 at_79 rfl rfl ?_
  refine gbipush (v := (48 : Int32)) (pc' := 83) w229 at_81 rfl rfl ?_
  refine glushr (pc' := 84) w229 at_83 rfl ?_
  refine gl2i (pc' := 85) w229 at_84 rfl ?_
  refine gi2b (pc' := 86) w229 at_85 rfl ?_
  refine gbastore (pc' := 87) (x' := (((((fl).toUInt64 >>> ((48 : Int32) &&& 0x3f).toInt64.toUInt64).toInt64).toInt32).toInt8.toInt32)) w229 at_86 (own_bb _) V232 (by decide) (6) rfl (by simp) g_a183 rfl (fun T234 h235 w236 W237 V238 => ?_)
  have z240 : n0 ≤ h235.size := by rw [W237.size]; exact z233
  have V239 : Arv Z h235 a183 k_a183 .byte (7 : Int32) [(.int ((fl.toInt32).toInt8.toInt32)), (.int (((((fl).toUInt64 >>> ((8 : Int32) &&& 0x3f).toInt64.toUInt64).toInt64).toInt32).toInt8.toInt32)), (.int (((((fl).toUInt64 >>> ((16 : Int32) &&& 0x3f).toInt64.toUInt64).toInt64).toInt32).toInt8.toInt32)), (.int (((((fl).toUInt64 >>> ((24 : Int32) &&& 0x3f).toInt64.toUInt64).toInt64).toInt32).toInt8.toInt32)), (.int (((((fl).toUInt64 >>> ((32 : Int32) &&& 0x3f).toInt64.toUInt64).toInt64).toInt32).toInt8.toInt32)), (.int (((((fl).toUInt64 >>> ((40 : Int32) &&& 0x3f).toInt64.toUInt64).toInt64).toInt32).toInt8.toInt32)), (.int (((((fl).toUInt64 >>> ((48 : Int32) &&& 0x3f).toInt64.toUInt64).toInt64).toInt32).toInt8.toInt32))] (.int (0 : Int32)) := V238
  refine gaload (pc' := 89) (Ls := #[.val (.int q0), .val (.int q1), .val (.int q2), .val (.int q3), .val (.int off), .val (.long fl), .second, .val (.int (2 : Int32)), .val (.ref a183), .unset, .unset, .unset, .unset]) (rest := []) w236 at_87 rfl rfl rfl ?_
  refine giload (pc' := 91) (Ls := #[.val (.int q0), .val (.int q1), .val (.int q2), .val (.int q3), .val (.int off), .val (.long fl), .second, .val (.int (2 : Int32)), .val (.ref a183), .unset, .unset, .unset, .unset]) (rest := [(.ref a183)]) w236 at_89 rfl rfl ?_
  refine giloadN (pc' := 92) (Ls := #[.val (.int q0), .val (.int q1), .val (.int q2), .val (.int q3), .val (.int off), .val (.long fl), .second, .val (.int (2 : Int32)), .val (.ref a183), .unset, .unset, .unset, .unset]) (rest := [(.int (2 : Int32)), (.ref a183)]) w236 at_91 rfl rfl ?_
  refine gi2b (pc' := 93) w236 at_92 rfl ?_
  refine gbastore (pc' := 94) (x' := (q0.toInt8.toInt32)) w236 at_93 (own_bb _) V239 (by decide) (2) rfl (by simp) g_a183 rfl (fun T241 h242 w243 W244 V245 => ?_)
  have z247 : n0 ≤ h242.size := by rw [W244.size]; exact z240
  have V246 : Arv Z h242 a183 k_a183 .byte (7 : Int32) [(.int ((fl.toInt32).toInt8.toInt32)), (.int (((((fl).toUInt64 >>> ((8 : Int32) &&& 0x3f).toInt64.toUInt64).toInt64).toInt32).toInt8.toInt32)), (.int (q0.toInt8.toInt32)), (.int (((((fl).toUInt64 >>> ((24 : Int32) &&& 0x3f).toInt64.toUInt64).toInt64).toInt32).toInt8.toInt32)), (.int (((((fl).toUInt64 >>> ((32 : Int32) &&& 0x3f).toInt64.toUInt64).toInt64).toInt32).toInt8.toInt32)), (.int (((((fl).toUInt64 >>> ((40 : Int32) &&& 0x3f).toInt64.toUInt64).toInt64).toInt32).toInt8.toInt32)), (.int (((((fl).toUInt64 >>> ((48 : Int32) &&& 0x3f).toInt64.toUInt64).toInt64).toInt32).toInt8.toInt32))] (.int (0 : Int32)) := V245
  refine gaload (pc' := 96) (Ls := #[.val (.int q0), .val (.int q1), .val (.int q2), .val (.int q3), .val (.int off), .val (.long fl), .second, .val (.int (2 : Int32)), .val (.ref a183), .unset, .unset, .unset, .unset]) (rest := []) w243 at_94 rfl rfl rfl ?_
  refine giload (pc' := 98) (Ls := #[.val (.int q0), .val (.int q1), .val (.int q2), .val (.int q3), .val (.int off), .val (.long fl), .second, .val (.int (2 : Int32)), .val (.ref a183), .unset, .unset, .unset, .unset]) (rest := [(.ref a183)]) w243 at_96 rfl rfl ?_
  refine giconst (v := (1 : Int32)) (pc' := 99) w243 at_98 rfl rfl ?_
  refine giadd (pc' := 100) w243 at_99 rfl ?_
  refine giloadN (pc' := 101) (Ls := #[.val (.int q0), .val (.int q1), .val (.int q2), .val (.int q3), .val (.int off), .val (.long fl), .second, .val (.int (2 : Int32)), .val (.ref a183), .unset, .unset, .unset, .unset]) (rest := [(.int ((2 : Int32) + (1 : Int32))), (.ref a183)]) w243 at_100 rfl rfl ?_
  refine gi2b (pc' := 102) w243 at_101 rfl ?_
  refine gbastore (pc' := 103) (x' := (q1.toInt8.toInt32)) w243 at_102 (own_bb _) V246 (by decide) (3) rfl (by simp) g_a183 rfl (fun T248 h249 w250 W251 V252 => ?_)
  have z254 : n0 ≤ h249.size := by rw [W251.size]; exact z247
  have V253 : Arv Z h249 a183 k_a183 .byte (7 : Int32) [(.int ((fl.toInt32).toInt8.toInt32)), (.int (((((fl).toUInt64 >>> ((8 : Int32) &&& 0x3f).toInt64.toUInt64).toInt64).toInt32).toInt8.toInt32)), (.int (q0.toInt8.toInt32)), (.int (q1.toInt8.toInt32)), (.int (((((fl).toUInt64 >>> ((32 : Int32) &&& 0x3f).toInt64.toUInt64).toInt64).toInt32).toInt8.toInt32)), (.int (((((fl).toUInt64 >>> ((40 : Int32) &&& 0x3f).toInt64.toUInt64).toInt64).toInt32).toInt8.toInt32)), (.int (((((fl).toUInt64 >>> ((48 : Int32) &&& 0x3f).toInt64.toUInt64).toInt64).toInt32).toInt8.toInt32))] (.int (0 : Int32)) := V252
  refine gaload (pc' := 105) (Ls := #[.val (.int q0), .val (.int q1), .val (.int q2), .val (.int q3), .val (.int off), .val (.long fl), .second, .val (.int (2 : Int32)), .val (.ref a183), .unset, .unset, .unset, .unset]) (rest := []) w250 at_103 rfl rfl rfl ?_
  refine giload (pc' := 107) (Ls := #[.val (.int q0), .val (.int q1), .val (.int q2), .val (.int q3), .val (.int off), .val (.long fl), .second, .val (.int (2 : Int32)), .val (.ref a183), .unset, .unset, .unset, .unset]) (rest := [(.ref a183)]) w250 at_105 rfl rfl ?_
  refine giconst (v := (2 : Int32)) (pc' := 108) w250 at_107 rfl rfl ?_
  refine giadd (pc' := 109) w250 at_108 rfl ?_
  refine giloadN (pc' := 110) (Ls := #[.val (.int q0), .val (.int q1), .val (.int q2), .val (.int q3), .val (.int off), .val (.long fl), .second, .val (.int (2 : Int32)), .val (.ref a183), .unset, .unset, .unset, .unset]) (rest := [(.int ((2 : Int32) + (2 : Int32))), (.ref a183)]) w250 at_109 rfl rfl ?_
  refine gi2b (pc' := 111) w250 at_110 rfl ?_
  refine gbastore (pc' := 112) (x' := (q2.toInt8.toInt32)) w250 at_111 (own_bb _) V253 (by decide) (4) rfl (by simp) g_a183 rfl (fun T255 h256 w257 W258 V259 => ?_)
  have z261 : n0 ≤ h256.size := by rw [W258.size]; exact z254
  have V260 : Arv Z h256 a183 k_a183 .byte (7 : Int32) [(.int ((fl.toInt32).toInt8.toInt32)), (.int (((((fl).toUInt64 >>> ((8 : Int32) &&& 0x3f).toInt64.toUInt64).toInt64).toInt32).toInt8.toInt32)), (.int (q0.toInt8.toInt32)), (.int (q1.toInt8.toInt32)), (.int (q2.toInt8.toInt32)), (.int (((((fl).toUInt64 >>> ((40 : Int32) &&& 0x3f).toInt64.toUInt64).toInt64).toInt32).toInt8.toInt32)), (.int (((((fl).toUInt64 >>> ((48 : Int32) &&& 0x3f).toInt64.toUInt64).toInt64).toInt32).toInt8.toInt32))] (.int (0 : Int32)) := V259
  refine gaload (pc' := 114) (Ls := #[.val (.int q0), .val (.int q1), .val (.int q2), .val (.int q3), .val (.int off), .val (.long fl), .second, .val (.int (2 : Int32)), .val (.ref a183), .unset, .unset, .unset, .unset]) (rest := []) w257 at_112 rfl rfl rfl ?_
  refine giload (pc' := 116) (Ls := #[.val (.int q0), .val (.int q1), .val (.int q2), .val (.int q3), .val (.int off), .val (.long fl), .second, .val (.int (2 : Int32)), .val (.ref a183), .unset, .unset, .unset, .unset]) (rest := [(.ref a183)]) w257 at_114 rfl rfl ?_
  refine giconst (v := (3 : Int32)) (pc' := 117) w257 at_116 rfl rfl ?_
  refine giadd (pc' := 118) w257 at_117 rfl ?_
  refine giloadN (pc' := 119) (Ls := #[.val (.int q0), .val (.int q1), .val (.int q2), .val (.int q3), .val (.int off), .val (.long fl), .second, .val (.int (2 : Int32)), .val (.ref a183), .unset, .unset, .unset, .unset]) (rest := [(.int ((2 : Int32) + (3 : Int32))), (.ref a183)]) w257 at_118 rfl rfl ?_
  refine gi2b (pc' := 120) w257 at_119 rfl ?_
  refine gbastore (pc' := 121) (x' := (q3.toInt8.toInt32)) w257 at_120 (own_bb _) V260 (by decide) (5) rfl (by simp) g_a183 rfl (fun T262 h263 w264 W265 V266 => ?_)
  have z268 : n0 ≤ h263.size := by rw [W265.size]; exact z261
  have V267 : Arv Z h263 a183 k_a183 .byte (7 : Int32) [(.int ((fl.toInt32).toInt8.toInt32)), (.int (((((fl).toUInt64 >>> ((8 : Int32) &&& 0x3f).toInt64.toUInt64).toInt64).toInt32).toInt8.toInt32)), (.int (q0.toInt8.toInt32)), (.int (q1.toInt8.toInt32)), (.int (q2.toInt8.toInt32)), (.int (q3.toInt8.toInt32)), (.int (((((fl).toUInt64 >>> ((48 : Int32) &&& 0x3f).toInt64.toUInt64).toInt64).toInt32).toInt8.toInt32))] (.int (0 : Int32)) := V266
  refine giloadN (pc' := 122) (Ls := #[.val (.int q0), .val (.int q1), .val (.int q2), .val (.int q3), .val (.int off), .val (.long fl), .second, .val (.int (2 : Int32)), .val (.ref a183), .unset, .unset, .unset, .unset]) (rest := []) w264 at_121 rfl rfl ?_
  refine gbipush (v := (127 : Int32)) (pc' := 124) w264 at_122 rfl rfl ?_
  refine giand (pc' := 125) w264 at_124 rfl ?_
  refine gi2l (pc' := 126) w264 at_125 rfl ?_
  refine gbipush (v := (21 : Int32)) (pc' := 128) w264 at_126 rfl rfl ?_
  refine glshl (pc' := 129) w264 at_128 rfl ?_
  refine giloadN (pc' := 130) (Ls := #[.val (.int q0), .val (.int q1), .val (.int q2), .val (.int q3), .val (.int off), .val (.long fl), .second, .val (.int (2 : Int32)), .val (.ref a183), .unset, .unset, .unset, .unset]) (rest := [(.long ((((q0 &&& (127 : Int32)).toInt64) <<< ((21 : Int32) &&& 0x3f).toInt64)))]) w264 at_129 rfl rfl ?_
  refine gbipush (v := (127 : Int32)) (pc' := 132) w264 at_130 rfl rfl ?_
  refine giand (pc' := 133) w264 at_132 rfl ?_
  refine gi2l (pc' := 134) w264 at_133 rfl ?_
  refine gbipush (v := (14 : Int32)) (pc' := 136) w264 at_134 rfl rfl ?_
  refine glshl (pc' := 137) w264 at_136 rfl ?_
  refine glor (pc' := 138) w264 at_137 rfl ?_
  refine giloadN (pc' := 139) (Ls := #[.val (.int q0), .val (.int q1), .val (.int q2), .val (.int q3), .val (.int off), .val (.long fl), .second, .val (.int (2 : Int32)), .val (.ref a183), .unset, .unset, .unset, .unset]) (rest := [(.long (((((q0 &&& (127 : Int32)).toInt64) <<< ((21 : Int32) &&& 0x3f).toInt64)) ||| ((((q1 &&& (127 : Int32)).toInt64) <<< ((14 : Int32) &&& 0x3f).toInt64))))]) w264 at_138 rfl rfl ?_
  refine gbipush (v := (127 : Int32)) (pc' := 141) w264 at_139 rfl rfl ?_
  refine giand (pc' := 142) w264 at_141 rfl ?_
  refine gi2l (pc' := 143) w264 at_142 rfl ?_
  refine gbipush (v := (7 : Int32)) (pc' := 145) w264 at_143 rfl rfl ?_
  refine glshl (pc' := 146) w264 at_145 rfl ?_
  refine glor (pc' := 147) w264 at_146 rfl ?_
  refine giloadN (pc' := 148) (Ls := #[.val (.int q0), .val (.int q1), .val (.int q2), .val (.int q3), .val (.int off), .val (.long fl), .second, .val (.int (2 : Int32)), .val (.ref a183), .unset, .unset, .unset, .unset]) (rest := [(.long ((((((q0 &&& (127 : Int32)).toInt64) <<< ((21 : Int32) &&& 0x3f).toInt64)) ||| ((((q1 &&& (127 : Int32)).toInt64) <<< ((14 : Int32) &&& 0x3f).toInt64))) ||| ((((q2 &&& (127 : Int32)).toInt64) <<< ((7 : Int32) &&& 0x3f).toInt64))))]) w264 at_147 rfl rfl ?_
  refine gbipush (v := (127 : Int32)) (pc' := 150) w264 at_148 rfl rfl ?_
  refine giand (pc' := 151) w264 at_150 rfl ?_
  refine gi2l (pc' := 152) w264 at_151 rfl ?_
  refine glor (pc' := 153) w264 at_152 rfl ?_
  refine glstore (pc' := 155) (Ls := #[.val (.int q0), .val (.int q1), .val (.int q2), .val (.int q3), .val (.int off), .val (.long fl), .second, .val (.int (2 : Int32)), .val (.ref a183), .unset, .unset, .unset, .unset]) (Ls' := #[.val (.int q0), .val (.int q1), .val (.int q2), .val (.int q3), .val (.int off), .val (.long fl), .second, .val (.int (2 : Int32)), .val (.ref a183), .val (.long (((((((q0 &&& (127 : Int32)).toInt64) <<< ((21 : Int32) &&& 0x3f).toInt64)) ||| ((((q1 &&& (127 : Int32)).toInt64) <<< ((14 : Int32) &&& 0x3f).toInt64))) ||| ((((q2 &&& (127 : Int32)).toInt64) <<< ((7 : Int32) &&& 0x3f).toInt64))) ||| ((q3 &&& (127 : Int32)).toInt64))), .second, .unset, .unset]) (rest := []) w264 at_153 rfl rfl ?_
  refine gaload (pc' := 157) (Ls := #[.val (.int q0), .val (.int q1), .val (.int q2), .val (.int q3), .val (.int off), .val (.long fl), .second, .val (.int (2 : Int32)), .val (.ref a183), .val (.long (((((((q0 &&& (127 : Int32)).toInt64) <<< ((21 : Int32) &&& 0x3f).toInt64)) ||| ((((q1 &&& (127 : Int32)).toInt64) <<< ((14 : Int32) &&& 0x3f).toInt64))) ||| ((((q2 &&& (127 : Int32)).toInt64) <<< ((7 : Int32) &&& 0x3f).toInt64))) ||| ((q3 &&& (127 : Int32)).toInt64))), .second, .unset, .unset]) (rest := []) w264 at_155 rfl rfl rfl ?_
  refine giload (pc' := 159) (Ls := #[.val (.int q0), .val (.int q1), .val (.int q2), .val (.int q3), .val (.int off), .val (.long fl), .second, .val (.int (2 : Int32)), .val (.ref a183), .val (.long (((((((q0 &&& (127 : Int32)).toInt64) <<< ((21 : Int32) &&& 0x3f).toInt64)) ||| ((((q1 &&& (127 : Int32)).toInt64) <<< ((14 : Int32) &&& 0x3f).toInt64))) ||| ((((q2 &&& (127 : Int32)).toInt64) <<< ((7 : Int32) &&& 0x3f).toInt64))) ||| ((q3 &&& (127 : Int32)).toInt64))), .second, .unset, .unset]) (rest := [(.ref a183)]) w264 at_157 rfl rfl ?_
  refine gcallS (pc' := 162) (argsL := [(.ref a183), (.int (2 : Int32))]) (rest := []) (Wt := 0) w264 at_159 (hw _ (List.mem_of_getElem? (i := 1) rfl)) (hw _ (List.mem_of_getElem? (i := 2) rfl)) (hw _ (List.mem_of_getElem? (i := 3) rfl)) (hw _ (List.mem_of_getElem? (i := 4) rfl)) (by decide) pd_d1 (own_c2 hw a183 k_a183 _ _ (q0.toInt8.toInt32) (q1.toInt8.toInt32) (q2.toInt8.toInt32) (q3.toInt8.toInt32) V267 rfl rfl rfl rfl) rfl rfl rfl rfl (Nat.le_of_eq rfl) (by decide) (by decide) (by decide) (by decide) rfl (fun v269 T270 h271 w272 q273 => ?_)
  obtain ⟨rfl, eh⟩ := q273
  show Go _ _ _ _ _ _ _ _ _ (mkF m 162 #[.val (.int q0), .val (.int q1), .val (.int q2), .val (.int q3), .val (.int off), .val (.long fl), .second, .val (.int (2 : Int32)), .val (.ref a183), .val (.long (((((((q0 &&& (127 : Int32)).toInt64) <<< ((21 : Int32) &&& 0x3f).toInt64)) ||| ((((q1 &&& (127 : Int32)).toInt64) <<< ((14 : Int32) &&& 0x3f).toInt64))) ||| ((((q2 &&& (127 : Int32)).toInt64) <<< ((7 : Int32) &&& 0x3f).toInt64))) ||| ((q3 &&& (127 : Int32)).toInt64))), .second, .unset, .unset] [(.long (own_acc (q0.toInt8.toInt32) (q1.toInt8.toInt32) (q2.toInt8.toInt32) (q3.toInt8.toInt32)))])
  rw [eh] at w272
  refine glstore (pc' := 164) (Ls := #[.val (.int q0), .val (.int q1), .val (.int q2), .val (.int q3), .val (.int off), .val (.long fl), .second, .val (.int (2 : Int32)), .val (.ref a183), .val (.long (((((((q0 &&& (127 : Int32)).toInt64) <<< ((21 : Int32) &&& 0x3f).toInt64)) ||| ((((q1 &&& (127 : Int32)).toInt64) <<< ((14 : Int32) &&& 0x3f).toInt64))) ||| ((((q2 &&& (127 : Int32)).toInt64) <<< ((7 : Int32) &&& 0x3f).toInt64))) ||| ((q3 &&& (127 : Int32)).toInt64))), .second, .unset, .unset]) (Ls' := #[.val (.int q0), .val (.int q1), .val (.int q2), .val (.int q3), .val (.int off), .val (.long fl), .second, .val (.int (2 : Int32)), .val (.ref a183), .val (.long (((((((q0 &&& (127 : Int32)).toInt64) <<< ((21 : Int32) &&& 0x3f).toInt64)) ||| ((((q1 &&& (127 : Int32)).toInt64) <<< ((14 : Int32) &&& 0x3f).toInt64))) ||| ((((q2 &&& (127 : Int32)).toInt64) <<< ((7 : Int32) &&& 0x3f).toInt64))) ||| ((q3 &&& (127 : Int32)).toInt64))), .second, .val (.long (own_acc (q0.toInt8.toInt32) (q1.toInt8.toInt32) (q2.toInt8.toInt32) (q3.toInt8.toInt32))), .second]) (rest := []) w272 at_162 rfl rfl ?_
  refine glload (pc' := 166) (Ls := #[.val (.int q0), .val (.int q1), .val (.int q2), .val (.int q3), .val (.int off), .val (.long fl), .second, .val (.int (2 : Int32)), .val (.ref a183), .val (.long (((((((q0 &&& (127 : Int32)).toInt64) <<< ((21 : Int32) &&& 0x3f).toInt64)) ||| ((((q1 &&& (127 : Int32)).toInt64) <<< ((14 : Int32) &&& 0x3f).toInt64))) ||| ((((q2 &&& (127 : Int32)).toInt64) <<< ((7 : Int32) &&& 0x3f).toInt64))) ||| ((q3 &&& (127 : Int32)).toInt64))), .second, .val (.long (own_acc (q0.toInt8.toInt32) (q1.toInt8.toInt32) (q2.toInt8.toInt32) (q3.toInt8.toInt32))), .second]) (rest := []) w272 at_164 rfl rfl ?_
  refine glload (pc' := 168) (Ls := #[.val (.int q0), .val (.int q1), .val (.int q2), .val (.int q3), .val (.int off), .val (.long fl), .second, .val (.int (2 : Int32)), .val (.ref a183), .val (.long (((((((q0 &&& (127 : Int32)).toInt64) <<< ((21 : Int32) &&& 0x3f).toInt64)) ||| ((((q1 &&& (127 : Int32)).toInt64) <<< ((14 : Int32) &&& 0x3f).toInt64))) ||| ((((q2 &&& (127 : Int32)).toInt64) <<< ((7 : Int32) &&& 0x3f).toInt64))) ||| ((q3 &&& (127 : Int32)).toInt64))), .second, .val (.long (own_acc (q0.toInt8.toInt32) (q1.toInt8.toInt32) (q2.toInt8.toInt32) (q3.toInt8.toInt32))), .second]) (rest := [(.long (own_acc (q0.toInt8.toInt32) (q1.toInt8.toInt32) (q2.toInt8.toInt32) (q3.toInt8.toInt32)))]) w272 at_166 rfl rfl ?_
  refine glcmpif (pm := 169) (pt := 192) (pf := 172) w272 at_168 rfl at_169 (by decide) rfl rfl (fun (c168 : ¬ (own_acc (q0.toInt8.toInt32) (q1.toInt8.toInt32) (q2.toInt8.toInt32) (q3.toInt8.toInt32)) = (((((((q0 &&& (127 : Int32)).toInt64) <<< ((21 : Int32) &&& 0x3f).toInt64)) ||| ((((q1 &&& (127 : Int32)).toInt64) <<< ((14 : Int32) &&& 0x3f).toInt64))) ||| ((((q2 &&& (127 : Int32)).toInt64) <<< ((7 : Int32) &&& 0x3f).toInt64))) ||| ((q3 &&& (127 : Int32)).toInt64))) => ?_) (fun (c168 : (own_acc (q0.toInt8.toInt32) (q1.toInt8.toInt32) (q2.toInt8.toInt32) (q3.toInt8.toInt32)) = (((((((q0 &&& (127 : Int32)).toInt64) <<< ((21 : Int32) &&& 0x3f).toInt64)) ||| ((((q1 &&& (127 : Int32)).toInt64) <<< ((14 : Int32) &&& 0x3f).toInt64))) ||| ((((q2 &&& (127 : Int32)).toInt64) <<< ((7 : Int32) &&& 0x3f).toInt64))) ||| ((q3 &&& (127 : Int32)).toInt64))) => ?_)
  · refine giconst (v := (0 : Int32)) (pc' := 193) w272 at_192 rfl rfl ?_
    exact absurd (own_eq q0 q1 q2 q3) c168
  · refine glload (pc' := 174) (Ls := #[.val (.int q0), .val (.int q1), .val (.int q2), .val (.int q3), .val (.int off), .val (.long fl), .second, .val (.int (2 : Int32)), .val (.ref a183), .val (.long (((((((q0 &&& (127 : Int32)).toInt64) <<< ((21 : Int32) &&& 0x3f).toInt64)) ||| ((((q1 &&& (127 : Int32)).toInt64) <<< ((14 : Int32) &&& 0x3f).toInt64))) ||| ((((q2 &&& (127 : Int32)).toInt64) <<< ((7 : Int32) &&& 0x3f).toInt64))) ||| ((q3 &&& (127 : Int32)).toInt64))), .second, .val (.long (own_acc (q0.toInt8.toInt32) (q1.toInt8.toInt32) (q2.toInt8.toInt32) (q3.toInt8.toInt32))), .second]) (rest := []) w272 at_172 rfl rfl ?_
    refine glconst (v := (0 : Int64)) (pc' := 175) w272 at_174 rfl rfl ?_
    refine glcmpif (pm := 176) (pt := 192) (pf := 179) w272 at_175 rfl at_176 (by decide) rfl rfl (fun (c175 : (own_acc (q0.toInt8.toInt32) (q1.toInt8.toInt32) (q2.toInt8.toInt32) (q3.toInt8.toInt32)) < (0 : Int64)) => ?_) (fun (c175 : ¬ (own_acc (q0.toInt8.toInt32) (q1.toInt8.toInt32) (q2.toInt8.toInt32) (q3.toInt8.toInt32)) < (0 : Int64)) => ?_)
    · refine giconst (v := (0 : Int32)) (pc' := 193) w272 at_192 rfl rfl ?_
      exact absurd c175 (own_rng q0 q1 q2 q3).1
    · refine glload (pc' := 181) (Ls := #[.val (.int q0), .val (.int q1), .val (.int q2), .val (.int q3), .val (.int off), .val (.long fl), .second, .val (.int (2 : Int32)), .val (.ref a183), .val (.long (((((((q0 &&& (127 : Int32)).toInt64) <<< ((21 : Int32) &&& 0x3f).toInt64)) ||| ((((q1 &&& (127 : Int32)).toInt64) <<< ((14 : Int32) &&& 0x3f).toInt64))) ||| ((((q2 &&& (127 : Int32)).toInt64) <<< ((7 : Int32) &&& 0x3f).toInt64))) ||| ((q3 &&& (127 : Int32)).toInt64))), .second, .val (.long (own_acc (q0.toInt8.toInt32) (q1.toInt8.toInt32) (q2.toInt8.toInt32) (q3.toInt8.toInt32))), .second]) (rest := []) w272 at_179 rfl rfl ?_
      refine gldc2 (v := (268435456 : Int64)) (pc' := 184) w272 at_181 (hw _ (List.mem_of_getElem? (i := 5) rfl)) rfl ?_
      refine glcmpif (pm := 185) (pt := 192) (pf := 188) w272 at_184 rfl at_185 (by decide) rfl rfl (fun (c184 : ¬ (own_acc (q0.toInt8.toInt32) (q1.toInt8.toInt32) (q2.toInt8.toInt32) (q3.toInt8.toInt32)) < (268435456 : Int64)) => ?_) (fun (c184 : (own_acc (q0.toInt8.toInt32) (q1.toInt8.toInt32) (q2.toInt8.toInt32) (q3.toInt8.toInt32)) < (268435456 : Int64)) => ?_)
      · refine giconst (v := (0 : Int32)) (pc' := 193) w272 at_192 rfl rfl ?_
        exact absurd (own_rng q0 q1 q2 q3).2 c184
      · refine giconst (v := (1 : Int32)) (pc' := 189) w272 at_188 rfl rfl ?_
        refine ggoto (pc' := 193) w272 at_189 (by decide) rfl ?_
        exact gretZ w272 at_193 rfl (by decide) (by decide) rfl
set_option maxRecDepth 65536 in
set_option maxHeartbeats 4000000 in
theorem own_n3 (hw : ∀ d ∈ tables_1, d.before a0 Z = true) (w : W Z "com/example/kindred/kindred/index/Id3v2SynchsafePinLaw" "law" code maxLocals ret n0 p l e room_1 s m args below meth c 0 0 T h) (q0 q1 q2 q3 off : Int32) (fl : Int64) (z0 : n0 ≤ h.size) :
    Go n0 p e below s (fun v _ => v = some (.int 1)) room_1.cells room_1.slots T (mkF m 6 #[.val (.int q0), .val (.int q1), .val (.int q2), .val (.int q3), .val (.int off), .val (.long fl), .second, .val (.int (3 : Int32)), .unset, .unset, .unset, .unset, .unset] []) := by
  refine gbipush (v := (7 : Int32)) (pc' := 8) w at_6 rfl rfl ?_
  refine gnewP (pc' := 10) (cap := 7) (ty := .byte) w at_8 rfl (hw _ (List.mem_of_getElem? (i := 0) rfl)) (by decide) (by decide) (by decide) (by decide) (by decide) rfl (fun T275 h276 a274 k_a274 s277 w278 E279 V280 => ?_)
  have g_a274 : n0 ≤ a274 := Nat.le_trans z0 (Nat.le_of_eq s277)
  have z282 := Nat.le_trans z0 E279.1
  have V281 : Arv Z h276 a274 k_a274 .byte (7 : Int32) [(.int (0 : Int32)), (.int (0 : Int32)), (.int (0 : Int32)), (.int (0 : Int32)), (.int (0 : Int32)), (.int (0 : Int32)), (.int (0 : Int32))] (.int (0 : Int32)) := V280.pad (pad_rep [] _ 7)
  refine gastore (pc' := 12) (Ls := #[.val (.int q0), .val (.int q1), .val (.int q2), .val (.int q3), .val (.int off), .val (.long fl), .second, .val (.int (3 : Int32)), .unset, .unset, .unset, .unset, .unset]) (Ls' := #[.val (.int q0), .val (.int q1), .val (.int q2), .val (.int q3), .val (.int off), .val (.long fl), .second, .val (.int (3 : Int32)), .val (.ref a274), .unset, .unset, .unset, .unset]) (rest := []) w278 at_10 rfl rfl rfl ?_
  refine gaload (pc' := 14) (Ls := #[.val (.int q0), .val (.int q1), .val (.int q2), .val (.int q3), .val (.int off), .val (.long fl), .second, .val (.int (3 : Int32)), .val (.ref a274), .unset, .unset, .unset, .unset]) (rest := []) w278 at_12 rfl rfl rfl ?_
  refine giconst (v := (0 : Int32)) (pc' := 15) w278 at_14 rfl rfl ?_
  refine glload (pc' := 17) (Ls := #[.val (.int q0), .val (.int q1), .val (.int q2), .val (.int q3), .val (.int off), .val (.long fl), .second, .val (.int (3 : Int32)), .val (.ref a274), .unset, .unset, .unset, .unset]) (rest := [(.int (0 : Int32)), (.ref a274)]) w278 at_15 rfl rfl ?_
  refine gl2i (pc' := 18) w278 at_17 rfl ?_
  refine gi2b (pc' := 19) w278 at_18 rfl ?_
  refine gbastore (pc' := 20) (x' := ((fl.toInt32).toInt8.toInt32)) w278 at_19 (own_bb _) V281 (by decide) (0) rfl (by simp) g_a274 rfl (fun T283 h284 w285 W286 V287 => ?_)
  have z289 : n0 ≤ h284.size := by rw [W286.size]; exact z282
  have V288 : Arv Z h284 a274 k_a274 .byte (7 : Int32) [(.int ((fl.toInt32).toInt8.toInt32)), (.int (0 : Int32)), (.int (0 : Int32)), (.int (0 : Int32)), (.int (0 : Int32)), (.int (0 : Int32)), (.int (0 : Int32))] (.int (0 : Int32)) := V287
  refine gaload (pc' := 22) (Ls := #[.val (.int q0), .val (.int q1), .val (.int q2), .val (.int q3), .val (.int off), .val (.long fl), .second, .val (.int (3 : Int32)), .val (.ref a274), .unset, .unset, .unset, .unset]) (rest := []) w285 at_20 rfl rfl rfl ?_
  refine giconst (v := (1 : Int32)) (pc' := 23) w285 at_22 rfl rfl ?_
  refine glload (pc' := 25) (Ls := #[.val (.int q0), .val (.int q1), .val (.int q2), .val (.int q3), .val (.int off), .val (.long fl), .second, .val (.int (3 : Int32)), .val (.ref a274), .unset, .unset, .unset, .unset]) (rest := [(.int (1 : Int32)), (.ref a274)]) w285 at_23 rfl rfl ?_
  refine gbipush (v := (8 : Int32)) (pc' := 27) w285 at_25 rfl rfl ?_
  refine glushr (pc' := 28) w285 at_27 rfl ?_
  refine gl2i (pc' := 29) w285 at_28 rfl ?_
  refine gi2b (pc' := 30) w285 at_29 rfl ?_
  refine gbastore (pc' := 31) (x' := (((((fl).toUInt64 >>> ((8 : Int32) &&& 0x3f).toInt64.toUInt64).toInt64).toInt32).toInt8.toInt32)) w285 at_30 (own_bb _) V288 (by decide) (1) rfl (by simp) g_a274 rfl (fun T290 h291 w292 W293 V294 => ?_)
  have z296 : n0 ≤ h291.size := by rw [W293.size]; exact z289
  have V295 : Arv Z h291 a274 k_a274 .byte (7 : Int32) [(.int ((fl.toInt32).toInt8.toInt32)), (.int (((((fl).toUInt64 >>> ((8 : Int32) &&& 0x3f).toInt64.toUInt64).toInt64).toInt32).toInt8.toInt32)), (.int (0 : Int32)), (.int (0 : Int32)), (.int (0 : Int32)), (.int (0 : Int32)), (.int (0 : Int32))] (.int (0 : Int32)) := V294
  refine gaload (pc' := 33) (Ls := #[.val (.int q0), .val (.int q1), .val (.int q2), .val (.int q3), .val (.int off), .val (.long fl), .second, .val (.int (3 : Int32)), .val (.ref a274), .unset, .unset, .unset, .unset]) (rest := []) w292 at_31 rfl rfl rfl ?_
  refine giconst (v := (2 : Int32)) (pc' := 34) w292 at_33 rfl rfl ?_
  refine glload (pc' := 36) (Ls := #[.val (.int q0), .val (.int q1), .val (.int q2), .val (.int q3), .val (.int off), .val (.long fl), .second, .val (.int (3 : Int32)), .val (.ref a274), .unset, .unset, .unset, .unset]) (rest := [(.int (2 : Int32)), (.ref a274)]) w292 at_34 rfl rfl ?_
  refine gbipush (v := (16 : Int32)) (pc' := 38) w292 at_36 rfl rfl ?_
  refine glushr (pc' := 39) w292 at_38 rfl ?_
  refine gl2i (pc' := 40) w292 at_39 rfl ?_
  refine gi2b (pc' := 41) w292 at_40 rfl ?_
  refine gbastore (pc' := 42) (x' := (((((fl).toUInt64 >>> ((16 : Int32) &&& 0x3f).toInt64.toUInt64).toInt64).toInt32).toInt8.toInt32)) w292 at_41 (own_bb _) V295 (by decide) (2) rfl (by simp) g_a274 rfl (fun T297 h298 w299 W300 V301 => ?_)
  have z303 : n0 ≤ h298.size := by rw [W300.size]; exact z296
  have V302 : Arv Z h298 a274 k_a274 .byte (7 : Int32) [(.int ((fl.toInt32).toInt8.toInt32)), (.int (((((fl).toUInt64 >>> ((8 : Int32) &&& 0x3f).toInt64.toUInt64).toInt64).toInt32).toInt8.toInt32)), (.int (((((fl).toUInt64 >>> ((16 : Int32) &&& 0x3f).toInt64.toUInt64).toInt64).toInt32).toInt8.toInt32)), (.int (0 : Int32)), (.int (0 : Int32)), (.int (0 : Int32)), (.int (0 : Int32))] (.int (0 : Int32)) := V301
  refine gaload (pc' := 44) (Ls := #[.val (.int q0), .val (.int q1), .val (.int q2), .val (.int q3), .val (.int off), .val (.long fl), .second, .val (.int (3 : Int32)), .val (.ref a274), .unset, .unset, .unset, .unset]) (rest := []) w299 at_42 rfl rfl rfl ?_
  refine giconst (v := (3 : Int32)) (pc' := 45) w299 at_44 rfl rfl ?_
  refine glload (pc' := 47) (Ls := #[.val (.int q0), .val (.int q1), .val (.int q2), .val (.int q3), .val (.int off), .val (.long fl), .second, .val (.int (3 : Int32)), .val (.ref a274), .unset, .unset, .unset, .unset]) (rest := [(.int (3 : Int32)), (.ref a274)]) w299 at_45 rfl rfl ?_
  refine gbipush (v := (24 : Int32)) (pc' := 49) w299 at_47 rfl rfl ?_
  refine glushr (pc' := 50) w299 at_49 rfl ?_
  refine gl2i (pc' := 51) w299 at_50 rfl ?_
  refine gi2b (pc' := 52) w299 at_51 rfl ?_
  refine gbastore (pc' := 53) (x' := (((((fl).toUInt64 >>> ((24 : Int32) &&& 0x3f).toInt64.toUInt64).toInt64).toInt32).toInt8.toInt32)) w299 at_52 (own_bb _) V302 (by decide) (3) rfl (by simp) g_a274 rfl (fun T304 h305 w306 W307 V308 => ?_)
  have z310 : n0 ≤ h305.size := by rw [W307.size]; exact z303
  have V309 : Arv Z h305 a274 k_a274 .byte (7 : Int32) [(.int ((fl.toInt32).toInt8.toInt32)), (.int (((((fl).toUInt64 >>> ((8 : Int32) &&& 0x3f).toInt64.toUInt64).toInt64).toInt32).toInt8.toInt32)), (.int (((((fl).toUInt64 >>> ((16 : Int32) &&& 0x3f).toInt64.toUInt64).toInt64).toInt32).toInt8.toInt32)), (.int (((((fl).toUInt64 >>> ((24 : Int32) &&& 0x3f).toInt64.toUInt64).toInt64).toInt32).toInt8.toInt32)), (.int (0 : Int32)), (.int (0 : Int32)), (.int (0 : Int32))] (.int (0 : Int32)) := V308
  refine gaload (pc' := 55) (Ls := #[.val (.int q0), .val (.int q1), .val (.int q2), .val (.int q3), .val (.int off), .val (.long fl), .second, .val (.int (3 : Int32)), .val (.ref a274), .unset, .unset, .unset, .unset]) (rest := []) w306 at_53 rfl rfl rfl ?_
  refine giconst (v := (4 : Int32)) (pc' := 56) w306 at_55 rfl rfl ?_
  refine glload (pc' := 58) (Ls := #[.val (.int q0), .val (.int q1), .val (.int q2), .val (.int q3), .val (.int off), .val (.long fl), .second, .val (.int (3 : Int32)), .val (.ref a274), .unset, .unset, .unset, .unset]) (rest := [(.int (4 : Int32)), (.ref a274)]) w306 at_56 rfl rfl ?_
  refine gbipush (v := (32 : Int32)) (pc' := 60) w306 at_58 rfl rfl ?_
  refine glushr (pc' := 61) w306 at_60 rfl ?_
  refine gl2i (pc' := 62) w306 at_61 rfl ?_
  refine gi2b (pc' := 63) w306 at_62 rfl ?_
  refine gbastore (pc' := 64) (x' := (((((fl).toUInt64 >>> ((32 : Int32) &&& 0x3f).toInt64.toUInt64).toInt64).toInt32).toInt8.toInt32)) w306 at_63 (own_bb _) V309 (by decide) (4) rfl (by simp) g_a274 rfl (fun T311 h312 w313 W314 V315 => ?_)
  have z317 : n0 ≤ h312.size := by rw [W314.size]; exact z310
  have V316 : Arv Z h312 a274 k_a274 .byte (7 : Int32) [(.int ((fl.toInt32).toInt8.toInt32)), (.int (((((fl).toUInt64 >>> ((8 : Int32) &&& 0x3f).toInt64.toUInt64).toInt64).toInt32).toInt8.toInt32)), (.int (((((fl).toUInt64 >>> ((16 : Int32) &&& 0x3f).toInt64.toUInt64).toInt64).toInt32).toInt8.toInt32)), (.int (((((fl).toUInt64 >>> ((24 : Int32) &&& 0x3f).toInt64.toUInt64).toInt64).toInt32).toInt8.toInt32)), (.int (((((fl).toUInt64 >>> ((32 : Int32) &&& 0x3f).toInt64.toUInt64).toInt64).toInt32).toInt8.toInt32)), (.int (0 : Int32)), (.int (0 : Int32))] (.int (0 : Int32)) := V315
  refine gaload (pc' := 66) (Ls := #[.val (.int q0), .val (.int q1), .val (.int q2), .val (.int q3), .val (.int off), .val (.long fl), .second, .val (.int (3 : Int32)), .val (.ref a274), .unset, .unset, .unset, .unset]) (rest := []) w313 at_64 rfl rfl rfl ?_
  refine giconst (v := (5 : Int32)) (pc' := 67) w313 at_66 rfl rfl ?_
  refine glload (pc' := 69) (Ls := #[.val (.int q0), .val (.int q1), .val (.int q2), .val (.int q3), .val (.int off), .val (.long fl), .second, .val (.int (3 : Int32)), .val (.ref a274), .unset, .unset, .unset, .unset]) (rest := [(.int (5 : Int32)), (.ref a274)]) w313 at_67 rfl rfl ?_
  refine gbipush (v := (40 : Int32)) (pc' := 71) w313 at_69 rfl rfl ?_
  refine glushr (pc' := 72) w313 at_71 rfl ?_
  refine gl2i (pc' := 73) w313 at_72 rfl ?_
  refine gi2b (pc' := 74) w313 at_73 rfl ?_
  refine gbastore (pc' := 75) (x' := (((((fl).toUInt64 >>> ((40 : Int32) &&& 0x3f).toInt64.toUInt64).toInt64).toInt32).toInt8.toInt32)) w313 at_74 (own_bb _) V316 (by decide) (5) rfl (by simp) g_a274 rfl (fun T318 h319 w320 W321 V322 => ?_)
  have z324 : n0 ≤ h319.size := by rw [W321.size]; exact z317
  have V323 : Arv Z h319 a274 k_a274 .byte (7 : Int32) [(.int ((fl.toInt32).toInt8.toInt32)), (.int (((((fl).toUInt64 >>> ((8 : Int32) &&& 0x3f).toInt64.toUInt64).toInt64).toInt32).toInt8.toInt32)), (.int (((((fl).toUInt64 >>> ((16 : Int32) &&& 0x3f).toInt64.toUInt64).toInt64).toInt32).toInt8.toInt32)), (.int (((((fl).toUInt64 >>> ((24 : Int32) &&& 0x3f).toInt64.toUInt64).toInt64).toInt32).toInt8.toInt32)), (.int (((((fl).toUInt64 >>> ((32 : Int32) &&& 0x3f).toInt64.toUInt64).toInt64).toInt32).toInt8.toInt32)), (.int (((((fl).toUInt64 >>> ((40 : Int32) &&& 0x3f).toInt64.toUInt64).toInt64).toInt32).toInt8.toInt32)), (.int (0 : Int32))] (.int (0 : Int32)) := V322
  refine gaload (pc' := 77) (Ls := #[.val (.int q0), .val (.int q1), .val (.int q2), .val (.int q3), .val (.int off), .val (.long fl), .second, .val (.int (3 : Int32)), .val (.ref a274), .unset, .unset, .unset, .unset]) (rest := []) w320 at_75 rfl rfl rfl ?_
  refine gbipush (v := (6 : Int32)) (pc' := 79) w320 at_77 rfl rfl ?_
  refine glload (pc' := 81) (Ls := #[.val (.int q0), .val (.int q1), .val (.int q2), .val (.int q3), .val (.int off), .val (.long fl), .second, .val (.int (3 : Int32)), .val (.ref a274), .unset, .unset, .unset, .unset]) (rest := [(.int (6 : Int32)), (.ref a274)]) w320 at_79 rfl rfl ?_
  refine gbipush (v := (48 : Int32)) (pc' := 83) w320 at_81 rfl rfl ?_
  refine glushr (pc' := 84) w320 at_83 rfl ?_
  refine gl2i (pc' := 85) w320 at_84 rfl ?_
  refine gi2b (pc' := 86) w320 at_85 rfl ?_
  refine gbastore (pc' := 87) (x' := (((((fl).toUInt64 >>> ((48 : Int32) &&& 0x3f).toInt64.toUInt64).toInt64).toInt32).toInt8.toInt32)) w320 at_86 (own_bb _) V323 (by decide) (6) rfl (by simp) g_a274 rfl (fun T325 h326 w327 W328 V329 => ?_)
  have z331 : n0 ≤ h326.size := by rw [W328.size]; exact z324
  have V330 : Arv Z h326 a274 k_a274 .byte (7 : Int32) [(.int ((fl.toInt32).toInt8.toInt32)), (.int (((((fl).toUInt64 >>> ((8 : Int32) &&& 0x3f).toInt64.toUInt64).toInt64).toInt32).toInt8.toInt32)), (.int (((((fl).toUInt64 >>> ((16 : Int32) &&& 0x3f).toInt64.toUInt64).toInt64).toInt32).toInt8.toInt32)), (.int (((((fl).toUInt64 >>> ((24 : Int32) &&& 0x3f).toInt64.toUInt64).toInt64).toInt32).toInt8.toInt32)), (.int (((((fl).toUInt64 >>> ((32 : Int32) &&& 0x3f).toInt64.toUInt64).toInt64).toInt32).toInt8.toInt32)), (.int (((((fl).toUInt64 >>> ((40 : Int32) &&& 0x3f).toInt64.toUInt64).toInt64).toInt32).toInt8.toInt32)), (.int (((((fl).toUInt64 >>> ((48 : Int32) &&& 0x3f).toInt64.toUInt64).toInt64).toInt32).toInt8.toInt32))] (.int (0 : Int32)) := V329
  refine gaload (pc' := 89) (Ls := #[.val (.int q0), .val (.int q1), .val (.int q2), .val (.int q3), .val (.int off), .val (.long fl), .second, .val (.int (3 : Int32)), .val (.ref a274), .unset, .unset, .unset, .unset]) (rest := []) w327 at_87 rfl rfl rfl ?_
  refine giload (pc' := 91) (Ls := #[.val (.int q0), .val (.int q1), .val (.int q2), .val (.int q3), .val (.int off), .val (.long fl), .second, .val (.int (3 : Int32)), .val (.ref a274), .unset, .unset, .unset, .unset]) (rest := [(.ref a274)]) w327 at_89 rfl rfl ?_
  refine giloadN (pc' := 92) (Ls := #[.val (.int q0), .val (.int q1), .val (.int q2), .val (.int q3), .val (.int off), .val (.long fl), .second, .val (.int (3 : Int32)), .val (.ref a274), .unset, .unset, .unset, .unset]) (rest := [(.int (3 : Int32)), (.ref a274)]) w327 at_91 rfl rfl ?_
  refine gi2b (pc' := 93) w327 at_92 rfl ?_
  refine gbastore (pc' := 94) (x' := (q0.toInt8.toInt32)) w327 at_93 (own_bb _) V330 (by decide) (3) rfl (by simp) g_a274 rfl (fun T332 h333 w334 W335 V336 => ?_)
  have z338 : n0 ≤ h333.size := by rw [W335.size]; exact z331
  have V337 : Arv Z h333 a274 k_a274 .byte (7 : Int32) [(.int ((fl.toInt32).toInt8.toInt32)), (.int (((((fl).toUInt64 >>> ((8 : Int32) &&& 0x3f).toInt64.toUInt64).toInt64).toInt32).toInt8.toInt32)), (.int (((((fl).toUInt64 >>> ((16 : Int32) &&& 0x3f).toInt64.toUInt64).toInt64).toInt32).toInt8.toInt32)), (.int (q0.toInt8.toInt32)), (.int (((((fl).toUInt64 >>> ((32 : Int32) &&& 0x3f).toInt64.toUInt64).toInt64).toInt32).toInt8.toInt32)), (.int (((((fl).toUInt64 >>> ((40 : Int32) &&& 0x3f).toInt64.toUInt64).toInt64).toInt32).toInt8.toInt32)), (.int (((((fl).toUInt64 >>> ((48 : Int32) &&& 0x3f).toInt64.toUInt64).toInt64).toInt32).toInt8.toInt32))] (.int (0 : Int32)) := V336
  refine gaload (pc' := 96) (Ls := #[.val (.int q0), .val (.int q1), .val (.int q2), .val (.int q3), .val (.int off), .val (.long fl), .second, .val (.int (3 : Int32)), .val (.ref a274), .unset, .unset, .unset, .unset]) (rest := []) w334 at_94 rfl rfl rfl ?_
  refine giload (pc' := 98) (Ls := #[.val (.int q0), .val (.int q1), .val (.int q2), .val (.int q3), .val (.int off), .val (.long fl), .second, .val (.int (3 : Int32)), .val (.ref a274), .unset, .unset, .unset, .unset]) (rest := [(.ref a274)]) w334 at_96 rfl rfl ?_
  refine giconst (v := (1 : Int32)) (pc' := 99) w334 at_98 rfl rfl ?_
  refine giadd (pc' := 100) w334 at_99 rfl ?_
  refine giloadN (pc' := 101) (Ls := #[.val (.int q0), .val (.int q1), .val (.int q2), .val (.int q3), .val (.int off), .val (.long fl), .second, .val (.int (3 : Int32)), .val (.ref a274), .unset, .unset, .unset, .unset]) (rest := [(.int ((3 : Int32) + (1 : Int32))), (.ref a274)]) w334 at_100 rfl rfl ?_
  refine gi2b (pc' := 102) w334 at_101 rfl ?_
  refine gbastore (pc' := 103) (x' := (q1.toInt8.toInt32)) w334 at_102 (own_bb _) V337 (by decide) (4) rfl (by simp) g_a274 rfl (fun T339 h340 w341 W342 V343 => ?_)
  have z345 : n0 ≤ h340.size := by rw [W342.size]; exact z338
  have V344 : Arv Z h340 a274 k_a274 .byte (7 : Int32) [(.int ((fl.toInt32).toInt8.toInt32)), (.int (((((fl).toUInt64 >>> ((8 : Int32) &&& 0x3f).toInt64.toUInt64).toInt64).toInt32).toInt8.toInt32)), (.int (((((fl).toUInt64 >>> ((16 : Int32) &&& 0x3f).toInt64.toUInt64).toInt64).toInt32).toInt8.toInt32)), (.int (q0.toInt8.toInt32)), (.int (q1.toInt8.toInt32)), (.int (((((fl).toUInt64 >>> ((40 : Int32) &&& 0x3f).toInt64.toUInt64).toInt64).toInt32).toInt8.toInt32)), (.int (((((fl).toUInt64 >>> ((48 : Int32) &&& 0x3f).toInt64.toUInt64).toInt64).toInt32).toInt8.toInt32))] (.int (0 : Int32)) := V343
  refine gaload (pc' := 105) (Ls := #[.val (.int q0), .val (.int q1), .val (.int q2), .val (.int q3), .val (.int off), .val (.long fl), .second, .val (.int (3 : Int32)), .val (.ref a274), .unset, .unset, .unset, .unset]) (rest := []) w341 at_103 rfl rfl rfl ?_
  refine giload (pc' := 107) (Ls := #[.val (.int q0), .val (.int q1), .val (.int q2), .val (.int q3), .val (.int off), .val (.long fl), .second, .val (.int (3 : Int32)), .val (.ref a274), .unset, .unset, .unset, .unset]) (rest := [(.ref a274)]) w341 at_105 rfl rfl ?_
  refine giconst (v := (2 : Int32)) (pc' := 108) w341 at_107 rfl rfl ?_
  refine giadd (pc' := 109) w341 at_108 rfl ?_
  refine giloadN (pc' := 110) (Ls := #[.val (.int q0), .val (.int q1), .val (.int q2), .val (.int q3), .val (.int off), .val (.long fl), .second, .val (.int (3 : Int32)), .val (.ref a274), .unset, .unset, .unset, .unset]) (rest := [(.int ((3 : Int32) + (2 : Int32))), (.ref a274)]) w341 at_109 rfl rfl ?_
  refine gi2b (pc' := 111) w341 at_110 rfl ?_
  refine gbastore (pc' := 112) (x' := (q2.toInt8.toInt32)) w341 at_111 (own_bb _) V344 (by decide) (5) rfl (by simp) g_a274 rfl (fun T346 h347 w348 W349 V350 => ?_)
  have z352 : n0 ≤ h347.size := by rw [W349.size]; exact z345
  have V351 : Arv Z h347 a274 k_a274 .byte (7 : Int32) [(.int ((fl.toInt32).toInt8.toInt32)), (.int (((((fl).toUInt64 >>> ((8 : Int32) &&& 0x3f).toInt64.toUInt64).toInt64).toInt32).toInt8.toInt32)), (.int (((((fl).toUInt64 >>> ((16 : Int32) &&& 0x3f).toInt64.toUInt64).toInt64).toInt32).toInt8.toInt32)), (.int (q0.toInt8.toInt32)), (.int (q1.toInt8.toInt32)), (.int (q2.toInt8.toInt32)), (.int (((((fl).toUInt64 >>> ((48 : Int32) &&& 0x3f).toInt64.toUInt64).toInt64).toInt32).toInt8.toInt32))] (.int (0 : Int32)) := V350
  refine gaload (pc' := 114) (Ls := #[.val (.int q0), .val (.int q1), .val (.int q2), .val (.int q3), .val (.int off), .val (.long fl), .second, .val (.int (3 : Int32)), .val (.ref a274), .unset, .unset, .unset, .unset]) (rest := []) w348 at_112 rfl rfl rfl ?_
  refine giload (pc' := 116) (Ls := #[.val (.int q0), .val (.int q1), .val (.int q2), .val (.int q3), .val (.int off), .val (.long fl), .second, .val (.int (3 : Int32)), .val (.ref a274), .unset, .unset, .unset, .unset]) (rest := [(.ref a274)]) w348 at_114 rfl rfl ?_
  refine giconst (v := (3 : Int32)) (pc' := 117) w348 at_116 rfl rfl ?_
  refine giadd (pc' := 118) w348 at_117 rfl ?_
  refine giloadN (pc' := 119) (Ls := #[.val (.int q0), .val (.int q1), .val (.int q2), .val (.int q3), .val (.int off), .val (.long fl), .second, .val (.int (3 : Int32)), .val (.ref a274), .unset, .unset, .unset, .unset]) (rest := [(.int ((3 : Int32) + (3 : Int32))), (.ref a274)]) w348 at_118 rfl rfl ?_
  refine gi2b (pc' := 120) w348 at_119 rfl ?_
  refine gbastore (pc' := 121) (x' := (q3.toInt8.toInt32)) w348 at_120 (own_bb _) V351 (by decide) (6) rfl (by simp) g_a274 rfl (fun T353 h354 w355 W356 V357 => ?_)
  have z359 : n0 ≤ h354.size := by rw [W356.size]; exact z352
  have V358 : Arv Z h354 a274 k_a274 .byte (7 : Int32) [(.int ((fl.toInt32).toInt8.toInt32)), (.int (((((fl).toUInt64 >>> ((8 : Int32) &&& 0x3f).toInt64.toUInt64).toInt64).toInt32).toInt8.toInt32)), (.int (((((fl).toUInt64 >>> ((16 : Int32) &&& 0x3f).toInt64.toUInt64).toInt64).toInt32).toInt8.toInt32)), (.int (q0.toInt8.toInt32)), (.int (q1.toInt8.toInt32)), (.int (q2.toInt8.toInt32)), (.int (q3.toInt8.toInt32))] (.int (0 : Int32)) := V357
  refine giloadN (pc' := 122) (Ls := #[.val (.int q0), .val (.int q1), .val (.int q2), .val (.int q3), .val (.int off), .val (.long fl), .second, .val (.int (3 : Int32)), .val (.ref a274), .unset, .unset, .unset, .unset]) (rest := []) w355 at_121 rfl rfl ?_
  refine gbipush (v := (127 : Int32)) (pc' := 124) w355 at_122 rfl rfl ?_
  refine giand (pc' := 125) w355 at_124 rfl ?_
  refine gi2l (pc' := 126) w355 at_125 rfl ?_
  refine gbipush (v := (21 : Int32)) (pc' := 128) w355 at_126 rfl rfl ?_
  refine glshl (pc' := 129) w355 at_128 rfl ?_
  refine giloadN (pc' := 130) (Ls := #[.val (.int q0), .val (.int q1), .val (.int q2), .val (.int q3), .val (.int off), .val (.long fl), .second, .val (.int (3 : Int32)), .val (.ref a274), .unset, .unset, .unset, .unset]) (rest := [(.long ((((q0 &&& (127 : Int32)).toInt64) <<< ((21 : Int32) &&& 0x3f).toInt64)))]) w355 at_129 rfl rfl ?_
  refine gbipush (v := (127 : Int32)) (pc' := 132) w355 at_130 rfl rfl ?_
  refine giand (pc' := 133) w355 at_132 rfl ?_
  refine gi2l (pc' := 134) w355 at_133 rfl ?_
  refine gbipush (v := (14 : Int32)) (pc' := 136) w355 at_134 rfl rfl ?_
  refine glshl (pc' := 137) w355 at_136 rfl ?_
  refine glor (pc' := 138) w355 at_137 rfl ?_
  refine giloadN (pc' := 139) (Ls := #[.val (.int q0), .val (.int q1), .val (.int q2), .val (.int q3), .val (.int off), .val (.long fl), .second, .val (.int (3 : Int32)), .val (.ref a274), .unset, .unset, .unset, .unset]) (rest := [(.long (((((q0 &&& (127 : Int32)).toInt64) <<< ((21 : Int32) &&& 0x3f).toInt64)) ||| ((((q1 &&& (127 : Int32)).toInt64) <<< ((14 : Int32) &&& 0x3f).toInt64))))]) w355 at_138 rfl rfl ?_
  refine gbipush (v := (127 : Int32)) (pc' := 141) w355 at_139 rfl rfl ?_
  refine giand (pc' := 142) w355 at_141 rfl ?_
  refine gi2l (pc' := 143) w355 at_142 rfl ?_
  refine gbipush (v := (7 : Int32)) (pc' := 145) w355 at_143 rfl rfl ?_
  refine glshl (pc' := 146) w355 at_145 rfl ?_
  refine glor (pc' := 147) w355 at_146 rfl ?_
  refine giloadN (pc' := 148) (Ls := #[.val (.int q0), .val (.int q1), .val (.int q2), .val (.int q3), .val (.int off), .val (.long fl), .second, .val (.int (3 : Int32)), .val (.ref a274), .unset, .unset, .unset, .unset]) (rest := [(.long ((((((q0 &&& (127 : Int32)).toInt64) <<< ((21 : Int32) &&& 0x3f).toInt64)) ||| ((((q1 &&& (127 : Int32)).toInt64) <<< ((14 : Int32) &&& 0x3f).toInt64))) ||| ((((q2 &&& (127 : Int32)).toInt64) <<< ((7 : Int32) &&& 0x3f).toInt64))))]) w355 at_147 rfl rfl ?_
  refine gbipush (v := (127 : Int32)) (pc' := 150) w355 at_148 rfl rfl ?_
  refine giand (pc' := 151) w355 at_150 rfl ?_
  refine gi2l (pc' := 152) w355 at_151 rfl ?_
  refine glor (pc' := 153) w355 at_152 rfl ?_
  refine glstore (pc' := 155) (Ls := #[.val (.int q0), .val (.int q1), .val (.int q2), .val (.int q3), .val (.int off), .val (.long fl), .second, .val (.int (3 : Int32)), .val (.ref a274), .unset, .unset, .unset, .unset]) (Ls' := #[.val (.int q0), .val (.int q1), .val (.int q2), .val (.int q3), .val (.int off), .val (.long fl), .second, .val (.int (3 : Int32)), .val (.ref a274), .val (.long (((((((q0 &&& (127 : Int32)).toInt64) <<< ((21 : Int32) &&& 0x3f).toInt64)) ||| ((((q1 &&& (127 : Int32)).toInt64) <<< ((14 : Int32) &&& 0x3f).toInt64))) ||| ((((q2 &&& (127 : Int32)).toInt64) <<< ((7 : Int32) &&& 0x3f).toInt64))) ||| ((q3 &&& (127 : Int32)).toInt64))), .second, .unset, .unset]) (rest := []) w355 at_153 rfl rfl ?_
  refine gaload (pc' := 157) (Ls := #[.val (.int q0), .val (.int q1), .val (.int q2), .val (.int q3), .val (.int off), .val (.long fl), .second, .val (.int (3 : Int32)), .val (.ref a274), .val (.long (((((((q0 &&& (127 : Int32)).toInt64) <<< ((21 : Int32) &&& 0x3f).toInt64)) ||| ((((q1 &&& (127 : Int32)).toInt64) <<< ((14 : Int32) &&& 0x3f).toInt64))) ||| ((((q2 &&& (127 : Int32)).toInt64) <<< ((7 : Int32) &&& 0x3f).toInt64))) ||| ((q3 &&& (127 : Int32)).toInt64))), .second, .unset, .unset]) (rest := []) w355 at_155 rfl rfl rfl ?_
  refine giload (pc' := 159) (Ls := #[.val (.int q0), .val (.int q1), .val (.int q2), .val (.int q3), .val (.int off), .val (.long fl), .second, .val (.int (3 : Int32)), .val (.ref a274), .val (.long (((((((q0 &&& (127 : Int32)).toInt64) <<< ((21 : Int32) &&& 0x3f).toInt64)) ||| ((((q1 &&& (127 : Int32)).toInt64) <<< ((14 : Int32) &&& 0x3f).toInt64))) ||| ((((q2 &&& (127 : Int32)).toInt64) <<< ((7 : Int32) &&& 0x3f).toInt64))) ||| ((q3 &&& (127 : Int32)).toInt64))), .second, .unset, .unset]) (rest := [(.ref a274)]) w355 at_157 rfl rfl ?_
  refine gcallS (pc' := 162) (argsL := [(.ref a274), (.int (3 : Int32))]) (rest := []) (Wt := 0) w355 at_159 (hw _ (List.mem_of_getElem? (i := 1) rfl)) (hw _ (List.mem_of_getElem? (i := 2) rfl)) (hw _ (List.mem_of_getElem? (i := 3) rfl)) (hw _ (List.mem_of_getElem? (i := 4) rfl)) (by decide) pd_d1 (own_c3 hw a274 k_a274 _ _ (q0.toInt8.toInt32) (q1.toInt8.toInt32) (q2.toInt8.toInt32) (q3.toInt8.toInt32) V358 rfl rfl rfl rfl) rfl rfl rfl rfl (Nat.le_of_eq rfl) (by decide) (by decide) (by decide) (by decide) rfl (fun v360 T361 h362 w363 q364 => ?_)
  obtain ⟨rfl, eh⟩ := q364
  show Go _ _ _ _ _ _ _ _ _ (mkF m 162 #[.val (.int q0), .val (.int q1), .val (.int q2), .val (.int q3), .val (.int off), .val (.long fl), .second, .val (.int (3 : Int32)), .val (.ref a274), .val (.long (((((((q0 &&& (127 : Int32)).toInt64) <<< ((21 : Int32) &&& 0x3f).toInt64)) ||| ((((q1 &&& (127 : Int32)).toInt64) <<< ((14 : Int32) &&& 0x3f).toInt64))) ||| ((((q2 &&& (127 : Int32)).toInt64) <<< ((7 : Int32) &&& 0x3f).toInt64))) ||| ((q3 &&& (127 : Int32)).toInt64))), .second, .unset, .unset] [(.long (own_acc (q0.toInt8.toInt32) (q1.toInt8.toInt32) (q2.toInt8.toInt32) (q3.toInt8.toInt32)))])
  rw [eh] at w363
  refine glstore (pc' := 164) (Ls := #[.val (.int q0), .val (.int q1), .val (.int q2), .val (.int q3), .val (.int off), .val (.long fl), .second, .val (.int (3 : Int32)), .val (.ref a274), .val (.long (((((((q0 &&& (127 : Int32)).toInt64) <<< ((21 : Int32) &&& 0x3f).toInt64)) ||| ((((q1 &&& (127 : Int32)).toInt64) <<< ((14 : Int32) &&& 0x3f).toInt64))) ||| ((((q2 &&& (127 : Int32)).toInt64) <<< ((7 : Int32) &&& 0x3f).toInt64))) ||| ((q3 &&& (127 : Int32)).toInt64))), .second, .unset, .unset]) (Ls' := #[.val (.int q0), .val (.int q1), .val (.int q2), .val (.int q3), .val (.int off), .val (.long fl), .second, .val (.int (3 : Int32)), .val (.ref a274), .val (.long (((((((q0 &&& (127 : Int32)).toInt64) <<< ((21 : Int32) &&& 0x3f).toInt64)) ||| ((((q1 &&& (127 : Int32)).toInt64) <<< ((14 : Int32) &&& 0x3f).toInt64))) ||| ((((q2 &&& (127 : Int32)).toInt64) <<< ((7 : Int32) &&& 0x3f).toInt64))) ||| ((q3 &&& (127 : Int32)).toInt64))), .second, .val (.long (own_acc (q0.toInt8.toInt32) (q1.toInt8.toInt32) (q2.toInt8.toInt32) (q3.toInt8.toInt32))), .second]) (rest := []) w363 at_162 rfl rfl ?_
  refine glload (pc' := 166) (Ls := #[.val (.int q0), .val (.int q1), .val (.int q2), .val (.int q3), .val (.int off), .val (.long fl), .second, .val (.int (3 : Int32)), .val (.ref a274), .val (.long (((((((q0 &&& (127 : Int32)).toInt64) <<< ((21 : Int32) &&& 0x3f).toInt64)) ||| ((((q1 &&& (127 : Int32)).toInt64) <<< ((14 : Int32) &&& 0x3f).toInt64))) ||| ((((q2 &&& (127 : Int32)).toInt64) <<< ((7 : Int32) &&& 0x3f).toInt64))) ||| ((q3 &&& (127 : Int32)).toInt64))), .second, .val (.long (own_acc (q0.toInt8.toInt32) (q1.toInt8.toInt32) (q2.toInt8.toInt32) (q3.toInt8.toInt32))), .second]) (rest := []) w363 at_164 rfl rfl ?_
  refine glload (pc' := 168) (Ls := #[.val (.int q0), .val (.int q1), .val (.int q2), .val (.int q3), .val (.int off), .val (.long fl), .second, .val (.int (3 : Int32)), .val (.ref a274), .val (.long (((((((q0 &&& (127 : Int32)).toInt64) <<< ((21 : Int32) &&& 0x3f).toInt64)) ||| ((((q1 &&& (127 : Int32)).toInt64) <<< ((14 : Int32) &&& 0x3f).toInt64))) ||| ((((q2 &&& (127 : Int32)).toInt64) <<< ((7 : Int32) &&& 0x3f).toInt64))) ||| ((q3 &&& (127 : Int32)).toInt64))), .second, .val (.long (own_acc (q0.toInt8.toInt32) (q1.toInt8.toInt32) (q2.toInt8.toInt32) (q3.toInt8.toInt32))), .second]) (rest := [(.long (own_acc (q0.toInt8.toInt32) (q1.toInt8.toInt32) (q2.toInt8.toInt32) (q3.toInt8.toInt32)))]) w363 at_166 rfl rfl ?_
  refine glcmpif (pm := 169) (pt := 192) (pf := 172) w363 at_168 rfl at_169 (by decide) rfl rfl (fun (c168 : ¬ (own_acc (q0.toInt8.toInt32) (q1.toInt8.toInt32) (q2.toInt8.toInt32) (q3.toInt8.toInt32)) = (((((((q0 &&& (127 : Int32)).toInt64) <<< ((21 : Int32) &&& 0x3f).toInt64)) ||| ((((q1 &&& (127 : Int32)).toInt64) <<< ((14 : Int32) &&& 0x3f).toInt64))) ||| ((((q2 &&& (127 : Int32)).toInt64) <<< ((7 : Int32) &&& 0x3f).toInt64))) ||| ((q3 &&& (127 : Int32)).toInt64))) => ?_) (fun (c168 : (own_acc (q0.toInt8.toInt32) (q1.toInt8.toInt32) (q2.toInt8.toInt32) (q3.toInt8.toInt32)) = (((((((q0 &&& (127 : Int32)).toInt64) <<< ((21 : Int32) &&& 0x3f).toInt64)) ||| ((((q1 &&& (127 : Int32)).toInt64) <<< ((14 : Int32) &&& 0x3f).toInt64))) ||| ((((q2 &&& (127 : Int32)).toInt64) <<< ((7 : Int32) &&& 0x3f).toInt64))) ||| ((q3 &&& (127 : Int32)).toInt64))) => ?_)
  · refine giconst (v := (0 : Int32)) (pc' := 193) w363 at_192 rfl rfl ?_
    exact absurd (own_eq q0 q1 q2 q3) c168
  · refine glload (pc' := 174) (Ls := #[.val (.int q0), .val (.int q1), .val (.int q2), .val (.int q3), .val (.int off), .val (.long fl), .second, .val (.int (3 : Int32)), .val (.ref a274), .val (.long (((((((q0 &&& (127 : Int32)).toInt64) <<< ((21 : Int32) &&& 0x3f).toInt64)) ||| ((((q1 &&& (127 : Int32)).toInt64) <<< ((14 : Int32) &&& 0x3f).toInt64))) ||| ((((q2 &&& (127 : Int32)).toInt64) <<< ((7 : Int32) &&& 0x3f).toInt64))) ||| ((q3 &&& (127 : Int32)).toInt64))), .second, .val (.long (own_acc (q0.toInt8.toInt32) (q1.toInt8.toInt32) (q2.toInt8.toInt32) (q3.toInt8.toInt32))), .second]) (rest := []) w363 at_172 rfl rfl ?_
    refine glconst (v := (0 : Int64)) (pc' := 175) w363 at_174 rfl rfl ?_
    refine glcmpif (pm := 176) (pt := 192) (pf := 179) w363 at_175 rfl at_176 (by decide) rfl rfl (fun (c175 : (own_acc (q0.toInt8.toInt32) (q1.toInt8.toInt32) (q2.toInt8.toInt32) (q3.toInt8.toInt32)) < (0 : Int64)) => ?_) (fun (c175 : ¬ (own_acc (q0.toInt8.toInt32) (q1.toInt8.toInt32) (q2.toInt8.toInt32) (q3.toInt8.toInt32)) < (0 : Int64)) => ?_)
    · refine giconst (v := (0 : Int32)) (pc' := 193) w363 at_192 rfl rfl ?_
      exact absurd c175 (own_rng q0 q1 q2 q3).1
    · refine glload (pc' := 181) (Ls := #[.val (.int q0), .val (.int q1), .val (.int q2), .val (.int q3), .val (.int off), .val (.long fl), .second, .val (.int (3 : Int32)), .val (.ref a274), .val (.long (((((((q0 &&& (127 : Int32)).toInt64) <<< ((21 : Int32) &&& 0x3f).toInt64)) ||| ((((q1 &&& (127 : Int32)).toInt64) <<< ((14 : Int32) &&& 0x3f).toInt64))) ||| ((((q2 &&& (127 : Int32)).toInt64) <<< ((7 : Int32) &&& 0x3f).toInt64))) ||| ((q3 &&& (127 : Int32)).toInt64))), .second, .val (.long (own_acc (q0.toInt8.toInt32) (q1.toInt8.toInt32) (q2.toInt8.toInt32) (q3.toInt8.toInt32))), .second]) (rest := []) w363 at_179 rfl rfl ?_
      refine gldc2 (v := (268435456 : Int64)) (pc' := 184) w363 at_181 (hw _ (List.mem_of_getElem? (i := 5) rfl)) rfl ?_
      refine glcmpif (pm := 185) (pt := 192) (pf := 188) w363 at_184 rfl at_185 (by decide) rfl rfl (fun (c184 : ¬ (own_acc (q0.toInt8.toInt32) (q1.toInt8.toInt32) (q2.toInt8.toInt32) (q3.toInt8.toInt32)) < (268435456 : Int64)) => ?_) (fun (c184 : (own_acc (q0.toInt8.toInt32) (q1.toInt8.toInt32) (q2.toInt8.toInt32) (q3.toInt8.toInt32)) < (268435456 : Int64)) => ?_)
      · refine giconst (v := (0 : Int32)) (pc' := 193) w363 at_192 rfl rfl ?_
        exact absurd (own_rng q0 q1 q2 q3).2 c184
      · refine giconst (v := (1 : Int32)) (pc' := 189) w363 at_188 rfl rfl ?_
        refine ggoto (pc' := 193) w363 at_189 (by decide) rfl ?_
        exact gretZ w363 at_193 rfl (by decide) (by decide) rfl
theorem own_m3 (k : Int32) : (k &&& (3 : Int32)) = 0 ∨ (k &&& (3 : Int32)) = 1 ∨ (k &&& (3 : Int32)) = 2 ∨ (k &&& (3 : Int32)) = 3 := by
  have e : (k &&& (3 : Int32)).toInt = k.toInt % 2 ^ 2 := Jvm.Kit.i32_mask k 3 (k := 2) (by decide) (by decide)
  have r : k.toInt % 2 ^ 2 = 0 ∨ k.toInt % 2 ^ 2 = 1 ∨ k.toInt % 2 ^ 2 = 2 ∨ k.toInt % 2 ^ 2 = 3 := by omega
  rcases r with r | r | r | r
  · exact Or.inl (Int32.toInt_inj.mp (by rw [e, r]; rfl))
  · exact Or.inr (Or.inl (Int32.toInt_inj.mp (by rw [e, r]; rfl)))
  · exact Or.inr (Or.inr (Or.inl (Int32.toInt_inj.mp (by rw [e, r]; rfl))))
  · exact Or.inr (Or.inr (Or.inr (Int32.toInt_inj.mp (by rw [e, r]; rfl))))
set_option maxRecDepth 65536 in
set_option maxHeartbeats 4000000 in
theorem own_law (hw : ∀ d ∈ tables_1, d.before a0 Z = true) (q0 q1 q2 q3 off : Int32) (fl : Int64) (z0 : n0 ≤ h.size) :
    Ctr l x code maxLocals ret room_1 Z #[(.int q0), (.int q1), (.int q2), (.int q3), (.int off), (.long fl)] h n0 (fun v _ => v = some (.int 1)) tables_1 := by
  refine metGo (Ls := #[.val (.int q0), .val (.int q1), .val (.int q2), .val (.int q3), .val (.int off), .val (.long fl), .second, .unset, .unset, .unset, .unset, .unset, .unset]) pn_at (fun m => by first | rfl | (simp [entryFrame, mkF, argsToLocals, Value.category]; done) | (simp [entryFrame, mkF, argsToLocals, Value.category, maxLocals]; done)) ?_
  intro p e s m below meth c T w
  refine giload (pc' := 2) (Ls := #[.val (.int q0), .val (.int q1), .val (.int q2), .val (.int q3), .val (.int off), .val (.long fl), .second, .unset, .unset, .unset, .unset, .unset, .unset]) (rest := []) w at_0 rfl rfl ?_
  refine giconst (v := (3 : Int32)) (pc' := 3) w at_2 rfl rfl ?_
  refine giand (pc' := 4) w at_3 rfl ?_
  refine gistore (pc' := 6) (Ls := #[.val (.int q0), .val (.int q1), .val (.int q2), .val (.int q3), .val (.int off), .val (.long fl), .second, .unset, .unset, .unset, .unset, .unset, .unset]) (Ls' := #[.val (.int q0), .val (.int q1), .val (.int q2), .val (.int q3), .val (.int off), .val (.long fl), .second, .val (.int (off &&& (3 : Int32))), .unset, .unset, .unset, .unset, .unset]) (rest := []) w at_4 rfl rfl ?_
  rcases own_m3 off with r | r | r | r <;> rw [r]
  · exact own_n0 hw w q0 q1 q2 q3 off fl z0
  · exact own_n1 hw w q0 q1 q2 q3 off fl z0
  · exact own_n2 hw w q0 q1 q2 q3 off fl z0
  · exact own_n3 hw w q0 q1 q2 q3 off fl z0
theorem comes_1 {Post : Tables → Env → Array Value → State → Outcome → State → Prop} (hpost : ∀ tb e args s v u, (limb_1_1.after args s (.returned v) u = true ∧ limb_1_2.after args s (.returned v) u = true ∧ True) → FrameEnd s (.returned v) u (Jvm.fieldLocs frame_1_writes args s ++ Jvm.arrayLocs frame_1_arrays args s ++ Jvm.staticLocs frame_1_statics s) 16 128 → Post tb e args s (.returned v) u) :
    ArmFor flags0 classFile x code maxLocals ret World_1 tables_1 room_1 Calls_1 rest_1 Pre_1 Post := by
  intro l hfl _ _ p e ha hc hk s m args below hf hA hF happ hP
  obtain ⟨hcalls, hrest, hpre⟩ := hP
  obtain ⟨-, -, -, hnamed, -, -, -, hat⟩ := (Spec.applies_iff hf).mp happ
  obtain ⟨hg, hn⟩ := and_e (Cond.before_iff.mp (show (Jvm.Cond.and given_1 narrow_1).before args s = true from hpre))
  obtain ⟨hcount, g0⟩ := and_e hg
  obtain ⟨a0, g1⟩ := and_e g0
  obtain ⟨a1, g2⟩ := and_e g1
  obtain ⟨a2, g3⟩ := and_e g2
  obtain ⟨a3, g4⟩ := and_e g3
  obtain ⟨a4, g5⟩ := and_e g4
  obtain ⟨w0, w1, w2, w3, w4, w5, rfl⟩ : ∃ w0 w1 w2 w3 w4 w5 : Value, args = #[w0, w1, w2, w3, w4, w5] := by
    have hs : args.size = 6 := by simpa [Cond.value, given_1] using hcount
    obtain ⟨L⟩ := args
    match L, hs with
    | [w0, w1, w2, w3, w4, w5], _ => exact ⟨w0, w1, w2, w3, w4, w5, rfl⟩
  have hw := fun d (hd : d ∈ tables_1) => atoms_spec (ws := Jvm.Cond.code x code maxLocals ret :: tables_1) hat d (List.mem_cons_of_mem _ hd)
  have hfit : Fit s := fun {y c} hc i hi => by
    obtain ⟨ha, rfl⟩ := Array.getElem?_eq_some_iff.mp hc
    have q := List.all_eq_true.mp ((Array.all_eq_true_iff_forall_mem.mp hF) _ (Array.getElem_mem ha)) i (List.mem_range.mpr hi)
    simpa [Array.getElem?_eq_getElem hi] using q
  obtain ⟨i0, e0⟩ := is_v a0
  obtain rfl : w0 = (.int i0) := Option.some.inj e0
  obtain ⟨i1, e1⟩ := is_v a1
  obtain rfl : w1 = (.int i1) := Option.some.inj e1
  obtain ⟨i2, e2⟩ := is_v a2
  obtain rfl : w2 = (.int i2) := Option.some.inj e2
  obtain ⟨i3, e3⟩ := is_v a3
  obtain rfl : w3 = (.int i3) := Option.some.inj e3
  obtain ⟨i4, e4⟩ := is_v a4
  obtain rfl : w4 = (.int i4) := Option.some.inj e4
  obtain ⟨i5, e5⟩ := isL_v g5
  obtain rfl : w5 = (.long i5) := Option.some.inj e5
  obtain ⟨n, o, h1, h2, h3, _, L, rfl, ⟨N, rfl⟩, hq⟩ := (own_law (h := s.heap) (n0 := s.heap.size) hw i0 i1 i2 i3 i4 i5 (Nat.le_refl _)) p e ha hc hk s m _ below hf ((Spec.applies_iff_loose hf).mp happ).1 ⟨rfl, State.Warmed39.refl s, rfl⟩ trivial
  refine ⟨n, _, h1, h2, h3, hpost _ _ _ _ _ _ ⟨Cond.after_iff.mpr rfl, Cond.after_iff.mpr (eq_i res_at (Term.int_eval (1)) rfl), trivial⟩ ⟨hq.1, hq.2.1, (hq.2.2.sift fun y hy => Or.inr (N y hy)).mono (by decide) (by decide)⟩⟩
theorem main_1_1 : Claimed_1_1 := comes_1 fun _ _ _ _ _ _ h hF => ⟨h.1, hF⟩
theorem main_1_2 : Claimed_1_2 := comes_1 fun _ _ _ _ _ _ h hF => ⟨h.2.1, hF⟩
end Jvm.Pilot.@@N@@
namespace Jvm.Pilot.@@N@@
open Jvm Jvm.ClassFile Sem Op Lib Jvm.Free Jvm.Stand Jvm.Pilot.@@N@@.Jvm.D
/-! MADE BY PROGRAM (witnessworld.py) out of the Statement's table words and the real class files: 9 classes; the members and pool entries that the words name. The judged class is class 1, her method 1. -/
namespace start1
open Jvm.ClassFile
def u (s : String) : CpInfo := .utf8 (stringToUtf16 s)
/-- a pool by its gaps: so many unusable entries, then the entry; so many at the end -/
def gap : Nat → List CpInfo → List CpInfo
  | 0, r => r
  | n + 1, r => .unusable :: gap n r
def poolList (es : List (Nat × CpInfo)) (last : Nat) : List CpInfo := es.foldr (fun e r => gap e.1 (e.2 :: r)) (gap last [])
def pool (es : List (Nat × CpInfo)) (last : Nat) : Array CpInfo := ⟨poolList es last⟩
def fileOf (pool : Array CpInfo) (this : Nat) (attrs : Array Attribute := #[]) (ms : Array MethodInfo := #[]) (fl : Nat := 33) (sup : Nat := 0) (ifs : Array Nat := #[]) (fds : Array FieldInfo := #[]) : ClassFile where
  minorVersion := 0
  majorVersion := 65
  constantPool := pool
  accessFlags := fl
  thisClass := this
  superClass := sup
  interfaces := ifs
  fields := fds
  methods := ms
  attributes := attrs
def plain (name : String) (sup : Option ClassId) : Class where
  name := name
  kind := .ordinary
  loader := none
  accessFlags := 33
  super := sup
  interfaces := #[]
  cf := none
  fields := #[]
  methods := #[]
  instanceTypes := #[]
  staticTypes := #[]
  resolved := #[]
  callSites := []
  init := .initialized
  statics := none
  mirror := none

def pool0 : Array CpInfo := pool [(5, u "<init>"), (0, u "()V"), (1, .class_ 10), (1, u "java/lang/Object")] 113

def k0m0 : Method := { name := "<init>", desc := "()V", sig := { parameters := [], returnType := none }, accessFlags := 1, code := none }
/-- java/lang/Object -/
def k0 : Class := { plain "java/lang/Object" none with
  accessFlags := 33
  interfaces := #[]
  cf := some (fileOf pool0 8 #[] #[{ accessFlags := 1, nameIndex := 5, descriptorIndex := 6, attributes := #[] }] 33 0 #[] #[])
  fields := #[]
  methods := #[k0m0]
  instanceTypes := #[]
  staticTypes := #[]
  resolved := Array.replicate 124 none
  statics := none }

def pool1 : Array CpInfo := pool [(2, .class_ 4), (1, u "java/lang/Object"), (0, u "<init>"), (0, u "()V"), (0, .methodref 8 9), (0, .class_ 10), (0, .nameAndType 11 12), (0, u "com/example/kindred/kindred/index/Id3v2"), (0, u "synchsafe"), (0, u "([BI)J"), (0, .long 268435456), (1, .class_ 16), (0, u "com/example/kindred/kindred/index/Id3v2SynchsafePinLaw"), (2, u "law"), (0, u "(IIIIIJ)Z")] 5

def k1m0 : Method := { name := "<init>", desc := "()V", sig := { parameters := [], returnType := none }, accessFlags := 1, code := none }
def k1c1 : Code := { maxStack := 5, maxLocals := 13, code := code, exceptionTable := #[], attributes := #[] }
def k1m1 : Method := { name := "law", desc := "(IIIIIJ)Z", sig := { parameters := [.int, .int, .int, .int, .int, .long], returnType := some .boolean }, accessFlags := 9, code := some k1c1 }
/-- com/example/kindred/kindred/index/Id3v2SynchsafePinLaw -/
def k1 : Class := { plain "com/example/kindred/kindred/index/Id3v2SynchsafePinLaw" (some 0) with
  accessFlags := 49
  interfaces := #[]
  cf := some (fileOf pool1 15 #[] #[{ accessFlags := 1, nameIndex := 5, descriptorIndex := 6, attributes := #[] }, { accessFlags := 9, nameIndex := 19, descriptorIndex := 20, attributes := #[] }] 49 2 #[] #[])
  fields := #[]
  methods := #[k1m0, k1m1]
  instanceTypes := #[]
  staticTypes := #[]
  resolved := Array.replicate 26 none
  statics := none }

def pool2 : Array CpInfo := pool [(2, .class_ 4), (1, u "java/lang/Object"), (0, u "<init>"), (0, u "()V"), (0, .class_ 8), (0, u "com/example/kindred/kindred/index/Id3v2"), (12, u "synchsafe"), (0, u "([BI)J"), (19, u "V22_IDS"), (0, u "Ljava/util/Map;"), (83, u "HEADER_LENGTH"), (0, u "I"), (2, u "UNSYNCHRONISED"), (1, u "EXTENDED_HEADER"), (1, u "V23_COMPRESSED"), (0, u "V23_ENCRYPTED"), (0, u "V23_GROUPED"), (1, u "V24_GROUPED"), (0, u "V24_COMPRESSED"), (1, u "V24_ENCRYPTED"), (1, u "V24_UNSYNCHRONISED"), (1, u "V24_DATA_LENGTH")] 20

def k2m0 : Method := { name := "<init>", desc := "()V", sig := { parameters := [], returnType := none }, accessFlags := 2, code := none }
def k2c1 : Code := { maxStack := 4, maxLocals := 5, code := prog_22_method_8_code, exceptionTable := #[], attributes := #[] }
def k2m1 : Method := { name := "synchsafe", desc := "([BI)J", sig := { parameters := [(.array .byte), .int], returnType := some .long }, accessFlags := 8, code := some k2c1 }
/-- com/example/kindred/kindred/index/Id3v2 -/
def k2 : Class := { plain "com/example/kindred/kindred/index/Id3v2" (some 0) with
  accessFlags := 48
  interfaces := #[]
  cf := some (fileOf pool2 7 #[] #[{ accessFlags := 2, nameIndex := 5, descriptorIndex := 6, attributes := #[] }, { accessFlags := 8, nameIndex := 21, descriptorIndex := 22, attributes := #[] }] 48 2 #[] #[{ accessFlags := 24, nameIndex := 127, descriptorIndex := 128, attributes := #[] }, { accessFlags := 26, nameIndex := 131, descriptorIndex := 128, attributes := #[] }, { accessFlags := 26, nameIndex := 133, descriptorIndex := 128, attributes := #[] }, { accessFlags := 26, nameIndex := 135, descriptorIndex := 128, attributes := #[] }, { accessFlags := 26, nameIndex := 136, descriptorIndex := 128, attributes := #[] }, { accessFlags := 26, nameIndex := 137, descriptorIndex := 128, attributes := #[] }, { accessFlags := 26, nameIndex := 139, descriptorIndex := 128, attributes := #[] }, { accessFlags := 26, nameIndex := 140, descriptorIndex := 128, attributes := #[] }, { accessFlags := 26, nameIndex := 142, descriptorIndex := 128, attributes := #[] }, { accessFlags := 26, nameIndex := 144, descriptorIndex := 128, attributes := #[] }, { accessFlags := 26, nameIndex := 146, descriptorIndex := 128, attributes := #[] }, { accessFlags := 26, nameIndex := 42, descriptorIndex := 43, attributes := #[] }])
  fields := #[{ name := "HEADER_LENGTH", type := .int, accessFlags := 24, slot := 0, constantValue := 0 }, { name := "UNSYNCHRONISED", type := .int, accessFlags := 26, slot := 1, constantValue := 0 }, { name := "EXTENDED_HEADER", type := .int, accessFlags := 26, slot := 2, constantValue := 0 }, { name := "V23_COMPRESSED", type := .int, accessFlags := 26, slot := 3, constantValue := 0 }, { name := "V23_ENCRYPTED", type := .int, accessFlags := 26, slot := 4, constantValue := 0 }, { name := "V23_GROUPED", type := .int, accessFlags := 26, slot := 5, constantValue := 0 }, { name := "V24_GROUPED", type := .int, accessFlags := 26, slot := 6, constantValue := 0 }, { name := "V24_COMPRESSED", type := .int, accessFlags := 26, slot := 7, constantValue := 0 }, { name := "V24_ENCRYPTED", type := .int, accessFlags := 26, slot := 8, constantValue := 0 }, { name := "V24_UNSYNCHRONISED", type := .int, accessFlags := 26, slot := 9, constantValue := 0 }, { name := "V24_DATA_LENGTH", type := .int, accessFlags := 26, slot := 10, constantValue := 0 }, { name := "V22_IDS", type := (.object "java/util/Map"), accessFlags := 26, slot := 11, constantValue := 0 }]
  methods := #[k2m0, k2m1]
  instanceTypes := #[]
  staticTypes := #[.int, .int, .int, .int, .int, .int, .int, .int, .int, .int, .int, (.object "java/util/Map")]
  resolved := Array.replicate 167 none
  statics := none }

def pool3 : Array CpInfo := pool [(1, u "java/lang/Cloneable"), (0, .class_ 1), (0, u "java/lang/Object"), (0, .class_ 3)] 3

/-- java/lang/Cloneable -/
def k3 : Class := { plain "java/lang/Cloneable" (some 0) with
  accessFlags := 1537
  interfaces := #[]
  cf := some (fileOf pool3 2 #[] #[] 1537 4 #[] #[])
  fields := #[]
  methods := #[]
  instanceTypes := #[]
  staticTypes := #[]
  resolved := Array.replicate 8 none
  statics := none }

def pool4 : Array CpInfo := pool [(1, u "java/io/Serializable"), (0, .class_ 1), (0, u "java/lang/Object"), (0, .class_ 3)] 3

/-- java/io/Serializable -/
def k4 : Class := { plain "java/io/Serializable" (some 0) with
  accessFlags := 1537
  interfaces := #[]
  cf := some (fileOf pool4 2 #[] #[] 1537 4 #[] #[])
  fields := #[]
  methods := #[]
  instanceTypes := #[]
  staticTypes := #[]
  resolved := Array.replicate 8 none
  statics := none }

/-- the primitive byte -/
def k5 : Class := { plain "byte" none with kind := .primitive 'B', accessFlags := 0x411 }
/-- [B -/
def k6 : Class := { plain "[B" (some 0) with kind := .array 5 .byte, interfaces := #[3, 4], accessFlags := 1041 }

/-- the primitive int -/
def k7 : Class := { plain "int" none with kind := .primitive 'I', accessFlags := 0x411 }
/-- [I -/
def k8 : Class := { plain "[I" (some 0) with kind := .array 7 .int, interfaces := #[3, 4], accessFlags := 1041 }

def heap : Heap := #[]
def classes : Array Class := #[k0, k1, k2, k3, k4, k5, k6, k7, k8]
def interned : List (Array UInt16 × Addr) := []
def slotsUsed : Nat := 0
def theMethod : MethodId := ⟨1, 1⟩
def args0 : Array Value := #[.int 5, .int 3, .int 2, .int 1, .int 1, .long 7]
def aboutOver (below : List Frame) : State where
  vm := { classes := classes, interned := interned.toArray }
  heap := heap
  slotsUsed := slotsUsed
  threads := #[{ frames := .invoking theMethod args0 :: below }]
def below0 : List Frame := [.native { method := ⟨0, 0⟩, args := #[] }]
def about1 : State := aboutOver below0
def p0 : Program := .bare "" "" ""
def e0 : Env := launch0.env 0 0 0
theorem w_frames : about1.frames = Frame.invoking theMethod args0 :: below0 := rfl
set_option maxRecDepth 65536 in
theorem w_args : argsFit about1.vm theMethod args0 = true := by decide +kernel
set_option maxRecDepth 65536 in
theorem w_heap : heapFits about1 = true := by decide +kernel
set_option maxRecDepth 65536 in
theorem w_runnable : about1.curStatus? = some .runnable := by decide +kernel
set_option maxRecDepth 65536 in
theorem w_alone : about1.alone = true := by decide +kernel
set_option maxRecDepth 65536 in
theorem w_named : about1.methodNamed? x = some theMethod := by decide +kernel
set_option maxRecDepth 65536 in
theorem w_hears : about1.hears theMethod below0 = true := by decide +kernel
set_option maxRecDepth 65536 in
theorem w_ripe : about1.ripe theMethod args0 below0 = true := by decide +kernel
theorem w_running : about1.status = .running := rfl
set_option maxRecDepth 65536 in
theorem w_room : about1.hasRoom e0.platform room_1 = true :=
  launch0.hasRoom_least _ room_1 (by decide +kernel) (by decide +kernel) (by decide +kernel) (by decide +kernel) (by decide +kernel) (by decide +kernel)
theorem allAtoms_all (ts : List Jvm.Cond) (a : Array Jvm.Value) (st : Jvm.State) : (allAtoms ts).before a st = ts.all (fun c => c.before a st) := by
  induction ts with
  | nil => rfl
  | cons c t ih =>
    show (Jvm.Cond.and c (allAtoms t)).before a st = _
    rw [Jvm.Cond.before_and, ih, List.all_cons]
def words1 : List Jvm.Cond := Jvm.Cond.code x code maxLocals ret :: tables_1
/-- a 'code' word, met by the world's own term for the bytes: nothing is compared byte by byte -/
theorem code_word {y : MethodName} {bytes : ByteArray} {mx : Nat} {rt : Option FieldType} {a : Array Value} {s : State} {m : MethodId} {meth : Method} {c : Code} (h1 : s.methodNamed? y = some m) (h2 : s.vm.method? m = some meth) (h3 : meth.code = some c) (h4 : c.code = bytes)
    (h5 : (c.maxLocals == mx && c.exceptionTable.isEmpty && decide (c.maxStack ≤ mostOperands) && decide (meth.sig.returnType = rt) && !meth.locks && decide (parseMethodDescriptor y.desc = some meth.sig)) = true) : (Jvm.Cond.code y bytes mx rt).before a s = true := by
  simp only [Bool.and_eq_true, beq_iff_eq, Bool.not_eq_true', decide_eq_true_eq] at h5
  obtain ⟨⟨⟨⟨⟨g1, g2⟩, g3⟩, g4⟩, g5⟩, g6⟩ := h5
  simp [Cond.before, Cond.holds, Cond.value, h1, h2, h3, h4, g1, g2, g3, g4, g5, g6]
def isCode : Jvm.Cond → Bool
  | .code _ _ _ _ => true
  | _ => false
theorem all_split {L : List Jvm.Cond} {P : Jvm.Cond → Bool} (h1 : L.all (fun c => isCode c || P c) = true) (h2 : ∀ c ∈ L.filter isCode, P c = true) : L.all P = true := by
  refine List.all_eq_true.mpr fun c hc => ?_
  have h := List.all_eq_true.mp h1 c hc
  rcases Bool.eq_false_or_eq_true (isCode c) with hi | hi
  · exact h2 c (List.mem_filter.mpr ⟨hc, hi⟩)
  · simpa [hi] using h
set_option maxRecDepth 65536 in
theorem w_c0 : (Jvm.Cond.code x code maxLocals ret).before args0 about1 = true := code_word (m := ⟨1, 1⟩) (meth := k1m1) (c := k1c1) (by decide +kernel) rfl rfl rfl (by decide +kernel)
set_option maxRecDepth 65536 in
theorem w_c1 : (Jvm.Cond.code ({ cls := "com/example/kindred/kindred/index/Id3v2", name := "synchsafe", desc := "([BI)J" } : Jvm.MethodName) prog_22_method_8_code (5 : Nat) (Option.some Jvm.ClassFile.FieldType.long)).before args0 about1 = true := code_word (m := ⟨2, 1⟩) (meth := k2m1) (c := k2c1) (by decide +kernel) rfl rfl rfl (by decide +kernel)
def codes1 : List Jvm.Cond := [Jvm.Cond.code x code maxLocals ret, Jvm.Cond.code ({ cls := "com/example/kindred/kindred/index/Id3v2", name := "synchsafe", desc := "([BI)J" } : Jvm.MethodName) prog_22_method_8_code (5 : Nat) (Option.some Jvm.ClassFile.FieldType.long)]
set_option maxRecDepth 65536 in
theorem codes_eq : words1.filter isCode = codes1 := rfl
theorem w_codes : ∀ c ∈ words1.filter isCode, c.before args0 about1 = true := by
  rw [codes_eq]
  intro c hc
  simp only [codes1, List.mem_cons, List.not_mem_nil, or_false] at hc
  rcases hc with rfl | rfl
  · exact w_c0
  · exact w_c1
set_option maxRecDepth 65536 in
theorem w_t1 : words1.all (fun c => isCode c || c.before args0 about1) = true := by decide +kernel
theorem w_tables : (allAtoms (Jvm.Cond.code x code maxLocals ret :: tables_1)).before args0 about1 = true := by
  rw [allAtoms_all]
  show words1.all (fun c => c.before args0 about1) = true
  refine all_split ?_ w_codes
  rw [w_t1]
set_option maxRecDepth 65536 in
theorem w_case : (Jvm.Cond.and given_1 narrow_1).before args0 about1 = true := by decide +kernel
theorem w_applies : (headSpec (Jvm.Cond.code x code maxLocals ret :: tables_1) room_1).applies x e0.platform about1 = true :=
  (Spec.applies_iff w_frames).mpr ⟨w_running, w_runnable, w_alone, w_named, w_hears, w_ripe, w_room, w_tables⟩
theorem atStart : AtStart classFile x code maxLocals ret World_1 tables_1 room_1 Calls_1 rest_1 Pre_1 launch0 p0 e0 about1 theMethod args0 below0 :=
  ⟨lists_1, trivial, launch0.admits_env _ _ _, launch0.least_env, fairChoices_fair.cas, fairChoices_fair.clock, w_frames, w_args, w_heap, w_applies, trivial, trivial, w_case⟩
end start1
theorem witness_1 : WitnessClaimed_1 := ⟨start1.p0, start1.e0, start1.about1, start1.theMethod, start1.args0, start1.below0, start1.atStart⟩
end Jvm.Pilot.@@N@@
