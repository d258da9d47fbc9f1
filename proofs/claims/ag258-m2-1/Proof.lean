import JvmDerived
import JvmDerived.Pilot.@@N@@Statement
import JvmDerived.Pilot.@@N@@Code
set_option linter.unusedVariables false
set_option linter.unusedSimpArgs false
namespace Jvm.Pilot.@@N@@
open Jvm Jvm.ClassFile Sem Op Lib Jvm.Free Jvm.Stand Jvm.LawKit Jvm.RoadKit Bundle Jvm.Pilot.@@N@@.Jvm.D
section GoKit
variable {p : Program} {l : Launch} {e : Env} {R : Room} {s : State} {m : MethodId} {args : Array Value} {below : List Frame} {meth : Method} {c : Code} {T : State} {Z : State} {own nm : String} {bytes : ByteArray} {mx : Nat} {rt : Option FieldType} {n0 k n : Nat} {h : Heap} {Q : Option Value → Heap → Prop} {CC NN : Nat} {a0 : Array Value} {Ls Ls' : Array Slot} {rest : List Value} {pc pc' : Nat}
/-- where a walk stands -/
def W (Z : State) (own nm : String) (bytes : ByteArray) (mx : Nat) (rt : Option FieldType) (n0 : Nat) (p : Program) (l : Launch) (e : Env) (R : Room) (s : State) (m : MethodId) (args : Array Value) (below : List Frame) (meth : Method) (c : Code) (k n : Nat) (T : State) (h : Heap) : Prop :=
  p.tables.exec = Jvm.exec ∧ c.code = bytes ∧ s.vm.findClass own = some m.cls ∧ Z.Warmed39 s.vm ∧ c.maxLocals = mx ∧ meth.name = nm ∧ meth.sig.returnType = rt ∧ meth.locks = false ∧ (∃ L, Stand p l e R s m args below meth c T L k n ∧ Fr n0 L) ∧ T.heap = h
/-- from this frame the method ends well -/
def Go (n0 : Nat) (p : Program) (e : Env) (below : List Frame) (s : State) (Q : Option Value → Heap → Prop) (CC NN : Nat) (T : State) (g : JFrame) : Prop :=
  ∃ s₂ o, Steps p.tables e below (T.setTop g) s₂ ∧ s₂.status = .running ∧ Ended s₂ below o ∧ ∃ v L, o = .returned v ∧ (Fr n0 L ∧ Q v s₂.heap) ∧ FrameEnd s o s₂ L CC NN
/-- a body's contract: of these arguments, at this heap -/
def Ctr (l : Launch) (y : MethodName) (yb : ByteArray) (ymx : Nat) (yr : Option FieldType) (rm : Room) (Z : State) (as : Array Value) (h0 : Heap) (n0 : Nat) (Q : Option Value → Heap → Prop) (ws : List Jvm.Cond) : Prop :=
  MetFree l y (head1 (Jvm.Cond.code y yb ymx yr :: ws) rm) (fun a U => a = as ∧ Z.Warmed39 U.vm ∧ U.heap = h0) (fun _ _ _ _ _ => True) (fun _ U o U' => ∃ v L, o = .returned v ∧ (Fr n0 L ∧ Q v U'.heap) ∧ FrameEnd U o U' L rm.cells rm.slots)
theorem metGo {y : MethodName} {rm : Room} {as : Array Value} {ws : List Jvm.Cond} (hpn : plainFor y = true) (hef : ∀ m, entryFrame m as mx = mkF m 0 Ls [])
    (H : ∀ (p : Program) (e : Env) (s : State) (m : MethodId) (below : List Frame) (meth : Method) (c : Code) (T : State), W Z y.cls y.name bytes mx rt n0 p l e rm s m as below meth c 0 0 T h → Go n0 p e below s Q rm.cells rm.slots T (mkF m 0 Ls [])) : Ctr l y bytes mx rt rm Z as h n0 Q ws := by
  refine MetFree.of_bodySF hpn hisR ?_
  intro p e s m args below meth c s₁ Bd hml0 hP hK
  obtain ⟨rfl, hZ, hh⟩ := hP
  have e0 : s₁.heap = h := by rw [← hh, Bd.state]; rfl
  obtain ⟨s₂, o, st, r⟩ := H p e s m below meth c s₁ ⟨Bd.exec, Bd.bytes, findClass_of_methodNamed Bd.named, hZ, hml0, (name_of_methodNamed Bd.named Bd.method).1, Bd.returns, Bd.notSynchronized, ⟨[], Stand.of_body Bd, Fr.nil n0⟩, e0⟩
  exact ⟨s₂, o, castTop (hef m) st, r⟩
def cY : ClassFile.Cond → Int32 → Int32 → Prop
  | .eq, x, y => x = y
  | .ne, x, y => ¬ x = y
  | .lt, x, y => x < y
  | .ge, x, y => ¬ x < y
  | .gt, x, y => y < x
  | .le, x, y => ¬ y < x
def cN : ClassFile.Cond → Int32 → Int32 → Prop
  | .eq, x, y => ¬ x = y
  | .ne, x, y => x = y
  | .lt, x, y => ¬ x < y
  | .ge, x, y => x < y
  | .gt, x, y => ¬ y < x
  | .le, x, y => y < x
def lY : ClassFile.Cond → Int64 → Int64 → Prop
  | .eq, x, y => x = y
  | .ne, x, y => ¬ x = y
  | .lt, x, y => x < y
  | .ge, x, y => ¬ x < y
  | .gt, x, y => y < x
  | .le, x, y => ¬ y < x
def lN : ClassFile.Cond → Int64 → Int64 → Prop
  | .eq, x, y => ¬ x = y
  | .ne, x, y => x = y
  | .lt, x, y => ¬ x < y
  | .ge, x, y => x < y
  | .gt, x, y => ¬ y < x
  | .le, x, y => y < x
theorem c_or (cd : ClassFile.Cond) (x y : Int32) : (cY cd x y ∧ if_icmp.holds cd x y = true) ∨ (cN cd x y ∧ if_icmp.holds cd x y = false) := by
  cases cd
  · by_cases q : x = y
    · exact Or.inl ⟨q, (teq q).1⟩
    · exact Or.inr ⟨q, (feq q).1⟩
  · by_cases q : x = y
    · exact Or.inr ⟨q, (teq q).2⟩
    · exact Or.inl ⟨q, (feq q).2⟩
  · by_cases q : x < y
    · exact Or.inl ⟨q, (tlt q).1⟩
    · exact Or.inr ⟨q, (flt q).1⟩
  · by_cases q : x < y
    · exact Or.inr ⟨q, (tlt q).2.1⟩
    · exact Or.inl ⟨q, (flt q).2.1⟩
  · by_cases q : y < x
    · exact Or.inl ⟨q, (tlt q).2.2.1⟩
    · exact Or.inr ⟨q, (flt q).2.2.1⟩
  · by_cases q : y < x
    · exact Or.inr ⟨q, (tlt q).2.2.2⟩
    · exact Or.inl ⟨q, (flt q).2.2.2⟩
theorem lY_of (cd : ClassFile.Cond) (x y : Int64) (q : cY cd (lcmpW x y) 0) : lY cd x y := by
  cases cd
  · exact (lw_eq x y).mp q
  · exact fun r => q ((lw_eq x y).mpr r)
  · exact (lw_lt x y).mp q
  · exact fun r => q ((lw_lt x y).mpr r)
  · exact (lw_gt x y).mp q
  · exact fun r => q ((lw_gt x y).mpr r)
theorem lN_of (cd : ClassFile.Cond) (x y : Int64) (q : cN cd (lcmpW x y) 0) : lN cd x y := by
  cases cd
  · exact fun r => q ((lw_eq x y).mpr r)
  · exact (lw_eq x y).mp q
  · exact fun r => q ((lw_lt x y).mpr r)
  · exact (lw_lt x y).mp q
  · exact fun r => q ((lw_gt x y).mpr r)
  · exact (lw_gt x y).mp q

theorem giload (w : W Z own nm bytes mx rt n0 p l e R s m args below meth c k n T h) {j : Nat} {v : Int32} (hd : decode bytes pc = .ok (.iload j, 2)) (hl : Ls[j]? = some (.val (.int v))) (hp : pc + 2 = pc') (K : Go n0 p e below s Q CC NN T (mkF m pc' Ls (.int v :: rest))) : Go n0 p e below s Q CC NN T (mkF m pc Ls (rest)) := by
  obtain ⟨hx, hb, -, -, -, -, -, -, ⟨L, X, -⟩, -⟩ := w
  obtain ⟨s₂, o, st, r⟩ := K
  subst hp hb
  exact ⟨s₂, o, XS.iload X.here hx rfl hd hl st, r⟩
theorem giloadN (w : W Z own nm bytes mx rt n0 p l e R s m args below meth c k n T h) {j : Fin 4} {v : Int32} (hd : decode bytes pc = .ok (.iload_n j, 1)) (hl : Ls[j.val]? = some (.val (.int v))) (hp : pc + 1 = pc') (K : Go n0 p e below s Q CC NN T (mkF m pc' Ls (.int v :: rest))) : Go n0 p e below s Q CC NN T (mkF m pc Ls (rest)) := by
  obtain ⟨hx, hb, -, -, -, -, -, -, ⟨L, X, -⟩, -⟩ := w
  obtain ⟨s₂, o, st, r⟩ := K
  subst hp hb
  exact ⟨s₂, o, XS.iloadN X.here hx rfl hd hl st, r⟩
theorem glload (w : W Z own nm bytes mx rt n0 p l e R s m args below meth c k n T h) {j : Nat} {v : Int64} (hd : decode bytes pc = .ok (.lload j, 2)) (hl : Ls[j]? = some (.val (.long v))) (hp : pc + 2 = pc') (K : Go n0 p e below s Q CC NN T (mkF m pc' Ls (.long v :: rest))) : Go n0 p e below s Q CC NN T (mkF m pc Ls (rest)) := by
  obtain ⟨hx, hb, -, -, -, -, -, -, ⟨L, X, -⟩, -⟩ := w
  obtain ⟨s₂, o, st, r⟩ := K
  subst hp hb
  exact ⟨s₂, o, XS.lload X.here hx rfl hd hl st, r⟩
theorem glloadN (w : W Z own nm bytes mx rt n0 p l e R s m args below meth c k n T h) {j : Fin 4} {v : Int64} (hd : decode bytes pc = .ok (.lload_n j, 1)) (hl : Ls[j.val]? = some (.val (.long v))) (hp : pc + 1 = pc') (K : Go n0 p e below s Q CC NN T (mkF m pc' Ls (.long v :: rest))) : Go n0 p e below s Q CC NN T (mkF m pc Ls (rest)) := by
  obtain ⟨hx, hb, -, -, -, -, -, -, ⟨L, X, -⟩, -⟩ := w
  obtain ⟨s₂, o, st, r⟩ := K
  subst hp hb
  exact ⟨s₂, o, XS.lloadN X.here hx rfl hd hl st, r⟩
theorem gaload (w : W Z own nm bytes mx rt n0 p l e R s m args below meth c k n T h) {j : Nat} {v : Value} (hd : decode bytes pc = .ok (.aload j, 2)) (hl : Ls[j]? = some (.val v)) (hv : v.isRef = true) (hp : pc + 2 = pc') (K : Go n0 p e below s Q CC NN T (mkF m pc' Ls (v :: rest))) : Go n0 p e below s Q CC NN T (mkF m pc Ls (rest)) := by
  obtain ⟨hx, hb, -, -, -, -, -, -, ⟨L, X, -⟩, -⟩ := w
  obtain ⟨s₂, o, st, r⟩ := K
  subst hp hb
  exact ⟨s₂, o, XS.aload X.here hx rfl hd hl hv st, r⟩
theorem galoadN (w : W Z own nm bytes mx rt n0 p l e R s m args below meth c k n T h) {j : Fin 4} {v : Value} (hd : decode bytes pc = .ok (.aload_n j, 1)) (hl : Ls[j.val]? = some (.val v)) (hv : v.isRef = true) (hp : pc + 1 = pc') (K : Go n0 p e below s Q CC NN T (mkF m pc' Ls (v :: rest))) : Go n0 p e below s Q CC NN T (mkF m pc Ls (rest)) := by
  obtain ⟨hx, hb, -, -, -, -, -, -, ⟨L, X, -⟩, -⟩ := w
  obtain ⟨s₂, o, st, r⟩ := K
  subst hp hb
  exact ⟨s₂, o, XS.aloadN X.here hx rfl hd hl hv st, r⟩
theorem gistore (w : W Z own nm bytes mx rt n0 p l e R s m args below meth c k n T h) {j : Nat} {v : Int32} (hd : decode bytes pc = .ok (.istore j, 2)) (hl : storeLocals Ls j (.int v) = some Ls') (hp : pc + 2 = pc') (K : Go n0 p e below s Q CC NN T (mkF m pc' Ls' (rest))) : Go n0 p e below s Q CC NN T (mkF m pc Ls (.int v :: rest)) := by
  obtain ⟨hx, hb, -, -, -, -, -, -, ⟨L, X, -⟩, -⟩ := w
  obtain ⟨s₂, o, st, r⟩ := K
  subst hp hb
  exact ⟨s₂, o, XS.istore X.here hx rfl hd rfl hl st, r⟩
theorem gistoreN (w : W Z own nm bytes mx rt n0 p l e R s m args below meth c k n T h) {j : Fin 4} {v : Int32} (hd : decode bytes pc = .ok (.istore_n j, 1)) (hl : storeLocals Ls j.val (.int v) = some Ls') (hp : pc + 1 = pc') (K : Go n0 p e below s Q CC NN T (mkF m pc' Ls' (rest))) : Go n0 p e below s Q CC NN T (mkF m pc Ls (.int v :: rest)) := by
  obtain ⟨hx, hb, -, -, -, -, -, -, ⟨L, X, -⟩, -⟩ := w
  obtain ⟨s₂, o, st, r⟩ := K
  subst hp hb
  exact ⟨s₂, o, XS.istoreN X.here hx rfl hd rfl hl st, r⟩
theorem glstore (w : W Z own nm bytes mx rt n0 p l e R s m args below meth c k n T h) {j : Nat} {v : Int64} (hd : decode bytes pc = .ok (.lstore j, 2)) (hl : storeLocals Ls j (.long v) = some Ls') (hp : pc + 2 = pc') (K : Go n0 p e below s Q CC NN T (mkF m pc' Ls' (rest))) : Go n0 p e below s Q CC NN T (mkF m pc Ls (.long v :: rest)) := by
  obtain ⟨hx, hb, -, -, -, -, -, -, ⟨L, X, -⟩, -⟩ := w
  obtain ⟨s₂, o, st, r⟩ := K
  subst hp hb
  exact ⟨s₂, o, XS.lstore X.here hx rfl hd rfl hl st, r⟩
theorem glstoreN (w : W Z own nm bytes mx rt n0 p l e R s m args below meth c k n T h) {j : Fin 4} {v : Int64} (hd : decode bytes pc = .ok (.lstore_n j, 1)) (hl : storeLocals Ls j.val (.long v) = some Ls') (hp : pc + 1 = pc') (K : Go n0 p e below s Q CC NN T (mkF m pc' Ls' (rest))) : Go n0 p e below s Q CC NN T (mkF m pc Ls (.long v :: rest)) := by
  obtain ⟨hx, hb, -, -, -, -, -, -, ⟨L, X, -⟩, -⟩ := w
  obtain ⟨s₂, o, st, r⟩ := K
  subst hp hb
  exact ⟨s₂, o, XS.lstoreN X.here hx rfl hd rfl hl st, r⟩
theorem gastore (w : W Z own nm bytes mx rt n0 p l e R s m args below meth c k n T h) {j : Nat} {v : Value} (hd : decode bytes pc = .ok (.astore j, 2)) (hv : v.isRef = true) (hl : storeLocals Ls j v = some Ls') (hp : pc + 2 = pc') (K : Go n0 p e below s Q CC NN T (mkF m pc' Ls' (rest))) : Go n0 p e below s Q CC NN T (mkF m pc Ls (v :: rest)) := by
  obtain ⟨hx, hb, -, -, -, -, -, -, ⟨L, X, -⟩, -⟩ := w
  obtain ⟨s₂, o, st, r⟩ := K
  subst hp hb
  exact ⟨s₂, o, XS.astore X.here hx rfl hd rfl hv hl st, r⟩
theorem gastoreN (w : W Z own nm bytes mx rt n0 p l e R s m args below meth c k n T h) {j : Fin 4} {v : Value} (hd : decode bytes pc = .ok (.astore_n j, 1)) (hv : v.isRef = true) (hl : storeLocals Ls j.val v = some Ls') (hp : pc + 1 = pc') (K : Go n0 p e below s Q CC NN T (mkF m pc' Ls' (rest))) : Go n0 p e below s Q CC NN T (mkF m pc Ls (v :: rest)) := by
  obtain ⟨hx, hb, -, -, -, -, -, -, ⟨L, X, -⟩, -⟩ := w
  obtain ⟨s₂, o, st, r⟩ := K
  subst hp hb
  exact ⟨s₂, o, XS.astoreN X.here hx rfl hd rfl hv hl st, r⟩
theorem giinc (w : W Z own nm bytes mx rt n0 p l e R s m args below meth c k n T h) {j : Nat} {i : Int} {v : Int32} (hd : decode bytes pc = .ok (.iinc j i, 3)) (hl : Ls[j]? = some (.val (.int v))) (hl' : storeLocals Ls j (.int (v + Int32.ofInt i)) = some Ls') (hp : pc + 3 = pc') (K : Go n0 p e below s Q CC NN T (mkF m pc' Ls' (rest))) : Go n0 p e below s Q CC NN T (mkF m pc Ls (rest)) := by
  obtain ⟨hx, hb, -, -, -, -, -, -, ⟨L, X, -⟩, -⟩ := w
  obtain ⟨s₂, o, st, r⟩ := K
  subst hp hb
  exact ⟨s₂, o, XS.iinc X.here hx rfl hd hl hl' st, r⟩
theorem giconst (w : W Z own nm bytes mx rt n0 p l e R s m args below meth c k n T h) {i : Int} {v : Int32} (hd : decode bytes pc = .ok (.iconst i, 1)) (hv : Int32.ofInt i = v) (hp : pc + 1 = pc') (K : Go n0 p e below s Q CC NN T (mkF m pc' Ls (.int v :: rest))) : Go n0 p e below s Q CC NN T (mkF m pc Ls (rest)) := by
  obtain ⟨hx, hb, -, -, -, -, -, -, ⟨L, X, -⟩, -⟩ := w
  obtain ⟨s₂, o, st, r⟩ := K
  subst hp hb hv
  exact ⟨s₂, o, XS.iconst X.here hx rfl hd st, r⟩
theorem gbipush (w : W Z own nm bytes mx rt n0 p l e R s m args below meth c k n T h) {i : Int} {v : Int32} (hd : decode bytes pc = .ok (.bipush i, 2)) (hv : (Int8.ofInt i).toInt32 = v) (hp : pc + 2 = pc') (K : Go n0 p e below s Q CC NN T (mkF m pc' Ls (.int v :: rest))) : Go n0 p e below s Q CC NN T (mkF m pc Ls (rest)) := by
  obtain ⟨hx, hb, -, -, -, -, -, -, ⟨L, X, -⟩, -⟩ := w
  obtain ⟨s₂, o, st, r⟩ := K
  subst hp hb hv
  exact ⟨s₂, o, XS.bipush X.here hx rfl hd st, r⟩
theorem gsipush (w : W Z own nm bytes mx rt n0 p l e R s m args below meth c k n T h) {i : Int} {v : Int32} (hd : decode bytes pc = .ok (.sipush i, 3)) (hv : (Int16.ofInt i).toInt32 = v) (hp : pc + 3 = pc') (K : Go n0 p e below s Q CC NN T (mkF m pc' Ls (.int v :: rest))) : Go n0 p e below s Q CC NN T (mkF m pc Ls (rest)) := by
  obtain ⟨hx, hb, -, -, -, -, -, -, ⟨L, X, -⟩, -⟩ := w
  obtain ⟨s₂, o, st, r⟩ := K
  subst hp hb hv
  exact ⟨s₂, o, XS.sipush X.here hx rfl hd st, r⟩
theorem glconst (w : W Z own nm bytes mx rt n0 p l e R s m args below meth c k n T h) {i : Fin 2} {v : Int64} (hd : decode bytes pc = .ok (.lconst i, 1)) (hv : Int64.ofNat i = v) (hp : pc + 1 = pc') (K : Go n0 p e below s Q CC NN T (mkF m pc' Ls (.long v :: rest))) : Go n0 p e below s Q CC NN T (mkF m pc Ls (rest)) := by
  obtain ⟨hx, hb, -, -, -, -, -, -, ⟨L, X, -⟩, -⟩ := w
  obtain ⟨s₂, o, st, r⟩ := K
  subst hp hb hv
  exact ⟨s₂, o, XS.lconst X.here hx rfl hd st, r⟩
theorem gnull (w : W Z own nm bytes mx rt n0 p l e R s m args below meth c k n T h) (hd : decode bytes pc = .ok (.aconst_null, 1)) (hp : pc + 1 = pc') (K : Go n0 p e below s Q CC NN T (mkF m pc' Ls (.null :: rest))) : Go n0 p e below s Q CC NN T (mkF m pc Ls (rest)) := by
  obtain ⟨hx, hb, -, -, -, -, -, -, ⟨L, X, -⟩, -⟩ := w
  obtain ⟨s₂, o, st, r⟩ := K
  subst hp hb
  exact ⟨s₂, o, XS.aconstNull X.here hx rfl hd  st, r⟩
theorem giadd (w : W Z own nm bytes mx rt n0 p l e R s m args below meth c k n T h) {x y : Int32} (hd : decode bytes pc = .ok (.iadd, 1)) (hp : pc + 1 = pc') (K : Go n0 p e below s Q CC NN T (mkF m pc' Ls (.int (x + y) :: rest))) : Go n0 p e below s Q CC NN T (mkF m pc Ls (.int y :: .int x :: rest)) := by
  obtain ⟨hx, hb, -, -, -, -, -, -, ⟨L, X, -⟩, -⟩ := w
  obtain ⟨s₂, o, st, r⟩ := K
  subst hp hb
  exact ⟨s₂, o, XS.iadd X.here hx rfl hd rfl st, r⟩
theorem gladd (w : W Z own nm bytes mx rt n0 p l e R s m args below meth c k n T h) {x y : Int64} (hd : decode bytes pc = .ok (.ladd, 1)) (hp : pc + 1 = pc') (K : Go n0 p e below s Q CC NN T (mkF m pc' Ls (.long (x + y) :: rest))) : Go n0 p e below s Q CC NN T (mkF m pc Ls (.long y :: .long x :: rest)) := by
  obtain ⟨hx, hb, -, -, -, -, -, -, ⟨L, X, -⟩, -⟩ := w
  obtain ⟨s₂, o, st, r⟩ := K
  subst hp hb
  exact ⟨s₂, o, XS.ladd X.here hx rfl hd rfl st, r⟩
theorem gisub (w : W Z own nm bytes mx rt n0 p l e R s m args below meth c k n T h) {x y : Int32} (hd : decode bytes pc = .ok (.isub, 1)) (hp : pc + 1 = pc') (K : Go n0 p e below s Q CC NN T (mkF m pc' Ls (.int (x - y) :: rest))) : Go n0 p e below s Q CC NN T (mkF m pc Ls (.int y :: .int x :: rest)) := by
  obtain ⟨hx, hb, -, -, -, -, -, -, ⟨L, X, -⟩, -⟩ := w
  obtain ⟨s₂, o, st, r⟩ := K
  subst hp hb
  exact ⟨s₂, o, XS.isub X.here hx rfl hd rfl st, r⟩
theorem glsub (w : W Z own nm bytes mx rt n0 p l e R s m args below meth c k n T h) {x y : Int64} (hd : decode bytes pc = .ok (.lsub, 1)) (hp : pc + 1 = pc') (K : Go n0 p e below s Q CC NN T (mkF m pc' Ls (.long (x - y) :: rest))) : Go n0 p e below s Q CC NN T (mkF m pc Ls (.long y :: .long x :: rest)) := by
  obtain ⟨hx, hb, -, -, -, -, -, -, ⟨L, X, -⟩, -⟩ := w
  obtain ⟨s₂, o, st, r⟩ := K
  subst hp hb
  exact ⟨s₂, o, XS.lsub X.here hx rfl hd rfl st, r⟩
theorem gimul (w : W Z own nm bytes mx rt n0 p l e R s m args below meth c k n T h) {x y : Int32} (hd : decode bytes pc = .ok (.imul, 1)) (hp : pc + 1 = pc') (K : Go n0 p e below s Q CC NN T (mkF m pc' Ls (.int (x * y) :: rest))) : Go n0 p e below s Q CC NN T (mkF m pc Ls (.int y :: .int x :: rest)) := by
  obtain ⟨hx, hb, -, -, -, -, -, -, ⟨L, X, -⟩, -⟩ := w
  obtain ⟨s₂, o, st, r⟩ := K
  subst hp hb
  exact ⟨s₂, o, XS.imul X.here hx rfl hd rfl st, r⟩
theorem glmul (w : W Z own nm bytes mx rt n0 p l e R s m args below meth c k n T h) {x y : Int64} (hd : decode bytes pc = .ok (.lmul, 1)) (hp : pc + 1 = pc') (K : Go n0 p e below s Q CC NN T (mkF m pc' Ls (.long (x * y) :: rest))) : Go n0 p e below s Q CC NN T (mkF m pc Ls (.long y :: .long x :: rest)) := by
  obtain ⟨hx, hb, -, -, -, -, -, -, ⟨L, X, -⟩, -⟩ := w
  obtain ⟨s₂, o, st, r⟩ := K
  subst hp hb
  exact ⟨s₂, o, XS.lmul X.here hx rfl hd rfl st, r⟩
theorem giand (w : W Z own nm bytes mx rt n0 p l e R s m args below meth c k n T h) {x y : Int32} (hd : decode bytes pc = .ok (.iand, 1)) (hp : pc + 1 = pc') (K : Go n0 p e below s Q CC NN T (mkF m pc' Ls (.int (x &&& y) :: rest))) : Go n0 p e below s Q CC NN T (mkF m pc Ls (.int y :: .int x :: rest)) := by
  obtain ⟨hx, hb, -, -, -, -, -, -, ⟨L, X, -⟩, -⟩ := w
  obtain ⟨s₂, o, st, r⟩ := K
  subst hp hb
  exact ⟨s₂, o, XS.iand X.here hx rfl hd rfl st, r⟩
theorem gland (w : W Z own nm bytes mx rt n0 p l e R s m args below meth c k n T h) {x y : Int64} (hd : decode bytes pc = .ok (.land, 1)) (hp : pc + 1 = pc') (K : Go n0 p e below s Q CC NN T (mkF m pc' Ls (.long (x &&& y) :: rest))) : Go n0 p e below s Q CC NN T (mkF m pc Ls (.long y :: .long x :: rest)) := by
  obtain ⟨hx, hb, -, -, -, -, -, -, ⟨L, X, -⟩, -⟩ := w
  obtain ⟨s₂, o, st, r⟩ := K
  subst hp hb
  exact ⟨s₂, o, XS.land X.here hx rfl hd rfl st, r⟩
theorem gior (w : W Z own nm bytes mx rt n0 p l e R s m args below meth c k n T h) {x y : Int32} (hd : decode bytes pc = .ok (.ior, 1)) (hp : pc + 1 = pc') (K : Go n0 p e below s Q CC NN T (mkF m pc' Ls (.int (x ||| y) :: rest))) : Go n0 p e below s Q CC NN T (mkF m pc Ls (.int y :: .int x :: rest)) := by
  obtain ⟨hx, hb, -, -, -, -, -, -, ⟨L, X, -⟩, -⟩ := w
  obtain ⟨s₂, o, st, r⟩ := K
  subst hp hb
  exact ⟨s₂, o, XS.ior X.here hx rfl hd rfl st, r⟩
theorem glor (w : W Z own nm bytes mx rt n0 p l e R s m args below meth c k n T h) {x y : Int64} (hd : decode bytes pc = .ok (.lor, 1)) (hp : pc + 1 = pc') (K : Go n0 p e below s Q CC NN T (mkF m pc' Ls (.long (x ||| y) :: rest))) : Go n0 p e below s Q CC NN T (mkF m pc Ls (.long y :: .long x :: rest)) := by
  obtain ⟨hx, hb, -, -, -, -, -, -, ⟨L, X, -⟩, -⟩ := w
  obtain ⟨s₂, o, st, r⟩ := K
  subst hp hb
  exact ⟨s₂, o, XS.lor X.here hx rfl hd rfl st, r⟩
theorem gixor (w : W Z own nm bytes mx rt n0 p l e R s m args below meth c k n T h) {x y : Int32} (hd : decode bytes pc = .ok (.ixor, 1)) (hp : pc + 1 = pc') (K : Go n0 p e below s Q CC NN T (mkF m pc' Ls (.int (x ^^^ y) :: rest))) : Go n0 p e below s Q CC NN T (mkF m pc Ls (.int y :: .int x :: rest)) := by
  obtain ⟨hx, hb, -, -, -, -, -, -, ⟨L, X, -⟩, -⟩ := w
  obtain ⟨s₂, o, st, r⟩ := K
  subst hp hb
  exact ⟨s₂, o, XS.ixor X.here hx rfl hd rfl st, r⟩
theorem glxor (w : W Z own nm bytes mx rt n0 p l e R s m args below meth c k n T h) {x y : Int64} (hd : decode bytes pc = .ok (.lxor, 1)) (hp : pc + 1 = pc') (K : Go n0 p e below s Q CC NN T (mkF m pc' Ls (.long (x ^^^ y) :: rest))) : Go n0 p e below s Q CC NN T (mkF m pc Ls (.long y :: .long x :: rest)) := by
  obtain ⟨hx, hb, -, -, -, -, -, -, ⟨L, X, -⟩, -⟩ := w
  obtain ⟨s₂, o, st, r⟩ := K
  subst hp hb
  exact ⟨s₂, o, XS.lxor X.here hx rfl hd rfl st, r⟩
theorem gineg (w : W Z own nm bytes mx rt n0 p l e R s m args below meth c k n T h) {x : Int32} (hd : decode bytes pc = .ok (.ineg, 1)) (hp : pc + 1 = pc') (K : Go n0 p e below s Q CC NN T (mkF m pc' Ls (.int (-x) :: rest))) : Go n0 p e below s Q CC NN T (mkF m pc Ls (.int x :: rest)) := by
  obtain ⟨hx, hb, -, -, -, -, -, -, ⟨L, X, -⟩, -⟩ := w
  obtain ⟨s₂, o, st, r⟩ := K
  subst hp hb
  exact ⟨s₂, o, XS.ineg X.here hx rfl hd rfl st, r⟩
theorem gidiv (w : W Z own nm bytes mx rt n0 p l e R s m args below meth c k n T h) {x y : Int32} (hd : decode bytes pc = .ok (.idiv, 1)) (hy : y ≠ 0) (hp : pc + 1 = pc') (K : Go n0 p e below s Q CC NN T (mkF m pc' Ls (.int (x / y) :: rest))) : Go n0 p e below s Q CC NN T (mkF m pc Ls (.int y :: .int x :: rest)) := by
  obtain ⟨hx, hb, -, -, -, -, -, -, ⟨L, X, -⟩, -⟩ := w
  obtain ⟨s₂, o, st, r⟩ := K
  subst hp hb
  exact ⟨s₂, o, XS.idiv X.here hx rfl hd rfl hy st, r⟩
theorem gldiv (w : W Z own nm bytes mx rt n0 p l e R s m args below meth c k n T h) {x y : Int64} (hd : decode bytes pc = .ok (.ldiv, 1)) (hy : y ≠ 0) (hp : pc + 1 = pc') (K : Go n0 p e below s Q CC NN T (mkF m pc' Ls (.long (x / y) :: rest))) : Go n0 p e below s Q CC NN T (mkF m pc Ls (.long y :: .long x :: rest)) := by
  obtain ⟨hx, hb, -, -, -, -, -, -, ⟨L, X, -⟩, -⟩ := w
  obtain ⟨s₂, o, st, r⟩ := K
  subst hp hb
  exact ⟨s₂, o, XS.ldiv X.here hx rfl hd rfl hy st, r⟩
theorem girem (w : W Z own nm bytes mx rt n0 p l e R s m args below meth c k n T h) {x y : Int32} (hd : decode bytes pc = .ok (.irem, 1)) (hy : y ≠ 0) (hp : pc + 1 = pc') (K : Go n0 p e below s Q CC NN T (mkF m pc' Ls (.int (x - (x / y) * y) :: rest))) : Go n0 p e below s Q CC NN T (mkF m pc Ls (.int y :: .int x :: rest)) := by
  obtain ⟨hx, hb, -, -, -, -, -, -, ⟨L, X, -⟩, -⟩ := w
  obtain ⟨s₂, o, st, r⟩ := K
  subst hp hb
  exact ⟨s₂, o, XS.irem X.here hx rfl hd rfl hy st, r⟩
theorem glrem (w : W Z own nm bytes mx rt n0 p l e R s m args below meth c k n T h) {x y : Int64} (hd : decode bytes pc = .ok (.lrem, 1)) (hy : y ≠ 0) (hp : pc + 1 = pc') (K : Go n0 p e below s Q CC NN T (mkF m pc' Ls (.long (x - (x / y) * y) :: rest))) : Go n0 p e below s Q CC NN T (mkF m pc Ls (.long y :: .long x :: rest)) := by
  obtain ⟨hx, hb, -, -, -, -, -, -, ⟨L, X, -⟩, -⟩ := w
  obtain ⟨s₂, o, st, r⟩ := K
  subst hp hb
  exact ⟨s₂, o, XS.lrem X.here hx rfl hd rfl hy st, r⟩
theorem gishl (w : W Z own nm bytes mx rt n0 p l e R s m args below meth c k n T h) {x : Int32} {y : Int32} (hd : decode bytes pc = .ok (.ishl, 1)) (hp : pc + 1 = pc') (K : Go n0 p e below s Q CC NN T (mkF m pc' Ls (.int (x <<< (y &&& 31)) :: rest))) : Go n0 p e below s Q CC NN T (mkF m pc Ls (.int y :: .int x :: rest)) := by
  obtain ⟨hx, hb, -, -, -, -, -, -, ⟨L, X, -⟩, -⟩ := w
  obtain ⟨s₂, o, st, r⟩ := K
  subst hp hb
  exact ⟨s₂, o, XS.ishl X.here hx rfl hd rfl st, r⟩
theorem gishr (w : W Z own nm bytes mx rt n0 p l e R s m args below meth c k n T h) {x : Int32} {y : Int32} (hd : decode bytes pc = .ok (.ishr, 1)) (hp : pc + 1 = pc') (K : Go n0 p e below s Q CC NN T (mkF m pc' Ls (.int (x >>> (y &&& 31)) :: rest))) : Go n0 p e below s Q CC NN T (mkF m pc Ls (.int y :: .int x :: rest)) := by
  obtain ⟨hx, hb, -, -, -, -, -, -, ⟨L, X, -⟩, -⟩ := w
  obtain ⟨s₂, o, st, r⟩ := K
  subst hp hb
  exact ⟨s₂, o, XS.ishr X.here hx rfl hd rfl st, r⟩
theorem giushr (w : W Z own nm bytes mx rt n0 p l e R s m args below meth c k n T h) {x : Int32} {y : Int32} (hd : decode bytes pc = .ok (.iushr, 1)) (hp : pc + 1 = pc') (K : Go n0 p e below s Q CC NN T (mkF m pc' Ls (.int ((x.toUInt32 >>> (y &&& 31).toUInt32).toInt32) :: rest))) : Go n0 p e below s Q CC NN T (mkF m pc Ls (.int y :: .int x :: rest)) := by
  obtain ⟨hx, hb, -, -, -, -, -, -, ⟨L, X, -⟩, -⟩ := w
  obtain ⟨s₂, o, st, r⟩ := K
  subst hp hb
  exact ⟨s₂, o, XS.iushr X.here hx rfl hd rfl st, r⟩
theorem glshl (w : W Z own nm bytes mx rt n0 p l e R s m args below meth c k n T h) {x : Int64} {y : Int32} (hd : decode bytes pc = .ok (.lshl, 1)) (hp : pc + 1 = pc') (K : Go n0 p e below s Q CC NN T (mkF m pc' Ls (.long (x <<< (y &&& 0x3f).toInt64) :: rest))) : Go n0 p e below s Q CC NN T (mkF m pc Ls (.int y :: .long x :: rest)) := by
  obtain ⟨hx, hb, -, -, -, -, -, -, ⟨L, X, -⟩, -⟩ := w
  obtain ⟨s₂, o, st, r⟩ := K
  subst hp hb
  exact ⟨s₂, o, XS.lshl X.here hx rfl hd rfl st, r⟩
theorem glshr (w : W Z own nm bytes mx rt n0 p l e R s m args below meth c k n T h) {x : Int64} {y : Int32} (hd : decode bytes pc = .ok (.lshr, 1)) (hp : pc + 1 = pc') (K : Go n0 p e below s Q CC NN T (mkF m pc' Ls (.long (x >>> (y &&& 0x3f).toInt64) :: rest))) : Go n0 p e below s Q CC NN T (mkF m pc Ls (.int y :: .long x :: rest)) := by
  obtain ⟨hx, hb, -, -, -, -, -, -, ⟨L, X, -⟩, -⟩ := w
  obtain ⟨s₂, o, st, r⟩ := K
  subst hp hb
  exact ⟨s₂, o, XS.lshr X.here hx rfl hd rfl st, r⟩
theorem glushr (w : W Z own nm bytes mx rt n0 p l e R s m args below meth c k n T h) {x : Int64} {y : Int32} (hd : decode bytes pc = .ok (.lushr, 1)) (hp : pc + 1 = pc') (K : Go n0 p e below s Q CC NN T (mkF m pc' Ls (.long ((x.toUInt64 >>> (y &&& 0x3f).toInt64.toUInt64).toInt64) :: rest))) : Go n0 p e below s Q CC NN T (mkF m pc Ls (.int y :: .long x :: rest)) := by
  obtain ⟨hx, hb, -, -, -, -, -, -, ⟨L, X, -⟩, -⟩ := w
  obtain ⟨s₂, o, st, r⟩ := K
  subst hp hb
  exact ⟨s₂, o, XS.lushr X.here hx rfl hd rfl st, r⟩
theorem gi2b (w : W Z own nm bytes mx rt n0 p l e R s m args below meth c k n T h) {v : Int32} (hd : decode bytes pc = .ok (.i2b, 1)) (hp : pc + 1 = pc') (K : Go n0 p e below s Q CC NN T (mkF m pc' Ls (.int (v.toInt8.toInt32) :: rest))) : Go n0 p e below s Q CC NN T (mkF m pc Ls (.int v :: rest)) := by
  obtain ⟨hx, hb, -, -, -, -, -, -, ⟨L, X, -⟩, -⟩ := w
  obtain ⟨s₂, o, st, r⟩ := K
  subst hp hb
  exact ⟨s₂, o, XS.i2b X.here hx rfl hd rfl st, r⟩
theorem gi2c (w : W Z own nm bytes mx rt n0 p l e R s m args below meth c k n T h) {v : Int32} (hd : decode bytes pc = .ok (.i2c, 1)) (hp : pc + 1 = pc') (K : Go n0 p e below s Q CC NN T (mkF m pc' Ls (.int (v.toUInt32.toUInt16.toUInt32.toInt32) :: rest))) : Go n0 p e below s Q CC NN T (mkF m pc Ls (.int v :: rest)) := by
  obtain ⟨hx, hb, -, -, -, -, -, -, ⟨L, X, -⟩, -⟩ := w
  obtain ⟨s₂, o, st, r⟩ := K
  subst hp hb
  exact ⟨s₂, o, XS.i2c X.here hx rfl hd rfl st, r⟩
theorem gi2l (w : W Z own nm bytes mx rt n0 p l e R s m args below meth c k n T h) {v : Int32} (hd : decode bytes pc = .ok (.i2l, 1)) (hp : pc + 1 = pc') (K : Go n0 p e below s Q CC NN T (mkF m pc' Ls (.long (v.toInt64) :: rest))) : Go n0 p e below s Q CC NN T (mkF m pc Ls (.int v :: rest)) := by
  obtain ⟨hx, hb, -, -, -, -, -, -, ⟨L, X, -⟩, -⟩ := w
  obtain ⟨s₂, o, st, r⟩ := K
  subst hp hb
  exact ⟨s₂, o, XS.i2l X.here hx rfl hd rfl st, r⟩
theorem gl2i (w : W Z own nm bytes mx rt n0 p l e R s m args below meth c k n T h) {v : Int64} (hd : decode bytes pc = .ok (.l2i, 1)) (hp : pc + 1 = pc') (K : Go n0 p e below s Q CC NN T (mkF m pc' Ls (.int (v.toInt32) :: rest))) : Go n0 p e below s Q CC NN T (mkF m pc Ls (.long v :: rest)) := by
  obtain ⟨hx, hb, -, -, -, -, -, -, ⟨L, X, -⟩, -⟩ := w
  obtain ⟨s₂, o, st, r⟩ := K
  subst hp hb
  exact ⟨s₂, o, XS.l2i X.here hx rfl hd rfl st, r⟩
theorem gdup (w : W Z own nm bytes mx rt n0 p l e R s m args below meth c k n T h) {x : Value} (hd : decode bytes pc = .ok (.dup, 1)) (hc : x.category = 1) (hp : pc + 1 = pc') (K : Go n0 p e below s Q CC NN T (mkF m pc' Ls (x :: x :: rest))) : Go n0 p e below s Q CC NN T (mkF m pc Ls (x :: rest)) := by
  obtain ⟨hx, hb, -, -, -, -, -, -, ⟨L, X, -⟩, -⟩ := w
  obtain ⟨s₂, o, st, r⟩ := K
  subst hp hb
  exact ⟨s₂, o, XS.dup X.here hx rfl hd rfl hc st, r⟩
theorem gpop (w : W Z own nm bytes mx rt n0 p l e R s m args below meth c k n T h) {x : Value} (hd : decode bytes pc = .ok (.pop, 1)) (hc : x.category = 1) (hp : pc + 1 = pc') (K : Go n0 p e below s Q CC NN T (mkF m pc' Ls (rest))) : Go n0 p e below s Q CC NN T (mkF m pc Ls (x :: rest)) := by
  obtain ⟨hx, hb, -, -, -, -, -, -, ⟨L, X, -⟩, -⟩ := w
  obtain ⟨s₂, o, st, r⟩ := K
  subst hp hb
  exact ⟨s₂, o, XS.pop X.here hx rfl hd rfl hc st, r⟩
theorem gdupx1 (w : W Z own nm bytes mx rt n0 p l e R s m args below meth c k n T h) {x y : Value} (hd : decode bytes pc = .ok (.dup_x1, 1)) (hc : x.category = 1) (hc2 : y.category = 1) (hp : pc + 1 = pc') (K : Go n0 p e below s Q CC NN T (mkF m pc' Ls (x :: y :: x :: rest))) : Go n0 p e below s Q CC NN T (mkF m pc Ls (x :: y :: rest)) := by
  obtain ⟨hx, hb, -, -, -, -, -, -, ⟨L, X, -⟩, -⟩ := w
  obtain ⟨s₂, o, st, r⟩ := K
  subst hp hb
  exact ⟨s₂, o, XS.dupX1 X.here hx rfl hd rfl hc hc2 st, r⟩
theorem ggoto (w : W Z own nm bytes mx rt n0 p l e R s m args below meth c k n T h) {o : Int} (hd : decode bytes pc = .ok (.goto o, 3)) (ho : 0 ≤ (pc : Int) + o) (hp : ((pc : Int) + o).toNat = pc') (K : Go n0 p e below s Q CC NN T (mkF m pc' Ls rest)) : Go n0 p e below s Q CC NN T (mkF m pc Ls rest) := by
  obtain ⟨hx, hb, -, -, -, -, -, -, ⟨L, X, -⟩, -⟩ := w
  obtain ⟨s₂, q, st, r⟩ := K
  subst hb
  exact ⟨s₂, q, XS.goto X.here hx rfl rfl hd ho hp st, r⟩
theorem gif (w : W Z own nm bytes mx rt n0 p l e R s m args below meth c k n T h) {cd : ClassFile.Cond} {x : Int32} {o : Int} {pt pf : Nat} (hd : decode bytes pc = .ok (.ifCond cd o, 3)) (ho : 0 ≤ (pc : Int) + o) (ht : ((pc : Int) + o).toNat = pt) (hf : pc + 3 = pf)
    (Kt : cY cd x 0 → Go n0 p e below s Q CC NN T (mkF m pt Ls rest)) (Kf : cN cd x 0 → Go n0 p e below s Q CC NN T (mkF m pf Ls rest)) : Go n0 p e below s Q CC NN T (mkF m pc Ls (.int x :: rest)) := by
  obtain ⟨hx, hb, -, -, -, -, -, -, ⟨L, X, -⟩, -⟩ := w
  subst hb hf
  rcases c_or cd x 0 with ⟨q, q'⟩ | ⟨q, q'⟩
  · obtain ⟨s₂, z, st, r⟩ := Kt q
    exact ⟨s₂, z, XS.ifYes X.here hx rfl rfl hd rfl ((if0 _ _).trans q') ho ht st, r⟩
  · obtain ⟨s₂, z, st, r⟩ := Kf q
    exact ⟨s₂, z, XS.ifNo X.here hx rfl hd rfl ((if0 _ _).trans q') st, r⟩
theorem gicmp (w : W Z own nm bytes mx rt n0 p l e R s m args below meth c k n T h) {cd : ClassFile.Cond} {x y : Int32} {o : Int} {pt pf : Nat} (hd : decode bytes pc = .ok (.if_icmp cd o, 3)) (ho : 0 ≤ (pc : Int) + o) (ht : ((pc : Int) + o).toNat = pt) (hf : pc + 3 = pf)
    (Kt : cY cd x y → Go n0 p e below s Q CC NN T (mkF m pt Ls rest)) (Kf : cN cd x y → Go n0 p e below s Q CC NN T (mkF m pf Ls rest)) : Go n0 p e below s Q CC NN T (mkF m pc Ls (.int y :: .int x :: rest)) := by
  obtain ⟨hx, hb, -, -, -, -, -, -, ⟨L, X, -⟩, -⟩ := w
  subst hb hf
  rcases c_or cd x y with ⟨q, q'⟩ | ⟨q, q'⟩
  · obtain ⟨s₂, z, st, r⟩ := Kt q
    exact ⟨s₂, z, XS.icmpYes X.here hx rfl rfl hd rfl q' ho ht st, r⟩
  · obtain ⟨s₂, z, st, r⟩ := Kf q
    exact ⟨s₂, z, XS.icmpNo X.here hx rfl hd rfl q' st, r⟩
theorem glcmpif (w : W Z own nm bytes mx rt n0 p l e R s m args below meth c k n T h) {cd : ClassFile.Cond} {x y : Int64} {o : Int} {pm pt pf : Nat} (hd0 : decode bytes pc = .ok (.lcmp, 1)) (hm : pc + 1 = pm) (hd : decode bytes pm = .ok (.ifCond cd o, 3)) (ho : 0 ≤ (pm : Int) + o) (ht : ((pm : Int) + o).toNat = pt) (hf : pm + 3 = pf)
    (Kt : lY cd x y → Go n0 p e below s Q CC NN T (mkF m pt Ls rest)) (Kf : lN cd x y → Go n0 p e below s Q CC NN T (mkF m pf Ls rest)) : Go n0 p e below s Q CC NN T (mkF m pc Ls (.long y :: .long x :: rest)) := by
  have K : Go n0 p e below s Q CC NN T (mkF m pm Ls (.int (lcmpW x y) :: rest)) := gif w hd ho ht hf (fun q => Kt (lY_of cd x y q)) (fun q => Kf (lN_of cd x y q))
  obtain ⟨hx, hb, -, -, -, -, -, -, ⟨L, X, -⟩, -⟩ := w
  obtain ⟨s₂, z, st, r⟩ := K
  subst hb hm
  exact ⟨s₂, z, XS.lcmp X.here hx rfl hd0 rfl st, r⟩
theorem gacmp (w : W Z own nm bytes mx rt n0 p l e R s m args below meth c k n T h) {cd : ClassFile.ACond} {x y : Value} {o : Int} {pt pf : Nat} (hd : decode bytes pc = .ok (.if_acmp cd o, 3)) (ho : 0 ≤ (pc : Int) + o) (h1 : x.isRef = true) (h2 : y.isRef = true) (ht : (if acV cd true = true then ((pc : Int) + o).toNat else pc + 3) = pt) (hf : (if acV cd false = true then ((pc : Int) + o).toNat else pc + 3) = pf)
    (Ke : x = y → Go n0 p e below s Q CC NN T (mkF m pt Ls rest)) (Kn : ¬ x = y → Go n0 p e below s Q CC NN T (mkF m pf Ls rest)) : Go n0 p e below s Q CC NN T (mkF m pc Ls (y :: x :: rest)) := by
  obtain ⟨hx, hb, -, -, -, -, -, -, ⟨L, X, -⟩, -⟩ := w
  subst hb
  by_cases q : x = y
  · obtain ⟨s₂, z, st, r⟩ := Ke q
    exact ⟨s₂, z, Jvm.RoadKit.acmp (g := mkF m pc Ls (y :: x :: rest)) X hx rfl h1 h2 (same := true) rfl hd rfl (decide_eq_true q) ho ht.symm st, r⟩
  · obtain ⟨s₂, z, st, r⟩ := Kn q
    exact ⟨s₂, z, Jvm.RoadKit.acmp (g := mkF m pc Ls (y :: x :: rest)) X hx rfl h1 h2 (same := false) rfl hd rfl (decide_eq_false q) ho hf.symm st, r⟩
theorem gifnullY (w : W Z own nm bytes mx rt n0 p l e R s m args below meth c k n T h) {o : Int} (hd : decode bytes pc = .ok (.ifnull o, 3)) (ho : 0 ≤ (pc : Int) + o) (hp : ((pc : Int) + o).toNat = pc') (K : Go n0 p e below s Q CC NN T (mkF m pc' Ls rest)) : Go n0 p e below s Q CC NN T (mkF m pc Ls (.null :: rest)) := by
  obtain ⟨hx, hb, -, -, -, -, -, -, ⟨L, X, -⟩, -⟩ := w
  obtain ⟨s₂, q, st, r⟩ := K
  subst hb
  exact ⟨s₂, q, XS.ifnullYes X.here hx rfl rfl hd rfl ho hp st, r⟩
theorem gifnullN (w : W Z own nm bytes mx rt n0 p l e R s m args below meth c k n T h) {o : Int} {b : Addr} (hd : decode bytes pc = .ok (.ifnull o, 3)) (hp : pc + 3 = pc') (K : Go n0 p e below s Q CC NN T (mkF m pc' Ls rest)) : Go n0 p e below s Q CC NN T (mkF m pc Ls (.ref b :: rest)) := by
  obtain ⟨hx, hb, -, -, -, -, -, -, ⟨L, X, -⟩, -⟩ := w
  obtain ⟨s₂, q, st, r⟩ := K
  subst hb hp
  exact ⟨s₂, q, XS.ifnullNo X.here hx rfl hd rfl st, r⟩
theorem gifnonnullY (w : W Z own nm bytes mx rt n0 p l e R s m args below meth c k n T h) {o : Int} {b : Addr} (hd : decode bytes pc = .ok (.ifnonnull o, 3)) (ho : 0 ≤ (pc : Int) + o) (hp : ((pc : Int) + o).toNat = pc') (K : Go n0 p e below s Q CC NN T (mkF m pc' Ls rest)) : Go n0 p e below s Q CC NN T (mkF m pc Ls (.ref b :: rest)) := by
  obtain ⟨hx, hb, -, -, -, -, -, -, ⟨L, X, -⟩, -⟩ := w
  obtain ⟨s₂, q, st, r⟩ := K
  subst hb
  exact ⟨s₂, q, XS.ifnonnullYes X.here hx rfl rfl hd rfl ho hp st, r⟩
theorem gifnonnullN (w : W Z own nm bytes mx rt n0 p l e R s m args below meth c k n T h) {o : Int} (hd : decode bytes pc = .ok (.ifnonnull o, 3)) (hp : pc + 3 = pc') (K : Go n0 p e below s Q CC NN T (mkF m pc' Ls rest)) : Go n0 p e below s Q CC NN T (mkF m pc Ls (.null :: rest)) := by
  obtain ⟨hx, hb, -, -, -, -, -, -, ⟨L, X, -⟩, -⟩ := w
  obtain ⟨s₂, q, st, r⟩ := K
  subst hb hp
  exact ⟨s₂, q, XS.ifnonnullNo X.here hx rfl hd rfl st, r⟩
theorem gldc2 (w : W Z own nm bytes mx rt n0 p l e R s m args below meth c k n T h) {index : Nat} {v : Int64} (hd : decode bytes pc = .ok (.ldc2_w index, 3)) (w1 : (Jvm.Cond.constantLong own index v).before a0 Z = true) (hp : pc + 3 = pc') (K : Go n0 p e below s Q CC NN T (mkF m pc' Ls (.long v :: rest))) : Go n0 p e below s Q CC NN T (mkF m pc Ls rest) := by
  obtain ⟨hx, hb, hown, hZ, -, -, -, -, ⟨L, X, -⟩, -⟩ := w
  obtain ⟨s₂, q, st, r⟩ := K
  subst hb hp
  exact ⟨s₂, q, X.ldc2Long hx hown (mvT hZ w1) (g := mkF m pc Ls rest) rfl hd _ st, r⟩
theorem gldcI (w : W Z own nm bytes mx rt n0 p l e R s m args below meth c k n T h) {index : Nat} {v : Int32} (hd : decode bytes pc = .ok (.ldc index, 2)) (w1 : (Jvm.Cond.constant own index v).before a0 Z = true) (hp : pc + 2 = pc') (K : Go n0 p e below s Q CC NN T (mkF m pc' Ls (.int v :: rest))) : Go n0 p e below s Q CC NN T (mkF m pc Ls rest) := by
  obtain ⟨hx, hb, hown, hZ, -, -, -, -, ⟨L, X, -⟩, -⟩ := w
  obtain ⟨s₂, q, st, r⟩ := K
  subst hb hp
  exact ⟨s₂, q, X.ldcInt hx hown (mvT hZ w1) (g := mkF m pc Ls rest) rfl hd _ st, r⟩

theorem ggetF (w : W Z own nm bytes mx rt n0 p l e R s m args below meth c k n T h) {index : Nat} {O n' d : String} {a : Addr} {v : Value} (hd : decode bytes pc = .ok (.getfield index, 3)) (w1 : (Jvm.Cond.fieldLink own index O n' d).before a0 Z = true) (F : Fld Z h a O n' d v) (hp : pc + 3 = pc')
    (K : ∀ T', W Z own nm bytes mx rt n0 p l e R s m args below meth c k n T' h → Go n0 p e below s Q CC NN T' (mkF m pc' Ls (v :: rest))) : Go n0 p e below s Q CC NN T (mkF m pc Ls (.ref a :: rest)) := by
  obtain ⟨hx, hb, hown, hZ, r1, r2, r3, r4, ⟨L, X, N⟩, eT⟩ := w
  obtain ⟨T', X', e', st⟩ := getF X hx hZ hown (host := "") (Or.inl w1) Via.refl eT F (g := mkF m pc Ls (.ref a :: rest)) rfl rfl (by rw [hb]; exact hd)
  obtain ⟨s₂, q, st', r⟩ := K T' ⟨hx, hb, hown, hZ, r1, r2, r3, r4, ⟨L, X', N⟩, e'⟩
  subst hp
  exact ⟨s₂, q, st _ st', r⟩
theorem ggetS (w : W Z own nm bytes mx rt n0 p l e R s m args below meth c k n T h) {index : Nat} {O n' d : String} {v : Value} (hd : decode bytes pc = .ok (.getstatic index, 3)) (w1 : (Jvm.Cond.fieldLink own index O n' d).before a0 Z = true) (F : Sta Z h O n' d v) (hp : pc + 3 = pc')
    (K : ∀ T', W Z own nm bytes mx rt n0 p l e R s m args below meth c k n T' h → Go n0 p e below s Q CC NN T' (mkF m pc' Ls (v :: rest))) : Go n0 p e below s Q CC NN T (mkF m pc Ls rest) := by
  obtain ⟨hx, hb, hown, hZ, r1, r2, r3, r4, ⟨L, X, N⟩, eT⟩ := w
  obtain ⟨T', X', e', st⟩ := getS (host := "") X hx hZ hown w1 Via.refl eT F (g := mkF m pc Ls rest) rfl (by rw [hb]; exact hd)
  obtain ⟨s₂, q, st', r⟩ := K T' ⟨hx, hb, hown, hZ, r1, r2, r3, r4, ⟨L, X', N⟩, e'⟩
  subst hp
  exact ⟨s₂, q, st _ st', r⟩
theorem ggetSN (w : W Z own nm bytes mx rt n0 p l e R s m args below meth c k n T h) {index : Nat} {O n' d host : String} {v : Value} (hd : decode bytes pc = .ok (.getstatic index, 3)) (w1 : (Jvm.Cond.fieldLinkNest own index O n' d host).before a0 Z = true) (F : Sta Z h O n' d v) (hp : pc + 3 = pc')
    (K : ∀ T', W Z own nm bytes mx rt n0 p l e R s m args below meth c k n T' h → Go n0 p e below s Q CC NN T' (mkF m pc' Ls (v :: rest))) : Go n0 p e below s Q CC NN T (mkF m pc Ls rest) := by
  obtain ⟨hx, hb, hown, hZ, r1, r2, r3, r4, ⟨L, X, N⟩, eT⟩ := w
  obtain ⟨T', X', e', st⟩ := getS2 X hx hZ hown (Or.inr w1) Via.refl eT F (g := mkF m pc Ls rest) rfl (by rw [hb]; exact hd)
  obtain ⟨s₂, q, st', r⟩ := K T' ⟨hx, hb, hown, hZ, r1, r2, r3, r4, ⟨L, X', N⟩, e'⟩
  subst hp
  exact ⟨s₂, q, st _ st', r⟩
/-- putfield: what is written may be narrowed (v to v') -/
theorem gputF (w : W Z own nm bytes mx rt n0 p l e R s m args below meth c k n T h) {index kk : Nat} {O n' d C : String} {ty : FieldType} {a : Addr} {v v' old : Value} (hd : decode bytes pc = .ok (.putfield index, 3)) (w1 : (Jvm.Cond.fieldLink own index O n' d).before a0 Z = true) (F : Fld Z h a O n' d old) (E : Exa Z h a C)
    (LL : (Jvm.Cond.lays C O n' d).before a0 Z = true ∨ ((Jvm.Cond.laysFinal C O n' d).before a0 Z = true ∧ own = O ∧ nm = "<init>")) (wi : (Jvm.Cond.instantiable C kk).before a0 Z = true) (hty : parseFieldDescriptor d = some ty) (hn : narrow ty v = v') (hf : fits ty v' = true) (hna : n0 ≤ a) (hp : pc + 3 = pc')
    (K : ∀ T' h', W Z own nm bytes mx rt n0 p l e R s m args below meth c k n T' h' → Wr h h' a (Jvm.RoadKit.slotOf Z O n' d) v' → Go n0 p e below s Q CC NN T' (mkF m pc' Ls rest)) : Go n0 p e below s Q CC NN T (mkF m pc Ls (v :: .ref a :: rest)) := by
  obtain ⟨hx, hb, hown, hZ, r1, r2, r3, r4, ⟨L, X, N⟩, eT⟩ := w
  obtain ⟨T', h', X', e', Wx, st⟩ := putFN X hx hZ hown w1 Via.refl eT F E (LL.imp id fun q => ⟨q.1, q.2.1, r2.trans q.2.2⟩) wi hty hn hf (g := mkF m pc Ls (v :: .ref a :: rest)) rfl rfl (by rw [hb]; exact hd)
  obtain ⟨s₂, q, st', r⟩ := K T' h' ⟨hx, hb, hown, hZ, r1, r2, r3, r4, ⟨_, X', Fr.snoc X' N hna⟩, e'⟩ Wx
  subst hp
  exact ⟨s₂, q, st _ st', r⟩
theorem gnewO (w : W Z own nm bytes mx rt n0 p l e R s m args below meth c k n T h) {index j : Nat} {C : String} (hd : decode bytes pc = .ok (.new index, 3)) (w1 : (Jvm.Cond.classLink own index C).before a0 Z = true) (wi : (Jvm.Cond.instantiable C j).before a0 Z = true) (wz : (Jvm.Cond.initialized C).before a0 Z = true) (hc : k + 1 ≤ R.cells) (hl : n + j ≤ R.slots) (hp : pc + 3 = pc')
    (K : ∀ T' h' a, h.size = a → W Z own nm bytes mx rt n0 p l e R s m args below meth c (k + 1) (n + j) T' h' → Ext h h' → Exa Z h' a C → (∀ {O f d : String} {ty : FieldType}, Laid Z a0 C O f d → parseFieldDescriptor d = some ty → Fld Z h' a O f d (defaultValue ty)) → Go n0 p e below s Q CC NN T' (mkF m pc' Ls (.ref a :: rest))) : Go n0 p e below s Q CC NN T (mkF m pc Ls rest) := by
  obtain ⟨hx, hb, hown, hZ, r1, r2, r3, r4, ⟨L, X, N⟩, eT⟩ := w
  obtain ⟨T', h', X', e', E, A, D, -, st⟩ := newO X hx hZ hown w1 wi wz eT (g := mkF m pc Ls rest) rfl (by rw [hb]; exact hd) hc hl
  obtain ⟨s₂, q, st', r⟩ := K T' h' _ rfl ⟨hx, hb, hown, hZ, r1, r2, r3, r4, ⟨_, X', N⟩, e'⟩ E A D
  subst hp
  exact ⟨s₂, q, st _ st', r⟩
theorem gnewP (w : W Z own nm bytes mx rt n0 p l e R s m args below meth c k n T h) {aty : ArrayType} {z : Int32} {cap : Nat} {ty : FieldType} (hd : decode bytes pc = .ok (.newarray aty, 2)) (hty : newarray.typeOf aty = ty) (w1 : (Jvm.Cond.arrayClass ty).before a0 Z = true) (hn : ¬ z < 0) (hcap : z.toNatClampNeg ≤ cap) (hb8 : cap * 8 ≤ 536870912) (hc : k + 1 ≤ R.cells) (hl : n + cap ≤ R.slots) (hp : pc + 2 = pc')
    (K : ∀ T' h' a kA, h.size = a → W Z own nm bytes mx rt n0 p l e R s m args below meth c (k + 1) (n + cap) T' h' → Ext h h' → Arv Z h' a kA ty z [] (defaultValue ty) → Go n0 p e below s Q CC NN T' (mkF m pc' Ls (.ref a :: rest))) : Go n0 p e below s Q CC NN T (mkF m pc Ls (.int z :: rest)) := by
  obtain ⟨hx, hb, hown, hZ, r1, r2, r3, r4, ⟨L, X, N⟩, eT⟩ := w
  subst hty
  obtain ⟨T', h', cA, X', e', E, A, st⟩ := newP X hx hZ w1 eT (g := mkF m pc Ls (.int z :: rest)) rfl (by rw [hb]; exact hd) rfl hn hcap hb8 hc hl
  obtain ⟨s₂, q, st', r⟩ := K T' h' _ cA rfl ⟨hx, hb, hown, hZ, r1, r2, r3, r4, ⟨_, X', N⟩, e'⟩ E (Arv.new A hn)
  subst hp
  exact ⟨s₂, q, st _ st', r⟩
theorem ginitO (w : W Z own nm bytes mx rt n0 p l e R s m args below meth c k n T h) {index : Nat} {a : Addr} {Wt : Nat} (hd : decode bytes pc = .ok (.invokespecial index, 3)) (w1 : (Jvm.Cond.methodLink own index Lib.objectInit).before a0 Z = true) (w2 : (Jvm.Cond.instanceMethod Lib.objectInit).before a0 Z = true) (w3 : (Jvm.Cond.code Lib.objectInit ⟨#[0xb1]⟩ 1 none).before a0 Z = true)
    (hsz : Ls.size = mx) (hf : 1 ≤ R.frames) (hW : (rest.map fun v => v.category).sum ≤ Wt) (hl : Wt + 12 ≤ R.locals) (hp : pc + 3 = pc')
    (K : ∀ T', W Z own nm bytes mx rt n0 p l e R s m args below meth c k n T' h → Go n0 p e below s Q CC NN T' (mkF m pc' Ls rest)) : Go n0 p e below s Q CC NN T (mkF m pc Ls (.ref a :: rest)) := by
  obtain ⟨hx, hb, hown, hZ, r1, r2, r3, r4, ⟨L, X, N⟩, eT⟩ := w
  obtain ⟨T', X', e', st⟩ := initO X hx hZ hown w1 w2 w3 eT (g := mkF m pc Ls (.ref a :: rest)) rfl (hsz.trans r1.symm) rfl (by rw [hb]; exact hd) hf (W := Wt) (by show 2 * 0 + _ ≤ _; omega) hl
  obtain ⟨s₂, q, st', r⟩ := K T' ⟨hx, hb, hown, hZ, r1, r2, r3, r4, ⟨L, X', N⟩, e'⟩
  subst hp
  exact ⟨s₂, q, st _ st', r⟩
theorem glen (w : W Z own nm bytes mx rt n0 p l e R s m args below meth c k n T h) {a : Addr} {kA : ClassId} {ty : FieldType} {z : Int32} {vs : List Value} {dv : Value} (hd : decode bytes pc = .ok (.arraylength, 1)) (V : Arv Z h a kA ty z vs dv) (hp : pc + 1 = pc') (K : Go n0 p e below s Q CC NN T (mkF m pc' Ls (.int z :: rest))) : Go n0 p e below s Q CC NN T (mkF m pc Ls (.ref a :: rest)) := by
  obtain ⟨hx, hb, hown, hZ, r1, r2, r3, r4, ⟨L, X, N⟩, eT⟩ := w
  obtain ⟨cl, A, -, S, N1, -, -⟩ := V
  obtain ⟨s₂, q, st', r⟩ := K
  subst hp
  refine ⟨s₂, q, X.arraylength hx (by rw [eT]; exact A.1) (State.isArrayOf_alike hZ.alike A.2.1) (g := mkF m pc Ls (.ref a :: rest)) rfl rfl (by rw [hb]; exact hd) _ ?_, r⟩
  rw [len_of S N1]
  exact st'

theorem gbaload (w : W Z own nm bytes mx rt n0 p l e R s m args below meth c k n T h) {a : Addr} {kA : ClassId} {z j : Int32} {vs : List Value} {dv v : Value} (hd : decode bytes pc = .ok (.baload, 1)) (V : Arv Z h a kA .byte z vs dv) (hj : ¬ j < 0 ∧ j < z) (hv : vs.getD j.toNatClampNeg dv = v) (hp : pc + 1 = pc') (K : Go n0 p e below s Q CC NN T (mkF m pc' Ls (v :: rest))) : Go n0 p e below s Q CC NN T (mkF m pc Ls (.int j :: .ref a :: rest)) := by
  obtain ⟨hx, hb, hown, hZ, r1, r2, r3, r4, ⟨L, X, N⟩, eT⟩ := w
  obtain ⟨cl, A, -, S, -, H, -⟩ := V
  obtain ⟨s₂, q, st', r⟩ := K
  subst hp
  exact ⟨s₂, q, X.baloadBytes hx (j := j) (v := v) (by rw [eT]; exact A.1) (State.isArrayOf_alike hZ.alike A.2.1) A.2.2 (inb_of S hj) (H.at (inb_of S hj) hv) (g := mkF m pc Ls (.int j :: .ref a :: rest)) rfl rfl (by rw [hb]; exact hd) _ st', r⟩

theorem giaload (w : W Z own nm bytes mx rt n0 p l e R s m args below meth c k n T h) {a : Addr} {kA : ClassId} {z j : Int32} {vs : List Value} {dv v : Value} (hd : decode bytes pc = .ok (.iaload, 1)) (V : Arv Z h a kA .int z vs dv) (hj : ¬ j < 0 ∧ j < z) (hv : vs.getD j.toNatClampNeg dv = v) (hp : pc + 1 = pc') (K : Go n0 p e below s Q CC NN T (mkF m pc' Ls (v :: rest))) : Go n0 p e below s Q CC NN T (mkF m pc Ls (.int j :: .ref a :: rest)) := by
  obtain ⟨hx, hb, hown, hZ, r1, r2, r3, r4, ⟨L, X, N⟩, eT⟩ := w
  obtain ⟨cl, A, -, S, -, H, -⟩ := V
  obtain ⟨s₂, q, st', r⟩ := K
  subst hp
  exact ⟨s₂, q, X.iaload hx (j := j) (v := v) (by rw [eT]; exact A.1) (State.isArrayOf_alike hZ.alike A.2.1) A.2.2 (inb_of S hj) (H.at (inb_of S hj) hv) (g := mkF m pc Ls (.int j :: .ref a :: rest)) rfl rfl (by rw [hb]; exact hd) _ st', r⟩

theorem gbastore (w : W Z own nm bytes mx rt n0 p l e R s m args below meth c k n T h) {a : Addr} {kA : ClassId} {z j x x' : Int32} {vs : List Value} {dv : Value} (hd : decode bytes pc = .ok (.bastore, 1)) (hxv : x.toInt8.toInt32 = x') (V : Arv Z h a kA .byte z vs dv) (hj : ¬ j < 0 ∧ j < z) (i : Nat) (hi : j.toNatClampNeg = i) (hlt : i < vs.length) (hna : n0 ≤ a) (hp : pc + 1 = pc')
    (K : ∀ T' h', W Z own nm bytes mx rt n0 p l e R s m args below meth c k n T' h' → Wr h h' a i (.int x') → Arv Z h' a kA .byte z (vs.set i (.int x')) dv → Go n0 p e below s Q CC NN T' (mkF m pc' Ls rest)) : Go n0 p e below s Q CC NN T (mkF m pc Ls (.int x :: .int j :: .ref a :: rest)) := by
  obtain ⟨hx, hb, hown, hZ, r1, r2, r3, r4, ⟨L, X, N⟩, eT⟩ := w
  obtain ⟨cl, A, q1, S, N1, H, Gf⟩ := V
  subst hxv
  obtain ⟨T', h', X', e', Wx, st⟩ := stB X hx hZ eT A (j := j) (x := x) (inb_of S hj) (g := mkF m pc Ls (.int x :: .int j :: .ref a :: rest)) rfl rfl (by rw [hb]; exact hd)
  obtain ⟨s₂, q, st', r⟩ := K T' h' ⟨hx, hb, hown, hZ, r1, r2, r3, r4, ⟨_, X', Fr.snoc X' N hna⟩, e'⟩ (hi ▸ Wx) (Arv.set A q1 S N1 H Gf (fits_nar_byte _) Wx i hi hlt)
  subst hp
  exact ⟨s₂, q, st _ st', r⟩

theorem giastore (w : W Z own nm bytes mx rt n0 p l e R s m args below meth c k n T h) {a : Addr} {kA : ClassId} {z j x x' : Int32} {vs : List Value} {dv : Value} (hd : decode bytes pc = .ok (.iastore, 1)) (hxv : x = x') (V : Arv Z h a kA .int z vs dv) (hj : ¬ j < 0 ∧ j < z) (i : Nat) (hi : j.toNatClampNeg = i) (hlt : i < vs.length) (hna : n0 ≤ a) (hp : pc + 1 = pc')
    (K : ∀ T' h', W Z own nm bytes mx rt n0 p l e R s m args below meth c k n T' h' → Wr h h' a i (.int x') → Arv Z h' a kA .int z (vs.set i (.int x')) dv → Go n0 p e below s Q CC NN T' (mkF m pc' Ls rest)) : Go n0 p e below s Q CC NN T (mkF m pc Ls (.int x :: .int j :: .ref a :: rest)) := by
  obtain ⟨hx, hb, hown, hZ, r1, r2, r3, r4, ⟨L, X, N⟩, eT⟩ := w
  obtain ⟨cl, A, q1, S, N1, H, Gf⟩ := V
  subst hxv
  obtain ⟨T', h', X', e', Wx, st⟩ := stI X hx hZ eT A (j := j) (x := x) (inb_of S hj) (g := mkF m pc Ls (.int x :: .int j :: .ref a :: rest)) rfl rfl (by rw [hb]; exact hd)
  obtain ⟨s₂, q, st', r⟩ := K T' h' ⟨hx, hb, hown, hZ, r1, r2, r3, r4, ⟨_, X', Fr.snoc X' N hna⟩, e'⟩ (hi ▸ Wx) (Arv.set A q1 S N1 H Gf rfl Wx i hi hlt)
  subst hp
  exact ⟨s₂, q, st _ st', r⟩

theorem gret0 (w : W Z own nm bytes mx none n0 p l e R s m args below meth c k n T h) (hd : decode bytes pc = .ok (.return_, 1)) (hk : k ≤ CC) (hn : n ≤ NN) (hQ : Q none h) : Go n0 p e below s Q CC NN T (mkF m pc Ls []) := by
  obtain ⟨hx, hb, hown, hZ, r1, r2, r3, r4, ⟨L, X, N⟩, eT⟩ := w
  obtain ⟨fs, hr, hrun, hended, hW, hsame⟩ := X.leave (v := none) (fun _ => rfl) r4
  refine ⟨_, _, X.returnOut hx r3 (by rw [hb]; exact hd) hr, hrun, hended, _, _, rfl, ⟨N, ?_⟩, ⟨_, rfl⟩, hW, hsame.mono hk hn⟩
  show Q none T.heap
  rw [eT]; exact hQ
theorem gret {t : FieldType} (w : W Z own nm bytes mx (some t) n0 p l e R s m args below meth c k n T h) {v : Value} {i : Instr} (hd : decode bytes pc = .ok (i, 1)) (hn' : narrow t v = v)
    (hi : (i = .ireturn ∧ (t = .int ∨ t = .boolean ∨ t = .byte ∨ t = .char ∨ t = .short) ∧ ∃ z, v = .int z) ∨ (i = .lreturn ∧ t = .long ∧ ∃ z, v = .long z) ∨ (i = .dreturn ∧ t = .double ∧ ∃ z, v = .double z) ∨ (i = .freturn ∧ t = .float ∧ ∃ z, v = .float z) ∨ (i = .areturn ∧ t.isReference = true ∧ v.isRef = true))
    (hk : k ≤ CC) (hn : n ≤ NN) (hQ : Q (some v) h) : Go n0 p e below s Q CC NN T (mkF m pc Ls (v :: rest)) := by
  obtain ⟨hx, hb, hown, hZ, r1, r2, r3, r4, ⟨L, X, N⟩, eT⟩ := w
  obtain ⟨fs, hr, hrun, hended, hW, hsame⟩ := X.leave (v := some v) (fun q => by rw [r3] at q; cases q) r4
  refine ⟨_, _, retOut X hx r3 hn' hi (by rw [hb]; exact hd) hr, hrun, hended, _, _, rfl, ⟨N, ?_⟩, ⟨_, rfl⟩, hW, hsame.mono hk hn⟩
  show Q (some v) T.heap
  rw [eT]; exact hQ
theorem gretI (w : W Z own nm bytes mx (some .int) n0 p l e R s m args below meth c k n T h) {v : Int32} (hd : decode bytes pc = .ok (.ireturn, 1)) (hk : k ≤ CC) (hn : n ≤ NN) (hQ : Q (some (.int v)) h) : Go n0 p e below s Q CC NN T (mkF m pc Ls (.int v :: rest)) :=
  gret w hd rfl (Or.inl ⟨rfl, Or.inl rfl, _, rfl⟩) hk hn hQ
theorem gretJ (w : W Z own nm bytes mx (some .long) n0 p l e R s m args below meth c k n T h) {v : Int64} (hd : decode bytes pc = .ok (.lreturn, 1)) (hk : k ≤ CC) (hn : n ≤ NN) (hQ : Q (some (.long v)) h) : Go n0 p e below s Q CC NN T (mkF m pc Ls (.long v :: rest)) :=
  gret w hd rfl (Or.inr (Or.inl ⟨rfl, rfl, _, rfl⟩)) hk hn hQ
theorem gretZ (w : W Z own nm bytes mx (some .boolean) n0 p l e R s m args below meth c k n T h) {v : Int32} (hd : decode bytes pc = .ok (.ireturn, 1)) (hv : narrow .boolean (.int v) = .int v) (hk : k ≤ CC) (hn : n ≤ NN) (hQ : Q (some (.int v)) h) : Go n0 p e below s Q CC NN T (mkF m pc Ls (.int v :: rest)) :=
  gret w hd hv (Or.inl ⟨rfl, Or.inr (Or.inl rfl), _, rfl⟩) hk hn hQ
theorem gretB (w : W Z own nm bytes mx (some .byte) n0 p l e R s m args below meth c k n T h) {v : Int32} (hd : decode bytes pc = .ok (.ireturn, 1)) (hv : narrow .byte (.int v) = .int v) (hk : k ≤ CC) (hn : n ≤ NN) (hQ : Q (some (.int v)) h) : Go n0 p e below s Q CC NN T (mkF m pc Ls (.int v :: rest)) :=
  gret w hd hv (Or.inl ⟨rfl, Or.inr (Or.inr (Or.inl rfl)), _, rfl⟩) hk hn hQ
theorem gretA {t : FieldType} (w : W Z own nm bytes mx (some t) n0 p l e R s m args below meth c k n T h) {v : Value} (hd : decode bytes pc = .ok (.areturn, 1)) (ht : t.isReference = true) (hv : v.isRef = true) (hn' : narrow t v = v) (hk : k ≤ CC) (hn : n ≤ NN) (hQ : Q (some v) h) : Go n0 p e below s Q CC NN T (mkF m pc Ls (v :: rest)) :=
  gret w hd hn' (Or.inr (Or.inr (Or.inr (Or.inr ⟨rfl, ht, hv⟩)))) hk hn hQ

theorem gcast (w : W Z own nm bytes mx rt n0 p l e R s m args below meth c k n T h) {index : Nat} {Kc : String} {a : Addr} (hd : decode bytes pc = .ok (.checkcast index, 3)) (w1 : (Jvm.Cond.classLink own index Kc).before a0 Z = true) (F : Ins Z h a Kc true) (hp : pc + 3 = pc')
    (K : ∀ T', W Z own nm bytes mx rt n0 p l e R s m args below meth c k n T' h → Go n0 p e below s Q CC NN T' (mkF m pc' Ls (.ref a :: rest))) : Go n0 p e below s Q CC NN T (mkF m pc Ls (.ref a :: rest)) := by
  obtain ⟨hx, hb, hown, hZ, r1, r2, r3, r4, ⟨L, X, N⟩, eT⟩ := w
  obtain ⟨T', X', e', st⟩ := castY X hx hZ hown w1 eT F (g := mkF m pc Ls (.ref a :: rest)) rfl rfl (by rw [hb]; exact hd)
  obtain ⟨s₂, q, st', r⟩ := K T' ⟨hx, hb, hown, hZ, r1, r2, r3, r4, ⟨L, X', N⟩, e'⟩
  subst hp
  exact ⟨s₂, q, st _ st', r⟩
theorem ginstY (w : W Z own nm bytes mx rt n0 p l e R s m args below meth c k n T h) {index : Nat} {Kc : String} {a : Addr} (hd : decode bytes pc = .ok (.instanceof index, 3)) (w1 : (Jvm.Cond.classLink own index Kc).before a0 Z = true) (F : Ins Z h a Kc true) (hp : pc + 3 = pc')
    (K : ∀ T', W Z own nm bytes mx rt n0 p l e R s m args below meth c k n T' h → Go n0 p e below s Q CC NN T' (mkF m pc' Ls (.int 1 :: rest))) : Go n0 p e below s Q CC NN T (mkF m pc Ls (.ref a :: rest)) := by
  obtain ⟨hx, hb, hown, hZ, r1, r2, r3, r4, ⟨L, X, N⟩, eT⟩ := w
  obtain ⟨T', X', e', st⟩ := instY X hx hZ hown w1 eT F (g := mkF m pc Ls (.ref a :: rest)) rfl rfl (by rw [hb]; exact hd)
  obtain ⟨s₂, q, st', r⟩ := K T' ⟨hx, hb, hown, hZ, r1, r2, r3, r4, ⟨L, X', N⟩, e'⟩
  subst hp
  exact ⟨s₂, q, st _ st', r⟩

theorem gcallS (w : W Z own nm bytes mx rt n0 p l e R s m args below meth c k n T h) {index : Nat} {y : MethodName} {yb : ByteArray} {ymx : Nat} {yr : Option FieldType} {rm : Room} {as : Array Value} {Q' : Option Value → Heap → Prop} {argsL : List Value} {stk : List Value} {ps : List FieldType} {ro : Option FieldType} {Wt : Nat} (hd : decode bytes pc = .ok (.invokestatic index, 3)) (w1 : (Jvm.Cond.methodLink own index y).before a0 Z = true) (w2 : (Jvm.Cond.static y).before a0 Z = true) (w3 : (Jvm.Cond.initialized y.cls).before a0 Z = true) (w4 : (Jvm.Cond.code y yb ymx yr).before a0 Z = true)
    (hy : y.cls ≠ "java/lang/invoke/MethodHandle" ∧ y.cls ≠ "java/lang/invoke/VarHandle") (hpd : parseMethodDescriptor y.desc = some ⟨ps, ro⟩) (ctr : Ctr l y yb ymx yr rm Z as h n0 Q' []) (has : argsL.toArray = as) (hlen : argsL.length = ps.length) (hst : stk = argsL.reverse ++ rest) (hsz : Ls.size = mx) (hW : (rest.map fun v => v.category).sum ≤ Wt) (hf : rm.frames + 1 ≤ R.frames) (hl : Wt + (ymx + 11) + rm.locals ≤ R.locals) (hc : k + rm.cells ≤ R.cells) (hs : n + rm.slots ≤ R.slots) (hp : pc + 3 = pc')
    (K : ∀ v T' h', W Z own nm bytes mx rt n0 p l e R s m args below meth c (k + rm.cells) (n + rm.slots) T' h' → Q' v h' → Go n0 p e below s Q CC NN T' (mkF m pc' Ls (v.toList ++ rest))) : Go n0 p e below s Q CC NN T (mkF m pc Ls stk) := by
  obtain ⟨hx, hb, hown, hZ, r1, r2, r3, r4, ⟨L, X, N⟩, eT⟩ := w
  obtain ⟨v, _, ⟨T', L', k', n'⟩, -, X', ⟨Lc, hQ, hl1, hc1, hs1⟩, st⟩ := Jvm.LawKit.callS X hx (y := y) hown (mvT hZ w1) (mvT hZ w2) (mvT hZ w3) (mvT hZ w4) hy (backOf (W := Wt) (Q := fun v h L => Fr n0 L ∧ Q' v h) ctr hZ w4 w3 hf hl) (g := mkF m pc Ls stk) rfl (hsz.trans r1.symm) (argsL := argsL) (rest := rest) (lenOf hpd hlen) hst (by show 2 * 0 + _ ≤ _; omega) (by rw [hb]; exact hd) (fun _ _ => ⟨has, eT, hc, hs⟩)
  dsimp only [Pt.U, Pt.locs, Pt.cells, Pt.slots] at X' st hQ hl1 hc1 hs1
  subst hl1 hc1 hs1
  obtain ⟨s₂, q, st', r⟩ := K v T' T'.heap ⟨hx, hb, hown, hZ, r1, r2, r3, r4, ⟨_, X', Fr.app N hQ.1⟩, rfl⟩ hQ.2
  subst hp
  exact ⟨s₂, q, st _ st', r⟩
theorem gcallN (w : W Z own nm bytes mx rt n0 p l e R s m args below meth c k n T h) {index : Nat} {y : MethodName} {yb : ByteArray} {ymx : Nat} {rm : Room} {as : Array Value} {Q' : Option Value → Heap → Prop} {argsL : List Value} {stk : List Value} {ps : List FieldType} {ro : Option FieldType} {Wt : Nat} {a : Addr} (hd : decode bytes pc = .ok (.invokespecial index, 3)) (w1 : (Jvm.Cond.methodLink own index y).before a0 Z = true) (w2 : (Jvm.Cond.instanceMethod y).before a0 Z = true) (w3 : (Jvm.Cond.initialized y.cls).before a0 Z = true) (w4 : (Jvm.Cond.code y yb ymx none).before a0 Z = true) (hyn : y.name = "<init>")
    (hy : y.cls ≠ "java/lang/invoke/MethodHandle" ∧ y.cls ≠ "java/lang/invoke/VarHandle") (hpd : parseMethodDescriptor y.desc = some ⟨ps, ro⟩) (ctr : Ctr l y yb ymx none rm Z as h n0 Q' []) (has : (.ref a :: argsL).toArray = as) (hlen : argsL.length = ps.length) (hst : stk = argsL.reverse ++ .ref a :: rest) (hsz : Ls.size = mx) (hW : (rest.map fun v => v.category).sum ≤ Wt) (hf : rm.frames + 1 ≤ R.frames) (hl : Wt + (ymx + 11) + rm.locals ≤ R.locals) (hc : k + rm.cells ≤ R.cells) (hs : n + rm.slots ≤ R.slots) (hp : pc + 3 = pc')
    (K : ∀ v T' h', W Z own nm bytes mx rt n0 p l e R s m args below meth c (k + rm.cells) (n + rm.slots) T' h' → Q' v h' → Go n0 p e below s Q CC NN T' (mkF m pc' Ls (v.toList ++ rest))) : Go n0 p e below s Q CC NN T (mkF m pc Ls stk) := by
  obtain ⟨hx, hb, hown, hZ, r1, r2, r3, r4, ⟨L, X, N⟩, eT⟩ := w
  obtain ⟨v, _, ⟨T', L', k', n'⟩, -, X', ⟨Lc, hQ, hl1, hc1, hs1⟩, st⟩ := X.specialBack hx (y := y) hyn hown (mvT hZ w1) (mvT hZ w2) (mvT hZ w4) hy (backOf (W := Wt) (Q := fun v h L => Fr n0 L ∧ Q' v h) ctr hZ w4 w3 hf hl) (g := mkF m pc Ls stk) rfl (hsz.trans r1.symm) (Steps.refl _) (a := a) (argsL := argsL) (rest := rest) (lenOf hpd hlen) hst (by show 2 * 0 + _ ≤ _; omega) (by rw [hb]; exact hd) (fun _ _ => ⟨has, eT, hc, hs⟩)
  dsimp only [Pt.U, Pt.locs, Pt.cells, Pt.slots] at X' st hQ hl1 hc1 hs1
  subst hl1 hc1 hs1
  obtain ⟨s₂, q, st', r⟩ := K v T' T'.heap ⟨hx, hb, hown, hZ, r1, r2, r3, r4, ⟨_, X', Fr.app N hQ.1⟩, rfl⟩ hQ.2
  subst hp
  exact ⟨s₂, q, st.trans st', r⟩
theorem gcallV (w : W Z own nm bytes mx rt n0 p l e R s m args below meth c k n T h) {index : Nat} {y : MethodName} {yb : ByteArray} {ymx : Nat} {yr : Option FieldType} {rm : Room} {as : Array Value} {Q' : Option Value → Heap → Prop} {argsL : List Value} {stk : List Value} {ps : List FieldType} {ro : Option FieldType} {Wt : Nat} {a : Addr} {C : String} (hd : decode bytes pc = .ok (.invokevirtual index, 3)) (w1 : (Jvm.Cond.methodLink own index y).before a0 Z = true) (w2 : (Jvm.Cond.declares y).before a0 Z = true) (w5 : (Jvm.Cond.selects C y y).before a0 Z = true) (w6 : (Jvm.Cond.instanceMethod y).before a0 Z = true) (w3 : (Jvm.Cond.initialized y.cls).before a0 Z = true) (w4 : (Jvm.Cond.code y yb ymx yr).before a0 Z = true)
    (E : Exa Z h a C) (hC : y.cls = C) (hy : y.cls ≠ "java/lang/invoke/MethodHandle" ∧ y.cls ≠ "java/lang/invoke/VarHandle") (hpd : parseMethodDescriptor y.desc = some ⟨ps, ro⟩) (ctr : Ctr l y yb ymx yr rm Z as h n0 Q' []) (has : (.ref a :: argsL).toArray = as) (hlen : argsL.length = ps.length) (hst : stk = argsL.reverse ++ .ref a :: rest) (hsz : Ls.size = mx) (hW : (rest.map fun v => v.category).sum ≤ Wt) (hf : rm.frames + 1 ≤ R.frames) (hl : Wt + (ymx + 11) + rm.locals ≤ R.locals) (hc : k + rm.cells ≤ R.cells) (hs : n + rm.slots ≤ R.slots) (hp : pc + 3 = pc')
    (K : ∀ v T' h', W Z own nm bytes mx rt n0 p l e R s m args below meth c (k + rm.cells) (n + rm.slots) T' h' → Q' v h' → Go n0 p e below s Q CC NN T' (mkF m pc' Ls (v.toList ++ rest))) : Go n0 p e below s Q CC NN T (mkF m pc Ls stk) := by
  obtain ⟨hx, hb, hown, hZ, r1, r2, r3, r4, ⟨L, X, N⟩, eT⟩ := w
  obtain ⟨cq, kq, qa, qb, qc⟩ := isOf hZ eT E
  subst hC
  obtain ⟨v, _, ⟨T', L', k', n'⟩, -, X', ⟨Lc, hQ, hl1, hc1, hs1⟩, st⟩ := X.virtualBack hx (y := y) (z := y) hown (mvT hZ w1) (mvT hZ w2) (notFace_of_selects (args := #[]) (mvT hZ w5)) (mvT hZ w5) (mvT hZ w6) hy (backOf (W := Wt) (Q := fun v h L => Fr n0 L ∧ Q' v h) ctr hZ w4 w3 hf hl) qa qc (g := mkF m pc Ls stk) rfl (hsz.trans r1.symm) (Steps.refl _) (argsL := argsL) (rest := rest) (lenOf hpd hlen) hst (by show 2 * 0 + _ ≤ _; omega) (by rw [hb]; exact hd) (fun _ _ => ⟨has, eT, hc, hs⟩)
  dsimp only [Pt.U, Pt.locs, Pt.cells, Pt.slots] at X' st hQ hl1 hc1 hs1
  subst hl1 hc1 hs1
  obtain ⟨s₂, q, st', r⟩ := K v T' T'.heap ⟨hx, hb, hown, hZ, r1, r2, r3, r4, ⟨_, X', Fr.app N hQ.1⟩, rfl⟩ hQ.2
  subst hp
  exact ⟨s₂, q, st.trans st', r⟩
theorem gaaload (w : W Z own nm bytes mx rt n0 p l e R s m args below meth c k n T h) {a : Addr} {cl : Cell} {ty : FieldType} {j : Int32} {v : Value} (hd : decode bytes pc = .ok (.aaload, 1)) (A : Arr Z h a cl ty) (hty : ty.isReference = true) (hin : ¬ (j < 0 ∨ cl.slots.size ≤ j.toNatClampNeg)) (hv : cl.slots[j.toNatClampNeg]? = some v) (hp : pc + 1 = pc') (K : Go n0 p e below s Q CC NN T (mkF m pc' Ls (v :: rest))) : Go n0 p e below s Q CC NN T (mkF m pc Ls (.int j :: .ref a :: rest)) := by
  obtain ⟨hx, hb, hown, hZ, r1, r2, r3, r4, ⟨L, X, N⟩, eT⟩ := w
  obtain ⟨s₂, q, st', r⟩ := K
  subst hp
  exact ⟨s₂, q, X.aaload hx (j := j) (v := v) (by rw [eT]; exact A.1) (State.isArrayOf_alike hZ.alike A.2.1) hty A.2.2 hin hv (g := mkF m pc Ls (.int j :: .ref a :: rest)) rfl rfl (by rw [hb]; exact hd) _ st', r⟩
theorem glenA (w : W Z own nm bytes mx rt n0 p l e R s m args below meth c k n T h) {a : Addr} {cl : Cell} {ty : FieldType} {z : Int32} (hd : decode bytes pc = .ok (.arraylength, 1)) (A : Arr Z h a cl ty) (hz : cl.slots.size.toInt32 = z) (hp : pc + 1 = pc') (K : Go n0 p e below s Q CC NN T (mkF m pc' Ls (.int z :: rest))) : Go n0 p e below s Q CC NN T (mkF m pc Ls (.ref a :: rest)) := by
  obtain ⟨hx, hb, hown, hZ, r1, r2, r3, r4, ⟨L, X, N⟩, eT⟩ := w
  obtain ⟨s₂, q, st', r⟩ := K
  subst hp hz
  exact ⟨s₂, q, X.arraylength hx (by rw [eT]; exact A.1) (State.isArrayOf_alike hZ.alike A.2.1) (g := mkF m pc Ls (.ref a :: rest)) rfl rfl (by rw [hb]; exact hd) _ st', r⟩
theorem gclone (w : W Z own nm bytes mx rt n0 p l e R s m args below meth c k n T h) {index Wt cap : Nat} {ad : String} {a : Addr} {cl : Cell} {ty : FieldType} (hd : decode bytes pc = .ok (.invokevirtual index, 3)) (w1 : (Jvm.Cond.methodLink own index ⟨ad, "clone", "()Ljava/lang/Object;"⟩).before a0 Z = true) (w2 : (Jvm.Cond.sameMethod ad "java/lang/Object" "clone" "()Ljava/lang/Object;").before a0 Z = true) (w3 : (Jvm.Cond.native ⟨"java/lang/Object", "clone", "()Ljava/lang/Object;"⟩).before a0 Z = true)
    (w4 : (Jvm.Cond.instanceMethod ⟨"java/lang/Object", "clone", "()Ljava/lang/Object;"⟩).before a0 Z = true) (w5 : (Jvm.Cond.selects ad ⟨ad, "clone", "()Ljava/lang/Object;"⟩ ⟨"java/lang/Object", "clone", "()Ljava/lang/Object;"⟩).before a0 Z = true) (w6 : (Jvm.Cond.castable ad "java/lang/Cloneable").before a0 Z = true)
    (A : Arr Z h a cl ty) (E : Exa Z h a ad) (F : FitC Z cl) (hsz : Ls.size = mx) (hf : 1 ≤ R.frames) (hW : (rest.map fun v => v.category).sum ≤ Wt) (hl : Wt + 14 ≤ R.locals) (hcap : cl.slots.size ≤ cap) (hc : k + 1 ≤ R.cells) (hsl : n + cap ≤ R.slots) (hp : pc + 3 = pc')
    (K : ∀ T' h' a', h.size = a' → W Z own nm bytes mx rt n0 p l e R s m args below meth c (k + 1) (n + cap) T' h' → Ext h h' → Arr Z h' a' (cloneOf cl) ty → Exa Z h' a' ad → Go n0 p e below s Q CC NN T' (mkF m pc' Ls (.ref a' :: rest))) : Go n0 p e below s Q CC NN T (mkF m pc Ls (.ref a :: rest)) := by
  obtain ⟨hx, hb, hown, hZ, r1, r2, r3, r4, ⟨L, X, N⟩, eT⟩ := w
  obtain ⟨T', h', X', e', Ex, A', E', st⟩ := cloneA X hx hZ hown w1 w2 w3 w4 w5 w6 eT A E F (g := mkF m pc Ls (.ref a :: rest)) rfl (hsz.trans r1.symm) rfl (by rw [hb]; exact hd) hf (W := Wt) (by show 2 * 0 + _ ≤ _; omega) hl hcap hc hsl
  obtain ⟨s₂, q, st', r⟩ := K T' h' _ rfl ⟨hx, hb, hown, hZ, r1, r2, r3, r4, ⟨_, X', N⟩, e'⟩ Ex A' E'
  subst hp
  exact ⟨s₂, q, st _ st', r⟩
theorem metGoH {y : MethodName} {rm : Room} {as : Array Value} {ws : List Jvm.Cond} (hpn : plainFor y = true) (hef : ∀ m, entryFrame m as mx = mkF m 0 Ls [])
    (H : ∀ (p : Program) (e : Env) (s : State) (m : MethodId) (below : List Frame) (meth : Method) (c : Code) (T : State), W Z y.cls y.name bytes mx rt n0 p l e rm s m as below meth c 0 0 T h → s.heap = h → Go n0 p e below s Q rm.cells rm.slots T (mkF m 0 Ls [])) : Ctr l y bytes mx rt rm Z as h n0 Q ws := by
  refine MetFree.of_bodySF hpn hisR ?_
  intro p e s m args below meth c s₁ Bd hml0 hP hK
  obtain ⟨rfl, hZ, hh⟩ := hP
  have e0 : s₁.heap = h := by rw [← hh, Bd.state]; rfl
  obtain ⟨s₂, o, st, r⟩ := H p e s m below meth c s₁ ⟨Bd.exec, Bd.bytes, findClass_of_methodNamed Bd.named, hZ, hml0, (name_of_methodNamed Bd.named Bd.method).1, Bd.returns, Bd.notSynchronized, ⟨[], Stand.of_body Bd, Fr.nil n0⟩, e0⟩ hh
  exact ⟨s₂, o, castTop (hef m) st, r⟩
theorem ginst0 (w : W Z own nm bytes mx rt n0 p l e R s m args below meth c k n T h) {index : Nat} (hd : decode bytes pc = .ok (.instanceof index, 3)) (hp : pc + 3 = pc') (K : Go n0 p e below s Q CC NN T (mkF m pc' Ls (.int 0 :: rest))) : Go n0 p e below s Q CC NN T (mkF m pc Ls (.null :: rest)) := by
  obtain ⟨hx, hb, -, -, -, -, -, -, ⟨L, X, -⟩, -⟩ := w
  obtain ⟨s₂, q, st, r⟩ := K
  subst hb hp
  exact ⟨s₂, q, X.instanceofNull hx (g := mkF m pc Ls (.null :: rest)) rfl rfl hd _ st, r⟩
theorem ginstN (w : W Z own nm bytes mx rt n0 p l e R s m args below meth c k n T h) (hs : s.heap = h) {index : Nat} {Kc C : String} {a : Addr} (hd : decode bytes pc = .ok (.instanceof index, 3)) (w1 : (Jvm.Cond.classLink own index Kc).before a0 Z = true) (F : Ins Z h a Kc false) (E : Exa Z h a C) (hp : pc + 3 = pc')
    (K : ∀ T', W Z own nm bytes mx rt n0 p l e R s m args below meth c k n T' h → Go n0 p e below s Q CC NN T' (mkF m pc' Ls (.int 0 :: rest))) : Go n0 p e below s Q CC NN T (mkF m pc Ls (.ref a :: rest)) := by
  obtain ⟨hx, hb, hown, hZ, r1, r2, r3, r4, ⟨L, X, N⟩, eT⟩ := w
  obtain ⟨T', X', e', st⟩ := instN X hx hZ hown w1 eT (hs ▸ F) (hs ▸ E) (g := mkF m pc Ls (.ref a :: rest)) rfl rfl (by rw [hb]; exact hd)
  obtain ⟨s₂, q, st', r⟩ := K T' ⟨hx, hb, hown, hZ, r1, r2, r3, r4, ⟨L, X', N⟩, e'⟩
  subst hp
  exact ⟨s₂, q, st _ st', r⟩
theorem gcopy (w : W Z own nm bytes mx rt n0 p l e R s m args below meth c k n T h) {index Wt : Nat} {a b : Addr} {ka kb : ClassId} {z z' sp dp nn : Int32} {vs vd : List Value} {dv dd : Value} (hd : decode bytes pc = .ok (.invokestatic index, 3)) (w1 : (Jvm.Cond.methodLink own index Jvm.Stand.acN).before a0 Z = true) (w2 : (Jvm.Cond.native Jvm.Stand.acN).before a0 Z = true) (w3 : (Jvm.Cond.static Jvm.Stand.acN).before a0 Z = true) (w4 : (Jvm.Cond.initialized "java/lang/System").before a0 Z = true)
    (A : Arv Z h a ka .byte z vs dv) (B : Arv Z h b kb .byte z' vd dd) (h1 : ¬ sp < 0) (h2 : ¬ dp < 0) (h3 : ¬ nn < 0) (h4 : sp.toNatClampNeg + nn.toNatClampNeg ≤ z.toNatClampNeg) (h5 : dp.toNatClampNeg + nn.toNatClampNeg ≤ z'.toNatClampNeg) (hlv : dp.toNatClampNeg + nn.toNatClampNeg ≤ vd.length) (ge : n0 ≤ b)
    (hsz : Ls.size = mx) (hf : 1 ≤ R.frames) (hW : (rest.map fun v => v.category).sum ≤ Wt) (hlo : Wt + (nativeFrameWords "java/lang/System" "arraycopy" 5 + 11) ≤ R.locals) (hp : pc + 3 = pc')
    (K : ∀ T' h' us, W Z own nm bytes mx rt n0 p l e R s m args below meth c k n T' h' → Keep h h' [b] → us.length = nn.toNatClampNeg → Arv Z h' b kb .byte z' (vd.take dp.toNatClampNeg ++ us ++ vd.drop (dp.toNatClampNeg + nn.toNatClampNeg)) dd → Go n0 p e below s Q CC NN T' (mkF m pc' Ls rest)) : Go n0 p e below s Q CC NN T (mkF m pc Ls (.int nn :: .int dp :: .ref b :: .int sp :: .ref a :: rest)) := by
  obtain ⟨hx, hb, hown, hZ, r1, r2, r3, r4, ⟨L, X, N⟩, eT⟩ := w
  obtain ⟨T', h', L', X', e', N', Kp, V', st⟩ := cpA X hx hZ hown w1 w2 w3 w4 eT A B (Or.inl ⟨rfl, rfl⟩) h1 h2 h3 h4 h5 rfl hlv N ge (g := mkF m pc Ls (.int nn :: .int dp :: .ref b :: .int sp :: .ref a :: rest)) rfl (hsz.trans r1.symm) rfl (by rw [hb]; exact hd) hf (W := Wt) (by show 2 * 0 + _ ≤ _; omega) hlo
  obtain ⟨s₂, q, st', r⟩ := K T' h' _ ⟨hx, hb, hown, hZ, r1, r2, r3, r4, ⟨_, X', N'⟩, e'⟩ Kp (by rw [List.length_map, List.length_range]) V'
  subst hp
  exact ⟨s₂, q, st _ st', r⟩
theorem gifnullV (w : W Z own nm bytes mx rt n0 p l e R s m args below meth c k n T h) {v : Value} {o : Int} {pt pf : Nat} (hd : decode bytes pc = .ok (.ifnull o, 3)) (ho : 0 ≤ (pc : Int) + o) (ht : ((pc : Int) + o).toNat = pt) (hf : pc + 3 = pf) (hv : v.isRef = true) (Kt : v = .null → Go n0 p e below s Q CC NN T (mkF m pt Ls rest)) (Kf : ¬ v = .null → Go n0 p e below s Q CC NN T (mkF m pf Ls rest)) : Go n0 p e below s Q CC NN T (mkF m pc Ls (v :: rest)) := by
  rcases ref_cases hv with rfl | ⟨a, rfl⟩
  · exact gifnullY w hd ho ht (Kt rfl)
  · exact gifnullN w hd hf (Kf nofun)
theorem wmono (w : W Z own nm bytes mx rt n0 p l e R s m args below meth c k n T h) {k' n' : Nat} (hk : k ≤ k') (hn : n ≤ n') : W Z own nm bytes mx rt n0 p l e R s m args below meth c k' n' T h := by
  obtain ⟨hx, hb, hown, hZ, r1, r2, r3, r4, ⟨L, X, N⟩, eT⟩ := w
  exact ⟨hx, hb, hown, hZ, r1, r2, r3, r4, ⟨L, ⟨X.admits, X.cas, X.clock, X.frames, X.room, X.hears, X.method, X.code, X.here, X.tail, X.warmed, X.limits, X.bytes, X.same.mono hk hn⟩, N⟩, eT⟩
theorem gcallP (w : W Z own nm bytes mx rt n0 p l e R s m args below meth c k n T h) {index : Nat} {y : MethodName} {yb : ByteArray} {ymx : Nat} {yr : Option FieldType} {rm : Room} {as : Array Value} {Q' : Option Value → Heap → Prop} {argsL : List Value} {stk : List Value} {ps : List FieldType} {ro : Option FieldType} {Wt : Nat} {a : Addr} {C : String} {ji : Nat} (hd : decode bytes pc = .ok (.invokevirtual index, 3)) (w1 : (Jvm.Cond.methodLink own index y).before a0 Z = true) (w2 : (Jvm.Cond.instanceMethod y).before a0 Z = true) (w5 : (Jvm.Cond.instantiable y.cls ji).before a0 Z = true) (w6 : (Jvm.Cond.privateMethod y).before a0 Z = true) (w3 : (Jvm.Cond.initialized y.cls).before a0 Z = true) (w4 : (Jvm.Cond.code y yb ymx yr).before a0 Z = true)
    (E : Exa Z h a C) (hy : y.cls ≠ "java/lang/invoke/MethodHandle" ∧ y.cls ≠ "java/lang/invoke/VarHandle") (hpd : parseMethodDescriptor y.desc = some ⟨ps, ro⟩) (ctr : Ctr l y yb ymx yr rm Z as h n0 Q' []) (has : (.ref a :: argsL).toArray = as) (hlen : argsL.length = ps.length) (hst : stk = argsL.reverse ++ .ref a :: rest) (hsz : Ls.size = mx) (hW : (rest.map fun v => v.category).sum ≤ Wt) (hf : rm.frames + 1 ≤ R.frames) (hl : Wt + (ymx + 11) + rm.locals ≤ R.locals) (hc : k + rm.cells ≤ R.cells) (hs : n + rm.slots ≤ R.slots) (hp : pc + 3 = pc')
    (K : ∀ v T' h', W Z own nm bytes mx rt n0 p l e R s m args below meth c (k + rm.cells) (n + rm.slots) T' h' → Q' v h' → Go n0 p e below s Q CC NN T' (mkF m pc' Ls (v.toList ++ rest))) : Go n0 p e below s Q CC NN T (mkF m pc Ls stk) := by
  obtain ⟨hx, hb, hown, hZ, r1, r2, r3, r4, ⟨L, X, N⟩, eT⟩ := w
  obtain ⟨cq, qa, qb⟩ := E.cell
  obtain ⟨ci, ki, i1, i2, -, i4, -, -⟩ := Cond.instantiable_spec (mvT hZ w5 (args := #[]))
  have hni : ki.isInterface = false := (Bool.or_eq_false_iff.mp i4).1
  have hpr := Cond.privateMethod_at (mvP hZ w6 (args := #[]))
  have hsel := selects_self_of_private (args := args) i1 i2 hni hpr (mvT hZ w2) hy
  obtain ⟨v, _, ⟨T', L', k', n'⟩, -, X', ⟨Lc, hQ, hl1, hc1, hs1⟩, st⟩ := X.privateBack hx (y := y) hown (mvT hZ w1) (mvT hZ w2) hsel hpr (mvT hZ w4) hy (backOf (W := Wt) (Q := fun v h L => Fr n0 L ∧ Q' v h) ctr hZ w4 w3 hf hl) (g := mkF m pc Ls stk) rfl (hsz.trans r1.symm) (Steps.refl _) (a := a) (by rw [eT]; exact qa) qb (argsL := argsL) (rest := rest) (lenOf hpd hlen) hst (by show 2 * 0 + _ ≤ _; omega) (by rw [hb]; exact hd) (fun _ _ => ⟨has, eT, hc, hs⟩)
  dsimp only [Pt.U, Pt.locs, Pt.cells, Pt.slots] at X' st hQ hl1 hc1 hs1
  subst hl1 hc1 hs1
  obtain ⟨s₂, q, st', r⟩ := K v T' T'.heap ⟨hx, hb, hown, hZ, r1, r2, r3, r4, ⟨_, X', Fr.app N hQ.1⟩, rfl⟩ hQ.2
  subst hp
  exact ⟨s₂, q, st.trans st', r⟩
theorem ref_cat {v : Value} (h : v.isRef = true) : v.category = 1 := by
  rcases ref_cases h with rfl | ⟨a, rfl⟩ <;> rfl
theorem own_bb (y : Int32) : y.toInt8.toInt32.toInt8.toInt32 = y.toInt8.toInt32 := by rw [Int8.toInt8_toInt32]
end GoKit

theorem d1_0 : decode prog_37_method_5_code 0 = .ok (.invokestatic 75, 3) := by decide +kernel
theorem d1_3 : decode prog_37_method_5_code 3 = .ok (.astore_n 1, 1) := by decide +kernel
theorem d1_4 : decode prog_37_method_5_code 4 = .ok (.aload_n 1, 1) := by decide +kernel
theorem d1_5 : decode prog_37_method_5_code 5 = .ok (.arraylength, 1) := by decide +kernel
theorem d1_6 : decode prog_37_method_5_code 6 = .ok (.istore_n 2, 1) := by decide +kernel
theorem d1_7 : decode prog_37_method_5_code 7 = .ok (.iconst 0, 1) := by decide +kernel
theorem d1_8 : decode prog_37_method_5_code 8 = .ok (.istore_n 3, 1) := by decide +kernel
theorem d1_9 : decode prog_37_method_5_code 9 = .ok (.iload_n 3, 1) := by decide +kernel
theorem d1_10 : decode prog_37_method_5_code 10 = .ok (.iload_n 2, 1) := by decide +kernel
theorem d1_11 : decode prog_37_method_5_code 11 = .ok (.if_icmp .ge 26, 3) := by decide +kernel
theorem d1_14 : decode prog_37_method_5_code 14 = .ok (.aload_n 1, 1) := by decide +kernel
theorem d1_15 : decode prog_37_method_5_code 15 = .ok (.iload_n 3, 1) := by decide +kernel
theorem d1_16 : decode prog_37_method_5_code 16 = .ok (.aaload, 1) := by decide +kernel
theorem d1_17 : decode prog_37_method_5_code 17 = .ok (.astore 4, 2) := by decide +kernel
theorem d1_19 : decode prog_37_method_5_code 19 = .ok (.aload 4, 2) := by decide +kernel
theorem d1_21 : decode prog_37_method_5_code 21 = .ok (.getfield 71, 3) := by decide +kernel
theorem d1_24 : decode prog_37_method_5_code 24 = .ok (.iload_n 0, 1) := by decide +kernel
theorem d1_25 : decode prog_37_method_5_code 25 = .ok (.if_icmp .ne 6, 3) := by decide +kernel
theorem d1_28 : decode prog_37_method_5_code 28 = .ok (.aload 4, 2) := by decide +kernel
theorem d1_30 : decode prog_37_method_5_code 30 = .ok (.areturn, 1) := by decide +kernel
theorem d1_31 : decode prog_37_method_5_code 31 = .ok (.iinc 3 1, 3) := by decide +kernel
theorem d1_34 : decode prog_37_method_5_code 34 = .ok (.goto (-25), 3) := by decide +kernel
theorem d1_37 : decode prog_37_method_5_code 37 = .ok (.aconst_null, 1) := by decide +kernel
theorem d1_38 : decode prog_37_method_5_code 38 = .ok (.areturn, 1) := by decide +kernel
theorem pn_d1 : plainFor (⟨"com/example/atlanta/atlanta/server/Opcode", "of", "(I)Lcom/example/atlanta/atlanta/server/Opcode;"⟩ : MethodName) = true := by first | (refine plainFor_of_name ?_; simp [plainName, overriddenIn]; done) | decide +kernel
theorem pd_d1 : parseMethodDescriptor "(I)Lcom/example/atlanta/atlanta/server/Opcode;" = some ⟨[.int], some (.object "com/example/atlanta/atlanta/server/Opcode")⟩ := by decide +kernel
theorem d2_0 : decode prog_37_method_1_code 0 = .ok (.getstatic 52, 3) := by decide +kernel
theorem d2_3 : decode prog_37_method_1_code 3 = .ok (.invokevirtual 56, 3) := by decide +kernel
theorem d2_6 : decode prog_37_method_1_code 6 = .ok (.checkcast 57, 3) := by decide +kernel
theorem d2_9 : decode prog_37_method_1_code 9 = .ok (.areturn, 1) := by decide +kernel
theorem pn_d2 : plainFor (⟨"com/example/atlanta/atlanta/server/Opcode", "values", "()[Lcom/example/atlanta/atlanta/server/Opcode;"⟩ : MethodName) = true := by first | (refine plainFor_of_name ?_; simp [plainName, overriddenIn]; done) | decide +kernel
theorem pd_d2 : parseMethodDescriptor "()[Lcom/example/atlanta/atlanta/server/Opcode;" = some ⟨[], some (.array (.object "com/example/atlanta/atlanta/server/Opcode"))⟩ := by decide +kernel
theorem d3_0 : decode method_3_code 0 = .ok (.iload_n 0, 1) := by decide +kernel
theorem d3_1 : decode method_3_code 1 = .ok (.ifCond .ne 7, 3) := by decide +kernel
theorem d3_4 : decode method_3_code 4 = .ok (.getstatic 18, 3) := by decide +kernel
theorem d3_7 : decode method_3_code 7 = .ok (.areturn, 1) := by decide +kernel
theorem d3_8 : decode method_3_code 8 = .ok (.iload_n 0, 1) := by decide +kernel
theorem d3_9 : decode method_3_code 9 = .ok (.iconst 1, 1) := by decide +kernel
theorem d3_10 : decode method_3_code 10 = .ok (.if_icmp .ne 7, 3) := by decide +kernel
theorem d3_13 : decode method_3_code 13 = .ok (.getstatic 22, 3) := by decide +kernel
theorem d3_16 : decode method_3_code 16 = .ok (.areturn, 1) := by decide +kernel
theorem d3_17 : decode method_3_code 17 = .ok (.iload_n 0, 1) := by decide +kernel
theorem d3_18 : decode method_3_code 18 = .ok (.iconst 2, 1) := by decide +kernel
theorem d3_19 : decode method_3_code 19 = .ok (.if_icmp .ne 7, 3) := by decide +kernel
theorem d3_22 : decode method_3_code 22 = .ok (.getstatic 25, 3) := by decide +kernel
theorem d3_25 : decode method_3_code 25 = .ok (.areturn, 1) := by decide +kernel
theorem d3_26 : decode method_3_code 26 = .ok (.iload_n 0, 1) := by decide +kernel
theorem d3_27 : decode method_3_code 27 = .ok (.iconst 3, 1) := by decide +kernel
theorem d3_28 : decode method_3_code 28 = .ok (.if_icmp .ne 7, 3) := by decide +kernel
theorem d3_31 : decode method_3_code 31 = .ok (.getstatic 28, 3) := by decide +kernel
theorem d3_34 : decode method_3_code 34 = .ok (.areturn, 1) := by decide +kernel
theorem d3_35 : decode method_3_code 35 = .ok (.iload_n 0, 1) := by decide +kernel
theorem d3_36 : decode method_3_code 36 = .ok (.iconst 5, 1) := by decide +kernel
theorem d3_37 : decode method_3_code 37 = .ok (.if_icmp .ne 7, 3) := by decide +kernel
theorem d3_40 : decode method_3_code 40 = .ok (.getstatic 31, 3) := by decide +kernel
theorem d3_43 : decode method_3_code 43 = .ok (.areturn, 1) := by decide +kernel
theorem d3_44 : decode method_3_code 44 = .ok (.iload_n 0, 1) := by decide +kernel
theorem d3_45 : decode method_3_code 45 = .ok (.bipush 6, 2) := by decide +kernel
theorem d3_47 : decode method_3_code 47 = .ok (.if_icmp .ne 7, 3) := by decide +kernel
theorem d3_50 : decode method_3_code 50 = .ok (.getstatic 34, 3) := by decide +kernel
theorem d3_53 : decode method_3_code 53 = .ok (.areturn, 1) := by decide +kernel
theorem d3_54 : decode method_3_code 54 = .ok (.iload_n 0, 1) := by decide +kernel
theorem d3_55 : decode method_3_code 55 = .ok (.bipush 7, 2) := by decide +kernel
theorem d3_57 : decode method_3_code 57 = .ok (.if_icmp .ne 7, 3) := by decide +kernel
theorem d3_60 : decode method_3_code 60 = .ok (.getstatic 37, 3) := by decide +kernel
theorem d3_63 : decode method_3_code 63 = .ok (.areturn, 1) := by decide +kernel
theorem d3_64 : decode method_3_code 64 = .ok (.iload_n 0, 1) := by decide +kernel
theorem d3_65 : decode method_3_code 65 = .ok (.bipush 8, 2) := by decide +kernel
theorem d3_67 : decode method_3_code 67 = .ok (.if_icmp .ne 7, 3) := by decide +kernel
theorem d3_70 : decode method_3_code 70 = .ok (.getstatic 40, 3) := by decide +kernel
theorem d3_73 : decode method_3_code 73 = .ok (.areturn, 1) := by decide +kernel
theorem d3_74 : decode method_3_code 74 = .ok (.iload_n 0, 1) := by decide +kernel
theorem d3_75 : decode method_3_code 75 = .ok (.bipush 9, 2) := by decide +kernel
theorem d3_77 : decode method_3_code 77 = .ok (.if_icmp .ne 7, 3) := by decide +kernel
theorem d3_80 : decode method_3_code 80 = .ok (.getstatic 43, 3) := by decide +kernel
theorem d3_83 : decode method_3_code 83 = .ok (.areturn, 1) := by decide +kernel
theorem d3_84 : decode method_3_code 84 = .ok (.iload_n 0, 1) := by decide +kernel
theorem d3_85 : decode method_3_code 85 = .ok (.bipush 10, 2) := by decide +kernel
theorem d3_87 : decode method_3_code 87 = .ok (.if_icmp .ne 7, 3) := by decide +kernel
theorem d3_90 : decode method_3_code 90 = .ok (.getstatic 46, 3) := by decide +kernel
theorem d3_93 : decode method_3_code 93 = .ok (.areturn, 1) := by decide +kernel
theorem d3_94 : decode method_3_code 94 = .ok (.iload_n 0, 1) := by decide +kernel
theorem d3_95 : decode method_3_code 95 = .ok (.bipush 11, 2) := by decide +kernel
theorem d3_97 : decode method_3_code 97 = .ok (.if_icmp .ne 7, 3) := by decide +kernel
theorem d3_100 : decode method_3_code 100 = .ok (.getstatic 49, 3) := by decide +kernel
theorem d3_103 : decode method_3_code 103 = .ok (.areturn, 1) := by decide +kernel
theorem d3_104 : decode method_3_code 104 = .ok (.iload_n 0, 1) := by decide +kernel
theorem d3_105 : decode method_3_code 105 = .ok (.bipush 12, 2) := by decide +kernel
theorem d3_107 : decode method_3_code 107 = .ok (.if_icmp .ne 7, 3) := by decide +kernel
theorem d3_110 : decode method_3_code 110 = .ok (.getstatic 52, 3) := by decide +kernel
theorem d3_113 : decode method_3_code 113 = .ok (.areturn, 1) := by decide +kernel
theorem d3_114 : decode method_3_code 114 = .ok (.iload_n 0, 1) := by decide +kernel
theorem d3_115 : decode method_3_code 115 = .ok (.bipush 13, 2) := by decide +kernel
theorem d3_117 : decode method_3_code 117 = .ok (.if_icmp .ne 7, 3) := by decide +kernel
theorem d3_120 : decode method_3_code 120 = .ok (.getstatic 55, 3) := by decide +kernel
theorem d3_123 : decode method_3_code 123 = .ok (.areturn, 1) := by decide +kernel
theorem d3_124 : decode method_3_code 124 = .ok (.iload_n 0, 1) := by decide +kernel
theorem d3_125 : decode method_3_code 125 = .ok (.bipush 14, 2) := by decide +kernel
theorem d3_127 : decode method_3_code 127 = .ok (.if_icmp .ne 7, 3) := by decide +kernel
theorem d3_130 : decode method_3_code 130 = .ok (.getstatic 58, 3) := by decide +kernel
theorem d3_133 : decode method_3_code 133 = .ok (.areturn, 1) := by decide +kernel
theorem d3_134 : decode method_3_code 134 = .ok (.iload_n 0, 1) := by decide +kernel
theorem d3_135 : decode method_3_code 135 = .ok (.bipush 15, 2) := by decide +kernel
theorem d3_137 : decode method_3_code 137 = .ok (.if_icmp .ne 7, 3) := by decide +kernel
theorem d3_140 : decode method_3_code 140 = .ok (.getstatic 61, 3) := by decide +kernel
theorem d3_143 : decode method_3_code 143 = .ok (.areturn, 1) := by decide +kernel
theorem d3_144 : decode method_3_code 144 = .ok (.iload_n 0, 1) := by decide +kernel
theorem d3_145 : decode method_3_code 145 = .ok (.bipush 16, 2) := by decide +kernel
theorem d3_147 : decode method_3_code 147 = .ok (.if_icmp .ne 7, 3) := by decide +kernel
theorem d3_150 : decode method_3_code 150 = .ok (.getstatic 64, 3) := by decide +kernel
theorem d3_153 : decode method_3_code 153 = .ok (.areturn, 1) := by decide +kernel
theorem d3_154 : decode method_3_code 154 = .ok (.aconst_null, 1) := by decide +kernel
theorem d3_155 : decode method_3_code 155 = .ok (.areturn, 1) := by decide +kernel
theorem pn_d3 : plainFor (⟨"com/example/atlanta/atlanta/server/OpcodeOfPinLaw", "expected", "(I)Lcom/example/atlanta/atlanta/server/Opcode;"⟩ : MethodName) = true := by first | (refine plainFor_of_name ?_; simp [plainName, overriddenIn]; done) | decide +kernel
theorem pd_d3 : parseMethodDescriptor "(I)Lcom/example/atlanta/atlanta/server/Opcode;" = some ⟨[.int], some (.object "com/example/atlanta/atlanta/server/Opcode")⟩ := by decide +kernel
theorem pn_at0 : plainName "com/example/atlanta/atlanta/server/OpcodeOfPinLaw" = true := by first | (simp [plainName, overriddenIn]; done) | decide +kernel
theorem pn_at : plainFor x = true := plainFor_of_name pn_at0
variable {p : Program} {l : Launch} {e : Env} {s : State} {m : MethodId} {args : Array Value} {below : List Frame} {meth : Method} {c : Code} {T : State} {Z : State} {n0 : Nat} {h : Heap} {a0 : Array Value}
def own_of (ee : Nat → Addr) (a : Int32) : Value := if (0 : Int32) = a then .ref (ee 0) else if (1 : Int32) = a then .ref (ee 1) else if (2 : Int32) = a then .ref (ee 2) else if (3 : Int32) = a then .ref (ee 3) else if (5 : Int32) = a then .ref (ee 4) else if (6 : Int32) = a then .ref (ee 5) else if (7 : Int32) = a then .ref (ee 6) else if (8 : Int32) = a then .ref (ee 7) else if (9 : Int32) = a then .ref (ee 8) else if (10 : Int32) = a then .ref (ee 9) else if (11 : Int32) = a then .ref (ee 10) else if (12 : Int32) = a then .ref (ee 11) else if (13 : Int32) = a then .ref (ee 12) else if (14 : Int32) = a then .ref (ee 13) else if (15 : Int32) = a then .ref (ee 14) else if (16 : Int32) = a then .ref (ee 15) else .null
theorem own_ite {P : Prop} [Decidable P] {x y : Value} (h1 : x.isRef = true) (h2 : y.isRef = true) : (if P then x else y).isRef = true := by
  by_cases q : P
  · rw [if_pos q]; exact h1
  · rw [if_neg q]; exact h2
theorem own_of_ref (ee : Nat → Addr) (a : Int32) : (own_of ee a).isRef = true := by
  unfold own_of
  repeat (refine own_ite rfl ?_)
  rfl
def own_tab : List (Nat × Int32) := [(0, 0), (1, 1), (2, 2), (3, 3), (4, 5), (5, 6), (6, 7), (7, 8), (8, 9), (9, 10), (10, 11), (11, 12), (12, 13), (13, 14), (14, 15), (15, 16)]
def own_nam : List (Nat × String) := [(0, "ERROR"), (1, "STARTUP"), (2, "READY"), (3, "AUTHENTICATE"), (4, "OPTIONS"), (5, "SUPPORTED"), (6, "QUERY"), (7, "RESULT"), (8, "PREPARE"), (9, "EXECUTE"), (10, "REGISTER"), (11, "EVENT"), (12, "BATCH"), (13, "AUTH_CHALLENGE"), (14, "AUTH_RESPONSE"), (15, "AUTH_SUCCESS")]
def own_H (Z : State) (h : Heap) (aV : Addr) (cl : Cell) (ee : Nat → Addr) : Prop := Arr Z h aV cl (.object "com/example/atlanta/atlanta/server/Opcode") ∧ Exa Z h aV "[Lcom/example/atlanta/atlanta/server/Opcode;" ∧ FitC Z cl ∧ cl.slots.size = 16 ∧ Sta Z h "com/example/atlanta/atlanta/server/Opcode" "$VALUES" "[Lcom/example/atlanta/atlanta/server/Opcode;" (.ref aV) ∧ (∀ q ∈ own_tab, cl.slots[q.1]? = some (.ref (ee q.1)) ∧ Fld Z h (ee q.1) "com/example/atlanta/atlanta/server/Opcode" "code" "I" (.int q.2)) ∧ ∀ q ∈ own_nam, Sta Z h "com/example/atlanta/atlanta/server/Opcode" q.2 "Lcom/example/atlanta/atlanta/server/Opcode;" (.ref (ee q.1))
theorem own_ext {aV : Addr} {cl : Cell} {ee : Nat → Addr} {h' : Heap} (H : own_H Z h aV cl ee) (E : Ext h h') : own_H Z h' aV cl ee :=
  ⟨H.1.ext E, H.2.1.ext E, H.2.2.1, H.2.2.2.1, H.2.2.2.2.1.ext E, fun q hq => ⟨(H.2.2.2.2.2.1 q hq).1, (H.2.2.2.2.2.1 q hq).2.ext E⟩, fun q hq => (H.2.2.2.2.2.2 q hq).ext E⟩
theorem own_et {h1 h2 h3 : Heap} (E : Ext h1 h2) (E' : Ext h2 h3) : Ext h1 h3 := ⟨Nat.le_trans E.1 E'.1, fun a c q => E'.2 a c (E.2 a c q)⟩
theorem own_er (h : Heap) : Ext h h := ⟨Nat.le_refl _, fun _ _ q => q⟩
theorem own_in {cl : Cell} (hsz : cl.slots.size = 16) {j : Int32} (q : ¬ (j < 0 ∨ 16 ≤ j.toNatClampNeg)) : ¬ (j < 0 ∨ (cloneOf cl).slots.size ≤ j.toNatClampNeg) := by
  show ¬ (j < 0 ∨ cl.slots.size ≤ j.toNatClampNeg)
  rw [hsz]; exact q
set_option maxRecDepth 65536 in
set_option maxHeartbeats 4000000 in
theorem own_cv (hw : ∀ d ∈ tables_1, d.before a0 Z = true) (aV : Addr) (cl : Cell) (ee : Nat → Addr) (H : own_H Z h aV cl ee) :
    Ctr l (⟨"com/example/atlanta/atlanta/server/Opcode", "values", "()[Lcom/example/atlanta/atlanta/server/Opcode;"⟩ : MethodName) prog_37_method_1_code 0 (some (.array (.object "com/example/atlanta/atlanta/server/Opcode"))) ({ frames := 1, cells := 1, slots := 16, locals := 16 } : Room) Z #[] h n0 (fun v h' => ∃ aC, v = some (.ref aC) ∧ Ext h h' ∧ Arr Z h' aC (cloneOf cl) (.object "com/example/atlanta/atlanta/server/Opcode")) [] := by
  refine metGo (Ls := #[]) pn_d2 (fun m => by first | rfl | (simp [entryFrame, mkF, argsToLocals, Value.category]; done) | (simp [entryFrame, mkF, argsToLocals, Value.category, maxLocals]; done)) ?_
  intro p e s m below meth c T w
  refine ggetS (pc' := 3) w d2_0 (hw _ (List.mem_of_getElem? (i := 7) rfl)) H.2.2.2.2.1 rfl (fun Tv1 wv1 => ?_)
  refine gclone (pc' := 6) (Wt := 0) (cap := 16) wv1 d2_3 (hw _ (List.mem_of_getElem? (i := 9) rfl)) (hw _ (List.mem_of_getElem? (i := 10) rfl)) (hw _ (List.mem_of_getElem? (i := 14) rfl)) (hw _ (List.mem_of_getElem? (i := 12) rfl)) (hw _ (List.mem_of_getElem? (i := 13) rfl)) (hw _ (List.mem_of_getElem? (i := 15) rfl)) H.1 H.2.1 H.2.2.1 rfl (by decide) (Nat.le_of_eq rfl) (by decide) (Nat.le_of_eq H.2.2.2.1) (by decide) (by decide) rfl (fun Tv2 hv2 aC sC wv2 Ex AC EC => ?_)
  refine gcast (pc' := 9) wv2 d2_6 (hw _ (List.mem_of_getElem? (i := 33) rfl)) (Ins.self EC) rfl (fun Tv3 wv3 => ?_)
  exact gretA wv3 d2_9 rfl rfl rfl (by decide) (by decide) ⟨aC, rfl, Ex, AC⟩
set_option maxRecDepth 65536 in
set_option maxHeartbeats 4000000 in
theorem own_co (hw : ∀ d ∈ tables_1, d.before a0 Z = true) (a : Int32) (aV : Addr) (cl : Cell) (ee : Nat → Addr) (H : own_H Z h aV cl ee) :
    Ctr l (⟨"com/example/atlanta/atlanta/server/Opcode", "of", "(I)Lcom/example/atlanta/atlanta/server/Opcode;"⟩ : MethodName) prog_37_method_5_code 5 (some (.object "com/example/atlanta/atlanta/server/Opcode")) ({ frames := 2, cells := 1, slots := 16, locals := 48 } : Room) Z #[(.int a)] h n0 (fun v h' => v = some (own_of ee a) ∧ Ext h h') [] := by
  refine metGo (Ls := #[.val (.int a), .unset, .unset, .unset, .unset]) pn_d1 (fun m => by first | rfl | (simp [entryFrame, mkF, argsToLocals, Value.category]; done) | (simp [entryFrame, mkF, argsToLocals, Value.category, maxLocals]; done)) ?_
  intro p e s m below meth c T w
  refine gcallS (pc' := 3) (argsL := []) (rest := []) (Wt := 0) w d1_0 (hw _ (List.mem_of_getElem? (i := 4) rfl)) (hw _ (List.mem_of_getElem? (i := 5) rfl)) (hw _ (List.mem_of_getElem? (i := 2) rfl)) (hw _ (List.mem_of_getElem? (i := 6) rfl)) (by decide) pd_d2 (own_cv hw aV cl ee H) rfl rfl rfl rfl (Nat.le_of_eq rfl) (by decide) (by decide) (by decide) (by decide) rfl (fun v1 T2 h3 w4 q5 => ?_)
  obtain ⟨aC, rfl, Ex, AC⟩ := q5
  show Go _ _ _ _ _ _ _ _ _ (mkF m 3 #[.val (.int a), .unset, .unset, .unset, .unset] [(.ref aC)])
  have H2 := own_ext H Ex
  refine gastoreN (pc' := 4) (Ls := #[.val (.int a), .unset, .unset, .unset, .unset]) (Ls' := #[.val (.int a), .val (.ref aC), .unset, .unset, .unset]) (rest := []) w4 d1_3 rfl rfl rfl ?_
  refine galoadN (pc' := 5) (Ls := #[.val (.int a), .val (.ref aC), .unset, .unset, .unset]) (rest := []) w4 d1_4 rfl rfl rfl ?_
  refine glenA (pc' := 6) (z := (16 : Int32)) w4 d1_5 AC (by show cl.slots.size.toInt32 = 16; rw [H.2.2.2.1]; rfl) rfl ?_
  refine gistoreN (pc' := 7) (Ls := #[.val (.int a), .val (.ref aC), .unset, .unset, .unset]) (Ls' := #[.val (.int a), .val (.ref aC), .val (.int (16 : Int32)), .unset, .unset]) (rest := []) w4 d1_6 rfl rfl ?_
  refine giconst (v := (0 : Int32)) (pc' := 8) w4 d1_7 rfl rfl ?_
  refine gistoreN (pc' := 9) (Ls := #[.val (.int a), .val (.ref aC), .val (.int (16 : Int32)), .unset, .unset]) (Ls' := #[.val (.int a), .val (.ref aC), .val (.int (16 : Int32)), .val (.int (0 : Int32)), .unset]) (rest := []) w4 d1_8 rfl rfl ?_
  refine giloadN (pc' := 10) (Ls := #[.val (.int a), .val (.ref aC), .val (.int (16 : Int32)), .val (.int (0 : Int32)), .unset]) (rest := []) w4 d1_9 rfl rfl ?_
  refine giloadN (pc' := 11) (Ls := #[.val (.int a), .val (.ref aC), .val (.int (16 : Int32)), .val (.int (0 : Int32)), .unset]) (rest := [(.int (0 : Int32))]) w4 d1_10 rfl rfl ?_
  refine gicmp (pt := 37) (pf := 14) w4 d1_11  (by decide) rfl rfl (fun (c11 : ¬ (0 : Int32) < (16 : Int32)) => ?_) (fun (c11 : (0 : Int32) < (16 : Int32)) => ?_)
  · exact absurd c11 (by decide)
  · refine galoadN (pc' := 15) (Ls := #[.val (.int a), .val (.ref aC), .val (.int (16 : Int32)), .val (.int (0 : Int32)), .unset]) (rest := []) w4 d1_14 rfl rfl rfl ?_
    refine giloadN (pc' := 16) (Ls := #[.val (.int a), .val (.ref aC), .val (.int (16 : Int32)), .val (.int (0 : Int32)), .unset]) (rest := [(.ref aC)]) w4 d1_15 rfl rfl ?_
    refine gaaload (pc' := 17) (v := .ref (ee 0)) w4 d1_16 AC rfl (own_in H.2.2.2.1 (by decide)) (H.2.2.2.2.2.1 (0, 0) (by decide)).1 rfl ?_
    refine gastore (pc' := 19) (Ls := #[.val (.int a), .val (.ref aC), .val (.int (16 : Int32)), .val (.int (0 : Int32)), .unset]) (Ls' := #[.val (.int a), .val (.ref aC), .val (.int (16 : Int32)), .val (.int (0 : Int32)), .val (.ref (ee 0))]) (rest := []) w4 d1_17 rfl rfl rfl ?_
    refine gaload (pc' := 21) (Ls := #[.val (.int a), .val (.ref aC), .val (.int (16 : Int32)), .val (.int (0 : Int32)), .val (.ref (ee 0))]) (rest := []) w4 d1_19 rfl rfl rfl ?_
    refine ggetF (pc' := 24) w4 d1_21 (hw _ (List.mem_of_getElem? (i := 35) rfl)) (H2.2.2.2.2.2.1 (0, 0) (by decide)).2 rfl (fun T7 w6 => ?_)
    refine giloadN (pc' := 25) (Ls := #[.val (.int a), .val (.ref aC), .val (.int (16 : Int32)), .val (.int (0 : Int32)), .val (.ref (ee 0))]) (rest := [(.int (0 : Int32))]) w6 d1_24 rfl rfl ?_
    refine gicmp (pt := 31) (pf := 28) w6 d1_25  (by decide) rfl rfl (fun (c25 : ¬ (0 : Int32) = a) => ?_) (fun (c25 : (0 : Int32) = a) => ?_)
    · refine giinc (pc' := 34) (Ls := #[.val (.int a), .val (.ref aC), .val (.int (16 : Int32)), .val (.int (0 : Int32)), .val (.ref (ee 0))]) (Ls' := #[.val (.int a), .val (.ref aC), .val (.int (16 : Int32)), .val (.int (1 : Int32)), .val (.ref (ee 0))]) (rest := []) w6 d1_31 rfl rfl rfl ?_
      refine ggoto (pc' := 9) w6 d1_34 (by decide) rfl ?_
      refine giloadN (pc' := 10) (Ls := #[.val (.int a), .val (.ref aC), .val (.int (16 : Int32)), .val (.int (1 : Int32)), .val (.ref (ee 0))]) (rest := []) w6 d1_9 rfl rfl ?_
      refine giloadN (pc' := 11) (Ls := #[.val (.int a), .val (.ref aC), .val (.int (16 : Int32)), .val (.int (1 : Int32)), .val (.ref (ee 0))]) (rest := [(.int (1 : Int32))]) w6 d1_10 rfl rfl ?_
      refine gicmp (pt := 37) (pf := 14) w6 d1_11  (by decide) rfl rfl (fun (c11_1 : ¬ (1 : Int32) < (16 : Int32)) => ?_) (fun (c11_1 : (1 : Int32) < (16 : Int32)) => ?_)
      · exact absurd c11_1 (by decide)
      · refine galoadN (pc' := 15) (Ls := #[.val (.int a), .val (.ref aC), .val (.int (16 : Int32)), .val (.int (1 : Int32)), .val (.ref (ee 0))]) (rest := []) w6 d1_14 rfl rfl rfl ?_
        refine giloadN (pc' := 16) (Ls := #[.val (.int a), .val (.ref aC), .val (.int (16 : Int32)), .val (.int (1 : Int32)), .val (.ref (ee 0))]) (rest := [(.ref aC)]) w6 d1_15 rfl rfl ?_
        refine gaaload (pc' := 17) (v := .ref (ee 1)) w6 d1_16 AC rfl (own_in H.2.2.2.1 (by decide)) (H.2.2.2.2.2.1 (1, 1) (by decide)).1 rfl ?_
        refine gastore (pc' := 19) (Ls := #[.val (.int a), .val (.ref aC), .val (.int (16 : Int32)), .val (.int (1 : Int32)), .val (.ref (ee 0))]) (Ls' := #[.val (.int a), .val (.ref aC), .val (.int (16 : Int32)), .val (.int (1 : Int32)), .val (.ref (ee 1))]) (rest := []) w6 d1_17 rfl rfl rfl ?_
        refine gaload (pc' := 21) (Ls := #[.val (.int a), .val (.ref aC), .val (.int (16 : Int32)), .val (.int (1 : Int32)), .val (.ref (ee 1))]) (rest := []) w6 d1_19 rfl rfl rfl ?_
        refine ggetF (pc' := 24) w6 d1_21 (hw _ (List.mem_of_getElem? (i := 35) rfl)) (H2.2.2.2.2.2.1 (1, 1) (by decide)).2 rfl (fun T9 w8 => ?_)
        refine giloadN (pc' := 25) (Ls := #[.val (.int a), .val (.ref aC), .val (.int (16 : Int32)), .val (.int (1 : Int32)), .val (.ref (ee 1))]) (rest := [(.int (1 : Int32))]) w8 d1_24 rfl rfl ?_
        refine gicmp (pt := 31) (pf := 28) w8 d1_25  (by decide) rfl rfl (fun (c25_1 : ¬ (1 : Int32) = a) => ?_) (fun (c25_1 : (1 : Int32) = a) => ?_)
        · refine giinc (pc' := 34) (Ls := #[.val (.int a), .val (.ref aC), .val (.int (16 : Int32)), .val (.int (1 : Int32)), .val (.ref (ee 1))]) (Ls' := #[.val (.int a), .val (.ref aC), .val (.int (16 : Int32)), .val (.int (2 : Int32)), .val (.ref (ee 1))]) (rest := []) w8 d1_31 rfl rfl rfl ?_
          refine ggoto (pc' := 9) w8 d1_34 (by decide) rfl ?_
          refine giloadN (pc' := 10) (Ls := #[.val (.int a), .val (.ref aC), .val (.int (16 : Int32)), .val (.int (2 : Int32)), .val (.ref (ee 1))]) (rest := []) w8 d1_9 rfl rfl ?_
          refine giloadN (pc' := 11) (Ls := #[.val (.int a), .val (.ref aC), .val (.int (16 : Int32)), .val (.int (2 : Int32)), .val (.ref (ee 1))]) (rest := [(.int (2 : Int32))]) w8 d1_10 rfl rfl ?_
          refine gicmp (pt := 37) (pf := 14) w8 d1_11  (by decide) rfl rfl (fun (c11_2 : ¬ (2 : Int32) < (16 : Int32)) => ?_) (fun (c11_2 : (2 : Int32) < (16 : Int32)) => ?_)
          · exact absurd c11_2 (by decide)
          · refine galoadN (pc' := 15) (Ls := #[.val (.int a), .val (.ref aC), .val (.int (16 : Int32)), .val (.int (2 : Int32)), .val (.ref (ee 1))]) (rest := []) w8 d1_14 rfl rfl rfl ?_
            refine giloadN (pc' := 16) (Ls := #[.val (.int a), .val (.ref aC), .val (.int (16 : Int32)), .val (.int (2 : Int32)), .val (.ref (ee 1))]) (rest := [(.ref aC)]) w8 d1_15 rfl rfl ?_
            refine gaaload (pc' := 17) (v := .ref (ee 2)) w8 d1_16 AC rfl (own_in H.2.2.2.1 (by decide)) (H.2.2.2.2.2.1 (2, 2) (by decide)).1 rfl ?_
            refine gastore (pc' := 19) (Ls := #[.val (.int a), .val (.ref aC), .val (.int (16 : Int32)), .val (.int (2 : Int32)), .val (.ref (ee 1))]) (Ls' := #[.val (.int a), .val (.ref aC), .val (.int (16 : Int32)), .val (.int (2 : Int32)), .val (.ref (ee 2))]) (rest := []) w8 d1_17 rfl rfl rfl ?_
            refine gaload (pc' := 21) (Ls := #[.val (.int a), .val (.ref aC), .val (.int (16 : Int32)), .val (.int (2 : Int32)), .val (.ref (ee 2))]) (rest := []) w8 d1_19 rfl rfl rfl ?_
            refine ggetF (pc' := 24) w8 d1_21 (hw _ (List.mem_of_getElem? (i := 35) rfl)) (H2.2.2.2.2.2.1 (2, 2) (by decide)).2 rfl (fun T11 w10 => ?_)
            refine giloadN (pc' := 25) (Ls := #[.val (.int a), .val (.ref aC), .val (.int (16 : Int32)), .val (.int (2 : Int32)), .val (.ref (ee 2))]) (rest := [(.int (2 : Int32))]) w10 d1_24 rfl rfl ?_
            refine gicmp (pt := 31) (pf := 28) w10 d1_25  (by decide) rfl rfl (fun (c25_2 : ¬ (2 : Int32) = a) => ?_) (fun (c25_2 : (2 : Int32) = a) => ?_)
            · refine giinc (pc' := 34) (Ls := #[.val (.int a), .val (.ref aC), .val (.int (16 : Int32)), .val (.int (2 : Int32)), .val (.ref (ee 2))]) (Ls' := #[.val (.int a), .val (.ref aC), .val (.int (16 : Int32)), .val (.int (3 : Int32)), .val (.ref (ee 2))]) (rest := []) w10 d1_31 rfl rfl rfl ?_
              refine ggoto (pc' := 9) w10 d1_34 (by decide) rfl ?_
              refine giloadN (pc' := 10) (Ls := #[.val (.int a), .val (.ref aC), .val (.int (16 : Int32)), .val (.int (3 : Int32)), .val (.ref (ee 2))]) (rest := []) w10 d1_9 rfl rfl ?_
              refine giloadN (pc' := 11) (Ls := #[.val (.int a), .val (.ref aC), .val (.int (16 : Int32)), .val (.int (3 : Int32)), .val (.ref (ee 2))]) (rest := [(.int (3 : Int32))]) w10 d1_10 rfl rfl ?_
              refine gicmp (pt := 37) (pf := 14) w10 d1_11  (by decide) rfl rfl (fun (c11_3 : ¬ (3 : Int32) < (16 : Int32)) => ?_) (fun (c11_3 : (3 : Int32) < (16 : Int32)) => ?_)
              · exact absurd c11_3 (by decide)
              · refine galoadN (pc' := 15) (Ls := #[.val (.int a), .val (.ref aC), .val (.int (16 : Int32)), .val (.int (3 : Int32)), .val (.ref (ee 2))]) (rest := []) w10 d1_14 rfl rfl rfl ?_
                refine giloadN (pc' := 16) (Ls := #[.val (.int a), .val (.ref aC), .val (.int (16 : Int32)), .val (.int (3 : Int32)), .val (.ref (ee 2))]) (rest := [(.ref aC)]) w10 d1_15 rfl rfl ?_
                refine gaaload (pc' := 17) (v := .ref (ee 3)) w10 d1_16 AC rfl (own_in H.2.2.2.1 (by decide)) (H.2.2.2.2.2.1 (3, 3) (by decide)).1 rfl ?_
                refine gastore (pc' := 19) (Ls := #[.val (.int a), .val (.ref aC), .val (.int (16 : Int32)), .val (.int (3 : Int32)), .val (.ref (ee 2))]) (Ls' := #[.val (.int a), .val (.ref aC), .val (.int (16 : Int32)), .val (.int (3 : Int32)), .val (.ref (ee 3))]) (rest := []) w10 d1_17 rfl rfl rfl ?_
                refine gaload (pc' := 21) (Ls := #[.val (.int a), .val (.ref aC), .val (.int (16 : Int32)), .val (.int (3 : Int32)), .val (.ref (ee 3))]) (rest := []) w10 d1_19 rfl rfl rfl ?_
                refine ggetF (pc' := 24) w10 d1_21 (hw _ (List.mem_of_getElem? (i := 35) rfl)) (H2.2.2.2.2.2.1 (3, 3) (by decide)).2 rfl (fun T13 w12 => ?_)
                refine giloadN (pc' := 25) (Ls := #[.val (.int a), .val (.ref aC), .val (.int (16 : Int32)), .val (.int (3 : Int32)), .val (.ref (ee 3))]) (rest := [(.int (3 : Int32))]) w12 d1_24 rfl rfl ?_
                refine gicmp (pt := 31) (pf := 28) w12 d1_25  (by decide) rfl rfl (fun (c25_3 : ¬ (3 : Int32) = a) => ?_) (fun (c25_3 : (3 : Int32) = a) => ?_)
                · refine giinc (pc' := 34) (Ls := #[.val (.int a), .val (.ref aC), .val (.int (16 : Int32)), .val (.int (3 : Int32)), .val (.ref (ee 3))]) (Ls' := #[.val (.int a), .val (.ref aC), .val (.int (16 : Int32)), .val (.int (4 : Int32)), .val (.ref (ee 3))]) (rest := []) w12 d1_31 rfl rfl rfl ?_
                  refine ggoto (pc' := 9) w12 d1_34 (by decide) rfl ?_
                  refine giloadN (pc' := 10) (Ls := #[.val (.int a), .val (.ref aC), .val (.int (16 : Int32)), .val (.int (4 : Int32)), .val (.ref (ee 3))]) (rest := []) w12 d1_9 rfl rfl ?_
                  refine giloadN (pc' := 11) (Ls := #[.val (.int a), .val (.ref aC), .val (.int (16 : Int32)), .val (.int (4 : Int32)), .val (.ref (ee 3))]) (rest := [(.int (4 : Int32))]) w12 d1_10 rfl rfl ?_
                  refine gicmp (pt := 37) (pf := 14) w12 d1_11  (by decide) rfl rfl (fun (c11_4 : ¬ (4 : Int32) < (16 : Int32)) => ?_) (fun (c11_4 : (4 : Int32) < (16 : Int32)) => ?_)
                  · exact absurd c11_4 (by decide)
                  · refine galoadN (pc' := 15) (Ls := #[.val (.int a), .val (.ref aC), .val (.int (16 : Int32)), .val (.int (4 : Int32)), .val (.ref (ee 3))]) (rest := []) w12 d1_14 rfl rfl rfl ?_
                    refine giloadN (pc' := 16) (Ls := #[.val (.int a), .val (.ref aC), .val (.int (16 : Int32)), .val (.int (4 : Int32)), .val (.ref (ee 3))]) (rest := [(.ref aC)]) w12 d1_15 rfl rfl ?_
                    refine gaaload (pc' := 17) (v := .ref (ee 4)) w12 d1_16 AC rfl (own_in H.2.2.2.1 (by decide)) (H.2.2.2.2.2.1 (4, 5) (by decide)).1 rfl ?_
                    refine gastore (pc' := 19) (Ls := #[.val (.int a), .val (.ref aC), .val (.int (16 : Int32)), .val (.int (4 : Int32)), .val (.ref (ee 3))]) (Ls' := #[.val (.int a), .val (.ref aC), .val (.int (16 : Int32)), .val (.int (4 : Int32)), .val (.ref (ee 4))]) (rest := []) w12 d1_17 rfl rfl rfl ?_
                    refine gaload (pc' := 21) (Ls := #[.val (.int a), .val (.ref aC), .val (.int (16 : Int32)), .val (.int (4 : Int32)), .val (.ref (ee 4))]) (rest := []) w12 d1_19 rfl rfl rfl ?_
                    refine ggetF (pc' := 24) w12 d1_21 (hw _ (List.mem_of_getElem? (i := 35) rfl)) (H2.2.2.2.2.2.1 (4, 5) (by decide)).2 rfl (fun T15 w14 => ?_)
                    refine giloadN (pc' := 25) (Ls := #[.val (.int a), .val (.ref aC), .val (.int (16 : Int32)), .val (.int (4 : Int32)), .val (.ref (ee 4))]) (rest := [(.int (5 : Int32))]) w14 d1_24 rfl rfl ?_
                    refine gicmp (pt := 31) (pf := 28) w14 d1_25  (by decide) rfl rfl (fun (c25_4 : ¬ (5 : Int32) = a) => ?_) (fun (c25_4 : (5 : Int32) = a) => ?_)
                    · refine giinc (pc' := 34) (Ls := #[.val (.int a), .val (.ref aC), .val (.int (16 : Int32)), .val (.int (4 : Int32)), .val (.ref (ee 4))]) (Ls' := #[.val (.int a), .val (.ref aC), .val (.int (16 : Int32)), .val (.int (5 : Int32)), .val (.ref (ee 4))]) (rest := []) w14 d1_31 rfl rfl rfl ?_
                      refine ggoto (pc' := 9) w14 d1_34 (by decide) rfl ?_
                      refine giloadN (pc' := 10) (Ls := #[.val (.int a), .val (.ref aC), .val (.int (16 : Int32)), .val (.int (5 : Int32)), .val (.ref (ee 4))]) (rest := []) w14 d1_9 rfl rfl ?_
                      refine giloadN (pc' := 11) (Ls := #[.val (.int a), .val (.ref aC), .val (.int (16 : Int32)), .val (.int (5 : Int32)), .val (.ref (ee 4))]) (rest := [(.int (5 : Int32))]) w14 d1_10 rfl rfl ?_
                      refine gicmp (pt := 37) (pf := 14) w14 d1_11  (by decide) rfl rfl (fun (c11_5 : ¬ (5 : Int32) < (16 : Int32)) => ?_) (fun (c11_5 : (5 : Int32) < (16 : Int32)) => ?_)
                      · exact absurd c11_5 (by decide)
                      · refine galoadN (pc' := 15) (Ls := #[.val (.int a), .val (.ref aC), .val (.int (16 : Int32)), .val (.int (5 : Int32)), .val (.ref (ee 4))]) (rest := []) w14 d1_14 rfl rfl rfl ?_
                        refine giloadN (pc' := 16) (Ls := #[.val (.int a), .val (.ref aC), .val (.int (16 : Int32)), .val (.int (5 : Int32)), .val (.ref (ee 4))]) (rest := [(.ref aC)]) w14 d1_15 rfl rfl ?_
                        refine gaaload (pc' := 17) (v := .ref (ee 5)) w14 d1_16 AC rfl (own_in H.2.2.2.1 (by decide)) (H.2.2.2.2.2.1 (5, 6) (by decide)).1 rfl ?_
                        refine gastore (pc' := 19) (Ls := #[.val (.int a), .val (.ref aC), .val (.int (16 : Int32)), .val (.int (5 : Int32)), .val (.ref (ee 4))]) (Ls' := #[.val (.int a), .val (.ref aC), .val (.int (16 : Int32)), .val (.int (5 : Int32)), .val (.ref (ee 5))]) (rest := []) w14 d1_17 rfl rfl rfl ?_
                        refine gaload (pc' := 21) (Ls := #[.val (.int a), .val (.ref aC), .val (.int (16 : Int32)), .val (.int (5 : Int32)), .val (.ref (ee 5))]) (rest := []) w14 d1_19 rfl rfl rfl ?_
                        refine ggetF (pc' := 24) w14 d1_21 (hw _ (List.mem_of_getElem? (i := 35) rfl)) (H2.2.2.2.2.2.1 (5, 6) (by decide)).2 rfl (fun T17 w16 => ?_)
                        refine giloadN (pc' := 25) (Ls := #[.val (.int a), .val (.ref aC), .val (.int (16 : Int32)), .val (.int (5 : Int32)), .val (.ref (ee 5))]) (rest := [(.int (6 : Int32))]) w16 d1_24 rfl rfl ?_
                        refine gicmp (pt := 31) (pf := 28) w16 d1_25  (by decide) rfl rfl (fun (c25_5 : ¬ (6 : Int32) = a) => ?_) (fun (c25_5 : (6 : Int32) = a) => ?_)
                        · refine giinc (pc' := 34) (Ls := #[.val (.int a), .val (.ref aC), .val (.int (16 : Int32)), .val (.int (5 : Int32)), .val (.ref (ee 5))]) (Ls' := #[.val (.int a), .val (.ref aC), .val (.int (16 : Int32)), .val (.int (6 : Int32)), .val (.ref (ee 5))]) (rest := []) w16 d1_31 rfl rfl rfl ?_
                          refine ggoto (pc' := 9) w16 d1_34 (by decide) rfl ?_
                          refine giloadN (pc' := 10) (Ls := #[.val (.int a), .val (.ref aC), .val (.int (16 : Int32)), .val (.int (6 : Int32)), .val (.ref (ee 5))]) (rest := []) w16 d1_9 rfl rfl ?_
                          refine giloadN (pc' := 11) (Ls := #[.val (.int a), .val (.ref aC), .val (.int (16 : Int32)), .val (.int (6 : Int32)), .val (.ref (ee 5))]) (rest := [(.int (6 : Int32))]) w16 d1_10 rfl rfl ?_
                          refine gicmp (pt := 37) (pf := 14) w16 d1_11  (by decide) rfl rfl (fun (c11_6 : ¬ (6 : Int32) < (16 : Int32)) => ?_) (fun (c11_6 : (6 : Int32) < (16 : Int32)) => ?_)
                          · exact absurd c11_6 (by decide)
                          · refine galoadN (pc' := 15) (Ls := #[.val (.int a), .val (.ref aC), .val (.int (16 : Int32)), .val (.int (6 : Int32)), .val (.ref (ee 5))]) (rest := []) w16 d1_14 rfl rfl rfl ?_
                            refine giloadN (pc' := 16) (Ls := #[.val (.int a), .val (.ref aC), .val (.int (16 : Int32)), .val (.int (6 : Int32)), .val (.ref (ee 5))]) (rest := [(.ref aC)]) w16 d1_15 rfl rfl ?_
                            refine gaaload (pc' := 17) (v := .ref (ee 6)) w16 d1_16 AC rfl (own_in H.2.2.2.1 (by decide)) (H.2.2.2.2.2.1 (6, 7) (by decide)).1 rfl ?_
                            refine gastore (pc' := 19) (Ls := #[.val (.int a), .val (.ref aC), .val (.int (16 : Int32)), .val (.int (6 : Int32)), .val (.ref (ee 5))]) (Ls' := #[.val (.int a), .val (.ref aC), .val (.int (16 : Int32)), .val (.int (6 : Int32)), .val (.ref (ee 6))]) (rest := []) w16 d1_17 rfl rfl rfl ?_
                            refine gaload (pc' := 21) (Ls := #[.val (.int a), .val (.ref aC), .val (.int (16 : Int32)), .val (.int (6 : Int32)), .val (.ref (ee 6))]) (rest := []) w16 d1_19 rfl rfl rfl ?_
                            refine ggetF (pc' := 24) w16 d1_21 (hw _ (List.mem_of_getElem? (i := 35) rfl)) (H2.2.2.2.2.2.1 (6, 7) (by decide)).2 rfl (fun T19 w18 => ?_)
                            refine giloadN (pc' := 25) (Ls := #[.val (.int a), .val (.ref aC), .val (.int (16 : Int32)), .val (.int (6 : Int32)), .val (.ref (ee 6))]) (rest := [(.int (7 : Int32))]) w18 d1_24 rfl rfl ?_
                            refine gicmp (pt := 31) (pf := 28) w18 d1_25  (by decide) rfl rfl (fun (c25_6 : ¬ (7 : Int32) = a) => ?_) (fun (c25_6 : (7 : Int32) = a) => ?_)
                            · refine giinc (pc' := 34) (Ls := #[.val (.int a), .val (.ref aC), .val (.int (16 : Int32)), .val (.int (6 : Int32)), .val (.ref (ee 6))]) (Ls' := #[.val (.int a), .val (.ref aC), .val (.int (16 : Int32)), .val (.int (7 : Int32)), .val (.ref (ee 6))]) (rest := []) w18 d1_31 rfl rfl rfl ?_
                              refine ggoto (pc' := 9) w18 d1_34 (by decide) rfl ?_
                              refine giloadN (pc' := 10) (Ls := #[.val (.int a), .val (.ref aC), .val (.int (16 : Int32)), .val (.int (7 : Int32)), .val (.ref (ee 6))]) (rest := []) w18 d1_9 rfl rfl ?_
                              refine giloadN (pc' := 11) (Ls := #[.val (.int a), .val (.ref aC), .val (.int (16 : Int32)), .val (.int (7 : Int32)), .val (.ref (ee 6))]) (rest := [(.int (7 : Int32))]) w18 d1_10 rfl rfl ?_
                              refine gicmp (pt := 37) (pf := 14) w18 d1_11  (by decide) rfl rfl (fun (c11_7 : ¬ (7 : Int32) < (16 : Int32)) => ?_) (fun (c11_7 : (7 : Int32) < (16 : Int32)) => ?_)
                              · exact absurd c11_7 (by decide)
                              · refine galoadN (pc' := 15) (Ls := #[.val (.int a), .val (.ref aC), .val (.int (16 : Int32)), .val (.int (7 : Int32)), .val (.ref (ee 6))]) (rest := []) w18 d1_14 rfl rfl rfl ?_
                                refine giloadN (pc' := 16) (Ls := #[.val (.int a), .val (.ref aC), .val (.int (16 : Int32)), .val (.int (7 : Int32)), .val (.ref (ee 6))]) (rest := [(.ref aC)]) w18 d1_15 rfl rfl ?_
                                refine gaaload (pc' := 17) (v := .ref (ee 7)) w18 d1_16 AC rfl (own_in H.2.2.2.1 (by decide)) (H.2.2.2.2.2.1 (7, 8) (by decide)).1 rfl ?_
                                refine gastore (pc' := 19) (Ls := #[.val (.int a), .val (.ref aC), .val (.int (16 : Int32)), .val (.int (7 : Int32)), .val (.ref (ee 6))]) (Ls' := #[.val (.int a), .val (.ref aC), .val (.int (16 : Int32)), .val (.int (7 : Int32)), .val (.ref (ee 7))]) (rest := []) w18 d1_17 rfl rfl rfl ?_
                                refine gaload (pc' := 21) (Ls := #[.val (.int a), .val (.ref aC), .val (.int (16 : Int32)), .val (.int (7 : Int32)), .val (.ref (ee 7))]) (rest := []) w18 d1_19 rfl rfl rfl ?_
                                refine ggetF (pc' := 24) w18 d1_21 (hw _ (List.mem_of_getElem? (i := 35) rfl)) (H2.2.2.2.2.2.1 (7, 8) (by decide)).2 rfl (fun T21 w20 => ?_)
                                refine giloadN (pc' := 25) (Ls := #[.val (.int a), .val (.ref aC), .val (.int (16 : Int32)), .val (.int (7 : Int32)), .val (.ref (ee 7))]) (rest := [(.int (8 : Int32))]) w20 d1_24 rfl rfl ?_
                                refine gicmp (pt := 31) (pf := 28) w20 d1_25  (by decide) rfl rfl (fun (c25_7 : ¬ (8 : Int32) = a) => ?_) (fun (c25_7 : (8 : Int32) = a) => ?_)
                                · refine giinc (pc' := 34) (Ls := #[.val (.int a), .val (.ref aC), .val (.int (16 : Int32)), .val (.int (7 : Int32)), .val (.ref (ee 7))]) (Ls' := #[.val (.int a), .val (.ref aC), .val (.int (16 : Int32)), .val (.int (8 : Int32)), .val (.ref (ee 7))]) (rest := []) w20 d1_31 rfl rfl rfl ?_
                                  refine ggoto (pc' := 9) w20 d1_34 (by decide) rfl ?_
                                  refine giloadN (pc' := 10) (Ls := #[.val (.int a), .val (.ref aC), .val (.int (16 : Int32)), .val (.int (8 : Int32)), .val (.ref (ee 7))]) (rest := []) w20 d1_9 rfl rfl ?_
                                  refine giloadN (pc' := 11) (Ls := #[.val (.int a), .val (.ref aC), .val (.int (16 : Int32)), .val (.int (8 : Int32)), .val (.ref (ee 7))]) (rest := [(.int (8 : Int32))]) w20 d1_10 rfl rfl ?_
                                  refine gicmp (pt := 37) (pf := 14) w20 d1_11  (by decide) rfl rfl (fun (c11_8 : ¬ (8 : Int32) < (16 : Int32)) => ?_) (fun (c11_8 : (8 : Int32) < (16 : Int32)) => ?_)
                                  · exact absurd c11_8 (by decide)
                                  · refine galoadN (pc' := 15) (Ls := #[.val (.int a), .val (.ref aC), .val (.int (16 : Int32)), .val (.int (8 : Int32)), .val (.ref (ee 7))]) (rest := []) w20 d1_14 rfl rfl rfl ?_
                                    refine giloadN (pc' := 16) (Ls := #[.val (.int a), .val (.ref aC), .val (.int (16 : Int32)), .val (.int (8 : Int32)), .val (.ref (ee 7))]) (rest := [(.ref aC)]) w20 d1_15 rfl rfl ?_
                                    refine gaaload (pc' := 17) (v := .ref (ee 8)) w20 d1_16 AC rfl (own_in H.2.2.2.1 (by decide)) (H.2.2.2.2.2.1 (8, 9) (by decide)).1 rfl ?_
                                    refine gastore (pc' := 19) (Ls := #[.val (.int a), .val (.ref aC), .val (.int (16 : Int32)), .val (.int (8 : Int32)), .val (.ref (ee 7))]) (Ls' := #[.val (.int a), .val (.ref aC), .val (.int (16 : Int32)), .val (.int (8 : Int32)), .val (.ref (ee 8))]) (rest := []) w20 d1_17 rfl rfl rfl ?_
                                    refine gaload (pc' := 21) (Ls := #[.val (.int a), .val (.ref aC), .val (.int (16 : Int32)), .val (.int (8 : Int32)), .val (.ref (ee 8))]) (rest := []) w20 d1_19 rfl rfl rfl ?_
                                    refine ggetF (pc' := 24) w20 d1_21 (hw _ (List.mem_of_getElem? (i := 35) rfl)) (H2.2.2.2.2.2.1 (8, 9) (by decide)).2 rfl (fun T23 w22 => ?_)
                                    refine giloadN (pc' := 25) (Ls := #[.val (.int a), .val (.ref aC), .val (.int (16 : Int32)), .val (.int (8 : Int32)), .val (.ref (ee 8))]) (rest := [(.int (9 : Int32))]) w22 d1_24 rfl rfl ?_
                                    refine gicmp (pt := 31) (pf := 28) w22 d1_25  (by decide) rfl rfl (fun (c25_8 : ¬ (9 : Int32) = a) => ?_) (fun (c25_8 : (9 : Int32) = a) => ?_)
                                    · refine giinc (pc' := 34) (Ls := #[.val (.int a), .val (.ref aC), .val (.int (16 : Int32)), .val (.int (8 : Int32)), .val (.ref (ee 8))]) (Ls' := #[.val (.int a), .val (.ref aC), .val (.int (16 : Int32)), .val (.int (9 : Int32)), .val (.ref (ee 8))]) (rest := []) w22 d1_31 rfl rfl rfl ?_
                                      refine ggoto (pc' := 9) w22 d1_34 (by decide) rfl ?_
                                      refine giloadN (pc' := 10) (Ls := #[.val (.int a), .val (.ref aC), .val (.int (16 : Int32)), .val (.int (9 : Int32)), .val (.ref (ee 8))]) (rest := []) w22 d1_9 rfl rfl ?_
                                      refine giloadN (pc' := 11) (Ls := #[.val (.int a), .val (.ref aC), .val (.int (16 : Int32)), .val (.int (9 : Int32)), .val (.ref (ee 8))]) (rest := [(.int (9 : Int32))]) w22 d1_10 rfl rfl ?_
                                      refine gicmp (pt := 37) (pf := 14) w22 d1_11  (by decide) rfl rfl (fun (c11_9 : ¬ (9 : Int32) < (16 : Int32)) => ?_) (fun (c11_9 : (9 : Int32) < (16 : Int32)) => ?_)
                                      · exact absurd c11_9 (by decide)
                                      · refine galoadN (pc' := 15) (Ls := #[.val (.int a), .val (.ref aC), .val (.int (16 : Int32)), .val (.int (9 : Int32)), .val (.ref (ee 8))]) (rest := []) w22 d1_14 rfl rfl rfl ?_
                                        refine giloadN (pc' := 16) (Ls := #[.val (.int a), .val (.ref aC), .val (.int (16 : Int32)), .val (.int (9 : Int32)), .val (.ref (ee 8))]) (rest := [(.ref aC)]) w22 d1_15 rfl rfl ?_
                                        refine gaaload (pc' := 17) (v := .ref (ee 9)) w22 d1_16 AC rfl (own_in H.2.2.2.1 (by decide)) (H.2.2.2.2.2.1 (9, 10) (by decide)).1 rfl ?_
                                        refine gastore (pc' := 19) (Ls := #[.val (.int a), .val (.ref aC), .val (.int (16 : Int32)), .val (.int (9 : Int32)), .val (.ref (ee 8))]) (Ls' := #[.val (.int a), .val (.ref aC), .val (.int (16 : Int32)), .val (.int (9 : Int32)), .val (.ref (ee 9))]) (rest := []) w22 d1_17 rfl rfl rfl ?_
                                        refine gaload (pc' := 21) (Ls := #[.val (.int a), .val (.ref aC), .val (.int (16 : Int32)), .val (.int (9 : Int32)), .val (.ref (ee 9))]) (rest := []) w22 d1_19 rfl rfl rfl ?_
                                        refine ggetF (pc' := 24) w22 d1_21 (hw _ (List.mem_of_getElem? (i := 35) rfl)) (H2.2.2.2.2.2.1 (9, 10) (by decide)).2 rfl (fun T25 w24 => ?_)
                                        refine giloadN (pc' := 25) (Ls := #[.val (.int a), .val (.ref aC), .val (.int (16 : Int32)), .val (.int (9 : Int32)), .val (.ref (ee 9))]) (rest := [(.int (10 : Int32))]) w24 d1_24 rfl rfl ?_
                                        refine gicmp (pt := 31) (pf := 28) w24 d1_25  (by decide) rfl rfl (fun (c25_9 : ¬ (10 : Int32) = a) => ?_) (fun (c25_9 : (10 : Int32) = a) => ?_)
                                        · refine giinc (pc' := 34) (Ls := #[.val (.int a), .val (.ref aC), .val (.int (16 : Int32)), .val (.int (9 : Int32)), .val (.ref (ee 9))]) (Ls' := #[.val (.int a), .val (.ref aC), .val (.int (16 : Int32)), .val (.int (10 : Int32)), .val (.ref (ee 9))]) (rest := []) w24 d1_31 rfl rfl rfl ?_
                                          refine ggoto (pc' := 9) w24 d1_34 (by decide) rfl ?_
                                          refine giloadN (pc' := 10) (Ls := #[.val (.int a), .val (.ref aC), .val (.int (16 : Int32)), .val (.int (10 : Int32)), .val (.ref (ee 9))]) (rest := []) w24 d1_9 rfl rfl ?_
                                          refine giloadN (pc' := 11) (Ls := #[.val (.int a), .val (.ref aC), .val (.int (16 : Int32)), .val (.int (10 : Int32)), .val (.ref (ee 9))]) (rest := [(.int (10 : Int32))]) w24 d1_10 rfl rfl ?_
                                          refine gicmp (pt := 37) (pf := 14) w24 d1_11  (by decide) rfl rfl (fun (c11_10 : ¬ (10 : Int32) < (16 : Int32)) => ?_) (fun (c11_10 : (10 : Int32) < (16 : Int32)) => ?_)
                                          · exact absurd c11_10 (by decide)
                                          · refine galoadN (pc' := 15) (Ls := #[.val (.int a), .val (.ref aC), .val (.int (16 : Int32)), .val (.int (10 : Int32)), .val (.ref (ee 9))]) (rest := []) w24 d1_14 rfl rfl rfl ?_
                                            refine giloadN (pc' := 16) (Ls := #[.val (.int a), .val (.ref aC), .val (.int (16 : Int32)), .val (.int (10 : Int32)), .val (.ref (ee 9))]) (rest := [(.ref aC)]) w24 d1_15 rfl rfl ?_
                                            refine gaaload (pc' := 17) (v := .ref (ee 10)) w24 d1_16 AC rfl (own_in H.2.2.2.1 (by decide)) (H.2.2.2.2.2.1 (10, 11) (by decide)).1 rfl ?_
                                            refine gastore (pc' := 19) (Ls := #[.val (.int a), .val (.ref aC), .val (.int (16 : Int32)), .val (.int (10 : Int32)), .val (.ref (ee 9))]) (Ls' := #[.val (.int a), .val (.ref aC), .val (.int (16 : Int32)), .val (.int (10 : Int32)), .val (.ref (ee 10))]) (rest := []) w24 d1_17 rfl rfl rfl ?_
                                            refine gaload (pc' := 21) (Ls := #[.val (.int a), .val (.ref aC), .val (.int (16 : Int32)), .val (.int (10 : Int32)), .val (.ref (ee 10))]) (rest := []) w24 d1_19 rfl rfl rfl ?_
                                            refine ggetF (pc' := 24) w24 d1_21 (hw _ (List.mem_of_getElem? (i := 35) rfl)) (H2.2.2.2.2.2.1 (10, 11) (by decide)).2 rfl (fun T27 w26 => ?_)
                                            refine giloadN (pc' := 25) (Ls := #[.val (.int a), .val (.ref aC), .val (.int (16 : Int32)), .val (.int (10 : Int32)), .val (.ref (ee 10))]) (rest := [(.int (11 : Int32))]) w26 d1_24 rfl rfl ?_
                                            refine gicmp (pt := 31) (pf := 28) w26 d1_25  (by decide) rfl rfl (fun (c25_10 : ¬ (11 : Int32) = a) => ?_) (fun (c25_10 : (11 : Int32) = a) => ?_)
                                            · refine giinc (pc' := 34) (Ls := #[.val (.int a), .val (.ref aC), .val (.int (16 : Int32)), .val (.int (10 : Int32)), .val (.ref (ee 10))]) (Ls' := #[.val (.int a), .val (.ref aC), .val (.int (16 : Int32)), .val (.int (11 : Int32)), .val (.ref (ee 10))]) (rest := []) w26 d1_31 rfl rfl rfl ?_
                                              refine ggoto (pc' := 9) w26 d1_34 (by decide) rfl ?_
                                              refine giloadN (pc' := 10) (Ls := #[.val (.int a), .val (.ref aC), .val (.int (16 : Int32)), .val (.int (11 : Int32)), .val (.ref (ee 10))]) (rest := []) w26 d1_9 rfl rfl ?_
                                              refine giloadN (pc' := 11) (Ls := #[.val (.int a), .val (.ref aC), .val (.int (16 : Int32)), .val (.int (11 : Int32)), .val (.ref (ee 10))]) (rest := [(.int (11 : Int32))]) w26 d1_10 rfl rfl ?_
                                              refine gicmp (pt := 37) (pf := 14) w26 d1_11  (by decide) rfl rfl (fun (c11_11 : ¬ (11 : Int32) < (16 : Int32)) => ?_) (fun (c11_11 : (11 : Int32) < (16 : Int32)) => ?_)
                                              · exact absurd c11_11 (by decide)
                                              · refine galoadN (pc' := 15) (Ls := #[.val (.int a), .val (.ref aC), .val (.int (16 : Int32)), .val (.int (11 : Int32)), .val (.ref (ee 10))]) (rest := []) w26 d1_14 rfl rfl rfl ?_
                                                refine giloadN (pc' := 16) (Ls := #[.val (.int a), .val (.ref aC), .val (.int (16 : Int32)), .val (.int (11 : Int32)), .val (.ref (ee 10))]) (rest := [(.ref aC)]) w26 d1_15 rfl rfl ?_
                                                refine gaaload (pc' := 17) (v := .ref (ee 11)) w26 d1_16 AC rfl (own_in H.2.2.2.1 (by decide)) (H.2.2.2.2.2.1 (11, 12) (by decide)).1 rfl ?_
                                                refine gastore (pc' := 19) (Ls := #[.val (.int a), .val (.ref aC), .val (.int (16 : Int32)), .val (.int (11 : Int32)), .val (.ref (ee 10))]) (Ls' := #[.val (.int a), .val (.ref aC), .val (.int (16 : Int32)), .val (.int (11 : Int32)), .val (.ref (ee 11))]) (rest := []) w26 d1_17 rfl rfl rfl ?_
                                                refine gaload (pc' := 21) (Ls := #[.val (.int a), .val (.ref aC), .val (.int (16 : Int32)), .val (.int (11 : Int32)), .val (.ref (ee 11))]) (rest := []) w26 d1_19 rfl rfl rfl ?_
                                                refine ggetF (pc' := 24) w26 d1_21 (hw _ (List.mem_of_getElem? (i := 35) rfl)) (H2.2.2.2.2.2.1 (11, 12) (by decide)).2 rfl (fun T29 w28 => ?_)
                                                refine giloadN (pc' := 25) (Ls := #[.val (.int a), .val (.ref aC), .val (.int (16 : Int32)), .val (.int (11 : Int32)), .val (.ref (ee 11))]) (rest := [(.int (12 : Int32))]) w28 d1_24 rfl rfl ?_
                                                refine gicmp (pt := 31) (pf := 28) w28 d1_25  (by decide) rfl rfl (fun (c25_11 : ¬ (12 : Int32) = a) => ?_) (fun (c25_11 : (12 : Int32) = a) => ?_)
                                                · refine giinc (pc' := 34) (Ls := #[.val (.int a), .val (.ref aC), .val (.int (16 : Int32)), .val (.int (11 : Int32)), .val (.ref (ee 11))]) (Ls' := #[.val (.int a), .val (.ref aC), .val (.int (16 : Int32)), .val (.int (12 : Int32)), .val (.ref (ee 11))]) (rest := []) w28 d1_31 rfl rfl rfl ?_
                                                  refine ggoto (pc' := 9) w28 d1_34 (by decide) rfl ?_
                                                  refine giloadN (pc' := 10) (Ls := #[.val (.int a), .val (.ref aC), .val (.int (16 : Int32)), .val (.int (12 : Int32)), .val (.ref (ee 11))]) (rest := []) w28 d1_9 rfl rfl ?_
                                                  refine giloadN (pc' := 11) (Ls := #[.val (.int a), .val (.ref aC), .val (.int (16 : Int32)), .val (.int (12 : Int32)), .val (.ref (ee 11))]) (rest := [(.int (12 : Int32))]) w28 d1_10 rfl rfl ?_
                                                  refine gicmp (pt := 37) (pf := 14) w28 d1_11  (by decide) rfl rfl (fun (c11_12 : ¬ (12 : Int32) < (16 : Int32)) => ?_) (fun (c11_12 : (12 : Int32) < (16 : Int32)) => ?_)
                                                  · exact absurd c11_12 (by decide)
                                                  · refine galoadN (pc' := 15) (Ls := #[.val (.int a), .val (.ref aC), .val (.int (16 : Int32)), .val (.int (12 : Int32)), .val (.ref (ee 11))]) (rest := []) w28 d1_14 rfl rfl rfl ?_
                                                    refine giloadN (pc' := 16) (Ls := #[.val (.int a), .val (.ref aC), .val (.int (16 : Int32)), .val (.int (12 : Int32)), .val (.ref (ee 11))]) (rest := [(.ref aC)]) w28 d1_15 rfl rfl ?_
                                                    refine gaaload (pc' := 17) (v := .ref (ee 12)) w28 d1_16 AC rfl (own_in H.2.2.2.1 (by decide)) (H.2.2.2.2.2.1 (12, 13) (by decide)).1 rfl ?_
                                                    refine gastore (pc' := 19) (Ls := #[.val (.int a), .val (.ref aC), .val (.int (16 : Int32)), .val (.int (12 : Int32)), .val (.ref (ee 11))]) (Ls' := #[.val (.int a), .val (.ref aC), .val (.int (16 : Int32)), .val (.int (12 : Int32)), .val (.ref (ee 12))]) (rest := []) w28 d1_17 rfl rfl rfl ?_
                                                    refine gaload (pc' := 21) (Ls := #[.val (.int a), .val (.ref aC), .val (.int (16 : Int32)), .val (.int (12 : Int32)), .val (.ref (ee 12))]) (rest := []) w28 d1_19 rfl rfl rfl ?_
                                                    refine ggetF (pc' := 24) w28 d1_21 (hw _ (List.mem_of_getElem? (i := 35) rfl)) (H2.2.2.2.2.2.1 (12, 13) (by decide)).2 rfl (fun T31 w30 => ?_)
                                                    refine giloadN (pc' := 25) (Ls := #[.val (.int a), .val (.ref aC), .val (.int (16 : Int32)), .val (.int (12 : Int32)), .val (.ref (ee 12))]) (rest := [(.int (13 : Int32))]) w30 d1_24 rfl rfl ?_
                                                    refine gicmp (pt := 31) (pf := 28) w30 d1_25  (by decide) rfl rfl (fun (c25_12 : ¬ (13 : Int32) = a) => ?_) (fun (c25_12 : (13 : Int32) = a) => ?_)
                                                    · refine giinc (pc' := 34) (Ls := #[.val (.int a), .val (.ref aC), .val (.int (16 : Int32)), .val (.int (12 : Int32)), .val (.ref (ee 12))]) (Ls' := #[.val (.int a), .val (.ref aC), .val (.int (16 : Int32)), .val (.int (13 : Int32)), .val (.ref (ee 12))]) (rest := []) w30 d1_31 rfl rfl rfl ?_
                                                      refine ggoto (pc' := 9) w30 d1_34 (by decide) rfl ?_
                                                      refine giloadN (pc' := 10) (Ls := #[.val (.int a), .val (.ref aC), .val (.int (16 : Int32)), .val (.int (13 : Int32)), .val (.ref (ee 12))]) (rest := []) w30 d1_9 rfl rfl ?_
                                                      refine giloadN (pc' := 11) (Ls := #[.val (.int a), .val (.ref aC), .val (.int (16 : Int32)), .val (.int (13 : Int32)), .val (.ref (ee 12))]) (rest := [(.int (13 : Int32))]) w30 d1_10 rfl rfl ?_
                                                      refine gicmp (pt := 37) (pf := 14) w30 d1_11  (by decide) rfl rfl (fun (c11_13 : ¬ (13 : Int32) < (16 : Int32)) => ?_) (fun (c11_13 : (13 : Int32) < (16 : Int32)) => ?_)
                                                      · exact absurd c11_13 (by decide)
                                                      · refine galoadN (pc' := 15) (Ls := #[.val (.int a), .val (.ref aC), .val (.int (16 : Int32)), .val (.int (13 : Int32)), .val (.ref (ee 12))]) (rest := []) w30 d1_14 rfl rfl rfl ?_
                                                        refine giloadN (pc' := 16) (Ls := #[.val (.int a), .val (.ref aC), .val (.int (16 : Int32)), .val (.int (13 : Int32)), .val (.ref (ee 12))]) (rest := [(.ref aC)]) w30 d1_15 rfl rfl ?_
                                                        refine gaaload (pc' := 17) (v := .ref (ee 13)) w30 d1_16 AC rfl (own_in H.2.2.2.1 (by decide)) (H.2.2.2.2.2.1 (13, 14) (by decide)).1 rfl ?_
                                                        refine gastore (pc' := 19) (Ls := #[.val (.int a), .val (.ref aC), .val (.int (16 : Int32)), .val (.int (13 : Int32)), .val (.ref (ee 12))]) (Ls' := #[.val (.int a), .val (.ref aC), .val (.int (16 : Int32)), .val (.int (13 : Int32)), .val (.ref (ee 13))]) (rest := []) w30 d1_17 rfl rfl rfl ?_
                                                        refine gaload (pc' := 21) (Ls := #[.val (.int a), .val (.ref aC), .val (.int (16 : Int32)), .val (.int (13 : Int32)), .val (.ref (ee 13))]) (rest := []) w30 d1_19 rfl rfl rfl ?_
                                                        refine ggetF (pc' := 24) w30 d1_21 (hw _ (List.mem_of_getElem? (i := 35) rfl)) (H2.2.2.2.2.2.1 (13, 14) (by decide)).2 rfl (fun T33 w32 => ?_)
                                                        refine giloadN (pc' := 25) (Ls := #[.val (.int a), .val (.ref aC), .val (.int (16 : Int32)), .val (.int (13 : Int32)), .val (.ref (ee 13))]) (rest := [(.int (14 : Int32))]) w32 d1_24 rfl rfl ?_
                                                        refine gicmp (pt := 31) (pf := 28) w32 d1_25  (by decide) rfl rfl (fun (c25_13 : ¬ (14 : Int32) = a) => ?_) (fun (c25_13 : (14 : Int32) = a) => ?_)
                                                        · refine giinc (pc' := 34) (Ls := #[.val (.int a), .val (.ref aC), .val (.int (16 : Int32)), .val (.int (13 : Int32)), .val (.ref (ee 13))]) (Ls' := #[.val (.int a), .val (.ref aC), .val (.int (16 : Int32)), .val (.int (14 : Int32)), .val (.ref (ee 13))]) (rest := []) w32 d1_31 rfl rfl rfl ?_
                                                          refine ggoto (pc' := 9) w32 d1_34 (by decide) rfl ?_
                                                          refine giloadN (pc' := 10) (Ls := #[.val (.int a), .val (.ref aC), .val (.int (16 : Int32)), .val (.int (14 : Int32)), .val (.ref (ee 13))]) (rest := []) w32 d1_9 rfl rfl ?_
                                                          refine giloadN (pc' := 11) (Ls := #[.val (.int a), .val (.ref aC), .val (.int (16 : Int32)), .val (.int (14 : Int32)), .val (.ref (ee 13))]) (rest := [(.int (14 : Int32))]) w32 d1_10 rfl rfl ?_
                                                          refine gicmp (pt := 37) (pf := 14) w32 d1_11  (by decide) rfl rfl (fun (c11_14 : ¬ (14 : Int32) < (16 : Int32)) => ?_) (fun (c11_14 : (14 : Int32) < (16 : Int32)) => ?_)
                                                          · exact absurd c11_14 (by decide)
                                                          · refine galoadN (pc' := 15) (Ls := #[.val (.int a), .val (.ref aC), .val (.int (16 : Int32)), .val (.int (14 : Int32)), .val (.ref (ee 13))]) (rest := []) w32 d1_14 rfl rfl rfl ?_
                                                            refine giloadN (pc' := 16) (Ls := #[.val (.int a), .val (.ref aC), .val (.int (16 : Int32)), .val (.int (14 : Int32)), .val (.ref (ee 13))]) (rest := [(.ref aC)]) w32 d1_15 rfl rfl ?_
                                                            refine gaaload (pc' := 17) (v := .ref (ee 14)) w32 d1_16 AC rfl (own_in H.2.2.2.1 (by decide)) (H.2.2.2.2.2.1 (14, 15) (by decide)).1 rfl ?_
                                                            refine gastore (pc' := 19) (Ls := #[.val (.int a), .val (.ref aC), .val (.int (16 : Int32)), .val (.int (14 : Int32)), .val (.ref (ee 13))]) (Ls' := #[.val (.int a), .val (.ref aC), .val (.int (16 : Int32)), .val (.int (14 : Int32)), .val (.ref (ee 14))]) (rest := []) w32 d1_17 rfl rfl rfl ?_
                                                            refine gaload (pc' := 21) (Ls := #[.val (.int a), .val (.ref aC), .val (.int (16 : Int32)), .val (.int (14 : Int32)), .val (.ref (ee 14))]) (rest := []) w32 d1_19 rfl rfl rfl ?_
                                                            refine ggetF (pc' := 24) w32 d1_21 (hw _ (List.mem_of_getElem? (i := 35) rfl)) (H2.2.2.2.2.2.1 (14, 15) (by decide)).2 rfl (fun T35 w34 => ?_)
                                                            refine giloadN (pc' := 25) (Ls := #[.val (.int a), .val (.ref aC), .val (.int (16 : Int32)), .val (.int (14 : Int32)), .val (.ref (ee 14))]) (rest := [(.int (15 : Int32))]) w34 d1_24 rfl rfl ?_
                                                            refine gicmp (pt := 31) (pf := 28) w34 d1_25  (by decide) rfl rfl (fun (c25_14 : ¬ (15 : Int32) = a) => ?_) (fun (c25_14 : (15 : Int32) = a) => ?_)
                                                            · refine giinc (pc' := 34) (Ls := #[.val (.int a), .val (.ref aC), .val (.int (16 : Int32)), .val (.int (14 : Int32)), .val (.ref (ee 14))]) (Ls' := #[.val (.int a), .val (.ref aC), .val (.int (16 : Int32)), .val (.int (15 : Int32)), .val (.ref (ee 14))]) (rest := []) w34 d1_31 rfl rfl rfl ?_
                                                              refine ggoto (pc' := 9) w34 d1_34 (by decide) rfl ?_
                                                              refine giloadN (pc' := 10) (Ls := #[.val (.int a), .val (.ref aC), .val (.int (16 : Int32)), .val (.int (15 : Int32)), .val (.ref (ee 14))]) (rest := []) w34 d1_9 rfl rfl ?_
                                                              refine giloadN (pc' := 11) (Ls := #[.val (.int a), .val (.ref aC), .val (.int (16 : Int32)), .val (.int (15 : Int32)), .val (.ref (ee 14))]) (rest := [(.int (15 : Int32))]) w34 d1_10 rfl rfl ?_
                                                              refine gicmp (pt := 37) (pf := 14) w34 d1_11  (by decide) rfl rfl (fun (c11_15 : ¬ (15 : Int32) < (16 : Int32)) => ?_) (fun (c11_15 : (15 : Int32) < (16 : Int32)) => ?_)
                                                              · exact absurd c11_15 (by decide)
                                                              · refine galoadN (pc' := 15) (Ls := #[.val (.int a), .val (.ref aC), .val (.int (16 : Int32)), .val (.int (15 : Int32)), .val (.ref (ee 14))]) (rest := []) w34 d1_14 rfl rfl rfl ?_
                                                                refine giloadN (pc' := 16) (Ls := #[.val (.int a), .val (.ref aC), .val (.int (16 : Int32)), .val (.int (15 : Int32)), .val (.ref (ee 14))]) (rest := [(.ref aC)]) w34 d1_15 rfl rfl ?_
                                                                refine gaaload (pc' := 17) (v := .ref (ee 15)) w34 d1_16 AC rfl (own_in H.2.2.2.1 (by decide)) (H.2.2.2.2.2.1 (15, 16) (by decide)).1 rfl ?_
                                                                refine gastore (pc' := 19) (Ls := #[.val (.int a), .val (.ref aC), .val (.int (16 : Int32)), .val (.int (15 : Int32)), .val (.ref (ee 14))]) (Ls' := #[.val (.int a), .val (.ref aC), .val (.int (16 : Int32)), .val (.int (15 : Int32)), .val (.ref (ee 15))]) (rest := []) w34 d1_17 rfl rfl rfl ?_
                                                                refine gaload (pc' := 21) (Ls := #[.val (.int a), .val (.ref aC), .val (.int (16 : Int32)), .val (.int (15 : Int32)), .val (.ref (ee 15))]) (rest := []) w34 d1_19 rfl rfl rfl ?_
                                                                refine ggetF (pc' := 24) w34 d1_21 (hw _ (List.mem_of_getElem? (i := 35) rfl)) (H2.2.2.2.2.2.1 (15, 16) (by decide)).2 rfl (fun T37 w36 => ?_)
                                                                refine giloadN (pc' := 25) (Ls := #[.val (.int a), .val (.ref aC), .val (.int (16 : Int32)), .val (.int (15 : Int32)), .val (.ref (ee 15))]) (rest := [(.int (16 : Int32))]) w36 d1_24 rfl rfl ?_
                                                                refine gicmp (pt := 31) (pf := 28) w36 d1_25  (by decide) rfl rfl (fun (c25_15 : ¬ (16 : Int32) = a) => ?_) (fun (c25_15 : (16 : Int32) = a) => ?_)
                                                                · refine giinc (pc' := 34) (Ls := #[.val (.int a), .val (.ref aC), .val (.int (16 : Int32)), .val (.int (15 : Int32)), .val (.ref (ee 15))]) (Ls' := #[.val (.int a), .val (.ref aC), .val (.int (16 : Int32)), .val (.int (16 : Int32)), .val (.ref (ee 15))]) (rest := []) w36 d1_31 rfl rfl rfl ?_
                                                                  refine ggoto (pc' := 9) w36 d1_34 (by decide) rfl ?_
                                                                  refine giloadN (pc' := 10) (Ls := #[.val (.int a), .val (.ref aC), .val (.int (16 : Int32)), .val (.int (16 : Int32)), .val (.ref (ee 15))]) (rest := []) w36 d1_9 rfl rfl ?_
                                                                  refine giloadN (pc' := 11) (Ls := #[.val (.int a), .val (.ref aC), .val (.int (16 : Int32)), .val (.int (16 : Int32)), .val (.ref (ee 15))]) (rest := [(.int (16 : Int32))]) w36 d1_10 rfl rfl ?_
                                                                  refine gicmp (pt := 37) (pf := 14) w36 d1_11  (by decide) rfl rfl (fun (c11_16 : ¬ (16 : Int32) < (16 : Int32)) => ?_) (fun (c11_16 : (16 : Int32) < (16 : Int32)) => ?_)
                                                                  · refine gnull (pc' := 38) w36 d1_37 rfl ?_
                                                                    exact gretA w36 d1_38 rfl rfl rfl (by decide) (by decide) ⟨by unfold own_of; rw [if_neg c25, if_neg c25_1, if_neg c25_2, if_neg c25_3, if_neg c25_4, if_neg c25_5, if_neg c25_6, if_neg c25_7, if_neg c25_8, if_neg c25_9, if_neg c25_10, if_neg c25_11, if_neg c25_12, if_neg c25_13, if_neg c25_14, if_neg c25_15], Ex⟩
                                                                  · exact absurd c11_16 (by decide)
                                                                · refine gaload (pc' := 30) (Ls := #[.val (.int a), .val (.ref aC), .val (.int (16 : Int32)), .val (.int (15 : Int32)), .val (.ref (ee 15))]) (rest := []) w36 d1_28 rfl rfl rfl ?_
                                                                  exact gretA w36 d1_30 rfl rfl rfl (by decide) (by decide) ⟨by unfold own_of; rw [if_neg c25, if_neg c25_1, if_neg c25_2, if_neg c25_3, if_neg c25_4, if_neg c25_5, if_neg c25_6, if_neg c25_7, if_neg c25_8, if_neg c25_9, if_neg c25_10, if_neg c25_11, if_neg c25_12, if_neg c25_13, if_neg c25_14, if_pos c25_15], Ex⟩
                                                            · refine gaload (pc' := 30) (Ls := #[.val (.int a), .val (.ref aC), .val (.int (16 : Int32)), .val (.int (14 : Int32)), .val (.ref (ee 14))]) (rest := []) w34 d1_28 rfl rfl rfl ?_
                                                              exact gretA w34 d1_30 rfl rfl rfl (by decide) (by decide) ⟨by unfold own_of; rw [if_neg c25, if_neg c25_1, if_neg c25_2, if_neg c25_3, if_neg c25_4, if_neg c25_5, if_neg c25_6, if_neg c25_7, if_neg c25_8, if_neg c25_9, if_neg c25_10, if_neg c25_11, if_neg c25_12, if_neg c25_13, if_pos c25_14], Ex⟩
                                                        · refine gaload (pc' := 30) (Ls := #[.val (.int a), .val (.ref aC), .val (.int (16 : Int32)), .val (.int (13 : Int32)), .val (.ref (ee 13))]) (rest := []) w32 d1_28 rfl rfl rfl ?_
                                                          exact gretA w32 d1_30 rfl rfl rfl (by decide) (by decide) ⟨by unfold own_of; rw [if_neg c25, if_neg c25_1, if_neg c25_2, if_neg c25_3, if_neg c25_4, if_neg c25_5, if_neg c25_6, if_neg c25_7, if_neg c25_8, if_neg c25_9, if_neg c25_10, if_neg c25_11, if_neg c25_12, if_pos c25_13], Ex⟩
                                                    · refine gaload (pc' := 30) (Ls := #[.val (.int a), .val (.ref aC), .val (.int (16 : Int32)), .val (.int (12 : Int32)), .val (.ref (ee 12))]) (rest := []) w30 d1_28 rfl rfl rfl ?_
                                                      exact gretA w30 d1_30 rfl rfl rfl (by decide) (by decide) ⟨by unfold own_of; rw [if_neg c25, if_neg c25_1, if_neg c25_2, if_neg c25_3, if_neg c25_4, if_neg c25_5, if_neg c25_6, if_neg c25_7, if_neg c25_8, if_neg c25_9, if_neg c25_10, if_neg c25_11, if_pos c25_12], Ex⟩
                                                · refine gaload (pc' := 30) (Ls := #[.val (.int a), .val (.ref aC), .val (.int (16 : Int32)), .val (.int (11 : Int32)), .val (.ref (ee 11))]) (rest := []) w28 d1_28 rfl rfl rfl ?_
                                                  exact gretA w28 d1_30 rfl rfl rfl (by decide) (by decide) ⟨by unfold own_of; rw [if_neg c25, if_neg c25_1, if_neg c25_2, if_neg c25_3, if_neg c25_4, if_neg c25_5, if_neg c25_6, if_neg c25_7, if_neg c25_8, if_neg c25_9, if_neg c25_10, if_pos c25_11], Ex⟩
                                            · refine gaload (pc' := 30) (Ls := #[.val (.int a), .val (.ref aC), .val (.int (16 : Int32)), .val (.int (10 : Int32)), .val (.ref (ee 10))]) (rest := []) w26 d1_28 rfl rfl rfl ?_
                                              exact gretA w26 d1_30 rfl rfl rfl (by decide) (by decide) ⟨by unfold own_of; rw [if_neg c25, if_neg c25_1, if_neg c25_2, if_neg c25_3, if_neg c25_4, if_neg c25_5, if_neg c25_6, if_neg c25_7, if_neg c25_8, if_neg c25_9, if_pos c25_10], Ex⟩
                                        · refine gaload (pc' := 30) (Ls := #[.val (.int a), .val (.ref aC), .val (.int (16 : Int32)), .val (.int (9 : Int32)), .val (.ref (ee 9))]) (rest := []) w24 d1_28 rfl rfl rfl ?_
                                          exact gretA w24 d1_30 rfl rfl rfl (by decide) (by decide) ⟨by unfold own_of; rw [if_neg c25, if_neg c25_1, if_neg c25_2, if_neg c25_3, if_neg c25_4, if_neg c25_5, if_neg c25_6, if_neg c25_7, if_neg c25_8, if_pos c25_9], Ex⟩
                                    · refine gaload (pc' := 30) (Ls := #[.val (.int a), .val (.ref aC), .val (.int (16 : Int32)), .val (.int (8 : Int32)), .val (.ref (ee 8))]) (rest := []) w22 d1_28 rfl rfl rfl ?_
                                      exact gretA w22 d1_30 rfl rfl rfl (by decide) (by decide) ⟨by unfold own_of; rw [if_neg c25, if_neg c25_1, if_neg c25_2, if_neg c25_3, if_neg c25_4, if_neg c25_5, if_neg c25_6, if_neg c25_7, if_pos c25_8], Ex⟩
                                · refine gaload (pc' := 30) (Ls := #[.val (.int a), .val (.ref aC), .val (.int (16 : Int32)), .val (.int (7 : Int32)), .val (.ref (ee 7))]) (rest := []) w20 d1_28 rfl rfl rfl ?_
                                  exact gretA w20 d1_30 rfl rfl rfl (by decide) (by decide) ⟨by unfold own_of; rw [if_neg c25, if_neg c25_1, if_neg c25_2, if_neg c25_3, if_neg c25_4, if_neg c25_5, if_neg c25_6, if_pos c25_7], Ex⟩
                            · refine gaload (pc' := 30) (Ls := #[.val (.int a), .val (.ref aC), .val (.int (16 : Int32)), .val (.int (6 : Int32)), .val (.ref (ee 6))]) (rest := []) w18 d1_28 rfl rfl rfl ?_
                              exact gretA w18 d1_30 rfl rfl rfl (by decide) (by decide) ⟨by unfold own_of; rw [if_neg c25, if_neg c25_1, if_neg c25_2, if_neg c25_3, if_neg c25_4, if_neg c25_5, if_pos c25_6], Ex⟩
                        · refine gaload (pc' := 30) (Ls := #[.val (.int a), .val (.ref aC), .val (.int (16 : Int32)), .val (.int (5 : Int32)), .val (.ref (ee 5))]) (rest := []) w16 d1_28 rfl rfl rfl ?_
                          exact gretA w16 d1_30 rfl rfl rfl (by decide) (by decide) ⟨by unfold own_of; rw [if_neg c25, if_neg c25_1, if_neg c25_2, if_neg c25_3, if_neg c25_4, if_pos c25_5], Ex⟩
                    · refine gaload (pc' := 30) (Ls := #[.val (.int a), .val (.ref aC), .val (.int (16 : Int32)), .val (.int (4 : Int32)), .val (.ref (ee 4))]) (rest := []) w14 d1_28 rfl rfl rfl ?_
                      exact gretA w14 d1_30 rfl rfl rfl (by decide) (by decide) ⟨by unfold own_of; rw [if_neg c25, if_neg c25_1, if_neg c25_2, if_neg c25_3, if_pos c25_4], Ex⟩
                · refine gaload (pc' := 30) (Ls := #[.val (.int a), .val (.ref aC), .val (.int (16 : Int32)), .val (.int (3 : Int32)), .val (.ref (ee 3))]) (rest := []) w12 d1_28 rfl rfl rfl ?_
                  exact gretA w12 d1_30 rfl rfl rfl (by decide) (by decide) ⟨by unfold own_of; rw [if_neg c25, if_neg c25_1, if_neg c25_2, if_pos c25_3], Ex⟩
            · refine gaload (pc' := 30) (Ls := #[.val (.int a), .val (.ref aC), .val (.int (16 : Int32)), .val (.int (2 : Int32)), .val (.ref (ee 2))]) (rest := []) w10 d1_28 rfl rfl rfl ?_
              exact gretA w10 d1_30 rfl rfl rfl (by decide) (by decide) ⟨by unfold own_of; rw [if_neg c25, if_neg c25_1, if_pos c25_2], Ex⟩
        · refine gaload (pc' := 30) (Ls := #[.val (.int a), .val (.ref aC), .val (.int (16 : Int32)), .val (.int (1 : Int32)), .val (.ref (ee 1))]) (rest := []) w8 d1_28 rfl rfl rfl ?_
          exact gretA w8 d1_30 rfl rfl rfl (by decide) (by decide) ⟨by unfold own_of; rw [if_neg c25, if_pos c25_1], Ex⟩
    · refine gaload (pc' := 30) (Ls := #[.val (.int a), .val (.ref aC), .val (.int (16 : Int32)), .val (.int (0 : Int32)), .val (.ref (ee 0))]) (rest := []) w6 d1_28 rfl rfl rfl ?_
      exact gretA w6 d1_30 rfl rfl rfl (by decide) (by decide) ⟨by unfold own_of; rw [if_pos c25], Ex⟩
set_option maxRecDepth 65536 in
set_option maxHeartbeats 4000000 in
theorem own_ce (hw : ∀ d ∈ tables_1, d.before a0 Z = true) (a : Int32) (aV : Addr) (cl : Cell) (ee : Nat → Addr) (H : own_H Z h aV cl ee) :
    Ctr l (⟨"com/example/atlanta/atlanta/server/OpcodeOfPinLaw", "expected", "(I)Lcom/example/atlanta/atlanta/server/Opcode;"⟩ : MethodName) method_3_code 1 (some (.object "com/example/atlanta/atlanta/server/Opcode")) ({ frames := 0, cells := 0, slots := 0, locals := 0 } : Room) Z #[(.int a)] h n0 (fun v h' => v = some (own_of ee a) ∧ h' = h) [] := by
  refine metGo (Ls := #[.val (.int a)]) pn_d3 (fun m => by first | rfl | (simp [entryFrame, mkF, argsToLocals, Value.category]; done) | (simp [entryFrame, mkF, argsToLocals, Value.category, maxLocals]; done)) ?_
  intro p e s m below meth c T w
  refine giloadN (pc' := 1) (Ls := #[.val (.int a)]) (rest := []) w d3_0 rfl rfl ?_
  refine gif (pt := 8) (pf := 4) w d3_1  (by decide) rfl rfl (fun (c1 : ¬ a = (0 : Int32)) => ?_) (fun (c1 : a = (0 : Int32)) => ?_)
  · refine giloadN (pc' := 9) (Ls := #[.val (.int a)]) (rest := []) w d3_8 rfl rfl ?_
    refine giconst (v := (1 : Int32)) (pc' := 10) w d3_9 rfl rfl ?_
    refine gicmp (pt := 17) (pf := 13) w d3_10  (by decide) rfl rfl (fun (c10 : ¬ a = (1 : Int32)) => ?_) (fun (c10 : a = (1 : Int32)) => ?_)
    · refine giloadN (pc' := 18) (Ls := #[.val (.int a)]) (rest := []) w d3_17 rfl rfl ?_
      refine giconst (v := (2 : Int32)) (pc' := 19) w d3_18 rfl rfl ?_
      refine gicmp (pt := 26) (pf := 22) w d3_19  (by decide) rfl rfl (fun (c19 : ¬ a = (2 : Int32)) => ?_) (fun (c19 : a = (2 : Int32)) => ?_)
      · refine giloadN (pc' := 27) (Ls := #[.val (.int a)]) (rest := []) w d3_26 rfl rfl ?_
        refine giconst (v := (3 : Int32)) (pc' := 28) w d3_27 rfl rfl ?_
        refine gicmp (pt := 35) (pf := 31) w d3_28  (by decide) rfl rfl (fun (c28 : ¬ a = (3 : Int32)) => ?_) (fun (c28 : a = (3 : Int32)) => ?_)
        · refine giloadN (pc' := 36) (Ls := #[.val (.int a)]) (rest := []) w d3_35 rfl rfl ?_
          refine giconst (v := (5 : Int32)) (pc' := 37) w d3_36 rfl rfl ?_
          refine gicmp (pt := 44) (pf := 40) w d3_37  (by decide) rfl rfl (fun (c37 : ¬ a = (5 : Int32)) => ?_) (fun (c37 : a = (5 : Int32)) => ?_)
          · refine giloadN (pc' := 45) (Ls := #[.val (.int a)]) (rest := []) w d3_44 rfl rfl ?_
            refine gbipush (v := (6 : Int32)) (pc' := 47) w d3_45 rfl rfl ?_
            refine gicmp (pt := 54) (pf := 50) w d3_47  (by decide) rfl rfl (fun (c47 : ¬ a = (6 : Int32)) => ?_) (fun (c47 : a = (6 : Int32)) => ?_)
            · refine giloadN (pc' := 55) (Ls := #[.val (.int a)]) (rest := []) w d3_54 rfl rfl ?_
              refine gbipush (v := (7 : Int32)) (pc' := 57) w d3_55 rfl rfl ?_
              refine gicmp (pt := 64) (pf := 60) w d3_57  (by decide) rfl rfl (fun (c57 : ¬ a = (7 : Int32)) => ?_) (fun (c57 : a = (7 : Int32)) => ?_)
              · refine giloadN (pc' := 65) (Ls := #[.val (.int a)]) (rest := []) w d3_64 rfl rfl ?_
                refine gbipush (v := (8 : Int32)) (pc' := 67) w d3_65 rfl rfl ?_
                refine gicmp (pt := 74) (pf := 70) w d3_67  (by decide) rfl rfl (fun (c67 : ¬ a = (8 : Int32)) => ?_) (fun (c67 : a = (8 : Int32)) => ?_)
                · refine giloadN (pc' := 75) (Ls := #[.val (.int a)]) (rest := []) w d3_74 rfl rfl ?_
                  refine gbipush (v := (9 : Int32)) (pc' := 77) w d3_75 rfl rfl ?_
                  refine gicmp (pt := 84) (pf := 80) w d3_77  (by decide) rfl rfl (fun (c77 : ¬ a = (9 : Int32)) => ?_) (fun (c77 : a = (9 : Int32)) => ?_)
                  · refine giloadN (pc' := 85) (Ls := #[.val (.int a)]) (rest := []) w d3_84 rfl rfl ?_
                    refine gbipush (v := (10 : Int32)) (pc' := 87) w d3_85 rfl rfl ?_
                    refine gicmp (pt := 94) (pf := 90) w d3_87  (by decide) rfl rfl (fun (c87 : ¬ a = (10 : Int32)) => ?_) (fun (c87 : a = (10 : Int32)) => ?_)
                    · refine giloadN (pc' := 95) (Ls := #[.val (.int a)]) (rest := []) w d3_94 rfl rfl ?_
                      refine gbipush (v := (11 : Int32)) (pc' := 97) w d3_95 rfl rfl ?_
                      refine gicmp (pt := 104) (pf := 100) w d3_97  (by decide) rfl rfl (fun (c97 : ¬ a = (11 : Int32)) => ?_) (fun (c97 : a = (11 : Int32)) => ?_)
                      · refine giloadN (pc' := 105) (Ls := #[.val (.int a)]) (rest := []) w d3_104 rfl rfl ?_
                        refine gbipush (v := (12 : Int32)) (pc' := 107) w d3_105 rfl rfl ?_
                        refine gicmp (pt := 114) (pf := 110) w d3_107  (by decide) rfl rfl (fun (c107 : ¬ a = (12 : Int32)) => ?_) (fun (c107 : a = (12 : Int32)) => ?_)
                        · refine giloadN (pc' := 115) (Ls := #[.val (.int a)]) (rest := []) w d3_114 rfl rfl ?_
                          refine gbipush (v := (13 : Int32)) (pc' := 117) w d3_115 rfl rfl ?_
                          refine gicmp (pt := 124) (pf := 120) w d3_117  (by decide) rfl rfl (fun (c117 : ¬ a = (13 : Int32)) => ?_) (fun (c117 : a = (13 : Int32)) => ?_)
                          · refine giloadN (pc' := 125) (Ls := #[.val (.int a)]) (rest := []) w d3_124 rfl rfl ?_
                            refine gbipush (v := (14 : Int32)) (pc' := 127) w d3_125 rfl rfl ?_
                            refine gicmp (pt := 134) (pf := 130) w d3_127  (by decide) rfl rfl (fun (c127 : ¬ a = (14 : Int32)) => ?_) (fun (c127 : a = (14 : Int32)) => ?_)
                            · refine giloadN (pc' := 135) (Ls := #[.val (.int a)]) (rest := []) w d3_134 rfl rfl ?_
                              refine gbipush (v := (15 : Int32)) (pc' := 137) w d3_135 rfl rfl ?_
                              refine gicmp (pt := 144) (pf := 140) w d3_137  (by decide) rfl rfl (fun (c137 : ¬ a = (15 : Int32)) => ?_) (fun (c137 : a = (15 : Int32)) => ?_)
                              · refine giloadN (pc' := 145) (Ls := #[.val (.int a)]) (rest := []) w d3_144 rfl rfl ?_
                                refine gbipush (v := (16 : Int32)) (pc' := 147) w d3_145 rfl rfl ?_
                                refine gicmp (pt := 154) (pf := 150) w d3_147  (by decide) rfl rfl (fun (c147 : ¬ a = (16 : Int32)) => ?_) (fun (c147 : a = (16 : Int32)) => ?_)
                                · refine gnull (pc' := 155) w d3_154 rfl ?_
                                  exact gretA w d3_155 rfl rfl rfl (by decide) (by decide) ⟨by unfold own_of; rw [if_neg (Ne.symm c1), if_neg (Ne.symm c10), if_neg (Ne.symm c19), if_neg (Ne.symm c28), if_neg (Ne.symm c37), if_neg (Ne.symm c47), if_neg (Ne.symm c57), if_neg (Ne.symm c67), if_neg (Ne.symm c77), if_neg (Ne.symm c87), if_neg (Ne.symm c97), if_neg (Ne.symm c107), if_neg (Ne.symm c117), if_neg (Ne.symm c127), if_neg (Ne.symm c137), if_neg (Ne.symm c147)], rfl⟩
                                · refine ggetS (pc' := 153) w d3_150 (hw _ (List.mem_of_getElem? (i := 51) rfl)) (H.2.2.2.2.2.2 (15, "AUTH_SUCCESS") (by decide)) rfl (fun T39 w38 => ?_)
                                  exact gretA w38 d3_153 rfl rfl rfl (by decide) (by decide) ⟨by unfold own_of; rw [if_neg (Ne.symm c1), if_neg (Ne.symm c10), if_neg (Ne.symm c19), if_neg (Ne.symm c28), if_neg (Ne.symm c37), if_neg (Ne.symm c47), if_neg (Ne.symm c57), if_neg (Ne.symm c67), if_neg (Ne.symm c77), if_neg (Ne.symm c87), if_neg (Ne.symm c97), if_neg (Ne.symm c107), if_neg (Ne.symm c117), if_neg (Ne.symm c127), if_neg (Ne.symm c137), if_pos (Eq.symm c147)], rfl⟩
                              · refine ggetS (pc' := 143) w d3_140 (hw _ (List.mem_of_getElem? (i := 44) rfl)) (H.2.2.2.2.2.2 (14, "AUTH_RESPONSE") (by decide)) rfl (fun T41 w40 => ?_)
                                exact gretA w40 d3_143 rfl rfl rfl (by decide) (by decide) ⟨by unfold own_of; rw [if_neg (Ne.symm c1), if_neg (Ne.symm c10), if_neg (Ne.symm c19), if_neg (Ne.symm c28), if_neg (Ne.symm c37), if_neg (Ne.symm c47), if_neg (Ne.symm c57), if_neg (Ne.symm c67), if_neg (Ne.symm c77), if_neg (Ne.symm c87), if_neg (Ne.symm c97), if_neg (Ne.symm c107), if_neg (Ne.symm c117), if_neg (Ne.symm c127), if_pos (Eq.symm c137)], rfl⟩
                            · refine ggetS (pc' := 133) w d3_130 (hw _ (List.mem_of_getElem? (i := 43) rfl)) (H.2.2.2.2.2.2 (13, "AUTH_CHALLENGE") (by decide)) rfl (fun T43 w42 => ?_)
                              exact gretA w42 d3_133 rfl rfl rfl (by decide) (by decide) ⟨by unfold own_of; rw [if_neg (Ne.symm c1), if_neg (Ne.symm c10), if_neg (Ne.symm c19), if_neg (Ne.symm c28), if_neg (Ne.symm c37), if_neg (Ne.symm c47), if_neg (Ne.symm c57), if_neg (Ne.symm c67), if_neg (Ne.symm c77), if_neg (Ne.symm c87), if_neg (Ne.symm c97), if_neg (Ne.symm c107), if_neg (Ne.symm c117), if_pos (Eq.symm c127)], rfl⟩
                          · refine ggetS (pc' := 123) w d3_120 (hw _ (List.mem_of_getElem? (i := 55) rfl)) (H.2.2.2.2.2.2 (12, "BATCH") (by decide)) rfl (fun T45 w44 => ?_)
                            exact gretA w44 d3_123 rfl rfl rfl (by decide) (by decide) ⟨by unfold own_of; rw [if_neg (Ne.symm c1), if_neg (Ne.symm c10), if_neg (Ne.symm c19), if_neg (Ne.symm c28), if_neg (Ne.symm c37), if_neg (Ne.symm c47), if_neg (Ne.symm c57), if_neg (Ne.symm c67), if_neg (Ne.symm c77), if_neg (Ne.symm c87), if_neg (Ne.symm c97), if_neg (Ne.symm c107), if_pos (Eq.symm c117)], rfl⟩
                        · refine ggetS (pc' := 113) w d3_110 (hw _ (List.mem_of_getElem? (i := 52) rfl)) (H.2.2.2.2.2.2 (11, "EVENT") (by decide)) rfl (fun T47 w46 => ?_)
                          exact gretA w46 d3_113 rfl rfl rfl (by decide) (by decide) ⟨by unfold own_of; rw [if_neg (Ne.symm c1), if_neg (Ne.symm c10), if_neg (Ne.symm c19), if_neg (Ne.symm c28), if_neg (Ne.symm c37), if_neg (Ne.symm c47), if_neg (Ne.symm c57), if_neg (Ne.symm c67), if_neg (Ne.symm c77), if_neg (Ne.symm c87), if_neg (Ne.symm c97), if_pos (Eq.symm c107)], rfl⟩
                      · refine ggetS (pc' := 103) w d3_100 (hw _ (List.mem_of_getElem? (i := 48) rfl)) (H.2.2.2.2.2.2 (10, "REGISTER") (by decide)) rfl (fun T49 w48 => ?_)
                        exact gretA w48 d3_103 rfl rfl rfl (by decide) (by decide) ⟨by unfold own_of; rw [if_neg (Ne.symm c1), if_neg (Ne.symm c10), if_neg (Ne.symm c19), if_neg (Ne.symm c28), if_neg (Ne.symm c37), if_neg (Ne.symm c47), if_neg (Ne.symm c57), if_neg (Ne.symm c67), if_neg (Ne.symm c77), if_neg (Ne.symm c87), if_pos (Eq.symm c97)], rfl⟩
                    · refine ggetS (pc' := 93) w d3_90 (hw _ (List.mem_of_getElem? (i := 45) rfl)) (H.2.2.2.2.2.2 (9, "EXECUTE") (by decide)) rfl (fun T51 w50 => ?_)
                      exact gretA w50 d3_93 rfl rfl rfl (by decide) (by decide) ⟨by unfold own_of; rw [if_neg (Ne.symm c1), if_neg (Ne.symm c10), if_neg (Ne.symm c19), if_neg (Ne.symm c28), if_neg (Ne.symm c37), if_neg (Ne.symm c47), if_neg (Ne.symm c57), if_neg (Ne.symm c67), if_neg (Ne.symm c77), if_pos (Eq.symm c87)], rfl⟩
                  · refine ggetS (pc' := 83) w d3_80 (hw _ (List.mem_of_getElem? (i := 54) rfl)) (H.2.2.2.2.2.2 (8, "PREPARE") (by decide)) rfl (fun T53 w52 => ?_)
                    exact gretA w52 d3_83 rfl rfl rfl (by decide) (by decide) ⟨by unfold own_of; rw [if_neg (Ne.symm c1), if_neg (Ne.symm c10), if_neg (Ne.symm c19), if_neg (Ne.symm c28), if_neg (Ne.symm c37), if_neg (Ne.symm c47), if_neg (Ne.symm c57), if_neg (Ne.symm c67), if_pos (Eq.symm c77)], rfl⟩
                · refine ggetS (pc' := 73) w d3_70 (hw _ (List.mem_of_getElem? (i := 49) rfl)) (H.2.2.2.2.2.2 (7, "RESULT") (by decide)) rfl (fun T55 w54 => ?_)
                  exact gretA w54 d3_73 rfl rfl rfl (by decide) (by decide) ⟨by unfold own_of; rw [if_neg (Ne.symm c1), if_neg (Ne.symm c10), if_neg (Ne.symm c19), if_neg (Ne.symm c28), if_neg (Ne.symm c37), if_neg (Ne.symm c47), if_neg (Ne.symm c57), if_pos (Eq.symm c67)], rfl⟩
              · refine ggetS (pc' := 63) w d3_60 (hw _ (List.mem_of_getElem? (i := 46) rfl)) (H.2.2.2.2.2.2 (6, "QUERY") (by decide)) rfl (fun T57 w56 => ?_)
                exact gretA w56 d3_63 rfl rfl rfl (by decide) (by decide) ⟨by unfold own_of; rw [if_neg (Ne.symm c1), if_neg (Ne.symm c10), if_neg (Ne.symm c19), if_neg (Ne.symm c28), if_neg (Ne.symm c37), if_neg (Ne.symm c47), if_pos (Eq.symm c57)], rfl⟩
            · refine ggetS (pc' := 53) w d3_50 (hw _ (List.mem_of_getElem? (i := 53) rfl)) (H.2.2.2.2.2.2 (5, "SUPPORTED") (by decide)) rfl (fun T59 w58 => ?_)
              exact gretA w58 d3_53 rfl rfl rfl (by decide) (by decide) ⟨by unfold own_of; rw [if_neg (Ne.symm c1), if_neg (Ne.symm c10), if_neg (Ne.symm c19), if_neg (Ne.symm c28), if_neg (Ne.symm c37), if_pos (Eq.symm c47)], rfl⟩
          · refine ggetS (pc' := 43) w d3_40 (hw _ (List.mem_of_getElem? (i := 56) rfl)) (H.2.2.2.2.2.2 (4, "OPTIONS") (by decide)) rfl (fun T61 w60 => ?_)
            exact gretA w60 d3_43 rfl rfl rfl (by decide) (by decide) ⟨by unfold own_of; rw [if_neg (Ne.symm c1), if_neg (Ne.symm c10), if_neg (Ne.symm c19), if_neg (Ne.symm c28), if_pos (Eq.symm c37)], rfl⟩
        · refine ggetS (pc' := 34) w d3_31 (hw _ (List.mem_of_getElem? (i := 42) rfl)) (H.2.2.2.2.2.2 (3, "AUTHENTICATE") (by decide)) rfl (fun T63 w62 => ?_)
          exact gretA w62 d3_34 rfl rfl rfl (by decide) (by decide) ⟨by unfold own_of; rw [if_neg (Ne.symm c1), if_neg (Ne.symm c10), if_neg (Ne.symm c19), if_pos (Eq.symm c28)], rfl⟩
      · refine ggetS (pc' := 25) w d3_22 (hw _ (List.mem_of_getElem? (i := 47) rfl)) (H.2.2.2.2.2.2 (2, "READY") (by decide)) rfl (fun T65 w64 => ?_)
        exact gretA w64 d3_25 rfl rfl rfl (by decide) (by decide) ⟨by unfold own_of; rw [if_neg (Ne.symm c1), if_neg (Ne.symm c10), if_pos (Eq.symm c19)], rfl⟩
    · refine ggetS (pc' := 16) w d3_13 (hw _ (List.mem_of_getElem? (i := 50) rfl)) (H.2.2.2.2.2.2 (1, "STARTUP") (by decide)) rfl (fun T67 w66 => ?_)
      exact gretA w66 d3_16 rfl rfl rfl (by decide) (by decide) ⟨by unfold own_of; rw [if_neg (Ne.symm c1), if_pos (Eq.symm c10)], rfl⟩
  · refine ggetS (pc' := 7) w d3_4 (hw _ (List.mem_of_getElem? (i := 41) rfl)) (H.2.2.2.2.2.2 (0, "ERROR") (by decide)) rfl (fun T69 w68 => ?_)
    exact gretA w68 d3_7 rfl rfl rfl (by decide) (by decide) ⟨by unfold own_of; rw [if_pos (Eq.symm c1)], rfl⟩
set_option maxRecDepth 65536 in
set_option maxHeartbeats 4000000 in
theorem own_law (hw : ∀ d ∈ tables_1, d.before a0 Z = true) (a : Int32) (aV : Addr) (cl : Cell) (ee : Nat → Addr) (H : own_H Z h aV cl ee) :
    Ctr l x code maxLocals ret room_1 Z #[(.int a)] h n0 (fun v _ => v = some (.int 1)) tables_1 := by
  refine metGo (Ls := #[.val (.int a), .unset]) pn_at (fun m => by first | rfl | (simp [entryFrame, mkF, argsToLocals, Value.category]; done) | (simp [entryFrame, mkF, argsToLocals, Value.category, maxLocals]; done)) ?_
  intro p e s m below meth c T w
  refine giloadN (pc' := 1) (Ls := #[.val (.int a), .unset]) (rest := []) w at_0 rfl rfl ?_
  refine gbipush (v := (31 : Int32)) (pc' := 3) w at_1 rfl rfl ?_
  refine giand (pc' := 4) w at_3 rfl ?_
  refine gistoreN (pc' := 5) (Ls := #[.val (.int a), .unset]) (Ls' := #[.val (.int a), .val (.int (a &&& (31 : Int32)))]) (rest := []) w at_4 rfl rfl ?_
  refine giloadN (pc' := 6) (Ls := #[.val (.int a), .val (.int (a &&& (31 : Int32)))]) (rest := []) w at_5 rfl rfl ?_
  refine gcallS (pc' := 9) (argsL := [(.int a)]) (rest := []) (Wt := 0) w at_6 (hw _ (List.mem_of_getElem? (i := 0) rfl)) (hw _ (List.mem_of_getElem? (i := 1) rfl)) (hw _ (List.mem_of_getElem? (i := 2) rfl)) (hw _ (List.mem_of_getElem? (i := 3) rfl)) (by decide) pd_d1 (own_co hw a aV cl ee H) rfl rfl rfl rfl (Nat.le_of_eq rfl) (by decide) (by decide) (by decide) (by decide) rfl (fun v72 T73 h74 w75 q76 => ?_)
  obtain ⟨rfl, Ex71⟩ := q76
  show Go _ _ _ _ _ _ _ _ _ (mkF m 9 #[.val (.int a), .val (.int (a &&& (31 : Int32)))] [(own_of ee a)])
  have H70 := own_ext H Ex71
  refine giloadN (pc' := 10) (Ls := #[.val (.int a), .val (.int (a &&& (31 : Int32)))]) (rest := [(own_of ee a)]) w75 at_9 rfl rfl ?_
  refine gcallS (pc' := 13) (argsL := [(.int a)]) (rest := [(own_of ee a)]) (Wt := 1) w75 at_10 (hw _ (List.mem_of_getElem? (i := 37) rfl)) (hw _ (List.mem_of_getElem? (i := 38) rfl)) (hw _ (List.mem_of_getElem? (i := 39) rfl)) (hw _ (List.mem_of_getElem? (i := 40) rfl)) (by decide) pd_d3 (own_ce hw a aV cl ee H70) rfl rfl rfl rfl (Nat.le_of_eq (show (List.map (fun v => v.category) [(own_of ee a)]).sum = 1 from by show ((own_of ee a)).category + 0 = 1; rw [ref_cat (own_of_ref _ _)])) (by decide) (by decide) (by decide) (by decide) rfl (fun v77 T78 h79 w80 q81 => ?_)
  obtain ⟨rfl, eh⟩ := q81
  show Go _ _ _ _ _ _ _ _ _ (mkF m 13 #[.val (.int a), .val (.int (a &&& (31 : Int32)))] [(own_of ee a), (own_of ee a)])
  rw [eh] at w80
  refine gacmp (pt := 16) (pf := 31) w80 at_13 (by decide) (own_of_ref _ _) (own_of_ref _ _) rfl rfl (fun (c13 : ((own_of ee a) : Value) = (own_of ee a)) => ?_) (fun (c13 : ¬ ((own_of ee a) : Value) = (own_of ee a)) => ?_)
  · refine giloadN (pc' := 17) (Ls := #[.val (.int a), .val (.int (a &&& (31 : Int32)))]) (rest := []) w80 at_16 rfl rfl ?_
    refine gcallS (pc' := 20) (argsL := [(.int (a &&& (31 : Int32)))]) (rest := []) (Wt := 0) w80 at_17 (hw _ (List.mem_of_getElem? (i := 0) rfl)) (hw _ (List.mem_of_getElem? (i := 1) rfl)) (hw _ (List.mem_of_getElem? (i := 2) rfl)) (hw _ (List.mem_of_getElem? (i := 3) rfl)) (by decide) pd_d1 (own_co hw (a &&& (31 : Int32)) aV cl ee H70) rfl rfl rfl rfl (Nat.le_of_eq rfl) (by decide) (by decide) (by decide) (by decide) rfl (fun v84 T85 h86 w87 q88 => ?_)
    obtain ⟨rfl, Ex83⟩ := q88
    show Go _ _ _ _ _ _ _ _ _ (mkF m 20 #[.val (.int a), .val (.int (a &&& (31 : Int32)))] [(own_of ee (a &&& (31 : Int32)))])
    have H82 := own_ext H70 Ex83
    refine giloadN (pc' := 21) (Ls := #[.val (.int a), .val (.int (a &&& (31 : Int32)))]) (rest := [(own_of ee (a &&& (31 : Int32)))]) w87 at_20 rfl rfl ?_
    refine gcallS (pc' := 24) (argsL := [(.int (a &&& (31 : Int32)))]) (rest := [(own_of ee (a &&& (31 : Int32)))]) (Wt := 1) w87 at_21 (hw _ (List.mem_of_getElem? (i := 37) rfl)) (hw _ (List.mem_of_getElem? (i := 38) rfl)) (hw _ (List.mem_of_getElem? (i := 39) rfl)) (hw _ (List.mem_of_getElem? (i := 40) rfl)) (by decide) pd_d3 (own_ce hw (a &&& (31 : Int32)) aV cl ee H82) rfl rfl rfl rfl (Nat.le_of_eq (show (List.map (fun v => v.category) [(own_of ee (a &&& (31 : Int32)))]).sum = 1 from by show ((own_of ee (a &&& (31 : Int32)))).category + 0 = 1; rw [ref_cat (own_of_ref _ _)])) (by decide) (by decide) (by decide) (by decide) rfl (fun v89 T90 h91 w92 q93 => ?_)
    obtain ⟨rfl, eh⟩ := q93
    show Go _ _ _ _ _ _ _ _ _ (mkF m 24 #[.val (.int a), .val (.int (a &&& (31 : Int32)))] [(own_of ee (a &&& (31 : Int32))), (own_of ee (a &&& (31 : Int32)))])
    rw [eh] at w92
    refine gacmp (pt := 27) (pf := 31) w92 at_24 (by decide) (own_of_ref _ _) (own_of_ref _ _) rfl rfl (fun (c24 : ((own_of ee (a &&& (31 : Int32))) : Value) = (own_of ee (a &&& (31 : Int32)))) => ?_) (fun (c24 : ¬ ((own_of ee (a &&& (31 : Int32))) : Value) = (own_of ee (a &&& (31 : Int32)))) => ?_)
    · refine giconst (v := (1 : Int32)) (pc' := 28) w92 at_27 rfl rfl ?_
      refine ggoto (pc' := 32) w92 at_28 (by decide) rfl ?_
      exact gretZ w92 at_32 rfl (by decide) (by decide) rfl
    · refine giconst (v := (0 : Int32)) (pc' := 32) w92 at_31 rfl rfl ?_
      exact absurd rfl c24
  · refine giconst (v := (0 : Int32)) (pc' := 32) w80 at_31 rfl rfl ?_
    exact absurd rfl c13
theorem own_eqI {args : Array Value} {s : State} {a : Term} {v : Value} {k : Int32} (hv : a.eval args s none [] s = some v) (q : (Jvm.Cond.eq a (Jvm.Term.int k)).value args s none s [] = some true) : v = .int k := by
  have hb : (Jvm.Term.int k).eval args s none [] s = some (.int k) := rfl
  cases v <;> simp [Cond.value, hv, hb] at q
  rw [q]
theorem own_fldI {args : Array Value} {s : State} {t : Term} {a : Addr} {k : Int32} {C n d : String} (ht : t.eval args s none [] s = some (.ref a)) (q : (Jvm.Cond.eq (Jvm.Term.field t C n d) (Jvm.Term.int k)).value args s none s [] = some true) : Fld s s.heap a C n d (.int k) := by
  obtain ⟨v, _, e1, -, -⟩ := cmp_v (Or.inl q)
  have e2 := own_eqI e1 q
  rw [fld_at ht, e2] at e1
  exact Fld.start e1
theorem own_elt {args : Array Value} {s : State} {t u : Term} {aV x : Addr} {cl : Cell} {j : Int32} {ty : FieldType} (ht : t.eval args s none [] s = some (.ref aV)) (A : Arr s s.heap aV cl ty) (hu : u.eval args s none [] s = some (.ref x)) (q : (Jvm.Cond.eq (Jvm.Term.elem t (Jvm.Term.int j)) u).value args s none s [] = some true) : cl.slots[j.toNatClampNeg]? = some (.ref x) := by
  obtain ⟨v, y, e1, e2, k1, k2⟩ := cmp_v (Or.inl q)
  cases hu.symm.trans e2
  have hv : v.isRef = true := k2.2
  have e3 : v = .ref x := gotT (eq_R e1 e2 hv rfl) q
  rw [e3] at e1
  exact (elem_in e1 ht rfl A.1).2
theorem own_len {args : Array Value} {s : State} {t : Term} {aV : Addr} {cl : Cell} {ty : FieldType} (ht : t.eval args s none [] s = some (.ref aV)) (A : Arr s s.heap aV cl ty) (q : (Jvm.Cond.eq (Jvm.Term.length t) (Jvm.Term.int 16)).value args s none s [] = some true) : cl.slots.size = 16 := by
  obtain ⟨v, _, e1, -, -⟩ := cmp_v (Or.inl q)
  have e2 := own_eqI e1 q
  have ha : s.arrayAt? aV = some cl := Arr.fin (Vm.Alike.refl _) A
  by_cases hl : cl.slots.size < 2 ^ 31
  · rw [len_f ht ha hl, e2] at e1
    have e3 := congrArg Int32.toInt (Value.int.inj (Option.some.inj e1))
    rw [len_toInt hl] at e3
    have k : (16 : Int32).toInt = 16 := rfl
    omega
  · simp [Term.eval, ht, ha, hl] at e1
theorem comes_1 {Post : Tables → Env → Array Value → State → Outcome → State → Prop} (hpost : ∀ tb e args s v u, (limb_1_1.after args s (.returned v) u = true ∧ limb_1_2.after args s (.returned v) u = true ∧ True) → FrameEnd s (.returned v) u (Jvm.fieldLocs frame_1_writes args s ++ Jvm.arrayLocs frame_1_arrays args s ++ Jvm.staticLocs frame_1_statics s) 16 128 → Post tb e args s (.returned v) u) :
    ArmFor flags0 classFile x code maxLocals ret World_1 tables_1 room_1 Calls_1 rest_1 Pre_1 Post := by
  intro l hfl _ _ p e ha hc hk s m args below hf hA hF happ hP
  obtain ⟨hcalls, hrest, hpre⟩ := hP
  obtain ⟨-, -, -, hnamed, -, -, -, hat⟩ := (Spec.applies_iff hf).mp happ
  obtain ⟨hg, hn⟩ := and_e (Cond.before_iff.mp (show (Jvm.Cond.and given_1 narrow_1).before args s = true from hpre))
  obtain ⟨hcount, g0⟩ := and_e hg
  obtain ⟨w0, rfl⟩ : ∃ w0 : Value, args = #[w0] := by
    have hs : args.size = 1 := by simpa [Cond.value, given_1] using hcount
    obtain ⟨L⟩ := args
    match L, hs with
    | [w0], _ => exact ⟨w0, rfl⟩
  have hw := fun d (hd : d ∈ tables_1) => atoms_spec (ws := Jvm.Cond.code x code maxLocals ret :: tables_1) hat d (List.mem_cons_of_mem _ hd)
  have hfit : Fit s := fun {y c} hc i hi => by
    obtain ⟨ha, rfl⟩ := Array.getElem?_eq_some_iff.mp hc
    have q := List.all_eq_true.mp ((Array.all_eq_true_iff_forall_mem.mp hF) _ (Array.getElem_mem ha)) i (List.mem_range.mpr hi)
    simpa [Array.getElem?_eq_getElem hi] using q
  obtain ⟨i0, e0⟩ := is_v g0
  obtain rfl : w0 = (.int i0) := Option.some.inj e0
  obtain ⟨x1, y1⟩ := and_e hn
  obtain ⟨x2, y2⟩ := and_e y1
  obtain ⟨x3, y3⟩ := and_e y2
  obtain ⟨p0, y4⟩ := and_e y3
  obtain ⟨q0, y5⟩ := and_e y4
  obtain ⟨p1, y6⟩ := and_e y5
  obtain ⟨q1, y7⟩ := and_e y6
  obtain ⟨p2, y8⟩ := and_e y7
  obtain ⟨q2, y9⟩ := and_e y8
  obtain ⟨p3, y10⟩ := and_e y9
  obtain ⟨q3, y11⟩ := and_e y10
  obtain ⟨p4, y12⟩ := and_e y11
  obtain ⟨q4, y13⟩ := and_e y12
  obtain ⟨p5, y14⟩ := and_e y13
  obtain ⟨q5, y15⟩ := and_e y14
  obtain ⟨p6, y16⟩ := and_e y15
  obtain ⟨q6, y17⟩ := and_e y16
  obtain ⟨p7, y18⟩ := and_e y17
  obtain ⟨q7, y19⟩ := and_e y18
  obtain ⟨p8, y20⟩ := and_e y19
  obtain ⟨q8, y21⟩ := and_e y20
  obtain ⟨p9, y22⟩ := and_e y21
  obtain ⟨q9, y23⟩ := and_e y22
  obtain ⟨p10, y24⟩ := and_e y23
  obtain ⟨q10, y25⟩ := and_e y24
  obtain ⟨p11, y26⟩ := and_e y25
  obtain ⟨q11, y27⟩ := and_e y26
  obtain ⟨p12, y28⟩ := and_e y27
  obtain ⟨q12, y29⟩ := and_e y28
  obtain ⟨p13, y30⟩ := and_e y29
  obtain ⟨q13, y31⟩ := and_e y30
  obtain ⟨p14, y32⟩ := and_e y31
  obtain ⟨q14, y33⟩ := and_e y32
  obtain ⟨p15, y34⟩ := and_e y33
  obtain ⟨q15, y35⟩ := and_e y34
  obtain ⟨r0, y36⟩ := and_e y35
  obtain ⟨r1, y37⟩ := and_e y36
  obtain ⟨r2, y38⟩ := and_e y37
  obtain ⟨r3, y39⟩ := and_e y38
  obtain ⟨r4, y40⟩ := and_e y39
  obtain ⟨r5, y41⟩ := and_e y40
  obtain ⟨r6, y42⟩ := and_e y41
  obtain ⟨r7, y43⟩ := and_e y42
  obtain ⟨r8, y44⟩ := and_e y43
  obtain ⟨r9, y45⟩ := and_e y44
  obtain ⟨r10, y46⟩ := and_e y45
  obtain ⟨r11, y47⟩ := and_e y46
  obtain ⟨r12, y48⟩ := and_e y47
  obtain ⟨r13, y49⟩ := and_e y48
  obtain ⟨r14, y50⟩ := and_e y49
  obtain ⟨aV, eV⟩ := exa_v x2
  obtain ⟨cl, AV⟩ := Arr.start eV x1
  obtain ⟨b0, f0⟩ := exa_v p0
  obtain ⟨b1, f1⟩ := exa_v p1
  obtain ⟨b2, f2⟩ := exa_v p2
  obtain ⟨b3, f3⟩ := exa_v p3
  obtain ⟨b4, f4⟩ := exa_v p4
  obtain ⟨b5, f5⟩ := exa_v p5
  obtain ⟨b6, f6⟩ := exa_v p6
  obtain ⟨b7, f7⟩ := exa_v p7
  obtain ⟨b8, f8⟩ := exa_v p8
  obtain ⟨b9, f9⟩ := exa_v p9
  obtain ⟨b10, f10⟩ := exa_v p10
  obtain ⟨b11, f11⟩ := exa_v p11
  obtain ⟨b12, f12⟩ := exa_v p12
  obtain ⟨b13, f13⟩ := exa_v p13
  obtain ⟨b14, f14⟩ := exa_v p14
  obtain ⟨b15, f15⟩ := exa_v p15
  have hsz := own_len eV AV x3
  have H : own_H s s.heap aV cl (fun i => ([b0, b1, b2, b3, b4, b5, b6, b7, b8, b9, b10, b11, b12, b13, b14, b15] : List Addr).getD i 0) := by
    refine ⟨AV, Exa.start eV x2, FitC.start hfit AV, hsz, Sta.start eV (Or.inr ⟨(hw _ (List.mem_of_getElem? (i := 2) rfl)), (hw _ (List.mem_of_getElem? (i := 8) rfl))⟩), ?_, ?_⟩
    · intro q hq
      simp only [own_tab, List.mem_cons, List.not_mem_nil, or_false] at hq
      rcases hq with rfl | rfl | rfl | rfl | rfl | rfl | rfl | rfl | rfl | rfl | rfl | rfl | rfl | rfl | rfl | rfl
      · exact ⟨own_elt eV AV f0 q0, own_fldI f0 r0⟩
      · exact ⟨own_elt eV AV f1 q1, own_fldI f1 r1⟩
      · exact ⟨own_elt eV AV f2 q2, own_fldI f2 r2⟩
      · exact ⟨own_elt eV AV f3 q3, own_fldI f3 r3⟩
      · exact ⟨own_elt eV AV f4 q4, own_fldI f4 r4⟩
      · exact ⟨own_elt eV AV f5 q5, own_fldI f5 r5⟩
      · exact ⟨own_elt eV AV f6 q6, own_fldI f6 r6⟩
      · exact ⟨own_elt eV AV f7 q7, own_fldI f7 r7⟩
      · exact ⟨own_elt eV AV f8 q8, own_fldI f8 r8⟩
      · exact ⟨own_elt eV AV f9 q9, own_fldI f9 r9⟩
      · exact ⟨own_elt eV AV f10 q10, own_fldI f10 r10⟩
      · exact ⟨own_elt eV AV f11 q11, own_fldI f11 r11⟩
      · exact ⟨own_elt eV AV f12 q12, own_fldI f12 r12⟩
      · exact ⟨own_elt eV AV f13 q13, own_fldI f13 r13⟩
      · exact ⟨own_elt eV AV f14 q14, own_fldI f14 r14⟩
      · exact ⟨own_elt eV AV f15 q15, own_fldI f15 y50⟩
    · intro q hq
      simp only [own_nam, List.mem_cons, List.not_mem_nil, or_false] at hq
      rcases hq with rfl | rfl | rfl | rfl | rfl | rfl | rfl | rfl | rfl | rfl | rfl | rfl | rfl | rfl | rfl | rfl
      · exact Sta.start f0 (Or.inr ⟨(hw _ (List.mem_of_getElem? (i := 2) rfl)), (hw _ (List.mem_of_getElem? (i := 16) rfl))⟩)
      · exact Sta.start f1 (Or.inr ⟨(hw _ (List.mem_of_getElem? (i := 2) rfl)), (hw _ (List.mem_of_getElem? (i := 17) rfl))⟩)
      · exact Sta.start f2 (Or.inr ⟨(hw _ (List.mem_of_getElem? (i := 2) rfl)), (hw _ (List.mem_of_getElem? (i := 18) rfl))⟩)
      · exact Sta.start f3 (Or.inr ⟨(hw _ (List.mem_of_getElem? (i := 2) rfl)), (hw _ (List.mem_of_getElem? (i := 19) rfl))⟩)
      · exact Sta.start f4 (Or.inr ⟨(hw _ (List.mem_of_getElem? (i := 2) rfl)), (hw _ (List.mem_of_getElem? (i := 20) rfl))⟩)
      · exact Sta.start f5 (Or.inr ⟨(hw _ (List.mem_of_getElem? (i := 2) rfl)), (hw _ (List.mem_of_getElem? (i := 21) rfl))⟩)
      · exact Sta.start f6 (Or.inr ⟨(hw _ (List.mem_of_getElem? (i := 2) rfl)), (hw _ (List.mem_of_getElem? (i := 22) rfl))⟩)
      · exact Sta.start f7 (Or.inr ⟨(hw _ (List.mem_of_getElem? (i := 2) rfl)), (hw _ (List.mem_of_getElem? (i := 23) rfl))⟩)
      · exact Sta.start f8 (Or.inr ⟨(hw _ (List.mem_of_getElem? (i := 2) rfl)), (hw _ (List.mem_of_getElem? (i := 24) rfl))⟩)
      · exact Sta.start f9 (Or.inr ⟨(hw _ (List.mem_of_getElem? (i := 2) rfl)), (hw _ (List.mem_of_getElem? (i := 25) rfl))⟩)
      · exact Sta.start f10 (Or.inr ⟨(hw _ (List.mem_of_getElem? (i := 2) rfl)), (hw _ (List.mem_of_getElem? (i := 26) rfl))⟩)
      · exact Sta.start f11 (Or.inr ⟨(hw _ (List.mem_of_getElem? (i := 2) rfl)), (hw _ (List.mem_of_getElem? (i := 27) rfl))⟩)
      · exact Sta.start f12 (Or.inr ⟨(hw _ (List.mem_of_getElem? (i := 2) rfl)), (hw _ (List.mem_of_getElem? (i := 28) rfl))⟩)
      · exact Sta.start f13 (Or.inr ⟨(hw _ (List.mem_of_getElem? (i := 2) rfl)), (hw _ (List.mem_of_getElem? (i := 29) rfl))⟩)
      · exact Sta.start f14 (Or.inr ⟨(hw _ (List.mem_of_getElem? (i := 2) rfl)), (hw _ (List.mem_of_getElem? (i := 30) rfl))⟩)
      · exact Sta.start f15 (Or.inr ⟨(hw _ (List.mem_of_getElem? (i := 2) rfl)), (hw _ (List.mem_of_getElem? (i := 31) rfl))⟩)
  obtain ⟨n, o, h1, h2, h3, _, L, rfl, ⟨N, rfl⟩, hq⟩ := (own_law (h := s.heap) (n0 := s.heap.size) hw i0 aV cl _ H) p e ha hc hk s m _ below hf ((Spec.applies_iff_loose hf).mp happ).1 ⟨rfl, State.Warmed39.refl s, rfl⟩ trivial
  refine ⟨n, _, h1, h2, h3, hpost _ _ _ _ _ _ ⟨Cond.after_iff.mpr rfl, Cond.after_iff.mpr (eq_i res_at (Term.int_eval (1)) rfl), trivial⟩ ⟨hq.1, hq.2.1, (hq.2.2.sift fun y hy => Or.inr (N y hy)).mono (by decide) (by decide)⟩⟩
theorem main_1_1 : Claimed_1_1 := comes_1 fun _ _ _ _ _ _ h hF => ⟨h.1, hF⟩
theorem main_1_2 : Claimed_1_2 := comes_1 fun _ _ _ _ _ _ h hF => ⟨h.2.1, hF⟩
end Jvm.Pilot.@@N@@
namespace Jvm.Pilot.@@N@@
open Jvm Jvm.ClassFile Sem Op Lib Jvm.Free Jvm.Stand Jvm.Pilot.@@N@@.Jvm.D
/-! MADE BY PROGRAM (witnessworld.py) out of the Statement's table words and the real class files: 13 classes; the members and pool entries that the words name. The judged class is class 1, her method 1. -/
namespace start1
open Jvm.ClassFile
def u (s : String) : CpInfo := .utf8 (stringToUtf16 s)
/-- a pool by its gaps: so many unusable entries, then the entry; so many at the end -/
def gap : Nat → List CpInfo → List CpInfo
  | 0, r => r
  | n + 1, r => .unusable :: gap n r
def poolList (es : List (Nat × CpInfo)) (last : Nat) : List CpInfo := es.foldr (fun e r => gap e.1 (e.2 :: r)) (gap last [])
def pool (es : List (Nat × CpInfo)) (last : Nat) : Array CpInfo := ⟨poolList es last⟩
def fileOf (pool : Array CpInfo) (this : Nat) (attrs : Array Attribute := #[]) (ms : Array MethodInfo := #[]) (fl : Nat := 33) (sup : Nat := 0) (ifs : Array Nat := #[]) (fds : Array FieldInfo := #[]) : ClassFile where
  minorVersion := 0
  majorVersion := 65
  constantPool := pool
  accessFlags := fl
  thisClass := this
  superClass := sup
  interfaces := ifs
  fields := fds
  methods := ms
  attributes := attrs
def plain (name : String) (sup : Option ClassId) : Class where
  name := name
  kind := .ordinary
  loader := none
  accessFlags := 33
  super := sup
  interfaces := #[]
  cf := none
  fields := #[]
  methods := #[]
  instanceTypes := #[]
  staticTypes := #[]
  resolved := #[]
  callSites := []
  init := .initialized
  statics := none
  mirror := none

def pool0 : Array CpInfo := pool [(5, u "<init>"), (0, u "()V"), (1, .class_ 10), (1, u "java/lang/Object"), (85, u "clone"), (0, u "()Ljava/lang/Object;")] 26

def k0m0 : Method := { name := "<init>", desc := "()V", sig := { parameters := [], returnType := none }, accessFlags := 1, code := none }
def k0m1 : Method := { name := "clone", desc := "()Ljava/lang/Object;", sig := { parameters := [], returnType := some (.object "java/lang/Object") }, accessFlags := 260, code := none }
/-- java/lang/Object -/
def k0 : Class := { plain "java/lang/Object" none with
  accessFlags := 33
  interfaces := #[]
  cf := some (fileOf pool0 8 #[] #[{ accessFlags := 1, nameIndex := 5, descriptorIndex := 6, attributes := #[] }, { accessFlags := 260, nameIndex := 96, descriptorIndex := 97, attributes := #[] }] 33 0 #[] #[])
  fields := #[]
  methods := #[k0m0, k0m1]
  instanceTypes := #[]
  staticTypes := #[]
  resolved := Array.replicate 124 none
  statics := none }

def pool1 : Array CpInfo := pool [(2, .class_ 4), (1, u "java/lang/Object"), (0, u "<init>"), (0, u "()V"), (0, .methodref 8 9), (0, .class_ 10), (0, .nameAndType 11 12), (0, u "com/example/atlanta/atlanta/server/Opcode"), (0, u "of"), (0, u "(I)Lcom/example/atlanta/atlanta/server/Opcode;"), (0, .methodref 14 15), (0, .class_ 16), (0, .nameAndType 17 12), (0, u "com/example/atlanta/atlanta/server/OpcodeOfPinLaw"), (0, u "expected"), (0, .fieldref 8 19), (0, .nameAndType 20 21), (0, u "ERROR"), (0, u "Lcom/example/atlanta/atlanta/server/Opcode;"), (0, .fieldref 8 23), (0, .nameAndType 24 21), (0, u "STARTUP"), (0, .fieldref 8 26), (0, .nameAndType 27 21), (0, u "READY"), (0, .fieldref 8 29), (0, .nameAndType 30 21), (0, u "AUTHENTICATE"), (0, .fieldref 8 32), (0, .nameAndType 33 21), (0, u "OPTIONS"), (0, .fieldref 8 35), (0, .nameAndType 36 21), (0, u "SUPPORTED"), (0, .fieldref 8 38), (0, .nameAndType 39 21), (0, u "QUERY"), (0, .fieldref 8 41), (0, .nameAndType 42 21), (0, u "RESULT"), (0, .fieldref 8 44), (0, .nameAndType 45 21), (0, u "PREPARE"), (0, .fieldref 8 47), (0, .nameAndType 48 21), (0, u "EXECUTE"), (0, .fieldref 8 50), (0, .nameAndType 51 21), (0, u "REGISTER"), (0, .fieldref 8 53), (0, .nameAndType 54 21), (0, u "EVENT"), (0, .fieldref 8 56), (0, .nameAndType 57 21), (0, u "BATCH"), (0, .fieldref 8 59), (0, .nameAndType 60 21), (0, u "AUTH_CHALLENGE"), (0, .fieldref 8 62), (0, .nameAndType 63 21), (0, u "AUTH_RESPONSE"), (0, .fieldref 8 65), (0, .nameAndType 66 21), (0, u "AUTH_SUCCESS"), (2, u "law"), (0, u "(I)Z")] 3

def k1m0 : Method := { name := "<init>", desc := "()V", sig := { parameters := [], returnType := none }, accessFlags := 1, code := none }
def k1c1 : Code := { maxStack := 2, maxLocals := 2, code := code, exceptionTable := #[], attributes := #[] }
def k1m1 : Method := { name := "law", desc := "(I)Z", sig := { parameters := [.int], returnType := some .boolean }, accessFlags := 9, code := some k1c1 }
def k1c2 : Code := { maxStack := 2, maxLocals := 1, code := method_3_code, exceptionTable := #[], attributes := #[] }
def k1m2 : Method := { name := "expected", desc := "(I)Lcom/example/atlanta/atlanta/server/Opcode;", sig := { parameters := [.int], returnType := some (.object "com/example/atlanta/atlanta/server/Opcode") }, accessFlags := 10, code := some k1c2 }
/-- com/example/atlanta/atlanta/server/OpcodeOfPinLaw -/
def k1 : Class := { plain "com/example/atlanta/atlanta/server/OpcodeOfPinLaw" (some 0) with
  accessFlags := 49
  interfaces := #[]
  cf := some (fileOf pool1 14 #[] #[{ accessFlags := 1, nameIndex := 5, descriptorIndex := 6, attributes := #[] }, { accessFlags := 9, nameIndex := 69, descriptorIndex := 70, attributes := #[] }, { accessFlags := 10, nameIndex := 17, descriptorIndex := 12, attributes := #[] }] 49 2 #[] #[])
  fields := #[]
  methods := #[k1m0, k1m1, k1m2]
  instanceTypes := #[]
  staticTypes := #[]
  resolved := Array.replicate 74 none
  statics := none }

def pool2 : Array CpInfo := pool [(1, .class_ 2), (0, u "java/lang/constant/Constable"), (0, .class_ 4), (0, u "java/lang/Object")] 6

/-- java/lang/constant/Constable -/
def k2 : Class := { plain "java/lang/constant/Constable" (some 0) with
  accessFlags := 1537
  interfaces := #[]
  cf := some (fileOf pool2 1 #[] #[] 1537 3 #[] #[])
  fields := #[]
  methods := #[]
  instanceTypes := #[]
  staticTypes := #[]
  resolved := Array.replicate 11 none
  statics := none }

def pool3 : Array CpInfo := pool [(1, .class_ 2), (0, u "java/lang/Comparable"), (0, .class_ 4), (0, u "java/lang/Object")] 7

/-- java/lang/Comparable -/
def k3 : Class := { plain "java/lang/Comparable" (some 0) with
  accessFlags := 1537
  interfaces := #[]
  cf := some (fileOf pool3 1 #[] #[] 1537 3 #[] #[])
  fields := #[]
  methods := #[]
  instanceTypes := #[]
  staticTypes := #[]
  resolved := Array.replicate 12 none
  statics := none }

def pool4 : Array CpInfo := pool [(1, .class_ 2), (0, u "java/io/Serializable"), (0, .class_ 4), (0, u "java/lang/Object")] 2

/-- java/io/Serializable -/
def k4 : Class := { plain "java/io/Serializable" (some 0) with
  accessFlags := 1537
  interfaces := #[]
  cf := some (fileOf pool4 1 #[] #[] 1537 3 #[] #[])
  fields := #[]
  methods := #[]
  instanceTypes := #[]
  staticTypes := #[]
  resolved := Array.replicate 7 none
  statics := none }

def pool5 : Array CpInfo := pool [(2, .class_ 4), (1, u "java/lang/Enum"), (0, u "name"), (0, u "Ljava/lang/String;"), (2, u "ordinal"), (0, u "I"), (1, .class_ 14), (1, u "java/lang/Object"), (4, u "hash"), (86, .class_ 108), (1, u "java/lang/Enum$EnumDesc"), (2, .class_ 112), (0, u "java/lang/constant/Constable"), (0, .class_ 114), (0, u "java/lang/Comparable"), (0, .class_ 116), (0, u "java/io/Serializable")] 87

/-- java/lang/Enum -/
def k5 : Class := { plain "java/lang/Enum" (some 0) with
  accessFlags := 1057
  interfaces := #[2, 3, 4]
  cf := some (fileOf pool5 2 #[.nestMembers #[106]] #[] 1057 12 #[111, 113, 115] #[{ accessFlags := 18, nameIndex := 5, descriptorIndex := 6, attributes := #[] }, { accessFlags := 18, nameIndex := 9, descriptorIndex := 10, attributes := #[] }, { accessFlags := 2, nameIndex := 19, descriptorIndex := 10, attributes := #[] }])
  fields := #[{ name := "name", type := (.object "java/lang/String"), accessFlags := 18, slot := 0, constantValue := 0 }, { name := "ordinal", type := .int, accessFlags := 18, slot := 1, constantValue := 0 }, { name := "hash", type := .int, accessFlags := 2, slot := 2, constantValue := 0 }]
  methods := #[]
  instanceTypes := #[(.object "java/lang/String"), .int, .int]
  staticTypes := #[]
  resolved := Array.replicate 204 none
  statics := none }

def pool6 : Array CpInfo := pool [(1, .class_ 2), (0, u "com/example/atlanta/atlanta/server/Opcode"), (2, u "ERROR"), (0, u "Lcom/example/atlanta/atlanta/server/Opcode;"), (2, u "STARTUP"), (2, u "READY"), (2, u "AUTHENTICATE"), (2, u "OPTIONS"), (2, u "SUPPORTED"), (2, u "QUERY"), (2, u "RESULT"), (2, u "PREPARE"), (2, u "EXECUTE"), (2, u "REGISTER"), (2, u "EVENT"), (2, u "BATCH"), (2, u "AUTH_CHALLENGE"), (2, u "AUTH_RESPONSE"), (2, u "AUTH_SUCCESS"), (0, .fieldref 1 53), (0, .nameAndType 54 55), (0, u "$VALUES"), (0, u "[Lcom/example/atlanta/atlanta/server/Opcode;"), (0, .methodref 57 58), (0, .class_ 55), (0, .nameAndType 59 60), (0, u "clone"), (0, u "()Ljava/lang/Object;"), (1, .class_ 64), (1, u "java/lang/Enum"), (6, .fieldref 1 72), (0, .nameAndType 73 74), (0, u "code"), (0, u "I"), (0, .methodref 1 76), (0, .nameAndType 77 78), (0, u "values"), (0, u "()[Lcom/example/atlanta/atlanta/server/Opcode;"), (29, u "of"), (0, u "(I)Lcom/example/atlanta/atlanta/server/Opcode;")] 6

def k6c0 : Code := { maxStack := 1, maxLocals := 0, code := prog_37_method_1_code, exceptionTable := #[], attributes := #[] }
def k6m0 : Method := { name := "values", desc := "()[Lcom/example/atlanta/atlanta/server/Opcode;", sig := { parameters := [], returnType := some (.array (.object "com/example/atlanta/atlanta/server/Opcode")) }, accessFlags := 9, code := some k6c0 }
def k6c1 : Code := { maxStack := 2, maxLocals := 5, code := prog_37_method_5_code, exceptionTable := #[], attributes := #[] }
def k6m1 : Method := { name := "of", desc := "(I)Lcom/example/atlanta/atlanta/server/Opcode;", sig := { parameters := [.int], returnType := some (.object "com/example/atlanta/atlanta/server/Opcode") }, accessFlags := 8, code := some k6c1 }
/-- com/example/atlanta/atlanta/server/Opcode -/
def k6 : Class := { plain "com/example/atlanta/atlanta/server/Opcode" (some 5) with
  accessFlags := 16432
  interfaces := #[]
  cf := some (fileOf pool6 1 #[] #[{ accessFlags := 9, nameIndex := 77, descriptorIndex := 78, attributes := #[] }, { accessFlags := 8, nameIndex := 108, descriptorIndex := 109, attributes := #[] }] 16432 62 #[] #[{ accessFlags := 16409, nameIndex := 5, descriptorIndex := 6, attributes := #[] }, { accessFlags := 16409, nameIndex := 9, descriptorIndex := 6, attributes := #[] }, { accessFlags := 16409, nameIndex := 12, descriptorIndex := 6, attributes := #[] }, { accessFlags := 16409, nameIndex := 15, descriptorIndex := 6, attributes := #[] }, { accessFlags := 16409, nameIndex := 18, descriptorIndex := 6, attributes := #[] }, { accessFlags := 16409, nameIndex := 21, descriptorIndex := 6, attributes := #[] }, { accessFlags := 16409, nameIndex := 24, descriptorIndex := 6, attributes := #[] }, { accessFlags := 16409, nameIndex := 27, descriptorIndex := 6, attributes := #[] }, { accessFlags := 16409, nameIndex := 30, descriptorIndex := 6, attributes := #[] }, { accessFlags := 16409, nameIndex := 33, descriptorIndex := 6, attributes := #[] }, { accessFlags := 16409, nameIndex := 36, descriptorIndex := 6, attributes := #[] }, { accessFlags := 16409, nameIndex := 39, descriptorIndex := 6, attributes := #[] }, { accessFlags := 16409, nameIndex := 42, descriptorIndex := 6, attributes := #[] }, { accessFlags := 16409, nameIndex := 45, descriptorIndex := 6, attributes := #[] }, { accessFlags := 16409, nameIndex := 48, descriptorIndex := 6, attributes := #[] }, { accessFlags := 16409, nameIndex := 51, descriptorIndex := 6, attributes := #[] }, { accessFlags := 18, nameIndex := 73, descriptorIndex := 74, attributes := #[] }, { accessFlags := 4122, nameIndex := 54, descriptorIndex := 55, attributes := #[] }])
  fields := #[{ name := "ERROR", type := (.object "com/example/atlanta/atlanta/server/Opcode"), accessFlags := 16409, slot := 0, constantValue := 0 }, { name := "STARTUP", type := (.object "com/example/atlanta/atlanta/server/Opcode"), accessFlags := 16409, slot := 1, constantValue := 0 }, { name := "READY", type := (.object "com/example/atlanta/atlanta/server/Opcode"), accessFlags := 16409, slot := 2, constantValue := 0 }, { name := "AUTHENTICATE", type := (.object "com/example/atlanta/atlanta/server/Opcode"), accessFlags := 16409, slot := 3, constantValue := 0 }, { name := "OPTIONS", type := (.object "com/example/atlanta/atlanta/server/Opcode"), accessFlags := 16409, slot := 4, constantValue := 0 }, { name := "SUPPORTED", type := (.object "com/example/atlanta/atlanta/server/Opcode"), accessFlags := 16409, slot := 5, constantValue := 0 }, { name := "QUERY", type := (.object "com/example/atlanta/atlanta/server/Opcode"), accessFlags := 16409, slot := 6, constantValue := 0 }, { name := "RESULT", type := (.object "com/example/atlanta/atlanta/server/Opcode"), accessFlags := 16409, slot := 7, constantValue := 0 }, { name := "PREPARE", type := (.object "com/example/atlanta/atlanta/server/Opcode"), accessFlags := 16409, slot := 8, constantValue := 0 }, { name := "EXECUTE", type := (.object "com/example/atlanta/atlanta/server/Opcode"), accessFlags := 16409, slot := 9, constantValue := 0 }, { name := "REGISTER", type := (.object "com/example/atlanta/atlanta/server/Opcode"), accessFlags := 16409, slot := 10, constantValue := 0 }, { name := "EVENT", type := (.object "com/example/atlanta/atlanta/server/Opcode"), accessFlags := 16409, slot := 11, constantValue := 0 }, { name := "BATCH", type := (.object "com/example/atlanta/atlanta/server/Opcode"), accessFlags := 16409, slot := 12, constantValue := 0 }, { name := "AUTH_CHALLENGE", type := (.object "com/example/atlanta/atlanta/server/Opcode"), accessFlags := 16409, slot := 13, constantValue := 0 }, { name := "AUTH_RESPONSE", type := (.object "com/example/atlanta/atlanta/server/Opcode"), accessFlags := 16409, slot := 14, constantValue := 0 }, { name := "AUTH_SUCCESS", type := (.object "com/example/atlanta/atlanta/server/Opcode"), accessFlags := 16409, slot := 15, constantValue := 0 }, { name := "code", type := .int, accessFlags := 18, slot := 3, constantValue := 0 }, { name := "$VALUES", type := (.array (.object "com/example/atlanta/atlanta/server/Opcode")), accessFlags := 4122, slot := 16, constantValue := 0 }]
  methods := #[k6m0, k6m1]
  instanceTypes := #[(.object "java/lang/String"), .int, .int, .int]
  staticTypes := #[(.object "com/example/atlanta/atlanta/server/Opcode"), (.object "com/example/atlanta/atlanta/server/Opcode"), (.object "com/example/atlanta/atlanta/server/Opcode"), (.object "com/example/atlanta/atlanta/server/Opcode"), (.object "com/example/atlanta/atlanta/server/Opcode"), (.object "com/example/atlanta/atlanta/server/Opcode"), (.object "com/example/atlanta/atlanta/server/Opcode"), (.object "com/example/atlanta/atlanta/server/Opcode"), (.object "com/example/atlanta/atlanta/server/Opcode"), (.object "com/example/atlanta/atlanta/server/Opcode"), (.object "com/example/atlanta/atlanta/server/Opcode"), (.object "com/example/atlanta/atlanta/server/Opcode"), (.object "com/example/atlanta/atlanta/server/Opcode"), (.object "com/example/atlanta/atlanta/server/Opcode"), (.object "com/example/atlanta/atlanta/server/Opcode"), (.object "com/example/atlanta/atlanta/server/Opcode"), (.array (.object "com/example/atlanta/atlanta/server/Opcode"))]
  resolved := Array.replicate 116 none
  statics := some 0 }

def pool7 : Array CpInfo := pool [(1, .class_ 2), (0, u "java/lang/Cloneable"), (0, .class_ 4), (0, u "java/lang/Object")] 2

/-- java/lang/Cloneable -/
def k7 : Class := { plain "java/lang/Cloneable" (some 0) with
  accessFlags := 1537
  interfaces := #[]
  cf := some (fileOf pool7 1 #[] #[] 1537 3 #[] #[])
  fields := #[]
  methods := #[]
  instanceTypes := #[]
  staticTypes := #[]
  resolved := Array.replicate 7 none
  statics := none }

/-- the primitive byte -/
def k8 : Class := { plain "byte" none with kind := .primitive 'B', accessFlags := 0x411 }
/-- [B -/
def k9 : Class := { plain "[B" (some 0) with kind := .array 8 .byte, interfaces := #[7, 4], accessFlags := 1041 }

/-- the primitive int -/
def k10 : Class := { plain "int" none with kind := .primitive 'I', accessFlags := 0x411 }
/-- [I -/
def k11 : Class := { plain "[I" (some 0) with kind := .array 10 .int, interfaces := #[7, 4], accessFlags := 1041 }

/-- [Lcom/example/atlanta/atlanta/server/Opcode; -/
def k12 : Class := { plain "[Lcom/example/atlanta/atlanta/server/Opcode;" (some 0) with kind := .array 6 (.object "com/example/atlanta/atlanta/server/Opcode"), interfaces := #[7, 4], accessFlags := 1041 }

def heap : Heap := #[{ cls := 6, slots := #[.ref 2, .ref 3, .ref 4, .ref 5, .ref 6, .ref 7, .ref 8, .ref 9, .ref 10, .ref 11, .ref 12, .ref 13, .ref 14, .ref 15, .ref 16, .ref 17, .ref 1], vm := .statics 6 },
  { cls := 12, slots := #[.ref 2, .ref 3, .ref 4, .ref 5, .ref 6, .ref 7, .ref 8, .ref 9, .ref 10, .ref 11, .ref 12, .ref 13, .ref 14, .ref 15, .ref 16, .ref 17], vm := .none },
  { cls := 6, slots := #[.null, .int 0, .int 0, .int 0], vm := .none },
  { cls := 6, slots := #[.null, .int 1, .int 0, .int 1], vm := .none },
  { cls := 6, slots := #[.null, .int 2, .int 0, .int 2], vm := .none },
  { cls := 6, slots := #[.null, .int 3, .int 0, .int 3], vm := .none },
  { cls := 6, slots := #[.null, .int 4, .int 0, .int 5], vm := .none },
  { cls := 6, slots := #[.null, .int 5, .int 0, .int 6], vm := .none },
  { cls := 6, slots := #[.null, .int 6, .int 0, .int 7], vm := .none },
  { cls := 6, slots := #[.null, .int 7, .int 0, .int 8], vm := .none },
  { cls := 6, slots := #[.null, .int 8, .int 0, .int 9], vm := .none },
  { cls := 6, slots := #[.null, .int 9, .int 0, .int 10], vm := .none },
  { cls := 6, slots := #[.null, .int 10, .int 0, .int 11], vm := .none },
  { cls := 6, slots := #[.null, .int 11, .int 0, .int 12], vm := .none },
  { cls := 6, slots := #[.null, .int 12, .int 0, .int 13], vm := .none },
  { cls := 6, slots := #[.null, .int 13, .int 0, .int 14], vm := .none },
  { cls := 6, slots := #[.null, .int 14, .int 0, .int 15], vm := .none },
  { cls := 6, slots := #[.null, .int 15, .int 0, .int 16], vm := .none }]
def classes : Array Class := #[k0, k1, k2, k3, k4, k5, k6, k7, k8, k9, k10, k11, k12]
def interned : List (Array UInt16 × Addr) := []
def slotsUsed : Nat := 97
def theMethod : MethodId := ⟨1, 1⟩
def args0 : Array Value := #[.int 11]
def aboutOver (below : List Frame) : State where
  vm := { classes := classes, interned := interned.toArray }
  heap := heap
  slotsUsed := slotsUsed
  threads := #[{ frames := .invoking theMethod args0 :: below }]
def below0 : List Frame := [.native { method := ⟨0, 0⟩, args := #[] }]
def about1 : State := aboutOver below0
def p0 : Program := .bare "" "" ""
def e0 : Env := launch0.env 0 0 0
theorem w_frames : about1.frames = Frame.invoking theMethod args0 :: below0 := rfl
set_option maxRecDepth 65536 in
theorem w_args : argsFit about1.vm theMethod args0 = true := by decide +kernel
set_option maxRecDepth 65536 in
theorem w_heap : heapFits about1 = true := by decide +kernel
set_option maxRecDepth 65536 in
theorem w_runnable : about1.curStatus? = some .runnable := by decide +kernel
set_option maxRecDepth 65536 in
theorem w_alone : about1.alone = true := by decide +kernel
set_option maxRecDepth 65536 in
theorem w_named : about1.methodNamed? x = some theMethod := by decide +kernel
set_option maxRecDepth 65536 in
theorem w_hears : about1.hears theMethod below0 = true := by decide +kernel
set_option maxRecDepth 65536 in
theorem w_ripe : about1.ripe theMethod args0 below0 = true := by decide +kernel
theorem w_running : about1.status = .running := rfl
set_option maxRecDepth 65536 in
theorem w_room : about1.hasRoom e0.platform room_1 = true :=
  launch0.hasRoom_least _ room_1 (by decide +kernel) (by decide +kernel) (by decide +kernel) (by decide +kernel) (by decide +kernel) (by decide +kernel)
theorem allAtoms_all (ts : List Jvm.Cond) (a : Array Jvm.Value) (st : Jvm.State) : (allAtoms ts).before a st = ts.all (fun c => c.before a st) := by
  induction ts with
  | nil => rfl
  | cons c t ih =>
    show (Jvm.Cond.and c (allAtoms t)).before a st = _
    rw [Jvm.Cond.before_and, ih, List.all_cons]
def words1 : List Jvm.Cond := Jvm.Cond.code x code maxLocals ret :: tables_1
/-- a 'code' word, met by the world's own term for the bytes: nothing is compared byte by byte -/
theorem code_word {y : MethodName} {bytes : ByteArray} {mx : Nat} {rt : Option FieldType} {a : Array Value} {s : State} {m : MethodId} {meth : Method} {c : Code} (h1 : s.methodNamed? y = some m) (h2 : s.vm.method? m = some meth) (h3 : meth.code = some c) (h4 : c.code = bytes)
    (h5 : (c.maxLocals == mx && c.exceptionTable.isEmpty && decide (c.maxStack ≤ mostOperands) && decide (meth.sig.returnType = rt) && !meth.locks && decide (parseMethodDescriptor y.desc = some meth.sig)) = true) : (Jvm.Cond.code y bytes mx rt).before a s = true := by
  simp only [Bool.and_eq_true, beq_iff_eq, Bool.not_eq_true', decide_eq_true_eq] at h5
  obtain ⟨⟨⟨⟨⟨g1, g2⟩, g3⟩, g4⟩, g5⟩, g6⟩ := h5
  simp [Cond.before, Cond.holds, Cond.value, h1, h2, h3, h4, g1, g2, g3, g4, g5, g6]
def isCode : Jvm.Cond → Bool
  | .code _ _ _ _ => true
  | _ => false
theorem all_split {L : List Jvm.Cond} {P : Jvm.Cond → Bool} (h1 : L.all (fun c => isCode c || P c) = true) (h2 : ∀ c ∈ L.filter isCode, P c = true) : L.all P = true := by
  refine List.all_eq_true.mpr fun c hc => ?_
  have h := List.all_eq_true.mp h1 c hc
  rcases Bool.eq_false_or_eq_true (isCode c) with hi | hi
  · exact h2 c (List.mem_filter.mpr ⟨hc, hi⟩)
  · simpa [hi] using h
set_option maxRecDepth 65536 in
theorem w_c0 : (Jvm.Cond.code x code maxLocals ret).before args0 about1 = true := code_word (m := ⟨1, 1⟩) (meth := k1m1) (c := k1c1) (by decide +kernel) rfl rfl rfl (by decide +kernel)
set_option maxRecDepth 65536 in
theorem w_c1 : (Jvm.Cond.code ({ cls := "com/example/atlanta/atlanta/server/Opcode", name := "of", desc := "(I)Lcom/example/atlanta/atlanta/server/Opcode;" } : Jvm.MethodName) prog_37_method_5_code (5 : Nat) (Option.some (Jvm.ClassFile.FieldType.object "com/example/atlanta/atlanta/server/Opcode"))).before args0 about1 = true := code_word (m := ⟨6, 1⟩) (meth := k6m1) (c := k6c1) (by decide +kernel) rfl rfl rfl (by decide +kernel)
set_option maxRecDepth 65536 in
theorem w_c2 : (Jvm.Cond.code ({ cls := "com/example/atlanta/atlanta/server/Opcode", name := "values", desc := "()[Lcom/example/atlanta/atlanta/server/Opcode;" } : Jvm.MethodName) prog_37_method_1_code (0 : Nat) (Option.some (Jvm.ClassFile.FieldType.array (Jvm.ClassFile.FieldType.object "com/example/atlanta/atlanta/server/Opcode")))).before args0 about1 = true := code_word (m := ⟨6, 0⟩) (meth := k6m0) (c := k6c0) (by decide +kernel) rfl rfl rfl (by decide +kernel)
set_option maxRecDepth 65536 in
theorem w_c3 : (Jvm.Cond.code ({ cls := "com/example/atlanta/atlanta/server/OpcodeOfPinLaw", name := "expected", desc := "(I)Lcom/example/atlanta/atlanta/server/Opcode;" } : Jvm.MethodName) method_3_code (1 : Nat) (Option.some (Jvm.ClassFile.FieldType.object "com/example/atlanta/atlanta/server/Opcode"))).before args0 about1 = true := code_word (m := ⟨1, 2⟩) (meth := k1m2) (c := k1c2) (by decide +kernel) rfl rfl rfl (by decide +kernel)
def codes1 : List Jvm.Cond := [Jvm.Cond.code x code maxLocals ret, Jvm.Cond.code ({ cls := "com/example/atlanta/atlanta/server/Opcode", name := "of", desc := "(I)Lcom/example/atlanta/atlanta/server/Opcode;" } : Jvm.MethodName) prog_37_method_5_code (5 : Nat) (Option.some (Jvm.ClassFile.FieldType.object "com/example/atlanta/atlanta/server/Opcode")), Jvm.Cond.code ({ cls := "com/example/atlanta/atlanta/server/Opcode", name := "values", desc := "()[Lcom/example/atlanta/atlanta/server/Opcode;" } : Jvm.MethodName) prog_37_method_1_code (0 : Nat) (Option.some (Jvm.ClassFile.FieldType.array (Jvm.ClassFile.FieldType.object "com/example/atlanta/atlanta/server/Opcode"))), Jvm.Cond.code ({ cls := "com/example/atlanta/atlanta/server/OpcodeOfPinLaw", name := "expected", desc := "(I)Lcom/example/atlanta/atlanta/server/Opcode;" } : Jvm.MethodName) method_3_code (1 : Nat) (Option.some (Jvm.ClassFile.FieldType.object "com/example/atlanta/atlanta/server/Opcode"))]
set_option maxRecDepth 65536 in
theorem codes_eq : words1.filter isCode = codes1 := rfl
theorem w_codes : ∀ c ∈ words1.filter isCode, c.before args0 about1 = true := by
  rw [codes_eq]
  intro c hc
  simp only [codes1, List.mem_cons, List.not_mem_nil, or_false] at hc
  rcases hc with rfl | rfl | rfl | rfl
  · exact w_c0
  · exact w_c1
  · exact w_c2
  · exact w_c3
set_option maxRecDepth 65536 in
theorem w_t1 : (words1.take 24).all (fun c => isCode c || c.before args0 about1) = true := by decide +kernel
set_option maxRecDepth 65536 in
theorem w_t2 : ((words1.drop 24).take 24).all (fun c => isCode c || c.before args0 about1) = true := by decide +kernel
set_option maxRecDepth 65536 in
theorem w_t3 : ((words1.drop 24).drop 24).all (fun c => isCode c || c.before args0 about1) = true := by decide +kernel
theorem w_tables : (allAtoms (Jvm.Cond.code x code maxLocals ret :: tables_1)).before args0 about1 = true := by
  rw [allAtoms_all]
  show words1.all (fun c => c.before args0 about1) = true
  refine all_split ?_ w_codes
  rw [← List.take_append_drop 24 words1, List.all_append, w_t1, ← List.take_append_drop 24 (words1.drop 24), List.all_append, w_t2, w_t3]
  rfl
set_option maxRecDepth 65536 in
theorem w_case : (Jvm.Cond.and given_1 narrow_1).before args0 about1 = true := by decide +kernel
theorem w_applies : (headSpec (Jvm.Cond.code x code maxLocals ret :: tables_1) room_1).applies x e0.platform about1 = true :=
  (Spec.applies_iff w_frames).mpr ⟨w_running, w_runnable, w_alone, w_named, w_hears, w_ripe, w_room, w_tables⟩
theorem atStart : AtStart classFile x code maxLocals ret World_1 tables_1 room_1 Calls_1 rest_1 Pre_1 launch0 p0 e0 about1 theMethod args0 below0 :=
  ⟨lists_1, trivial, launch0.admits_env _ _ _, launch0.least_env, fairChoices_fair.cas, fairChoices_fair.clock, w_frames, w_args, w_heap, w_applies, trivial, trivial, w_case⟩
end start1
theorem witness_1 : WitnessClaimed_1 := ⟨start1.p0, start1.e0, start1.about1, start1.theMethod, start1.args0, start1.below0, start1.atStart⟩
end Jvm.Pilot.@@N@@
