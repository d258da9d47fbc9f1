import JvmDerived
import JvmDerived.Pilot.@@N@@Statement
import JvmDerived.Pilot.@@N@@Code
set_option linter.unusedVariables false
set_option linter.unusedSimpArgs false
namespace Jvm.Pilot.@@N@@
open Jvm Jvm.ClassFile Sem Op Lib Jvm.Free Jvm.Stand Jvm.LawKit Jvm.RoadKit Bundle Jvm.Pilot.@@N@@.Jvm.D
section GoKit
variable {p : Program} {l : Launch} {e : Env} {R : Room} {s : State} {m : MethodId} {args : Array Value} {below : List Frame} {meth : Method} {c : Code} {T : State} {Z : State} {own nm : String} {bytes : ByteArray} {mx : Nat} {rt : Option FieldType} {n0 k n : Nat} {h : Heap} {Q : Option Value → Heap → Prop} {CC NN : Nat} {a0 : Array Value} {Ls Ls' : Array Slot} {rest : List Value} {pc pc' : Nat}
/-- where a walk stands -/
def W (Z : State) (own nm : String) (bytes : ByteArray) (mx : Nat) (rt : Option FieldType) (n0 : Nat) (p : Program) (l : Launch) (e : Env) (R : Room) (s : State) (m : MethodId) (args : Array Value) (below : List Frame) (meth : Method) (c : Code) (k n : Nat) (T : State) (h : Heap) : Prop :=
  p.tables.exec = Jvm.exec ∧ c.code = bytes ∧ s.vm.findClass own = some m.cls ∧ Z.Warmed39 s.vm ∧ c.maxLocals = mx ∧ meth.name = nm ∧ meth.sig.returnType = rt ∧ meth.locks = false ∧ (∃ L, Stand p l e R s m args below meth c T L k n ∧ Fr n0 L) ∧ T.heap = h
/-- from this frame the method ends well -/
def Go (n0 : Nat) (p : Program) (e : Env) (below : List Frame) (s : State) (Q : Option Value → Heap → Prop) (CC NN : Nat) (T : State) (g : JFrame) : Prop :=
  ∃ s₂ o, Steps p.tables e below (T.setTop g) s₂ ∧ s₂.status = .running ∧ Ended s₂ below o ∧ ∃ v L, o = .returned v ∧ (Fr n0 L ∧ Q v s₂.heap) ∧ FrameEnd s o s₂ L CC NN
/-- a body's contract: of these arguments, at this heap -/
def Ctr (l : Launch) (y : MethodName) (yb : ByteArray) (ymx : Nat) (yr : Option FieldType) (rm : Room) (Z : State) (as : Array Value) (h0 : Heap) (n0 : Nat) (Q : Option Value → Heap → Prop) (ws : List Jvm.Cond) : Prop :=
  MetFree l y (head1 (Jvm.Cond.code y yb ymx yr :: ws) rm) (fun a U => a = as ∧ Z.Warmed39 U.vm ∧ U.heap = h0) (fun _ _ _ _ _ => True) (fun _ U o U' => ∃ v L, o = .returned v ∧ (Fr n0 L ∧ Q v U'.heap) ∧ FrameEnd U o U' L rm.cells rm.slots)
theorem metGo {y : MethodName} {rm : Room} {as : Array Value} {ws : List Jvm.Cond} (hpn : plainFor y = true) (hef : ∀ m, entryFrame m as mx = mkF m 0 Ls [])
    (H : ∀ (p : Program) (e : Env) (s : State) (m : MethodId) (below : List Frame) (meth : Method) (c : Code) (T : State), W Z y.cls y.name bytes mx rt n0 p l e rm s m as below meth c 0 0 T h → Go n0 p e below s Q rm.cells rm.slots T (mkF m 0 Ls [])) : Ctr l y bytes mx rt rm Z as h n0 Q ws := by
  refine MetFree.of_bodySF hpn hisR ?_
  intro p e s m args below meth c s₁ Bd hml0 hP hK
  obtain ⟨rfl, hZ, hh⟩ := hP
  have e0 : s₁.heap = h := by rw [← hh, Bd.state]; rfl
  obtain ⟨s₂, o, st, r⟩ := H p e s m below meth c s₁ ⟨Bd.exec, Bd.bytes, findClass_of_methodNamed Bd.named, hZ, hml0, (name_of_methodNamed Bd.named Bd.method).1, Bd.returns, Bd.notSynchronized, ⟨[], Stand.of_body Bd, Fr.nil n0⟩, e0⟩
  exact ⟨s₂, o, castTop (hef m) st, r⟩
def cY : ClassFile.Cond → Int32 → Int32 → Prop
  | .eq, x, y => x = y
  | .ne, x, y => ¬ x = y
  | .lt, x, y => x < y
  | .ge, x, y => ¬ x < y
  | .gt, x, y => y < x
  | .le, x, y => ¬ y < x
def cN : ClassFile.Cond → Int32 → Int32 → Prop
  | .eq, x, y => ¬ x = y
  | .ne, x, y => x = y
  | .lt, x, y => ¬ x < y
  | .ge, x, y => x < y
  | .gt, x, y => ¬ y < x
  | .le, x, y => y < x
def lY : ClassFile.Cond → Int64 → Int64 → Prop
  | .eq, x, y => x = y
  | .ne, x, y => ¬ x = y
  | .lt, x, y => x < y
  | .ge, x, y => ¬ x < y
  | .gt, x, y => y < x
  | .le, x, y => ¬ y < x
def lN : ClassFile.Cond → Int64 → Int64 → Prop
  | .eq, x, y => ¬ x = y
  | .ne, x, y => x = y
  | .lt, x, y => ¬ x < y
  | .ge, x, y => x < y
  | .gt, x, y => ¬ y < x
  | .le, x, y => y < x
theorem c_or (cd : ClassFile.Cond) (x y : Int32) : (cY cd x y ∧ if_icmp.holds cd x y = true) ∨ (cN cd x y ∧ if_icmp.holds cd x y = false) := by
  cases cd
  · by_cases q : x = y
    · exact Or.inl ⟨q, (teq q).1⟩
    · exact Or.inr ⟨q, (feq q).1⟩
  · by_cases q : x = y
    · exact Or.inr ⟨q, (teq q).2⟩
    · exact Or.inl ⟨q, (feq q).2⟩
  · by_cases q : x < y
    · exact Or.inl ⟨q, (tlt q).1⟩
    · exact Or.inr ⟨q, (flt q).1⟩
  · by_cases q : x < y
    · exact Or.inr ⟨q, (tlt q).2.1⟩
    · exact Or.inl ⟨q, (flt q).2.1⟩
  · by_cases q : y < x
    · exact Or.inl ⟨q, (tlt q).2.2.1⟩
    · exact Or.inr ⟨q, (flt q).2.2.1⟩
  · by_cases q : y < x
    · exact Or.inr ⟨q, (tlt q).2.2.2⟩
    · exact Or.inl ⟨q, (flt q).2.2.2⟩
theorem lY_of (cd : ClassFile.Cond) (x y : Int64) (q : cY cd (lcmpW x y) 0) : lY cd x y := by
  cases cd
  · exact (lw_eq x y).mp q
  · exact fun r => q ((lw_eq x y).mpr r)
  · exact (lw_lt x y).mp q
  · exact fun r => q ((lw_lt x y).mpr r)
  · exact (lw_gt x y).mp q
  · exact fun r => q ((lw_gt x y).mpr r)
theorem lN_of (cd : ClassFile.Cond) (x y : Int64) (q : cN cd (lcmpW x y) 0) : lN cd x y := by
  cases cd
  · exact fun r => q ((lw_eq x y).mpr r)
  · exact (lw_eq x y).mp q
  · exact fun r => q ((lw_lt x y).mpr r)
  · exact (lw_lt x y).mp q
  · exact fun r => q ((lw_gt x y).mpr r)
  · exact (lw_gt x y).mp q

theorem giload (w : W Z own nm bytes mx rt n0 p l e R s m args below meth c k n T h) {j : Nat} {v : Int32} (hd : decode bytes pc = .ok (.iload j, 2)) (hl : Ls[j]? = some (.val (.int v))) (hp : pc + 2 = pc') (K : Go n0 p e below s Q CC NN T (mkF m pc' Ls (.int v :: rest))) : Go n0 p e below s Q CC NN T (mkF m pc Ls (rest)) := by
  obtain ⟨hx, hb, -, -, -, -, -, -, ⟨L, X, -⟩, -⟩ := w
  obtain ⟨s₂, o, st, r⟩ := K
  subst hp hb
  exact ⟨s₂, o, XS.iload X.here hx rfl hd hl st, r⟩
theorem giloadN (w : W Z own nm bytes mx rt n0 p l e R s m args below meth c k n T h) {j : Fin 4} {v : Int32} (hd : decode bytes pc = .ok (.iload_n j, 1)) (hl : Ls[j.val]? = some (.val (.int v))) (hp : pc + 1 = pc') (K : Go n0 p e below s Q CC NN T (mkF m pc' Ls (.int v :: rest))) : Go n0 p e below s Q CC NN T (mkF m pc Ls (rest)) := by
  obtain ⟨hx, hb, -, -, -, -, -, -, ⟨L, X, -⟩, -⟩ := w
  obtain ⟨s₂, o, st, r⟩ := K
  subst hp hb
  exact ⟨s₂, o, XS.iloadN X.here hx rfl hd hl st, r⟩
theorem glload (w : W Z own nm bytes mx rt n0 p l e R s m args below meth c k n T h) {j : Nat} {v : Int64} (hd : decode bytes pc = .ok (.lload j, 2)) (hl : Ls[j]? = some (.val (.long v))) (hp : pc + 2 = pc') (K : Go n0 p e below s Q CC NN T (mkF m pc' Ls (.long v :: rest))) : Go n0 p e below s Q CC NN T (mkF m pc Ls (rest)) := by
  obtain ⟨hx, hb, -, -, -, -, -, -, ⟨L, X, -⟩, -⟩ := w
  obtain ⟨s₂, o, st, r⟩ := K
  subst hp hb
  exact ⟨s₂, o, XS.lload X.here hx rfl hd hl st, r⟩
theorem glloadN (w : W Z own nm bytes mx rt n0 p l e R s m args below meth c k n T h) {j : Fin 4} {v : Int64} (hd : decode bytes pc = .ok (.lload_n j, 1)) (hl : Ls[j.val]? = some (.val (.long v))) (hp : pc + 1 = pc') (K : Go n0 p e below s Q CC NN T (mkF m pc' Ls (.long v :: rest))) : Go n0 p e below s Q CC NN T (mkF m pc Ls (rest)) := by
  obtain ⟨hx, hb, -, -, -, -, -, -, ⟨L, X, -⟩, -⟩ := w
  obtain ⟨s₂, o, st, r⟩ := K
  subst hp hb
  exact ⟨s₂, o, XS.lloadN X.here hx rfl hd hl st, r⟩
theorem gaload (w : W Z own nm bytes mx rt n0 p l e R s m args below meth c k n T h) {j : Nat} {v : Value} (hd : decode bytes pc = .ok (.aload j, 2)) (hl : Ls[j]? = some (.val v)) (hv : v.isRef = true) (hp : pc + 2 = pc') (K : Go n0 p e below s Q CC NN T (mkF m pc' Ls (v :: rest))) : Go n0 p e below s Q CC NN T (mkF m pc Ls (rest)) := by
  obtain ⟨hx, hb, -, -, -, -, -, -, ⟨L, X, -⟩, -⟩ := w
  obtain ⟨s₂, o, st, r⟩ := K
  subst hp hb
  exact ⟨s₂, o, XS.aload X.here hx rfl hd hl hv st, r⟩
theorem galoadN (w : W Z own nm bytes mx rt n0 p l e R s m args below meth c k n T h) {j : Fin 4} {v : Value} (hd : decode bytes pc = .ok (.aload_n j, 1)) (hl : Ls[j.val]? = some (.val v)) (hv : v.isRef = true) (hp : pc + 1 = pc') (K : Go n0 p e below s Q CC NN T (mkF m pc' Ls (v :: rest))) : Go n0 p e below s Q CC NN T (mkF m pc Ls (rest)) := by
  obtain ⟨hx, hb, -, -, -, -, -, -, ⟨L, X, -⟩, -⟩ := w
  obtain ⟨s₂, o, st, r⟩ := K
  subst hp hb
  exact ⟨s₂, o, XS.aloadN X.here hx rfl hd hl hv st, r⟩
theorem gistore (w : W Z own nm bytes mx rt n0 p l e R s m args below meth c k n T h) {j : Nat} {v : Int32} (hd : decode bytes pc = .ok (.istore j, 2)) (hl : storeLocals Ls j (.int v) = some Ls') (hp : pc + 2 = pc') (K : Go n0 p e below s Q CC NN T (mkF m pc' Ls' (rest))) : Go n0 p e below s Q CC NN T (mkF m pc Ls (.int v :: rest)) := by
  obtain ⟨hx, hb, -, -, -, -, -, -, ⟨L, X, -⟩, -⟩ := w
  obtain ⟨s₂, o, st, r⟩ := K
  subst hp hb
  exact ⟨s₂, o, XS.istore X.here hx rfl hd rfl hl st, r⟩
theorem gistoreN (w : W Z own nm bytes mx rt n0 p l e R s m args below meth c k n T h) {j : Fin 4} {v : Int32} (hd : decode bytes pc = .ok (.istore_n j, 1)) (hl : storeLocals Ls j.val (.int v) = some Ls') (hp : pc + 1 = pc') (K : Go n0 p e below s Q CC NN T (mkF m pc' Ls' (rest))) : Go n0 p e below s Q CC NN T (mkF m pc Ls (.int v :: rest)) := by
  obtain ⟨hx, hb, -, -, -, -, -, -, ⟨L, X, -⟩, -⟩ := w
  obtain ⟨s₂, o, st, r⟩ := K
  subst hp hb
  exact ⟨s₂, o, XS.istoreN X.here hx rfl hd rfl hl st, r⟩
theorem glstore (w : W Z own nm bytes mx rt n0 p l e R s m args below meth c k n T h) {j : Nat} {v : Int64} (hd : decode bytes pc = .ok (.lstore j, 2)) (hl : storeLocals Ls j (.long v) = some Ls') (hp : pc + 2 = pc') (K : Go n0 p e below s Q CC NN T (mkF m pc' Ls' (rest))) : Go n0 p e below s Q CC NN T (mkF m pc Ls (.long v :: rest)) := by
  obtain ⟨hx, hb, -, -, -, -, -, -, ⟨L, X, -⟩, -⟩ := w
  obtain ⟨s₂, o, st, r⟩ := K
  subst hp hb
  exact ⟨s₂, o, XS.lstore X.here hx rfl hd rfl hl st, r⟩
theorem glstoreN (w : W Z own nm bytes mx rt n0 p l e R s m args below meth c k n T h) {j : Fin 4} {v : Int64} (hd : decode bytes pc = .ok (.lstore_n j, 1)) (hl : storeLocals Ls j.val (.long v) = some Ls') (hp : pc + 1 = pc') (K : Go n0 p e below s Q CC NN T (mkF m pc' Ls' (rest))) : Go n0 p e below s Q CC NN T (mkF m pc Ls (.long v :: rest)) := by
  obtain ⟨hx, hb, -, -, -, -, -, -, ⟨L, X, -⟩, -⟩ := w
  obtain ⟨s₂, o, st, r⟩ := K
  subst hp hb
  exact ⟨s₂, o, XS.lstoreN X.here hx rfl hd rfl hl st, r⟩
theorem gastore (w : W Z own nm bytes mx rt n0 p l e R s m args below meth c k n T h) {j : Nat} {v : Value} (hd : decode bytes pc = .ok (.astore j, 2)) (hv : v.isRef = true) (hl : storeLocals Ls j v = some Ls') (hp : pc + 2 = pc') (K : Go n0 p e below s Q CC NN T (mkF m pc' Ls' (rest))) : Go n0 p e below s Q CC NN T (mkF m pc Ls (v :: rest)) := by
  obtain ⟨hx, hb, -, -, -, -, -, -, ⟨L, X, -⟩, -⟩ := w
  obtain ⟨s₂, o, st, r⟩ := K
  subst hp hb
  exact ⟨s₂, o, XS.astore X.here hx rfl hd rfl hv hl st, r⟩
theorem gastoreN (w : W Z own nm bytes mx rt n0 p l e R s m args below meth c k n T h) {j : Fin 4} {v : Value} (hd : decode bytes pc = .ok (.astore_n j, 1)) (hv : v.isRef = true) (hl : storeLocals Ls j.val v = some Ls') (hp : pc + 1 = pc') (K : Go n0 p e below s Q CC NN T (mkF m pc' Ls' (rest))) : Go n0 p e below s Q CC NN T (mkF m pc Ls (v :: rest)) := by
  obtain ⟨hx, hb, -, -, -, -, -, -, ⟨L, X, -⟩, -⟩ := w
  obtain ⟨s₂, o, st, r⟩ := K
  subst hp hb
  exact ⟨s₂, o, XS.astoreN X.here hx rfl hd rfl hv hl st, r⟩
theorem giinc (w : W Z own nm bytes mx rt n0 p l e R s m args below meth c k n T h) {j : Nat} {i : Int} {v : Int32} (hd : decode bytes pc = .ok (.iinc j i, 3)) (hl : Ls[j]? = some (.val (.int v))) (hl' : storeLocals Ls j (.int (v + Int32.ofInt i)) = some Ls') (hp : pc + 3 = pc') (K : Go n0 p e below s Q CC NN T (mkF m pc' Ls' (rest))) : Go n0 p e below s Q CC NN T (mkF m pc Ls (rest)) := by
  obtain ⟨hx, hb, -, -, -, -, -, -, ⟨L, X, -⟩, -⟩ := w
  obtain ⟨s₂, o, st, r⟩ := K
  subst hp hb
  exact ⟨s₂, o, XS.iinc X.here hx rfl hd hl hl' st, r⟩
theorem giconst (w : W Z own nm bytes mx rt n0 p l e R s m args below meth c k n T h) {i : Int} {v : Int32} (hd : decode bytes pc = .ok (.iconst i, 1)) (hv : Int32.ofInt i = v) (hp : pc + 1 = pc') (K : Go n0 p e below s Q CC NN T (mkF m pc' Ls (.int v :: rest))) : Go n0 p e below s Q CC NN T (mkF m pc Ls (rest)) := by
  obtain ⟨hx, hb, -, -, -, -, -, -, ⟨L, X, -⟩, -⟩ := w
  obtain ⟨s₂, o, st, r⟩ := K
  subst hp hb hv
  exact ⟨s₂, o, XS.iconst X.here hx rfl hd st, r⟩
theorem gbipush (w : W Z own nm bytes mx rt n0 p l e R s m args below meth c k n T h) {i : Int} {v : Int32} (hd : decode bytes pc = .ok (.bipush i, 2)) (hv : (Int8.ofInt i).toInt32 = v) (hp : pc + 2 = pc') (K : Go n0 p e below s Q CC NN T (mkF m pc' Ls (.int v :: rest))) : Go n0 p e below s Q CC NN T (mkF m pc Ls (rest)) := by
  obtain ⟨hx, hb, -, -, -, -, -, -, ⟨L, X, -⟩, -⟩ := w
  obtain ⟨s₂, o, st, r⟩ := K
  subst hp hb hv
  exact ⟨s₂, o, XS.bipush X.here hx rfl hd st, r⟩
theorem gsipush (w : W Z own nm bytes mx rt n0 p l e R s m args below meth c k n T h) {i : Int} {v : Int32} (hd : decode bytes pc = .ok (.sipush i, 3)) (hv : (Int16.ofInt i).toInt32 = v) (hp : pc + 3 = pc') (K : Go n0 p e below s Q CC NN T (mkF m pc' Ls (.int v :: rest))) : Go n0 p e below s Q CC NN T (mkF m pc Ls (rest)) := by
  obtain ⟨hx, hb, -, -, -, -, -, -, ⟨L, X, -⟩, -⟩ := w
  obtain ⟨s₂, o, st, r⟩ := K
  subst hp hb hv
  exact ⟨s₂, o, XS.sipush X.here hx rfl hd st, r⟩
theorem glconst (w : W Z own nm bytes mx rt n0 p l e R s m args below meth c k n T h) {i : Fin 2} {v : Int64} (hd : decode bytes pc = .ok (.lconst i, 1)) (hv : Int64.ofNat i = v) (hp : pc + 1 = pc') (K : Go n0 p e below s Q CC NN T (mkF m pc' Ls (.long v :: rest))) : Go n0 p e below s Q CC NN T (mkF m pc Ls (rest)) := by
  obtain ⟨hx, hb, -, -, -, -, -, -, ⟨L, X, -⟩, -⟩ := w
  obtain ⟨s₂, o, st, r⟩ := K
  subst hp hb hv
  exact ⟨s₂, o, XS.lconst X.here hx rfl hd st, r⟩
theorem gnull (w : W Z own nm bytes mx rt n0 p l e R s m args below meth c k n T h) (hd : decode bytes pc = .ok (.aconst_null, 1)) (hp : pc + 1 = pc') (K : Go n0 p e below s Q CC NN T (mkF m pc' Ls (.null :: rest))) : Go n0 p e below s Q CC NN T (mkF m pc Ls (rest)) := by
  obtain ⟨hx, hb, -, -, -, -, -, -, ⟨L, X, -⟩, -⟩ := w
  obtain ⟨s₂, o, st, r⟩ := K
  subst hp hb
  exact ⟨s₂, o, XS.aconstNull X.here hx rfl hd  st, r⟩
theorem giadd (w : W Z own nm bytes mx rt n0 p l e R s m args below meth c k n T h) {x y : Int32} (hd : decode bytes pc = .ok (.iadd, 1)) (hp : pc + 1 = pc') (K : Go n0 p e below s Q CC NN T (mkF m pc' Ls (.int (x + y) :: rest))) : Go n0 p e below s Q CC NN T (mkF m pc Ls (.int y :: .int x :: rest)) := by
  obtain ⟨hx, hb, -, -, -, -, -, -, ⟨L, X, -⟩, -⟩ := w
  obtain ⟨s₂, o, st, r⟩ := K
  subst hp hb
  exact ⟨s₂, o, XS.iadd X.here hx rfl hd rfl st, r⟩
theorem gladd (w : W Z own nm bytes mx rt n0 p l e R s m args below meth c k n T h) {x y : Int64} (hd : decode bytes pc = .ok (.ladd, 1)) (hp : pc + 1 = pc') (K : Go n0 p e below s Q CC NN T (mkF m pc' Ls (.long (x + y) :: rest))) : Go n0 p e below s Q CC NN T (mkF m pc Ls (.long y :: .long x :: rest)) := by
  obtain ⟨hx, hb, -, -, -, -, -, -, ⟨L, X, -⟩, -⟩ := w
  obtain ⟨s₂, o, st, r⟩ := K
  subst hp hb
  exact ⟨s₂, o, XS.ladd X.here hx rfl hd rfl st, r⟩
theorem gisub (w : W Z own nm bytes mx rt n0 p l e R s m args below meth c k n T h) {x y : Int32} (hd : decode bytes pc = .ok (.isub, 1)) (hp : pc + 1 = pc') (K : Go n0 p e below s Q CC NN T (mkF m pc' Ls (.int (x - y) :: rest))) : Go n0 p e below s Q CC NN T (mkF m pc Ls (.int y :: .int x :: rest)) := by
  obtain ⟨hx, hb, -, -, -, -, -, -, ⟨L, X, -⟩, -⟩ := w
  obtain ⟨s₂, o, st, r⟩ := K
  subst hp hb
  exact ⟨s₂, o, XS.isub X.here hx rfl hd rfl st, r⟩
theorem glsub (w : W Z own nm bytes mx rt n0 p l e R s m args below meth c k n T h) {x y : Int64} (hd : decode bytes pc = .ok (.lsub, 1)) (hp : pc + 1 = pc') (K : Go n0 p e below s Q CC NN T (mkF m pc' Ls (.long (x - y) :: rest))) : Go n0 p e below s Q CC NN T (mkF m pc Ls (.long y :: .long x :: rest)) := by
  obtain ⟨hx, hb, -, -, -, -, -, -, ⟨L, X, -⟩, -⟩ := w
  obtain ⟨s₂, o, st, r⟩ := K
  subst hp hb
  exact ⟨s₂, o, XS.lsub X.here hx rfl hd rfl st, r⟩
theorem gimul (w : W Z own nm bytes mx rt n0 p l e R s m args below meth c k n T h) {x y : Int32} (hd : decode bytes pc = .ok (.imul, 1)) (hp : pc + 1 = pc') (K : Go n0 p e below s Q CC NN T (mkF m pc' Ls (.int (x * y) :: rest))) : Go n0 p e below s Q CC NN T (mkF m pc Ls (.int y :: .int x :: rest)) := by
  obtain ⟨hx, hb, -, -, -, -, -, -, ⟨L, X, -⟩, -⟩ := w
  obtain ⟨s₂, o, st, r⟩ := K
  subst hp hb
  exact ⟨s₂, o, XS.imul X.here hx rfl hd rfl st, r⟩
theorem glmul (w : W Z own nm bytes mx rt n0 p l e R s m args below meth c k n T h) {x y : Int64} (hd : decode bytes pc = .ok (.lmul, 1)) (hp : pc + 1 = pc') (K : Go n0 p e below s Q CC NN T (mkF m pc' Ls (.long (x * y) :: rest))) : Go n0 p e below s Q CC NN T (mkF m pc Ls (.long y :: .long x :: rest)) := by
  obtain ⟨hx, hb, -, -, -, -, -, -, ⟨L, X, -⟩, -⟩ := w
  obtain ⟨s₂, o, st, r⟩ := K
  subst hp hb
  exact ⟨s₂, o, XS.lmul X.here hx rfl hd rfl st, r⟩
theorem giand (w : W Z own nm bytes mx rt n0 p l e R s m args below meth c k n T h) {x y : Int32} (hd : decode bytes pc = .ok (.iand, 1)) (hp : pc + 1 = pc') (K : Go n0 p e below s Q CC NN T (mkF m pc' Ls (.int (x &&& y) :: rest))) : Go n0 p e below s Q CC NN T (mkF m pc Ls (.int y :: .int x :: rest)) := by
  obtain ⟨hx, hb, -, -, -, -, -, -, ⟨L, X, -⟩, -⟩ := w
  obtain ⟨s₂, o, st, r⟩ := K
  subst hp hb
  exact ⟨s₂, o, XS.iand X.here hx rfl hd rfl st, r⟩
theorem gland (w : W Z own nm bytes mx rt n0 p l e R s m args below meth c k n T h) {x y : Int64} (hd : decode bytes pc = .ok (.land, 1)) (hp : pc + 1 = pc') (K : Go n0 p e below s Q CC NN T (mkF m pc' Ls (.long (x &&& y) :: rest))) : Go n0 p e below s Q CC NN T (mkF m pc Ls (.long y :: .long x :: rest)) := by
  obtain ⟨hx, hb, -, -, -, -, -, -, ⟨L, X, -⟩, -⟩ := w
  obtain ⟨s₂, o, st, r⟩ := K
  subst hp hb
  exact ⟨s₂, o, XS.land X.here hx rfl hd rfl st, r⟩
theorem gior (w : W Z own nm bytes mx rt n0 p l e R s m args below meth c k n T h) {x y : Int32} (hd : decode bytes pc = .ok (.ior, 1)) (hp : pc + 1 = pc') (K : Go n0 p e below s Q CC NN T (mkF m pc' Ls (.int (x ||| y) :: rest))) : Go n0 p e below s Q CC NN T (mkF m pc Ls (.int y :: .int x :: rest)) := by
  obtain ⟨hx, hb, -, -, -, -, -, -, ⟨L, X, -⟩, -⟩ := w
  obtain ⟨s₂, o, st, r⟩ := K
  subst hp hb
  exact ⟨s₂, o, XS.ior X.here hx rfl hd rfl st, r⟩
theorem glor (w : W Z own nm bytes mx rt n0 p l e R s m args below meth c k n T h) {x y : Int64} (hd : decode bytes pc = .ok (.lor, 1)) (hp : pc + 1 = pc') (K : Go n0 p e below s Q CC NN T (mkF m pc' Ls (.long (x ||| y) :: rest))) : Go n0 p e below s Q CC NN T (mkF m pc Ls (.long y :: .long x :: rest)) := by
  obtain ⟨hx, hb, -, -, -, -, -, -, ⟨L, X, -⟩, -⟩ := w
  obtain ⟨s₂, o, st, r⟩ := K
  subst hp hb
  exact ⟨s₂, o, XS.lor X.here hx rfl hd rfl st, r⟩
theorem gixor (w : W Z own nm bytes mx rt n0 p l e R s m args below meth c k n T h) {x y : Int32} (hd : decode bytes pc = .ok (.ixor, 1)) (hp : pc + 1 = pc') (K : Go n0 p e below s Q CC NN T (mkF m pc' Ls (.int (x ^^^ y) :: rest))) : Go n0 p e below s Q CC NN T (mkF m pc Ls (.int y :: .int x :: rest)) := by
  obtain ⟨hx, hb, -, -, -, -, -, -, ⟨L, X, -⟩, -⟩ := w
  obtain ⟨s₂, o, st, r⟩ := K
  subst hp hb
  exact ⟨s₂, o, XS.ixor X.here hx rfl hd rfl st, r⟩
theorem glxor (w : W Z own nm bytes mx rt n0 p l e R s m args below meth c k n T h) {x y : Int64} (hd : decode bytes pc = .ok (.lxor, 1)) (hp : pc + 1 = pc') (K : Go n0 p e below s Q CC NN T (mkF m pc' Ls (.long (x ^^^ y) :: rest))) : Go n0 p e below s Q CC NN T (mkF m pc Ls (.long y :: .long x :: rest)) := by
  obtain ⟨hx, hb, -, -, -, -, -, -, ⟨L, X, -⟩, -⟩ := w
  obtain ⟨s₂, o, st, r⟩ := K
  subst hp hb
  exact ⟨s₂, o, XS.lxor X.here hx rfl hd rfl st, r⟩
theorem gineg (w : W Z own nm bytes mx rt n0 p l e R s m args below meth c k n T h) {x : Int32} (hd : decode bytes pc = .ok (.ineg, 1)) (hp : pc + 1 = pc') (K : Go n0 p e below s Q CC NN T (mkF m pc' Ls (.int (-x) :: rest))) : Go n0 p e below s Q CC NN T (mkF m pc Ls (.int x :: rest)) := by
  obtain ⟨hx, hb, -, -, -, -, -, -, ⟨L, X, -⟩, -⟩ := w
  obtain ⟨s₂, o, st, r⟩ := K
  subst hp hb
  exact ⟨s₂, o, XS.ineg X.here hx rfl hd rfl st, r⟩
theorem gidiv (w : W Z own nm bytes mx rt n0 p l e R s m args below meth c k n T h) {x y : Int32} (hd : decode bytes pc = .ok (.idiv, 1)) (hy : y ≠ 0) (hp : pc + 1 = pc') (K : Go n0 p e below s Q CC NN T (mkF m pc' Ls (.int (x / y) :: rest))) : Go n0 p e below s Q CC NN T (mkF m pc Ls (.int y :: .int x :: rest)) := by
  obtain ⟨hx, hb, -, -, -, -, -, -, ⟨L, X, -⟩, -⟩ := w
  obtain ⟨s₂, o, st, r⟩ := K
  subst hp hb
  exact ⟨s₂, o, XS.idiv X.here hx rfl hd rfl hy st, r⟩
theorem gldiv (w : W Z own nm bytes mx rt n0 p l e R s m args below meth c k n T h) {x y : Int64} (hd : decode bytes pc = .ok (.ldiv, 1)) (hy : y ≠ 0) (hp : pc + 1 = pc') (K : Go n0 p e below s Q CC NN T (mkF m pc' Ls (.long (x / y) :: rest))) : Go n0 p e below s Q CC NN T (mkF m pc Ls (.long y :: .long x :: rest)) := by
  obtain ⟨hx, hb, -, -, -, -, -, -, ⟨L, X, -⟩, -⟩ := w
  obtain ⟨s₂, o, st, r⟩ := K
  subst hp hb
  exact ⟨s₂, o, XS.ldiv X.here hx rfl hd rfl hy st, r⟩
theorem girem (w : W Z own nm bytes mx rt n0 p l e R s m args below meth c k n T h) {x y : Int32} (hd : decode bytes pc = .ok (.irem, 1)) (hy : y ≠ 0) (hp : pc + 1 = pc') (K : Go n0 p e below s Q CC NN T (mkF m pc' Ls (.int (x - (x / y) * y) :: rest))) : Go n0 p e below s Q CC NN T (mkF m pc Ls (.int y :: .int x :: rest)) := by
  obtain ⟨hx, hb, -, -, -, -, -, -, ⟨L, X, -⟩, -⟩ := w
  obtain ⟨s₂, o, st, r⟩ := K
  subst hp hb
  exact ⟨s₂, o, XS.irem X.here hx rfl hd rfl hy st, r⟩
theorem glrem (w : W Z own nm bytes mx rt n0 p l e R s m args below meth c k n T h) {x y : Int64} (hd : decode bytes pc = .ok (.lrem, 1)) (hy : y ≠ 0) (hp : pc + 1 = pc') (K : Go n0 p e below s Q CC NN T (mkF m pc' Ls (.long (x - (x / y) * y) :: rest))) : Go n0 p e below s Q CC NN T (mkF m pc Ls (.long y :: .long x :: rest)) := by
  obtain ⟨hx, hb, -, -, -, -, -, -, ⟨L, X, -⟩, -⟩ := w
  obtain ⟨s₂, o, st, r⟩ := K
  subst hp hb
  exact ⟨s₂, o, XS.lrem X.here hx rfl hd rfl hy st, r⟩
theorem gishl (w : W Z own nm bytes mx rt n0 p l e R s m args below meth c k n T h) {x : Int32} {y : Int32} (hd : decode bytes pc = .ok (.ishl, 1)) (hp : pc + 1 = pc') (K : Go n0 p e below s Q CC NN T (mkF m pc' Ls (.int (x <<< (y &&& 31)) :: rest))) : Go n0 p e below s Q CC NN T (mkF m pc Ls (.int y :: .int x :: rest)) := by
  obtain ⟨hx, hb, -, -, -, -, -, -, ⟨L, X, -⟩, -⟩ := w
  obtain ⟨s₂, o, st, r⟩ := K
  subst hp hb
  exact ⟨s₂, o, XS.ishl X.here hx rfl hd rfl st, r⟩
theorem gishr (w : W Z own nm bytes mx rt n0 p l e R s m args below meth c k n T h) {x : Int32} {y : Int32} (hd : decode bytes pc = .ok (.ishr, 1)) (hp : pc + 1 = pc') (K : Go n0 p e below s Q CC NN T (mkF m pc' Ls (.int (x >>> (y &&& 31)) :: rest))) : Go n0 p e below s Q CC NN T (mkF m pc Ls (.int y :: .int x :: rest)) := by
  obtain ⟨hx, hb, -, -, -, -, -, -, ⟨L, X, -⟩, -⟩ := w
  obtain ⟨s₂, o, st, r⟩ := K
  subst hp hb
  exact ⟨s₂, o, XS.ishr X.here hx rfl hd rfl st, r⟩
theorem giushr (w : W Z own nm bytes mx rt n0 p l e R s m args below meth c k n T h) {x : Int32} {y : Int32} (hd : decode bytes pc = .ok (.iushr, 1)) (hp : pc + 1 = pc') (K : Go n0 p e below s Q CC NN T (mkF m pc' Ls (.int ((x.toUInt32 >>> (y &&& 31).toUInt32).toInt32) :: rest))) : Go n0 p e below s Q CC NN T (mkF m pc Ls (.int y :: .int x :: rest)) := by
  obtain ⟨hx, hb, -, -, -, -, -, -, ⟨L, X, -⟩, -⟩ := w
  obtain ⟨s₂, o, st, r⟩ := K
  subst hp hb
  exact ⟨s₂, o, XS.iushr X.here hx rfl hd rfl st, r⟩
theorem glshl (w : W Z own nm bytes mx rt n0 p l e R s m args below meth c k n T h) {x : Int64} {y : Int32} (hd : decode bytes pc = .ok (.lshl, 1)) (hp : pc + 1 = pc') (K : Go n0 p e below s Q CC NN T (mkF m pc' Ls (.long (x <<< (y &&& 0x3f).toInt64) :: rest))) : Go n0 p e below s Q CC NN T (mkF m pc Ls (.int y :: .long x :: rest)) := by
  obtain ⟨hx, hb, -, -, -, -, -, -, ⟨L, X, -⟩, -⟩ := w
  obtain ⟨s₂, o, st, r⟩ := K
  subst hp hb
  exact ⟨s₂, o, XS.lshl X.here hx rfl hd rfl st, r⟩
theorem glshr (w : W Z own nm bytes mx rt n0 p l e R s m args below meth c k n T h) {x : Int64} {y : Int32} (hd : decode bytes pc = .ok (.lshr, 1)) (hp : pc + 1 = pc') (K : Go n0 p e below s Q CC NN T (mkF m pc' Ls (.long (x >>> (y &&& 0x3f).toInt64) :: rest))) : Go n0 p e below s Q CC NN T (mkF m pc Ls (.int y :: .long x :: rest)) := by
  obtain ⟨hx, hb, -, -, -, -, -, -, ⟨L, X, -⟩, -⟩ := w
  obtain ⟨s₂, o, st, r⟩ := K
  subst hp hb
  exact ⟨s₂, o, XS.lshr X.here hx rfl hd rfl st, r⟩
theorem glushr (w : W Z own nm bytes mx rt n0 p l e R s m args below meth c k n T h) {x : Int64} {y : Int32} (hd : decode bytes pc = .ok (.lushr, 1)) (hp : pc + 1 = pc') (K : Go n0 p e below s Q CC NN T (mkF m pc' Ls (.long ((x.toUInt64 >>> (y &&& 0x3f).toInt64.toUInt64).toInt64) :: rest))) : Go n0 p e below s Q CC NN T (mkF m pc Ls (.int y :: .long x :: rest)) := by
  obtain ⟨hx, hb, -, -, -, -, -, -, ⟨L, X, -⟩, -⟩ := w
  obtain ⟨s₂, o, st, r⟩ := K
  subst hp hb
  exact ⟨s₂, o, XS.lushr X.here hx rfl hd rfl st, r⟩
theorem gi2b (w : W Z own nm bytes mx rt n0 p l e R s m args below meth c k n T h) {v : Int32} (hd : decode bytes pc = .ok (.i2b, 1)) (hp : pc + 1 = pc') (K : Go n0 p e below s Q CC NN T (mkF m pc' Ls (.int (v.toInt8.toInt32) :: rest))) : Go n0 p e below s Q CC NN T (mkF m pc Ls (.int v :: rest)) := by
  obtain ⟨hx, hb, -, -, -, -, -, -, ⟨L, X, -⟩, -⟩ := w
  obtain ⟨s₂, o, st, r⟩ := K
  subst hp hb
  exact ⟨s₂, o, XS.i2b X.here hx rfl hd rfl st, r⟩
theorem gi2c (w : W Z own nm bytes mx rt n0 p l e R s m args below meth c k n T h) {v : Int32} (hd : decode bytes pc = .ok (.i2c, 1)) (hp : pc + 1 = pc') (K : Go n0 p e below s Q CC NN T (mkF m pc' Ls (.int (v.toUInt32.toUInt16.toUInt32.toInt32) :: rest))) : Go n0 p e below s Q CC NN T (mkF m pc Ls (.int v :: rest)) := by
  obtain ⟨hx, hb, -, -, -, -, -, -, ⟨L, X, -⟩, -⟩ := w
  obtain ⟨s₂, o, st, r⟩ := K
  subst hp hb
  exact ⟨s₂, o, XS.i2c X.here hx rfl hd rfl st, r⟩
theorem gi2l (w : W Z own nm bytes mx rt n0 p l e R s m args below meth c k n T h) {v : Int32} (hd : decode bytes pc = .ok (.i2l, 1)) (hp : pc + 1 = pc') (K : Go n0 p e below s Q CC NN T (mkF m pc' Ls (.long (v.toInt64) :: rest))) : Go n0 p e below s Q CC NN T (mkF m pc Ls (.int v :: rest)) := by
  obtain ⟨hx, hb, -, -, -, -, -, -, ⟨L, X, -⟩, -⟩ := w
  obtain ⟨s₂, o, st, r⟩ := K
  subst hp hb
  exact ⟨s₂, o, XS.i2l X.here hx rfl hd rfl st, r⟩
theorem gl2i (w : W Z own nm bytes mx rt n0 p l e R s m args below meth c k n T h) {v : Int64} (hd : decode bytes pc = .ok (.l2i, 1)) (hp : pc + 1 = pc') (K : Go n0 p e below s Q CC NN T (mkF m pc' Ls (.int (v.toInt32) :: rest))) : Go n0 p e below s Q CC NN T (mkF m pc Ls (.long v :: rest)) := by
  obtain ⟨hx, hb, -, -, -, -, -, -, ⟨L, X, -⟩, -⟩ := w
  obtain ⟨s₂, o, st, r⟩ := K
  subst hp hb
  exact ⟨s₂, o, XS.l2i X.here hx rfl hd rfl st, r⟩
theorem gdup (w : W Z own nm bytes mx rt n0 p l e R s m args below meth c k n T h) {x : Value} (hd : decode bytes pc = .ok (.dup, 1)) (hc : x.category = 1) (hp : pc + 1 = pc') (K : Go n0 p e below s Q CC NN T (mkF m pc' Ls (x :: x :: rest))) : Go n0 p e below s Q CC NN T (mkF m pc Ls (x :: rest)) := by
  obtain ⟨hx, hb, -, -, -, -, -, -, ⟨L, X, -⟩, -⟩ := w
  obtain ⟨s₂, o, st, r⟩ := K
  subst hp hb
  exact ⟨s₂, o, XS.dup X.here hx rfl hd rfl hc st, r⟩
theorem gpop (w : W Z own nm bytes mx rt n0 p l e R s m args below meth c k n T h) {x : Value} (hd : decode bytes pc = .ok (.pop, 1)) (hc : x.category = 1) (hp : pc + 1 = pc') (K : Go n0 p e below s Q CC NN T (mkF m pc' Ls (rest))) : Go n0 p e below s Q CC NN T (mkF m pc Ls (x :: rest)) := by
  obtain ⟨hx, hb, -, -, -, -, -, -, ⟨L, X, -⟩, -⟩ := w
  obtain ⟨s₂, o, st, r⟩ := K
  subst hp hb
  exact ⟨s₂, o, XS.pop X.here hx rfl hd rfl hc st, r⟩
theorem gdupx1 (w : W Z own nm bytes mx rt n0 p l e R s m args below meth c k n T h) {x y : Value} (hd : decode bytes pc = .ok (.dup_x1, 1)) (hc : x.category = 1) (hc2 : y.category = 1) (hp : pc + 1 = pc') (K : Go n0 p e below s Q CC NN T (mkF m pc' Ls (x :: y :: x :: rest))) : Go n0 p e below s Q CC NN T (mkF m pc Ls (x :: y :: rest)) := by
  obtain ⟨hx, hb, -, -, -, -, -, -, ⟨L, X, -⟩, -⟩ := w
  obtain ⟨s₂, o, st, r⟩ := K
  subst hp hb
  exact ⟨s₂, o, XS.dupX1 X.here hx rfl hd rfl hc hc2 st, r⟩
theorem ggoto (w : W Z own nm bytes mx rt n0 p l e R s m args below meth c k n T h) {o : Int} (hd : decode bytes pc = .ok (.goto o, 3)) (ho : 0 ≤ (pc : Int) + o) (hp : ((pc : Int) + o).toNat = pc') (K : Go n0 p e below s Q CC NN T (mkF m pc' Ls rest)) : Go n0 p e below s Q CC NN T (mkF m pc Ls rest) := by
  obtain ⟨hx, hb, -, -, -, -, -, -, ⟨L, X, -⟩, -⟩ := w
  obtain ⟨s₂, q, st, r⟩ := K
  subst hb
  exact ⟨s₂, q, XS.goto X.here hx rfl rfl hd ho hp st, r⟩
theorem gif (w : W Z own nm bytes mx rt n0 p l e R s m args below meth c k n T h) {cd : ClassFile.Cond} {x : Int32} {o : Int} {pt pf : Nat} (hd : decode bytes pc = .ok (.ifCond cd o, 3)) (ho : 0 ≤ (pc : Int) + o) (ht : ((pc : Int) + o).toNat = pt) (hf : pc + 3 = pf)
    (Kt : cY cd x 0 → Go n0 p e below s Q CC NN T (mkF m pt Ls rest)) (Kf : cN cd x 0 → Go n0 p e below s Q CC NN T (mkF m pf Ls rest)) : Go n0 p e below s Q CC NN T (mkF m pc Ls (.int x :: rest)) := by
  obtain ⟨hx, hb, -, -, -, -, -, -, ⟨L, X, -⟩, -⟩ := w
  subst hb hf
  rcases c_or cd x 0 with ⟨q, q'⟩ | ⟨q, q'⟩
  · obtain ⟨s₂, z, st, r⟩ := Kt q
    exact ⟨s₂, z, XS.ifYes X.here hx rfl rfl hd rfl ((if0 _ _).trans q') ho ht st, r⟩
  · obtain ⟨s₂, z, st, r⟩ := Kf q
    exact ⟨s₂, z, XS.ifNo X.here hx rfl hd rfl ((if0 _ _).trans q') st, r⟩
theorem gicmp (w : W Z own nm bytes mx rt n0 p l e R s m args below meth c k n T h) {cd : ClassFile.Cond} {x y : Int32} {o : Int} {pt pf : Nat} (hd : decode bytes pc = .ok (.if_icmp cd o, 3)) (ho : 0 ≤ (pc : Int) + o) (ht : ((pc : Int) + o).toNat = pt) (hf : pc + 3 = pf)
    (Kt : cY cd x y → Go n0 p e below s Q CC NN T (mkF m pt Ls rest)) (Kf : cN cd x y → Go n0 p e below s Q CC NN T (mkF m pf Ls rest)) : Go n0 p e below s Q CC NN T (mkF m pc Ls (.int y :: .int x :: rest)) := by
  obtain ⟨hx, hb, -, -, -, -, -, -, ⟨L, X, -⟩, -⟩ := w
  subst hb hf
  rcases c_or cd x y with ⟨q, q'⟩ | ⟨q, q'⟩
  · obtain ⟨s₂, z, st, r⟩ := Kt q
    exact ⟨s₂, z, XS.icmpYes X.here hx rfl rfl hd rfl q' ho ht st, r⟩
  · obtain ⟨s₂, z, st, r⟩ := Kf q
    exact ⟨s₂, z, XS.icmpNo X.here hx rfl hd rfl q' st, r⟩
theorem glcmpif (w : W Z own nm bytes mx rt n0 p l e R s m args below meth c k n T h) {cd : ClassFile.Cond} {x y : Int64} {o : Int} {pm pt pf : Nat} (hd0 : decode bytes pc = .ok (.lcmp, 1)) (hm : pc + 1 = pm) (hd : decode bytes pm = .ok (.ifCond cd o, 3)) (ho : 0 ≤ (pm : Int) + o) (ht : ((pm : Int) + o).toNat = pt) (hf : pm + 3 = pf)
    (Kt : lY cd x y → Go n0 p e below s Q CC NN T (mkF m pt Ls rest)) (Kf : lN cd x y → Go n0 p e below s Q CC NN T (mkF m pf Ls rest)) : Go n0 p e below s Q CC NN T (mkF m pc Ls (.long y :: .long x :: rest)) := by
  have K : Go n0 p e below s Q CC NN T (mkF m pm Ls (.int (lcmpW x y) :: rest)) := gif w hd ho ht hf (fun q => Kt (lY_of cd x y q)) (fun q => Kf (lN_of cd x y q))
  obtain ⟨hx, hb, -, -, -, -, -, -, ⟨L, X, -⟩, -⟩ := w
  obtain ⟨s₂, z, st, r⟩ := K
  subst hb hm
  exact ⟨s₂, z, XS.lcmp X.here hx rfl hd0 rfl st, r⟩
theorem gacmp (w : W Z own nm bytes mx rt n0 p l e R s m args below meth c k n T h) {cd : ClassFile.ACond} {x y : Value} {o : Int} {pt pf : Nat} (hd : decode bytes pc = .ok (.if_acmp cd o, 3)) (ho : 0 ≤ (pc : Int) + o) (h1 : x.isRef = true) (h2 : y.isRef = true) (ht : (if acV cd true = true then ((pc : Int) + o).toNat else pc + 3) = pt) (hf : (if acV cd false = true then ((pc : Int) + o).toNat else pc + 3) = pf)
    (Ke : x = y → Go n0 p e below s Q CC NN T (mkF m pt Ls rest)) (Kn : ¬ x = y → Go n0 p e below s Q CC NN T (mkF m pf Ls rest)) : Go n0 p e below s Q CC NN T (mkF m pc Ls (y :: x :: rest)) := by
  obtain ⟨hx, hb, -, -, -, -, -, -, ⟨L, X, -⟩, -⟩ := w
  subst hb
  by_cases q : x = y
  · obtain ⟨s₂, z, st, r⟩ := Ke q
    exact ⟨s₂, z, Jvm.RoadKit.acmp (g := mkF m pc Ls (y :: x :: rest)) X hx rfl h1 h2 (same := true) rfl hd rfl (decide_eq_true q) ho ht.symm st, r⟩
  · obtain ⟨s₂, z, st, r⟩ := Kn q
    exact ⟨s₂, z, Jvm.RoadKit.acmp (g := mkF m pc Ls (y :: x :: rest)) X hx rfl h1 h2 (same := false) rfl hd rfl (decide_eq_false q) ho hf.symm st, r⟩
theorem gifnullY (w : W Z own nm bytes mx rt n0 p l e R s m args below meth c k n T h) {o : Int} (hd : decode bytes pc = .ok (.ifnull o, 3)) (ho : 0 ≤ (pc : Int) + o) (hp : ((pc : Int) + o).toNat = pc') (K : Go n0 p e below s Q CC NN T (mkF m pc' Ls rest)) : Go n0 p e below s Q CC NN T (mkF m pc Ls (.null :: rest)) := by
  obtain ⟨hx, hb, -, -, -, -, -, -, ⟨L, X, -⟩, -⟩ := w
  obtain ⟨s₂, q, st, r⟩ := K
  subst hb
  exact ⟨s₂, q, XS.ifnullYes X.here hx rfl rfl hd rfl ho hp st, r⟩
theorem gifnullN (w : W Z own nm bytes mx rt n0 p l e R s m args below meth c k n T h) {o : Int} {b : Addr} (hd : decode bytes pc = .ok (.ifnull o, 3)) (hp : pc + 3 = pc') (K : Go n0 p e below s Q CC NN T (mkF m pc' Ls rest)) : Go n0 p e below s Q CC NN T (mkF m pc Ls (.ref b :: rest)) := by
  obtain ⟨hx, hb, -, -, -, -, -, -, ⟨L, X, -⟩, -⟩ := w
  obtain ⟨s₂, q, st, r⟩ := K
  subst hb hp
  exact ⟨s₂, q, XS.ifnullNo X.here hx rfl hd rfl st, r⟩
theorem gifnonnullY (w : W Z own nm bytes mx rt n0 p l e R s m args below meth c k n T h) {o : Int} {b : Addr} (hd : decode bytes pc = .ok (.ifnonnull o, 3)) (ho : 0 ≤ (pc : Int) + o) (hp : ((pc : Int) + o).toNat = pc') (K : Go n0 p e below s Q CC NN T (mkF m pc' Ls rest)) : Go n0 p e below s Q CC NN T (mkF m pc Ls (.ref b :: rest)) := by
  obtain ⟨hx, hb, -, -, -, -, -, -, ⟨L, X, -⟩, -⟩ := w
  obtain ⟨s₂, q, st, r⟩ := K
  subst hb
  exact ⟨s₂, q, XS.ifnonnullYes X.here hx rfl rfl hd rfl ho hp st, r⟩
theorem gifnonnullN (w : W Z own nm bytes mx rt n0 p l e R s m args below meth c k n T h) {o : Int} (hd : decode bytes pc = .ok (.ifnonnull o, 3)) (hp : pc + 3 = pc') (K : Go n0 p e below s Q CC NN T (mkF m pc' Ls rest)) : Go n0 p e below s Q CC NN T (mkF m pc Ls (.null :: rest)) := by
  obtain ⟨hx, hb, -, -, -, -, -, -, ⟨L, X, -⟩, -⟩ := w
  obtain ⟨s₂, q, st, r⟩ := K
  subst hb hp
  exact ⟨s₂, q, XS.ifnonnullNo X.here hx rfl hd rfl st, r⟩
theorem gldc2 (w : W Z own nm bytes mx rt n0 p l e R s m args below meth c k n T h) {index : Nat} {v : Int64} (hd : decode bytes pc = .ok (.ldc2_w index, 3)) (w1 : (Jvm.Cond.constantLong own index v).before a0 Z = true) (hp : pc + 3 = pc') (K : Go n0 p e below s Q CC NN T (mkF m pc' Ls (.long v :: rest))) : Go n0 p e below s Q CC NN T (mkF m pc Ls rest) := by
  obtain ⟨hx, hb, hown, hZ, -, -, -, -, ⟨L, X, -⟩, -⟩ := w
  obtain ⟨s₂, q, st, r⟩ := K
  subst hb hp
  exact ⟨s₂, q, X.ldc2Long hx hown (mvT hZ w1) (g := mkF m pc Ls rest) rfl hd _ st, r⟩
theorem gldcI (w : W Z own nm bytes mx rt n0 p l e R s m args below meth c k n T h) {index : Nat} {v : Int32} (hd : decode bytes pc = .ok (.ldc index, 2)) (w1 : (Jvm.Cond.constant own index v).before a0 Z = true) (hp : pc + 2 = pc') (K : Go n0 p e below s Q CC NN T (mkF m pc' Ls (.int v :: rest))) : Go n0 p e below s Q CC NN T (mkF m pc Ls rest) := by
  obtain ⟨hx, hb, hown, hZ, -, -, -, -, ⟨L, X, -⟩, -⟩ := w
  obtain ⟨s₂, q, st, r⟩ := K
  subst hb hp
  exact ⟨s₂, q, X.ldcInt hx hown (mvT hZ w1) (g := mkF m pc Ls rest) rfl hd _ st, r⟩

theorem ggetF (w : W Z own nm bytes mx rt n0 p l e R s m args below meth c k n T h) {index : Nat} {O n' d : String} {a : Addr} {v : Value} (hd : decode bytes pc = .ok (.getfield index, 3)) (w1 : (Jvm.Cond.fieldLink own index O n' d).before a0 Z = true) (F : Fld Z h a O n' d v) (hp : pc + 3 = pc')
    (K : ∀ T', W Z own nm bytes mx rt n0 p l e R s m args below meth c k n T' h → Go n0 p e below s Q CC NN T' (mkF m pc' Ls (v :: rest))) : Go n0 p e below s Q CC NN T (mkF m pc Ls (.ref a :: rest)) := by
  obtain ⟨hx, hb, hown, hZ, r1, r2, r3, r4, ⟨L, X, N⟩, eT⟩ := w
  obtain ⟨T', X', e', st⟩ := getF X hx hZ hown (host := "") (Or.inl w1) Via.refl eT F (g := mkF m pc Ls (.ref a :: rest)) rfl rfl (by rw [hb]; exact hd)
  obtain ⟨s₂, q, st', r⟩ := K T' ⟨hx, hb, hown, hZ, r1, r2, r3, r4, ⟨L, X', N⟩, e'⟩
  subst hp
  exact ⟨s₂, q, st _ st', r⟩
theorem ggetS (w : W Z own nm bytes mx rt n0 p l e R s m args below meth c k n T h) {index : Nat} {O n' d : String} {v : Value} (hd : decode bytes pc = .ok (.getstatic index, 3)) (w1 : (Jvm.Cond.fieldLink own index O n' d).before a0 Z = true) (F : Sta Z h O n' d v) (hp : pc + 3 = pc')
    (K : ∀ T', W Z own nm bytes mx rt n0 p l e R s m args below meth c k n T' h → Go n0 p e below s Q CC NN T' (mkF m pc' Ls (v :: rest))) : Go n0 p e below s Q CC NN T (mkF m pc Ls rest) := by
  obtain ⟨hx, hb, hown, hZ, r1, r2, r3, r4, ⟨L, X, N⟩, eT⟩ := w
  obtain ⟨T', X', e', st⟩ := getS (host := "") X hx hZ hown w1 Via.refl eT F (g := mkF m pc Ls rest) rfl (by rw [hb]; exact hd)
  obtain ⟨s₂, q, st', r⟩ := K T' ⟨hx, hb, hown, hZ, r1, r2, r3, r4, ⟨L, X', N⟩, e'⟩
  subst hp
  exact ⟨s₂, q, st _ st', r⟩
theorem ggetSN (w : W Z own nm bytes mx rt n0 p l e R s m args below meth c k n T h) {index : Nat} {O n' d host : String} {v : Value} (hd : decode bytes pc = .ok (.getstatic index, 3)) (w1 : (Jvm.Cond.fieldLinkNest own index O n' d host).before a0 Z = true) (F : Sta Z h O n' d v) (hp : pc + 3 = pc')
    (K : ∀ T', W Z own nm bytes mx rt n0 p l e R s m args below meth c k n T' h → Go n0 p e below s Q CC NN T' (mkF m pc' Ls (v :: rest))) : Go n0 p e below s Q CC NN T (mkF m pc Ls rest) := by
  obtain ⟨hx, hb, hown, hZ, r1, r2, r3, r4, ⟨L, X, N⟩, eT⟩ := w
  obtain ⟨T', X', e', st⟩ := getS2 X hx hZ hown (Or.inr w1) Via.refl eT F (g := mkF m pc Ls rest) rfl (by rw [hb]; exact hd)
  obtain ⟨s₂, q, st', r⟩ := K T' ⟨hx, hb, hown, hZ, r1, r2, r3, r4, ⟨L, X', N⟩, e'⟩
  subst hp
  exact ⟨s₂, q, st _ st', r⟩
/-- putfield: what is written may be narrowed (v to v') -/
theorem gputF (w : W Z own nm bytes mx rt n0 p l e R s m args below meth c k n T h) {index kk : Nat} {O n' d C : String} {ty : FieldType} {a : Addr} {v v' old : Value} (hd : decode bytes pc = .ok (.putfield index, 3)) (w1 : (Jvm.Cond.fieldLink own index O n' d).before a0 Z = true) (F : Fld Z h a O n' d old) (E : Exa Z h a C)
    (LL : (Jvm.Cond.lays C O n' d).before a0 Z = true ∨ ((Jvm.Cond.laysFinal C O n' d).before a0 Z = true ∧ own = O ∧ nm = "<init>")) (wi : (Jvm.Cond.instantiable C kk).before a0 Z = true) (hty : parseFieldDescriptor d = some ty) (hn : narrow ty v = v') (hf : fits ty v' = true) (hna : n0 ≤ a) (hp : pc + 3 = pc')
    (K : ∀ T' h', W Z own nm bytes mx rt n0 p l e R s m args below meth c k n T' h' → Wr h h' a (Jvm.RoadKit.slotOf Z O n' d) v' → Go n0 p e below s Q CC NN T' (mkF m pc' Ls rest)) : Go n0 p e below s Q CC NN T (mkF m pc Ls (v :: .ref a :: rest)) := by
  obtain ⟨hx, hb, hown, hZ, r1, r2, r3, r4, ⟨L, X, N⟩, eT⟩ := w
  obtain ⟨T', h', X', e', Wx, st⟩ := putFN X hx hZ hown w1 Via.refl eT F E (LL.imp id fun q => ⟨q.1, q.2.1, r2.trans q.2.2⟩) wi hty hn hf (g := mkF m pc Ls (v :: .ref a :: rest)) rfl rfl (by rw [hb]; exact hd)
  obtain ⟨s₂, q, st', r⟩ := K T' h' ⟨hx, hb, hown, hZ, r1, r2, r3, r4, ⟨_, X', Fr.snoc X' N hna⟩, e'⟩ Wx
  subst hp
  exact ⟨s₂, q, st _ st', r⟩
theorem gnewO (w : W Z own nm bytes mx rt n0 p l e R s m args below meth c k n T h) {index j : Nat} {C : String} (hd : decode bytes pc = .ok (.new index, 3)) (w1 : (Jvm.Cond.classLink own index C).before a0 Z = true) (wi : (Jvm.Cond.instantiable C j).before a0 Z = true) (wz : (Jvm.Cond.initialized C).before a0 Z = true) (hc : k + 1 ≤ R.cells) (hl : n + j ≤ R.slots) (hp : pc + 3 = pc')
    (K : ∀ T' h' a, h.size = a → W Z own nm bytes mx rt n0 p l e R s m args below meth c (k + 1) (n + j) T' h' → Ext h h' → Exa Z h' a C → (∀ {O f d : String} {ty : FieldType}, Laid Z a0 C O f d → parseFieldDescriptor d = some ty → Fld Z h' a O f d (defaultValue ty)) → Go n0 p e below s Q CC NN T' (mkF m pc' Ls (.ref a :: rest))) : Go n0 p e below s Q CC NN T (mkF m pc Ls rest) := by
  obtain ⟨hx, hb, hown, hZ, r1, r2, r3, r4, ⟨L, X, N⟩, eT⟩ := w
  obtain ⟨T', h', X', e', E, A, D, -, st⟩ := newO X hx hZ hown w1 wi wz eT (g := mkF m pc Ls rest) rfl (by rw [hb]; exact hd) hc hl
  obtain ⟨s₂, q, st', r⟩ := K T' h' _ rfl ⟨hx, hb, hown, hZ, r1, r2, r3, r4, ⟨_, X', N⟩, e'⟩ E A D
  subst hp
  exact ⟨s₂, q, st _ st', r⟩
theorem gnewP (w : W Z own nm bytes mx rt n0 p l e R s m args below meth c k n T h) {aty : ArrayType} {z : Int32} {cap : Nat} {ty : FieldType} (hd : decode bytes pc = .ok (.newarray aty, 2)) (hty : newarray.typeOf aty = ty) (w1 : (Jvm.Cond.arrayClass ty).before a0 Z = true) (hn : ¬ z < 0) (hcap : z.toNatClampNeg ≤ cap) (hb8 : cap * 8 ≤ 536870912) (hc : k + 1 ≤ R.cells) (hl : n + cap ≤ R.slots) (hp : pc + 2 = pc')
    (K : ∀ T' h' a kA, h.size = a → W Z own nm bytes mx rt n0 p l e R s m args below meth c (k + 1) (n + cap) T' h' → Ext h h' → Arv Z h' a kA ty z [] (defaultValue ty) → Go n0 p e below s Q CC NN T' (mkF m pc' Ls (.ref a :: rest))) : Go n0 p e below s Q CC NN T (mkF m pc Ls (.int z :: rest)) := by
  obtain ⟨hx, hb, hown, hZ, r1, r2, r3, r4, ⟨L, X, N⟩, eT⟩ := w
  subst hty
  obtain ⟨T', h', cA, X', e', E, A, st⟩ := newP X hx hZ w1 eT (g := mkF m pc Ls (.int z :: rest)) rfl (by rw [hb]; exact hd) rfl hn hcap hb8 hc hl
  obtain ⟨s₂, q, st', r⟩ := K T' h' _ cA rfl ⟨hx, hb, hown, hZ, r1, r2, r3, r4, ⟨_, X', N⟩, e'⟩ E (Arv.new A hn)
  subst hp
  exact ⟨s₂, q, st _ st', r⟩
theorem ginitO (w : W Z own nm bytes mx rt n0 p l e R s m args below meth c k n T h) {index : Nat} {a : Addr} {Wt : Nat} (hd : decode bytes pc = .ok (.invokespecial index, 3)) (w1 : (Jvm.Cond.methodLink own index Lib.objectInit).before a0 Z = true) (w2 : (Jvm.Cond.instanceMethod Lib.objectInit).before a0 Z = true) (w3 : (Jvm.Cond.code Lib.objectInit ⟨#[0xb1]⟩ 1 none).before a0 Z = true)
    (hsz : Ls.size = mx) (hf : 1 ≤ R.frames) (hW : (rest.map fun v => v.category).sum ≤ Wt) (hl : Wt + 12 ≤ R.locals) (hp : pc + 3 = pc')
    (K : ∀ T', W Z own nm bytes mx rt n0 p l e R s m args below meth c k n T' h → Go n0 p e below s Q CC NN T' (mkF m pc' Ls rest)) : Go n0 p e below s Q CC NN T (mkF m pc Ls (.ref a :: rest)) := by
  obtain ⟨hx, hb, hown, hZ, r1, r2, r3, r4, ⟨L, X, N⟩, eT⟩ := w
  obtain ⟨T', X', e', st⟩ := initO X hx hZ hown w1 w2 w3 eT (g := mkF m pc Ls (.ref a :: rest)) rfl (hsz.trans r1.symm) rfl (by rw [hb]; exact hd) hf (W := Wt) (by show 2 * 0 + _ ≤ _; omega) hl
  obtain ⟨s₂, q, st', r⟩ := K T' ⟨hx, hb, hown, hZ, r1, r2, r3, r4, ⟨L, X', N⟩, e'⟩
  subst hp
  exact ⟨s₂, q, st _ st', r⟩
theorem glen (w : W Z own nm bytes mx rt n0 p l e R s m args below meth c k n T h) {a : Addr} {kA : ClassId} {ty : FieldType} {z : Int32} {vs : List Value} {dv : Value} (hd : decode bytes pc = .ok (.arraylength, 1)) (V : Arv Z h a kA ty z vs dv) (hp : pc + 1 = pc') (K : Go n0 p e below s Q CC NN T (mkF m pc' Ls (.int z :: rest))) : Go n0 p e below s Q CC NN T (mkF m pc Ls (.ref a :: rest)) := by
  obtain ⟨hx, hb, hown, hZ, r1, r2, r3, r4, ⟨L, X, N⟩, eT⟩ := w
  obtain ⟨cl, A, -, S, N1, -, -⟩ := V
  obtain ⟨s₂, q, st', r⟩ := K
  subst hp
  refine ⟨s₂, q, X.arraylength hx (by rw [eT]; exact A.1) (State.isArrayOf_alike hZ.alike A.2.1) (g := mkF m pc Ls (.ref a :: rest)) rfl rfl (by rw [hb]; exact hd) _ ?_, r⟩
  rw [len_of S N1]
  exact st'

theorem gbaload (w : W Z own nm bytes mx rt n0 p l e R s m args below meth c k n T h) {a : Addr} {kA : ClassId} {z j : Int32} {vs : List Value} {dv v : Value} (hd : decode bytes pc = .ok (.baload, 1)) (V : Arv Z h a kA .byte z vs dv) (hj : ¬ j < 0 ∧ j < z) (hv : vs.getD j.toNatClampNeg dv = v) (hp : pc + 1 = pc') (K : Go n0 p e below s Q CC NN T (mkF m pc' Ls (v :: rest))) : Go n0 p e below s Q CC NN T (mkF m pc Ls (.int j :: .ref a :: rest)) := by
  obtain ⟨hx, hb, hown, hZ, r1, r2, r3, r4, ⟨L, X, N⟩, eT⟩ := w
  obtain ⟨cl, A, -, S, -, H, -⟩ := V
  obtain ⟨s₂, q, st', r⟩ := K
  subst hp
  exact ⟨s₂, q, X.baloadBytes hx (j := j) (v := v) (by rw [eT]; exact A.1) (State.isArrayOf_alike hZ.alike A.2.1) A.2.2 (inb_of S hj) (H.at (inb_of S hj) hv) (g := mkF m pc Ls (.int j :: .ref a :: rest)) rfl rfl (by rw [hb]; exact hd) _ st', r⟩

theorem giaload (w : W Z own nm bytes mx rt n0 p l e R s m args below meth c k n T h) {a : Addr} {kA : ClassId} {z j : Int32} {vs : List Value} {dv v : Value} (hd : decode bytes pc = .ok (.iaload, 1)) (V : Arv Z h a kA .int z vs dv) (hj : ¬ j < 0 ∧ j < z) (hv : vs.getD j.toNatClampNeg dv = v) (hp : pc + 1 = pc') (K : Go n0 p e below s Q CC NN T (mkF m pc' Ls (v :: rest))) : Go n0 p e below s Q CC NN T (mkF m pc Ls (.int j :: .ref a :: rest)) := by
  obtain ⟨hx, hb, hown, hZ, r1, r2, r3, r4, ⟨L, X, N⟩, eT⟩ := w
  obtain ⟨cl, A, -, S, -, H, -⟩ := V
  obtain ⟨s₂, q, st', r⟩ := K
  subst hp
  exact ⟨s₂, q, X.iaload hx (j := j) (v := v) (by rw [eT]; exact A.1) (State.isArrayOf_alike hZ.alike A.2.1) A.2.2 (inb_of S hj) (H.at (inb_of S hj) hv) (g := mkF m pc Ls (.int j :: .ref a :: rest)) rfl rfl (by rw [hb]; exact hd) _ st', r⟩

theorem gbastore (w : W Z own nm bytes mx rt n0 p l e R s m args below meth c k n T h) {a : Addr} {kA : ClassId} {z j x x' : Int32} {vs : List Value} {dv : Value} (hd : decode bytes pc = .ok (.bastore, 1)) (hxv : x.toInt8.toInt32 = x') (V : Arv Z h a kA .byte z vs dv) (hj : ¬ j < 0 ∧ j < z) (i : Nat) (hi : j.toNatClampNeg = i) (hlt : i < vs.length) (hna : n0 ≤ a) (hp : pc + 1 = pc')
    (K : ∀ T' h', W Z own nm bytes mx rt n0 p l e R s m args below meth c k n T' h' → Wr h h' a i (.int x') → Arv Z h' a kA .byte z (vs.set i (.int x')) dv → Go n0 p e below s Q CC NN T' (mkF m pc' Ls rest)) : Go n0 p e below s Q CC NN T (mkF m pc Ls (.int x :: .int j :: .ref a :: rest)) := by
  obtain ⟨hx, hb, hown, hZ, r1, r2, r3, r4, ⟨L, X, N⟩, eT⟩ := w
  obtain ⟨cl, A, q1, S, N1, H, Gf⟩ := V
  subst hxv
  obtain ⟨T', h', X', e', Wx, st⟩ := stB X hx hZ eT A (j := j) (x := x) (inb_of S hj) (g := mkF m pc Ls (.int x :: .int j :: .ref a :: rest)) rfl rfl (by rw [hb]; exact hd)
  obtain ⟨s₂, q, st', r⟩ := K T' h' ⟨hx, hb, hown, hZ, r1, r2, r3, r4, ⟨_, X', Fr.snoc X' N hna⟩, e'⟩ (hi ▸ Wx) (Arv.set A q1 S N1 H Gf (fits_nar_byte _) Wx i hi hlt)
  subst hp
  exact ⟨s₂, q, st _ st', r⟩

theorem giastore (w : W Z own nm bytes mx rt n0 p l e R s m args below meth c k n T h) {a : Addr} {kA : ClassId} {z j x x' : Int32} {vs : List Value} {dv : Value} (hd : decode bytes pc = .ok (.iastore, 1)) (hxv : x = x') (V : Arv Z h a kA .int z vs dv) (hj : ¬ j < 0 ∧ j < z) (i : Nat) (hi : j.toNatClampNeg = i) (hlt : i < vs.length) (hna : n0 ≤ a) (hp : pc + 1 = pc')
    (K : ∀ T' h', W Z own nm bytes mx rt n0 p l e R s m args below meth c k n T' h' → Wr h h' a i (.int x') → Arv Z h' a kA .int z (vs.set i (.int x')) dv → Go n0 p e below s Q CC NN T' (mkF m pc' Ls rest)) : Go n0 p e below s Q CC NN T (mkF m pc Ls (.int x :: .int j :: .ref a :: rest)) := by
  obtain ⟨hx, hb, hown, hZ, r1, r2, r3, r4, ⟨L, X, N⟩, eT⟩ := w
  obtain ⟨cl, A, q1, S, N1, H, Gf⟩ := V
  subst hxv
  obtain ⟨T', h', X', e', Wx, st⟩ := stI X hx hZ eT A (j := j) (x := x) (inb_of S hj) (g := mkF m pc Ls (.int x :: .int j :: .ref a :: rest)) rfl rfl (by rw [hb]; exact hd)
  obtain ⟨s₂, q, st', r⟩ := K T' h' ⟨hx, hb, hown, hZ, r1, r2, r3, r4, ⟨_, X', Fr.snoc X' N hna⟩, e'⟩ (hi ▸ Wx) (Arv.set A q1 S N1 H Gf rfl Wx i hi hlt)
  subst hp
  exact ⟨s₂, q, st _ st', r⟩

theorem gret0 (w : W Z own nm bytes mx none n0 p l e R s m args below meth c k n T h) (hd : decode bytes pc = .ok (.return_, 1)) (hk : k ≤ CC) (hn : n ≤ NN) (hQ : Q none h) : Go n0 p e below s Q CC NN T (mkF m pc Ls []) := by
  obtain ⟨hx, hb, hown, hZ, r1, r2, r3, r4, ⟨L, X, N⟩, eT⟩ := w
  obtain ⟨fs, hr, hrun, hended, hW, hsame⟩ := X.leave (v := none) (fun _ => rfl) r4
  refine ⟨_, _, X.returnOut hx r3 (by rw [hb]; exact hd) hr, hrun, hended, _, _, rfl, ⟨N, ?_⟩, ⟨_, rfl⟩, hW, hsame.mono hk hn⟩
  show Q none T.heap
  rw [eT]; exact hQ
theorem gret {t : FieldType} (w : W Z own nm bytes mx (some t) n0 p l e R s m args below meth c k n T h) {v : Value} {i : Instr} (hd : decode bytes pc = .ok (i, 1)) (hn' : narrow t v = v)
    (hi : (i = .ireturn ∧ (t = .int ∨ t = .boolean ∨ t = .byte ∨ t = .char ∨ t = .short) ∧ ∃ z, v = .int z) ∨ (i = .lreturn ∧ t = .long ∧ ∃ z, v = .long z) ∨ (i = .dreturn ∧ t = .double ∧ ∃ z, v = .double z) ∨ (i = .freturn ∧ t = .float ∧ ∃ z, v = .float z) ∨ (i = .areturn ∧ t.isReference = true ∧ v.isRef = true))
    (hk : k ≤ CC) (hn : n ≤ NN) (hQ : Q (some v) h) : Go n0 p e below s Q CC NN T (mkF m pc Ls (v :: rest)) := by
  obtain ⟨hx, hb, hown, hZ, r1, r2, r3, r4, ⟨L, X, N⟩, eT⟩ := w
  obtain ⟨fs, hr, hrun, hended, hW, hsame⟩ := X.leave (v := some v) (fun q => by rw [r3] at q; cases q) r4
  refine ⟨_, _, retOut X hx r3 hn' hi (by rw [hb]; exact hd) hr, hrun, hended, _, _, rfl, ⟨N, ?_⟩, ⟨_, rfl⟩, hW, hsame.mono hk hn⟩
  show Q (some v) T.heap
  rw [eT]; exact hQ
theorem gretI (w : W Z own nm bytes mx (some .int) n0 p l e R s m args below meth c k n T h) {v : Int32} (hd : decode bytes pc = .ok (.ireturn, 1)) (hk : k ≤ CC) (hn : n ≤ NN) (hQ : Q (some (.int v)) h) : Go n0 p e below s Q CC NN T (mkF m pc Ls (.int v :: rest)) :=
  gret w hd rfl (Or.inl ⟨rfl, Or.inl rfl, _, rfl⟩) hk hn hQ
theorem gretJ (w : W Z own nm bytes mx (some .long) n0 p l e R s m args below meth c k n T h) {v : Int64} (hd : decode bytes pc = .ok (.lreturn, 1)) (hk : k ≤ CC) (hn : n ≤ NN) (hQ : Q (some (.long v)) h) : Go n0 p e below s Q CC NN T (mkF m pc Ls (.long v :: rest)) :=
  gret w hd rfl (Or.inr (Or.inl ⟨rfl, rfl, _, rfl⟩)) hk hn hQ
theorem gretZ (w : W Z own nm bytes mx (some .boolean) n0 p l e R s m args below meth c k n T h) {v : Int32} (hd : decode bytes pc = .ok (.ireturn, 1)) (hv : narrow .boolean (.int v) = .int v) (hk : k ≤ CC) (hn : n ≤ NN) (hQ : Q (some (.int v)) h) : Go n0 p e below s Q CC NN T (mkF m pc Ls (.int v :: rest)) :=
  gret w hd hv (Or.inl ⟨rfl, Or.inr (Or.inl rfl), _, rfl⟩) hk hn hQ
theorem gretB (w : W Z own nm bytes mx (some .byte) n0 p l e R s m args below meth c k n T h) {v : Int32} (hd : decode bytes pc = .ok (.ireturn, 1)) (hv : narrow .byte (.int v) = .int v) (hk : k ≤ CC) (hn : n ≤ NN) (hQ : Q (some (.int v)) h) : Go n0 p e below s Q CC NN T (mkF m pc Ls (.int v :: rest)) :=
  gret w hd hv (Or.inl ⟨rfl, Or.inr (Or.inr (Or.inl rfl)), _, rfl⟩) hk hn hQ
theorem gretA {t : FieldType} (w : W Z own nm bytes mx (some t) n0 p l e R s m args below meth c k n T h) {v : Value} (hd : decode bytes pc = .ok (.areturn, 1)) (ht : t.isReference = true) (hv : v.isRef = true) (hn' : narrow t v = v) (hk : k ≤ CC) (hn : n ≤ NN) (hQ : Q (some v) h) : Go n0 p e below s Q CC NN T (mkF m pc Ls (v :: rest)) :=
  gret w hd hn' (Or.inr (Or.inr (Or.inr (Or.inr ⟨rfl, ht, hv⟩)))) hk hn hQ

theorem gcast (w : W Z own nm bytes mx rt n0 p l e R s m args below meth c k n T h) {index : Nat} {Kc : String} {a : Addr} (hd : decode bytes pc = .ok (.checkcast index, 3)) (w1 : (Jvm.Cond.classLink own index Kc).before a0 Z = true) (F : Ins Z h a Kc true) (hp : pc + 3 = pc')
    (K : ∀ T', W Z own nm bytes mx rt n0 p l e R s m args below meth c k n T' h → Go n0 p e below s Q CC NN T' (mkF m pc' Ls (.ref a :: rest))) : Go n0 p e below s Q CC NN T (mkF m pc Ls (.ref a :: rest)) := by
  obtain ⟨hx, hb, hown, hZ, r1, r2, r3, r4, ⟨L, X, N⟩, eT⟩ := w
  obtain ⟨T', X', e', st⟩ := castY X hx hZ hown w1 eT F (g := mkF m pc Ls (.ref a :: rest)) rfl rfl (by rw [hb]; exact hd)
  obtain ⟨s₂, q, st', r⟩ := K T' ⟨hx, hb, hown, hZ, r1, r2, r3, r4, ⟨L, X', N⟩, e'⟩
  subst hp
  exact ⟨s₂, q, st _ st', r⟩
theorem ginstY (w : W Z own nm bytes mx rt n0 p l e R s m args below meth c k n T h) {index : Nat} {Kc : String} {a : Addr} (hd : decode bytes pc = .ok (.instanceof index, 3)) (w1 : (Jvm.Cond.classLink own index Kc).before a0 Z = true) (F : Ins Z h a Kc true) (hp : pc + 3 = pc')
    (K : ∀ T', W Z own nm bytes mx rt n0 p l e R s m args below meth c k n T' h → Go n0 p e below s Q CC NN T' (mkF m pc' Ls (.int 1 :: rest))) : Go n0 p e below s Q CC NN T (mkF m pc Ls (.ref a :: rest)) := by
  obtain ⟨hx, hb, hown, hZ, r1, r2, r3, r4, ⟨L, X, N⟩, eT⟩ := w
  obtain ⟨T', X', e', st⟩ := instY X hx hZ hown w1 eT F (g := mkF m pc Ls (.ref a :: rest)) rfl rfl (by rw [hb]; exact hd)
  obtain ⟨s₂, q, st', r⟩ := K T' ⟨hx, hb, hown, hZ, r1, r2, r3, r4, ⟨L, X', N⟩, e'⟩
  subst hp
  exact ⟨s₂, q, st _ st', r⟩

theorem gcallS (w : W Z own nm bytes mx rt n0 p l e R s m args below meth c k n T h) {index : Nat} {y : MethodName} {yb : ByteArray} {ymx : Nat} {yr : Option FieldType} {rm : Room} {as : Array Value} {Q' : Option Value → Heap → Prop} {argsL : List Value} {stk : List Value} {ps : List FieldType} {ro : Option FieldType} {Wt : Nat} (hd : decode bytes pc = .ok (.invokestatic index, 3)) (w1 : (Jvm.Cond.methodLink own index y).before a0 Z = true) (w2 : (Jvm.Cond.static y).before a0 Z = true) (w3 : (Jvm.Cond.initialized y.cls).before a0 Z = true) (w4 : (Jvm.Cond.code y yb ymx yr).before a0 Z = true)
    (hy : y.cls ≠ "java/lang/invoke/MethodHandle" ∧ y.cls ≠ "java/lang/invoke/VarHandle") (hpd : parseMethodDescriptor y.desc = some ⟨ps, ro⟩) (ctr : Ctr l y yb ymx yr rm Z as h n0 Q' []) (has : argsL.toArray = as) (hlen : argsL.length = ps.length) (hst : stk = argsL.reverse ++ rest) (hsz : Ls.size = mx) (hW : (rest.map fun v => v.category).sum ≤ Wt) (hf : rm.frames + 1 ≤ R.frames) (hl : Wt + (ymx + 11) + rm.locals ≤ R.locals) (hc : k + rm.cells ≤ R.cells) (hs : n + rm.slots ≤ R.slots) (hp : pc + 3 = pc')
    (K : ∀ v T' h', W Z own nm bytes mx rt n0 p l e R s m args below meth c (k + rm.cells) (n + rm.slots) T' h' → Q' v h' → Go n0 p e below s Q CC NN T' (mkF m pc' Ls (v.toList ++ rest))) : Go n0 p e below s Q CC NN T (mkF m pc Ls stk) := by
  obtain ⟨hx, hb, hown, hZ, r1, r2, r3, r4, ⟨L, X, N⟩, eT⟩ := w
  obtain ⟨v, _, ⟨T', L', k', n'⟩, -, X', ⟨Lc, hQ, hl1, hc1, hs1⟩, st⟩ := Jvm.LawKit.callS X hx (y := y) hown (mvT hZ w1) (mvT hZ w2) (mvT hZ w3) (mvT hZ w4) hy (backOf (W := Wt) (Q := fun v h L => Fr n0 L ∧ Q' v h) ctr hZ w4 w3 hf hl) (g := mkF m pc Ls stk) rfl (hsz.trans r1.symm) (argsL := argsL) (rest := rest) (lenOf hpd hlen) hst (by show 2 * 0 + _ ≤ _; omega) (by rw [hb]; exact hd) (fun _ _ => ⟨has, eT, hc, hs⟩)
  dsimp only [Pt.U, Pt.locs, Pt.cells, Pt.slots] at X' st hQ hl1 hc1 hs1
  subst hl1 hc1 hs1
  obtain ⟨s₂, q, st', r⟩ := K v T' T'.heap ⟨hx, hb, hown, hZ, r1, r2, r3, r4, ⟨_, X', Fr.app N hQ.1⟩, rfl⟩ hQ.2
  subst hp
  exact ⟨s₂, q, st _ st', r⟩
theorem gcallN (w : W Z own nm bytes mx rt n0 p l e R s m args below meth c k n T h) {index : Nat} {y : MethodName} {yb : ByteArray} {ymx : Nat} {rm : Room} {as : Array Value} {Q' : Option Value → Heap → Prop} {argsL : List Value} {stk : List Value} {ps : List FieldType} {ro : Option FieldType} {Wt : Nat} {a : Addr} (hd : decode bytes pc = .ok (.invokespecial index, 3)) (w1 : (Jvm.Cond.methodLink own index y).before a0 Z = true) (w2 : (Jvm.Cond.instanceMethod y).before a0 Z = true) (w3 : (Jvm.Cond.initialized y.cls).before a0 Z = true) (w4 : (Jvm.Cond.code y yb ymx none).before a0 Z = true) (hyn : y.name = "<init>")
    (hy : y.cls ≠ "java/lang/invoke/MethodHandle" ∧ y.cls ≠ "java/lang/invoke/VarHandle") (hpd : parseMethodDescriptor y.desc = some ⟨ps, ro⟩) (ctr : Ctr l y yb ymx none rm Z as h n0 Q' []) (has : (.ref a :: argsL).toArray = as) (hlen : argsL.length = ps.length) (hst : stk = argsL.reverse ++ .ref a :: rest) (hsz : Ls.size = mx) (hW : (rest.map fun v => v.category).sum ≤ Wt) (hf : rm.frames + 1 ≤ R.frames) (hl : Wt + (ymx + 11) + rm.locals ≤ R.locals) (hc : k + rm.cells ≤ R.cells) (hs : n + rm.slots ≤ R.slots) (hp : pc + 3 = pc')
    (K : ∀ v T' h', W Z own nm bytes mx rt n0 p l e R s m args below meth c (k + rm.cells) (n + rm.slots) T' h' → Q' v h' → Go n0 p e below s Q CC NN T' (mkF m pc' Ls (v.toList ++ rest))) : Go n0 p e below s Q CC NN T (mkF m pc Ls stk) := by
  obtain ⟨hx, hb, hown, hZ, r1, r2, r3, r4, ⟨L, X, N⟩, eT⟩ := w
  obtain ⟨v, _, ⟨T', L', k', n'⟩, -, X', ⟨Lc, hQ, hl1, hc1, hs1⟩, st⟩ := X.specialBack hx (y := y) hyn hown (mvT hZ w1) (mvT hZ w2) (mvT hZ w4) hy (backOf (W := Wt) (Q := fun v h L => Fr n0 L ∧ Q' v h) ctr hZ w4 w3 hf hl) (g := mkF m pc Ls stk) rfl (hsz.trans r1.symm) (Steps.refl _) (a := a) (argsL := argsL) (rest := rest) (lenOf hpd hlen) hst (by show 2 * 0 + _ ≤ _; omega) (by rw [hb]; exact hd) (fun _ _ => ⟨has, eT, hc, hs⟩)
  dsimp only [Pt.U, Pt.locs, Pt.cells, Pt.slots] at X' st hQ hl1 hc1 hs1
  subst hl1 hc1 hs1
  obtain ⟨s₂, q, st', r⟩ := K v T' T'.heap ⟨hx, hb, hown, hZ, r1, r2, r3, r4, ⟨_, X', Fr.app N hQ.1⟩, rfl⟩ hQ.2
  subst hp
  exact ⟨s₂, q, st.trans st', r⟩
theorem gcallV (w : W Z own nm bytes mx rt n0 p l e R s m args below meth c k n T h) {index : Nat} {y : MethodName} {yb : ByteArray} {ymx : Nat} {yr : Option FieldType} {rm : Room} {as : Array Value} {Q' : Option Value → Heap → Prop} {argsL : List Value} {stk : List Value} {ps : List FieldType} {ro : Option FieldType} {Wt : Nat} {a : Addr} {C : String} (hd : decode bytes pc = .ok (.invokevirtual index, 3)) (w1 : (Jvm.Cond.methodLink own index y).before a0 Z = true) (w2 : (Jvm.Cond.declares y).before a0 Z = true) (w5 : (Jvm.Cond.selects C y y).before a0 Z = true) (w6 : (Jvm.Cond.instanceMethod y).before a0 Z = true) (w3 : (Jvm.Cond.initialized y.cls).before a0 Z = true) (w4 : (Jvm.Cond.code y yb ymx yr).before a0 Z = true)
    (E : Exa Z h a C) (hC : y.cls = C) (hy : y.cls ≠ "java/lang/invoke/MethodHandle" ∧ y.cls ≠ "java/lang/invoke/VarHandle") (hpd : parseMethodDescriptor y.desc = some ⟨ps, ro⟩) (ctr : Ctr l y yb ymx yr rm Z as h n0 Q' []) (has : (.ref a :: argsL).toArray = as) (hlen : argsL.length = ps.length) (hst : stk = argsL.reverse ++ .ref a :: rest) (hsz : Ls.size = mx) (hW : (rest.map fun v => v.category).sum ≤ Wt) (hf : rm.frames + 1 ≤ R.frames) (hl : Wt + (ymx + 11) + rm.locals ≤ R.locals) (hc : k + rm.cells ≤ R.cells) (hs : n + rm.slots ≤ R.slots) (hp : pc + 3 = pc')
    (K : ∀ v T' h', W Z own nm bytes mx rt n0 p l e R s m args below meth c (k + rm.cells) (n + rm.slots) T' h' → Q' v h' → Go n0 p e below s Q CC NN T' (mkF m pc' Ls (v.toList ++ rest))) : Go n0 p e below s Q CC NN T (mkF m pc Ls stk) := by
  obtain ⟨hx, hb, hown, hZ, r1, r2, r3, r4, ⟨L, X, N⟩, eT⟩ := w
  obtain ⟨cq, kq, qa, qb, qc⟩ := isOf hZ eT E
  subst hC
  obtain ⟨v, _, ⟨T', L', k', n'⟩, -, X', ⟨Lc, hQ, hl1, hc1, hs1⟩, st⟩ := X.virtualBack hx (y := y) (z := y) hown (mvT hZ w1) (mvT hZ w2) (notFace_of_selects (args := #[]) (mvT hZ w5)) (mvT hZ w5) (mvT hZ w6) hy (backOf (W := Wt) (Q := fun v h L => Fr n0 L ∧ Q' v h) ctr hZ w4 w3 hf hl) qa qc (g := mkF m pc Ls stk) rfl (hsz.trans r1.symm) (Steps.refl _) (argsL := argsL) (rest := rest) (lenOf hpd hlen) hst (by show 2 * 0 + _ ≤ _; omega) (by rw [hb]; exact hd) (fun _ _ => ⟨has, eT, hc, hs⟩)
  dsimp only [Pt.U, Pt.locs, Pt.cells, Pt.slots] at X' st hQ hl1 hc1 hs1
  subst hl1 hc1 hs1
  obtain ⟨s₂, q, st', r⟩ := K v T' T'.heap ⟨hx, hb, hown, hZ, r1, r2, r3, r4, ⟨_, X', Fr.app N hQ.1⟩, rfl⟩ hQ.2
  subst hp
  exact ⟨s₂, q, st.trans st', r⟩
theorem gaaload (w : W Z own nm bytes mx rt n0 p l e R s m args below meth c k n T h) {a : Addr} {cl : Cell} {ty : FieldType} {j : Int32} {v : Value} (hd : decode bytes pc = .ok (.aaload, 1)) (A : Arr Z h a cl ty) (hty : ty.isReference = true) (hin : ¬ (j < 0 ∨ cl.slots.size ≤ j.toNatClampNeg)) (hv : cl.slots[j.toNatClampNeg]? = some v) (hp : pc + 1 = pc') (K : Go n0 p e below s Q CC NN T (mkF m pc' Ls (v :: rest))) : Go n0 p e below s Q CC NN T (mkF m pc Ls (.int j :: .ref a :: rest)) := by
  obtain ⟨hx, hb, hown, hZ, r1, r2, r3, r4, ⟨L, X, N⟩, eT⟩ := w
  obtain ⟨s₂, q, st', r⟩ := K
  subst hp
  exact ⟨s₂, q, X.aaload hx (j := j) (v := v) (by rw [eT]; exact A.1) (State.isArrayOf_alike hZ.alike A.2.1) hty A.2.2 hin hv (g := mkF m pc Ls (.int j :: .ref a :: rest)) rfl rfl (by rw [hb]; exact hd) _ st', r⟩
theorem glenA (w : W Z own nm bytes mx rt n0 p l e R s m args below meth c k n T h) {a : Addr} {cl : Cell} {ty : FieldType} {z : Int32} (hd : decode bytes pc = .ok (.arraylength, 1)) (A : Arr Z h a cl ty) (hz : cl.slots.size.toInt32 = z) (hp : pc + 1 = pc') (K : Go n0 p e below s Q CC NN T (mkF m pc' Ls (.int z :: rest))) : Go n0 p e below s Q CC NN T (mkF m pc Ls (.ref a :: rest)) := by
  obtain ⟨hx, hb, hown, hZ, r1, r2, r3, r4, ⟨L, X, N⟩, eT⟩ := w
  obtain ⟨s₂, q, st', r⟩ := K
  subst hp hz
  exact ⟨s₂, q, X.arraylength hx (by rw [eT]; exact A.1) (State.isArrayOf_alike hZ.alike A.2.1) (g := mkF m pc Ls (.ref a :: rest)) rfl rfl (by rw [hb]; exact hd) _ st', r⟩
theorem gclone (w : W Z own nm bytes mx rt n0 p l e R s m args below meth c k n T h) {index Wt cap : Nat} {ad : String} {a : Addr} {cl : Cell} {ty : FieldType} (hd : decode bytes pc = .ok (.invokevirtual index, 3)) (w1 : (Jvm.Cond.methodLink own index ⟨ad, "clone", "()Ljava/lang/Object;"⟩).before a0 Z = true) (w2 : (Jvm.Cond.sameMethod ad "java/lang/Object" "clone" "()Ljava/lang/Object;").before a0 Z = true) (w3 : (Jvm.Cond.native ⟨"java/lang/Object", "clone", "()Ljava/lang/Object;"⟩).before a0 Z = true)
    (w4 : (Jvm.Cond.instanceMethod ⟨"java/lang/Object", "clone", "()Ljava/lang/Object;"⟩).before a0 Z = true) (w5 : (Jvm.Cond.selects ad ⟨ad, "clone", "()Ljava/lang/Object;"⟩ ⟨"java/lang/Object", "clone", "()Ljava/lang/Object;"⟩).before a0 Z = true) (w6 : (Jvm.Cond.castable ad "java/lang/Cloneable").before a0 Z = true)
    (A : Arr Z h a cl ty) (E : Exa Z h a ad) (F : FitC Z cl) (hsz : Ls.size = mx) (hf : 1 ≤ R.frames) (hW : (rest.map fun v => v.category).sum ≤ Wt) (hl : Wt + 14 ≤ R.locals) (hcap : cl.slots.size ≤ cap) (hc : k + 1 ≤ R.cells) (hsl : n + cap ≤ R.slots) (hp : pc + 3 = pc')
    (K : ∀ T' h' a', h.size = a' → W Z own nm bytes mx rt n0 p l e R s m args below meth c (k + 1) (n + cap) T' h' → Ext h h' → Arr Z h' a' (cloneOf cl) ty → Exa Z h' a' ad → Go n0 p e below s Q CC NN T' (mkF m pc' Ls (.ref a' :: rest))) : Go n0 p e below s Q CC NN T (mkF m pc Ls (.ref a :: rest)) := by
  obtain ⟨hx, hb, hown, hZ, r1, r2, r3, r4, ⟨L, X, N⟩, eT⟩ := w
  obtain ⟨T', h', X', e', Ex, A', E', st⟩ := cloneA X hx hZ hown w1 w2 w3 w4 w5 w6 eT A E F (g := mkF m pc Ls (.ref a :: rest)) rfl (hsz.trans r1.symm) rfl (by rw [hb]; exact hd) hf (W := Wt) (by show 2 * 0 + _ ≤ _; omega) hl hcap hc hsl
  obtain ⟨s₂, q, st', r⟩ := K T' h' _ rfl ⟨hx, hb, hown, hZ, r1, r2, r3, r4, ⟨_, X', N⟩, e'⟩ Ex A' E'
  subst hp
  exact ⟨s₂, q, st _ st', r⟩
theorem metGoH {y : MethodName} {rm : Room} {as : Array Value} {ws : List Jvm.Cond} (hpn : plainFor y = true) (hef : ∀ m, entryFrame m as mx = mkF m 0 Ls [])
    (H : ∀ (p : Program) (e : Env) (s : State) (m : MethodId) (below : List Frame) (meth : Method) (c : Code) (T : State), W Z y.cls y.name bytes mx rt n0 p l e rm s m as below meth c 0 0 T h → s.heap = h → Go n0 p e below s Q rm.cells rm.slots T (mkF m 0 Ls [])) : Ctr l y bytes mx rt rm Z as h n0 Q ws := by
  refine MetFree.of_bodySF hpn hisR ?_
  intro p e s m args below meth c s₁ Bd hml0 hP hK
  obtain ⟨rfl, hZ, hh⟩ := hP
  have e0 : s₁.heap = h := by rw [← hh, Bd.state]; rfl
  obtain ⟨s₂, o, st, r⟩ := H p e s m below meth c s₁ ⟨Bd.exec, Bd.bytes, findClass_of_methodNamed Bd.named, hZ, hml0, (name_of_methodNamed Bd.named Bd.method).1, Bd.returns, Bd.notSynchronized, ⟨[], Stand.of_body Bd, Fr.nil n0⟩, e0⟩ hh
  exact ⟨s₂, o, castTop (hef m) st, r⟩
theorem ginst0 (w : W Z own nm bytes mx rt n0 p l e R s m args below meth c k n T h) {index : Nat} (hd : decode bytes pc = .ok (.instanceof index, 3)) (hp : pc + 3 = pc') (K : Go n0 p e below s Q CC NN T (mkF m pc' Ls (.int 0 :: rest))) : Go n0 p e below s Q CC NN T (mkF m pc Ls (.null :: rest)) := by
  obtain ⟨hx, hb, -, -, -, -, -, -, ⟨L, X, -⟩, -⟩ := w
  obtain ⟨s₂, q, st, r⟩ := K
  subst hb hp
  exact ⟨s₂, q, X.instanceofNull hx (g := mkF m pc Ls (.null :: rest)) rfl rfl hd _ st, r⟩
theorem ginstN (w : W Z own nm bytes mx rt n0 p l e R s m args below meth c k n T h) (hs : s.heap = h) {index : Nat} {Kc C : String} {a : Addr} (hd : decode bytes pc = .ok (.instanceof index, 3)) (w1 : (Jvm.Cond.classLink own index Kc).before a0 Z = true) (F : Ins Z h a Kc false) (E : Exa Z h a C) (hp : pc + 3 = pc')
    (K : ∀ T', W Z own nm bytes mx rt n0 p l e R s m args below meth c k n T' h → Go n0 p e below s Q CC NN T' (mkF m pc' Ls (.int 0 :: rest))) : Go n0 p e below s Q CC NN T (mkF m pc Ls (.ref a :: rest)) := by
  obtain ⟨hx, hb, hown, hZ, r1, r2, r3, r4, ⟨L, X, N⟩, eT⟩ := w
  obtain ⟨T', X', e', st⟩ := instN X hx hZ hown w1 eT (hs ▸ F) (hs ▸ E) (g := mkF m pc Ls (.ref a :: rest)) rfl rfl (by rw [hb]; exact hd)
  obtain ⟨s₂, q, st', r⟩ := K T' ⟨hx, hb, hown, hZ, r1, r2, r3, r4, ⟨L, X', N⟩, e'⟩
  subst hp
  exact ⟨s₂, q, st _ st', r⟩
theorem gcopy (w : W Z own nm bytes mx rt n0 p l e R s m args below meth c k n T h) {index Wt : Nat} {a b : Addr} {ka kb : ClassId} {z z' sp dp nn : Int32} {vs vd : List Value} {dv dd : Value} (hd : decode bytes pc = .ok (.invokestatic index, 3)) (w1 : (Jvm.Cond.methodLink own index Jvm.Stand.acN).before a0 Z = true) (w2 : (Jvm.Cond.native Jvm.Stand.acN).before a0 Z = true) (w3 : (Jvm.Cond.static Jvm.Stand.acN).before a0 Z = true) (w4 : (Jvm.Cond.initialized "java/lang/System").before a0 Z = true)
    (A : Arv Z h a ka .byte z vs dv) (B : Arv Z h b kb .byte z' vd dd) (h1 : ¬ sp < 0) (h2 : ¬ dp < 0) (h3 : ¬ nn < 0) (h4 : sp.toNatClampNeg + nn.toNatClampNeg ≤ z.toNatClampNeg) (h5 : dp.toNatClampNeg + nn.toNatClampNeg ≤ z'.toNatClampNeg) (hlv : dp.toNatClampNeg + nn.toNatClampNeg ≤ vd.length) (ge : n0 ≤ b)
    (hsz : Ls.size = mx) (hf : 1 ≤ R.frames) (hW : (rest.map fun v => v.category).sum ≤ Wt) (hlo : Wt + (nativeFrameWords "java/lang/System" "arraycopy" 5 + 11) ≤ R.locals) (hp : pc + 3 = pc')
    (K : ∀ T' h' us, W Z own nm bytes mx rt n0 p l e R s m args below meth c k n T' h' → Keep h h' [b] → us.length = nn.toNatClampNeg → Arv Z h' b kb .byte z' (vd.take dp.toNatClampNeg ++ us ++ vd.drop (dp.toNatClampNeg + nn.toNatClampNeg)) dd → Go n0 p e below s Q CC NN T' (mkF m pc' Ls rest)) : Go n0 p e below s Q CC NN T (mkF m pc Ls (.int nn :: .int dp :: .ref b :: .int sp :: .ref a :: rest)) := by
  obtain ⟨hx, hb, hown, hZ, r1, r2, r3, r4, ⟨L, X, N⟩, eT⟩ := w
  obtain ⟨T', h', L', X', e', N', Kp, V', st⟩ := cpA X hx hZ hown w1 w2 w3 w4 eT A B (Or.inl ⟨rfl, rfl⟩) h1 h2 h3 h4 h5 rfl hlv N ge (g := mkF m pc Ls (.int nn :: .int dp :: .ref b :: .int sp :: .ref a :: rest)) rfl (hsz.trans r1.symm) rfl (by rw [hb]; exact hd) hf (W := Wt) (by show 2 * 0 + _ ≤ _; omega) hlo
  obtain ⟨s₂, q, st', r⟩ := K T' h' _ ⟨hx, hb, hown, hZ, r1, r2, r3, r4, ⟨_, X', N'⟩, e'⟩ Kp (by rw [List.length_map, List.length_range]) V'
  subst hp
  exact ⟨s₂, q, st _ st', r⟩
theorem gifnullV (w : W Z own nm bytes mx rt n0 p l e R s m args below meth c k n T h) {v : Value} {o : Int} {pt pf : Nat} (hd : decode bytes pc = .ok (.ifnull o, 3)) (ho : 0 ≤ (pc : Int) + o) (ht : ((pc : Int) + o).toNat = pt) (hf : pc + 3 = pf) (hv : v.isRef = true) (Kt : v = .null → Go n0 p e below s Q CC NN T (mkF m pt Ls rest)) (Kf : ¬ v = .null → Go n0 p e below s Q CC NN T (mkF m pf Ls rest)) : Go n0 p e below s Q CC NN T (mkF m pc Ls (v :: rest)) := by
  rcases ref_cases hv with rfl | ⟨a, rfl⟩
  · exact gifnullY w hd ho ht (Kt rfl)
  · exact gifnullN w hd hf (Kf nofun)
theorem wmono (w : W Z own nm bytes mx rt n0 p l e R s m args below meth c k n T h) {k' n' : Nat} (hk : k ≤ k') (hn : n ≤ n') : W Z own nm bytes mx rt n0 p l e R s m args below meth c k' n' T h := by
  obtain ⟨hx, hb, hown, hZ, r1, r2, r3, r4, ⟨L, X, N⟩, eT⟩ := w
  exact ⟨hx, hb, hown, hZ, r1, r2, r3, r4, ⟨L, ⟨X.admits, X.cas, X.clock, X.frames, X.room, X.hears, X.method, X.code, X.here, X.tail, X.warmed, X.limits, X.bytes, X.same.mono hk hn⟩, N⟩, eT⟩
theorem gcallP (w : W Z own nm bytes mx rt n0 p l e R s m args below meth c k n T h) {index : Nat} {y : MethodName} {yb : ByteArray} {ymx : Nat} {yr : Option FieldType} {rm : Room} {as : Array Value} {Q' : Option Value → Heap → Prop} {argsL : List Value} {stk : List Value} {ps : List FieldType} {ro : Option FieldType} {Wt : Nat} {a : Addr} {C : String} {ji : Nat} (hd : decode bytes pc = .ok (.invokevirtual index, 3)) (w1 : (Jvm.Cond.methodLink own index y).before a0 Z = true) (w2 : (Jvm.Cond.instanceMethod y).before a0 Z = true) (w5 : (Jvm.Cond.instantiable y.cls ji).before a0 Z = true) (w6 : (Jvm.Cond.privateMethod y).before a0 Z = true) (w3 : (Jvm.Cond.initialized y.cls).before a0 Z = true) (w4 : (Jvm.Cond.code y yb ymx yr).before a0 Z = true)
    (E : Exa Z h a C) (hy : y.cls ≠ "java/lang/invoke/MethodHandle" ∧ y.cls ≠ "java/lang/invoke/VarHandle") (hpd : parseMethodDescriptor y.desc = some ⟨ps, ro⟩) (ctr : Ctr l y yb ymx yr rm Z as h n0 Q' []) (has : (.ref a :: argsL).toArray = as) (hlen : argsL.length = ps.length) (hst : stk = argsL.reverse ++ .ref a :: rest) (hsz : Ls.size = mx) (hW : (rest.map fun v => v.category).sum ≤ Wt) (hf : rm.frames + 1 ≤ R.frames) (hl : Wt + (ymx + 11) + rm.locals ≤ R.locals) (hc : k + rm.cells ≤ R.cells) (hs : n + rm.slots ≤ R.slots) (hp : pc + 3 = pc')
    (K : ∀ v T' h', W Z own nm bytes mx rt n0 p l e R s m args below meth c (k + rm.cells) (n + rm.slots) T' h' → Q' v h' → Go n0 p e below s Q CC NN T' (mkF m pc' Ls (v.toList ++ rest))) : Go n0 p e below s Q CC NN T (mkF m pc Ls stk) := by
  obtain ⟨hx, hb, hown, hZ, r1, r2, r3, r4, ⟨L, X, N⟩, eT⟩ := w
  obtain ⟨cq, qa, qb⟩ := E.cell
  obtain ⟨ci, ki, i1, i2, -, i4, -, -⟩ := Cond.instantiable_spec (mvT hZ w5 (args := #[]))
  have hni : ki.isInterface = false := (Bool.or_eq_false_iff.mp i4).1
  have hpr := Cond.privateMethod_at (mvP hZ w6 (args := #[]))
  have hsel := selects_self_of_private (args := args) i1 i2 hni hpr (mvT hZ w2) hy
  obtain ⟨v, _, ⟨T', L', k', n'⟩, -, X', ⟨Lc, hQ, hl1, hc1, hs1⟩, st⟩ := X.privateBack hx (y := y) hown (mvT hZ w1) (mvT hZ w2) hsel hpr (mvT hZ w4) hy (backOf (W := Wt) (Q := fun v h L => Fr n0 L ∧ Q' v h) ctr hZ w4 w3 hf hl) (g := mkF m pc Ls stk) rfl (hsz.trans r1.symm) (Steps.refl _) (a := a) (by rw [eT]; exact qa) qb (argsL := argsL) (rest := rest) (lenOf hpd hlen) hst (by show 2 * 0 + _ ≤ _; omega) (by rw [hb]; exact hd) (fun _ _ => ⟨has, eT, hc, hs⟩)
  dsimp only [Pt.U, Pt.locs, Pt.cells, Pt.slots] at X' st hQ hl1 hc1 hs1
  subst hl1 hc1 hs1
  obtain ⟨s₂, q, st', r⟩ := K v T' T'.heap ⟨hx, hb, hown, hZ, r1, r2, r3, r4, ⟨_, X', Fr.app N hQ.1⟩, rfl⟩ hQ.2
  subst hp
  exact ⟨s₂, q, st.trans st', r⟩
theorem own_bb (y : Int32) : y.toInt8.toInt32.toInt8.toInt32 = y.toInt8.toInt32 := by rw [Int8.toInt8_toInt32]
end GoKit

theorem d2_0 : decode prog_22_method_2_code 0 = .ok (.iload_n 1, 1) := by decide +kernel
theorem d2_1 : decode prog_22_method_2_code 1 = .ok (.bipush 10, 2) := by decide +kernel
theorem d2_3 : decode prog_22_method_2_code 3 = .ok (.if_icmp .lt 27, 3) := by decide +kernel
theorem d2_6 : decode prog_22_method_2_code 6 = .ok (.aload_n 0, 1) := by decide +kernel
theorem d2_7 : decode prog_22_method_2_code 7 = .ok (.iconst 0, 1) := by decide +kernel
theorem d2_8 : decode prog_22_method_2_code 8 = .ok (.baload, 1) := by decide +kernel
theorem d2_9 : decode prog_22_method_2_code 9 = .ok (.bipush 73, 2) := by decide +kernel
theorem d2_11 : decode prog_22_method_2_code 11 = .ok (.if_icmp .ne 19, 3) := by decide +kernel
theorem d2_14 : decode prog_22_method_2_code 14 = .ok (.aload_n 0, 1) := by decide +kernel
theorem d2_15 : decode prog_22_method_2_code 15 = .ok (.iconst 1, 1) := by decide +kernel
theorem d2_16 : decode prog_22_method_2_code 16 = .ok (.baload, 1) := by decide +kernel
theorem d2_17 : decode prog_22_method_2_code 17 = .ok (.bipush 68, 2) := by decide +kernel
theorem d2_19 : decode prog_22_method_2_code 19 = .ok (.if_icmp .ne 11, 3) := by decide +kernel
theorem d2_22 : decode prog_22_method_2_code 22 = .ok (.aload_n 0, 1) := by decide +kernel
theorem d2_23 : decode prog_22_method_2_code 23 = .ok (.iconst 2, 1) := by decide +kernel
theorem d2_24 : decode prog_22_method_2_code 24 = .ok (.baload, 1) := by decide +kernel
theorem d2_25 : decode prog_22_method_2_code 25 = .ok (.bipush 51, 2) := by decide +kernel
theorem d2_27 : decode prog_22_method_2_code 27 = .ok (.if_icmp .eq 5, 3) := by decide +kernel
theorem d2_30 : decode prog_22_method_2_code 30 = .ok (.iconst 0, 1) := by decide +kernel
theorem d2_31 : decode prog_22_method_2_code 31 = .ok (.ireturn, 1) := by decide +kernel
theorem d2_32 : decode prog_22_method_2_code 32 = .ok (.aload_n 0, 1) := by decide +kernel
theorem d2_33 : decode prog_22_method_2_code 33 = .ok (.iconst 3, 1) := by decide +kernel
theorem d2_34 : decode prog_22_method_2_code 34 = .ok (.baload, 1) := by decide +kernel
theorem d2_35 : decode prog_22_method_2_code 35 = .ok (.istore_n 2, 1) := by decide +kernel
theorem d2_36 : decode prog_22_method_2_code 36 = .ok (.iload_n 2, 1) := by decide +kernel
theorem d2_37 : decode prog_22_method_2_code 37 = .ok (.iconst 2, 1) := by decide +kernel
theorem d2_38 : decode prog_22_method_2_code 38 = .ok (.if_icmp .lt 12, 3) := by decide +kernel
theorem d2_41 : decode prog_22_method_2_code 41 = .ok (.iload_n 2, 1) := by decide +kernel
theorem d2_42 : decode prog_22_method_2_code 42 = .ok (.iconst 4, 1) := by decide +kernel
theorem d2_43 : decode prog_22_method_2_code 43 = .ok (.if_icmp .gt 7, 3) := by decide +kernel
theorem d2_46 : decode prog_22_method_2_code 46 = .ok (.iconst 1, 1) := by decide +kernel
theorem d2_47 : decode prog_22_method_2_code 47 = .ok (.goto 4, 3) := by decide +kernel
theorem d2_50 : decode prog_22_method_2_code 50 = .ok (.iconst 0, 1) := by decide +kernel
theorem d2_51 : decode prog_22_method_2_code 51 = .ok (.ireturn, 1) := by decide +kernel
theorem pn_d2 : plainFor (⟨"com/example/kindred/kindred/index/Id3v2", "startsWithHeader", "([BI)Z"⟩ : MethodName) = true := by first | (refine plainFor_of_name ?_; simp [plainName, overriddenIn]; done) | decide +kernel
theorem pd_d2 : parseMethodDescriptor "([BI)Z" = some ⟨[(.array .byte), .int], some .boolean⟩ := by decide +kernel
theorem d1_0 : decode method_2_code 0 = .ok (.iload_n 0, 1) := by decide +kernel
theorem d1_1 : decode method_2_code 1 = .ok (.iconst 1, 1) := by decide +kernel
theorem d1_2 : decode method_2_code 2 = .ok (.iand, 1) := by decide +kernel
theorem d1_3 : decode method_2_code 3 = .ok (.ifCond .eq 8, 3) := by decide +kernel
theorem d1_6 : decode method_2_code 6 = .ok (.iload_n 1, 1) := by decide +kernel
theorem d1_7 : decode method_2_code 7 = .ok (.i2b, 1) := by decide +kernel
theorem d1_8 : decode method_2_code 8 = .ok (.goto 7, 3) := by decide +kernel
theorem d1_11 : decode method_2_code 11 = .ok (.iload_n 0, 1) := by decide +kernel
theorem d1_12 : decode method_2_code 12 = .ok (.iconst 1, 1) := by decide +kernel
theorem d1_13 : decode method_2_code 13 = .ok (.ishr, 1) := by decide +kernel
theorem d1_14 : decode method_2_code 14 = .ok (.i2b, 1) := by decide +kernel
theorem d1_15 : decode method_2_code 15 = .ok (.ireturn, 1) := by decide +kernel
theorem pn_d1 : plainFor (⟨"com/example/kindred/kindred/index/Id3v2StartsWithHeaderPinLaw", "pick", "(IC)B"⟩ : MethodName) = true := by first | (refine plainFor_of_name ?_; simp [plainName, overriddenIn]; done) | decide +kernel
theorem pd_d1 : parseMethodDescriptor "(IC)B" = some ⟨[.int, .char], some .byte⟩ := by decide +kernel
theorem pn_at0 : plainName "com/example/kindred/kindred/index/Id3v2StartsWithHeaderPinLaw" = true := by first | (simp [plainName, overriddenIn]; done) | decide +kernel
theorem pn_at : plainFor x = true := plainFor_of_name pn_at0
variable {p : Program} {l : Launch} {e : Env} {s : State} {m : MethodId} {args : Array Value} {below : List Frame} {meth : Method} {c : Code} {T : State} {Z : State} {n0 : Nat} {h : Heap} {a0 : Array Value}
def own_pick (p ch : Int32) : Int32 := if (p &&& (1 : Int32)) = (0 : Int32) then (p >>> ((1 : Int32) &&& 31)).toInt8.toInt32 else ch.toInt8.toInt32
theorem own_pick_b (p ch : Int32) : (own_pick p ch).toInt8.toInt32 = own_pick p ch := by
  unfold own_pick; split <;> exact own_bb _
def own_P (b0 b1 b2 b3 len : Int32) : Prop := ¬ len < (10 : Int32) ∧ (b0 = (73 : Int32) ∧ b1 = (68 : Int32) ∧ b2 = (51 : Int32)) ∧ (b3 = (2 : Int32) ∨ b3 = (3 : Int32) ∨ b3 = (4 : Int32))
def own_swh (b0 b1 b2 b3 len : Int32) : Int32 := if len < (10 : Int32) then 0 else if ¬ b0 = (73 : Int32) then 0 else if ¬ b1 = (68 : Int32) then 0 else if ¬ b2 = (51 : Int32) then 0 else if b3 < (2 : Int32) then 0 else if (4 : Int32) < b3 then 0 else 1
theorem own_234 {b : Int32} (h1 : ¬ b < (2 : Int32)) (h2 : ¬ (4 : Int32) < b) : b = (2 : Int32) ∨ b = (3 : Int32) ∨ b = (4 : Int32) := by
  rw [Int32.lt_iff_toInt_lt] at h1 h2
  have k2 : (2 : Int32).toInt = 2 := rfl
  have k4 : (4 : Int32).toInt = 4 := rfl
  have r : b.toInt = 2 ∨ b.toInt = 3 ∨ b.toInt = 4 := by omega
  rcases r with r | r | r
  · exact Or.inl (Int32.toInt_inj.mp r)
  · exact Or.inr (Or.inl (Int32.toInt_inj.mp r))
  · exact Or.inr (Or.inr (Int32.toInt_inj.mp r))
theorem own_swh_y {b0 b1 b2 b3 len : Int32} (q : own_P b0 b1 b2 b3 len) : own_swh b0 b1 b2 b3 len = 1 := by
  obtain ⟨q1, ⟨q2, q3, q4⟩, q5⟩ := q
  unfold own_swh
  rw [if_neg q1, if_neg (fun r => r q2), if_neg (fun r => r q3), if_neg (fun r => r q4)]
  rcases q5 with rfl | rfl | rfl <;> decide
theorem own_swh_n {b0 b1 b2 b3 len : Int32} (q : ¬ own_P b0 b1 b2 b3 len) : own_swh b0 b1 b2 b3 len = 0 := by
  unfold own_swh
  split
  · rfl
  split
  · rfl
  split
  · rfl
  split
  · rfl
  split
  · rfl
  split
  · rfl
  rename_i a1 a2 a3 a4 a5 a6
  exact absurd ⟨a1, ⟨Decidable.not_not.mp a2, Decidable.not_not.mp a3, Decidable.not_not.mp a4⟩, own_234 a5 a6⟩ q
set_option maxRecDepth 65536 in
set_option maxHeartbeats 4000000 in
theorem own_c2 (hw : ∀ d ∈ tables_1, d.before a0 Z = true) (pp ch : Int32) :
    Ctr l (⟨"com/example/kindred/kindred/index/Id3v2StartsWithHeaderPinLaw", "pick", "(IC)B"⟩ : MethodName) method_2_code 2 (some .byte) ({ frames := 0, cells := 0, slots := 0, locals := 0 } : Room) Z #[(.int pp), (.int ch)] h n0 (fun v h' => v = some (.int (own_pick pp ch)) ∧ h' = h) [] := by
  refine metGo (Ls := #[.val (.int pp), .val (.int ch)]) pn_d1 (fun m => by first | rfl | (simp [entryFrame, mkF, argsToLocals, Value.category]; done) | (simp [entryFrame, mkF, argsToLocals, Value.category, maxLocals]; done)) ?_
  intro p e s m below meth c T w
  refine giloadN (pc' := 1) (Ls := #[.val (.int pp), .val (.int ch)]) (rest := []) w d1_0 rfl rfl ?_
  refine giconst (v := (1 : Int32)) (pc' := 2) w d1_1 rfl rfl ?_
  refine giand (pc' := 3) w d1_2 rfl ?_
  refine gif (pt := 11) (pf := 6) w d1_3  (by decide) rfl rfl (fun (c3 : (pp &&& (1 : Int32)) = (0 : Int32)) => ?_) (fun (c3 : ¬ (pp &&& (1 : Int32)) = (0 : Int32)) => ?_)
  · refine giloadN (pc' := 12) (Ls := #[.val (.int pp), .val (.int ch)]) (rest := []) w d1_11 rfl rfl ?_
    refine giconst (v := (1 : Int32)) (pc' := 13) w d1_12 rfl rfl ?_
    refine gishr (pc' := 14) w d1_13 rfl ?_
    refine gi2b (pc' := 15) w d1_14 rfl ?_
    exact gretB w d1_15 (congrArg Value.int (own_bb _)) (by decide) (by decide) ⟨by unfold own_pick; rw [if_pos c3], rfl⟩
  · refine giloadN (pc' := 7) (Ls := #[.val (.int pp), .val (.int ch)]) (rest := []) w d1_6 rfl rfl ?_
    refine gi2b (pc' := 8) w d1_7 rfl ?_
    refine ggoto (pc' := 15) w d1_8 (by decide) rfl ?_
    exact gretB w d1_15 (congrArg Value.int (own_bb _)) (by decide) (by decide) ⟨by unfold own_pick; rw [if_neg c3], rfl⟩
set_option maxRecDepth 65536 in
set_option maxHeartbeats 4000000 in
theorem own_c1 (hw : ∀ d ∈ tables_1, d.before a0 Z = true) (len : Int32) (a : Addr) (ka : ClassId) (vs : List Value) (dv : Value) (b0 b1 b2 b3 : Int32) (V : Arv Z h a ka .byte (12 : Int32) vs dv) (v0 : vs.getD (0 : Int32).toNatClampNeg dv = .int b0) (v1 : vs.getD (1 : Int32).toNatClampNeg dv = .int b1) (v2 : vs.getD (2 : Int32).toNatClampNeg dv = .int b2) (v3 : vs.getD (3 : Int32).toNatClampNeg dv = .int b3) :
    Ctr l (⟨"com/example/kindred/kindred/index/Id3v2", "startsWithHeader", "([BI)Z"⟩ : MethodName) prog_22_method_2_code 3 (some .boolean) ({ frames := 0, cells := 0, slots := 0, locals := 0 } : Room) Z #[(.ref a), (.int len)] h n0 (fun v h' => v = some (.int (own_swh b0 b1 b2 b3 len)) ∧ h' = h) [] := by
  refine metGo (Ls := #[.val (.ref a), .val (.int len), .unset]) pn_d2 (fun m => by first | rfl | (simp [entryFrame, mkF, argsToLocals, Value.category]; done) | (simp [entryFrame, mkF, argsToLocals, Value.category, maxLocals]; done)) ?_
  intro p e s m below meth c T w
  refine giloadN (pc' := 1) (Ls := #[.val (.ref a), .val (.int len), .unset]) (rest := []) w d2_0 rfl rfl ?_
  refine gbipush (v := (10 : Int32)) (pc' := 3) w d2_1 rfl rfl ?_
  refine gicmp (pt := 30) (pf := 6) w d2_3  (by decide) rfl rfl (fun (c3 : len < (10 : Int32)) => ?_) (fun (c3 : ¬ len < (10 : Int32)) => ?_)
  · refine giconst (v := (0 : Int32)) (pc' := 31) w d2_30 rfl rfl ?_
    exact gretZ w d2_31 rfl (by decide) (by decide) ⟨by simp [own_swh, c3], rfl⟩
  · refine galoadN (pc' := 7) (Ls := #[.val (.ref a), .val (.int len), .unset]) (rest := []) w d2_6 rfl rfl rfl ?_
    refine giconst (v := (0 : Int32)) (pc' := 8) w d2_7 rfl rfl ?_
    refine gbaload (pc' := 9) (v := (.int b0)) w d2_8 V (by decide) v0 rfl ?_
    refine gbipush (v := (73 : Int32)) (pc' := 11) w d2_9 rfl rfl ?_
    refine gicmp (pt := 30) (pf := 14) w d2_11  (by decide) rfl rfl (fun (c11 : ¬ b0 = (73 : Int32)) => ?_) (fun (c11 : b0 = (73 : Int32)) => ?_)
    · refine giconst (v := (0 : Int32)) (pc' := 31) w d2_30 rfl rfl ?_
      exact gretZ w d2_31 rfl (by decide) (by decide) ⟨by simp [own_swh, c3, c11], rfl⟩
    · refine galoadN (pc' := 15) (Ls := #[.val (.ref a), .val (.int len), .unset]) (rest := []) w d2_14 rfl rfl rfl ?_
      refine giconst (v := (1 : Int32)) (pc' := 16) w d2_15 rfl rfl ?_
      refine gbaload (pc' := 17) (v := (.int b1)) w d2_16 V (by decide) v1 rfl ?_
      refine gbipush (v := (68 : Int32)) (pc' := 19) w d2_17 rfl rfl ?_
      refine gicmp (pt := 30) (pf := 22) w d2_19  (by decide) rfl rfl (fun (c19 : ¬ b1 = (68 : Int32)) => ?_) (fun (c19 : b1 = (68 : Int32)) => ?_)
      · refine giconst (v := (0 : Int32)) (pc' := 31) w d2_30 rfl rfl ?_
        exact gretZ w d2_31 rfl (by decide) (by decide) ⟨by simp [own_swh, c3, c11, c19], rfl⟩
      · refine galoadN (pc' := 23) (Ls := #[.val (.ref a), .val (.int len), .unset]) (rest := []) w d2_22 rfl rfl rfl ?_
        refine giconst (v := (2 : Int32)) (pc' := 24) w d2_23 rfl rfl ?_
        refine gbaload (pc' := 25) (v := (.int b2)) w d2_24 V (by decide) v2 rfl ?_
        refine gbipush (v := (51 : Int32)) (pc' := 27) w d2_25 rfl rfl ?_
        refine gicmp (pt := 32) (pf := 30) w d2_27  (by decide) rfl rfl (fun (c27 : b2 = (51 : Int32)) => ?_) (fun (c27 : ¬ b2 = (51 : Int32)) => ?_)
        · refine galoadN (pc' := 33) (Ls := #[.val (.ref a), .val (.int len), .unset]) (rest := []) w d2_32 rfl rfl rfl ?_
          refine giconst (v := (3 : Int32)) (pc' := 34) w d2_33 rfl rfl ?_
          refine gbaload (pc' := 35) (v := (.int b3)) w d2_34 V (by decide) v3 rfl ?_
          refine gistoreN (pc' := 36) (Ls := #[.val (.ref a), .val (.int len), .unset]) (Ls' := #[.val (.ref a), .val (.int len), .val (.int b3)]) (rest := []) w d2_35 rfl rfl ?_
          refine giloadN (pc' := 37) (Ls := #[.val (.ref a), .val (.int len), .val (.int b3)]) (rest := []) w d2_36 rfl rfl ?_
          refine giconst (v := (2 : Int32)) (pc' := 38) w d2_37 rfl rfl ?_
          refine gicmp (pt := 50) (pf := 41) w d2_38  (by decide) rfl rfl (fun (c38 : b3 < (2 : Int32)) => ?_) (fun (c38 : ¬ b3 < (2 : Int32)) => ?_)
          · refine giconst (v := (0 : Int32)) (pc' := 51) w d2_50 rfl rfl ?_
            exact gretZ w d2_51 rfl (by decide) (by decide) ⟨by simp [own_swh, c3, c11, c19, c27, c38], rfl⟩
          · refine giloadN (pc' := 42) (Ls := #[.val (.ref a), .val (.int len), .val (.int b3)]) (rest := []) w d2_41 rfl rfl ?_
            refine giconst (v := (4 : Int32)) (pc' := 43) w d2_42 rfl rfl ?_
            refine gicmp (pt := 50) (pf := 46) w d2_43  (by decide) rfl rfl (fun (c43 : (4 : Int32) < b3) => ?_) (fun (c43 : ¬ (4 : Int32) < b3) => ?_)
            · refine giconst (v := (0 : Int32)) (pc' := 51) w d2_50 rfl rfl ?_
              exact gretZ w d2_51 rfl (by decide) (by decide) ⟨by simp [own_swh, c3, c11, c19, c27, c38, c43], rfl⟩
            · refine giconst (v := (1 : Int32)) (pc' := 47) w d2_46 rfl rfl ?_
              refine ggoto (pc' := 51) w d2_47 (by decide) rfl ?_
              exact gretZ w d2_51 rfl (by decide) (by decide) ⟨by simp [own_swh, c3, c11, c19, c27, c38, c43], rfl⟩
        · refine giconst (v := (0 : Int32)) (pc' := 31) w d2_30 rfl rfl ?_
          exact gretZ w d2_31 rfl (by decide) (by decide) ⟨by simp [own_swh, c3, c11, c19, c27], rfl⟩
set_option maxRecDepth 65536 in
set_option maxHeartbeats 4000000 in
theorem own_b243 (hw : ∀ d ∈ tables_1, d.before a0 Z = true) (w : W Z "com/example/kindred/kindred/index/Id3v2StartsWithHeaderPinLaw" "law" code maxLocals ret n0 p l e room_1 s m args below meth c 1 12 T h) (ln p0 p1 p2 p3 re : Int32) (len mg vr ex : Int32) (a : Addr) (ka : ClassId) (vs : List Value) (dv : Value) (b0 b1 b2 b3 : Int32) (V : Arv Z h a ka .byte (12 : Int32) vs dv) (v0 : vs.getD (0 : Int32).toNatClampNeg dv = .int b0) (v1 : vs.getD (1 : Int32).toNatClampNeg dv = .int b1) (v2 : vs.getD (2 : Int32).toNatClampNeg dv = .int b2) (v3 : vs.getD (3 : Int32).toNatClampNeg dv = .int b3) (He : (ex = 1 ∧ own_P b0 b1 b2 b3 len) ∨ (ex = 0 ∧ ¬ own_P b0 b1 b2 b3 len))  :
    Go n0 p e below s (fun v _ => v = some (.int 1)) room_1.cells room_1.slots T (mkF m 243 #[.val (.int ln), .val (.int p0), .val (.int p1), .val (.int p2), .val (.int p3), .val (.int re), .val (.ref a), .val (.int len), .val (.int mg), .val (.int vr), .unset] [(.int ex)]) := by
  refine gistore (pc' := 245) (Ls := #[.val (.int ln), .val (.int p0), .val (.int p1), .val (.int p2), .val (.int p3), .val (.int re), .val (.ref a), .val (.int len), .val (.int mg), .val (.int vr), .unset]) (Ls' := #[.val (.int ln), .val (.int p0), .val (.int p1), .val (.int p2), .val (.int p3), .val (.int re), .val (.ref a), .val (.int len), .val (.int mg), .val (.int vr), .val (.int ex)]) (rest := []) w at_243 rfl rfl ?_
  refine gaload (pc' := 247) (Ls := #[.val (.int ln), .val (.int p0), .val (.int p1), .val (.int p2), .val (.int p3), .val (.int re), .val (.ref a), .val (.int len), .val (.int mg), .val (.int vr), .val (.int ex)]) (rest := []) w at_245 rfl rfl rfl ?_
  refine giload (pc' := 249) (Ls := #[.val (.int ln), .val (.int p0), .val (.int p1), .val (.int p2), .val (.int p3), .val (.int re), .val (.ref a), .val (.int len), .val (.int mg), .val (.int vr), .val (.int ex)]) (rest := [(.ref a)]) w at_247 rfl rfl ?_
  refine gcallS (pc' := 252) (argsL := [(.ref a), (.int len)]) (rest := []) (Wt := 0) w at_249 (hw _ (List.mem_of_getElem? (i := 6) rfl)) (hw _ (List.mem_of_getElem? (i := 7) rfl)) (hw _ (List.mem_of_getElem? (i := 8) rfl)) (hw _ (List.mem_of_getElem? (i := 9) rfl)) (by decide) pd_d2 (own_c1 hw len a ka vs dv b0 b1 b2 b3 V v0 v1 v2 v3) rfl rfl rfl rfl (Nat.le_of_eq rfl) (by decide) (by decide) (by decide) (by decide) rfl (fun v1 T2 h3 w4 q5 => ?_)
  obtain ⟨rfl, eh⟩ := q5
  show Go _ _ _ _ _ _ _ _ _ (mkF m 252 #[.val (.int ln), .val (.int p0), .val (.int p1), .val (.int p2), .val (.int p3), .val (.int re), .val (.ref a), .val (.int len), .val (.int mg), .val (.int vr), .val (.int ex)] [(.int (own_swh b0 b1 b2 b3 len))])
  rw [eh] at w4
  refine giload (pc' := 254) (Ls := #[.val (.int ln), .val (.int p0), .val (.int p1), .val (.int p2), .val (.int p3), .val (.int re), .val (.ref a), .val (.int len), .val (.int mg), .val (.int vr), .val (.int ex)]) (rest := [(.int (own_swh b0 b1 b2 b3 len))]) w4 at_252 rfl rfl ?_
  refine gicmp (pt := 261) (pf := 257) w4 at_254  (by decide) rfl rfl (fun (c254 : ¬ (own_swh b0 b1 b2 b3 len) = ex) => ?_) (fun (c254 : (own_swh b0 b1 b2 b3 len) = ex) => ?_)
  · refine giconst (v := (0 : Int32)) (pc' := 262) w4 at_261 rfl rfl ?_
    rcases He with ⟨e1, e2⟩ | ⟨e1, e2⟩
    · exact absurd ((own_swh_y e2).trans e1.symm) c254
    · exact absurd ((own_swh_n e2).trans e1.symm) c254
  · refine giconst (v := (1 : Int32)) (pc' := 258) w4 at_257 rfl rfl ?_
    refine ggoto (pc' := 262) w4 at_258 (by decide) rfl ?_
    exact gretZ w4 at_262 rfl (by decide) (by decide) rfl
set_option maxRecDepth 65536 in
set_option maxHeartbeats 4000000 in
theorem own_b219 (hw : ∀ d ∈ tables_1, d.before a0 Z = true) (w : W Z "com/example/kindred/kindred/index/Id3v2StartsWithHeaderPinLaw" "law" code maxLocals ret n0 p l e room_1 s m args below meth c 1 12 T h) (ln p0 p1 p2 p3 re : Int32) (len mg vr : Int32) (a : Addr) (ka : ClassId) (vs : List Value) (dv : Value) (b0 b1 b2 b3 : Int32) (V : Arv Z h a ka .byte (12 : Int32) vs dv) (v0 : vs.getD (0 : Int32).toNatClampNeg dv = .int b0) (v1 : vs.getD (1 : Int32).toNatClampNeg dv = .int b1) (v2 : vs.getD (2 : Int32).toNatClampNeg dv = .int b2) (v3 : vs.getD (3 : Int32).toNatClampNeg dv = .int b3) (Hm : (mg = 1 ∧ (b0 = (73 : Int32) ∧ b1 = (68 : Int32) ∧ b2 = (51 : Int32))) ∨ (mg = 0 ∧ ¬ (b0 = (73 : Int32) ∧ b1 = (68 : Int32) ∧ b2 = (51 : Int32)))) (Hv : (vr = 1 ∧ (b3 = (2 : Int32) ∨ b3 = (3 : Int32) ∨ b3 = (4 : Int32))) ∨ (vr = 0 ∧ ¬ (b3 = (2 : Int32) ∨ b3 = (3 : Int32) ∨ b3 = (4 : Int32)))) :
    Go n0 p e below s (fun v _ => v = some (.int 1)) room_1.cells room_1.slots T (mkF m 219 #[.val (.int ln), .val (.int p0), .val (.int p1), .val (.int p2), .val (.int p3), .val (.int re), .val (.ref a), .val (.int len), .val (.int mg), .unset, .unset] [(.int vr)]) := by
  refine gistore (pc' := 221) (Ls := #[.val (.int ln), .val (.int p0), .val (.int p1), .val (.int p2), .val (.int p3), .val (.int re), .val (.ref a), .val (.int len), .val (.int mg), .unset, .unset]) (Ls' := #[.val (.int ln), .val (.int p0), .val (.int p1), .val (.int p2), .val (.int p3), .val (.int re), .val (.ref a), .val (.int len), .val (.int mg), .val (.int vr), .unset]) (rest := []) w at_219 rfl rfl ?_
  refine giload (pc' := 223) (Ls := #[.val (.int ln), .val (.int p0), .val (.int p1), .val (.int p2), .val (.int p3), .val (.int re), .val (.ref a), .val (.int len), .val (.int mg), .val (.int vr), .unset]) (rest := []) w at_221 rfl rfl ?_
  refine gbipush (v := (10 : Int32)) (pc' := 225) w at_223 rfl rfl ?_
  refine gicmp (pt := 242) (pf := 228) w at_225  (by decide) rfl rfl (fun (c225 : len < (10 : Int32)) => ?_) (fun (c225 : ¬ len < (10 : Int32)) => ?_)
  · refine giconst (v := (0 : Int32)) (pc' := 243) w at_242 rfl rfl ?_
    exact own_b243 hw w ln p0 p1 p2 p3 re len mg vr (0 : Int32) a ka vs dv b0 b1 b2 b3 V v0 v1 v2 v3 (Or.inr ⟨rfl, fun r => r.1 c225⟩)
  · refine giload (pc' := 230) (Ls := #[.val (.int ln), .val (.int p0), .val (.int p1), .val (.int p2), .val (.int p3), .val (.int re), .val (.ref a), .val (.int len), .val (.int mg), .val (.int vr), .unset]) (rest := []) w at_228 rfl rfl ?_
    refine gif (pt := 242) (pf := 233) w at_230  (by decide) rfl rfl (fun (c230 : mg = (0 : Int32)) => ?_) (fun (c230 : ¬ mg = (0 : Int32)) => ?_)
    · refine giconst (v := (0 : Int32)) (pc' := 243) w at_242 rfl rfl ?_
      exact own_b243 hw w ln p0 p1 p2 p3 re len mg vr (0 : Int32) a ka vs dv b0 b1 b2 b3 V v0 v1 v2 v3 (Or.inr ⟨rfl, fun r => Hm.elim (fun u => absurd (u.1.symm.trans c230) (by decide)) (fun u => u.2 r.2.1)⟩)
    · refine giload (pc' := 235) (Ls := #[.val (.int ln), .val (.int p0), .val (.int p1), .val (.int p2), .val (.int p3), .val (.int re), .val (.ref a), .val (.int len), .val (.int mg), .val (.int vr), .unset]) (rest := []) w at_233 rfl rfl ?_
      refine gif (pt := 242) (pf := 238) w at_235  (by decide) rfl rfl (fun (c235 : vr = (0 : Int32)) => ?_) (fun (c235 : ¬ vr = (0 : Int32)) => ?_)
      · refine giconst (v := (0 : Int32)) (pc' := 243) w at_242 rfl rfl ?_
        exact own_b243 hw w ln p0 p1 p2 p3 re len mg vr (0 : Int32) a ka vs dv b0 b1 b2 b3 V v0 v1 v2 v3 (Or.inr ⟨rfl, fun r => Hv.elim (fun u => absurd (u.1.symm.trans c235) (by decide)) (fun u => u.2 r.2.2)⟩)
      · refine giconst (v := (1 : Int32)) (pc' := 239) w at_238 rfl rfl ?_
        refine ggoto (pc' := 243) w at_239 (by decide) rfl ?_
        exact own_b243 hw w ln p0 p1 p2 p3 re len mg vr (1 : Int32) a ka vs dv b0 b1 b2 b3 V v0 v1 v2 v3 (Or.inl ⟨rfl, c225, Hm.elim (fun u => u.2) (fun u => absurd u.1 c230), Hv.elim (fun u => u.2) (fun u => absurd u.1 c235)⟩)
set_option maxRecDepth 65536 in
set_option maxHeartbeats 4000000 in
theorem own_b188 (hw : ∀ d ∈ tables_1, d.before a0 Z = true) (w : W Z "com/example/kindred/kindred/index/Id3v2StartsWithHeaderPinLaw" "law" code maxLocals ret n0 p l e room_1 s m args below meth c 1 12 T h) (ln p0 p1 p2 p3 re : Int32) (len mg : Int32) (a : Addr) (ka : ClassId) (vs : List Value) (dv : Value) (b0 b1 b2 b3 : Int32) (V : Arv Z h a ka .byte (12 : Int32) vs dv) (v0 : vs.getD (0 : Int32).toNatClampNeg dv = .int b0) (v1 : vs.getD (1 : Int32).toNatClampNeg dv = .int b1) (v2 : vs.getD (2 : Int32).toNatClampNeg dv = .int b2) (v3 : vs.getD (3 : Int32).toNatClampNeg dv = .int b3) (Hm : (mg = 1 ∧ (b0 = (73 : Int32) ∧ b1 = (68 : Int32) ∧ b2 = (51 : Int32))) ∨ (mg = 0 ∧ ¬ (b0 = (73 : Int32) ∧ b1 = (68 : Int32) ∧ b2 = (51 : Int32)))) :
    Go n0 p e below s (fun v _ => v = some (.int 1)) room_1.cells room_1.slots T (mkF m 188 #[.val (.int ln), .val (.int p0), .val (.int p1), .val (.int p2), .val (.int p3), .val (.int re), .val (.ref a), .val (.int len), .unset, .unset, .unset] [(.int mg)]) := by
  refine gistore (pc' := 190) (Ls := #[.val (.int ln), .val (.int p0), .val (.int p1), .val (.int p2), .val (.int p3), .val (.int re), .val (.ref a), .val (.int len), .unset, .unset, .unset]) (Ls' := #[.val (.int ln), .val (.int p0), .val (.int p1), .val (.int p2), .val (.int p3), .val (.int re), .val (.ref a), .val (.int len), .val (.int mg), .unset, .unset]) (rest := []) w at_188 rfl rfl ?_
  refine gaload (pc' := 192) (Ls := #[.val (.int ln), .val (.int p0), .val (.int p1), .val (.int p2), .val (.int p3), .val (.int re), .val (.ref a), .val (.int len), .val (.int mg), .unset, .unset]) (rest := []) w at_190 rfl rfl rfl ?_
  refine giconst (v := (3 : Int32)) (pc' := 193) w at_192 rfl rfl ?_
  refine gbaload (pc' := 194) (v := (.int b3)) w at_193 V (by decide) v3 rfl ?_
  refine giconst (v := (2 : Int32)) (pc' := 195) w at_194 rfl rfl ?_
  refine gicmp (pt := 214) (pf := 198) w at_195  (by decide) rfl rfl (fun (c195 : b3 = (2 : Int32)) => ?_) (fun (c195 : ¬ b3 = (2 : Int32)) => ?_)
  · refine giconst (v := (1 : Int32)) (pc' := 215) w at_214 rfl rfl ?_
    refine ggoto (pc' := 219) w at_215 (by decide) rfl ?_
    exact own_b219 hw w ln p0 p1 p2 p3 re len mg (1 : Int32) a ka vs dv b0 b1 b2 b3 V v0 v1 v2 v3 Hm (Or.inl ⟨rfl, Or.inl c195⟩)
  · refine gaload (pc' := 200) (Ls := #[.val (.int ln), .val (.int p0), .val (.int p1), .val (.int p2), .val (.int p3), .val (.int re), .val (.ref a), .val (.int len), .val (.int mg), .unset, .unset]) (rest := []) w at_198 rfl rfl rfl ?_
    refine giconst (v := (3 : Int32)) (pc' := 201) w at_200 rfl rfl ?_
    refine gbaload (pc' := 202) (v := (.int b3)) w at_201 V (by decide) v3 rfl ?_
    refine giconst (v := (3 : Int32)) (pc' := 203) w at_202 rfl rfl ?_
    refine gicmp (pt := 214) (pf := 206) w at_203  (by decide) rfl rfl (fun (c203 : b3 = (3 : Int32)) => ?_) (fun (c203 : ¬ b3 = (3 : Int32)) => ?_)
    · refine giconst (v := (1 : Int32)) (pc' := 215) w at_214 rfl rfl ?_
      refine ggoto (pc' := 219) w at_215 (by decide) rfl ?_
      exact own_b219 hw w ln p0 p1 p2 p3 re len mg (1 : Int32) a ka vs dv b0 b1 b2 b3 V v0 v1 v2 v3 Hm (Or.inl ⟨rfl, Or.inr (Or.inl c203)⟩)
    · refine gaload (pc' := 208) (Ls := #[.val (.int ln), .val (.int p0), .val (.int p1), .val (.int p2), .val (.int p3), .val (.int re), .val (.ref a), .val (.int len), .val (.int mg), .unset, .unset]) (rest := []) w at_206 rfl rfl rfl ?_
      refine giconst (v := (3 : Int32)) (pc' := 209) w at_208 rfl rfl ?_
      refine gbaload (pc' := 210) (v := (.int b3)) w at_209 V (by decide) v3 rfl ?_
      refine giconst (v := (4 : Int32)) (pc' := 211) w at_210 rfl rfl ?_
      refine gicmp (pt := 218) (pf := 214) w at_211  (by decide) rfl rfl (fun (c211 : ¬ b3 = (4 : Int32)) => ?_) (fun (c211 : b3 = (4 : Int32)) => ?_)
      · refine giconst (v := (0 : Int32)) (pc' := 219) w at_218 rfl rfl ?_
        exact own_b219 hw w ln p0 p1 p2 p3 re len mg (0 : Int32) a ka vs dv b0 b1 b2 b3 V v0 v1 v2 v3 Hm (Or.inr ⟨rfl, fun r => r.elim c195 (fun r => r.elim c203 c211)⟩)
      · refine giconst (v := (1 : Int32)) (pc' := 215) w at_214 rfl rfl ?_
        refine ggoto (pc' := 219) w at_215 (by decide) rfl ?_
        exact own_b219 hw w ln p0 p1 p2 p3 re len mg (1 : Int32) a ka vs dv b0 b1 b2 b3 V v0 v1 v2 v3 Hm (Or.inl ⟨rfl, Or.inr (Or.inr c211)⟩)
set_option maxRecDepth 65536 in
set_option maxHeartbeats 4000000 in
theorem own_b156 (hw : ∀ d ∈ tables_1, d.before a0 Z = true) (w : W Z "com/example/kindred/kindred/index/Id3v2StartsWithHeaderPinLaw" "law" code maxLocals ret n0 p l e room_1 s m args below meth c 1 12 T h) (ln p0 p1 p2 p3 re : Int32) (len : Int32) (a : Addr) (ka : ClassId) (vs : List Value) (dv : Value) (b0 b1 b2 b3 : Int32) (V : Arv Z h a ka .byte (12 : Int32) vs dv) (v0 : vs.getD (0 : Int32).toNatClampNeg dv = .int b0) (v1 : vs.getD (1 : Int32).toNatClampNeg dv = .int b1) (v2 : vs.getD (2 : Int32).toNatClampNeg dv = .int b2) (v3 : vs.getD (3 : Int32).toNatClampNeg dv = .int b3) :
    Go n0 p e below s (fun v _ => v = some (.int 1)) room_1.cells room_1.slots T (mkF m 156 #[.val (.int ln), .val (.int p0), .val (.int p1), .val (.int p2), .val (.int p3), .val (.int re), .val (.ref a), .val (.int len), .unset, .unset, .unset] []) := by
  refine gaload (pc' := 158) (Ls := #[.val (.int ln), .val (.int p0), .val (.int p1), .val (.int p2), .val (.int p3), .val (.int re), .val (.ref a), .val (.int len), .unset, .unset, .unset]) (rest := []) w at_156 rfl rfl rfl ?_
  refine giconst (v := (0 : Int32)) (pc' := 159) w at_158 rfl rfl ?_
  refine gbaload (pc' := 160) (v := (.int b0)) w at_159 V (by decide) v0 rfl ?_
  refine gbipush (v := (73 : Int32)) (pc' := 162) w at_160 rfl rfl ?_
  refine gicmp (pt := 187) (pf := 165) w at_162  (by decide) rfl rfl (fun (c162 : ¬ b0 = (73 : Int32)) => ?_) (fun (c162 : b0 = (73 : Int32)) => ?_)
  · refine giconst (v := (0 : Int32)) (pc' := 188) w at_187 rfl rfl ?_
    exact own_b188 hw w ln p0 p1 p2 p3 re len (0 : Int32) a ka vs dv b0 b1 b2 b3 V v0 v1 v2 v3 (Or.inr ⟨rfl, fun r => c162 r.1⟩)
  · refine gaload (pc' := 167) (Ls := #[.val (.int ln), .val (.int p0), .val (.int p1), .val (.int p2), .val (.int p3), .val (.int re), .val (.ref a), .val (.int len), .unset, .unset, .unset]) (rest := []) w at_165 rfl rfl rfl ?_
    refine giconst (v := (1 : Int32)) (pc' := 168) w at_167 rfl rfl ?_
    refine gbaload (pc' := 169) (v := (.int b1)) w at_168 V (by decide) v1 rfl ?_
    refine gbipush (v := (68 : Int32)) (pc' := 171) w at_169 rfl rfl ?_
    refine gicmp (pt := 187) (pf := 174) w at_171  (by decide) rfl rfl (fun (c171 : ¬ b1 = (68 : Int32)) => ?_) (fun (c171 : b1 = (68 : Int32)) => ?_)
    · refine giconst (v := (0 : Int32)) (pc' := 188) w at_187 rfl rfl ?_
      exact own_b188 hw w ln p0 p1 p2 p3 re len (0 : Int32) a ka vs dv b0 b1 b2 b3 V v0 v1 v2 v3 (Or.inr ⟨rfl, fun r => c171 r.2.1⟩)
    · refine gaload (pc' := 176) (Ls := #[.val (.int ln), .val (.int p0), .val (.int p1), .val (.int p2), .val (.int p3), .val (.int re), .val (.ref a), .val (.int len), .unset, .unset, .unset]) (rest := []) w at_174 rfl rfl rfl ?_
      refine giconst (v := (2 : Int32)) (pc' := 177) w at_176 rfl rfl ?_
      refine gbaload (pc' := 178) (v := (.int b2)) w at_177 V (by decide) v2 rfl ?_
      refine gbipush (v := (51 : Int32)) (pc' := 180) w at_178 rfl rfl ?_
      refine gicmp (pt := 187) (pf := 183) w at_180  (by decide) rfl rfl (fun (c180 : ¬ b2 = (51 : Int32)) => ?_) (fun (c180 : b2 = (51 : Int32)) => ?_)
      · refine giconst (v := (0 : Int32)) (pc' := 188) w at_187 rfl rfl ?_
        exact own_b188 hw w ln p0 p1 p2 p3 re len (0 : Int32) a ka vs dv b0 b1 b2 b3 V v0 v1 v2 v3 (Or.inr ⟨rfl, fun r => c180 r.2.2⟩)
      · refine giconst (v := (1 : Int32)) (pc' := 184) w at_183 rfl rfl ?_
        refine ggoto (pc' := 188) w at_184 (by decide) rfl ?_
        exact own_b188 hw w ln p0 p1 p2 p3 re len (1 : Int32) a ka vs dv b0 b1 b2 b3 V v0 v1 v2 v3 (Or.inl ⟨rfl, c162, c171, c180⟩)
set_option maxRecDepth 65536 in
set_option maxHeartbeats 4000000 in
theorem own_b64 (hw : ∀ d ∈ tables_1, d.before a0 Z = true) (w : W Z "com/example/kindred/kindred/index/Id3v2StartsWithHeaderPinLaw" "law" code maxLocals ret n0 p l e room_1 s m args below meth c 1 12 T h) (ln p0 p1 p2 p3 re : Int32) (a : Addr) (ka : ClassId) (b0 b1 b2 b3 : Int32) (ga : n0 ≤ a) (hb : b3.toInt8.toInt32 = b3) (V : Arv Z h a ka .byte (12 : Int32) [(.int b0), (.int b1), (.int b2), (.int (0 : Int32)), (.int (0 : Int32)), (.int (0 : Int32)), (.int (0 : Int32)), (.int (0 : Int32)), (.int (0 : Int32)), (.int (0 : Int32)), (.int (0 : Int32)), (.int (0 : Int32))] (.int (0 : Int32))) :
    Go n0 p e below s (fun v _ => v = some (.int 1)) room_1.cells room_1.slots T (mkF m 64 #[.val (.int ln), .val (.int p0), .val (.int p1), .val (.int p2), .val (.int p3), .val (.int re), .val (.ref a), .unset, .unset, .unset, .unset] [(.int b3), (.int (3 : Int32)), (.ref a)]) := by
  refine gbastore (pc' := 65) (x' := b3) w at_64 hb V (by decide) (3) rfl (by simp) ga rfl (fun T6 h7 w8 W9 V10 => ?_)
  have V11 : Arv Z h7 a ka .byte (12 : Int32) [(.int b0), (.int b1), (.int b2), (.int b3), (.int (0 : Int32)), (.int (0 : Int32)), (.int (0 : Int32)), (.int (0 : Int32)), (.int (0 : Int32)), (.int (0 : Int32)), (.int (0 : Int32)), (.int (0 : Int32))] (.int (0 : Int32)) := V10
  refine gaload (pc' := 67) (Ls := #[.val (.int ln), .val (.int p0), .val (.int p1), .val (.int p2), .val (.int p3), .val (.int re), .val (.ref a), .unset, .unset, .unset, .unset]) (rest := []) w8 at_65 rfl rfl rfl ?_
  refine giconst (v := (4 : Int32)) (pc' := 68) w8 at_67 rfl rfl ?_
  refine giload (pc' := 70) (Ls := #[.val (.int ln), .val (.int p0), .val (.int p1), .val (.int p2), .val (.int p3), .val (.int re), .val (.ref a), .unset, .unset, .unset, .unset]) (rest := [(.int (4 : Int32)), (.ref a)]) w8 at_68 rfl rfl ?_
  refine gi2b (pc' := 71) w8 at_70 rfl ?_
  refine gbastore (pc' := 72) (x' := (re.toInt8.toInt32)) w8 at_71 (own_bb _) V11 (by decide) (4) rfl (by simp) ga rfl (fun T12 h13 w14 W15 V16 => ?_)
  have V17 : Arv Z h13 a ka .byte (12 : Int32) [(.int b0), (.int b1), (.int b2), (.int b3), (.int (re.toInt8.toInt32)), (.int (0 : Int32)), (.int (0 : Int32)), (.int (0 : Int32)), (.int (0 : Int32)), (.int (0 : Int32)), (.int (0 : Int32)), (.int (0 : Int32))] (.int (0 : Int32)) := V16
  refine gaload (pc' := 74) (Ls := #[.val (.int ln), .val (.int p0), .val (.int p1), .val (.int p2), .val (.int p3), .val (.int re), .val (.ref a), .unset, .unset, .unset, .unset]) (rest := []) w14 at_72 rfl rfl rfl ?_
  refine giconst (v := (5 : Int32)) (pc' := 75) w14 at_74 rfl rfl ?_
  refine giload (pc' := 77) (Ls := #[.val (.int ln), .val (.int p0), .val (.int p1), .val (.int p2), .val (.int p3), .val (.int re), .val (.ref a), .unset, .unset, .unset, .unset]) (rest := [(.int (5 : Int32)), (.ref a)]) w14 at_75 rfl rfl ?_
  refine giconst (v := (4 : Int32)) (pc' := 78) w14 at_77 rfl rfl ?_
  refine gishr (pc' := 79) w14 at_78 rfl ?_
  refine gi2b (pc' := 80) w14 at_79 rfl ?_
  refine gbastore (pc' := 81) (x' := (((re >>> ((4 : Int32) &&& 31))).toInt8.toInt32)) w14 at_80 (own_bb _) V17 (by decide) (5) rfl (by simp) ga rfl (fun T18 h19 w20 W21 V22 => ?_)
  have V23 : Arv Z h19 a ka .byte (12 : Int32) [(.int b0), (.int b1), (.int b2), (.int b3), (.int (re.toInt8.toInt32)), (.int (((re >>> ((4 : Int32) &&& 31))).toInt8.toInt32)), (.int (0 : Int32)), (.int (0 : Int32)), (.int (0 : Int32)), (.int (0 : Int32)), (.int (0 : Int32)), (.int (0 : Int32))] (.int (0 : Int32)) := V22
  refine gaload (pc' := 83) (Ls := #[.val (.int ln), .val (.int p0), .val (.int p1), .val (.int p2), .val (.int p3), .val (.int re), .val (.ref a), .unset, .unset, .unset, .unset]) (rest := []) w20 at_81 rfl rfl rfl ?_
  refine gbipush (v := (6 : Int32)) (pc' := 85) w20 at_83 rfl rfl ?_
  refine giload (pc' := 87) (Ls := #[.val (.int ln), .val (.int p0), .val (.int p1), .val (.int p2), .val (.int p3), .val (.int re), .val (.ref a), .unset, .unset, .unset, .unset]) (rest := [(.int (6 : Int32)), (.ref a)]) w20 at_85 rfl rfl ?_
  refine gbipush (v := (8 : Int32)) (pc' := 89) w20 at_87 rfl rfl ?_
  refine gishr (pc' := 90) w20 at_89 rfl ?_
  refine gi2b (pc' := 91) w20 at_90 rfl ?_
  refine gbastore (pc' := 92) (x' := (((re >>> ((8 : Int32) &&& 31))).toInt8.toInt32)) w20 at_91 (own_bb _) V23 (by decide) (6) rfl (by simp) ga rfl (fun T24 h25 w26 W27 V28 => ?_)
  have V29 : Arv Z h25 a ka .byte (12 : Int32) [(.int b0), (.int b1), (.int b2), (.int b3), (.int (re.toInt8.toInt32)), (.int (((re >>> ((4 : Int32) &&& 31))).toInt8.toInt32)), (.int (((re >>> ((8 : Int32) &&& 31))).toInt8.toInt32)), (.int (0 : Int32)), (.int (0 : Int32)), (.int (0 : Int32)), (.int (0 : Int32)), (.int (0 : Int32))] (.int (0 : Int32)) := V28
  refine gaload (pc' := 94) (Ls := #[.val (.int ln), .val (.int p0), .val (.int p1), .val (.int p2), .val (.int p3), .val (.int re), .val (.ref a), .unset, .unset, .unset, .unset]) (rest := []) w26 at_92 rfl rfl rfl ?_
  refine gbipush (v := (7 : Int32)) (pc' := 96) w26 at_94 rfl rfl ?_
  refine giload (pc' := 98) (Ls := #[.val (.int ln), .val (.int p0), .val (.int p1), .val (.int p2), .val (.int p3), .val (.int re), .val (.ref a), .unset, .unset, .unset, .unset]) (rest := [(.int (7 : Int32)), (.ref a)]) w26 at_96 rfl rfl ?_
  refine gbipush (v := (12 : Int32)) (pc' := 100) w26 at_98 rfl rfl ?_
  refine gishr (pc' := 101) w26 at_100 rfl ?_
  refine gi2b (pc' := 102) w26 at_101 rfl ?_
  refine gbastore (pc' := 103) (x' := (((re >>> ((12 : Int32) &&& 31))).toInt8.toInt32)) w26 at_102 (own_bb _) V29 (by decide) (7) rfl (by simp) ga rfl (fun T30 h31 w32 W33 V34 => ?_)
  have V35 : Arv Z h31 a ka .byte (12 : Int32) [(.int b0), (.int b1), (.int b2), (.int b3), (.int (re.toInt8.toInt32)), (.int (((re >>> ((4 : Int32) &&& 31))).toInt8.toInt32)), (.int (((re >>> ((8 : Int32) &&& 31))).toInt8.toInt32)), (.int (((re >>> ((12 : Int32) &&& 31))).toInt8.toInt32)), (.int (0 : Int32)), (.int (0 : Int32)), (.int (0 : Int32)), (.int (0 : Int32))] (.int (0 : Int32)) := V34
  refine gaload (pc' := 105) (Ls := #[.val (.int ln), .val (.int p0), .val (.int p1), .val (.int p2), .val (.int p3), .val (.int re), .val (.ref a), .unset, .unset, .unset, .unset]) (rest := []) w32 at_103 rfl rfl rfl ?_
  refine gbipush (v := (8 : Int32)) (pc' := 107) w32 at_105 rfl rfl ?_
  refine giload (pc' := 109) (Ls := #[.val (.int ln), .val (.int p0), .val (.int p1), .val (.int p2), .val (.int p3), .val (.int re), .val (.ref a), .unset, .unset, .unset, .unset]) (rest := [(.int (8 : Int32)), (.ref a)]) w32 at_107 rfl rfl ?_
  refine gbipush (v := (16 : Int32)) (pc' := 111) w32 at_109 rfl rfl ?_
  refine gishr (pc' := 112) w32 at_111 rfl ?_
  refine gi2b (pc' := 113) w32 at_112 rfl ?_
  refine gbastore (pc' := 114) (x' := (((re >>> ((16 : Int32) &&& 31))).toInt8.toInt32)) w32 at_113 (own_bb _) V35 (by decide) (8) rfl (by simp) ga rfl (fun T36 h37 w38 W39 V40 => ?_)
  have V41 : Arv Z h37 a ka .byte (12 : Int32) [(.int b0), (.int b1), (.int b2), (.int b3), (.int (re.toInt8.toInt32)), (.int (((re >>> ((4 : Int32) &&& 31))).toInt8.toInt32)), (.int (((re >>> ((8 : Int32) &&& 31))).toInt8.toInt32)), (.int (((re >>> ((12 : Int32) &&& 31))).toInt8.toInt32)), (.int (((re >>> ((16 : Int32) &&& 31))).toInt8.toInt32)), (.int (0 : Int32)), (.int (0 : Int32)), (.int (0 : Int32))] (.int (0 : Int32)) := V40
  refine gaload (pc' := 116) (Ls := #[.val (.int ln), .val (.int p0), .val (.int p1), .val (.int p2), .val (.int p3), .val (.int re), .val (.ref a), .unset, .unset, .unset, .unset]) (rest := []) w38 at_114 rfl rfl rfl ?_
  refine gbipush (v := (9 : Int32)) (pc' := 118) w38 at_116 rfl rfl ?_
  refine giload (pc' := 120) (Ls := #[.val (.int ln), .val (.int p0), .val (.int p1), .val (.int p2), .val (.int p3), .val (.int re), .val (.ref a), .unset, .unset, .unset, .unset]) (rest := [(.int (9 : Int32)), (.ref a)]) w38 at_118 rfl rfl ?_
  refine gbipush (v := (20 : Int32)) (pc' := 122) w38 at_120 rfl rfl ?_
  refine gishr (pc' := 123) w38 at_122 rfl ?_
  refine gi2b (pc' := 124) w38 at_123 rfl ?_
  refine gbastore (pc' := 125) (x' := (((re >>> ((20 : Int32) &&& 31))).toInt8.toInt32)) w38 at_124 (own_bb _) V41 (by decide) (9) rfl (by simp) ga rfl (fun T42 h43 w44 W45 V46 => ?_)
  have V47 : Arv Z h43 a ka .byte (12 : Int32) [(.int b0), (.int b1), (.int b2), (.int b3), (.int (re.toInt8.toInt32)), (.int (((re >>> ((4 : Int32) &&& 31))).toInt8.toInt32)), (.int (((re >>> ((8 : Int32) &&& 31))).toInt8.toInt32)), (.int (((re >>> ((12 : Int32) &&& 31))).toInt8.toInt32)), (.int (((re >>> ((16 : Int32) &&& 31))).toInt8.toInt32)), (.int (((re >>> ((20 : Int32) &&& 31))).toInt8.toInt32)), (.int (0 : Int32)), (.int (0 : Int32))] (.int (0 : Int32)) := V46
  refine gaload (pc' := 127) (Ls := #[.val (.int ln), .val (.int p0), .val (.int p1), .val (.int p2), .val (.int p3), .val (.int re), .val (.ref a), .unset, .unset, .unset, .unset]) (rest := []) w44 at_125 rfl rfl rfl ?_
  refine gbipush (v := (10 : Int32)) (pc' := 129) w44 at_127 rfl rfl ?_
  refine giload (pc' := 131) (Ls := #[.val (.int ln), .val (.int p0), .val (.int p1), .val (.int p2), .val (.int p3), .val (.int re), .val (.ref a), .unset, .unset, .unset, .unset]) (rest := [(.int (10 : Int32)), (.ref a)]) w44 at_129 rfl rfl ?_
  refine gbipush (v := (24 : Int32)) (pc' := 133) w44 at_131 rfl rfl ?_
  refine gishr (pc' := 134) w44 at_133 rfl ?_
  refine gi2b (pc' := 135) w44 at_134 rfl ?_
  refine gbastore (pc' := 136) (x' := (((re >>> ((24 : Int32) &&& 31))).toInt8.toInt32)) w44 at_135 (own_bb _) V47 (by decide) (10) rfl (by simp) ga rfl (fun T48 h49 w50 W51 V52 => ?_)
  have V53 : Arv Z h49 a ka .byte (12 : Int32) [(.int b0), (.int b1), (.int b2), (.int b3), (.int (re.toInt8.toInt32)), (.int (((re >>> ((4 : Int32) &&& 31))).toInt8.toInt32)), (.int (((re >>> ((8 : Int32) &&& 31))).toInt8.toInt32)), (.int (((re >>> ((12 : Int32) &&& 31))).toInt8.toInt32)), (.int (((re >>> ((16 : Int32) &&& 31))).toInt8.toInt32)), (.int (((re >>> ((20 : Int32) &&& 31))).toInt8.toInt32)), (.int (((re >>> ((24 : Int32) &&& 31))).toInt8.toInt32)), (.int (0 : Int32))] (.int (0 : Int32)) := V52
  refine gaload (pc' := 138) (Ls := #[.val (.int ln), .val (.int p0), .val (.int p1), .val (.int p2), .val (.int p3), .val (.int re), .val (.ref a), .unset, .unset, .unset, .unset]) (rest := []) w50 at_136 rfl rfl rfl ?_
  refine gbipush (v := (11 : Int32)) (pc' := 140) w50 at_138 rfl rfl ?_
  refine giload (pc' := 142) (Ls := #[.val (.int ln), .val (.int p0), .val (.int p1), .val (.int p2), .val (.int p3), .val (.int re), .val (.ref a), .unset, .unset, .unset, .unset]) (rest := [(.int (11 : Int32)), (.ref a)]) w50 at_140 rfl rfl ?_
  refine gbipush (v := (28 : Int32)) (pc' := 144) w50 at_142 rfl rfl ?_
  refine gishr (pc' := 145) w50 at_144 rfl ?_
  refine gi2b (pc' := 146) w50 at_145 rfl ?_
  refine gbastore (pc' := 147) (x' := (((re >>> ((28 : Int32) &&& 31))).toInt8.toInt32)) w50 at_146 (own_bb _) V53 (by decide) (11) rfl (by simp) ga rfl (fun T54 h55 w56 W57 V58 => ?_)
  have V59 : Arv Z h55 a ka .byte (12 : Int32) [(.int b0), (.int b1), (.int b2), (.int b3), (.int (re.toInt8.toInt32)), (.int (((re >>> ((4 : Int32) &&& 31))).toInt8.toInt32)), (.int (((re >>> ((8 : Int32) &&& 31))).toInt8.toInt32)), (.int (((re >>> ((12 : Int32) &&& 31))).toInt8.toInt32)), (.int (((re >>> ((16 : Int32) &&& 31))).toInt8.toInt32)), (.int (((re >>> ((20 : Int32) &&& 31))).toInt8.toInt32)), (.int (((re >>> ((24 : Int32) &&& 31))).toInt8.toInt32)), (.int (((re >>> ((28 : Int32) &&& 31))).toInt8.toInt32))] (.int (0 : Int32)) := V58
  refine giloadN (pc' := 148) (Ls := #[.val (.int ln), .val (.int p0), .val (.int p1), .val (.int p2), .val (.int p3), .val (.int re), .val (.ref a), .unset, .unset, .unset, .unset]) (rest := []) w56 at_147 rfl rfl ?_
  refine gldcI (v := (2147483647 : Int32)) (pc' := 150) w56 at_148 (hw _ (List.mem_of_getElem? (i := 5) rfl)) rfl ?_
  refine giand (pc' := 151) w56 at_150 rfl ?_
  refine gbipush (v := (13 : Int32)) (pc' := 153) w56 at_151 rfl rfl ?_
  refine girem (pc' := 154) w56 at_153 (by decide) rfl ?_
  refine gistore (pc' := 156) (Ls := #[.val (.int ln), .val (.int p0), .val (.int p1), .val (.int p2), .val (.int p3), .val (.int re), .val (.ref a), .unset, .unset, .unset, .unset]) (Ls' := #[.val (.int ln), .val (.int p0), .val (.int p1), .val (.int p2), .val (.int p3), .val (.int re), .val (.ref a), .val (.int ((ln &&& (2147483647 : Int32)) - ((ln &&& (2147483647 : Int32)) / (13 : Int32)) * (13 : Int32))), .unset, .unset, .unset]) (rest := []) w56 at_154 rfl rfl ?_
  exact own_b156 hw w56 ln p0 p1 p2 p3 re ((ln &&& (2147483647 : Int32)) - ((ln &&& (2147483647 : Int32)) / (13 : Int32)) * (13 : Int32)) a ka _ _ b0 b1 b2 b3 V59 rfl rfl rfl rfl
set_option maxRecDepth 65536 in
set_option maxHeartbeats 4000000 in
theorem own_law (hw : ∀ d ∈ tables_1, d.before a0 Z = true) (ln p0 p1 p2 p3 re : Int32) (z0 : n0 ≤ h.size) :
    Ctr l x code maxLocals ret room_1 Z #[(.int ln), (.int p0), (.int p1), (.int p2), (.int p3), (.int re)] h n0 (fun v _ => v = some (.int 1)) tables_1 := by
  refine metGo (Ls := #[.val (.int ln), .val (.int p0), .val (.int p1), .val (.int p2), .val (.int p3), .val (.int re), .unset, .unset, .unset, .unset, .unset]) pn_at (fun m => by first | rfl | (simp [entryFrame, mkF, argsToLocals, Value.category]; done) | (simp [entryFrame, mkF, argsToLocals, Value.category, maxLocals]; done)) ?_
  intro p e s m below meth c T w
  refine gbipush (v := (12 : Int32)) (pc' := 2) w at_0 rfl rfl ?_
  refine gnewP (pc' := 4) (cap := 12) (ty := .byte) w at_2 rfl (hw _ (List.mem_of_getElem? (i := 0) rfl)) (by decide) (by decide) (by decide) (by decide) (by decide) rfl (fun T61 h62 a60 k_a60 s63 w64 E65 V66 => ?_)
  have g_a60 : n0 ≤ a60 := Nat.le_trans z0 (Nat.le_of_eq s63)
  have z68 := Nat.le_trans z0 E65.1
  have V67 : Arv Z h62 a60 k_a60 .byte (12 : Int32) [(.int (0 : Int32)), (.int (0 : Int32)), (.int (0 : Int32)), (.int (0 : Int32)), (.int (0 : Int32)), (.int (0 : Int32)), (.int (0 : Int32)), (.int (0 : Int32)), (.int (0 : Int32)), (.int (0 : Int32)), (.int (0 : Int32)), (.int (0 : Int32))] (.int (0 : Int32)) := V66.pad (pad_rep [] _ 12)
  refine gastore (pc' := 6) (Ls := #[.val (.int ln), .val (.int p0), .val (.int p1), .val (.int p2), .val (.int p3), .val (.int re), .unset, .unset, .unset, .unset, .unset]) (Ls' := #[.val (.int ln), .val (.int p0), .val (.int p1), .val (.int p2), .val (.int p3), .val (.int re), .val (.ref a60), .unset, .unset, .unset, .unset]) (rest := []) w64 at_4 rfl rfl rfl ?_
  refine gaload (pc' := 8) (Ls := #[.val (.int ln), .val (.int p0), .val (.int p1), .val (.int p2), .val (.int p3), .val (.int re), .val (.ref a60), .unset, .unset, .unset, .unset]) (rest := []) w64 at_6 rfl rfl rfl ?_
  refine giconst (v := (0 : Int32)) (pc' := 9) w64 at_8 rfl rfl ?_
  refine giloadN (pc' := 10) (Ls := #[.val (.int ln), .val (.int p0), .val (.int p1), .val (.int p2), .val (.int p3), .val (.int re), .val (.ref a60), .unset, .unset, .unset, .unset]) (rest := [(.int (0 : Int32)), (.ref a60)]) w64 at_9 rfl rfl ?_
  refine gbipush (v := (73 : Int32)) (pc' := 12) w64 at_10 rfl rfl ?_
  refine gcallS (pc' := 15) (argsL := [(.int p0), (.int (73 : Int32))]) (rest := [(.int (0 : Int32)), (.ref a60)]) (Wt := 2) w64 at_12 (hw _ (List.mem_of_getElem? (i := 1) rfl)) (hw _ (List.mem_of_getElem? (i := 2) rfl)) (hw _ (List.mem_of_getElem? (i := 3) rfl)) (hw _ (List.mem_of_getElem? (i := 4) rfl)) (by decide) pd_d1 (own_c2 hw p0 (73 : Int32)) rfl rfl rfl rfl (Nat.le_of_eq rfl) (by decide) (by decide) (by decide) (by decide) rfl (fun v69 T70 h71 w72 q73 => ?_)
  obtain ⟨rfl, eh⟩ := q73
  show Go _ _ _ _ _ _ _ _ _ (mkF m 15 #[.val (.int ln), .val (.int p0), .val (.int p1), .val (.int p2), .val (.int p3), .val (.int re), .val (.ref a60), .unset, .unset, .unset, .unset] [(.int (own_pick p0 (73 : Int32))), (.int (0 : Int32)), (.ref a60)])
  rw [eh] at w72
  refine gbastore (pc' := 16) (x' := (own_pick p0 (73 : Int32))) w72 at_15 (own_pick_b _ _) V67 (by decide) (0) rfl (by simp) g_a60 rfl (fun T74 h75 w76 W77 V78 => ?_)
  have z80 : n0 ≤ h75.size := by rw [W77.size]; exact z68
  have V79 : Arv Z h75 a60 k_a60 .byte (12 : Int32) [(.int (own_pick p0 (73 : Int32))), (.int (0 : Int32)), (.int (0 : Int32)), (.int (0 : Int32)), (.int (0 : Int32)), (.int (0 : Int32)), (.int (0 : Int32)), (.int (0 : Int32)), (.int (0 : Int32)), (.int (0 : Int32)), (.int (0 : Int32)), (.int (0 : Int32))] (.int (0 : Int32)) := V78
  refine gaload (pc' := 18) (Ls := #[.val (.int ln), .val (.int p0), .val (.int p1), .val (.int p2), .val (.int p3), .val (.int re), .val (.ref a60), .unset, .unset, .unset, .unset]) (rest := []) w76 at_16 rfl rfl rfl ?_
  refine giconst (v := (1 : Int32)) (pc' := 19) w76 at_18 rfl rfl ?_
  refine giloadN (pc' := 20) (Ls := #[.val (.int ln), .val (.int p0), .val (.int p1), .val (.int p2), .val (.int p3), .val (.int re), .val (.ref a60), .unset, .unset, .unset, .unset]) (rest := [(.int (1 : Int32)), (.ref a60)]) w76 at_19 rfl rfl ?_
  refine gbipush (v := (68 : Int32)) (pc' := 22) w76 at_20 rfl rfl ?_
  refine gcallS (pc' := 25) (argsL := [(.int p1), (.int (68 : Int32))]) (rest := [(.int (1 : Int32)), (.ref a60)]) (Wt := 2) w76 at_22 (hw _ (List.mem_of_getElem? (i := 1) rfl)) (hw _ (List.mem_of_getElem? (i := 2) rfl)) (hw _ (List.mem_of_getElem? (i := 3) rfl)) (hw _ (List.mem_of_getElem? (i := 4) rfl)) (by decide) pd_d1 (own_c2 hw p1 (68 : Int32)) rfl rfl rfl rfl (Nat.le_of_eq rfl) (by decide) (by decide) (by decide) (by decide) rfl (fun v81 T82 h83 w84 q85 => ?_)
  obtain ⟨rfl, eh⟩ := q85
  show Go _ _ _ _ _ _ _ _ _ (mkF m 25 #[.val (.int ln), .val (.int p0), .val (.int p1), .val (.int p2), .val (.int p3), .val (.int re), .val (.ref a60), .unset, .unset, .unset, .unset] [(.int (own_pick p1 (68 : Int32))), (.int (1 : Int32)), (.ref a60)])
  rw [eh] at w84
  refine gbastore (pc' := 26) (x' := (own_pick p1 (68 : Int32))) w84 at_25 (own_pick_b _ _) V79 (by decide) (1) rfl (by simp) g_a60 rfl (fun T86 h87 w88 W89 V90 => ?_)
  have z92 : n0 ≤ h87.size := by rw [W89.size]; exact z80
  have V91 : Arv Z h87 a60 k_a60 .byte (12 : Int32) [(.int (own_pick p0 (73 : Int32))), (.int (own_pick p1 (68 : Int32))), (.int (0 : Int32)), (.int (0 : Int32)), (.int (0 : Int32)), (.int (0 : Int32)), (.int (0 : Int32)), (.int (0 : Int32)), (.int (0 : Int32)), (.int (0 : Int32)), (.int (0 : Int32)), (.int (0 : Int32))] (.int (0 : Int32)) := V90
  refine gaload (pc' := 28) (Ls := #[.val (.int ln), .val (.int p0), .val (.int p1), .val (.int p2), .val (.int p3), .val (.int re), .val (.ref a60), .unset, .unset, .unset, .unset]) (rest := []) w88 at_26 rfl rfl rfl ?_
  refine giconst (v := (2 : Int32)) (pc' := 29) w88 at_28 rfl rfl ?_
  refine giloadN (pc' := 30) (Ls := #[.val (.int ln), .val (.int p0), .val (.int p1), .val (.int p2), .val (.int p3), .val (.int re), .val (.ref a60), .unset, .unset, .unset, .unset]) (rest := [(.int (2 : Int32)), (.ref a60)]) w88 at_29 rfl rfl ?_
  refine gbipush (v := (51 : Int32)) (pc' := 32) w88 at_30 rfl rfl ?_
  refine gcallS (pc' := 35) (argsL := [(.int p2), (.int (51 : Int32))]) (rest := [(.int (2 : Int32)), (.ref a60)]) (Wt := 2) w88 at_32 (hw _ (List.mem_of_getElem? (i := 1) rfl)) (hw _ (List.mem_of_getElem? (i := 2) rfl)) (hw _ (List.mem_of_getElem? (i := 3) rfl)) (hw _ (List.mem_of_getElem? (i := 4) rfl)) (by decide) pd_d1 (own_c2 hw p2 (51 : Int32)) rfl rfl rfl rfl (Nat.le_of_eq rfl) (by decide) (by decide) (by decide) (by decide) rfl (fun v93 T94 h95 w96 q97 => ?_)
  obtain ⟨rfl, eh⟩ := q97
  show Go _ _ _ _ _ _ _ _ _ (mkF m 35 #[.val (.int ln), .val (.int p0), .val (.int p1), .val (.int p2), .val (.int p3), .val (.int re), .val (.ref a60), .unset, .unset, .unset, .unset] [(.int (own_pick p2 (51 : Int32))), (.int (2 : Int32)), (.ref a60)])
  rw [eh] at w96
  refine gbastore (pc' := 36) (x' := (own_pick p2 (51 : Int32))) w96 at_35 (own_pick_b _ _) V91 (by decide) (2) rfl (by simp) g_a60 rfl (fun T98 h99 w100 W101 V102 => ?_)
  have z104 : n0 ≤ h99.size := by rw [W101.size]; exact z92
  have V103 : Arv Z h99 a60 k_a60 .byte (12 : Int32) [(.int (own_pick p0 (73 : Int32))), (.int (own_pick p1 (68 : Int32))), (.int (own_pick p2 (51 : Int32))), (.int (0 : Int32)), (.int (0 : Int32)), (.int (0 : Int32)), (.int (0 : Int32)), (.int (0 : Int32)), (.int (0 : Int32)), (.int (0 : Int32)), (.int (0 : Int32)), (.int (0 : Int32))] (.int (0 : Int32)) := V102
  refine gaload (pc' := 38) (Ls := #[.val (.int ln), .val (.int p0), .val (.int p1), .val (.int p2), .val (.int p3), .val (.int re), .val (.ref a60), .unset, .unset, .unset, .unset]) (rest := []) w100 at_36 rfl rfl rfl ?_
  refine giconst (v := (3 : Int32)) (pc' := 39) w100 at_38 rfl rfl ?_
  refine giload (pc' := 41) (Ls := #[.val (.int ln), .val (.int p0), .val (.int p1), .val (.int p2), .val (.int p3), .val (.int re), .val (.ref a60), .unset, .unset, .unset, .unset]) (rest := [(.int (3 : Int32)), (.ref a60)]) w100 at_39 rfl rfl ?_
  refine giconst (v := (1 : Int32)) (pc' := 42) w100 at_41 rfl rfl ?_
  refine giand (pc' := 43) w100 at_42 rfl ?_
  refine gif (pt := 59) (pf := 46) w100 at_43  (by decide) rfl rfl (fun (c43 : (p3 &&& (1 : Int32)) = (0 : Int32)) => ?_) (fun (c43 : ¬ (p3 &&& (1 : Int32)) = (0 : Int32)) => ?_)
  · refine giload (pc' := 61) (Ls := #[.val (.int ln), .val (.int p0), .val (.int p1), .val (.int p2), .val (.int p3), .val (.int re), .val (.ref a60), .unset, .unset, .unset, .unset]) (rest := [(.int (3 : Int32)), (.ref a60)]) w100 at_59 rfl rfl ?_
    refine giconst (v := (1 : Int32)) (pc' := 62) w100 at_61 rfl rfl ?_
    refine gishr (pc' := 63) w100 at_62 rfl ?_
    refine gi2b (pc' := 64) w100 at_63 rfl ?_
    exact own_b64 hw w100 ln p0 p1 p2 p3 re a60 k_a60 (own_pick p0 (73 : Int32)) (own_pick p1 (68 : Int32)) (own_pick p2 (51 : Int32)) (((p3 >>> ((1 : Int32) &&& 31))).toInt8.toInt32) g_a60 (own_bb _) V103
  · refine giload (pc' := 48) (Ls := #[.val (.int ln), .val (.int p0), .val (.int p1), .val (.int p2), .val (.int p3), .val (.int re), .val (.ref a60), .unset, .unset, .unset, .unset]) (rest := [(.int (3 : Int32)), (.ref a60)]) w100 at_46 rfl rfl ?_
    refine giconst (v := (1 : Int32)) (pc' := 49) w100 at_48 rfl rfl ?_
    refine gishr (pc' := 50) w100 at_49 rfl ?_
    refine gbipush (v := (7 : Int32)) (pc' := 52) w100 at_50 rfl rfl ?_
    refine giand (pc' := 53) w100 at_52 rfl ?_
    refine giconst (v := (1 : Int32)) (pc' := 54) w100 at_53 rfl rfl ?_
    refine gisub (pc' := 55) w100 at_54 rfl ?_
    refine gi2b (pc' := 56) w100 at_55 rfl ?_
    refine ggoto (pc' := 64) w100 at_56 (by decide) rfl ?_
    exact own_b64 hw w100 ln p0 p1 p2 p3 re a60 k_a60 (own_pick p0 (73 : Int32)) (own_pick p1 (68 : Int32)) (own_pick p2 (51 : Int32)) (((((p3 >>> ((1 : Int32) &&& 31))) &&& (7 : Int32)) - (1 : Int32)).toInt8.toInt32) g_a60 (own_bb _) V103
theorem comes_1 {Post : Tables → Env → Array Value → State → Outcome → State → Prop} (hpost : ∀ tb e args s v u, (limb_1_1.after args s (.returned v) u = true ∧ limb_1_2.after args s (.returned v) u = true ∧ True) → FrameEnd s (.returned v) u (Jvm.fieldLocs frame_1_writes args s ++ Jvm.arrayLocs frame_1_arrays args s ++ Jvm.staticLocs frame_1_statics s) 16 128 → Post tb e args s (.returned v) u) :
    ArmFor flags0 classFile x code maxLocals ret World_1 tables_1 room_1 Calls_1 rest_1 Pre_1 Post := by
  intro l hfl _ _ p e ha hc hk s m args below hf hA hF happ hP
  obtain ⟨hcalls, hrest, hpre⟩ := hP
  obtain ⟨-, -, -, hnamed, -, -, -, hat⟩ := (Spec.applies_iff hf).mp happ
  obtain ⟨hg, hn⟩ := and_e (Cond.before_iff.mp (show (Jvm.Cond.and given_1 narrow_1).before args s = true from hpre))
  obtain ⟨hcount, g0⟩ := and_e hg
  obtain ⟨a0, g1⟩ := and_e g0
  obtain ⟨a1, g2⟩ := and_e g1
  obtain ⟨a2, g3⟩ := and_e g2
  obtain ⟨a3, g4⟩ := and_e g3
  obtain ⟨a4, g5⟩ := and_e g4
  obtain ⟨w0, w1, w2, w3, w4, w5, rfl⟩ : ∃ w0 w1 w2 w3 w4 w5 : Value, args = #[w0, w1, w2, w3, w4, w5] := by
    have hs : args.size = 6 := by simpa [Cond.value, given_1] using hcount
    obtain ⟨L⟩ := args
    match L, hs with
    | [w0, w1, w2, w3, w4, w5], _ => exact ⟨w0, w1, w2, w3, w4, w5, rfl⟩
  have hw := fun d (hd : d ∈ tables_1) => atoms_spec (ws := Jvm.Cond.code x code maxLocals ret :: tables_1) hat d (List.mem_cons_of_mem _ hd)
  have hfit : Fit s := fun {y c} hc i hi => by
    obtain ⟨ha, rfl⟩ := Array.getElem?_eq_some_iff.mp hc
    have q := List.all_eq_true.mp ((Array.all_eq_true_iff_forall_mem.mp hF) _ (Array.getElem_mem ha)) i (List.mem_range.mpr hi)
    simpa [Array.getElem?_eq_getElem hi] using q
  obtain ⟨i0, e0⟩ := is_v a0
  obtain rfl : w0 = (.int i0) := Option.some.inj e0
  obtain ⟨i1, e1⟩ := is_v a1
  obtain rfl : w1 = (.int i1) := Option.some.inj e1
  obtain ⟨i2, e2⟩ := is_v a2
  obtain rfl : w2 = (.int i2) := Option.some.inj e2
  obtain ⟨i3, e3⟩ := is_v a3
  obtain rfl : w3 = (.int i3) := Option.some.inj e3
  obtain ⟨i4, e4⟩ := is_v a4
  obtain rfl : w4 = (.int i4) := Option.some.inj e4
  obtain ⟨i5, e5⟩ := is_v g5
  obtain rfl : w5 = (.int i5) := Option.some.inj e5
  obtain ⟨n, o, h1, h2, h3, _, L, rfl, ⟨N, rfl⟩, hq⟩ := (own_law (h := s.heap) (n0 := s.heap.size) hw i0 i1 i2 i3 i4 i5 (Nat.le_refl _)) p e ha hc hk s m _ below hf ((Spec.applies_iff_loose hf).mp happ).1 ⟨rfl, State.Warmed39.refl s, rfl⟩ trivial
  refine ⟨n, _, h1, h2, h3, hpost _ _ _ _ _ _ ⟨Cond.after_iff.mpr rfl, Cond.after_iff.mpr (eq_i res_at (Term.int_eval (1)) rfl), trivial⟩ ⟨hq.1, hq.2.1, (hq.2.2.sift fun y hy => Or.inr (N y hy)).mono (by decide) (by decide)⟩⟩
theorem main_1_1 : Claimed_1_1 := comes_1 fun _ _ _ _ _ _ h hF => ⟨h.1, hF⟩
theorem main_1_2 : Claimed_1_2 := comes_1 fun _ _ _ _ _ _ h hF => ⟨h.2.1, hF⟩
end Jvm.Pilot.@@N@@
namespace Jvm.Pilot.@@N@@
open Jvm Jvm.ClassFile Sem Op Lib Jvm.Free Jvm.Stand Jvm.Pilot.@@N@@.Jvm.D
/-! MADE BY PROGRAM (witnessworld.py) out of the Statement's table words and the real class files: 9 classes; the members and pool entries that the words name. The judged class is class 1, her method 2. -/
namespace start1
open Jvm.ClassFile
def u (s : String) : CpInfo := .utf8 (stringToUtf16 s)
/-- a pool by its gaps: so many unusable entries, then the entry; so many at the end -/
def gap : Nat → List CpInfo → List CpInfo
  | 0, r => r
  | n + 1, r => .unusable :: gap n r
def poolList (es : List (Nat × CpInfo)) (last : Nat) : List CpInfo := es.foldr (fun e r => gap e.1 (e.2 :: r)) (gap last [])
def pool (es : List (Nat × CpInfo)) (last : Nat) : Array CpInfo := ⟨poolList es last⟩
def fileOf (pool : Array CpInfo) (this : Nat) (attrs : Array Attribute := #[]) (ms : Array MethodInfo := #[]) (fl : Nat := 33) (sup : Nat := 0) (ifs : Array Nat := #[]) (fds : Array FieldInfo := #[]) : ClassFile where
  minorVersion := 0
  majorVersion := 65
  constantPool := pool
  accessFlags := fl
  thisClass := this
  superClass := sup
  interfaces := ifs
  fields := fds
  methods := ms
  attributes := attrs
def plain (name : String) (sup : Option ClassId) : Class where
  name := name
  kind := .ordinary
  loader := none
  accessFlags := 33
  super := sup
  interfaces := #[]
  cf := none
  fields := #[]
  methods := #[]
  instanceTypes := #[]
  staticTypes := #[]
  resolved := #[]
  callSites := []
  init := .initialized
  statics := none
  mirror := none

def pool0 : Array CpInfo := pool [(5, u "<init>"), (0, u "()V"), (1, .class_ 10), (1, u "java/lang/Object")] 113

def k0m0 : Method := { name := "<init>", desc := "()V", sig := { parameters := [], returnType := none }, accessFlags := 1, code := none }
/-- java/lang/Object -/
def k0 : Class := { plain "java/lang/Object" none with
  accessFlags := 33
  interfaces := #[]
  cf := some (fileOf pool0 8 #[] #[{ accessFlags := 1, nameIndex := 5, descriptorIndex := 6, attributes := #[] }] 33 0 #[] #[])
  fields := #[]
  methods := #[k0m0]
  instanceTypes := #[]
  staticTypes := #[]
  resolved := Array.replicate 124 none
  statics := none }

def pool1 : Array CpInfo := pool [(2, .class_ 4), (1, u "java/lang/Object"), (0, u "<init>"), (0, u "()V"), (0, .methodref 8 9), (0, .class_ 10), (0, .nameAndType 11 12), (0, u "com/example/kindred/kindred/index/Id3v2StartsWithHeaderPinLaw"), (0, u "pick"), (0, u "(IC)B"), (0, .integer 2147483647), (0, .methodref 15 16), (0, .class_ 17), (0, .nameAndType 18 19), (0, u "com/example/kindred/kindred/index/Id3v2"), (0, u "startsWithHeader"), (0, u "([BI)Z"), (3, u "law"), (0, u "(IIIIII)Z")] 4

def k1m0 : Method := { name := "<init>", desc := "()V", sig := { parameters := [], returnType := none }, accessFlags := 2, code := none }
def k1c1 : Code := { maxStack := 2, maxLocals := 2, code := method_2_code, exceptionTable := #[], attributes := #[] }
def k1m1 : Method := { name := "pick", desc := "(IC)B", sig := { parameters := [.int, .char], returnType := some .byte }, accessFlags := 10, code := some k1c1 }
def k1c2 : Code := { maxStack := 4, maxLocals := 11, code := code, exceptionTable := #[], attributes := #[] }
def k1m2 : Method := { name := "law", desc := "(IIIIII)Z", sig := { parameters := [.int, .int, .int, .int, .int, .int], returnType := some .boolean }, accessFlags := 9, code := some k1c2 }
/-- com/example/kindred/kindred/index/Id3v2StartsWithHeaderPinLaw -/
def k1 : Class := { plain "com/example/kindred/kindred/index/Id3v2StartsWithHeaderPinLaw" (some 0) with
  accessFlags := 49
  interfaces := #[]
  cf := some (fileOf pool1 8 #[] #[{ accessFlags := 2, nameIndex := 5, descriptorIndex := 6, attributes := #[] }, { accessFlags := 10, nameIndex := 11, descriptorIndex := 12, attributes := #[] }, { accessFlags := 9, nameIndex := 23, descriptorIndex := 24, attributes := #[] }] 49 2 #[] #[])
  fields := #[]
  methods := #[k1m0, k1m1, k1m2]
  instanceTypes := #[]
  staticTypes := #[]
  resolved := Array.replicate 29 none
  statics := none }

def pool2 : Array CpInfo := pool [(2, .class_ 4), (1, u "java/lang/Object"), (0, u "<init>"), (0, u "()V"), (0, .class_ 8), (0, u "com/example/kindred/kindred/index/Id3v2"), (33, u "V22_IDS"), (0, u "Ljava/util/Map;"), (83, u "HEADER_LENGTH"), (0, u "I"), (2, u "UNSYNCHRONISED"), (1, u "EXTENDED_HEADER"), (1, u "V23_COMPRESSED"), (0, u "V23_ENCRYPTED"), (0, u "V23_GROUPED"), (1, u "V24_GROUPED"), (0, u "V24_COMPRESSED"), (1, u "V24_ENCRYPTED"), (1, u "V24_UNSYNCHRONISED"), (1, u "V24_DATA_LENGTH"), (5, u "startsWithHeader"), (0, u "([BI)Z")] 13

def k2m0 : Method := { name := "<init>", desc := "()V", sig := { parameters := [], returnType := none }, accessFlags := 2, code := none }
def k2c1 : Code := { maxStack := 2, maxLocals := 3, code := prog_22_method_2_code, exceptionTable := #[], attributes := #[] }
def k2m1 : Method := { name := "startsWithHeader", desc := "([BI)Z", sig := { parameters := [(.array .byte), .int], returnType := some .boolean }, accessFlags := 8, code := some k2c1 }
/-- com/example/kindred/kindred/index/Id3v2 -/
def k2 : Class := { plain "com/example/kindred/kindred/index/Id3v2" (some 0) with
  accessFlags := 48
  interfaces := #[]
  cf := some (fileOf pool2 7 #[] #[{ accessFlags := 2, nameIndex := 5, descriptorIndex := 6, attributes := #[] }, { accessFlags := 8, nameIndex := 152, descriptorIndex := 153, attributes := #[] }] 48 2 #[] #[{ accessFlags := 24, nameIndex := 127, descriptorIndex := 128, attributes := #[] }, { accessFlags := 26, nameIndex := 131, descriptorIndex := 128, attributes := #[] }, { accessFlags := 26, nameIndex := 133, descriptorIndex := 128, attributes := #[] }, { accessFlags := 26, nameIndex := 135, descriptorIndex := 128, attributes := #[] }, { accessFlags := 26, nameIndex := 136, descriptorIndex := 128, attributes := #[] }, { accessFlags := 26, nameIndex := 137, descriptorIndex := 128, attributes := #[] }, { accessFlags := 26, nameIndex := 139, descriptorIndex := 128, attributes := #[] }, { accessFlags := 26, nameIndex := 140, descriptorIndex := 128, attributes := #[] }, { accessFlags := 26, nameIndex := 142, descriptorIndex := 128, attributes := #[] }, { accessFlags := 26, nameIndex := 144, descriptorIndex := 128, attributes := #[] }, { accessFlags := 26, nameIndex := 146, descriptorIndex := 128, attributes := #[] }, { accessFlags := 26, nameIndex := 42, descriptorIndex := 43, attributes := #[] }])
  fields := #[{ name := "HEADER_LENGTH", type := .int, accessFlags := 24, slot := 0, constantValue := 0 }, { name := "UNSYNCHRONISED", type := .int, accessFlags := 26, slot := 1, constantValue := 0 }, { name := "EXTENDED_HEADER", type := .int, accessFlags := 26, slot := 2, constantValue := 0 }, { name := "V23_COMPRESSED", type := .int, accessFlags := 26, slot := 3, constantValue := 0 }, { name := "V23_ENCRYPTED", type := .int, accessFlags := 26, slot := 4, constantValue := 0 }, { name := "V23_GROUPED", type := .int, accessFlags := 26, slot := 5, constantValue := 0 }, { name := "V24_GROUPED", type := .int, accessFlags := 26, slot := 6, constantValue := 0 }, { name := "V24_COMPRESSED", type := .int, accessFlags := 26, slot := 7, constantValue := 0 }, { name := "V24_ENCRYPTED", type := .int, accessFlags := 26, slot := 8, constantValue := 0 }, { name := "V24_UNSYNCHRONISED", type := .int, accessFlags := 26, slot := 9, constantValue := 0 }, { name := "V24_DATA_LENGTH", type := .int, accessFlags := 26, slot := 10, constantValue := 0 }, { name := "V22_IDS", type := (.object "java/util/Map"), accessFlags := 26, slot := 11, constantValue := 0 }]
  methods := #[k2m0, k2m1]
  instanceTypes := #[]
  staticTypes := #[.int, .int, .int, .int, .int, .int, .int, .int, .int, .int, .int, (.object "java/util/Map")]
  resolved := Array.replicate 167 none
  statics := none }

def pool3 : Array CpInfo := pool [(1, u "java/lang/Cloneable"), (0, .class_ 1), (0, u "java/lang/Object"), (0, .class_ 3)] 3

/-- java/lang/Cloneable -/
def k3 : Class := { plain "java/lang/Cloneable" (some 0) with
  accessFlags := 1537
  interfaces := #[]
  cf := some (fileOf pool3 2 #[] #[] 1537 4 #[] #[])
  fields := #[]
  methods := #[]
  instanceTypes := #[]
  staticTypes := #[]
  resolved := Array.replicate 8 none
  statics := none }

def pool4 : Array CpInfo := pool [(1, u "java/io/Serializable"), (0, .class_ 1), (0, u "java/lang/Object"), (0, .class_ 3)] 3

/-- java/io/Serializable -/
def k4 : Class := { plain "java/io/Serializable" (some 0) with
  accessFlags := 1537
  interfaces := #[]
  cf := some (fileOf pool4 2 #[] #[] 1537 4 #[] #[])
  fields := #[]
  methods := #[]
  instanceTypes := #[]
  staticTypes := #[]
  resolved := Array.replicate 8 none
  statics := none }

/-- the primitive byte -/
def k5 : Class := { plain "byte" none with kind := .primitive 'B', accessFlags := 0x411 }
/-- [B -/
def k6 : Class := { plain "[B" (some 0) with kind := .array 5 .byte, interfaces := #[3, 4], accessFlags := 1041 }

/-- the primitive int -/
def k7 : Class := { plain "int" none with kind := .primitive 'I', accessFlags := 0x411 }
/-- [I -/
def k8 : Class := { plain "[I" (some 0) with kind := .array 7 .int, interfaces := #[3, 4], accessFlags := 1041 }

def heap : Heap := #[]
def classes : Array Class := #[k0, k1, k2, k3, k4, k5, k6, k7, k8]
def interned : List (Array UInt16 × Addr) := []
def slotsUsed : Nat := 0
def theMethod : MethodId := ⟨1, 2⟩
def args0 : Array Value := #[.int 11, .int 3, .int 2, .int 1, .int 1, .int 7]
def aboutOver (below : List Frame) : State where
  vm := { classes := classes, interned := interned.toArray }
  heap := heap
  slotsUsed := slotsUsed
  threads := #[{ frames := .invoking theMethod args0 :: below }]
def below0 : List Frame := [.native { method := ⟨0, 0⟩, args := #[] }]
def about1 : State := aboutOver below0
def p0 : Program := .bare "" "" ""
def e0 : Env := launch0.env 0 0 0
theorem w_frames : about1.frames = Frame.invoking theMethod args0 :: below0 := rfl
set_option maxRecDepth 65536 in
theorem w_args : argsFit about1.vm theMethod args0 = true := by decide +kernel
set_option maxRecDepth 65536 in
theorem w_heap : heapFits about1 = true := by decide +kernel
set_option maxRecDepth 65536 in
theorem w_runnable : about1.curStatus? = some .runnable := by decide +kernel
set_option maxRecDepth 65536 in
theorem w_alone : about1.alone = true := by decide +kernel
set_option maxRecDepth 65536 in
theorem w_named : about1.methodNamed? x = some theMethod := by decide +kernel
set_option maxRecDepth 65536 in
theorem w_hears : about1.hears theMethod below0 = true := by decide +kernel
set_option maxRecDepth 65536 in
theorem w_ripe : about1.ripe theMethod args0 below0 = true := by decide +kernel
theorem w_running : about1.status = .running := rfl
set_option maxRecDepth 65536 in
theorem w_room : about1.hasRoom e0.platform room_1 = true :=
  launch0.hasRoom_least _ room_1 (by decide +kernel) (by decide +kernel) (by decide +kernel) (by decide +kernel) (by decide +kernel) (by decide +kernel)
theorem allAtoms_all (ts : List Jvm.Cond) (a : Array Jvm.Value) (st : Jvm.State) : (allAtoms ts).before a st = ts.all (fun c => c.before a st) := by
  induction ts with
  | nil => rfl
  | cons c t ih =>
    show (Jvm.Cond.and c (allAtoms t)).before a st = _
    rw [Jvm.Cond.before_and, ih, List.all_cons]
def words1 : List Jvm.Cond := Jvm.Cond.code x code maxLocals ret :: tables_1
/-- a 'code' word, met by the world's own term for the bytes: nothing is compared byte by byte -/
theorem code_word {y : MethodName} {bytes : ByteArray} {mx : Nat} {rt : Option FieldType} {a : Array Value} {s : State} {m : MethodId} {meth : Method} {c : Code} (h1 : s.methodNamed? y = some m) (h2 : s.vm.method? m = some meth) (h3 : meth.code = some c) (h4 : c.code = bytes)
    (h5 : (c.maxLocals == mx && c.exceptionTable.isEmpty && decide (c.maxStack ≤ mostOperands) && decide (meth.sig.returnType = rt) && !meth.locks && decide (parseMethodDescriptor y.desc = some meth.sig)) = true) : (Jvm.Cond.code y bytes mx rt).before a s = true := by
  simp only [Bool.and_eq_true, beq_iff_eq, Bool.not_eq_true', decide_eq_true_eq] at h5
  obtain ⟨⟨⟨⟨⟨g1, g2⟩, g3⟩, g4⟩, g5⟩, g6⟩ := h5
  simp [Cond.before, Cond.holds, Cond.value, h1, h2, h3, h4, g1, g2, g3, g4, g5, g6]
def isCode : Jvm.Cond → Bool
  | .code _ _ _ _ => true
  | _ => false
theorem all_split {L : List Jvm.Cond} {P : Jvm.Cond → Bool} (h1 : L.all (fun c => isCode c || P c) = true) (h2 : ∀ c ∈ L.filter isCode, P c = true) : L.all P = true := by
  refine List.all_eq_true.mpr fun c hc => ?_
  have h := List.all_eq_true.mp h1 c hc
  rcases Bool.eq_false_or_eq_true (isCode c) with hi | hi
  · exact h2 c (List.mem_filter.mpr ⟨hc, hi⟩)
  · simpa [hi] using h
set_option maxRecDepth 65536 in
theorem w_c0 : (Jvm.Cond.code x code maxLocals ret).before args0 about1 = true := code_word (m := ⟨1, 2⟩) (meth := k1m2) (c := k1c2) (by decide +kernel) rfl rfl rfl (by decide +kernel)
set_option maxRecDepth 65536 in
theorem w_c1 : (Jvm.Cond.code ({ cls := "com/example/kindred/kindred/index/Id3v2StartsWithHeaderPinLaw", name := "pick", desc := "(IC)B" } : Jvm.MethodName) method_2_code (2 : Nat) (Option.some Jvm.ClassFile.FieldType.byte)).before args0 about1 = true := code_word (m := ⟨1, 1⟩) (meth := k1m1) (c := k1c1) (by decide +kernel) rfl rfl rfl (by decide +kernel)
set_option maxRecDepth 65536 in
theorem w_c2 : (Jvm.Cond.code ({ cls := "com/example/kindred/kindred/index/Id3v2", name := "startsWithHeader", desc := "([BI)Z" } : Jvm.MethodName) prog_22_method_2_code (3 : Nat) (Option.some Jvm.ClassFile.FieldType.boolean)).before args0 about1 = true := code_word (m := ⟨2, 1⟩) (meth := k2m1) (c := k2c1) (by decide +kernel) rfl rfl rfl (by decide +kernel)
def codes1 : List Jvm.Cond := [Jvm.Cond.code x code maxLocals ret, Jvm.Cond.code ({ cls := "com/example/kindred/kindred/index/Id3v2StartsWithHeaderPinLaw", name := "pick", desc := "(IC)B" } : Jvm.MethodName) method_2_code (2 : Nat) (Option.some Jvm.ClassFile.FieldType.byte), Jvm.Cond.code ({ cls := "com/example/kindred/kindred/index/Id3v2", name := "startsWithHeader", desc := "([BI)Z" } : Jvm.MethodName) prog_22_method_2_code (3 : Nat) (Option.some Jvm.ClassFile.FieldType.boolean)]
set_option maxRecDepth 65536 in
theorem codes_eq : words1.filter isCode = codes1 := rfl
theorem w_codes : ∀ c ∈ words1.filter isCode, c.before args0 about1 = true := by
  rw [codes_eq]
  intro c hc
  simp only [codes1, List.mem_cons, List.not_mem_nil, or_false] at hc
  rcases hc with rfl | rfl | rfl
  · exact w_c0
  · exact w_c1
  · exact w_c2
set_option maxRecDepth 65536 in
theorem w_t1 : words1.all (fun c => isCode c || c.before args0 about1) = true := by decide +kernel
theorem w_tables : (allAtoms (Jvm.Cond.code x code maxLocals ret :: tables_1)).before args0 about1 = true := by
  rw [allAtoms_all]
  show words1.all (fun c => c.before args0 about1) = true
  refine all_split ?_ w_codes
  rw [w_t1]
set_option maxRecDepth 65536 in
theorem w_case : (Jvm.Cond.and given_1 narrow_1).before args0 about1 = true := by decide +kernel
theorem w_applies : (headSpec (Jvm.Cond.code x code maxLocals ret :: tables_1) room_1).applies x e0.platform about1 = true :=
  (Spec.applies_iff w_frames).mpr ⟨w_running, w_runnable, w_alone, w_named, w_hears, w_ripe, w_room, w_tables⟩
theorem atStart : AtStart classFile x code maxLocals ret World_1 tables_1 room_1 Calls_1 rest_1 Pre_1 launch0 p0 e0 about1 theMethod args0 below0 :=
  ⟨lists_1, trivial, launch0.admits_env _ _ _, launch0.least_env, fairChoices_fair.cas, fairChoices_fair.clock, w_frames, w_args, w_heap, w_applies, trivial, trivial, w_case⟩
end start1
theorem witness_1 : WitnessClaimed_1 := ⟨start1.p0, start1.e0, start1.about1, start1.theMethod, start1.args0, start1.below0, start1.atStart⟩
end Jvm.Pilot.@@N@@
