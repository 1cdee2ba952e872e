import JvmDerived
import JvmDerived.Pilot.@@N@@Statement
import JvmDerived.Pilot.@@N@@Code
set_option linter.unusedVariables false
set_option linter.unusedSimpArgs false
@@BLOCK:SetKit.lean.txt@@
namespace Jvm.Pilot.@@N@@
open Jvm Jvm.ClassFile Sem Op Lib Jvm.Free Jvm.Stand Jvm.LawKit Jvm.RoadKit Bundle Jvm.Pilot.@@N@@.Jvm.D
section Own
variable {p : Program} {l : Launch} {e : Env} {R : Room} {s S : State} {m : MethodId} {args : Array Value} {below : List Frame} {meth : Method} {c : Code} {Z : State} {a0 : Array Value} {EL : List (String × Nat)} {h : Heap} {locs : List Loc} {cells slots : Nat} {bytes : ByteArray} {own : String} {rt : Option FieldType} {ml : Nat} {pc : Nat} {Ls : Array Slot} {stk rest : List Value} {G : State → Prop}
/-- what every step asks -/
def own_C (p : Program) (S : State) (m : MethodId) (meth : Method) (c : Code) (Z : State) (bytes : ByteArray) (own : String) (rt : Option FieldType) (ml : Nat) : Prop :=
  p.tables.exec = Jvm.exec ∧ Z.Warmed39 S.vm ∧ S.vm.findClass own = some m.cls ∧ c.code = bytes ∧ meth.sig.returnType = rt ∧ meth.locks = false ∧ c.maxLocals = ml
/-- from this pc, these locals and this operand stack the run comes to a state of which G holds -/
def own_E (p : Program) (l : Launch) (e : Env) (R : Room) (S : State) (m : MethodId) (args : Array Value) (below : List Frame) (meth : Method) (c : Code) (h : Heap) (locs : List Loc) (cells slots : Nat) (pc : Nat) (Ls : Array Slot) (stk : List Value) (G : State → Prop) : Prop :=
  ∀ T, Stand p l e R S m args below meth c T locs cells slots → T.heap = h → ∃ s₂, Steps p.tables e below (T.setTop (mkF m pc Ls stk)) s₂ ∧ G s₂
theorem own_iloadN (K : own_C p S m meth c Z bytes own rt ml) {k : Fin 4} {x : Int32} (hd : decode bytes pc = .ok (.iload_n k, 1)) (hl : Ls[k.val]? = some (.val (.int x)))
    (r : own_E p l e R S m args below meth c h locs cells slots (pc + 1) Ls (.int x :: stk) G) : own_E p l e R S m args below meth c h locs cells slots pc Ls stk G := fun T X eT => by
  obtain ⟨s₂, st, q⟩ := r T X eT
  exact ⟨s₂, XS.iloadN X.here K.1 rfl (hb K.2.2.2.1 hd) hl st, q⟩
theorem own_iload (K : own_C p S m meth c Z bytes own rt ml) {k : Nat} {x : Int32} (hd : decode bytes pc = .ok (.iload k, 2)) (hl : Ls[k]? = some (.val (.int x)))
    (r : own_E p l e R S m args below meth c h locs cells slots (pc + 2) Ls (.int x :: stk) G) : own_E p l e R S m args below meth c h locs cells slots pc Ls stk G := fun T X eT => by
  obtain ⟨s₂, st, q⟩ := r T X eT
  exact ⟨s₂, XS.iload X.here K.1 rfl (hb K.2.2.2.1 hd) hl st, q⟩
theorem own_istoreN (K : own_C p S m meth c Z bytes own rt ml) {k : Fin 4} {x : Int32} {Ls' : Array Slot} (hd : decode bytes pc = .ok (.istore_n k, 1)) (hl : storeLocals Ls k.val (.int x) = some Ls')
    (r : own_E p l e R S m args below meth c h locs cells slots (pc + 1) Ls' rest G) : own_E p l e R S m args below meth c h locs cells slots pc Ls (.int x :: rest) G := fun T X eT => by
  obtain ⟨s₂, st, q⟩ := r T X eT
  exact ⟨s₂, XS.istoreN X.here K.1 rfl (hb K.2.2.2.1 hd) rfl hl st, q⟩
theorem own_istore (K : own_C p S m meth c Z bytes own rt ml) {k : Nat} {x : Int32} {Ls' : Array Slot} (hd : decode bytes pc = .ok (.istore k, 2)) (hl : storeLocals Ls k (.int x) = some Ls')
    (r : own_E p l e R S m args below meth c h locs cells slots (pc + 2) Ls' rest G) : own_E p l e R S m args below meth c h locs cells slots pc Ls (.int x :: rest) G := fun T X eT => by
  obtain ⟨s₂, st, q⟩ := r T X eT
  exact ⟨s₂, XS.istore X.here K.1 rfl (hb K.2.2.2.1 hd) rfl hl st, q⟩
theorem own_lloadN (K : own_C p S m meth c Z bytes own rt ml) {k : Fin 4} {x : Int64} (hd : decode bytes pc = .ok (.lload_n k, 1)) (hl : Ls[k.val]? = some (.val (.long x)))
    (r : own_E p l e R S m args below meth c h locs cells slots (pc + 1) Ls (.long x :: stk) G) : own_E p l e R S m args below meth c h locs cells slots pc Ls stk G := fun T X eT => by
  obtain ⟨s₂, st, q⟩ := r T X eT
  exact ⟨s₂, XS.lloadN X.here K.1 rfl (hb K.2.2.2.1 hd) hl st, q⟩
theorem own_lload (K : own_C p S m meth c Z bytes own rt ml) {k : Nat} {x : Int64} (hd : decode bytes pc = .ok (.lload k, 2)) (hl : Ls[k]? = some (.val (.long x)))
    (r : own_E p l e R S m args below meth c h locs cells slots (pc + 2) Ls (.long x :: stk) G) : own_E p l e R S m args below meth c h locs cells slots pc Ls stk G := fun T X eT => by
  obtain ⟨s₂, st, q⟩ := r T X eT
  exact ⟨s₂, XS.lload X.here K.1 rfl (hb K.2.2.2.1 hd) hl st, q⟩
theorem own_lstoreN (K : own_C p S m meth c Z bytes own rt ml) {k : Fin 4} {x : Int64} {Ls' : Array Slot} (hd : decode bytes pc = .ok (.lstore_n k, 1)) (hl : storeLocals Ls k.val (.long x) = some Ls')
    (r : own_E p l e R S m args below meth c h locs cells slots (pc + 1) Ls' rest G) : own_E p l e R S m args below meth c h locs cells slots pc Ls (.long x :: rest) G := fun T X eT => by
  obtain ⟨s₂, st, q⟩ := r T X eT
  exact ⟨s₂, XS.lstoreN X.here K.1 rfl (hb K.2.2.2.1 hd) rfl hl st, q⟩
theorem own_lstore (K : own_C p S m meth c Z bytes own rt ml) {k : Nat} {x : Int64} {Ls' : Array Slot} (hd : decode bytes pc = .ok (.lstore k, 2)) (hl : storeLocals Ls k (.long x) = some Ls')
    (r : own_E p l e R S m args below meth c h locs cells slots (pc + 2) Ls' rest G) : own_E p l e R S m args below meth c h locs cells slots pc Ls (.long x :: rest) G := fun T X eT => by
  obtain ⟨s₂, st, q⟩ := r T X eT
  exact ⟨s₂, XS.lstore X.here K.1 rfl (hb K.2.2.2.1 hd) rfl hl st, q⟩
theorem own_aloadN (K : own_C p S m meth c Z bytes own rt ml) {k : Fin 4} {x : Value} (hd : decode bytes pc = .ok (.aload_n k, 1)) (hl : Ls[k.val]? = some (.val x)) (hv : x.isRef = true)
    (r : own_E p l e R S m args below meth c h locs cells slots (pc + 1) Ls (x :: stk) G) : own_E p l e R S m args below meth c h locs cells slots pc Ls stk G := fun T X eT => by
  obtain ⟨s₂, st, q⟩ := r T X eT
  exact ⟨s₂, XS.aloadN X.here K.1 rfl (hb K.2.2.2.1 hd) hl hv st, q⟩
theorem own_aload (K : own_C p S m meth c Z bytes own rt ml) {k : Nat} {x : Value} (hd : decode bytes pc = .ok (.aload k, 2)) (hl : Ls[k]? = some (.val x)) (hv : x.isRef = true)
    (r : own_E p l e R S m args below meth c h locs cells slots (pc + 2) Ls (x :: stk) G) : own_E p l e R S m args below meth c h locs cells slots pc Ls stk G := fun T X eT => by
  obtain ⟨s₂, st, q⟩ := r T X eT
  exact ⟨s₂, XS.aload X.here K.1 rfl (hb K.2.2.2.1 hd) hl hv st, q⟩
theorem own_astoreN (K : own_C p S m meth c Z bytes own rt ml) {k : Fin 4} {x : Value} {Ls' : Array Slot} (hd : decode bytes pc = .ok (.astore_n k, 1)) (hv : x.isRef = true) (hl : storeLocals Ls k.val x = some Ls')
    (r : own_E p l e R S m args below meth c h locs cells slots (pc + 1) Ls' rest G) : own_E p l e R S m args below meth c h locs cells slots pc Ls (x :: rest) G := fun T X eT => by
  obtain ⟨s₂, st, q⟩ := r T X eT
  exact ⟨s₂, XS.astoreN X.here K.1 rfl (hb K.2.2.2.1 hd) rfl hv hl st, q⟩
theorem own_astore (K : own_C p S m meth c Z bytes own rt ml) {k : Nat} {x : Value} {Ls' : Array Slot} (hd : decode bytes pc = .ok (.astore k, 2)) (hv : x.isRef = true) (hl : storeLocals Ls k x = some Ls')
    (r : own_E p l e R S m args below meth c h locs cells slots (pc + 2) Ls' rest G) : own_E p l e R S m args below meth c h locs cells slots pc Ls (x :: rest) G := fun T X eT => by
  obtain ⟨s₂, st, q⟩ := r T X eT
  exact ⟨s₂, XS.astore X.here K.1 rfl (hb K.2.2.2.1 hd) rfl hv hl st, q⟩
theorem own_iconst (K : own_C p S m meth c Z bytes own rt ml) {i : Int} (hd : decode bytes pc = .ok (.iconst i, 1)) {x : Int32} (hx : Int32.ofInt i = x)
    (r : own_E p l e R S m args below meth c h locs cells slots (pc + 1) Ls (.int x :: stk) G) : own_E p l e R S m args below meth c h locs cells slots pc Ls stk G := fun T X eT => by
  obtain ⟨s₂, st, q⟩ := r T X eT
  exact ⟨s₂, XS.iconst X.here K.1 rfl (hb K.2.2.2.1 hd) (by rw [hx]; exact st), q⟩
theorem own_bipush (K : own_C p S m meth c Z bytes own rt ml) {i : Int} (hd : decode bytes pc = .ok (.bipush i, 2)) {x : Int32} (hx : (Int8.ofInt i).toInt32 = x)
    (r : own_E p l e R S m args below meth c h locs cells slots (pc + 2) Ls (.int x :: stk) G) : own_E p l e R S m args below meth c h locs cells slots pc Ls stk G := fun T X eT => by
  obtain ⟨s₂, st, q⟩ := r T X eT
  exact ⟨s₂, XS.bipush X.here K.1 rfl (hb K.2.2.2.1 hd) (by rw [hx]; exact st), q⟩
theorem own_sipush (K : own_C p S m meth c Z bytes own rt ml) {i : Int} (hd : decode bytes pc = .ok (.sipush i, 3)) {x : Int32} (hx : (Int16.ofInt i).toInt32 = x)
    (r : own_E p l e R S m args below meth c h locs cells slots (pc + 3) Ls (.int x :: stk) G) : own_E p l e R S m args below meth c h locs cells slots pc Ls stk G := fun T X eT => by
  obtain ⟨s₂, st, q⟩ := r T X eT
  exact ⟨s₂, XS.sipush X.here K.1 rfl (hb K.2.2.2.1 hd) (by rw [hx]; exact st), q⟩
theorem own_lconst (K : own_C p S m meth c Z bytes own rt ml) {k : Fin 2} (hd : decode bytes pc = .ok (.lconst k, 1)) {x : Int64} (hx : Int64.ofNat k = x)
    (r : own_E p l e R S m args below meth c h locs cells slots (pc + 1) Ls (.long x :: stk) G) : own_E p l e R S m args below meth c h locs cells slots pc Ls stk G := fun T X eT => by
  obtain ⟨s₂, st, q⟩ := r T X eT
  exact ⟨s₂, XS.lconst X.here K.1 rfl (hb K.2.2.2.1 hd) (by rw [hx]; exact st), q⟩
theorem own_aconstNull (K : own_C p S m meth c Z bytes own rt ml) (hd : decode bytes pc = .ok (.aconst_null, 1))
    (r : own_E p l e R S m args below meth c h locs cells slots (pc + 1) Ls (.null :: stk) G) : own_E p l e R S m args below meth c h locs cells slots pc Ls stk G := fun T X eT => by
  obtain ⟨s₂, st, q⟩ := r T X eT
  exact ⟨s₂, XS.aconstNull X.here K.1 rfl (hb K.2.2.2.1 hd) st, q⟩
theorem own_ldc (K : own_C p S m meth c Z bytes own rt ml) {i : Nat} {x : Int32} (w : (Jvm.Cond.constant own i x).before a0 Z = true) (hd : decode bytes pc = .ok (.ldc i, 2))
    (r : own_E p l e R S m args below meth c h locs cells slots (pc + 2) Ls (.int x :: stk) G) : own_E p l e R S m args below meth c h locs cells slots pc Ls stk G := fun T X eT => by
  obtain ⟨s₂, st, q⟩ := r T X eT
  exact ⟨s₂, X.ldcI K.1 K.2.2.1 (mvT K.2.1 w) rfl (hb K.2.2.2.1 hd) st, q⟩
theorem own_ldc2 (K : own_C p S m meth c Z bytes own rt ml) {i : Nat} {x : Int64} (w : (Jvm.Cond.constantLong own i x).before a0 Z = true) (hd : decode bytes pc = .ok (.ldc2_w i, 3))
    (r : own_E p l e R S m args below meth c h locs cells slots (pc + 3) Ls (.long x :: stk) G) : own_E p l e R S m args below meth c h locs cells slots pc Ls stk G := fun T X eT => by
  obtain ⟨s₂, st, q⟩ := r T X eT
  exact ⟨s₂, X.ldc2J K.1 K.2.2.1 (mvT K.2.1 w) rfl (hb K.2.2.2.1 hd) st, q⟩
theorem own_iadd (K : own_C p S m meth c Z bytes own rt ml) {x y : Int32} (hd : decode bytes pc = .ok (.iadd, 1))
    (r : own_E p l e R S m args below meth c h locs cells slots (pc + 1) Ls (.int (x + y) :: rest) G) : own_E p l e R S m args below meth c h locs cells slots pc Ls (.int y :: .int x :: rest) G := fun T X eT => by
  obtain ⟨s₂, st, q⟩ := r T X eT
  exact ⟨s₂, XS.iadd X.here K.1 rfl (hb K.2.2.2.1 hd) rfl st, q⟩
theorem own_isub (K : own_C p S m meth c Z bytes own rt ml) {x y : Int32} (hd : decode bytes pc = .ok (.isub, 1))
    (r : own_E p l e R S m args below meth c h locs cells slots (pc + 1) Ls (.int (x - y) :: rest) G) : own_E p l e R S m args below meth c h locs cells slots pc Ls (.int y :: .int x :: rest) G := fun T X eT => by
  obtain ⟨s₂, st, q⟩ := r T X eT
  exact ⟨s₂, XS.isub X.here K.1 rfl (hb K.2.2.2.1 hd) rfl st, q⟩
theorem own_imul (K : own_C p S m meth c Z bytes own rt ml) {x y : Int32} (hd : decode bytes pc = .ok (.imul, 1))
    (r : own_E p l e R S m args below meth c h locs cells slots (pc + 1) Ls (.int (x * y) :: rest) G) : own_E p l e R S m args below meth c h locs cells slots pc Ls (.int y :: .int x :: rest) G := fun T X eT => by
  obtain ⟨s₂, st, q⟩ := r T X eT
  exact ⟨s₂, XS.imul X.here K.1 rfl (hb K.2.2.2.1 hd) rfl st, q⟩
theorem own_iand (K : own_C p S m meth c Z bytes own rt ml) {x y : Int32} (hd : decode bytes pc = .ok (.iand, 1))
    (r : own_E p l e R S m args below meth c h locs cells slots (pc + 1) Ls (.int (x &&& y) :: rest) G) : own_E p l e R S m args below meth c h locs cells slots pc Ls (.int y :: .int x :: rest) G := fun T X eT => by
  obtain ⟨s₂, st, q⟩ := r T X eT
  exact ⟨s₂, XS.iand X.here K.1 rfl (hb K.2.2.2.1 hd) rfl st, q⟩
theorem own_ishr (K : own_C p S m meth c Z bytes own rt ml) {x y : Int32} (hd : decode bytes pc = .ok (.ishr, 1))
    (r : own_E p l e R S m args below meth c h locs cells slots (pc + 1) Ls (.int (x >>> (y &&& 31)) :: rest) G) : own_E p l e R S m args below meth c h locs cells slots pc Ls (.int y :: .int x :: rest) G := fun T X eT => by
  obtain ⟨s₂, st, q⟩ := r T X eT
  exact ⟨s₂, XS.ishr X.here K.1 rfl (hb K.2.2.2.1 hd) rfl st, q⟩
theorem own_iushr (K : own_C p S m meth c Z bytes own rt ml) {x y : Int32} (hd : decode bytes pc = .ok (.iushr, 1))
    (r : own_E p l e R S m args below meth c h locs cells slots (pc + 1) Ls (.int (XT.ushr x y) :: rest) G) : own_E p l e R S m args below meth c h locs cells slots pc Ls (.int y :: .int x :: rest) G := fun T X eT => by
  obtain ⟨s₂, st, q⟩ := r T X eT
  exact ⟨s₂, XS.iushr X.here K.1 rfl (hb K.2.2.2.1 hd) rfl st, q⟩
theorem own_ladd (K : own_C p S m meth c Z bytes own rt ml) {x y : Int64} (hd : decode bytes pc = .ok (.ladd, 1))
    (r : own_E p l e R S m args below meth c h locs cells slots (pc + 1) Ls (.long (x + y) :: rest) G) : own_E p l e R S m args below meth c h locs cells slots pc Ls (.long y :: .long x :: rest) G := fun T X eT => by
  obtain ⟨s₂, st, q⟩ := r T X eT
  exact ⟨s₂, XS.ladd X.here K.1 rfl (hb K.2.2.2.1 hd) rfl st, q⟩
theorem own_lsub (K : own_C p S m meth c Z bytes own rt ml) {x y : Int64} (hd : decode bytes pc = .ok (.lsub, 1))
    (r : own_E p l e R S m args below meth c h locs cells slots (pc + 1) Ls (.long (x - y) :: rest) G) : own_E p l e R S m args below meth c h locs cells slots pc Ls (.long y :: .long x :: rest) G := fun T X eT => by
  obtain ⟨s₂, st, q⟩ := r T X eT
  exact ⟨s₂, XS.lsub X.here K.1 rfl (hb K.2.2.2.1 hd) rfl st, q⟩
theorem own_lmul (K : own_C p S m meth c Z bytes own rt ml) {x y : Int64} (hd : decode bytes pc = .ok (.lmul, 1))
    (r : own_E p l e R S m args below meth c h locs cells slots (pc + 1) Ls (.long (x * y) :: rest) G) : own_E p l e R S m args below meth c h locs cells slots pc Ls (.long y :: .long x :: rest) G := fun T X eT => by
  obtain ⟨s₂, st, q⟩ := r T X eT
  exact ⟨s₂, XS.lmul X.here K.1 rfl (hb K.2.2.2.1 hd) rfl st, q⟩
theorem own_land (K : own_C p S m meth c Z bytes own rt ml) {x y : Int64} (hd : decode bytes pc = .ok (.land, 1))
    (r : own_E p l e R S m args below meth c h locs cells slots (pc + 1) Ls (.long (x &&& y) :: rest) G) : own_E p l e R S m args below meth c h locs cells slots pc Ls (.long y :: .long x :: rest) G := fun T X eT => by
  obtain ⟨s₂, st, q⟩ := r T X eT
  exact ⟨s₂, XS.land X.here K.1 rfl (hb K.2.2.2.1 hd) rfl st, q⟩
theorem own_irem (K : own_C p S m meth c Z bytes own rt ml) {x y : Int32} (hd : decode bytes pc = .ok (.irem, 1)) (hy : y ≠ 0)
    (r : own_E p l e R S m args below meth c h locs cells slots (pc + 1) Ls (.int (x % y) :: rest) G) : own_E p l e R S m args below meth c h locs cells slots pc Ls (.int y :: .int x :: rest) G := fun T X eT => by
  obtain ⟨s₂, st, q⟩ := r T X eT
  exact ⟨s₂, iremM X K.1 rfl (hb K.2.2.2.1 hd) rfl hy st, q⟩
theorem own_idiv (K : own_C p S m meth c Z bytes own rt ml) {x y : Int32} (hd : decode bytes pc = .ok (.idiv, 1)) (hy : y ≠ 0)
    (r : own_E p l e R S m args below meth c h locs cells slots (pc + 1) Ls (.int (x / y) :: rest) G) : own_E p l e R S m args below meth c h locs cells slots pc Ls (.int y :: .int x :: rest) G := fun T X eT => by
  obtain ⟨s₂, st, q⟩ := r T X eT
  exact ⟨s₂, XS.idiv X.here K.1 rfl (hb K.2.2.2.1 hd) rfl hy st, q⟩
theorem own_ldiv (K : own_C p S m meth c Z bytes own rt ml) {x y : Int64} (hd : decode bytes pc = .ok (.ldiv, 1)) (hy : y ≠ 0)
    (r : own_E p l e R S m args below meth c h locs cells slots (pc + 1) Ls (.long (x / y) :: rest) G) : own_E p l e R S m args below meth c h locs cells slots pc Ls (.long y :: .long x :: rest) G := fun T X eT => by
  obtain ⟨s₂, st, q⟩ := r T X eT
  exact ⟨s₂, XS.ldiv X.here K.1 rfl (hb K.2.2.2.1 hd) rfl hy st, q⟩
theorem own_lrem (K : own_C p S m meth c Z bytes own rt ml) {x y : Int64} (hd : decode bytes pc = .ok (.lrem, 1)) (hy : y ≠ 0)
    (r : own_E p l e R S m args below meth c h locs cells slots (pc + 1) Ls (.long (x - x / y * y) :: rest) G) : own_E p l e R S m args below meth c h locs cells slots pc Ls (.long y :: .long x :: rest) G := fun T X eT => by
  obtain ⟨s₂, st, q⟩ := r T X eT
  exact ⟨s₂, XS.lrem X.here K.1 rfl (hb K.2.2.2.1 hd) rfl hy st, q⟩
theorem own_lcmp (K : own_C p S m meth c Z bytes own rt ml) {x y : Int64} (hd : decode bytes pc = .ok (.lcmp, 1))
    (r : own_E p l e R S m args below meth c h locs cells slots (pc + 1) Ls (.int (XT.cmpL x y) :: rest) G) : own_E p l e R S m args below meth c h locs cells slots pc Ls (.long y :: .long x :: rest) G := fun T X eT => by
  obtain ⟨s₂, st, q⟩ := r T X eT
  exact ⟨s₂, XS.lcmp X.here K.1 rfl (hb K.2.2.2.1 hd) rfl st, q⟩
theorem own_l2i (K : own_C p S m meth c Z bytes own rt ml) {x : Int64} (hd : decode bytes pc = .ok (.l2i, 1))
    (r : own_E p l e R S m args below meth c h locs cells slots (pc + 1) Ls (.int x.toInt32 :: rest) G) : own_E p l e R S m args below meth c h locs cells slots pc Ls (.long x :: rest) G := fun T X eT => by
  obtain ⟨s₂, st, q⟩ := r T X eT
  exact ⟨s₂, XS.l2i X.here K.1 rfl (hb K.2.2.2.1 hd) rfl st, q⟩
theorem own_i2b (K : own_C p S m meth c Z bytes own rt ml) {x : Int32} (hd : decode bytes pc = .ok (.i2b, 1))
    (r : own_E p l e R S m args below meth c h locs cells slots (pc + 1) Ls (.int x.toInt8.toInt32 :: rest) G) : own_E p l e R S m args below meth c h locs cells slots pc Ls (.int x :: rest) G := fun T X eT => by
  obtain ⟨s₂, st, q⟩ := r T X eT
  exact ⟨s₂, XS.i2b X.here K.1 rfl (hb K.2.2.2.1 hd) rfl st, q⟩
theorem own_i2c (K : own_C p S m meth c Z bytes own rt ml) {x : Int32} (hd : decode bytes pc = .ok (.i2c, 1))
    (r : own_E p l e R S m args below meth c h locs cells slots (pc + 1) Ls (.int x.toUInt32.toUInt16.toUInt32.toInt32 :: rest) G) : own_E p l e R S m args below meth c h locs cells slots pc Ls (.int x :: rest) G := fun T X eT => by
  obtain ⟨s₂, st, q⟩ := r T X eT
  exact ⟨s₂, XS.i2c X.here K.1 rfl (hb K.2.2.2.1 hd) rfl st, q⟩
theorem own_iinc (K : own_C p S m meth c Z bytes own rt ml) {k : Nat} {d : Int} {x : Int32} {Ls' : Array Slot} (hd : decode bytes pc = .ok (.iinc k d, 3)) (hl : Ls[k]? = some (.val (.int x))) (hl' : storeLocals Ls k (.int (x + Int32.ofInt d)) = some Ls')
    (r : own_E p l e R S m args below meth c h locs cells slots (pc + 3) Ls' stk G) : own_E p l e R S m args below meth c h locs cells slots pc Ls stk G := fun T X eT => by
  obtain ⟨s₂, st, q⟩ := r T X eT
  exact ⟨s₂, XS.iinc X.here K.1 rfl (hb K.2.2.2.1 hd) hl hl' st, q⟩
theorem own_dup (K : own_C p S m meth c Z bytes own rt ml) {x : Value} (hd : decode bytes pc = .ok (.dup, 1)) (hc : x.category = 1)
    (r : own_E p l e R S m args below meth c h locs cells slots (pc + 1) Ls (x :: x :: rest) G) : own_E p l e R S m args below meth c h locs cells slots pc Ls (x :: rest) G := fun T X eT => by
  obtain ⟨s₂, st, q⟩ := r T X eT
  exact ⟨s₂, XS.dup X.here K.1 rfl (hb K.2.2.2.1 hd) rfl hc st, q⟩
theorem own_pop (K : own_C p S m meth c Z bytes own rt ml) {x : Value} (hd : decode bytes pc = .ok (.pop, 1)) (hc : x.category = 1)
    (r : own_E p l e R S m args below meth c h locs cells slots (pc + 1) Ls rest G) : own_E p l e R S m args below meth c h locs cells slots pc Ls (x :: rest) G := fun T X eT => by
  obtain ⟨s₂, st, q⟩ := r T X eT
  exact ⟨s₂, XS.pop X.here K.1 rfl (hb K.2.2.2.1 hd) rfl hc st, q⟩
theorem own_goto (K : own_C p S m meth c Z bytes own rt ml) {o : Int} {pc' : Nat} (hd : decode bytes pc = .ok (.goto o, 3)) (ho : 0 ≤ (pc : Int) + o) (hp : ((pc : Int) + o).toNat = pc')
    (r : own_E p l e R S m args below meth c h locs cells slots pc' Ls stk G) : own_E p l e R S m args below meth c h locs cells slots pc Ls stk G := fun T X eT => by
  obtain ⟨s₂, st, q⟩ := r T X eT
  exact ⟨s₂, XS.goto X.here K.1 rfl (pc0 := pc) (pc' := pc') rfl (hb K.2.2.2.1 hd) ho hp st, q⟩
theorem own_ifY (K : own_C p S m meth c Z bytes own rt ml) {cd : ClassFile.Cond} {x : Int32} {o : Int} {pc' : Nat} (hd : decode bytes pc = .ok (.ifCond cd o, 3)) (hc : ifCond.holds cd x = true) (ho : 0 ≤ (pc : Int) + o) (hp : ((pc : Int) + o).toNat = pc')
    (r : own_E p l e R S m args below meth c h locs cells slots pc' Ls rest G) : own_E p l e R S m args below meth c h locs cells slots pc Ls (.int x :: rest) G := fun T X eT => by
  obtain ⟨s₂, st, q⟩ := r T X eT
  exact ⟨s₂, XS.ifYes X.here K.1 rfl (pc0 := pc) (pc' := pc') rfl (hb K.2.2.2.1 hd) rfl hc ho hp st, q⟩
theorem own_ifN (K : own_C p S m meth c Z bytes own rt ml) {cd : ClassFile.Cond} {x : Int32} {o : Int} (hd : decode bytes pc = .ok (.ifCond cd o, 3)) (hc : ifCond.holds cd x = false)
    (r : own_E p l e R S m args below meth c h locs cells slots (pc + 3) Ls rest G) : own_E p l e R S m args below meth c h locs cells slots pc Ls (.int x :: rest) G := fun T X eT => by
  obtain ⟨s₂, st, q⟩ := r T X eT
  exact ⟨s₂, XS.ifNo X.here K.1 rfl (hb K.2.2.2.1 hd) rfl hc st, q⟩
theorem own_icmpY (K : own_C p S m meth c Z bytes own rt ml) {cd : ClassFile.Cond} {x y : Int32} {o : Int} {pc' : Nat} (hd : decode bytes pc = .ok (.if_icmp cd o, 3)) (hc : if_icmp.holds cd x y = true) (ho : 0 ≤ (pc : Int) + o) (hp : ((pc : Int) + o).toNat = pc')
    (r : own_E p l e R S m args below meth c h locs cells slots pc' Ls rest G) : own_E p l e R S m args below meth c h locs cells slots pc Ls (.int y :: .int x :: rest) G := fun T X eT => by
  obtain ⟨s₂, st, q⟩ := r T X eT
  exact ⟨s₂, XS.icmpYes X.here K.1 rfl (pc0 := pc) (pc' := pc') rfl (hb K.2.2.2.1 hd) rfl hc ho hp st, q⟩
theorem own_icmpN (K : own_C p S m meth c Z bytes own rt ml) {cd : ClassFile.Cond} {x y : Int32} {o : Int} (hd : decode bytes pc = .ok (.if_icmp cd o, 3)) (hc : if_icmp.holds cd x y = false)
    (r : own_E p l e R S m args below meth c h locs cells slots (pc + 3) Ls rest G) : own_E p l e R S m args below meth c h locs cells slots pc Ls (.int y :: .int x :: rest) G := fun T X eT => by
  obtain ⟨s₂, st, q⟩ := r T X eT
  exact ⟨s₂, XS.icmpNo X.here K.1 rfl (hb K.2.2.2.1 hd) rfl hc st, q⟩
theorem own_acmp (K : own_C p S m meth c Z bytes own rt ml) {cd : ACond} {x y : Addr} {o : Int} {pc' : Nat} {same : Bool} (hd : decode bytes pc = .ok (.if_acmp cd o, 3)) (hq : decide (x = y) = same) (ho : 0 ≤ (pc : Int) + o) (hp : pc' = if acV cd same = true then ((pc : Int) + o).toNat else pc + 3)
    (r : own_E p l e R S m args below meth c h locs cells slots pc' Ls rest G) : own_E p l e R S m args below meth c h locs cells slots pc Ls (.ref y :: .ref x :: rest) G := fun T X eT => by
  obtain ⟨s₂, st, q⟩ := r T X eT
  exact ⟨s₂, Jvm.RoadKit.acmp (g := mkF m pc Ls (.ref y :: .ref x :: rest)) X K.1 rfl (x := .ref x) (y := .ref y) rfl rfl (pc0 := pc) (pc' := pc') (same := same) rfl (hb K.2.2.2.1 hd) rfl (by rw [← hq]; simp) ho hp st, q⟩
theorem own_ifnullN (K : own_C p S m meth c Z bytes own rt ml) {o : Int} {b : Addr} (hd : decode bytes pc = .ok (.ifnull o, 3))
    (r : own_E p l e R S m args below meth c h locs cells slots (pc + 3) Ls rest G) : own_E p l e R S m args below meth c h locs cells slots pc Ls (.ref b :: rest) G := fun T X eT => by
  obtain ⟨s₂, st, q⟩ := r T X eT
  exact ⟨s₂, XS.ifnullNo X.here K.1 rfl (hb K.2.2.2.1 hd) rfl st, q⟩
theorem own_ifnonnullY (K : own_C p S m meth c Z bytes own rt ml) {o : Int} {b : Addr} {pc' : Nat} (hd : decode bytes pc = .ok (.ifnonnull o, 3)) (ho : 0 ≤ (pc : Int) + o) (hp : ((pc : Int) + o).toNat = pc')
    (r : own_E p l e R S m args below meth c h locs cells slots pc' Ls rest G) : own_E p l e R S m args below meth c h locs cells slots pc Ls (.ref b :: rest) G := fun T X eT => by
  obtain ⟨s₂, st, q⟩ := r T X eT
  exact ⟨s₂, XS.ifnonnullYes X.here K.1 rfl (pc0 := pc) (pc' := pc') rfl (hb K.2.2.2.1 hd) rfl ho hp st, q⟩
theorem own_getS (K : own_C p S m meth c Z bytes own rt ml) {C f d : String} {i : Nat} {x : Value} (w : (Jvm.Cond.fieldLink own i C f d).before a0 Z = true) (F : Sta Z h C f d x) (hd : decode bytes pc = .ok (.getstatic i, 3))
    (r : own_E p l e R S m args below meth c h locs cells slots (pc + 3) Ls (x :: stk) G) : own_E p l e R S m args below meth c h locs cells slots pc Ls stk G := fun T X eT => by
  obtain ⟨T', X', e', st⟩ := getS2 X K.1 K.2.1 K.2.2.1 (host := "") (Or.inl w) Via.refl eT F (g := mkF m pc Ls stk) rfl (hb K.2.2.2.1 hd)
  obtain ⟨s₂, st', q⟩ := r T' X' e'
  exact ⟨s₂, st _ st', q⟩
theorem own_getF (K : own_C p S m meth c Z bytes own rt ml) {C f d : String} {i : Nat} {x : Value} {a : Addr} (w : (Jvm.Cond.fieldLink own i C f d).before a0 Z = true) (F : Fld Z h a C f d x) (hd : decode bytes pc = .ok (.getfield i, 3))
    (r : own_E p l e R S m args below meth c h locs cells slots (pc + 3) Ls (x :: rest) G) : own_E p l e R S m args below meth c h locs cells slots pc Ls (.ref a :: rest) G := fun T X eT => by
  obtain ⟨T', X', e', st⟩ := getF X K.1 K.2.1 K.2.2.1 (host := "") (Or.inl w) Via.refl eT F (g := mkF m pc Ls (.ref a :: rest)) rfl rfl (hb K.2.2.2.1 hd)
  obtain ⟨s₂, st', q⟩ := r T' X' e'
  exact ⟨s₂, st _ st', q⟩
theorem own_alen (K : own_C p S m meth c Z bytes own rt ml) {a : Addr} {k : ClassId} {ty : FieldType} {z : Int32} {vs : List Value} {dv : Value} (A : Arv Z h a k ty z vs dv) (hd : decode bytes pc = .ok (.arraylength, 1))
    (r : own_E p l e R S m args below meth c h locs cells slots (pc + 1) Ls (.int z :: rest) G) : own_E p l e R S m args below meth c h locs cells slots pc Ls (.ref a :: rest) G := fun T X eT => by
  obtain ⟨s₂, st, q⟩ := r T X eT
  obtain ⟨cl, A1, -, S1, M1, -, -⟩ := A
  refine ⟨s₂, X.arraylength K.1 (cell := cl) (by rw [eT]; exact A1.1) (State.isArrayOf_alike K.2.1.alike A1.2.1) (g := mkF m pc Ls (.ref a :: rest)) rfl (rest := rest) rfl (hb K.2.2.2.1 hd) _ ?_, q⟩
  rw [len_of S1 M1]
  exact st
theorem own_bald (K : own_C p S m meth c Z bytes own rt ml) {a : Addr} {k : ClassId} {z j : Int32} {vs : List Value} {dv w : Value} (A : Arv Z h a k .byte z vs dv) (hj : ¬ j < 0) (hz : j < z) (hv : vs.getD j.toNatClampNeg dv = w) (hd : decode bytes pc = .ok (.baload, 1))
    (r : own_E p l e R S m args below meth c h locs cells slots (pc + 1) Ls (w :: rest) G) : own_E p l e R S m args below meth c h locs cells slots pc Ls (.int j :: .ref a :: rest) G := fun T X eT => by
  obtain ⟨s₂, st, q⟩ := r T X eT
  obtain ⟨cl, A1, -, S1, M1, H1, -⟩ := A
  have hin := inb_of S1 ⟨hj, hz⟩
  have hat : cl.slots[j.toNatClampNeg]? = some w := by rw [← hv]; exact H1 _ (by omega)
  exact ⟨s₂, X.baloadBytes K.1 (j := j) (v := w) (by rw [eT]; exact A1.1) (State.isArrayOf_alike K.2.1.alike A1.2.1) A1.2.2 hin hat (g := mkF m pc Ls (.int j :: .ref a :: rest)) rfl rfl (hb K.2.2.2.1 hd) _ st, q⟩
theorem own_cast (K : own_C p S m meth c Z bytes own rt ml) {i : Nat} {C : String} {a : Addr} (w : (Jvm.Cond.classLink own i C).before a0 Z = true) (F : Ins Z h a C true) (hd : decode bytes pc = .ok (.checkcast i, 3))
    (r : own_E p l e R S m args below meth c h locs cells slots (pc + 3) Ls (.ref a :: rest) G) : own_E p l e R S m args below meth c h locs cells slots pc Ls (.ref a :: rest) G := fun T X eT => by
  obtain ⟨T', X', e', st⟩ := castY X K.1 K.2.1 K.2.2.1 w eT F (g := mkF m pc Ls (.ref a :: rest)) rfl rfl (hb K.2.2.2.1 hd)
  obtain ⟨s₂, st', q⟩ := r T' X' e'
  exact ⟨s₂, st _ st', q⟩
/-- the end of a body that writes nothing -/
def own_P (s : State) (below : List Frame) (h : Heap) (v : Option Value) (s₂ : State) : Prop := s₂.status = .running ∧ Ended s₂ below (.returned v) ∧ s₂.heap = h ∧ FrameEnd s (.returned v) s₂ [] 0 0
/-- the end of a body that may load constants: the booked ones say their texts as before -/
def own_O (s : State) (below : List Frame) (Z : State) (EL : List (String × Nat)) (R : Room) (Q : Option Value → Heap → List Loc → Prop) (s₂ : State) : Prop := s₂.status = .running ∧ ∃ v L, Ended s₂ below (.returned v) ∧ Q v s₂.heap L ∧ CHr Z EL s.vm s.heap s₂.vm s₂.heap ∧ ReturnedEndW s (.returned v) s₂ L R.cells R.slots
/-- where a walk that may load constants stands -/
def own_V (s : State) (Z : State) (EL : List (String × Nat)) (vm : Vm) (h : Heap) : Prop := (∃ k, s.Since vm k ∧ k ≤ h.size) ∧ CHr Z EL s.vm s.heap vm h
def own_M (l : Launch) (y : MethodName) (bytes : ByteArray) (ml : Nat) (rt : Option FieldType) (ws : List Jvm.Cond) (rm : Room) (Z : State) (h : Heap) (as : Array Value) (v : Option Value) : Prop :=
  MetFree l y (head1 (Jvm.Cond.code y bytes ml rt :: ws) rm) (fun a U => a = as ∧ Z.Warmed39 U.vm ∧ U.heap = h) (fun _ _ _ _ _ => True) (fun _ U o U' => ∃ v' L, o = .returned v' ∧ (v' = v ∧ L = [] ∧ U'.heap = h) ∧ FrameEnd U o U' L rm.cells rm.slots)
def own_H (l : Launch) (y : MethodName) (bytes : ByteArray) (ml : Nat) (rt : Option FieldType) (ws : List Jvm.Cond) (rm : Room) (Z : State) (EL : List (String × Nat)) (h : Heap) (as : Array Value) (Q : Option Value → Heap → List Loc → Prop) : Prop :=
  MetFree l y (head1 (Jvm.Cond.code y bytes ml rt :: ws) rm) (fun a U => a = as ∧ Z.Warmed39 U.vm ∧ U.heap = h ∧ CHv Z EL U.vm h) (fun _ _ _ _ _ => True) (fun _ U o U' => ∃ v L, o = .returned v ∧ Q v U'.heap L ∧ CHr Z EL U.vm U.heap U'.vm U'.heap ∧ ReturnedEndW U o U' L rm.cells rm.slots)
theorem own_met {l : Launch} {y : MethodName} {bytes : ByteArray} {ml : Nat} {rt : Option FieldType} {ws : List Jvm.Cond} {rm : Room} {Z : State} {h : Heap} {as : Array Value} {v : Option Value} {Ls : Array Slot} (hp : plainFor y = true) (hrc : rm.cells = 0) (hrs : rm.slots = 0)
    (hef : ∀ m, entryFrame m as ml = mkF m 0 Ls [])
    (body : ∀ (p : Program) (e : Env) (s : State) (m : MethodId) (below : List Frame) (meth : Method) (c : Code), own_C p s m meth c Z bytes y.cls rt ml → own_E p l e rm s m as below meth c h [] 0 0 0 Ls [] (own_P s below h v)) :
    own_M l y bytes ml rt ws rm Z h as v := by
  refine MetFree.of_bodySF hp hisR ?_
  intro p e s m args below meth c s₁ Bd hml0 hP hK
  obtain ⟨rfl, hZ, hh⟩ := hP
  have X0 : Stand p l e rm s m args below meth c s₁ [] 0 0 := Stand.of_body Bd
  have e0 : s₁.heap = h := by rw [← hh, Bd.state]; rfl
  obtain ⟨s₂, q1, q2, q3, q4, q5⟩ := body p e s m below meth c ⟨Bd.exec, hZ, findClass_of_methodNamed Bd.named, Bd.bytes, Bd.returns, Bd.notSynchronized, hml0⟩ s₁ X0 e0
  exact ⟨s₂, _, castTop (hef m) q1, q2, q3, _, _, rfl, ⟨rfl, rfl, q4⟩, by rw [hrc, hrs]; exact q5⟩
theorem own_metH {l : Launch} {y : MethodName} {bytes : ByteArray} {ml : Nat} {rt : Option FieldType} {ws : List Jvm.Cond} {rm : Room} {Z : State} {EL : List (String × Nat)} {h : Heap} {as : Array Value} {Q : Option Value → Heap → List Loc → Prop} {Ls : Array Slot} (hp : plainFor y = true)
    (hef : ∀ m, entryFrame m as ml = mkF m 0 Ls [])
    (body : ∀ (p : Program) (e : Env) (s : State) (m : MethodId) (below : List Frame) (meth : Method) (c : Code), s.heap = h → meth.name = y.name → own_C p (s.setVm s.vm) m meth c Z bytes y.cls rt ml → own_V s Z EL s.vm h → own_E p l e rm (s.setVm s.vm) m as below meth c h [] 0 0 0 Ls [] (own_O s below Z EL rm Q)) :
    own_H l y bytes ml rt ws rm Z EL h as Q := by
  refine MetFree.of_bodySF hp hisR ?_
  intro p e s m args below meth c s₁ Bd hml0 hP hK
  obtain ⟨rfl, hZ, hh, hV⟩ := hP
  have X0 : Stand p l e rm (s.setVm s.vm) m args below meth c s₁ [] 0 0 := Stand.of_body Bd
  have e0 : s₁.heap = h := by rw [← hh, Bd.state]; rfl
  have V0 : own_V s Z EL s.vm h := ⟨⟨0, (State.WarmedH.refl s).since 0, Nat.zero_le _⟩, by rw [hh]; exact CHr.refl hV⟩
  obtain ⟨s₂, q1, q2, v, L, q3, q4, q5, q6⟩ := body p e s m below meth c hh (name_of_methodNamed Bd.named Bd.method).1 ⟨Bd.exec, hZ, findClass_of_methodNamed Bd.named, Bd.bytes, Bd.returns, Bd.notSynchronized, hml0⟩ V0 s₁ X0 e0
  exact ⟨s₂, _, castTop (hef m) q1, q2, q3, _, _, rfl, q4, q5, q6⟩
theorem own_retZ (K : own_C p s m meth c Z bytes own (some .boolean) ml) {x z : Int32} (hd : decode bytes pc = .ok (.ireturn, 1)) (hz : nar .boolean x = z) : own_E p l e R s m args below meth c h [] 0 0 pc Ls (.int x :: rest) (own_P s below h (some (.int z))) := fun T X eT => by
  subst hz
  obtain ⟨fs, hr, hrun, hended, hW, hsame⟩ := X.leave (v := some (.int (nar .boolean x))) (fun q => by rw [K.2.2.2.2.1] at q; cases q) K.2.2.2.2.2.1
  exact ⟨_, retN X K.1 (t := .boolean) K.2.2.2.2.1 (by simp) (hb K.2.2.2.1 hd) hr, hrun, hended, eT, ⟨_, rfl⟩, hW, hsame⟩
theorem own_retZH {vm : Vm} {Q : Option Value → Heap → List Loc → Prop} (K : own_C p (s.setVm vm) m meth c Z bytes own (some .boolean) ml) (hEL : EW Z a0 EL) (V : own_V s Z EL vm h) {x z : Int32} (hd : decode bytes pc = .ok (.ireturn, 1)) (hz : nar .boolean x = z) (hc : cells ≤ R.cells) (hl : slots ≤ R.slots) (hQ : Q (some (.int z)) h locs) :
    own_E p l e R (s.setVm vm) m args below meth c h locs cells slots pc Ls (.int x :: rest) (own_O s below Z EL R Q) := fun T X eT => by
  subst hz
  obtain ⟨⟨k, hS, hk⟩, hC⟩ := V
  obtain ⟨fs, hr, hrun, hended, hW⟩ := X.leaveW hS (by rw [eT]; exact hk) (v := some (.int (nar .boolean x))) (fun q => by rw [K.2.2.2.2.1] at q; cases q) K.2.2.2.2.2.1
  exact ⟨_, retN X K.1 (t := .boolean) K.2.2.2.2.1 (by simp) (hb K.2.2.2.1 hd) hr, hrun, _, _, hended, by show Q _ T.heap _; rw [eT]; exact hQ, by show CHr _ _ _ _ T.vm T.heap; rw [eT]; exact hC.trans (CHv.at X K.2.1 hEL hC.1), hW.1, hW.2.1, hW.2.2.1, hW.2.2.2.mono hc hl⟩
theorem own_retB (K : own_C p s m meth c Z bytes own (some .byte) ml) {x z : Int32} (hd : decode bytes pc = .ok (.ireturn, 1)) (hz : nar .byte x = z) : own_E p l e R s m args below meth c h [] 0 0 pc Ls (.int x :: rest) (own_P s below h (some (.int z))) := fun T X eT => by
  subst hz
  obtain ⟨fs, hr, hrun, hended, hW, hsame⟩ := X.leave (v := some (.int (nar .byte x))) (fun q => by rw [K.2.2.2.2.1] at q; cases q) K.2.2.2.2.2.1
  exact ⟨_, retN X K.1 (t := .byte) K.2.2.2.2.1 (by simp) (hb K.2.2.2.1 hd) hr, hrun, hended, eT, ⟨_, rfl⟩, hW, hsame⟩
theorem own_retBH {vm : Vm} {Q : Option Value → Heap → List Loc → Prop} (K : own_C p (s.setVm vm) m meth c Z bytes own (some .byte) ml) (hEL : EW Z a0 EL) (V : own_V s Z EL vm h) {x z : Int32} (hd : decode bytes pc = .ok (.ireturn, 1)) (hz : nar .byte x = z) (hc : cells ≤ R.cells) (hl : slots ≤ R.slots) (hQ : Q (some (.int z)) h locs) :
    own_E p l e R (s.setVm vm) m args below meth c h locs cells slots pc Ls (.int x :: rest) (own_O s below Z EL R Q) := fun T X eT => by
  subst hz
  obtain ⟨⟨k, hS, hk⟩, hC⟩ := V
  obtain ⟨fs, hr, hrun, hended, hW⟩ := X.leaveW hS (by rw [eT]; exact hk) (v := some (.int (nar .byte x))) (fun q => by rw [K.2.2.2.2.1] at q; cases q) K.2.2.2.2.2.1
  exact ⟨_, retN X K.1 (t := .byte) K.2.2.2.2.1 (by simp) (hb K.2.2.2.1 hd) hr, hrun, _, _, hended, by show Q _ T.heap _; rw [eT]; exact hQ, by show CHr _ _ _ _ T.vm T.heap; rw [eT]; exact hC.trans (CHv.at X K.2.1 hEL hC.1), hW.1, hW.2.1, hW.2.2.1, hW.2.2.2.mono hc hl⟩
theorem own_retC (K : own_C p s m meth c Z bytes own (some .char) ml) {x z : Int32} (hd : decode bytes pc = .ok (.ireturn, 1)) (hz : nar .char x = z) : own_E p l e R s m args below meth c h [] 0 0 pc Ls (.int x :: rest) (own_P s below h (some (.int z))) := fun T X eT => by
  subst hz
  obtain ⟨fs, hr, hrun, hended, hW, hsame⟩ := X.leave (v := some (.int (nar .char x))) (fun q => by rw [K.2.2.2.2.1] at q; cases q) K.2.2.2.2.2.1
  exact ⟨_, retN X K.1 (t := .char) K.2.2.2.2.1 (by simp) (hb K.2.2.2.1 hd) hr, hrun, hended, eT, ⟨_, rfl⟩, hW, hsame⟩
theorem own_retCH {vm : Vm} {Q : Option Value → Heap → List Loc → Prop} (K : own_C p (s.setVm vm) m meth c Z bytes own (some .char) ml) (hEL : EW Z a0 EL) (V : own_V s Z EL vm h) {x z : Int32} (hd : decode bytes pc = .ok (.ireturn, 1)) (hz : nar .char x = z) (hc : cells ≤ R.cells) (hl : slots ≤ R.slots) (hQ : Q (some (.int z)) h locs) :
    own_E p l e R (s.setVm vm) m args below meth c h locs cells slots pc Ls (.int x :: rest) (own_O s below Z EL R Q) := fun T X eT => by
  subst hz
  obtain ⟨⟨k, hS, hk⟩, hC⟩ := V
  obtain ⟨fs, hr, hrun, hended, hW⟩ := X.leaveW hS (by rw [eT]; exact hk) (v := some (.int (nar .char x))) (fun q => by rw [K.2.2.2.2.1] at q; cases q) K.2.2.2.2.2.1
  exact ⟨_, retN X K.1 (t := .char) K.2.2.2.2.1 (by simp) (hb K.2.2.2.1 hd) hr, hrun, _, _, hended, by show Q _ T.heap _; rw [eT]; exact hQ, by show CHr _ _ _ _ T.vm T.heap; rw [eT]; exact hC.trans (CHv.at X K.2.1 hEL hC.1), hW.1, hW.2.1, hW.2.2.1, hW.2.2.2.mono hc hl⟩
theorem own_retI (K : own_C p s m meth c Z bytes own (some .int) ml) {x z : Int32} (hd : decode bytes pc = .ok (.ireturn, 1)) (hz : x = z) : own_E p l e R s m args below meth c h [] 0 0 pc Ls (.int x :: rest) (own_P s below h (some (.int z))) := fun T X eT => by
  subst hz
  obtain ⟨fs, hr, hrun, hended, hW, hsame⟩ := X.leave (v := some (.int (x))) (fun q => by rw [K.2.2.2.2.1] at q; cases q) K.2.2.2.2.2.1
  exact ⟨_, retOut X K.1 K.2.2.2.2.1 rfl (Or.inl ⟨rfl, Or.inl rfl, _, rfl⟩) (hb K.2.2.2.1 hd) hr, hrun, hended, eT, ⟨_, rfl⟩, hW, hsame⟩
theorem own_retIH {vm : Vm} {Q : Option Value → Heap → List Loc → Prop} (K : own_C p (s.setVm vm) m meth c Z bytes own (some .int) ml) (hEL : EW Z a0 EL) (V : own_V s Z EL vm h) {x z : Int32} (hd : decode bytes pc = .ok (.ireturn, 1)) (hz : x = z) (hc : cells ≤ R.cells) (hl : slots ≤ R.slots) (hQ : Q (some (.int z)) h locs) :
    own_E p l e R (s.setVm vm) m args below meth c h locs cells slots pc Ls (.int x :: rest) (own_O s below Z EL R Q) := fun T X eT => by
  subst hz
  obtain ⟨⟨k, hS, hk⟩, hC⟩ := V
  obtain ⟨fs, hr, hrun, hended, hW⟩ := X.leaveW hS (by rw [eT]; exact hk) (v := some (.int (x))) (fun q => by rw [K.2.2.2.2.1] at q; cases q) K.2.2.2.2.2.1
  exact ⟨_, retOut X K.1 K.2.2.2.2.1 rfl (Or.inl ⟨rfl, Or.inl rfl, _, rfl⟩) (hb K.2.2.2.1 hd) hr, hrun, _, _, hended, by show Q _ T.heap _; rw [eT]; exact hQ, by show CHr _ _ _ _ T.vm T.heap; rw [eT]; exact hC.trans (CHv.at X K.2.1 hEL hC.1), hW.1, hW.2.1, hW.2.2.1, hW.2.2.2.mono hc hl⟩
theorem own_retA (K : own_C p s m meth c Z bytes own rt ml) {t : FieldType} (hrt : rt = some t) {x : Value} (hd : decode bytes pc = .ok (.areturn, 1)) (ht : t.isReference = true) (hn : narrow t x = x) (hx : x.isRef = true) : own_E p l e R s m args below meth c h [] 0 0 pc Ls (x :: rest) (own_P s below h (some x)) := fun T X eT => by
  subst hrt
  obtain ⟨fs, hr, hrun, hended, hW, hsame⟩ := X.leave (v := some x) (fun q => by rw [K.2.2.2.2.1] at q; cases q) K.2.2.2.2.2.1
  exact ⟨_, retOut X K.1 K.2.2.2.2.1 hn (Or.inr (Or.inr (Or.inr (Or.inr ⟨rfl, ht, hx⟩)))) (hb K.2.2.2.1 hd) hr, hrun, hended, eT, ⟨_, rfl⟩, hW, hsame⟩
theorem own_retAH {vm : Vm} {Q : Option Value → Heap → List Loc → Prop} (K : own_C p (s.setVm vm) m meth c Z bytes own rt ml) (hEL : EW Z a0 EL) (V : own_V s Z EL vm h) {t : FieldType} (hrt : rt = some t) {x : Value} (hd : decode bytes pc = .ok (.areturn, 1)) (ht : t.isReference = true) (hn : narrow t x = x) (hx : x.isRef = true) (hc : cells ≤ R.cells) (hl : slots ≤ R.slots) (hQ : Q (some x) h locs) :
    own_E p l e R (s.setVm vm) m args below meth c h locs cells slots pc Ls (x :: rest) (own_O s below Z EL R Q) := fun T X eT => by
  subst hrt
  obtain ⟨⟨k, hS, hk⟩, hC⟩ := V
  obtain ⟨fs, hr, hrun, hended, hW⟩ := X.leaveW hS (by rw [eT]; exact hk) (v := some x) (fun q => by rw [K.2.2.2.2.1] at q; cases q) K.2.2.2.2.2.1
  exact ⟨_, retOut X K.1 K.2.2.2.2.1 hn (Or.inr (Or.inr (Or.inr (Or.inr ⟨rfl, ht, hx⟩)))) (hb K.2.2.2.1 hd) hr, hrun, _, _, hended, by show Q _ T.heap _; rw [eT]; exact hQ, by show CHr _ _ _ _ T.vm T.heap; rw [eT]; exact hC.trans (CHv.at X K.2.1 hEL hC.1), hW.1, hW.2.1, hW.2.2.1, hW.2.2.2.mono hc hl⟩
theorem own_retV (K : own_C p s m meth c Z bytes own none ml) (hd : decode bytes pc = .ok (.return_, 1)) : own_E p l e R s m args below meth c h [] 0 0 pc Ls [] (own_P s below h none) := fun T X eT => by
  obtain ⟨fs, hr, hrun, hended, hW, hsame⟩ := X.leave (v := none) (fun _ => rfl) K.2.2.2.2.2.1
  exact ⟨_, X.returnOut K.1 K.2.2.2.2.1 (hb K.2.2.2.1 hd) hr, hrun, hended, eT, ⟨_, rfl⟩, hW, hsame⟩
theorem own_retVH {vm : Vm} {Q : Option Value → Heap → List Loc → Prop} (K : own_C p (s.setVm vm) m meth c Z bytes own none ml) (hEL : EW Z a0 EL) (V : own_V s Z EL vm h) (hd : decode bytes pc = .ok (.return_, 1)) (hc : cells ≤ R.cells) (hl : slots ≤ R.slots) (hQ : Q none h locs) :
    own_E p l e R (s.setVm vm) m args below meth c h locs cells slots pc Ls [] (own_O s below Z EL R Q) := fun T X eT => by
  obtain ⟨⟨k, hS, hk⟩, hC⟩ := V
  obtain ⟨fs, hr, hrun, hended, hW⟩ := X.leaveW hS (by rw [eT]; exact hk) (v := none) (fun _ => rfl) K.2.2.2.2.2.1
  exact ⟨_, X.returnOut K.1 K.2.2.2.2.1 (hb K.2.2.2.1 hd) hr, hrun, _, _, hended, by show Q _ T.heap _; rw [eT]; exact hQ, by show CHr _ _ _ _ T.vm T.heap; rw [eT]; exact hC.trans (CHv.at X K.2.1 hEL hC.1), hW.1, hW.2.1, hW.2.2.1, hW.2.2.2.mono hc hl⟩
theorem own_callS (K : own_C p S m meth c Z bytes own rt ml) {i : Nat} {y : MethodName} {bs : ByteArray} {mx W : Nat} {rm : Room} {ry : Option FieldType} {argsL : List Value} {u : Value} (hrc : rm.cells = 0) (hrs : rm.slots = 0)
    (M : own_M l y bs mx ry [] rm Z h argsL.toArray (some u))
    (w1 : (Jvm.Cond.methodLink own i y).before a0 Z = true) (w2 : (Jvm.Cond.static y).before a0 Z = true) (w3 : (Jvm.Cond.initialized y.cls).before a0 Z = true) (w4 : (Jvm.Cond.code y bs mx ry).before a0 Z = true)
    (hy : y.cls ≠ "java/lang/invoke/MethodHandle" ∧ y.cls ≠ "java/lang/invoke/VarHandle") (hd : decode bytes pc = .ok (.invokestatic i, 3)) {ps : List FieldType} {ro : Option FieldType} (hdesc : parseMethodDescriptor y.desc = some ⟨ps, ro⟩) (hlen : argsL.length = ps.length)
    (hs : stk = argsL.reverse ++ rest) (hsz : Ls.size = ml) (hW : (rest.map fun v => v.category).sum ≤ W) (hf : rm.frames + 1 ≤ R.frames) (hl : W + (mx + 11) + rm.locals ≤ R.locals)
    (hc : cells ≤ R.cells) (hl2 : slots ≤ R.slots) (r : own_E p l e R S m args below meth c h locs cells slots (pc + 3) Ls (u :: rest) G) : own_E p l e R S m args below meth c h locs cells slots pc Ls stk G := fun T X eT => by
  obtain ⟨_, _, ⟨T1, L1, k1, n1⟩, -, X1, ⟨Lc, hQ, l1, y1, z1⟩, st⟩ := Jvm.LawKit.callS X K.1 (y := y) K.2.2.1 (mvT K.2.1 w1) (mvT K.2.1 w2) (mvT K.2.1 w3) (mvT K.2.1 w4) hy (backOf (W := W) (rm := rm) (Q := fun v' g L => v' = (some u) ∧ L = [] ∧ g = h) M K.2.1 w4 w3 hf hl) (g := mkF m pc Ls stk) rfl (by rw [K.2.2.2.2.2.2]; exact hsz) (argsL := argsL) (rest := rest) (lenOf hdesc hlen) hs (by show 2 * 0 + _ ≤ _; omega) (hb K.2.2.2.1 hd) (fun _ _ => ⟨rfl, eT, by rw [hrc]; exact hc, by rw [hrs]; exact hl2⟩)
  dsimp only [Pt.U, Pt.locs, Pt.cells, Pt.slots] at X1 l1 y1 z1 st hQ
  obtain ⟨rfl, rfl, e1⟩ := hQ
  rw [List.append_nil] at l1
  rw [hrc, Nat.add_zero] at y1
  rw [hrs, Nat.add_zero] at z1
  subst l1 y1 z1
  obtain ⟨s₂, st', q⟩ := r T1 X1 e1
  exact ⟨s₂, st _ st', q⟩
theorem own_callSv (K : own_C p S m meth c Z bytes own rt ml) {i : Nat} {y : MethodName} {bs : ByteArray} {mx W : Nat} {rm : Room} {ry : Option FieldType} {argsL : List Value} (hrc : rm.cells = 0) (hrs : rm.slots = 0)
    (M : own_M l y bs mx ry [] rm Z h argsL.toArray none)
    (w1 : (Jvm.Cond.methodLink own i y).before a0 Z = true) (w2 : (Jvm.Cond.static y).before a0 Z = true) (w3 : (Jvm.Cond.initialized y.cls).before a0 Z = true) (w4 : (Jvm.Cond.code y bs mx ry).before a0 Z = true)
    (hy : y.cls ≠ "java/lang/invoke/MethodHandle" ∧ y.cls ≠ "java/lang/invoke/VarHandle") (hd : decode bytes pc = .ok (.invokestatic i, 3)) {ps : List FieldType} {ro : Option FieldType} (hdesc : parseMethodDescriptor y.desc = some ⟨ps, ro⟩) (hlen : argsL.length = ps.length)
    (hs : stk = argsL.reverse ++ rest) (hsz : Ls.size = ml) (hW : (rest.map fun v => v.category).sum ≤ W) (hf : rm.frames + 1 ≤ R.frames) (hl : W + (mx + 11) + rm.locals ≤ R.locals)
    (hc : cells ≤ R.cells) (hl2 : slots ≤ R.slots) (r : own_E p l e R S m args below meth c h locs cells slots (pc + 3) Ls rest G) : own_E p l e R S m args below meth c h locs cells slots pc Ls stk G := fun T X eT => by
  obtain ⟨_, _, ⟨T1, L1, k1, n1⟩, -, X1, ⟨Lc, hQ, l1, y1, z1⟩, st⟩ := Jvm.LawKit.callS X K.1 (y := y) K.2.2.1 (mvT K.2.1 w1) (mvT K.2.1 w2) (mvT K.2.1 w3) (mvT K.2.1 w4) hy (backOf (W := W) (rm := rm) (Q := fun v' g L => v' = none ∧ L = [] ∧ g = h) M K.2.1 w4 w3 hf hl) (g := mkF m pc Ls stk) rfl (by rw [K.2.2.2.2.2.2]; exact hsz) (argsL := argsL) (rest := rest) (lenOf hdesc hlen) hs (by show 2 * 0 + _ ≤ _; omega) (hb K.2.2.2.1 hd) (fun _ _ => ⟨rfl, eT, by rw [hrc]; exact hc, by rw [hrs]; exact hl2⟩)
  dsimp only [Pt.U, Pt.locs, Pt.cells, Pt.slots] at X1 l1 y1 z1 st hQ
  obtain ⟨rfl, rfl, e1⟩ := hQ
  rw [List.append_nil] at l1
  rw [hrc, Nat.add_zero] at y1
  rw [hrs, Nat.add_zero] at z1
  subst l1 y1 z1
  obtain ⟨s₂, st', q⟩ := r T1 X1 e1
  exact ⟨s₂, st _ st', q⟩
theorem own_callV (K : own_C p S m meth c Z bytes own rt ml) {i : Nat} {y : MethodName} {bs : ByteArray} {mx W : Nat} {rm : Room} {ry : Option FieldType} {argsL : List Value} {u : Value} {a : Addr} {D : String} (hrc : rm.cells = 0) (hrs : rm.slots = 0)
    (M : own_M l y bs mx ry [] rm Z h (.ref a :: argsL).toArray (some u)) (E : Exa Z h a D)
    (w1 : (Jvm.Cond.methodLink own i y).before a0 Z = true) (w2 : (Jvm.Cond.declares y).before a0 Z = true) (w3 : (Jvm.Cond.selects D y y).before a0 Z = true) (w4 : (Jvm.Cond.instanceMethod y).before a0 Z = true) (w5 : (Jvm.Cond.code y bs mx ry).before a0 Z = true) (w6 : (Jvm.Cond.initialized y.cls).before a0 Z = true)
    (hy : y.cls ≠ "java/lang/invoke/MethodHandle" ∧ y.cls ≠ "java/lang/invoke/VarHandle") (hd : decode bytes pc = .ok (.invokevirtual i, 3)) {ps : List FieldType} {ro : Option FieldType} (hdesc : parseMethodDescriptor y.desc = some ⟨ps, ro⟩) (hlen : argsL.length = ps.length)
    (hs : stk = argsL.reverse ++ .ref a :: rest) (hsz : Ls.size = ml) (hW : (rest.map fun v => v.category).sum ≤ W) (hf : rm.frames + 1 ≤ R.frames) (hl : W + (mx + 11) + rm.locals ≤ R.locals)
    (hc : cells ≤ R.cells) (hl2 : slots ≤ R.slots) (r : own_E p l e R S m args below meth c h locs cells slots (pc + 3) Ls (u :: rest) G) : own_E p l e R S m args below meth c h locs cells slots pc Ls stk G := fun T X eT => by
  obtain ⟨cq, kq, qa, qb, qc⟩ := isOf (T := T) K.2.1 eT E
  obtain ⟨_, _, ⟨T1, L1, k1, n1⟩, -, X1, ⟨Lc, hQ, l1, y1, z1⟩, st⟩ := X.virtualBack K.1 (y := y) (z := y) K.2.2.1 (mvT K.2.1 w1) (mvT K.2.1 w2) (notFace_of_selects (args := #[]) (mvT K.2.1 w3)) (mvT K.2.1 w3) (mvT K.2.1 w4) hy (backOf (W := W) (rm := rm) (Q := fun v' g L => v' = some u ∧ L = [] ∧ g = h) M K.2.1 w5 w6 hf hl) qa qc (g := mkF m pc Ls stk) rfl (by rw [K.2.2.2.2.2.2]; exact hsz) (Steps.refl _) (argsL := argsL) (rest := rest) (lenOf hdesc hlen) hs (by show 2 * 0 + _ ≤ _; omega) (hb K.2.2.2.1 hd) (fun _ _ => ⟨rfl, eT, by rw [hrc]; exact hc, by rw [hrs]; exact hl2⟩)
  dsimp only [Pt.U, Pt.locs, Pt.cells, Pt.slots] at X1 l1 y1 z1 st hQ
  obtain ⟨rfl, rfl, e1⟩ := hQ
  rw [List.append_nil] at l1
  rw [hrc, Nat.add_zero] at y1
  rw [hrs, Nat.add_zero] at z1
  subst l1 y1 z1
  obtain ⟨s₂, st', q⟩ := r T1 X1 e1
  exact ⟨s₂, st.trans st', q⟩
/-- ldc of a String constant of EL -/
theorem own_ldcS {vm : Vm} (K : own_C p (s.setVm vm) m meth c Z bytes own rt ml) (hEL : EW Z a0 EL) (V : own_V s Z EL vm h) {i n : Nat} {text : String} (hm : (own, i) ∈ EL) (w : (Jvm.Cond.stringLink own i text).before a0 Z = true) (wS : ∀ a ∈ Bundle.stringAtoms, a.before a0 Z = true)
    {vs : List Value} {z : Int32} (ht : (∀ c ∈ text.toList, c.toNat < 256) ∧ text.toList.map (fun c => Value.int (Jvm.Lit.byteI c.toNat.toUInt16)) = vs) (hz : ¬ z < 0) (hzl : z.toNatClampNeg = vs.length) (hd : decode bytes pc = .ok (.ldc i, 2)) (hn : 4 * text.toList.length ≤ n) (hbig : n ≤ 536870912) (hc : cells + 2 ≤ R.cells) (hl : slots + (n + 4) ≤ R.slots)
    (r : ∀ (vm' : Vm) (h' : Heap) (a b : Addr) (k : ClassId), own_C p (s.setVm vm') m meth c Z bytes own rt ml → own_V s Z EL vm' h' → CHr Z EL vm h vm' h' → Ext h h' → Exa Z h' a "java/lang/String" → Fld Z h' a "java/lang/String" "coder" "B" (.int 0) → Fld Z h' a "java/lang/String" "value" "[B" (.ref b) → Arv Z h' b k .byte z vs (.int 0) → (∀ x, Safe Z EL vm' h' x → x ≠ a ∧ x ≠ b) →
      own_E p l e R (s.setVm vm') m args below meth c h' locs (cells + 2) (slots + (n + 4)) (pc + 2) Ls (.ref a :: stk) G) :
    own_E p l e R (s.setVm vm) m args below meth c h locs cells slots pc Ls stk G := fun T X eT => by
  obtain ⟨⟨k0, hS, hk⟩, hC⟩ := V
  obtain ⟨a, T', h', k1, b, k, X', e', E', hS', hk', hZ', hf', F1, F2, F3, F4, -, -, hC', -, F5, st⟩ := ldcCH X K.1 K.2.1 K.2.2.1 w wS eT hS hk hEL hm hC.1 ht hz hzl (g := mkF m pc Ls stk) rfl (hb K.2.2.2.1 hd) hn hbig hc hl
  obtain ⟨s₂, st', q⟩ := r T'.vm h' a b k ⟨K.1, hZ', hf', K.2.2.2.1, K.2.2.2.2.1, K.2.2.2.2.2.1, K.2.2.2.2.2.2⟩ ⟨⟨k1, hS', hk'⟩, hC.trans hC'⟩ hC' E' F1 F2 F3 F4 F5 T' X' e'
  exact ⟨s₂, st _ st', q⟩
/-- a static method that may load constants -/
theorem own_callSH {vm : Vm} (K : own_C p (s.setVm vm) m meth c Z bytes own rt ml) (hEL : EW Z a0 EL) (V : own_V s Z EL vm h) {i : Nat} {y : MethodName} {bs : ByteArray} {mx W : Nat} {rm : Room} {ry : Option FieldType} {argsL : List Value} {Q : Option Value → Heap → List Loc → Prop}
    (M : own_H l y bs mx ry [] rm Z EL h argsL.toArray Q)
    (w1 : (Jvm.Cond.methodLink own i y).before a0 Z = true) (w2 : (Jvm.Cond.static y).before a0 Z = true) (w3 : (Jvm.Cond.initialized y.cls).before a0 Z = true) (w4 : (Jvm.Cond.code y bs mx ry).before a0 Z = true)
    (hy : y.cls ≠ "java/lang/invoke/MethodHandle" ∧ y.cls ≠ "java/lang/invoke/VarHandle") (hd : decode bytes pc = .ok (.invokestatic i, 3)) {ps : List FieldType} {ro : Option FieldType} (hdesc : parseMethodDescriptor y.desc = some ⟨ps, ro⟩) (hlen : argsL.length = ps.length)
    (hs : stk = argsL.reverse ++ rest) (hsz : Ls.size = ml) (hW : (rest.map fun v => v.category).sum ≤ W) (hf : rm.frames + 1 ≤ R.frames) (hl : W + (mx + 11) + rm.locals ≤ R.locals)
    (hc : cells + rm.cells ≤ R.cells) (hl2 : slots + rm.slots ≤ R.slots)
    (r : ∀ (vm' : Vm) (h' : Heap) (u : Option Value) (L : List Loc), Q u h' L → own_C p (s.setVm vm') m meth c Z bytes own rt ml → own_V s Z EL vm' h' → CHr Z EL vm h vm' h' → own_E p l e R (s.setVm vm') m args below meth c h' (locs ++ L) (cells + rm.cells) (slots + rm.slots) (pc + 3) Ls (u.toList ++ rest) G) :
    own_E p l e R (s.setVm vm) m args below meth c h locs cells slots pc Ls stk G := fun T X eT => by
  obtain ⟨⟨k0, hS, hk⟩, hC⟩ := V
  obtain ⟨u, _, ⟨T1, L1, k1, n1⟩, -, X1, hS1, hg1, ⟨Lc, hQ, l1, y1, z1, hC1⟩, st⟩ := callSS X K.1 (y := y) K.2.2.1 (mvT K.2.1 w1) (mvT K.2.1 w2) (mvT K.2.1 w3) (mvT K.2.1 w4) hy (backOfSH (W := W) (rm := rm) (Q := Q) M K.2.1 w4 w3 hf hl hEL hC.1) (g := mkF m pc Ls stk) rfl (by rw [K.2.2.2.2.2.2]; exact hsz) (argsL := argsL) (rest := rest) (lenOf hdesc hlen) hs (by show 2 * 0 + _ ≤ _; omega) (hb K.2.2.2.1 hd) (fun _ _ => ⟨rfl, eT, hc, hl2⟩)
  dsimp only [Pt.U, Pt.locs, Pt.cells, Pt.slots] at X1 l1 y1 z1 st hQ hS1 hg1 hC1
  subst l1 y1 z1
  rw [eT] at hg1
  obtain ⟨Y1, hS2, hZ2, hf2⟩ := rebS hS hk X1 hS1 hg1 K.2.1 K.2.2.1
  obtain ⟨s₂, st', q⟩ := r T1.vm T1.heap u Lc hQ ⟨K.1, hZ2, hf2, K.2.2.2.1, K.2.2.2.2.1, K.2.2.2.2.2.1, K.2.2.2.2.2.2⟩ ⟨⟨_, hS2, Nat.le_refl _⟩, hC.trans hC1⟩ hC1 T1 Y1 rfl
  exact ⟨s₂, st.trans st', q⟩
/-- a constructor that may load constants -/
theorem own_initH {vm : Vm} (K : own_C p (s.setVm vm) m meth c Z bytes own rt ml) (hEL : EW Z a0 EL) (V : own_V s Z EL vm h) {i : Nat} {y : MethodName} {bs : ByteArray} {mx W : Nat} {rm : Room} {argsL : List Value} {a : Addr} {Q : Option Value → Heap → List Loc → Prop} (hin : y.name = "<init>")
    (M : own_H l y bs mx none [] rm Z EL h (.ref a :: argsL).toArray Q)
    (w1 : (Jvm.Cond.methodLink own i y).before a0 Z = true) (w2 : (Jvm.Cond.instanceMethod y).before a0 Z = true) (w3 : (Jvm.Cond.initialized y.cls).before a0 Z = true) (w4 : (Jvm.Cond.code y bs mx none).before a0 Z = true)
    (hy : y.cls ≠ "java/lang/invoke/MethodHandle" ∧ y.cls ≠ "java/lang/invoke/VarHandle") (hd : decode bytes pc = .ok (.invokespecial i, 3)) {ps : List FieldType} {ro : Option FieldType} (hdesc : parseMethodDescriptor y.desc = some ⟨ps, ro⟩) (hlen : argsL.length = ps.length)
    (hs : stk = argsL.reverse ++ .ref a :: rest) (hsz : Ls.size = ml) (hW : (rest.map fun v => v.category).sum ≤ W) (hf : rm.frames + 1 ≤ R.frames) (hl : W + (mx + 11) + rm.locals ≤ R.locals)
    (hc : cells + rm.cells ≤ R.cells) (hl2 : slots + rm.slots ≤ R.slots)
    (r : ∀ (vm' : Vm) (h' : Heap) (u : Option Value) (L : List Loc), Q u h' L → own_C p (s.setVm vm') m meth c Z bytes own rt ml → own_V s Z EL vm' h' → CHr Z EL vm h vm' h' → own_E p l e R (s.setVm vm') m args below meth c h' (locs ++ L) (cells + rm.cells) (slots + rm.slots) (pc + 3) Ls (u.toList ++ rest) G) :
    own_E p l e R (s.setVm vm) m args below meth c h locs cells slots pc Ls stk G := fun T X eT => by
  obtain ⟨⟨k0, hS, hk⟩, hC⟩ := V
  obtain ⟨u, _, ⟨T1, L1, k1, n1⟩, -, X1, hS1, hg1, ⟨Lc, hQ, l1, y1, z1, hC1⟩, st⟩ := X.specialBackS K.1 (y := y) hin K.2.2.1 (mvT K.2.1 w1) (mvT K.2.1 w2) (mvT K.2.1 w4) hy (backOfSH (W := W) (rm := rm) (Q := Q) M K.2.1 w4 w3 hf hl hEL hC.1) (g := mkF m pc Ls stk) rfl (by rw [K.2.2.2.2.2.2]; exact hsz) (Steps.refl _) (a := a) (argsL := argsL) (rest := rest) (lenOf hdesc hlen) hs (by show 2 * 0 + _ ≤ _; omega) (hb K.2.2.2.1 hd) (fun _ _ => ⟨rfl, eT, hc, hl2⟩)
  dsimp only [Pt.U, Pt.locs, Pt.cells, Pt.slots] at X1 l1 y1 z1 st hQ hS1 hg1 hC1
  subst l1 y1 z1
  rw [eT] at hg1
  obtain ⟨Y1, hS2, hZ2, hf2⟩ := rebS hS hk X1 hS1 hg1 K.2.1 K.2.2.1
  obtain ⟨s₂, st', q⟩ := r T1.vm T1.heap u Lc hQ ⟨K.1, hZ2, hf2, K.2.2.2.1, K.2.2.2.2.1, K.2.2.2.2.2.1, K.2.2.2.2.2.2⟩ ⟨⟨_, hS2, Nat.le_refl _⟩, hC.trans hC1⟩ hC1 T1 Y1 rfl
  exact ⟨s₂, st.trans st', q⟩
/-- new, newarray, a char stored, a field stored, Object's constructor -/
theorem own_new (K : own_C p S m meth c Z bytes own rt ml) {i n : Nat} {C : String} (w1 : (Jvm.Cond.classLink own i C).before a0 Z = true) (w2 : (Jvm.Cond.instantiable C n).before a0 Z = true) (w3 : (Jvm.Cond.initialized C).before a0 Z = true) (hd : decode bytes pc = .ok (.new i, 3)) (hc : cells + 1 ≤ R.cells) (hl : slots + n ≤ R.slots)
    (r : ∀ h' : Heap, Ext h h' → Exa Z h' h.size C → (∀ {O f d : String} {ty : FieldType}, Laid Z a0 C O f d → parseFieldDescriptor d = some ty → Fld Z h' h.size O f d (defaultValue ty)) → own_E p l e R S m args below meth c h' locs (cells + 1) (slots + n) (pc + 3) Ls (.ref h.size :: stk) G) :
    own_E p l e R S m args below meth c h locs cells slots pc Ls stk G := fun T X eT => by
  obtain ⟨T', h', X', e', E', A', D', -, st⟩ := newO X K.1 K.2.1 K.2.2.1 w1 w2 w3 eT (g := mkF m pc Ls stk) rfl (hb K.2.2.2.1 hd) hc hl
  obtain ⟨s₂, st', q⟩ := r h' E' A' D' T' X' e'
  exact ⟨s₂, st _ st', q⟩
theorem own_newC (K : own_C p S m meth c Z bytes own rt ml) {n : Int32} {cap : Nat} (w : (Jvm.Cond.arrayClass .char).before a0 Z = true) (hd : decode bytes pc = .ok (.newarray .char, 2)) (hn : ¬ n < 0) (hcap : n.toNatClampNeg ≤ cap) (hbig : cap * 8 ≤ 536870912) (hc : cells + 1 ≤ R.cells) (hl : slots + cap ≤ R.slots)
    (r : ∀ (h' : Heap) (k : ClassId), Ext h h' → Arv Z h' h.size k .char n [] (.int 0) → own_E p l e R S m args below meth c h' locs (cells + 1) (slots + cap) (pc + 2) Ls (.ref h.size :: rest) G) :
    own_E p l e R S m args below meth c h locs cells slots pc Ls (.int n :: rest) G := fun T X eT => by
  obtain ⟨T', h', k, X', e', E', A', st⟩ := newP (aty := .char) X K.1 K.2.1 w eT (g := mkF m pc Ls (.int n :: rest)) rfl (hb K.2.2.2.1 hd) rfl hn hcap hbig hc hl
  obtain ⟨s₂, st', q⟩ := r h' k E' (Arv.new A' hn) T' X' e'
  exact ⟨s₂, st _ st', q⟩
theorem own_castore (K : own_C p S m meth c Z bytes own rt ml) {a : Addr} {k : ClassId} {z j x : Int32} {vs : List Value} {dv : Value} (A : Arv Z h a k .char z vs dv) (hj : ¬ j < 0) (hz : j < z) (hv : j.toNatClampNeg < vs.length) (hd : decode bytes pc = .ok (.castore, 1))
    (r : ∀ h' : Heap, Wr h h' a j.toNatClampNeg (.int (nar .char x)) → Arv Z h' a k .char z (vs.set j.toNatClampNeg (.int (nar .char x))) dv → own_E p l e R S m args below meth c h' (locs ++ [⟨a, j.toNatClampNeg⟩]) cells slots (pc + 1) Ls rest G) :
    own_E p l e R S m args below meth c h locs cells slots pc Ls (.int x :: .int j :: .ref a :: rest) G := fun T X eT => by
  obtain ⟨cl, A1, q1, S1, M1, H1, U1⟩ := A
  obtain ⟨T', h', X', e', W', st⟩ := stC X K.1 K.2.1 eT A1 (j := j) (inb_of S1 ⟨hj, hz⟩) (g := mkF m pc Ls (.int x :: .int j :: .ref a :: rest)) rfl rfl (hb K.2.2.2.1 hd)
  obtain ⟨s₂, st', q⟩ := r h' W' (Arv.set A1 q1 S1 M1 H1 U1 (fits_nar_char _) W' _ rfl hv) T' X' e'
  exact ⟨s₂, st _ st', q⟩
theorem own_putF (K : own_C p S m meth c Z bytes own rt ml) (hnm : meth.name = "<init>") {f d C : String} {i kk : Nat} {ty : FieldType} {v old : Value} {a : Addr} (w : (Jvm.Cond.fieldLink own i own f d).before a0 Z = true) (F : Fld Z h a own f d old) (E : Exa Z h a C) (wl : (Jvm.Cond.laysFinal C own f d).before a0 Z = true) (wi : (Jvm.Cond.instantiable C kk).before a0 Z = true)
    (hty : parseFieldDescriptor d = some ty) (hn : narrow ty v = v) (hf : fits ty v = true) (hd : decode bytes pc = .ok (.putfield i, 3))
    (r : ∀ h' : Heap, Wr h h' a (Jvm.RoadKit.slotOf Z own f d) v → own_E p l e R S m args below meth c h' (locs ++ [⟨a, Jvm.RoadKit.slotOf Z own f d⟩]) cells slots (pc + 3) Ls rest G) :
    own_E p l e R S m args below meth c h locs cells slots pc Ls (v :: .ref a :: rest) G := fun T X eT => by
  obtain ⟨T', h', X', e', W', st⟩ := putF X K.1 K.2.1 K.2.2.1 (host := "") (Or.inl w) Via.refl eT F E (Or.inr ⟨wl, rfl, hnm⟩) wi hty hn hf (g := mkF m pc Ls (v :: .ref a :: rest)) rfl rfl (hb K.2.2.2.1 hd)
  obtain ⟨s₂, st', q⟩ := r h' W' T' X' e'
  exact ⟨s₂, st _ st', q⟩
theorem own_initO (K : own_C p S m meth c Z bytes own rt ml) {i W : Nat} {a : Addr} (w1 : (Jvm.Cond.methodLink own i Lib.objectInit).before a0 Z = true) (w2 : (Jvm.Cond.instanceMethod Lib.objectInit).before a0 Z = true) (w3 : (Jvm.Cond.code Lib.objectInit object_method_1_code 1 none).before a0 Z = true) (hd : decode bytes pc = .ok (.invokespecial i, 3)) (hsz : Ls.size = ml) (hf : 1 ≤ R.frames) (hW : (rest.map fun v => v.category).sum ≤ W) (hl : W + 12 ≤ R.locals)
    (r : own_E p l e R S m args below meth c h locs cells slots (pc + 3) Ls rest G) : own_E p l e R S m args below meth c h locs cells slots pc Ls (.ref a :: rest) G := fun T X eT => by
  obtain ⟨T', X', e', st⟩ := initO X K.1 K.2.1 K.2.2.1 w1 w2 w3 eT (g := mkF m pc Ls (.ref a :: rest)) rfl (by rw [K.2.2.2.2.2.2]; exact hsz) rfl (hb K.2.2.2.1 hd) hf (W := W) (by show 2 * 0 + _ ≤ _; omega) hl
  obtain ⟨s₂, st', q⟩ := r T' X' e'
  exact ⟨s₂, st _ st', q⟩
end Own
section OwnW
variable {p : Program} {l : Launch} {e : Env} {R : Room} {s S : State} {m : MethodId} {args : Array Value} {below : List Frame} {meth : Method} {c : Code} {Z : State} {a0 : Array Value} {EL : List (String × Nat)} {h : Heap} {locs : List Loc} {cells slots : Nat} {bytes : ByteArray} {own : String} {rt : Option FieldType} {ml : Nat} {pc : Nat} {Ls : Array Slot} {stk rest : List Value} {G : State → Prop}
/-- the end of a body that may write -/
def own_PW (s : State) (below : List Frame) (R : Room) (Q : Option Value → Heap → List Loc → Prop) (s₂ : State) : Prop := s₂.status = .running ∧ ∃ v L, Ended s₂ below (.returned v) ∧ Q v s₂.heap L ∧ FrameEnd s (.returned v) s₂ L R.cells R.slots
def own_W (l : Launch) (y : MethodName) (bytes : ByteArray) (ml : Nat) (rt : Option FieldType) (ws : List Jvm.Cond) (rm : Room) (Z : State) (h : Heap) (as : Array Value) (Q : Option Value → Heap → List Loc → Prop) : Prop :=
  MetFree l y (head1 (Jvm.Cond.code y bytes ml rt :: ws) rm) (fun a U => a = as ∧ Z.Warmed39 U.vm ∧ U.heap = h) (fun _ _ _ _ _ => True) (fun _ U o U' => ∃ v L, o = .returned v ∧ Q v U'.heap L ∧ FrameEnd U o U' L rm.cells rm.slots)
theorem own_metW {l : Launch} {y : MethodName} {bytes : ByteArray} {ml : Nat} {rt : Option FieldType} {ws : List Jvm.Cond} {rm : Room} {Z : State} {h : Heap} {as : Array Value} {Q : Option Value → Heap → List Loc → Prop} {Ls : Array Slot} (hp : plainFor y = true)
    (hef : ∀ m, entryFrame m as ml = mkF m 0 Ls [])
    (body : ∀ (p : Program) (e : Env) (s : State) (m : MethodId) (below : List Frame) (meth : Method) (c : Code), meth.name = y.name → own_C p s m meth c Z bytes y.cls rt ml → own_E p l e rm s m as below meth c h [] 0 0 0 Ls [] (own_PW s below rm Q)) :
    own_W l y bytes ml rt ws rm Z h as Q := by
  refine MetFree.of_bodySF hp hisR ?_
  intro p e s m args below meth c s₁ Bd hml0 hP hK
  obtain ⟨rfl, hZ, hh⟩ := hP
  have X0 : Stand p l e rm s m args below meth c s₁ [] 0 0 := Stand.of_body Bd
  have e0 : s₁.heap = h := by rw [← hh, Bd.state]; rfl
  obtain ⟨s₂, q1, q2, v, L, q3, q4, q5⟩ := body p e s m below meth c (name_of_methodNamed Bd.named Bd.method).1 ⟨Bd.exec, hZ, findClass_of_methodNamed Bd.named, Bd.bytes, Bd.returns, Bd.notSynchronized, hml0⟩ s₁ X0 e0
  exact ⟨s₂, _, castTop (hef m) q1, q2, q3, _, _, rfl, q4, q5⟩
theorem own_retIW {Q : Option Value → Heap → List Loc → Prop} (K : own_C p s m meth c Z bytes own (some .int) ml) {x : Int32} (hd : decode bytes pc = .ok (.ireturn, 1)) (hc : cells ≤ R.cells) (hl : slots ≤ R.slots) (hQ : Q (some (.int x)) h locs) :
    own_E p l e R s m args below meth c h locs cells slots pc Ls (.int x :: rest) (own_PW s below R Q) := fun T X eT => by
  obtain ⟨fs, hr, hrun, hended, hW, hsame⟩ := X.leave (v := some (.int x)) (fun q => by rw [K.2.2.2.2.1] at q; cases q) K.2.2.2.2.2.1
  exact ⟨_, retOut X K.1 K.2.2.2.2.1 rfl (Or.inl ⟨rfl, Or.inl rfl, _, rfl⟩) (hb K.2.2.2.1 hd) hr, hrun, _, _, hended, by show Q _ T.heap _; rw [eT]; exact hQ, ⟨_, rfl⟩, hW, hsame.mono hc hl⟩
theorem own_retAW {Q : Option Value → Heap → List Loc → Prop} (K : own_C p s m meth c Z bytes own rt ml) {t : FieldType} (hrt : rt = some t) {x : Value} (hd : decode bytes pc = .ok (.areturn, 1)) (ht : t.isReference = true) (hn : narrow t x = x) (hx : x.isRef = true) (hc : cells ≤ R.cells) (hl : slots ≤ R.slots) (hQ : Q (some x) h locs) :
    own_E p l e R s m args below meth c h locs cells slots pc Ls (x :: rest) (own_PW s below R Q) := fun T X eT => by
  subst hrt
  obtain ⟨fs, hr, hrun, hended, hW, hsame⟩ := X.leave (v := some x) (fun q => by rw [K.2.2.2.2.1] at q; cases q) K.2.2.2.2.2.1
  exact ⟨_, retOut X K.1 K.2.2.2.2.1 hn (Or.inr (Or.inr (Or.inr (Or.inr ⟨rfl, ht, hx⟩)))) (hb K.2.2.2.1 hd) hr, hrun, _, _, hended, by show Q _ T.heap _; rw [eT]; exact hQ, ⟨_, rfl⟩, hW, hsame.mono hc hl⟩
theorem own_retVW {Q : Option Value → Heap → List Loc → Prop} (K : own_C p s m meth c Z bytes own none ml) (hd : decode bytes pc = .ok (.return_, 1)) (hc : cells ≤ R.cells) (hl : slots ≤ R.slots) (hQ : Q none h locs) :
    own_E p l e R s m args below meth c h locs cells slots pc Ls [] (own_PW s below R Q) := fun T X eT => by
  obtain ⟨fs, hr, hrun, hended, hW, hsame⟩ := X.leave (v := none) (fun _ => rfl) K.2.2.2.2.2.1
  exact ⟨_, X.returnOut K.1 K.2.2.2.2.1 (hb K.2.2.2.1 hd) hr, hrun, _, _, hended, by show Q _ T.heap _; rw [eT]; exact hQ, ⟨_, rfl⟩, hW, hsame.mono hc hl⟩
theorem own_lneg (K : own_C p S m meth c Z bytes own rt ml) {x : Int64} (hd : decode bytes pc = .ok (.lneg, 1))
    (r : own_E p l e R S m args below meth c h locs cells slots (pc + 1) Ls (.long (-x) :: rest) G) : own_E p l e R S m args below meth c h locs cells slots pc Ls (.long x :: rest) G := fun T X eT => by
  obtain ⟨s₂, st, q⟩ := r T X eT
  exact ⟨s₂, XS.lneg X.here K.1 rfl (hb K.2.2.2.1 hd) rfl st, q⟩
theorem own_ishl (K : own_C p S m meth c Z bytes own rt ml) {x y : Int32} (hd : decode bytes pc = .ok (.ishl, 1))
    (r : own_E p l e R S m args below meth c h locs cells slots (pc + 1) Ls (.int (x <<< (y &&& 31)) :: rest) G) : own_E p l e R S m args below meth c h locs cells slots pc Ls (.int y :: .int x :: rest) G := fun T X eT => by
  obtain ⟨s₂, st, q⟩ := r T X eT
  exact ⟨s₂, XS.ishl X.here K.1 rfl (hb K.2.2.2.1 hd) rfl st, q⟩
theorem own_newB (K : own_C p S m meth c Z bytes own rt ml) {n : Int32} {cap : Nat} (w : (Jvm.Cond.arrayClass .byte).before a0 Z = true) (hd : decode bytes pc = .ok (.newarray .byte, 2)) (hn : ¬ n < 0) (hcap : n.toNatClampNeg ≤ cap) (hbig : cap * 8 ≤ 536870912) (hc : cells + 1 ≤ R.cells) (hl : slots + cap ≤ R.slots)
    (r : ∀ (h' : Heap) (k : ClassId), Ext h h' → Arv Z h' h.size k .byte n [] (.int 0) → Exa Z h' h.size "[B" → own_E p l e R S m args below meth c h' locs (cells + 1) (slots + cap) (pc + 2) Ls (.ref h.size :: rest) G) :
    own_E p l e R S m args below meth c h locs cells slots pc Ls (.int n :: rest) G := fun T X eT => by
  have hcb : componentBytes (newarray.typeOf .byte) ≤ 8 := by decide
  obtain ⟨cA, kA, comp, h1, h2, h3, X', st⟩ := X.newarrayPrim (atype := .byte) K.1 (mvA K.2.1 w) (g := mkF m pc Ls (.int n :: rest)) rfl (hb K.2.2.2.1 hd) rfl hn (Nat.le_trans (Nat.mul_le_mul hcap hcb) hbig) hc (by omega)
  subst eT
  rw [show "[" ++ (newarray.typeOf .byte).toString = "[B" from by decide, K.2.1.alike.findClass] at h1
  obtain ⟨kZ, z1, -⟩ := Vm.findClass_spec h1
  obtain ⟨k', z2, z3⟩ := K.2.1.alike.2.2 _ _ z1
  cases h2.symm.trans z2
  have hk : kZ.kind = .array comp .byte := by have h3' := h3; rw [z3] at h3'; exact h3'
  have hN : (T.heap.push (newA cA .byte n))[T.heap.size]? = some (newA cA .byte n) := by simp
  have hE : Ext T.heap (T.heap.push (newA cA .byte n)) := ⟨by simp, fun a c q => by rw [Array.getElem?_push_lt (Array.getElem?_eq_some_iff.mp q).1]; exact (Array.getElem?_eq_getElem _).symm.trans q⟩
  obtain ⟨s₂, st', q⟩ := r _ cA hE (Arv.new ⟨hN, ⟨by simp [newA], kZ, z1, comp, hk⟩, by simp [newA]⟩ hn) ⟨_, kZ, hN, h1, z1, rfl, fun ho => by rw [hk] at ho; cases ho⟩ _ (X'.more (Nat.le_refl _) (by omega)) rfl
  exact ⟨s₂, st _ st', q⟩
theorem own_putL (K : own_C p S m meth c Z bytes own rt ml) {O f d C : String} {i kk : Nat} {ty : FieldType} {v old : Value} {a : Addr} (w : (Jvm.Cond.fieldLink own i O f d).before a0 Z = true) (F : Fld Z h a O f d old) (E : Exa Z h a C) (wl : (Jvm.Cond.lays C O f d).before a0 Z = true) (wi : (Jvm.Cond.instantiable C kk).before a0 Z = true)
    (hty : parseFieldDescriptor d = some ty) (hn : narrow ty v = v) (hf : fits ty v = true) (hd : decode bytes pc = .ok (.putfield i, 3))
    (r : ∀ h' : Heap, Wr h h' a (Jvm.RoadKit.slotOf Z O f d) v → own_E p l e R S m args below meth c h' (locs ++ [⟨a, Jvm.RoadKit.slotOf Z O f d⟩]) cells slots (pc + 3) Ls rest G) :
    own_E p l e R S m args below meth c h locs cells slots pc Ls (v :: .ref a :: rest) G := fun T X eT => by
  obtain ⟨T', h', X', e', W', st⟩ := putF X K.1 K.2.1 K.2.2.1 (host := "") (Or.inl w) Via.refl eT F E (Or.inl wl) wi hty hn hf (g := mkF m pc Ls (v :: .ref a :: rest)) rfl rfl (hb K.2.2.2.1 hd)
  obtain ⟨s₂, st', q⟩ := r h' W' T' X' e'
  exact ⟨s₂, st _ st', q⟩
/-- System.arraycopy of bytes -/
theorem own_copy (K : own_C p S m meth c Z bytes own rt ml) {i W n0 : Nat} {a b : Addr} {k k' : ClassId} {z z' sp dp nn : Int32} {vs vd : List Value} {dv dd : Value} (N : Fr n0 locs) (ge : n0 ≤ b)
    (w1 : (Jvm.Cond.methodLink own i Jvm.Stand.acN).before a0 Z = true) (w2 : (Jvm.Cond.native Jvm.Stand.acN).before a0 Z = true) (w3 : (Jvm.Cond.static Jvm.Stand.acN).before a0 Z = true) (w4 : (Jvm.Cond.initialized "java/lang/System").before a0 Z = true)
    (A : Arv Z h a k .byte z vs dv) (B : Arv Z h b k' .byte z' vd dd) (h1 : ¬ sp < 0) (h2 : ¬ dp < 0) (h3 : ¬ nn < 0) (h4 : sp.toNatClampNeg + nn.toNatClampNeg ≤ z.toNatClampNeg) (h5 : dp.toNatClampNeg + nn.toNatClampNeg ≤ z'.toNatClampNeg) (hl : dp.toNatClampNeg + nn.toNatClampNeg ≤ vd.length)
    (hd : decode bytes pc = .ok (.invokestatic i, 3)) (hsz : Ls.size = ml) (hf : 1 ≤ R.frames) (hW : (rest.map fun v => v.category).sum ≤ W) (hlo : W + (nativeFrameWords "java/lang/System" "arraycopy" 5 + 11) ≤ R.locals)
    (r : ∀ (h' : Heap) (L : List Loc), Fr n0 L → Keep h h' [b] → Arv Z h' b k' .byte z' (vd.take dp.toNatClampNeg ++ (List.range nn.toNatClampNeg).map (fun i => vs.getD (sp.toNatClampNeg + i) dv) ++ vd.drop (dp.toNatClampNeg + nn.toNatClampNeg)) dd → own_E p l e R S m args below meth c h' L cells slots (pc + 3) Ls rest G) :
    own_E p l e R S m args below meth c h locs cells slots pc Ls (.int nn :: .int dp :: .ref b :: .int sp :: .ref a :: rest) G := fun T X eT => by
  obtain ⟨T', h', L, X', e', N', K', A', st⟩ := cpA X K.1 K.2.1 K.2.2.1 w1 w2 w3 w4 eT A B (Or.inl ⟨rfl, rfl⟩) h1 h2 h3 h4 h5 rfl hl N ge (g := mkF m pc Ls (.int nn :: .int dp :: .ref b :: .int sp :: .ref a :: rest)) rfl (by rw [K.2.2.2.2.2.2]; exact hsz) rfl (hb K.2.2.2.1 hd) hf (W := W) (by show 2 * 0 + _ ≤ _; omega) hlo
  obtain ⟨s₂, st', q⟩ := r h' L N' K' A' T' X' e'
  exact ⟨s₂, st _ st', q⟩
/-- a static method by any payer -/
theorem own_callSB (K : own_C p S m meth c Z bytes own rt ml) {i : Nat} {y : MethodName} {bs : ByteArray} {mx W : Nat} {ry : Option FieldType} {argsL : List Value} {Pre : Pt → Array Value → Prop} {Post : Pt → Array Value → Option Value → Pt → Prop} (hK : Back l R p e below S args y 3 W Pre Post)
    (w1 : (Jvm.Cond.methodLink own i y).before a0 Z = true) (w2 : (Jvm.Cond.static y).before a0 Z = true) (w3 : (Jvm.Cond.initialized y.cls).before a0 Z = true) (w4 : (Jvm.Cond.code y bs mx ry).before a0 Z = true)
    (hy : y.cls ≠ "java/lang/invoke/MethodHandle" ∧ y.cls ≠ "java/lang/invoke/VarHandle") (hd : decode bytes pc = .ok (.invokestatic i, 3)) {ps : List FieldType} {ro : Option FieldType} (hdesc : parseMethodDescriptor y.desc = some ⟨ps, ro⟩) (hlen : argsL.length = ps.length)
    (hs : stk = argsL.reverse ++ rest) (hsz : Ls.size = ml) (hW : (rest.map fun v => v.category).sum ≤ W)
    (hpre : ∀ U : State, Z.Warmed39 U.vm → U.heap = h → Pre ⟨U, locs, cells, slots⟩ argsL.toArray)
    (r : ∀ (U : State) (u : Option Value) (B : Pt), Z.Warmed39 U.vm → U.heap = h → Post ⟨U, locs, cells, slots⟩ argsL.toArray u B → own_E p l e R S m args below meth c B.U.heap B.locs B.cells B.slots (pc + 3) Ls (u.toList ++ rest) G) :
    own_E p l e R S m args below meth c h locs cells slots pc Ls stk G := fun T X eT => by
  obtain ⟨u, vm1, B, hw1, X1, hQ, st⟩ := Jvm.LawKit.callS X K.1 (y := y) K.2.2.1 (mvT K.2.1 w1) (mvT K.2.1 w2) (mvT K.2.1 w3) (mvT K.2.1 w4) hy hK (g := mkF m pc Ls stk) rfl (by rw [K.2.2.2.2.2.2]; exact hsz) (argsL := argsL) (rest := rest) (lenOf hdesc hlen) hs (by show 2 * 0 + _ ≤ _; omega) (hb K.2.2.2.1 hd) (fun vm1 hw1 => hpre _ (wtrans (U := T.setVm vm1) K.2.1 hw1) eT)
  obtain ⟨s₂, st', q⟩ := r (T.setVm vm1) u B (wtrans (U := T.setVm vm1) K.2.1 hw1) eT hQ B.U X1 rfl
  exact ⟨s₂, st _ st', q⟩
/-- clone of a byte[] -/
theorem own_clone (K : own_C p S m meth c Z bytes own rt ml) {i W cap : Nat} {a : Addr} {k : ClassId} {z : Int32} {vs : List Value} {dv : Value} (A : Arv Z h a k .byte z vs dv) (E : Exa Z h a "[B") (F : ∀ cl : Cell, h[a]? = some cl → FitC Z cl)
    (w1 : (Jvm.Cond.methodLink own i ⟨"[B", "clone", "()Ljava/lang/Object;"⟩).before a0 Z = true) (w2 : (Jvm.Cond.sameMethod "[B" "java/lang/Object" "clone" "()Ljava/lang/Object;").before a0 Z = true) (w3 : (Jvm.Cond.native ⟨"java/lang/Object", "clone", "()Ljava/lang/Object;"⟩).before a0 Z = true)
    (w4 : (Jvm.Cond.instanceMethod ⟨"java/lang/Object", "clone", "()Ljava/lang/Object;"⟩).before a0 Z = true) (w5 : (Jvm.Cond.selects "[B" ⟨"[B", "clone", "()Ljava/lang/Object;"⟩ ⟨"java/lang/Object", "clone", "()Ljava/lang/Object;"⟩).before a0 Z = true) (w6 : (Jvm.Cond.castable "[B" "java/lang/Cloneable").before a0 Z = true)
    (hd : decode bytes pc = .ok (.invokevirtual i, 3)) (hsz : Ls.size = ml) (hf : 1 ≤ R.frames) (hW : (rest.map fun v => v.category).sum ≤ W) (hl : W + 14 ≤ R.locals) (hcap : z.toNatClampNeg ≤ cap) (hc : cells + 1 ≤ R.cells) (hs : slots + cap ≤ R.slots)
    (r : ∀ h' : Heap, Ext h h' → Arv Z h' h.size k .byte z vs dv → Exa Z h' h.size "[B" → own_E p l e R S m args below meth c h' locs (cells + 1) (slots + cap) (pc + 3) Ls (.ref h.size :: rest) G) :
    own_E p l e R S m args below meth c h locs cells slots pc Ls (.ref a :: rest) G := fun T X eT => by
  obtain ⟨cl, A1, q1, S1, M1, H1, U1⟩ := A
  obtain ⟨T', h', X', e', E', A', F', st⟩ := cloneA X K.1 K.2.1 K.2.2.1 w1 w2 w3 w4 w5 w6 eT A1 E (F cl A1.1) (g := mkF m pc Ls (.ref a :: rest)) rfl (by rw [K.2.2.2.2.2.2]; exact hsz) rfl (hb K.2.2.2.1 hd) hf (W := W) (cap := cap) (by show 2 * 0 + _ ≤ _; omega) hl (by rw [S1]; exact hcap) hc hs
  obtain ⟨s₂, st', q⟩ := r h' E' ⟨_, A', q1, S1, M1, H1, U1⟩ F' T' X' e'
  exact ⟨s₂, st _ st', q⟩
theorem own_callSW (K : own_C p S m meth c Z bytes own rt ml) {i : Nat} {y : MethodName} {bs : ByteArray} {mx W : Nat} {rm : Room} {ry : Option FieldType} {argsL : List Value} {Q : Option Value → Heap → List Loc → Prop}
    (M : own_W l y bs mx ry [] rm Z h argsL.toArray Q)
    (w1 : (Jvm.Cond.methodLink own i y).before a0 Z = true) (w2 : (Jvm.Cond.static y).before a0 Z = true) (w3 : (Jvm.Cond.initialized y.cls).before a0 Z = true) (w4 : (Jvm.Cond.code y bs mx ry).before a0 Z = true)
    (hy : y.cls ≠ "java/lang/invoke/MethodHandle" ∧ y.cls ≠ "java/lang/invoke/VarHandle") (hd : decode bytes pc = .ok (.invokestatic i, 3)) {ps : List FieldType} {ro : Option FieldType} (hdesc : parseMethodDescriptor y.desc = some ⟨ps, ro⟩) (hlen : argsL.length = ps.length)
    (hs : stk = argsL.reverse ++ rest) (hsz : Ls.size = ml) (hW : (rest.map fun v => v.category).sum ≤ W) (hf : rm.frames + 1 ≤ R.frames) (hl : W + (mx + 11) + rm.locals ≤ R.locals) (hc : cells + rm.cells ≤ R.cells) (hl2 : slots + rm.slots ≤ R.slots)
    (r : ∀ (u : Option Value) (h' : Heap) (L : List Loc), Q u h' L → own_E p l e R S m args below meth c h' (locs ++ L) (cells + rm.cells) (slots + rm.slots) (pc + 3) Ls (u.toList ++ rest) G) :
    own_E p l e R S m args below meth c h locs cells slots pc Ls stk G := fun T X eT => by
  obtain ⟨u, _, ⟨T1, L1, k1, n1⟩, -, X1, ⟨Lc, hQ, l1, y1, z1⟩, st⟩ := Jvm.LawKit.callS X K.1 (y := y) K.2.2.1 (mvT K.2.1 w1) (mvT K.2.1 w2) (mvT K.2.1 w3) (mvT K.2.1 w4) hy (backOf (W := W) (rm := rm) (Q := Q) M K.2.1 w4 w3 hf hl) (g := mkF m pc Ls stk) rfl (by rw [K.2.2.2.2.2.2]; exact hsz) (argsL := argsL) (rest := rest) (lenOf hdesc hlen) hs (by show 2 * 0 + _ ≤ _; omega) (hb K.2.2.2.1 hd) (fun _ _ => ⟨rfl, eT, hc, hl2⟩)
  dsimp only [Pt.U, Pt.locs, Pt.cells, Pt.slots] at X1 l1 y1 z1 st hQ
  subst l1 y1 z1
  obtain ⟨s₂, st', q⟩ := r u T1.heap Lc hQ T1 X1 rfl
  exact ⟨s₂, st _ st', q⟩
theorem own_callVW (K : own_C p S m meth c Z bytes own rt ml) {i : Nat} {y z : MethodName} {bs : ByteArray} {mx W : Nat} {rm : Room} {ry : Option FieldType} {argsL : List Value} {Q : Option Value → Heap → List Loc → Prop} {a : Addr} {D : String} (nf : NotFace S y)
    (M : own_W l z bs mx ry [] rm Z h (.ref a :: argsL).toArray Q) (E : Exa Z h a D)
    (w1 : (Jvm.Cond.methodLink own i y).before a0 Z = true) (w2 : (Jvm.Cond.declares y).before a0 Z = true) (w3 : (Jvm.Cond.selects D y z).before a0 Z = true) (w4 : (Jvm.Cond.instanceMethod z).before a0 Z = true) (w5 : (Jvm.Cond.code z bs mx ry).before a0 Z = true) (w6 : (Jvm.Cond.initialized z.cls).before a0 Z = true)
    (hy : y.cls ≠ "java/lang/invoke/MethodHandle" ∧ y.cls ≠ "java/lang/invoke/VarHandle") (hd : decode bytes pc = .ok (.invokevirtual i, 3)) {ps : List FieldType} {ro : Option FieldType} (hdesc : parseMethodDescriptor y.desc = some ⟨ps, ro⟩) (hlen : argsL.length = ps.length)
    (hs : stk = argsL.reverse ++ .ref a :: rest) (hsz : Ls.size = ml) (hW : (rest.map fun v => v.category).sum ≤ W) (hf : rm.frames + 1 ≤ R.frames) (hl : W + (mx + 11) + rm.locals ≤ R.locals) (hc : cells + rm.cells ≤ R.cells) (hl2 : slots + rm.slots ≤ R.slots)
    (r : ∀ (u : Option Value) (h' : Heap) (L : List Loc), Q u h' L → own_E p l e R S m args below meth c h' (locs ++ L) (cells + rm.cells) (slots + rm.slots) (pc + 3) Ls (u.toList ++ rest) G) :
    own_E p l e R S m args below meth c h locs cells slots pc Ls stk G := fun T X eT => by
  obtain ⟨cq, kq, qa, qb, qc⟩ := isOf (T := T) K.2.1 eT E
  obtain ⟨u, _, ⟨T1, L1, k1, n1⟩, -, X1, ⟨Lc, hQ, l1, y1, z1⟩, st⟩ := X.virtualBack K.1 (y := y) (z := z) K.2.2.1 (mvT K.2.1 w1) (mvT K.2.1 w2) nf (mvT K.2.1 w3) (mvT K.2.1 w4) hy (backOf (W := W) (rm := rm) (Q := Q) M K.2.1 w5 w6 hf hl) qa qc (g := mkF m pc Ls stk) rfl (by rw [K.2.2.2.2.2.2]; exact hsz) (Steps.refl _) (argsL := argsL) (rest := rest) (lenOf hdesc hlen) hs (by show 2 * 0 + _ ≤ _; omega) (hb K.2.2.2.1 hd) (fun _ _ => ⟨rfl, eT, hc, hl2⟩)
  dsimp only [Pt.U, Pt.locs, Pt.cells, Pt.slots] at X1 l1 y1 z1 st hQ
  subst l1 y1 z1
  obtain ⟨s₂, st', q⟩ := r u T1.heap Lc hQ T1 X1 rfl
  exact ⟨s₂, st.trans st', q⟩
theorem own_supW (K : own_C p S m meth c Z bytes own rt ml) {i : Nat} {y : MethodName} {bs : ByteArray} {mx W : Nat} {rm : Room} {ry : Option FieldType} {argsL : List Value} {Q : Option Value → Heap → List Loc → Prop} {a : Addr} {D : String}
    (M : own_W l y bs mx ry [] rm Z h (.ref a :: argsL).toArray Q) (E : Exa Z h a D)
    (w1 : (Jvm.Cond.methodLink own i y).before a0 Z = true) (w2 : (Jvm.Cond.sameMethod y.cls y.cls y.name y.desc).before a0 Z = true) (w3 : (Jvm.Cond.instanceMethod y).before a0 Z = true) (w4 : (Jvm.Cond.superclass own y.cls).before a0 Z = true) (hn : y.name ≠ "<init>") (w5 : (Jvm.Cond.code y bs mx ry).before a0 Z = true) (w6 : (Jvm.Cond.initialized y.cls).before a0 Z = true)
    (hy : y.cls ≠ "java/lang/invoke/MethodHandle" ∧ y.cls ≠ "java/lang/invoke/VarHandle") (hd : decode bytes pc = .ok (.invokespecial i, 3)) {ps : List FieldType} {ro : Option FieldType} (hdesc : parseMethodDescriptor y.desc = some ⟨ps, ro⟩) (hlen : argsL.length = ps.length)
    (hs : stk = argsL.reverse ++ .ref a :: rest) (hsz : Ls.size = ml) (hW : (rest.map fun v => v.category).sum ≤ W) (hf : rm.frames + 1 ≤ R.frames) (hl : W + (mx + 11) + rm.locals ≤ R.locals) (hc : cells + rm.cells ≤ R.cells) (hl2 : slots + rm.slots ≤ R.slots)
    (r : ∀ (u : Option Value) (h' : Heap) (L : List Loc), Q u h' L → own_E p l e R S m args below meth c h' (locs ++ L) (cells + rm.cells) (slots + rm.slots) (pc + 3) Ls (u.toList ++ rest) G) :
    own_E p l e R S m args below meth c h locs cells slots pc Ls stk G := fun T X eT => by
  obtain ⟨u, _, ⟨T1, L1, k1, n1⟩, -, X1, ⟨Lc, hQ, l1, y1, z1⟩, st⟩ := superBack X K.1 K.2.1 (y := y) K.2.2.1 w1 w2 w3 w4 hn (backOf (W := W) (rm := rm) (Q := Q) M K.2.1 w5 w6 hf hl) eT (Ins.self E) (g := mkF m pc Ls stk) rfl (by rw [K.2.2.2.2.2.2]; exact hsz) w5 (argsL := argsL) (rest := rest) (lenOf hdesc hlen) hs (by show 2 * 0 + _ ≤ _; omega) (hb K.2.2.2.1 hd) (fun _ _ => ⟨rfl, eT, hc, hl2⟩)
  dsimp only [Pt.U, Pt.locs, Pt.cells, Pt.slots] at X1 l1 y1 z1 st hQ
  subst l1 y1 z1
  obtain ⟨s₂, st', q⟩ := r u T1.heap Lc hQ T1 X1 rfl
  exact ⟨s₂, st.trans st', q⟩
theorem own_initW (K : own_C p S m meth c Z bytes own rt ml) {i : Nat} {y : MethodName} {bs : ByteArray} {mx W : Nat} {rm : Room} {ry : Option FieldType} {argsL : List Value} {Q : Option Value → Heap → List Loc → Prop} {a : Addr} (hry : ry = none) (hin : y.name = "<init>")
    (M : own_W l y bs mx ry [] rm Z h (.ref a :: argsL).toArray Q)
    (w1 : (Jvm.Cond.methodLink own i y).before a0 Z = true) (w2 : (Jvm.Cond.instanceMethod y).before a0 Z = true) (w5 : (Jvm.Cond.code y bs mx ry).before a0 Z = true) (w6 : (Jvm.Cond.initialized y.cls).before a0 Z = true)
    (hy : y.cls ≠ "java/lang/invoke/MethodHandle" ∧ y.cls ≠ "java/lang/invoke/VarHandle") (hd : decode bytes pc = .ok (.invokespecial i, 3)) {ps : List FieldType} {ro : Option FieldType} (hdesc : parseMethodDescriptor y.desc = some ⟨ps, ro⟩) (hlen : argsL.length = ps.length)
    (hs : stk = argsL.reverse ++ .ref a :: rest) (hsz : Ls.size = ml) (hW : (rest.map fun v => v.category).sum ≤ W) (hf : rm.frames + 1 ≤ R.frames) (hl : W + (mx + 11) + rm.locals ≤ R.locals) (hc : cells + rm.cells ≤ R.cells) (hl2 : slots + rm.slots ≤ R.slots)
    (r : ∀ (u : Option Value) (h' : Heap) (L : List Loc), Q u h' L → own_E p l e R S m args below meth c h' (locs ++ L) (cells + rm.cells) (slots + rm.slots) (pc + 3) Ls (u.toList ++ rest) G) :
    own_E p l e R S m args below meth c h locs cells slots pc Ls stk G := fun T X eT => by
  subst hry
  obtain ⟨u, _, ⟨T1, L1, k1, n1⟩, -, X1, ⟨Lc, hQ, l1, y1, z1⟩, st⟩ := X.specialBack K.1 (y := y) hin K.2.2.1 (mvT K.2.1 w1) (mvT K.2.1 w2) (mvT K.2.1 w5) hy (backOf (W := W) (rm := rm) (Q := Q) M K.2.1 w5 w6 hf hl) (g := mkF m pc Ls stk) rfl (by rw [K.2.2.2.2.2.2]; exact hsz) (Steps.refl _) (a := a) (argsL := argsL) (rest := rest) (lenOf hdesc hlen) hs (by show 2 * 0 + _ ≤ _; omega) (hb K.2.2.2.1 hd) (fun _ _ => ⟨rfl, eT, hc, hl2⟩)
  dsimp only [Pt.U, Pt.locs, Pt.cells, Pt.slots] at X1 l1 y1 z1 st hQ
  subst l1 y1 z1
  obtain ⟨s₂, st', q⟩ := r u T1.heap Lc hQ T1 X1 rfl
  exact ⟨s₂, st.trans st', q⟩
theorem own_W_of_M {y : MethodName} {bs : ByteArray} {mx : Nat} {ry : Option FieldType} {ws : List Jvm.Cond} {rm : Room} {as : Array Value} {v : Option Value} (M : own_M l y bs mx ry ws rm Z h as v) : own_W l y bs mx ry ws rm Z h as (fun v' h' L => v' = v ∧ L = [] ∧ h' = h) := M
theorem own_decl {y : MethodName} {bs : ByteArray} {mx : Nat} {ry : Option FieldType} (w1 : (Jvm.Cond.instanceMethod y).before a0 Z = true) (w2 : (Jvm.Cond.code y bs mx ry).before a0 Z = true) : (Jvm.Cond.declares y).before a0 Z = true := by
  obtain ⟨mk, methM, hn, hm, hs, -⟩ := Cond.instanceMethod_spec w1
  obtain ⟨meth', c', hm', -, -, -, -, -, -, hsig⟩ := Cond.code_spec hn w2
  cases hm.symm.trans hm'
  simp [Cond.before, Cond.holds, Cond.value, hn, hm, hs, hsig]
theorem own_nf {y y' : MethodName} {D : String} (hc : y.cls = y'.cls) (w : (Jvm.Cond.selects D y' y').before a0 Z = true) (hZ : Z.Warmed39 S.vm) : NotFace S y := fun r0 h0 => by
  have nf : NotFace S y' := notFace_of_selects (args := #[]) (mvT hZ w)
  obtain ⟨c1, r1, m1, q1, q2, q3, -⟩ := Cond.selects_spec (mvT (args := #[]) hZ w)
  obtain ⟨kr, hk, hi⟩ := nf m1 q3
  have e1 := findClass_of_methodNamed h0
  have e2 := findClass_of_methodNamed q3
  rw [hc, e2] at e1
  have e3 := Option.some.inj e1
  exact ⟨kr, by rw [← e3]; exact hk, hi⟩
theorem own_same {y y' : MethodName} {D : String} (hc : y.cls = y'.cls) (hy : y.cls ≠ "java/lang/invoke/MethodHandle" ∧ y.cls ≠ "java/lang/invoke/VarHandle") (w1 : (Jvm.Cond.instanceMethod y).before a0 Z = true) (w : (Jvm.Cond.selects D y' y').before a0 Z = true) : (Jvm.Cond.sameMethod y.cls y.cls y.name y.desc).before a0 Z = true := by
  obtain ⟨mk, methM, hn, hm, hs, -⟩ := Cond.instanceMethod_spec w1
  obtain ⟨kr, hk, hi⟩ := own_nf (S := Z) hc w (State.Warmed39.refl Z) mk hn
  have hf := State.methodFound?_of_named hn hy
  have hcl := findClass_of_methodNamed hn
  obtain ⟨cls, nm, ds⟩ := y
  simp only at hf hcl ⊢
  simp [Cond.before, Cond.holds, Cond.value, hn, hf, hcl, hk, hi]
end OwnW
theorem d1_0 : decode method_2_code 0 = .ok (.lload_n 0, 1) := by decide +kernel
theorem d1_1 : decode method_2_code 1 = .ok (.ldc2_w 7, 3) := by decide +kernel
theorem d1_4 : decode method_2_code 4 = .ok (.lcmp, 1) := by decide +kernel
theorem d1_5 : decode method_2_code 5 = .ok (.ifCond .ge 5, 3) := by decide +kernel
theorem d1_8 : decode method_2_code 8 = .ok (.iconst 1, 1) := by decide +kernel
theorem d1_9 : decode method_2_code 9 = .ok (.ireturn, 1) := by decide +kernel
theorem d1_10 : decode method_2_code 10 = .ok (.lload_n 0, 1) := by decide +kernel
theorem d1_11 : decode method_2_code 11 = .ok (.ldc2_w 9, 3) := by decide +kernel
theorem d1_14 : decode method_2_code 14 = .ok (.lcmp, 1) := by decide +kernel
theorem d1_15 : decode method_2_code 15 = .ok (.ifCond .ge 5, 3) := by decide +kernel
theorem d1_18 : decode method_2_code 18 = .ok (.iconst 2, 1) := by decide +kernel
theorem d1_19 : decode method_2_code 19 = .ok (.ireturn, 1) := by decide +kernel
theorem d1_20 : decode method_2_code 20 = .ok (.lload_n 0, 1) := by decide +kernel
theorem d1_21 : decode method_2_code 21 = .ok (.ldc2_w 11, 3) := by decide +kernel
theorem d1_24 : decode method_2_code 24 = .ok (.lcmp, 1) := by decide +kernel
theorem d1_25 : decode method_2_code 25 = .ok (.ifCond .ge 5, 3) := by decide +kernel
theorem d1_28 : decode method_2_code 28 = .ok (.iconst 3, 1) := by decide +kernel
theorem d1_29 : decode method_2_code 29 = .ok (.ireturn, 1) := by decide +kernel
theorem d1_30 : decode method_2_code 30 = .ok (.lload_n 0, 1) := by decide +kernel
theorem d1_31 : decode method_2_code 31 = .ok (.ldc2_w 13, 3) := by decide +kernel
theorem d1_34 : decode method_2_code 34 = .ok (.lcmp, 1) := by decide +kernel
theorem d1_35 : decode method_2_code 35 = .ok (.ifCond .ge 5, 3) := by decide +kernel
theorem d1_38 : decode method_2_code 38 = .ok (.iconst 4, 1) := by decide +kernel
theorem d1_39 : decode method_2_code 39 = .ok (.ireturn, 1) := by decide +kernel
theorem d1_40 : decode method_2_code 40 = .ok (.lload_n 0, 1) := by decide +kernel
theorem d1_41 : decode method_2_code 41 = .ok (.ldc2_w 15, 3) := by decide +kernel
theorem d1_44 : decode method_2_code 44 = .ok (.lcmp, 1) := by decide +kernel
theorem d1_45 : decode method_2_code 45 = .ok (.ifCond .ge 5, 3) := by decide +kernel
theorem d1_48 : decode method_2_code 48 = .ok (.iconst 5, 1) := by decide +kernel
theorem d1_49 : decode method_2_code 49 = .ok (.ireturn, 1) := by decide +kernel
theorem d1_50 : decode method_2_code 50 = .ok (.lload_n 0, 1) := by decide +kernel
theorem d1_51 : decode method_2_code 51 = .ok (.ldc2_w 17, 3) := by decide +kernel
theorem d1_54 : decode method_2_code 54 = .ok (.lcmp, 1) := by decide +kernel
theorem d1_55 : decode method_2_code 55 = .ok (.ifCond .ge 6, 3) := by decide +kernel
theorem d1_58 : decode method_2_code 58 = .ok (.bipush 6, 2) := by decide +kernel
theorem d1_60 : decode method_2_code 60 = .ok (.ireturn, 1) := by decide +kernel
theorem d1_61 : decode method_2_code 61 = .ok (.lload_n 0, 1) := by decide +kernel
theorem d1_62 : decode method_2_code 62 = .ok (.ldc2_w 19, 3) := by decide +kernel
theorem d1_65 : decode method_2_code 65 = .ok (.lcmp, 1) := by decide +kernel
theorem d1_66 : decode method_2_code 66 = .ok (.ifCond .ge 6, 3) := by decide +kernel
theorem d1_69 : decode method_2_code 69 = .ok (.bipush 7, 2) := by decide +kernel
theorem d1_71 : decode method_2_code 71 = .ok (.ireturn, 1) := by decide +kernel
theorem d1_72 : decode method_2_code 72 = .ok (.lload_n 0, 1) := by decide +kernel
theorem d1_73 : decode method_2_code 73 = .ok (.ldc2_w 21, 3) := by decide +kernel
theorem d1_76 : decode method_2_code 76 = .ok (.lcmp, 1) := by decide +kernel
theorem d1_77 : decode method_2_code 77 = .ok (.ifCond .ge 6, 3) := by decide +kernel
theorem d1_80 : decode method_2_code 80 = .ok (.bipush 8, 2) := by decide +kernel
theorem d1_82 : decode method_2_code 82 = .ok (.ireturn, 1) := by decide +kernel
theorem d1_83 : decode method_2_code 83 = .ok (.lload_n 0, 1) := by decide +kernel
theorem d1_84 : decode method_2_code 84 = .ok (.ldc2_w 23, 3) := by decide +kernel
theorem d1_87 : decode method_2_code 87 = .ok (.lcmp, 1) := by decide +kernel
theorem d1_88 : decode method_2_code 88 = .ok (.ifCond .ge 6, 3) := by decide +kernel
theorem d1_91 : decode method_2_code 91 = .ok (.bipush 9, 2) := by decide +kernel
theorem d1_93 : decode method_2_code 93 = .ok (.ireturn, 1) := by decide +kernel
theorem d1_94 : decode method_2_code 94 = .ok (.lload_n 0, 1) := by decide +kernel
theorem d1_95 : decode method_2_code 95 = .ok (.ldc2_w 25, 3) := by decide +kernel
theorem d1_98 : decode method_2_code 98 = .ok (.lcmp, 1) := by decide +kernel
theorem d1_99 : decode method_2_code 99 = .ok (.ifCond .ge 6, 3) := by decide +kernel
theorem d1_102 : decode method_2_code 102 = .ok (.bipush 10, 2) := by decide +kernel
theorem d1_104 : decode method_2_code 104 = .ok (.ireturn, 1) := by decide +kernel
theorem d1_105 : decode method_2_code 105 = .ok (.lload_n 0, 1) := by decide +kernel
theorem d1_106 : decode method_2_code 106 = .ok (.ldc2_w 27, 3) := by decide +kernel
theorem d1_109 : decode method_2_code 109 = .ok (.lcmp, 1) := by decide +kernel
theorem d1_110 : decode method_2_code 110 = .ok (.ifCond .ge 6, 3) := by decide +kernel
theorem d1_113 : decode method_2_code 113 = .ok (.bipush 11, 2) := by decide +kernel
theorem d1_115 : decode method_2_code 115 = .ok (.ireturn, 1) := by decide +kernel
theorem d1_116 : decode method_2_code 116 = .ok (.lload_n 0, 1) := by decide +kernel
theorem d1_117 : decode method_2_code 117 = .ok (.ldc2_w 29, 3) := by decide +kernel
theorem d1_120 : decode method_2_code 120 = .ok (.lcmp, 1) := by decide +kernel
theorem d1_121 : decode method_2_code 121 = .ok (.ifCond .ge 6, 3) := by decide +kernel
theorem d1_124 : decode method_2_code 124 = .ok (.bipush 12, 2) := by decide +kernel
theorem d1_126 : decode method_2_code 126 = .ok (.ireturn, 1) := by decide +kernel
theorem d1_127 : decode method_2_code 127 = .ok (.bipush 13, 2) := by decide +kernel
theorem d1_129 : decode method_2_code 129 = .ok (.ireturn, 1) := by decide +kernel
theorem d2_0 : decode prog_12_method_3_code 0 = .ok (.lload_n 0, 1) := by decide +kernel
theorem d2_1 : decode prog_12_method_3_code 1 = .ok (.ldc2_w 44, 3) := by decide +kernel
theorem d2_4 : decode prog_12_method_3_code 4 = .ok (.ladd, 1) := by decide +kernel
theorem d2_5 : decode prog_12_method_3_code 5 = .ok (.ldc2_w 46, 3) := by decide +kernel
theorem d2_8 : decode prog_12_method_3_code 8 = .ok (.ldiv, 1) := by decide +kernel
theorem d2_9 : decode prog_12_method_3_code 9 = .ok (.lstore_n 2, 1) := by decide +kernel
theorem d2_10 : decode prog_12_method_3_code 10 = .ok (.lload_n 2, 1) := by decide +kernel
theorem d2_11 : decode prog_12_method_3_code 11 = .ok (.ldc2_w 48, 3) := by decide +kernel
theorem d2_14 : decode prog_12_method_3_code 14 = .ok (.lrem, 1) := by decide +kernel
theorem d2_15 : decode prog_12_method_3_code 15 = .ok (.lstore 4, 2) := by decide +kernel
theorem d2_17 : decode prog_12_method_3_code 17 = .ok (.new 17, 3) := by decide +kernel
theorem d2_20 : decode prog_12_method_3_code 20 = .ok (.dup, 1) := by decide +kernel
theorem d2_21 : decode prog_12_method_3_code 21 = .ok (.invokespecial 19, 3) := by decide +kernel
theorem d2_24 : decode prog_12_method_3_code 24 = .ok (.lload_n 2, 1) := by decide +kernel
theorem d2_25 : decode prog_12_method_3_code 25 = .ok (.ldc2_w 48, 3) := by decide +kernel
theorem d2_28 : decode prog_12_method_3_code 28 = .ok (.ldiv, 1) := by decide +kernel
theorem d2_29 : decode prog_12_method_3_code 29 = .ok (.invokevirtual 50, 3) := by decide +kernel
theorem d2_32 : decode prog_12_method_3_code 32 = .ok (.lload 4, 2) := by decide +kernel
theorem d2_34 : decode prog_12_method_3_code 34 = .ok (.ldc2_w 53, 3) := by decide +kernel
theorem d2_37 : decode prog_12_method_3_code 37 = .ok (.lcmp, 1) := by decide +kernel
theorem d2_38 : decode prog_12_method_3_code 38 = .ok (.ifCond .ge 8, 3) := by decide +kernel
theorem d2_41 : decode prog_12_method_3_code 41 = .ok (.ldc 55, 2) := by decide +kernel
theorem d2_43 : decode prog_12_method_3_code 43 = .ok (.goto 5, 3) := by decide +kernel
theorem d2_46 : decode prog_12_method_3_code 46 = .ok (.ldc 57, 2) := by decide +kernel
theorem d2_48 : decode prog_12_method_3_code 48 = .ok (.invokevirtual 31, 3) := by decide +kernel
theorem d2_51 : decode prog_12_method_3_code 51 = .ok (.lload 4, 2) := by decide +kernel
theorem d2_53 : decode prog_12_method_3_code 53 = .ok (.invokevirtual 50, 3) := by decide +kernel
theorem d2_56 : decode prog_12_method_3_code 56 = .ok (.ldc 59, 2) := by decide +kernel
theorem d2_58 : decode prog_12_method_3_code 58 = .ok (.invokevirtual 31, 3) := by decide +kernel
theorem d2_61 : decode prog_12_method_3_code 61 = .ok (.invokevirtual 40, 3) := by decide +kernel
theorem d2_64 : decode prog_12_method_3_code 64 = .ok (.areturn, 1) := by decide +kernel
theorem d3_0 : decode jdk_67_method_1_code 0 = .ok (.aload_n 0, 1) := by decide +kernel
theorem d3_1 : decode jdk_67_method_1_code 1 = .ok (.bipush 16, 2) := by decide +kernel
theorem d3_3 : decode jdk_67_method_1_code 3 = .ok (.invokespecial 1, 3) := by decide +kernel
theorem d3_6 : decode jdk_67_method_1_code 6 = .ok (.return_, 1) := by decide +kernel
theorem d4_0 : decode jdk_68_method_2_code 0 = .ok (.aload_n 0, 1) := by decide +kernel
theorem d4_1 : decode jdk_68_method_2_code 1 = .ok (.invokespecial 3, 3) := by decide +kernel
theorem d4_4 : decode jdk_68_method_2_code 4 = .ok (.getstatic 18, 3) := by decide +kernel
theorem d4_7 : decode jdk_68_method_2_code 7 = .ok (.ifCond .eq 18, 3) := by decide +kernel
theorem d4_10 : decode jdk_68_method_2_code 10 = .ok (.aload_n 0, 1) := by decide +kernel
theorem d4_11 : decode jdk_68_method_2_code 11 = .ok (.iload_n 1, 1) := by decide +kernel
theorem d4_12 : decode jdk_68_method_2_code 12 = .ok (.newarray .byte, 2) := by decide +kernel
theorem d4_14 : decode jdk_68_method_2_code 14 = .ok (.putfield 15, 3) := by decide +kernel
theorem d4_17 : decode jdk_68_method_2_code 17 = .ok (.aload_n 0, 1) := by decide +kernel
theorem d4_18 : decode jdk_68_method_2_code 18 = .ok (.iconst 0, 1) := by decide +kernel
theorem d4_19 : decode jdk_68_method_2_code 19 = .ok (.putfield 22, 3) := by decide +kernel
theorem d4_22 : decode jdk_68_method_2_code 22 = .ok (.goto 16, 3) := by decide +kernel
theorem d4_38 : decode jdk_68_method_2_code 38 = .ok (.return_, 1) := by decide +kernel
theorem d6_0 : decode jdk_67_method_16_code 0 = .ok (.aload_n 0, 1) := by decide +kernel
theorem d6_1 : decode jdk_67_method_16_code 1 = .ok (.lload_n 1, 1) := by decide +kernel
theorem d6_2 : decode jdk_67_method_16_code 2 = .ok (.invokespecial 56, 3) := by decide +kernel
theorem d6_5 : decode jdk_67_method_16_code 5 = .ok (.pop, 1) := by decide +kernel
theorem d6_6 : decode jdk_67_method_16_code 6 = .ok (.aload_n 0, 1) := by decide +kernel
theorem d6_7 : decode jdk_67_method_16_code 7 = .ok (.areturn, 1) := by decide +kernel
theorem d7_0 : decode jdk_68_method_33_code 0 = .ok (.aload_n 0, 1) := by decide +kernel
theorem d7_1 : decode jdk_68_method_33_code 1 = .ok (.getfield 79, 3) := by decide +kernel
theorem d7_4 : decode jdk_68_method_33_code 4 = .ok (.istore_n 3, 1) := by decide +kernel
theorem d7_5 : decode jdk_68_method_33_code 5 = .ok (.iload_n 3, 1) := by decide +kernel
theorem d7_6 : decode jdk_68_method_33_code 6 = .ok (.lload_n 1, 1) := by decide +kernel
theorem d7_7 : decode jdk_68_method_33_code 7 = .ok (.invokestatic 254, 3) := by decide +kernel
theorem d7_10 : decode jdk_68_method_33_code 10 = .ok (.iadd, 1) := by decide +kernel
theorem d7_11 : decode jdk_68_method_33_code 11 = .ok (.istore 4, 2) := by decide +kernel
theorem d7_13 : decode jdk_68_method_33_code 13 = .ok (.aload_n 0, 1) := by decide +kernel
theorem d7_14 : decode jdk_68_method_33_code 14 = .ok (.iload 4, 2) := by decide +kernel
theorem d7_16 : decode jdk_68_method_33_code 16 = .ok (.invokevirtual 100, 3) := by decide +kernel
theorem d7_19 : decode jdk_68_method_33_code 19 = .ok (.aload_n 0, 1) := by decide +kernel
theorem d7_20 : decode jdk_68_method_33_code 20 = .ok (.invokevirtual 83, 3) := by decide +kernel
theorem d7_23 : decode jdk_68_method_33_code 23 = .ok (.ifCond .eq 17, 3) := by decide +kernel
theorem d7_26 : decode jdk_68_method_33_code 26 = .ok (.lload_n 1, 1) := by decide +kernel
theorem d7_27 : decode jdk_68_method_33_code 27 = .ok (.iload 4, 2) := by decide +kernel
theorem d7_29 : decode jdk_68_method_33_code 29 = .ok (.aload_n 0, 1) := by decide +kernel
theorem d7_30 : decode jdk_68_method_33_code 30 = .ok (.getfield 15, 3) := by decide +kernel
theorem d7_33 : decode jdk_68_method_33_code 33 = .ok (.invokestatic 259, 3) := by decide +kernel
theorem d7_36 : decode jdk_68_method_33_code 36 = .ok (.pop, 1) := by decide +kernel
theorem d7_37 : decode jdk_68_method_33_code 37 = .ok (.goto 15, 3) := by decide +kernel
theorem d7_52 : decode jdk_68_method_33_code 52 = .ok (.aload_n 0, 1) := by decide +kernel
theorem d7_53 : decode jdk_68_method_33_code 53 = .ok (.iload 4, 2) := by decide +kernel
theorem d7_55 : decode jdk_68_method_33_code 55 = .ok (.putfield 79, 3) := by decide +kernel
theorem d7_58 : decode jdk_68_method_33_code 58 = .ok (.aload_n 0, 1) := by decide +kernel
theorem d7_59 : decode jdk_68_method_33_code 59 = .ok (.areturn, 1) := by decide +kernel
theorem d9_0 : decode jdk_68_method_9_code 0 = .ok (.aload_n 0, 1) := by decide +kernel
theorem d9_1 : decode jdk_68_method_9_code 1 = .ok (.getfield 15, 3) := by decide +kernel
theorem d9_4 : decode jdk_68_method_9_code 4 = .ok (.arraylength, 1) := by decide +kernel
theorem d9_5 : decode jdk_68_method_9_code 5 = .ok (.aload_n 0, 1) := by decide +kernel
theorem d9_6 : decode jdk_68_method_9_code 6 = .ok (.getfield 22, 3) := by decide +kernel
theorem d9_9 : decode jdk_68_method_9_code 9 = .ok (.ishr, 1) := by decide +kernel
theorem d9_10 : decode jdk_68_method_9_code 10 = .ok (.istore_n 2, 1) := by decide +kernel
theorem d9_11 : decode jdk_68_method_9_code 11 = .ok (.iload_n 1, 1) := by decide +kernel
theorem d9_12 : decode jdk_68_method_9_code 12 = .ok (.iload_n 2, 1) := by decide +kernel
theorem d9_13 : decode jdk_68_method_9_code 13 = .ok (.isub, 1) := by decide +kernel
theorem d9_14 : decode jdk_68_method_9_code 14 = .ok (.ifCond .le 24, 3) := by decide +kernel
theorem d9_17 : decode jdk_68_method_9_code 17 = .ok (.aload_n 0, 1) := by decide +kernel
theorem d9_18 : decode jdk_68_method_9_code 18 = .ok (.aload_n 0, 1) := by decide +kernel
theorem d9_19 : decode jdk_68_method_9_code 19 = .ok (.getfield 15, 3) := by decide +kernel
theorem d9_22 : decode jdk_68_method_9_code 22 = .ok (.aload_n 0, 1) := by decide +kernel
theorem d9_23 : decode jdk_68_method_9_code 23 = .ok (.iload_n 1, 1) := by decide +kernel
theorem d9_24 : decode jdk_68_method_9_code 24 = .ok (.invokevirtual 104, 3) := by decide +kernel
theorem d9_27 : decode jdk_68_method_9_code 27 = .ok (.aload_n 0, 1) := by decide +kernel
theorem d9_28 : decode jdk_68_method_9_code 28 = .ok (.getfield 22, 3) := by decide +kernel
theorem d9_31 : decode jdk_68_method_9_code 31 = .ok (.ishl, 1) := by decide +kernel
theorem d9_32 : decode jdk_68_method_9_code 32 = .ok (.invokestatic 108, 3) := by decide +kernel
theorem d9_35 : decode jdk_68_method_9_code 35 = .ok (.putfield 15, 3) := by decide +kernel
theorem d9_38 : decode jdk_68_method_9_code 38 = .ok (.return_, 1) := by decide +kernel
theorem d10_0 : decode jdk_68_method_68_code 0 = .ok (.getstatic 18, 3) := by decide +kernel
theorem d10_3 : decode jdk_68_method_68_code 3 = .ok (.ifCond .eq 14, 3) := by decide +kernel
theorem d10_6 : decode jdk_68_method_68_code 6 = .ok (.aload_n 0, 1) := by decide +kernel
theorem d10_7 : decode jdk_68_method_68_code 7 = .ok (.getfield 22, 3) := by decide +kernel
theorem d10_10 : decode jdk_68_method_68_code 10 = .ok (.ifCond .ne 7, 3) := by decide +kernel
theorem d10_13 : decode jdk_68_method_68_code 13 = .ok (.iconst 1, 1) := by decide +kernel
theorem d10_14 : decode jdk_68_method_68_code 14 = .ok (.goto 4, 3) := by decide +kernel
theorem d10_18 : decode jdk_68_method_68_code 18 = .ok (.ireturn, 1) := by decide +kernel
theorem d12_0 : decode jdk_67_method_7_code 0 = .ok (.aload_n 0, 1) := by decide +kernel
theorem d12_1 : decode jdk_67_method_7_code 1 = .ok (.aload_n 1, 1) := by decide +kernel
theorem d12_2 : decode jdk_67_method_7_code 2 = .ok (.invokespecial 29, 3) := by decide +kernel
theorem d12_5 : decode jdk_67_method_7_code 5 = .ok (.pop, 1) := by decide +kernel
theorem d12_6 : decode jdk_67_method_7_code 6 = .ok (.aload_n 0, 1) := by decide +kernel
theorem d12_7 : decode jdk_67_method_7_code 7 = .ok (.areturn, 1) := by decide +kernel
theorem d13_0 : decode jdk_68_method_22_code 0 = .ok (.aload_n 1, 1) := by decide +kernel
theorem d13_1 : decode jdk_68_method_22_code 1 = .ok (.ifnonnull 8, 3) := by decide +kernel
theorem d13_9 : decode jdk_68_method_22_code 9 = .ok (.aload_n 1, 1) := by decide +kernel
theorem d13_10 : decode jdk_68_method_22_code 10 = .ok (.invokevirtual 32, 3) := by decide +kernel
theorem d13_13 : decode jdk_68_method_22_code 13 = .ok (.istore_n 2, 1) := by decide +kernel
theorem d13_14 : decode jdk_68_method_22_code 14 = .ok (.aload_n 0, 1) := by decide +kernel
theorem d13_15 : decode jdk_68_method_22_code 15 = .ok (.aload_n 0, 1) := by decide +kernel
theorem d13_16 : decode jdk_68_method_22_code 16 = .ok (.getfield 79, 3) := by decide +kernel
theorem d13_19 : decode jdk_68_method_22_code 19 = .ok (.iload_n 2, 1) := by decide +kernel
theorem d13_20 : decode jdk_68_method_22_code 20 = .ok (.iadd, 1) := by decide +kernel
theorem d13_21 : decode jdk_68_method_22_code 21 = .ok (.invokevirtual 100, 3) := by decide +kernel
theorem d13_24 : decode jdk_68_method_22_code 24 = .ok (.aload_n 0, 1) := by decide +kernel
theorem d13_25 : decode jdk_68_method_22_code 25 = .ok (.aload_n 0, 1) := by decide +kernel
theorem d13_26 : decode jdk_68_method_22_code 26 = .ok (.getfield 79, 3) := by decide +kernel
theorem d13_29 : decode jdk_68_method_22_code 29 = .ok (.aload_n 1, 1) := by decide +kernel
theorem d13_30 : decode jdk_68_method_22_code 30 = .ok (.invokevirtual 208, 3) := by decide +kernel
theorem d13_33 : decode jdk_68_method_22_code 33 = .ok (.aload_n 0, 1) := by decide +kernel
theorem d13_34 : decode jdk_68_method_22_code 34 = .ok (.dup, 1) := by decide +kernel
theorem d13_35 : decode jdk_68_method_22_code 35 = .ok (.getfield 79, 3) := by decide +kernel
theorem d13_38 : decode jdk_68_method_22_code 38 = .ok (.iload_n 2, 1) := by decide +kernel
theorem d13_39 : decode jdk_68_method_22_code 39 = .ok (.iadd, 1) := by decide +kernel
theorem d13_40 : decode jdk_68_method_22_code 40 = .ok (.putfield 79, 3) := by decide +kernel
theorem d13_43 : decode jdk_68_method_22_code 43 = .ok (.aload_n 0, 1) := by decide +kernel
theorem d13_44 : decode jdk_68_method_22_code 44 = .ok (.areturn, 1) := by decide +kernel
theorem d14_0 : decode jdk_42_method_54_code 0 = .ok (.aload_n 0, 1) := by decide +kernel
theorem d14_1 : decode jdk_42_method_54_code 1 = .ok (.getfield 9, 3) := by decide +kernel
theorem d14_4 : decode jdk_42_method_54_code 4 = .ok (.arraylength, 1) := by decide +kernel
theorem d14_5 : decode jdk_42_method_54_code 5 = .ok (.aload_n 0, 1) := by decide +kernel
theorem d14_6 : decode jdk_42_method_54_code 6 = .ok (.invokevirtual 335, 3) := by decide +kernel
theorem d14_9 : decode jdk_42_method_54_code 9 = .ok (.ishr, 1) := by decide +kernel
theorem d14_10 : decode jdk_42_method_54_code 10 = .ok (.ireturn, 1) := by decide +kernel
theorem d15_0 : decode jdk_42_method_152_code 0 = .ok (.getstatic 38, 3) := by decide +kernel
theorem d15_3 : decode jdk_42_method_152_code 3 = .ok (.ifCond .eq 10, 3) := by decide +kernel
theorem d15_6 : decode jdk_42_method_152_code 6 = .ok (.aload_n 0, 1) := by decide +kernel
theorem d15_7 : decode jdk_42_method_152_code 7 = .ok (.getfield 15, 3) := by decide +kernel
theorem d15_10 : decode jdk_42_method_152_code 10 = .ok (.goto 4, 3) := by decide +kernel
theorem d15_14 : decode jdk_42_method_152_code 14 = .ok (.ireturn, 1) := by decide +kernel
theorem d16_0 : decode jdk_68_method_73_code 0 = .ok (.aload_n 0, 1) := by decide +kernel
theorem d16_1 : decode jdk_68_method_73_code 1 = .ok (.aload_n 2, 1) := by decide +kernel
theorem d16_2 : decode jdk_68_method_73_code 2 = .ok (.invokevirtual 397, 3) := by decide +kernel
theorem d16_5 : decode jdk_68_method_73_code 5 = .ok (.aload_n 2, 1) := by decide +kernel
theorem d16_6 : decode jdk_68_method_73_code 6 = .ok (.aload_n 0, 1) := by decide +kernel
theorem d16_7 : decode jdk_68_method_73_code 7 = .ok (.getfield 15, 3) := by decide +kernel
theorem d16_10 : decode jdk_68_method_73_code 10 = .ok (.iload_n 1, 1) := by decide +kernel
theorem d16_11 : decode jdk_68_method_73_code 11 = .ok (.aload_n 0, 1) := by decide +kernel
theorem d16_12 : decode jdk_68_method_73_code 12 = .ok (.getfield 22, 3) := by decide +kernel
theorem d16_15 : decode jdk_68_method_73_code 15 = .ok (.invokevirtual 399, 3) := by decide +kernel
theorem d16_18 : decode jdk_68_method_73_code 18 = .ok (.return_, 1) := by decide +kernel
theorem d17_0 : decode jdk_68_method_71_code 0 = .ok (.getstatic 18, 3) := by decide +kernel
theorem d17_3 : decode jdk_68_method_71_code 3 = .ok (.ifCond .eq 18, 3) := by decide +kernel
theorem d17_6 : decode jdk_68_method_71_code 6 = .ok (.aload_n 0, 1) := by decide +kernel
theorem d17_7 : decode jdk_68_method_71_code 7 = .ok (.getfield 22, 3) := by decide +kernel
theorem d17_10 : decode jdk_68_method_71_code 10 = .ok (.aload_n 1, 1) := by decide +kernel
theorem d17_11 : decode jdk_68_method_71_code 11 = .ok (.invokevirtual 40, 3) := by decide +kernel
theorem d17_14 : decode jdk_68_method_71_code 14 = .ok (.if_icmp .eq 7, 3) := by decide +kernel
theorem d17_21 : decode jdk_68_method_71_code 21 = .ok (.return_, 1) := by decide +kernel
theorem d18_0 : decode jdk_42_method_147_code 0 = .ok (.aload_n 0, 1) := by decide +kernel
theorem d18_1 : decode jdk_42_method_147_code 1 = .ok (.invokevirtual 335, 3) := by decide +kernel
theorem d18_4 : decode jdk_42_method_147_code 4 = .ok (.iload_n 3, 1) := by decide +kernel
theorem d18_5 : decode jdk_42_method_147_code 5 = .ok (.if_icmp .ne 23, 3) := by decide +kernel
theorem d18_8 : decode jdk_42_method_147_code 8 = .ok (.aload_n 0, 1) := by decide +kernel
theorem d18_9 : decode jdk_42_method_147_code 9 = .ok (.getfield 9, 3) := by decide +kernel
theorem d18_12 : decode jdk_42_method_147_code 12 = .ok (.iconst 0, 1) := by decide +kernel
theorem d18_13 : decode jdk_42_method_147_code 13 = .ok (.aload_n 1, 1) := by decide +kernel
theorem d18_14 : decode jdk_42_method_147_code 14 = .ok (.iload_n 2, 1) := by decide +kernel
theorem d18_15 : decode jdk_42_method_147_code 15 = .ok (.iload_n 3, 1) := by decide +kernel
theorem d18_16 : decode jdk_42_method_147_code 16 = .ok (.ishl, 1) := by decide +kernel
theorem d18_17 : decode jdk_42_method_147_code 17 = .ok (.aload_n 0, 1) := by decide +kernel
theorem d18_18 : decode jdk_42_method_147_code 18 = .ok (.getfield 9, 3) := by decide +kernel
theorem d18_21 : decode jdk_42_method_147_code 21 = .ok (.arraylength, 1) := by decide +kernel
theorem d18_22 : decode jdk_42_method_147_code 22 = .ok (.invokestatic 212, 3) := by decide +kernel
theorem d18_25 : decode jdk_42_method_147_code 25 = .ok (.goto 18, 3) := by decide +kernel
theorem d18_43 : decode jdk_42_method_147_code 43 = .ok (.return_, 1) := by decide +kernel
theorem d19_0 : decode jdk_67_method_42_code 0 = .ok (.new 18, 3) := by decide +kernel
theorem d19_3 : decode jdk_67_method_42_code 3 = .ok (.dup, 1) := by decide +kernel
theorem d19_4 : decode jdk_67_method_42_code 4 = .ok (.aload_n 0, 1) := by decide +kernel
theorem d19_5 : decode jdk_67_method_42_code 5 = .ok (.invokespecial 137, 3) := by decide +kernel
theorem d19_8 : decode jdk_67_method_42_code 8 = .ok (.areturn, 1) := by decide +kernel
theorem d20_0 : decode jdk_42_method_53_code 0 = .ok (.aload_n 0, 1) := by decide +kernel
theorem d20_1 : decode jdk_42_method_53_code 1 = .ok (.aload_n 1, 1) := by decide +kernel
theorem d20_2 : decode jdk_42_method_53_code 2 = .ok (.aconst_null, 1) := by decide +kernel
theorem d20_3 : decode jdk_42_method_53_code 3 = .ok (.invokespecial 489, 3) := by decide +kernel
theorem d20_6 : decode jdk_42_method_53_code 6 = .ok (.return_, 1) := by decide +kernel
theorem d21_0 : decode jdk_42_method_150_code 0 = .ok (.aload_n 0, 1) := by decide +kernel
theorem d21_1 : decode jdk_42_method_150_code 1 = .ok (.invokespecial 1, 3) := by decide +kernel
theorem d21_4 : decode jdk_42_method_150_code 4 = .ok (.aload_n 1, 1) := by decide +kernel
theorem d21_5 : decode jdk_42_method_150_code 5 = .ok (.invokevirtual 552, 3) := by decide +kernel
theorem d21_8 : decode jdk_42_method_150_code 8 = .ok (.astore_n 3, 1) := by decide +kernel
theorem d21_9 : decode jdk_42_method_150_code 9 = .ok (.aload_n 1, 1) := by decide +kernel
theorem d21_10 : decode jdk_42_method_150_code 10 = .ok (.invokevirtual 549, 3) := by decide +kernel
theorem d21_13 : decode jdk_42_method_150_code 13 = .ok (.istore 4, 2) := by decide +kernel
theorem d21_15 : decode jdk_42_method_150_code 15 = .ok (.aload_n 1, 1) := by decide +kernel
theorem d21_16 : decode jdk_42_method_150_code 16 = .ok (.invokevirtual 1047, 3) := by decide +kernel
theorem d21_19 : decode jdk_42_method_150_code 19 = .ok (.ifCond .eq 22, 3) := by decide +kernel
theorem d21_22 : decode jdk_42_method_150_code 22 = .ok (.aload_n 0, 1) := by decide +kernel
theorem d21_23 : decode jdk_42_method_150_code 23 = .ok (.iconst 0, 1) := by decide +kernel
theorem d21_24 : decode jdk_42_method_150_code 24 = .ok (.putfield 15, 3) := by decide +kernel
theorem d21_27 : decode jdk_42_method_150_code 27 = .ok (.aload_n 0, 1) := by decide +kernel
theorem d21_28 : decode jdk_42_method_150_code 28 = .ok (.aload_n 3, 1) := by decide +kernel
theorem d21_29 : decode jdk_42_method_150_code 29 = .ok (.iconst 0, 1) := by decide +kernel
theorem d21_30 : decode jdk_42_method_150_code 30 = .ok (.iload 4, 2) := by decide +kernel
theorem d21_32 : decode jdk_42_method_150_code 32 = .ok (.invokestatic 54, 3) := by decide +kernel
theorem d21_35 : decode jdk_42_method_150_code 35 = .ok (.putfield 9, 3) := by decide +kernel
theorem d21_38 : decode jdk_42_method_150_code 38 = .ok (.goto 59, 3) := by decide +kernel
theorem d21_97 : decode jdk_42_method_150_code 97 = .ok (.return_, 1) := by decide +kernel
theorem d22_0 : decode jdk_68_method_64_code 0 = .ok (.aload_n 0, 1) := by decide +kernel
theorem d22_1 : decode jdk_68_method_64_code 1 = .ok (.getfield 15, 3) := by decide +kernel
theorem d22_4 : decode jdk_68_method_64_code 4 = .ok (.areturn, 1) := by decide +kernel
theorem d23_0 : decode jdk_67_method_93_code 0 = .ok (.aload_n 0, 1) := by decide +kernel
theorem d23_1 : decode jdk_67_method_93_code 1 = .ok (.invokespecial 343, 3) := by decide +kernel
theorem d23_4 : decode jdk_67_method_93_code 4 = .ok (.ireturn, 1) := by decide +kernel
theorem d24_0 : decode jdk_68_method_6_code 0 = .ok (.aload_n 0, 1) := by decide +kernel
theorem d24_1 : decode jdk_68_method_6_code 1 = .ok (.getfield 79, 3) := by decide +kernel
theorem d24_4 : decode jdk_68_method_6_code 4 = .ok (.ireturn, 1) := by decide +kernel
theorem d25_0 : decode jdk_65_method_132_code 0 = .ok (.iload_n 1, 1) := by decide +kernel
theorem d25_1 : decode jdk_65_method_132_code 1 = .ok (.ifCond .ne 9, 3) := by decide +kernel
theorem d25_4 : decode jdk_65_method_132_code 4 = .ok (.iload_n 2, 1) := by decide +kernel
theorem d25_5 : decode jdk_65_method_132_code 5 = .ok (.aload_n 0, 1) := by decide +kernel
theorem d25_6 : decode jdk_65_method_132_code 6 = .ok (.arraylength, 1) := by decide +kernel
theorem d25_7 : decode jdk_65_method_132_code 7 = .ok (.if_icmp .eq 10, 3) := by decide +kernel
theorem d25_10 : decode jdk_65_method_132_code 10 = .ok (.aload_n 0, 1) := by decide +kernel
theorem d25_11 : decode jdk_65_method_132_code 11 = .ok (.iload_n 1, 1) := by decide +kernel
theorem d25_12 : decode jdk_65_method_132_code 12 = .ok (.iload_n 2, 1) := by decide +kernel
theorem d25_13 : decode jdk_65_method_132_code 13 = .ok (.invokestatic 339, 3) := by decide +kernel
theorem d25_16 : decode jdk_65_method_132_code 16 = .ok (.areturn, 1) := by decide +kernel
theorem d25_17 : decode jdk_65_method_132_code 17 = .ok (.aload_n 0, 1) := by decide +kernel
theorem d25_18 : decode jdk_65_method_132_code 18 = .ok (.invokevirtual 310, 3) := by decide +kernel
theorem d25_21 : decode jdk_65_method_132_code 21 = .ok (.checkcast 311, 3) := by decide +kernel
theorem d25_24 : decode jdk_65_method_132_code 24 = .ok (.areturn, 1) := by decide +kernel
theorem d26_0 : decode jdk_65_method_133_code 0 = .ok (.iload_n 1, 1) := by decide +kernel
theorem d26_1 : decode jdk_65_method_133_code 1 = .ok (.iload_n 2, 1) := by decide +kernel
theorem d26_2 : decode jdk_65_method_133_code 2 = .ok (.invokestatic 343, 3) := by decide +kernel
theorem d26_5 : decode jdk_65_method_133_code 5 = .ok (.iload_n 2, 1) := by decide +kernel
theorem d26_6 : decode jdk_65_method_133_code 6 = .ok (.iload_n 1, 1) := by decide +kernel
theorem d26_7 : decode jdk_65_method_133_code 7 = .ok (.isub, 1) := by decide +kernel
theorem d26_8 : decode jdk_65_method_133_code 8 = .ok (.istore_n 3, 1) := by decide +kernel
theorem d26_9 : decode jdk_65_method_133_code 9 = .ok (.iload_n 3, 1) := by decide +kernel
theorem d26_10 : decode jdk_65_method_133_code 10 = .ok (.newarray .byte, 2) := by decide +kernel
theorem d26_12 : decode jdk_65_method_133_code 12 = .ok (.astore 4, 2) := by decide +kernel
theorem d26_14 : decode jdk_65_method_133_code 14 = .ok (.aload_n 0, 1) := by decide +kernel
theorem d26_15 : decode jdk_65_method_133_code 15 = .ok (.iload_n 1, 1) := by decide +kernel
theorem d26_16 : decode jdk_65_method_133_code 16 = .ok (.aload 4, 2) := by decide +kernel
theorem d26_18 : decode jdk_65_method_133_code 18 = .ok (.iconst 0, 1) := by decide +kernel
theorem d26_19 : decode jdk_65_method_133_code 19 = .ok (.aload_n 0, 1) := by decide +kernel
theorem d26_20 : decode jdk_65_method_133_code 20 = .ok (.arraylength, 1) := by decide +kernel
theorem d26_21 : decode jdk_65_method_133_code 21 = .ok (.iload_n 1, 1) := by decide +kernel
theorem d26_22 : decode jdk_65_method_133_code 22 = .ok (.isub, 1) := by decide +kernel
theorem d26_23 : decode jdk_65_method_133_code 23 = .ok (.iload_n 3, 1) := by decide +kernel
theorem d26_24 : decode jdk_65_method_133_code 24 = .ok (.invokestatic 304, 3) := by decide +kernel
theorem d26_27 : decode jdk_65_method_133_code 27 = .ok (.invokestatic 150, 3) := by decide +kernel
theorem d26_30 : decode jdk_65_method_133_code 30 = .ok (.aload 4, 2) := by decide +kernel
theorem d26_32 : decode jdk_65_method_133_code 32 = .ok (.areturn, 1) := by decide +kernel
theorem d27_0 : decode jdk_65_method_131_code 0 = .ok (.iload_n 1, 1) := by decide +kernel
theorem d27_1 : decode jdk_65_method_131_code 1 = .ok (.iload_n 0, 1) := by decide +kernel
theorem d27_2 : decode jdk_65_method_131_code 2 = .ok (.if_icmp .ge 35, 3) := by decide +kernel
theorem d27_37 : decode jdk_65_method_131_code 37 = .ok (.return_, 1) := by decide +kernel
theorem d28_0 : decode jdk_29_method_69_code 0 = .ok (.iload_n 0, 1) := by decide +kernel
theorem d28_1 : decode jdk_29_method_69_code 1 = .ok (.iload_n 1, 1) := by decide +kernel
theorem d28_2 : decode jdk_29_method_69_code 2 = .ok (.if_icmp .gt 7, 3) := by decide +kernel
theorem d28_5 : decode jdk_29_method_69_code 5 = .ok (.iload_n 0, 1) := by decide +kernel
theorem d28_6 : decode jdk_29_method_69_code 6 = .ok (.goto 4, 3) := by decide +kernel
theorem d28_9 : decode jdk_29_method_69_code 9 = .ok (.iload_n 1, 1) := by decide +kernel
theorem d28_10 : decode jdk_29_method_69_code 10 = .ok (.ireturn, 1) := by decide +kernel
theorem d29_0 : decode jdk_42_method_56_code 0 = .ok (.aload_n 0, 1) := by decide +kernel
theorem d29_1 : decode jdk_42_method_56_code 1 = .ok (.invokevirtual 492, 3) := by decide +kernel
theorem d29_4 : decode jdk_42_method_56_code 4 = .ok (.ifCond .eq 12, 3) := by decide +kernel
theorem d29_7 : decode jdk_42_method_56_code 7 = .ok (.aload_n 0, 1) := by decide +kernel
theorem d29_8 : decode jdk_42_method_56_code 8 = .ok (.getfield 9, 3) := by decide +kernel
theorem d29_11 : decode jdk_42_method_56_code 11 = .ok (.iload_n 1, 1) := by decide +kernel
theorem d29_12 : decode jdk_42_method_56_code 12 = .ok (.invokestatic 495, 3) := by decide +kernel
theorem d29_15 : decode jdk_42_method_56_code 15 = .ok (.ireturn, 1) := by decide +kernel
theorem d30_0 : decode jdk_42_method_154_code 0 = .ok (.getstatic 38, 3) := by decide +kernel
theorem d30_3 : decode jdk_42_method_154_code 3 = .ok (.ifCond .eq 14, 3) := by decide +kernel
theorem d30_6 : decode jdk_42_method_154_code 6 = .ok (.aload_n 0, 1) := by decide +kernel
theorem d30_7 : decode jdk_42_method_154_code 7 = .ok (.getfield 15, 3) := by decide +kernel
theorem d30_10 : decode jdk_42_method_154_code 10 = .ok (.ifCond .ne 7, 3) := by decide +kernel
theorem d30_13 : decode jdk_42_method_154_code 13 = .ok (.iconst 1, 1) := by decide +kernel
theorem d30_14 : decode jdk_42_method_154_code 14 = .ok (.goto 4, 3) := by decide +kernel
theorem d30_18 : decode jdk_42_method_154_code 18 = .ok (.ireturn, 1) := by decide +kernel
theorem d31_0 : decode jdk_43_method_2_code 0 = .ok (.iload_n 1, 1) := by decide +kernel
theorem d31_1 : decode jdk_43_method_2_code 1 = .ok (.aload_n 0, 1) := by decide +kernel
theorem d31_2 : decode jdk_43_method_2_code 2 = .ok (.arraylength, 1) := by decide +kernel
theorem d31_3 : decode jdk_43_method_2_code 3 = .ok (.invokestatic 9, 3) := by decide +kernel
theorem d31_6 : decode jdk_43_method_2_code 6 = .ok (.aload_n 0, 1) := by decide +kernel
theorem d31_7 : decode jdk_43_method_2_code 7 = .ok (.iload_n 1, 1) := by decide +kernel
theorem d31_8 : decode jdk_43_method_2_code 8 = .ok (.baload, 1) := by decide +kernel
theorem d31_9 : decode jdk_43_method_2_code 9 = .ok (.sipush 255, 3) := by decide +kernel
theorem d31_12 : decode jdk_43_method_2_code 12 = .ok (.iand, 1) := by decide +kernel
theorem d31_13 : decode jdk_43_method_2_code 13 = .ok (.i2c, 1) := by decide +kernel
theorem d31_14 : decode jdk_43_method_2_code 14 = .ok (.ireturn, 1) := by decide +kernel
theorem d32_0 : decode jdk_42_method_155_code 0 = .ok (.iload_n 0, 1) := by decide +kernel
theorem d32_1 : decode jdk_42_method_155_code 1 = .ok (.iload_n 1, 1) := by decide +kernel
theorem d32_2 : decode jdk_42_method_155_code 2 = .ok (.getstatic 1053, 3) := by decide +kernel
theorem d32_5 : decode jdk_42_method_155_code 5 = .ok (.invokestatic 1059, 3) := by decide +kernel
theorem d32_8 : decode jdk_42_method_155_code 8 = .ok (.pop, 1) := by decide +kernel
theorem d32_9 : decode jdk_42_method_155_code 9 = .ok (.return_, 1) := by decide +kernel
theorem d33_0 : decode jdk_41_method_11_code 0 = .ok (.iload_n 0, 1) := by decide +kernel
theorem d33_1 : decode jdk_41_method_11_code 1 = .ok (.ifCond .lt 8, 3) := by decide +kernel
theorem d33_4 : decode jdk_41_method_11_code 4 = .ok (.iload_n 0, 1) := by decide +kernel
theorem d33_5 : decode jdk_41_method_11_code 5 = .ok (.iload_n 1, 1) := by decide +kernel
theorem d33_6 : decode jdk_41_method_11_code 6 = .ok (.if_icmp .lt 10, 3) := by decide +kernel
theorem d33_16 : decode jdk_41_method_11_code 16 = .ok (.iload_n 0, 1) := by decide +kernel
theorem d33_17 : decode jdk_41_method_11_code 17 = .ok (.ireturn, 1) := by decide +kernel
theorem d34_0 : decode method_3_code 0 = .ok (.iload 6, 2) := by decide +kernel
theorem d34_2 : decode method_3_code 2 = .ok (.iload_n 1, 1) := by decide +kernel
theorem d34_3 : decode method_3_code 3 = .ok (.if_icmp .lt 5, 3) := by decide +kernel
theorem d34_6 : decode method_3_code 6 = .ok (.iconst 1, 1) := by decide +kernel
theorem d34_7 : decode method_3_code 7 = .ok (.ireturn, 1) := by decide +kernel
theorem d34_8 : decode method_3_code 8 = .ok (.aload_n 0, 1) := by decide +kernel
theorem d34_9 : decode method_3_code 9 = .ok (.iload_n 1, 1) := by decide +kernel
theorem d34_10 : decode method_3_code 10 = .ok (.iconst 1, 1) := by decide +kernel
theorem d34_11 : decode method_3_code 11 = .ok (.isub, 1) := by decide +kernel
theorem d34_12 : decode method_3_code 12 = .ok (.iload 6, 2) := by decide +kernel
theorem d34_14 : decode method_3_code 14 = .ok (.isub, 1) := by decide +kernel
theorem d34_15 : decode method_3_code 15 = .ok (.invokevirtual 31, 3) := by decide +kernel
theorem d34_18 : decode method_3_code 18 = .ok (.istore 7, 2) := by decide +kernel
theorem d34_20 : decode method_3_code 20 = .ok (.iload 7, 2) := by decide +kernel
theorem d34_22 : decode method_3_code 22 = .ok (.bipush 48, 2) := by decide +kernel
theorem d34_24 : decode method_3_code 24 = .ok (.lload_n 2, 1) := by decide +kernel
theorem d34_25 : decode method_3_code 25 = .ok (.lload 4, 2) := by decide +kernel
theorem d34_27 : decode method_3_code 27 = .ok (.ldiv, 1) := by decide +kernel
theorem d34_28 : decode method_3_code 28 = .ok (.ldc2_w 7, 3) := by decide +kernel
theorem d34_31 : decode method_3_code 31 = .ok (.lrem, 1) := by decide +kernel
theorem d34_32 : decode method_3_code 32 = .ok (.l2i, 1) := by decide +kernel
theorem d34_33 : decode method_3_code 33 = .ok (.iadd, 1) := by decide +kernel
theorem d34_34 : decode method_3_code 34 = .ok (.i2c, 1) := by decide +kernel
theorem d34_35 : decode method_3_code 35 = .ok (.if_icmp .ne 7, 3) := by decide +kernel
theorem d34_38 : decode method_3_code 38 = .ok (.iconst 1, 1) := by decide +kernel
theorem d34_39 : decode method_3_code 39 = .ok (.goto 4, 3) := by decide +kernel
theorem d34_43 : decode method_3_code 43 = .ok (.ireturn, 1) := by decide +kernel
theorem d35_0 : decode jdk_68_method_10_code 0 = .ok (.aload_n 0, 1) := by decide +kernel
theorem d35_1 : decode jdk_68_method_10_code 1 = .ok (.getfield 15, 3) := by decide +kernel
theorem d35_4 : decode jdk_68_method_10_code 4 = .ok (.arraylength, 1) := by decide +kernel
theorem d35_5 : decode jdk_68_method_10_code 5 = .ok (.istore_n 2, 1) := by decide +kernel
theorem d35_6 : decode jdk_68_method_10_code 6 = .ok (.iload_n 1, 1) := by decide +kernel
theorem d35_7 : decode jdk_68_method_10_code 7 = .ok (.aload_n 0, 1) := by decide +kernel
theorem d35_8 : decode jdk_68_method_10_code 8 = .ok (.getfield 22, 3) := by decide +kernel
theorem d35_11 : decode jdk_68_method_10_code 11 = .ok (.ishl, 1) := by decide +kernel
theorem d35_12 : decode jdk_68_method_10_code 12 = .ok (.istore_n 3, 1) := by decide +kernel
theorem d35_13 : decode jdk_68_method_10_code 13 = .ok (.iload_n 3, 1) := by decide +kernel
theorem d35_14 : decode jdk_68_method_10_code 14 = .ok (.iload_n 2, 1) := by decide +kernel
theorem d35_15 : decode jdk_68_method_10_code 15 = .ok (.isub, 1) := by decide +kernel
theorem d35_16 : decode jdk_68_method_10_code 16 = .ok (.istore 4, 2) := by decide +kernel
theorem d35_18 : decode jdk_68_method_10_code 18 = .ok (.iload_n 2, 1) := by decide +kernel
theorem d35_19 : decode jdk_68_method_10_code 19 = .ok (.iload 4, 2) := by decide +kernel
theorem d35_21 : decode jdk_68_method_10_code 21 = .ok (.iload_n 2, 1) := by decide +kernel
theorem d35_22 : decode jdk_68_method_10_code 22 = .ok (.iconst 2, 1) := by decide +kernel
theorem d35_23 : decode jdk_68_method_10_code 23 = .ok (.aload_n 0, 1) := by decide +kernel
theorem d35_24 : decode jdk_68_method_10_code 24 = .ok (.getfield 22, 3) := by decide +kernel
theorem d35_27 : decode jdk_68_method_10_code 27 = .ok (.ishl, 1) := by decide +kernel
theorem d35_28 : decode jdk_68_method_10_code 28 = .ok (.iadd, 1) := by decide +kernel
theorem d35_29 : decode jdk_68_method_10_code 29 = .ok (.invokestatic 114, 3) := by decide +kernel
theorem d35_32 : decode jdk_68_method_10_code 32 = .ok (.istore 5, 2) := by decide +kernel
theorem d35_34 : decode jdk_68_method_10_code 34 = .ok (.iload 5, 2) := by decide +kernel
theorem d35_36 : decode jdk_68_method_10_code 36 = .ok (.ldc 39, 2) := by decide +kernel
theorem d35_38 : decode jdk_68_method_10_code 38 = .ok (.if_icmp .ne 13, 3) := by decide +kernel
theorem d35_51 : decode jdk_68_method_10_code 51 = .ok (.iload 5, 2) := by decide +kernel
theorem d35_53 : decode jdk_68_method_10_code 53 = .ok (.aload_n 0, 1) := by decide +kernel
theorem d35_54 : decode jdk_68_method_10_code 54 = .ok (.getfield 22, 3) := by decide +kernel
theorem d35_57 : decode jdk_68_method_10_code 57 = .ok (.ishr, 1) := by decide +kernel
theorem d35_58 : decode jdk_68_method_10_code 58 = .ok (.ireturn, 1) := by decide +kernel
theorem d36_0 : decode jdk_48_method_27_code 0 = .ok (.iload_n 0, 1) := by decide +kernel
theorem d36_1 : decode jdk_48_method_27_code 1 = .ok (.iload_n 1, 1) := by decide +kernel
theorem d36_2 : decode jdk_48_method_27_code 2 = .ok (.iload_n 2, 1) := by decide +kernel
theorem d36_3 : decode jdk_48_method_27_code 3 = .ok (.invokestatic 194, 3) := by decide +kernel
theorem d36_6 : decode jdk_48_method_27_code 6 = .ok (.iadd, 1) := by decide +kernel
theorem d36_7 : decode jdk_48_method_27_code 7 = .ok (.istore_n 3, 1) := by decide +kernel
theorem d36_8 : decode jdk_48_method_27_code 8 = .ok (.iconst 0, 1) := by decide +kernel
theorem d36_9 : decode jdk_48_method_27_code 9 = .ok (.iload_n 3, 1) := by decide +kernel
theorem d36_10 : decode jdk_48_method_27_code 10 = .ok (.if_icmp .ge 11, 3) := by decide +kernel
theorem d36_13 : decode jdk_48_method_27_code 13 = .ok (.iload_n 3, 1) := by decide +kernel
theorem d36_14 : decode jdk_48_method_27_code 14 = .ok (.ldc 200, 2) := by decide +kernel
theorem d36_16 : decode jdk_48_method_27_code 16 = .ok (.if_icmp .gt 5, 3) := by decide +kernel
theorem d36_19 : decode jdk_48_method_27_code 19 = .ok (.iload_n 3, 1) := by decide +kernel
theorem d36_20 : decode jdk_48_method_27_code 20 = .ok (.ireturn, 1) := by decide +kernel
theorem d37_0 : decode jdk_29_method_65_code 0 = .ok (.iload_n 0, 1) := by decide +kernel
theorem d37_1 : decode jdk_29_method_65_code 1 = .ok (.iload_n 1, 1) := by decide +kernel
theorem d37_2 : decode jdk_29_method_65_code 2 = .ok (.if_icmp .lt 7, 3) := by decide +kernel
theorem d37_9 : decode jdk_29_method_65_code 9 = .ok (.iload_n 1, 1) := by decide +kernel
theorem d37_10 : decode jdk_29_method_65_code 10 = .ok (.ireturn, 1) := by decide +kernel
theorem d38_0 : decode jdk_65_method_121_code 0 = .ok (.iload_n 1, 1) := by decide +kernel
theorem d38_1 : decode jdk_65_method_121_code 1 = .ok (.aload_n 0, 1) := by decide +kernel
theorem d38_2 : decode jdk_65_method_121_code 2 = .ok (.arraylength, 1) := by decide +kernel
theorem d38_3 : decode jdk_65_method_121_code 3 = .ok (.if_icmp .ne 11, 3) := by decide +kernel
theorem d38_14 : decode jdk_65_method_121_code 14 = .ok (.iload_n 1, 1) := by decide +kernel
theorem d38_15 : decode jdk_65_method_121_code 15 = .ok (.newarray .byte, 2) := by decide +kernel
theorem d38_17 : decode jdk_65_method_121_code 17 = .ok (.astore_n 2, 1) := by decide +kernel
theorem d38_18 : decode jdk_65_method_121_code 18 = .ok (.aload_n 0, 1) := by decide +kernel
theorem d38_19 : decode jdk_65_method_121_code 19 = .ok (.iconst 0, 1) := by decide +kernel
theorem d38_20 : decode jdk_65_method_121_code 20 = .ok (.aload_n 2, 1) := by decide +kernel
theorem d38_21 : decode jdk_65_method_121_code 21 = .ok (.iconst 0, 1) := by decide +kernel
theorem d38_22 : decode jdk_65_method_121_code 22 = .ok (.aload_n 0, 1) := by decide +kernel
theorem d38_23 : decode jdk_65_method_121_code 23 = .ok (.arraylength, 1) := by decide +kernel
theorem d38_24 : decode jdk_65_method_121_code 24 = .ok (.iload_n 1, 1) := by decide +kernel
theorem d38_25 : decode jdk_65_method_121_code 25 = .ok (.invokestatic 304, 3) := by decide +kernel
theorem d38_28 : decode jdk_65_method_121_code 28 = .ok (.invokestatic 150, 3) := by decide +kernel
theorem d38_31 : decode jdk_65_method_121_code 31 = .ok (.aload_n 2, 1) := by decide +kernel
theorem d38_32 : decode jdk_65_method_121_code 32 = .ok (.areturn, 1) := by decide +kernel
theorem pd_1 : parseMethodDescriptor "(J)I" = some ⟨[.long], (some .int)⟩ := by decide +kernel
theorem pd_2 : parseMethodDescriptor "(J)Ljava/lang/String;" = some ⟨[.long], (some (.object "java/lang/String"))⟩ := by decide +kernel
theorem pd_3 : parseMethodDescriptor "()V" = some ⟨[], none⟩ := by decide +kernel
theorem pd_4 : parseMethodDescriptor "(I)V" = some ⟨[.int], none⟩ := by decide +kernel
theorem pd_5 : parseMethodDescriptor "()V" = some ⟨[], none⟩ := by decide +kernel
theorem pd_6 : parseMethodDescriptor "(J)Ljava/lang/StringBuilder;" = some ⟨[.long], (some (.object "java/lang/StringBuilder"))⟩ := by decide +kernel
theorem pd_7 : parseMethodDescriptor "(J)Ljava/lang/AbstractStringBuilder;" = some ⟨[.long], (some (.object "java/lang/AbstractStringBuilder"))⟩ := by decide +kernel
theorem pd_8 : parseMethodDescriptor "(J)I" = some ⟨[.long], (some .int)⟩ := by decide +kernel
theorem pd_9 : parseMethodDescriptor "(I)V" = some ⟨[.int], none⟩ := by decide +kernel
theorem pd_10 : parseMethodDescriptor "()Z" = some ⟨[], (some .boolean)⟩ := by decide +kernel
theorem pd_11 : parseMethodDescriptor "(JI[B)I" = some ⟨[.long, .int, .array .byte], (some .int)⟩ := by decide +kernel
theorem pd_12 : parseMethodDescriptor "(Ljava/lang/String;)Ljava/lang/StringBuilder;" = some ⟨[.object "java/lang/String"], (some (.object "java/lang/StringBuilder"))⟩ := by decide +kernel
theorem pd_13 : parseMethodDescriptor "(Ljava/lang/String;)Ljava/lang/AbstractStringBuilder;" = some ⟨[.object "java/lang/String"], (some (.object "java/lang/AbstractStringBuilder"))⟩ := by decide +kernel
theorem pd_14 : parseMethodDescriptor "()I" = some ⟨[], (some .int)⟩ := by decide +kernel
theorem pd_15 : parseMethodDescriptor "()B" = some ⟨[], (some .byte)⟩ := by decide +kernel
theorem pd_16 : parseMethodDescriptor "(ILjava/lang/String;)V" = some ⟨[.int, .object "java/lang/String"], none⟩ := by decide +kernel
theorem pd_17 : parseMethodDescriptor "(Ljava/lang/String;)V" = some ⟨[.object "java/lang/String"], none⟩ := by decide +kernel
theorem pd_18 : parseMethodDescriptor "([BIB)V" = some ⟨[.array .byte, .int, .byte], none⟩ := by decide +kernel
theorem pd_19 : parseMethodDescriptor "()Ljava/lang/String;" = some ⟨[], (some (.object "java/lang/String"))⟩ := by decide +kernel
theorem pd_20 : parseMethodDescriptor "(Ljava/lang/StringBuilder;)V" = some ⟨[.object "java/lang/StringBuilder"], none⟩ := by decide +kernel
theorem pd_21 : parseMethodDescriptor "(Ljava/lang/AbstractStringBuilder;Ljava/lang/Void;)V" = some ⟨[.object "java/lang/AbstractStringBuilder", .object "java/lang/Void"], none⟩ := by decide +kernel
theorem pd_22 : parseMethodDescriptor "()[B" = some ⟨[], (some (.array .byte))⟩ := by decide +kernel
theorem pd_23 : parseMethodDescriptor "()I" = some ⟨[], (some .int)⟩ := by decide +kernel
theorem pd_24 : parseMethodDescriptor "()I" = some ⟨[], (some .int)⟩ := by decide +kernel
theorem pd_25 : parseMethodDescriptor "([BII)[B" = some ⟨[.array .byte, .int, .int], (some (.array .byte))⟩ := by decide +kernel
theorem pd_26 : parseMethodDescriptor "([BII)[B" = some ⟨[.array .byte, .int, .int], (some (.array .byte))⟩ := by decide +kernel
theorem pd_27 : parseMethodDescriptor "(II)V" = some ⟨[.int, .int], none⟩ := by decide +kernel
theorem pd_28 : parseMethodDescriptor "(II)I" = some ⟨[.int, .int], (some .int)⟩ := by decide +kernel
theorem pd_29 : parseMethodDescriptor "(I)C" = some ⟨[.int], (some .char)⟩ := by decide +kernel
theorem pd_30 : parseMethodDescriptor "()Z" = some ⟨[], (some .boolean)⟩ := by decide +kernel
theorem pd_31 : parseMethodDescriptor "([BI)C" = some ⟨[.array .byte, .int], (some .char)⟩ := by decide +kernel
theorem pd_32 : parseMethodDescriptor "(II)V" = some ⟨[.int, .int], none⟩ := by decide +kernel
theorem pd_33 : parseMethodDescriptor "(IILjava/util/function/BiFunction;)I" = some ⟨[.int, .int, .object "java/util/function/BiFunction"], (some .int)⟩ := by decide +kernel
theorem pd_34 : parseMethodDescriptor "(Ljava/lang/String;IJJI)Z" = some ⟨[.object "java/lang/String", .int, .long, .long, .int], (some .boolean)⟩ := by decide +kernel
theorem pd_35 : parseMethodDescriptor "(I)I" = some ⟨[.int], (some .int)⟩ := by decide +kernel
theorem pd_36 : parseMethodDescriptor "(III)I" = some ⟨[.int, .int, .int], (some .int)⟩ := by decide +kernel
theorem pd_37 : parseMethodDescriptor "(II)I" = some ⟨[.int, .int], (some .int)⟩ := by decide +kernel
theorem pd_38 : parseMethodDescriptor "([BI)[B" = some ⟨[.array .byte, .int], (some (.array .byte))⟩ := by decide +kernel
def own_S (Z : State) (h : Heap) (a b : Addr) (kc : ClassId) (N : Int32) (vs : List Value) : Prop := Exa Z h a "java/lang/String" ∧ Fld Z h a "java/lang/String" "coder" "B" (.int 0) ∧ Fld Z h a "java/lang/String" "value" "[B" (.ref b) ∧ Arv Z h b kc .byte N vs (.int 0)
def own_T (Z : State) (h : Heap) (z : Int32) (g : Value) : Prop := Sta Z h "java/lang/String" "COMPACT_STRINGS" "Z" (.int z) ∧ ¬ z = 0 ∧ Sta Z h "jdk/internal/util/Preconditions" "SIOOBE_FORMATTER" "Ljava/util/function/BiFunction;" g ∧ g.isRef = true
theorem own_S_ext {Z : State} {h h' : Heap} {a b : Addr} {kc : ClassId} {N : Int32} {vs : List Value} (E : Ext h h') (S : own_S Z h a b kc N vs) : own_S Z h' a b kc N vs := ⟨S.1.ext E, S.2.1.ext E, S.2.2.1.ext E, S.2.2.2.ext E⟩
theorem own_T_ext {Z : State} {h h' : Heap} {z : Int32} {g : Value} (E : Ext h h') (T : own_T Z h z g) : own_T Z h' z g := ⟨T.1.ext E, T.2.1, T.2.2.1.ext E, T.2.2.2⟩
theorem own_sh0 (x : Int32) : x >>> ((0 : Int32) &&& 31) = x := by
  have e : (0 : Int32) &&& 31 = 0 := by decide
  rw [e]; exact Int32.shiftRight_zero
theorem own_256 (P : Int32 → Prop) (H : ∀ n : Fin 256, P (Int32.ofNat n.val)) {x : Int32} (h0 : ¬ x < 0) (h1 : ¬ 255 < x) : P x := by
  have a0 : 0 ≤ x.toInt := by
    rcases Int.lt_or_le x.toInt 0 with q | q
    · exact absurd (Int32.lt_iff_toInt_lt.mpr q) h0
    · exact q
  have a1 : x.toInt ≤ 255 := by
    rcases Int.lt_or_le 255 x.toInt with q | q
    · exact absurd (Int32.lt_iff_toInt_lt.mpr (show (255 : Int32).toInt < x.toInt from q)) h1
    · exact q
  have e : x = Int32.ofNat x.toInt.toNat := by
    apply Int32.toInt_inj.mp
    rw [Int32.toInt_ofNat_of_lt (by omega)]
    omega
  rw [e]
  exact H ⟨x.toInt.toNat, by omega⟩
theorem own_lo8 {x : Int32} (h0 : ¬ x < 0) (h1 : ¬ 255 < x) : x.toInt8.toInt32 &&& 255 = x := own_256 (fun x => x.toInt8.toInt32 &&& 255 = x) (by decide +kernel) h0 h1
theorem own_c16 {x : Int32} (h0 : ¬ x < 0) (h1 : ¬ 255 < x) : x.toUInt32.toUInt16.toUInt32.toInt32 = x := own_256 (fun x => x.toUInt32.toUInt16.toUInt32.toInt32 = x) (by decide +kernel) h0 h1
set_option maxRecDepth 65536 in
theorem cod_b (p : Program) (l : Launch) (e : Env) (s : State) (m : MethodId) (args : Array Value) (below : List Frame) (meth : Method) (c : Code) (Z : State) (a0 : Array Value) (h : Heap) (hw : ∀ d ∈ tables_1, d.before a0 Z = true) (a b : Addr) (kc : ClassId) (N : Int32) (vs : List Value) (z : Int32) (g : Value) (S : own_S Z h a b kc N vs) (T : own_T Z h z g) (K : own_C p s m meth c Z jdk_42_method_152_code "java/lang/String" (some .byte) 1) :
    own_E p l e { frames := 0, cells := 0, slots := 0, locals := 0 } s m args below meth c h [] 0 0 0 #[.val (.ref a)] [] (own_P s below h (some (.int (0 : Int32)))) := by
  refine own_getS K (pc := 0) (hw _ (List.mem_of_getElem? (i := 99) rfl)) T.1 d15_0 ?_
  refine own_ifN K (pc := 3) d15_3 (by rw [if0]; exact (feq T.2.1).1) ?_
  refine own_aloadN K (pc := 6) d15_6 rfl rfl ?_
  refine own_getF K (pc := 7) (hw _ (List.mem_of_getElem? (i := 100) rfl)) S.2.1 d15_7 ?_
  refine own_goto K (pc := 10) (pc' := 14) d15_10 (by decide) (by decide) ?_
  exact own_retB K (pc := 14) d15_14 (by decide)
theorem cod (l : Launch) (Z : State) (a0 : Array Value) (h : Heap) (hw : ∀ d ∈ tables_1, d.before a0 Z = true) (a b : Addr) (kc : ClassId) (N : Int32) (vs : List Value) (z : Int32) (g : Value) (S : own_S Z h a b kc N vs) (T : own_T Z h z g) : own_M l (⟨"java/lang/String", "coder", "()B"⟩ : MethodName) jdk_42_method_152_code 1 (some .byte) [] { frames := 0, cells := 0, slots := 0, locals := 0 } Z h #[(.ref a)] (some (.int (0 : Int32))) := by
  refine own_met (by decide +kernel) rfl rfl (Ls := #[.val (.ref a)]) (fun m => by first | (simp [entryFrame, mkF, argsToLocals, Value.category]; done) | rfl | (rcases ref_cases hg with rfl | ⟨y, rfl⟩ <;> first | (simp [entryFrame, mkF, argsToLocals, Value.category]; done) | rfl)) ?_
  intro p e s m below meth c K
  exact cod_b p l e s m _ below meth c Z a0 h hw a b kc N vs z g S T K
set_option maxRecDepth 65536 in
theorem lat_b (p : Program) (l : Launch) (e : Env) (s : State) (m : MethodId) (args : Array Value) (below : List Frame) (meth : Method) (c : Code) (Z : State) (a0 : Array Value) (h : Heap) (hw : ∀ d ∈ tables_1, d.before a0 Z = true) (a b : Addr) (kc : ClassId) (N : Int32) (vs : List Value) (z : Int32) (g : Value) (S : own_S Z h a b kc N vs) (T : own_T Z h z g) (K : own_C p s m meth c Z jdk_42_method_154_code "java/lang/String" (some .boolean) 1) :
    own_E p l e { frames := 0, cells := 0, slots := 0, locals := 0 } s m args below meth c h [] 0 0 0 #[.val (.ref a)] [] (own_P s below h (some (.int (1 : Int32)))) := by
  refine own_getS K (pc := 0) (hw _ (List.mem_of_getElem? (i := 99) rfl)) T.1 d30_0 ?_
  refine own_ifN K (pc := 3) d30_3 (by rw [if0]; exact (feq T.2.1).1) ?_
  refine own_aloadN K (pc := 6) d30_6 rfl rfl ?_
  refine own_getF K (pc := 7) (hw _ (List.mem_of_getElem? (i := 100) rfl)) S.2.1 d30_7 ?_
  refine own_ifN K (pc := 10) d30_10 (by decide) ?_
  refine own_iconst K (pc := 13) d30_13 (x := (1 : Int32)) (by decide) ?_
  refine own_goto K (pc := 14) (pc' := 18) d30_14 (by decide) (by decide) ?_
  exact own_retZ K (pc := 18) d30_18 (by decide)
theorem lat (l : Launch) (Z : State) (a0 : Array Value) (h : Heap) (hw : ∀ d ∈ tables_1, d.before a0 Z = true) (a b : Addr) (kc : ClassId) (N : Int32) (vs : List Value) (z : Int32) (g : Value) (S : own_S Z h a b kc N vs) (T : own_T Z h z g) : own_M l (⟨"java/lang/String", "isLatin1", "()Z"⟩ : MethodName) jdk_42_method_154_code 1 (some .boolean) [] { frames := 0, cells := 0, slots := 0, locals := 0 } Z h #[(.ref a)] (some (.int (1 : Int32))) := by
  refine own_met (by decide +kernel) rfl rfl (Ls := #[.val (.ref a)]) (fun m => by first | (simp [entryFrame, mkF, argsToLocals, Value.category]; done) | rfl | (rcases ref_cases hg with rfl | ⟨y, rfl⟩ <;> first | (simp [entryFrame, mkF, argsToLocals, Value.category]; done) | rfl)) ?_
  intro p e s m below meth c K
  exact lat_b p l e s m _ below meth c Z a0 h hw a b kc N vs z g S T K
set_option maxRecDepth 65536 in
theorem len_b (p : Program) (l : Launch) (e : Env) (s : State) (m : MethodId) (args : Array Value) (below : List Frame) (meth : Method) (c : Code) (Z : State) (a0 : Array Value) (h : Heap) (hw : ∀ d ∈ tables_1, d.before a0 Z = true) (a b : Addr) (kc : ClassId) (N : Int32) (vs : List Value) (z : Int32) (g : Value) (S : own_S Z h a b kc N vs) (T : own_T Z h z g) (K : own_C p s m meth c Z jdk_42_method_54_code "java/lang/String" (some .int) 1) :
    own_E p l e { frames := 1, cells := 0, slots := 0, locals := 13 } s m args below meth c h [] 0 0 0 #[.val (.ref a)] [] (own_P s below h (some (.int N))) := by
  refine own_aloadN K (pc := 0) d14_0 rfl rfl ?_
  refine own_getF K (pc := 1) (hw _ (List.mem_of_getElem? (i := 93) rfl)) S.2.2.1 d14_1 ?_
  refine own_alen K (pc := 4) S.2.2.2 d14_4 ?_
  refine own_aloadN K (pc := 5) d14_5 rfl rfl ?_
  refine own_callV K (pc := 6) (W := 1) (rest := [(.int N)]) (argsL := []) (u := (.int (0 : Int32))) rfl rfl (cod l Z a0 h hw a b kc N vs z g S T) S.1 (hw _ (List.mem_of_getElem? (i := 94) rfl)) (hw _ (List.mem_of_getElem? (i := 95) rfl)) (hw _ (List.mem_of_getElem? (i := 97) rfl)) (hw _ (List.mem_of_getElem? (i := 96) rfl)) (hw _ (List.mem_of_getElem? (i := 98) rfl)) (hw _ (List.mem_of_getElem? (i := 33) rfl)) (by decide) d14_6 pd_15 rfl rfl rfl (Nat.le_of_eq rfl) (by decide) (by decide) (Nat.zero_le _) (Nat.zero_le _) ?_
  refine own_ishr K (pc := 9) d14_9 ?_
  rw [own_sh0]
  exact own_retI K (pc := 10) d14_10 rfl
theorem len (l : Launch) (Z : State) (a0 : Array Value) (h : Heap) (hw : ∀ d ∈ tables_1, d.before a0 Z = true) (a b : Addr) (kc : ClassId) (N : Int32) (vs : List Value) (z : Int32) (g : Value) (S : own_S Z h a b kc N vs) (T : own_T Z h z g) : own_M l (⟨"java/lang/String", "length", "()I"⟩ : MethodName) jdk_42_method_54_code 1 (some .int) [] { frames := 1, cells := 0, slots := 0, locals := 13 } Z h #[(.ref a)] (some (.int N)) := by
  refine own_met (by decide +kernel) rfl rfl (Ls := #[.val (.ref a)]) (fun m => by first | (simp [entryFrame, mkF, argsToLocals, Value.category]; done) | rfl | (rcases ref_cases hg with rfl | ⟨y, rfl⟩ <;> first | (simp [entryFrame, mkF, argsToLocals, Value.category]; done) | rfl)) ?_
  intro p e s m below meth c K
  exact len_b p l e s m _ below meth c Z a0 h hw a b kc N vs z g S T K
set_option maxRecDepth 65536 in
theorem pci_b (p : Program) (l : Launch) (e : Env) (s : State) (m : MethodId) (args : Array Value) (below : List Frame) (meth : Method) (c : Code) (Z : State) (a0 : Array Value) (h : Heap) (hw : ∀ d ∈ tables_1, d.before a0 Z = true) (i N : Int32) (h1 : ¬ i < 0) (h2 : i < N) (g : Value) (hg : g.isRef = true) (K : own_C p s m meth c Z jdk_41_method_11_code "jdk/internal/util/Preconditions" (some .int) 3) :
    own_E p l e { frames := 0, cells := 0, slots := 0, locals := 0 } s m args below meth c h [] 0 0 0 #[.val (.int i), .val (.int N), .val g] [] (own_P s below h (some (.int i))) := by
  refine own_iloadN K (pc := 0) d33_0 rfl ?_
  refine own_ifN K (pc := 1) d33_1 (by rw [if0]; exact (flt h1).1) ?_
  refine own_iloadN K (pc := 4) d33_4 rfl ?_
  refine own_iloadN K (pc := 5) d33_5 rfl ?_
  refine own_icmpY K (pc := 6) (pc' := 16) d33_6 (tlt h2).1 (by decide) (by decide) ?_
  refine own_iloadN K (pc := 16) d33_16 rfl ?_
  exact own_retI K (pc := 17) d33_17 rfl
theorem pci (l : Launch) (Z : State) (a0 : Array Value) (h : Heap) (hw : ∀ d ∈ tables_1, d.before a0 Z = true) (i N : Int32) (h1 : ¬ i < 0) (h2 : i < N) (g : Value) (hg : g.isRef = true) : own_M l (⟨"jdk/internal/util/Preconditions", "checkIndex", "(IILjava/util/function/BiFunction;)I"⟩ : MethodName) jdk_41_method_11_code 3 (some .int) [] { frames := 0, cells := 0, slots := 0, locals := 0 } Z h #[(.int i), (.int N), g] (some (.int i)) := by
  refine own_met (by decide +kernel) rfl rfl (Ls := #[.val (.int i), .val (.int N), .val g]) (fun m => by first | (simp [entryFrame, mkF, argsToLocals, Value.category]; done) | rfl | (rcases ref_cases hg with rfl | ⟨y, rfl⟩ <;> first | (simp [entryFrame, mkF, argsToLocals, Value.category]; done) | rfl)) ?_
  intro p e s m below meth c K
  exact pci_b p l e s m _ below meth c Z a0 h hw i N h1 h2 g hg K
set_option maxRecDepth 65536 in
theorem sci_b (p : Program) (l : Launch) (e : Env) (s : State) (m : MethodId) (args : Array Value) (below : List Frame) (meth : Method) (c : Code) (Z : State) (a0 : Array Value) (h : Heap) (hw : ∀ d ∈ tables_1, d.before a0 Z = true) (i N : Int32) (h1 : ¬ i < 0) (h2 : i < N) (z : Int32) (g : Value) (T : own_T Z h z g) (K : own_C p s m meth c Z jdk_42_method_155_code "java/lang/String" none 2) :
    own_E p l e { frames := 1, cells := 0, slots := 0, locals := 14 } s m args below meth c h [] 0 0 0 #[.val (.int i), .val (.int N)] [] (own_P s below h none) := by
  refine own_iloadN K (pc := 0) d32_0 rfl ?_
  refine own_iloadN K (pc := 1) d32_1 rfl ?_
  refine own_getS K (pc := 2) (hw _ (List.mem_of_getElem? (i := 183) rfl)) T.2.2.1 d32_2 ?_
  refine own_callS K (pc := 5) (W := 0) (rest := []) (argsL := [(.int i), (.int N), g]) (u := (.int i)) rfl rfl (pci l Z a0 h hw i N h1 h2 g T.2.2.2) (hw _ (List.mem_of_getElem? (i := 185) rfl)) (hw _ (List.mem_of_getElem? (i := 186) rfl)) (hw _ (List.mem_of_getElem? (i := 184) rfl)) (hw _ (List.mem_of_getElem? (i := 187) rfl)) (by decide) d32_5 pd_33 rfl rfl rfl (Nat.le_of_eq rfl) (by decide) (by decide) (Nat.zero_le _) (Nat.zero_le _) ?_
  refine own_pop K (pc := 8) d32_8 rfl ?_
  exact own_retV K (pc := 9) d32_9
theorem sci (l : Launch) (Z : State) (a0 : Array Value) (h : Heap) (hw : ∀ d ∈ tables_1, d.before a0 Z = true) (i N : Int32) (h1 : ¬ i < 0) (h2 : i < N) (z : Int32) (g : Value) (T : own_T Z h z g) : own_M l (⟨"java/lang/String", "checkIndex", "(II)V"⟩ : MethodName) jdk_42_method_155_code 2 none [] { frames := 1, cells := 0, slots := 0, locals := 14 } Z h #[(.int i), (.int N)] none := by
  refine own_met (by decide +kernel) rfl rfl (Ls := #[.val (.int i), .val (.int N)]) (fun m => by first | (simp [entryFrame, mkF, argsToLocals, Value.category]; done) | rfl | (rcases ref_cases hg with rfl | ⟨y, rfl⟩ <;> first | (simp [entryFrame, mkF, argsToLocals, Value.category]; done) | rfl)) ?_
  intro p e s m below meth c K
  exact sci_b p l e s m _ below meth c Z a0 h hw i N h1 h2 z g T K
set_option maxRecDepth 65536 in
theorem lca_b (p : Program) (l : Launch) (e : Env) (s : State) (m : MethodId) (args : Array Value) (below : List Frame) (meth : Method) (c : Code) (Z : State) (a0 : Array Value) (h : Heap) (hw : ∀ d ∈ tables_1, d.before a0 Z = true) (a b : Addr) (kc : ClassId) (N : Int32) (vs : List Value) (z : Int32) (g : Value) (S : own_S Z h a b kc N vs) (T : own_T Z h z g) (i ch : Int32) (h1 : ¬ i < 0) (h2 : i < N) (hv : vs.getD i.toNatClampNeg (.int 0) = .int ch.toInt8.toInt32) (c1 : ¬ ch < 0) (c2 : ¬ 255 < ch) (K : own_C p s m meth c Z jdk_43_method_2_code "java/lang/StringLatin1" (some .char) 2) :
    own_E p l e { frames := 2, cells := 0, slots := 0, locals := 27 } s m args below meth c h [] 0 0 0 #[.val (.ref b), .val (.int i)] [] (own_P s below h (some (.int ch))) := by
  refine own_iloadN K (pc := 0) d31_0 rfl ?_
  refine own_aloadN K (pc := 1) d31_1 rfl rfl ?_
  refine own_alen K (pc := 2) S.2.2.2 d31_2 ?_
  refine own_callSv K (pc := 3) (W := 0) (rest := []) (argsL := [(.int i), (.int N)]) rfl rfl (sci l Z a0 h hw i N h1 h2 z g T) (hw _ (List.mem_of_getElem? (i := 180) rfl)) (hw _ (List.mem_of_getElem? (i := 181) rfl)) (hw _ (List.mem_of_getElem? (i := 33) rfl)) (hw _ (List.mem_of_getElem? (i := 182) rfl)) (by decide) d31_3 pd_32 rfl rfl rfl (Nat.le_of_eq rfl) (by decide) (by decide) (Nat.zero_le _) (Nat.zero_le _) ?_
  refine own_aloadN K (pc := 6) d31_6 rfl rfl ?_
  refine own_iloadN K (pc := 7) d31_7 rfl ?_
  refine own_bald K (pc := 8) S.2.2.2 h1 h2 hv d31_8 ?_
  refine own_sipush K (pc := 9) d31_9 (x := (255 : Int32)) (by decide) ?_
  refine own_iand K (pc := 12) d31_12 ?_
  rw [own_lo8 c1 c2]
  refine own_i2c K (pc := 13) d31_13 ?_
  rw [own_c16 c1 c2]
  exact own_retC K (pc := 14) d31_14 (own_c16 c1 c2)
theorem lca (l : Launch) (Z : State) (a0 : Array Value) (h : Heap) (hw : ∀ d ∈ tables_1, d.before a0 Z = true) (a b : Addr) (kc : ClassId) (N : Int32) (vs : List Value) (z : Int32) (g : Value) (S : own_S Z h a b kc N vs) (T : own_T Z h z g) (i ch : Int32) (h1 : ¬ i < 0) (h2 : i < N) (hv : vs.getD i.toNatClampNeg (.int 0) = .int ch.toInt8.toInt32) (c1 : ¬ ch < 0) (c2 : ¬ 255 < ch) : own_M l (⟨"java/lang/StringLatin1", "charAt", "([BI)C"⟩ : MethodName) jdk_43_method_2_code 2 (some .char) [] { frames := 2, cells := 0, slots := 0, locals := 27 } Z h #[(.ref b), (.int i)] (some (.int ch)) := by
  refine own_met (by decide +kernel) rfl rfl (Ls := #[.val (.ref b), .val (.int i)]) (fun m => by first | (simp [entryFrame, mkF, argsToLocals, Value.category]; done) | rfl | (rcases ref_cases hg with rfl | ⟨y, rfl⟩ <;> first | (simp [entryFrame, mkF, argsToLocals, Value.category]; done) | rfl)) ?_
  intro p e s m below meth c K
  exact lca_b p l e s m _ below meth c Z a0 h hw a b kc N vs z g S T i ch h1 h2 hv c1 c2 K
set_option maxRecDepth 65536 in
theorem cha_b (p : Program) (l : Launch) (e : Env) (s : State) (m : MethodId) (args : Array Value) (below : List Frame) (meth : Method) (c : Code) (Z : State) (a0 : Array Value) (h : Heap) (hw : ∀ d ∈ tables_1, d.before a0 Z = true) (a b : Addr) (kc : ClassId) (N : Int32) (vs : List Value) (z : Int32) (g : Value) (S : own_S Z h a b kc N vs) (T : own_T Z h z g) (i ch : Int32) (h1 : ¬ i < 0) (h2 : i < N) (hv : vs.getD i.toNatClampNeg (.int 0) = .int ch.toInt8.toInt32) (c1 : ¬ ch < 0) (c2 : ¬ 255 < ch) (K : own_C p s m meth c Z jdk_42_method_56_code "java/lang/String" (some .char) 2) :
    own_E p l e { frames := 3, cells := 0, slots := 0, locals := 40 } s m args below meth c h [] 0 0 0 #[.val (.ref a), .val (.int i)] [] (own_P s below h (some (.int ch))) := by
  refine own_aloadN K (pc := 0) d29_0 rfl rfl ?_
  refine own_callV K (pc := 1) (W := 0) (rest := []) (argsL := []) (u := (.int (1 : Int32))) rfl rfl (lat l Z a0 h hw a b kc N vs z g S T) S.1 (hw _ (List.mem_of_getElem? (i := 171) rfl)) (hw _ (List.mem_of_getElem? (i := 172) rfl)) (hw _ (List.mem_of_getElem? (i := 174) rfl)) (hw _ (List.mem_of_getElem? (i := 173) rfl)) (hw _ (List.mem_of_getElem? (i := 175) rfl)) (hw _ (List.mem_of_getElem? (i := 33) rfl)) (by decide) d29_1 pd_30 rfl rfl rfl (Nat.le_of_eq rfl) (by decide) (by decide) (Nat.zero_le _) (Nat.zero_le _) ?_
  refine own_ifN K (pc := 4) d29_4 (by decide) ?_
  refine own_aloadN K (pc := 7) d29_7 rfl rfl ?_
  refine own_getF K (pc := 8) (hw _ (List.mem_of_getElem? (i := 93) rfl)) S.2.2.1 d29_8 ?_
  refine own_iloadN K (pc := 11) d29_11 rfl ?_
  refine own_callS K (pc := 12) (W := 0) (rest := []) (argsL := [(.ref b), (.int i)]) (u := (.int ch)) rfl rfl (lca l Z a0 h hw a b kc N vs z g S T i ch h1 h2 hv c1 c2) (hw _ (List.mem_of_getElem? (i := 176) rfl)) (hw _ (List.mem_of_getElem? (i := 177) rfl)) (hw _ (List.mem_of_getElem? (i := 178) rfl)) (hw _ (List.mem_of_getElem? (i := 179) rfl)) (by decide) d29_12 pd_31 rfl rfl rfl (Nat.le_of_eq rfl) (by decide) (by decide) (Nat.zero_le _) (Nat.zero_le _) ?_
  exact own_retC K (pc := 15) d29_15 (own_c16 c1 c2)
theorem cha (l : Launch) (Z : State) (a0 : Array Value) (h : Heap) (hw : ∀ d ∈ tables_1, d.before a0 Z = true) (a b : Addr) (kc : ClassId) (N : Int32) (vs : List Value) (z : Int32) (g : Value) (S : own_S Z h a b kc N vs) (T : own_T Z h z g) (i ch : Int32) (h1 : ¬ i < 0) (h2 : i < N) (hv : vs.getD i.toNatClampNeg (.int 0) = .int ch.toInt8.toInt32) (c1 : ¬ ch < 0) (c2 : ¬ 255 < ch) : own_M l (⟨"java/lang/String", "charAt", "(I)C"⟩ : MethodName) jdk_42_method_56_code 2 (some .char) [] { frames := 3, cells := 0, slots := 0, locals := 40 } Z h #[(.ref a), (.int i)] (some (.int ch)) := by
  refine own_met (by decide +kernel) rfl rfl (Ls := #[.val (.ref a), .val (.int i)]) (fun m => by first | (simp [entryFrame, mkF, argsToLocals, Value.category]; done) | rfl | (rcases ref_cases hg with rfl | ⟨y, rfl⟩ <;> first | (simp [entryFrame, mkF, argsToLocals, Value.category]; done) | rfl)) ?_
  intro p e s m below meth c K
  exact cha_b p l e s m _ below meth c Z a0 h hw a b kc N vs z g S T i ch h1 h2 hv c1 c2 K
theorem own_nlt {i n : Nat} (hi : i ≤ 4000) (hn : n ≤ 4000) : (Int32.ofNat i < Int32.ofNat n) ↔ i < n := by
  rw [Int32.lt_iff_toInt_lt, Int32.toInt_ofNat_of_lt (by omega), Int32.toInt_ofNat_of_lt (by omega)]; omega
theorem own_nn {i : Nat} (hi : i ≤ 4000) : ¬ Int32.ofNat i < 0 := by
  rw [Int32.lt_iff_toInt_lt, Int32.toInt_ofNat_of_lt (by omega)]
  have e : (0 : Int32).toInt = 0 := rfl
  omega
theorem own_nat {i : Nat} (hi : i ≤ 4000) : (Int32.ofNat i).toNatClampNeg = i := by
  simp only [Int32.toNatClampNeg, Int32.toInt_ofNat_of_lt (show i < 2 ^ 31 by omega)]; rfl
theorem own_inc (i : Nat) : Int32.ofNat i + Int32.ofInt 1 = Int32.ofNat (i + 1) := by rw [Int32.ofNat_add]; rfl
theorem own_ne0 {n : Nat} (h0 : 0 < n) (hn : n ≤ 4000) : ¬ Int32.ofNat n = 0 := fun q => by
  have e := congrArg Int32.toInt q
  rw [Int32.toInt_ofNat_of_lt (by omega)] at e
  have e0 : (0 : Int32).toInt = 0 := rfl
  omega
theorem own_st3 {A B C x3 : Slot} {v : Int32} (hx : x3 = .unset ∨ ∃ w : Value, x3 = .val w ∧ w.category = 1) : storeLocals #[A, B, C, x3] 3 (.int v) = some #[A, B, C, .val (.int v)] := XS.store1 (l := #[A, B, C, x3]) (i := 3) (o := x3) rfl hx rfl
section OwnV
variable {s Z : State} {EL : List (String × Nat)} {vm : Vm} {h h' : Heap}
theorem own_V_ext (E : Ext h h') (V : own_V s Z EL vm h) : own_V s Z EL vm h' := by
  obtain ⟨⟨k, hS, hk⟩, hC⟩ := V
  exact ⟨⟨k, hS, Nat.le_trans hk E.1⟩, hC.trans (CHr.ext E hC.1)⟩
theorem own_V_wr {a : Addr} {sl : Nat} {v : Value} (W : Wr h h' a sl v) (Sf : Safe Z EL vm h a) (V : own_V s Z EL vm h) : own_V s Z EL vm h' := by
  obtain ⟨⟨k, hS, hk⟩, hC⟩ := V
  exact ⟨⟨k, hS, by rw [W.size]; exact hk⟩, hC.trans (CHr.wr W Sf hC.1)⟩
theorem own_V_keep {ws : List Addr} (K : Keep h h' ws) (Sf : ∀ x ∈ ws, Safe Z EL vm h x) (V : own_V s Z EL vm h) : own_V s Z EL vm h' := by
  obtain ⟨⟨k, hS, hk⟩, hC⟩ := V
  exact ⟨⟨k, hS, Nat.le_trans hk K.1⟩, hC.trans (CHr.keep K Sf hC.1)⟩
end OwnV
def own_bs (cs : List Int32) : List Value := cs.map fun c => .int c.toInt8.toInt32
theorem own_at {cs ds : List Int32} {i : Nat} {ch : Int32} (h : cs.drop i = ch :: ds) : (own_bs cs).getD i (.int 0) = .int ch.toInt8.toInt32 ∧ cs.drop (i + 1) = ds ∧ ch ∈ cs := by
  have e : cs[i]? = some ch := by rw [← List.head?_drop, h]; rfl
  refine ⟨by simp [own_bs, List.getD, e], ?_, List.mem_of_getElem? e⟩
  rw [← List.drop_drop, h]; rfl
def own_Bd (Z : State) (h : Heap) (sb ar : Addr) (k : ClassId) (N : Nat) (cs : List Int32) : Prop := Exa Z h sb "java/lang/StringBuilder" ∧ Fld Z h sb "java/lang/AbstractStringBuilder" "coder" "B" (.int 0) ∧ Fld Z h sb "java/lang/AbstractStringBuilder" "value" "[B" (.ref ar) ∧ Fld Z h sb "java/lang/AbstractStringBuilder" "count" "I" (.int (Int32.ofNat cs.length)) ∧ Arv Z h ar k .byte (Int32.ofNat N) (cs.map Value.int) (.int 0) ∧ cs.length ≤ N ∧ N ≤ 40 ∧ Exa Z h ar "[B"
theorem own_Bd_ext {Z : State} {h h' : Heap} {sb ar : Addr} {k : ClassId} {N : Nat} {cs : List Int32} (E : Ext h h') (B : own_Bd Z h sb ar k N cs) : own_Bd Z h' sb ar k N cs := ⟨B.1.ext E, B.2.1.ext E, B.2.2.1.ext E, B.2.2.2.1.ext E, B.2.2.2.2.1.ext E, B.2.2.2.2.2.1, B.2.2.2.2.2.2.1, B.2.2.2.2.2.2.2.ext E⟩
theorem own_sl0 (x : Int32) : x <<< ((0 : Int32) &&& 31) = x := by
  have e : (0 : Int32) &&& 31 = 0 := by decide
  rw [e]; exact Int32.shiftLeft_zero
theorem own_sub {a b : Nat} (h : a ≤ b) (hb : b ≤ 4000) : ¬ 0 < Int32.ofNat a - Int32.ofNat b := by
  rw [Int32.lt_iff_toInt_lt, Int32.toInt_sub, Int32.toInt_ofNat_of_lt (by omega), Int32.toInt_ofNat_of_lt (by omega)]
  have e : (0 : Int32).toInt = 0 := rfl
  rw [e, Int.bmod_eq_of_le (by omega) (by omega)]
  omega
theorem own_add (a b : Nat) : Int32.ofNat a + Int32.ofNat b = Int32.ofNat (a + b) := (Int32.ofNat_add a b).symm
set_option maxRecDepth 65536 in
theorem bla_b (p : Program) (l : Launch) (e : Env) (s : State) (m : MethodId) (args : Array Value) (below : List Frame) (meth : Method) (c : Code) (Z : State) (a0 : Array Value) (h : Heap) (hw : ∀ d ∈ tables_1, d.before a0 Z = true) (sb ar : Addr) (k : ClassId) (N : Nat) (cs : List Int32) (B : own_Bd Z h sb ar k N cs) (z : Int32) (g : Value) (T : own_T Z h z g) (K : own_C p s m meth c Z jdk_68_method_68_code "java/lang/AbstractStringBuilder" (some .boolean) 1) :
    own_E p l e { frames := 0, cells := 0, slots := 0, locals := 0 } s m args below meth c h [] 0 0 0 #[.val (.ref sb)] [] (own_P s below h (some (.int (1 : Int32)))) := by
  refine own_getS K (pc := 0) (hw _ (List.mem_of_getElem? (i := 32) rfl)) T.1 d10_0 ?_
  refine own_ifN K (pc := 3) d10_3 (by rw [if0]; exact (feq T.2.1).1) ?_
  refine own_aloadN K (pc := 6) d10_6 rfl rfl ?_
  refine own_getF K (pc := 7) (hw _ (List.mem_of_getElem? (i := 37) rfl)) B.2.1 d10_7 ?_
  refine own_ifN K (pc := 10) d10_10 (by decide) ?_
  refine own_iconst K (pc := 13) d10_13 (x := (1 : Int32)) (by decide) ?_
  refine own_goto K (pc := 14) (pc' := 18) d10_14 (by decide) (by decide) ?_
  exact own_retZ K (pc := 18) d10_18 (by decide)
theorem bla (l : Launch) (Z : State) (a0 : Array Value) (h : Heap) (hw : ∀ d ∈ tables_1, d.before a0 Z = true) (sb ar : Addr) (k : ClassId) (N : Nat) (cs : List Int32) (B : own_Bd Z h sb ar k N cs) (z : Int32) (g : Value) (T : own_T Z h z g) : own_M l (⟨"java/lang/AbstractStringBuilder", "isLatin1", "()Z"⟩ : MethodName) jdk_68_method_68_code 1 (some .boolean) [] { frames := 0, cells := 0, slots := 0, locals := 0 } Z h #[(.ref sb)] (some (.int (1 : Int32))) := by
  refine own_met (by decide +kernel) rfl rfl (Ls := #[.val (.ref sb)]) (fun m => by first | (simp [entryFrame, mkF, argsToLocals, Value.category]; done) | rfl | (rcases ref_cases hg with rfl | ⟨y, rfl⟩ <;> first | (simp [entryFrame, mkF, argsToLocals, Value.category]; done) | rfl)) ?_
  intro p e s m below meth c K
  exact bla_b p l e s m _ below meth c Z a0 h hw sb ar k N cs B z g T K
set_option maxRecDepth 65536 in
theorem bgv_b (p : Program) (l : Launch) (e : Env) (s : State) (m : MethodId) (args : Array Value) (below : List Frame) (meth : Method) (c : Code) (Z : State) (a0 : Array Value) (h : Heap) (hw : ∀ d ∈ tables_1, d.before a0 Z = true) (sb ar : Addr) (k : ClassId) (N : Nat) (cs : List Int32) (B : own_Bd Z h sb ar k N cs) (K : own_C p s m meth c Z jdk_68_method_64_code "java/lang/AbstractStringBuilder" (some (.array .byte)) 1) :
    own_E p l e { frames := 0, cells := 0, slots := 0, locals := 0 } s m args below meth c h [] 0 0 0 #[.val (.ref sb)] [] (own_P s below h (some (.ref ar))) := by
  refine own_aloadN K (pc := 0) d22_0 rfl rfl ?_
  refine own_getF K (pc := 1) (hw _ (List.mem_of_getElem? (i := 35) rfl)) B.2.2.1 d22_1 ?_
  exact own_retA K rfl (pc := 4) d22_4 rfl rfl rfl
theorem bgv (l : Launch) (Z : State) (a0 : Array Value) (h : Heap) (hw : ∀ d ∈ tables_1, d.before a0 Z = true) (sb ar : Addr) (k : ClassId) (N : Nat) (cs : List Int32) (B : own_Bd Z h sb ar k N cs) : own_M l (⟨"java/lang/AbstractStringBuilder", "getValue", "()[B"⟩ : MethodName) jdk_68_method_64_code 1 (some (.array .byte)) [] { frames := 0, cells := 0, slots := 0, locals := 0 } Z h #[(.ref sb)] (some (.ref ar)) := by
  refine own_met (by decide +kernel) rfl rfl (Ls := #[.val (.ref sb)]) (fun m => by first | (simp [entryFrame, mkF, argsToLocals, Value.category]; done) | rfl | (rcases ref_cases hg with rfl | ⟨y, rfl⟩ <;> first | (simp [entryFrame, mkF, argsToLocals, Value.category]; done) | rfl)) ?_
  intro p e s m below meth c K
  exact bgv_b p l e s m _ below meth c Z a0 h hw sb ar k N cs B K
set_option maxRecDepth 65536 in
theorem bal_b (p : Program) (l : Launch) (e : Env) (s : State) (m : MethodId) (args : Array Value) (below : List Frame) (meth : Method) (c : Code) (Z : State) (a0 : Array Value) (h : Heap) (hw : ∀ d ∈ tables_1, d.before a0 Z = true) (sb ar : Addr) (k : ClassId) (N : Nat) (cs : List Int32) (B : own_Bd Z h sb ar k N cs) (K : own_C p s m meth c Z jdk_68_method_6_code "java/lang/AbstractStringBuilder" (some .int) 1) :
    own_E p l e { frames := 0, cells := 0, slots := 0, locals := 0 } s m args below meth c h [] 0 0 0 #[.val (.ref sb)] [] (own_P s below h (some (.int (Int32.ofNat cs.length)))) := by
  refine own_aloadN K (pc := 0) d24_0 rfl rfl ?_
  refine own_getF K (pc := 1) (hw _ (List.mem_of_getElem? (i := 49) rfl)) B.2.2.2.1 d24_1 ?_
  exact own_retI K (pc := 4) d24_4 rfl
theorem bal (l : Launch) (Z : State) (a0 : Array Value) (h : Heap) (hw : ∀ d ∈ tables_1, d.before a0 Z = true) (sb ar : Addr) (k : ClassId) (N : Nat) (cs : List Int32) (B : own_Bd Z h sb ar k N cs) : own_M l (⟨"java/lang/AbstractStringBuilder", "length", "()I"⟩ : MethodName) jdk_68_method_6_code 1 (some .int) [] { frames := 0, cells := 0, slots := 0, locals := 0 } Z h #[(.ref sb)] (some (.int (Int32.ofNat cs.length))) := by
  refine own_met (by decide +kernel) rfl rfl (Ls := #[.val (.ref sb)]) (fun m => by first | (simp [entryFrame, mkF, argsToLocals, Value.category]; done) | rfl | (rcases ref_cases hg with rfl | ⟨y, rfl⟩ <;> first | (simp [entryFrame, mkF, argsToLocals, Value.category]; done) | rfl)) ?_
  intro p e s m below meth c K
  exact bal_b p l e s m _ below meth c Z a0 h hw sb ar k N cs B K
theorem bsl_b (p : Program) (l : Launch) (e : Env) (s : State) (m : MethodId) (args : Array Value) (below : List Frame) (meth : Method) (c : Code) (Z : State) (a0 : Array Value) (h : Heap) (hw : ∀ d ∈ tables_1, d.before a0 Z = true) (sb ar : Addr) (k : ClassId) (N : Nat) (cs : List Int32) (B : own_Bd Z h sb ar k N cs) (K : own_C p s m meth c Z jdk_67_method_93_code "java/lang/StringBuilder" (some .int) 1) :
    own_E p l e { frames := 1, cells := 0, slots := 0, locals := 12 } s m args below meth c h [] 0 0 0 #[.val (.ref sb)] [] (own_P s below h (some (.int (Int32.ofNat cs.length)))) := by
  refine own_aloadN K (pc := 0) d23_0 rfl rfl ?_
  refine own_supW K (pc := 1) (W := 0) (a := sb) (rest := []) (argsL := []) (own_W_of_M (bal l Z a0 h hw sb ar k N cs B)) B.1 (hw _ (List.mem_of_getElem? (i := 147) rfl)) (own_same (y := (⟨"java/lang/AbstractStringBuilder", "length", "()I"⟩ : MethodName)) (y' := (⟨"java/lang/AbstractStringBuilder", "isLatin1", "()Z"⟩ : MethodName)) (D := "java/lang/StringBuilder") rfl (by decide) (hw _ (List.mem_of_getElem? (i := 143) rfl)) (hw _ (List.mem_of_getElem? (i := 64) rfl))) (hw _ (List.mem_of_getElem? (i := 143) rfl)) (hw _ (List.mem_of_getElem? (i := 46) rfl)) (by decide) (hw _ (List.mem_of_getElem? (i := 148) rfl)) (hw _ (List.mem_of_getElem? (i := 27) rfl)) (by decide) d23_1 pd_24 rfl rfl rfl (Nat.le_of_eq rfl) (by decide) (by decide) (Nat.zero_le _) (Nat.zero_le _) ?_
  rintro u h' L ⟨rfl, rfl, rfl⟩
  exact own_retI K (pc := 4) d23_4 rfl
theorem bsl (l : Launch) (Z : State) (a0 : Array Value) (h : Heap) (hw : ∀ d ∈ tables_1, d.before a0 Z = true) (sb ar : Addr) (k : ClassId) (N : Nat) (cs : List Int32) (B : own_Bd Z h sb ar k N cs) : own_M l (⟨"java/lang/StringBuilder", "length", "()I"⟩ : MethodName) jdk_67_method_93_code 1 (some .int) [] { frames := 1, cells := 0, slots := 0, locals := 12 } Z h #[(.ref sb)] (some (.int (Int32.ofNat cs.length))) := by
  refine own_met (by decide +kernel) rfl rfl (Ls := #[.val (.ref sb)]) (fun m => by first | (simp [entryFrame, mkF, argsToLocals, Value.category]; done) | rfl | (rcases ref_cases hg with rfl | ⟨y, rfl⟩ <;> first | (simp [entryFrame, mkF, argsToLocals, Value.category]; done) | rfl)) ?_
  intro p e s m below meth c K
  exact bsl_b p l e s m _ below meth c Z a0 h hw sb ar k N cs B K
set_option maxRecDepth 65536 in
theorem enc_b (p : Program) (l : Launch) (e : Env) (s : State) (m : MethodId) (args : Array Value) (below : List Frame) (meth : Method) (c : Code) (Z : State) (a0 : Array Value) (h : Heap) (hw : ∀ d ∈ tables_1, d.before a0 Z = true) (sb ar : Addr) (k : ClassId) (N : Nat) (cs : List Int32) (B : own_Bd Z h sb ar k N cs) (mn : Nat) (hm : mn ≤ N) (K : own_C p s m meth c Z jdk_68_method_9_code "java/lang/AbstractStringBuilder" none 3) :
    own_E p l e { frames := 0, cells := 0, slots := 0, locals := 0 } s m args below meth c h [] 0 0 0 #[.val (.ref sb), .val (.int (Int32.ofNat mn)), .unset] [] (own_P s below h none) := by
  refine own_aloadN K (pc := 0) d9_0 rfl rfl ?_
  refine own_getF K (pc := 1) (hw _ (List.mem_of_getElem? (i := 35) rfl)) B.2.2.1 d9_1 ?_
  refine own_alen K (pc := 4) B.2.2.2.2.1 d9_4 ?_
  refine own_aloadN K (pc := 5) d9_5 rfl rfl ?_
  refine own_getF K (pc := 6) (hw _ (List.mem_of_getElem? (i := 37) rfl)) B.2.1 d9_6 ?_
  refine own_ishr K (pc := 9) d9_9 ?_
  rw [own_sh0]
  refine own_istoreN K (pc := 10) (Ls' := #[.val (.ref sb), .val (.int (Int32.ofNat mn)), .val (.int (Int32.ofNat N))]) d9_10 rfl ?_
  refine own_iloadN K (pc := 11) d9_11 rfl ?_
  refine own_iloadN K (pc := 12) d9_12 rfl ?_
  refine own_isub K (pc := 13) d9_13 ?_
  refine own_ifY K (pc := 14) (pc' := 38) d9_14 (by rw [if0]; exact (flt (own_sub hm (Nat.le_trans B.2.2.2.2.2.2.1 (by decide)))).2.2.2) (by decide) (by decide) ?_
  exact own_retV K (pc := 38) d9_38
theorem enc (l : Launch) (Z : State) (a0 : Array Value) (h : Heap) (hw : ∀ d ∈ tables_1, d.before a0 Z = true) (sb ar : Addr) (k : ClassId) (N : Nat) (cs : List Int32) (B : own_Bd Z h sb ar k N cs) (mn : Nat) (hm : mn ≤ N) : own_M l (⟨"java/lang/AbstractStringBuilder", "ensureCapacityInternal", "(I)V"⟩ : MethodName) jdk_68_method_9_code 3 none [] { frames := 0, cells := 0, slots := 0, locals := 0 } Z h #[(.ref sb), (.int (Int32.ofNat mn))] none := by
  refine own_met (by decide +kernel) rfl rfl (Ls := #[.val (.ref sb), .val (.int (Int32.ofNat mn)), .unset]) (fun m => by first | (simp [entryFrame, mkF, argsToLocals, Value.category]; done) | rfl | (rcases ref_cases hg with rfl | ⟨y, rfl⟩ <;> first | (simp [entryFrame, mkF, argsToLocals, Value.category]; done) | rfl)) ?_
  intro p e s m below meth c K
  exact enc_b p l e s m _ below meth c Z a0 h hw sb ar k N cs B mn hm K
set_option maxRecDepth 65536 in
theorem inf_b (p : Program) (l : Launch) (e : Env) (s : State) (m : MethodId) (args : Array Value) (below : List Frame) (meth : Method) (c : Code) (Z : State) (a0 : Array Value) (h : Heap) (hw : ∀ d ∈ tables_1, d.before a0 Z = true) (sb ar : Addr) (k : ClassId) (N : Nat) (cs : List Int32) (B : own_Bd Z h sb ar k N cs) (a b : Addr) (kc : ClassId) (NS : Int32) (vs : List Value) (z : Int32) (g : Value) (S : own_S Z h a b kc NS vs) (T : own_T Z h z g) (K : own_C p s m meth c Z jdk_68_method_71_code "java/lang/AbstractStringBuilder" none 2) :
    own_E p l e { frames := 1, cells := 0, slots := 0, locals := 13 } s m args below meth c h [] 0 0 0 #[.val (.ref sb), .val (.ref a)] [] (own_P s below h none) := by
  refine own_getS K (pc := 0) (hw _ (List.mem_of_getElem? (i := 32) rfl)) T.1 d17_0 ?_
  refine own_ifN K (pc := 3) d17_3 (by rw [if0]; exact (feq T.2.1).1) ?_
  refine own_aloadN K (pc := 6) d17_6 rfl rfl ?_
  refine own_getF K (pc := 7) (hw _ (List.mem_of_getElem? (i := 37) rfl)) B.2.1 d17_7 ?_
  refine own_aloadN K (pc := 10) d17_10 rfl rfl ?_
  refine own_callV K (pc := 11) (W := 1) (rest := [(.int (0 : Int32))]) (argsL := []) (u := (.int (0 : Int32))) rfl rfl (cod l Z a0 h hw a b kc NS vs z g S T) S.1 (hw _ (List.mem_of_getElem? (i := 111) rfl)) (hw _ (List.mem_of_getElem? (i := 95) rfl)) (hw _ (List.mem_of_getElem? (i := 97) rfl)) (hw _ (List.mem_of_getElem? (i := 96) rfl)) (hw _ (List.mem_of_getElem? (i := 98) rfl)) (hw _ (List.mem_of_getElem? (i := 33) rfl)) (by decide) d17_11 pd_15 rfl rfl rfl (Nat.le_of_eq rfl) (by decide) (by decide) (Nat.zero_le _) (Nat.zero_le _) ?_
  refine own_icmpY K (pc := 14) (pc' := 21) d17_14 (by decide) (by decide) (by decide) ?_
  exact own_retV K (pc := 21) d17_21
theorem inf (l : Launch) (Z : State) (a0 : Array Value) (h : Heap) (hw : ∀ d ∈ tables_1, d.before a0 Z = true) (sb ar : Addr) (k : ClassId) (N : Nat) (cs : List Int32) (B : own_Bd Z h sb ar k N cs) (a b : Addr) (kc : ClassId) (NS : Int32) (vs : List Value) (z : Int32) (g : Value) (S : own_S Z h a b kc NS vs) (T : own_T Z h z g) : own_M l (⟨"java/lang/AbstractStringBuilder", "inflateIfNeededFor", "(Ljava/lang/String;)V"⟩ : MethodName) jdk_68_method_71_code 2 none [] { frames := 1, cells := 0, slots := 0, locals := 13 } Z h #[(.ref sb), (.ref a)] none := by
  refine own_met (by decide +kernel) rfl rfl (Ls := #[.val (.ref sb), .val (.ref a)]) (fun m => by first | (simp [entryFrame, mkF, argsToLocals, Value.category]; done) | rfl | (rcases ref_cases hg with rfl | ⟨y, rfl⟩ <;> first | (simp [entryFrame, mkF, argsToLocals, Value.category]; done) | rfl)) ?_
  intro p e s m below meth c K
  exact inf_b p l e s m _ below meth c Z a0 h hw sb ar k N cs B a b kc NS vs z g S T K
set_option maxRecDepth 65536 in
theorem chk_b (p : Program) (l : Launch) (e : Env) (s : State) (m : MethodId) (args : Array Value) (below : List Frame) (meth : Method) (c : Code) (Z : State) (a0 : Array Value) (h : Heap) (hw : ∀ d ∈ tables_1, d.before a0 Z = true) (n : Nat) (hn : n ≤ 4000) (K : own_C p s m meth c Z jdk_65_method_131_code "java/util/Arrays" none 2) :
    own_E p l e { frames := 0, cells := 0, slots := 0, locals := 0 } s m args below meth c h [] 0 0 0 #[.val (.int (0 : Int32)), .val (.int (Int32.ofNat n))] [] (own_P s below h none) := by
  refine own_iloadN K (pc := 0) d27_0 rfl ?_
  refine own_iloadN K (pc := 1) d27_1 rfl ?_
  refine own_icmpY K (pc := 2) (pc' := 37) d27_2 (flt (own_nn hn)).2.1 (by decide) (by decide) ?_
  exact own_retV K (pc := 37) d27_37
theorem chk (l : Launch) (Z : State) (a0 : Array Value) (h : Heap) (hw : ∀ d ∈ tables_1, d.before a0 Z = true) (n : Nat) (hn : n ≤ 4000) : own_M l (⟨"java/util/Arrays", "checkLength", "(II)V"⟩ : MethodName) jdk_65_method_131_code 2 none [] { frames := 0, cells := 0, slots := 0, locals := 0 } Z h #[(.int (0 : Int32)), (.int (Int32.ofNat n))] none := by
  refine own_met (by decide +kernel) rfl rfl (Ls := #[.val (.int (0 : Int32)), .val (.int (Int32.ofNat n))]) (fun m => by first | (simp [entryFrame, mkF, argsToLocals, Value.category]; done) | rfl | (rcases ref_cases hg with rfl | ⟨y, rfl⟩ <;> first | (simp [entryFrame, mkF, argsToLocals, Value.category]; done) | rfl)) ?_
  intro p e s m below meth c K
  exact chk_b p l e s m _ below meth c Z a0 h hw n hn K
set_option maxRecDepth 65536 in
theorem mnl_b (p : Program) (l : Launch) (e : Env) (s : State) (m : MethodId) (args : Array Value) (below : List Frame) (meth : Method) (c : Code) (Z : State) (a0 : Array Value) (h : Heap) (hw : ∀ d ∈ tables_1, d.before a0 Z = true) (x y : Int32) (q : ¬ y < x) (K : own_C p s m meth c Z jdk_29_method_69_code "java/lang/Math" (some .int) 2) :
    own_E p l e { frames := 0, cells := 0, slots := 0, locals := 0 } s m args below meth c h [] 0 0 0 #[.val (.int x), .val (.int y)] [] (own_P s below h (some (.int x))) := by
  refine own_iloadN K (pc := 0) d28_0 rfl ?_
  refine own_iloadN K (pc := 1) d28_1 rfl ?_
  refine own_icmpN K (pc := 2) d28_2 (flt q).2.2.1 ?_
  refine own_iloadN K (pc := 5) d28_5 rfl ?_
  refine own_goto K (pc := 6) (pc' := 10) d28_6 (by decide) (by decide) ?_
  exact own_retI K (pc := 10) d28_10 rfl
theorem mnl (l : Launch) (Z : State) (a0 : Array Value) (h : Heap) (hw : ∀ d ∈ tables_1, d.before a0 Z = true) (x y : Int32) (q : ¬ y < x) : own_M l (⟨"java/lang/Math", "min", "(II)I"⟩ : MethodName) jdk_29_method_69_code 2 (some .int) [] { frames := 0, cells := 0, slots := 0, locals := 0 } Z h #[(.int x), (.int y)] (some (.int x)) := by
  refine own_met (by decide +kernel) rfl rfl (Ls := #[.val (.int x), .val (.int y)]) (fun m => by first | (simp [entryFrame, mkF, argsToLocals, Value.category]; done) | rfl | (rcases ref_cases hg with rfl | ⟨y, rfl⟩ <;> first | (simp [entryFrame, mkF, argsToLocals, Value.category]; done) | rfl)) ?_
  intro p e s m below meth c K
  exact mnl_b p l e s m _ below meth c Z a0 h hw x y q K
set_option maxRecDepth 65536 in
theorem mng_b (p : Program) (l : Launch) (e : Env) (s : State) (m : MethodId) (args : Array Value) (below : List Frame) (meth : Method) (c : Code) (Z : State) (a0 : Array Value) (h : Heap) (hw : ∀ d ∈ tables_1, d.before a0 Z = true) (x y : Int32) (q : y < x) (K : own_C p s m meth c Z jdk_29_method_69_code "java/lang/Math" (some .int) 2) :
    own_E p l e { frames := 0, cells := 0, slots := 0, locals := 0 } s m args below meth c h [] 0 0 0 #[.val (.int x), .val (.int y)] [] (own_P s below h (some (.int y))) := by
  refine own_iloadN K (pc := 0) d28_0 rfl ?_
  refine own_iloadN K (pc := 1) d28_1 rfl ?_
  refine own_icmpY K (pc := 2) (pc' := 9) d28_2 (tlt q).2.2.1 (by decide) (by decide) ?_
  refine own_iloadN K (pc := 9) d28_9 rfl ?_
  exact own_retI K (pc := 10) d28_10 rfl
theorem mng (l : Launch) (Z : State) (a0 : Array Value) (h : Heap) (hw : ∀ d ∈ tables_1, d.before a0 Z = true) (x y : Int32) (q : y < x) : own_M l (⟨"java/lang/Math", "min", "(II)I"⟩ : MethodName) jdk_29_method_69_code 2 (some .int) [] { frames := 0, cells := 0, slots := 0, locals := 0 } Z h #[(.int x), (.int y)] (some (.int y)) := by
  refine own_met (by decide +kernel) rfl rfl (Ls := #[.val (.int x), .val (.int y)]) (fun m => by first | (simp [entryFrame, mkF, argsToLocals, Value.category]; done) | rfl | (rcases ref_cases hg with rfl | ⟨y, rfl⟩ <;> first | (simp [entryFrame, mkF, argsToLocals, Value.category]; done) | rfl)) ?_
  intro p e s m below meth c K
  exact mng_b p l e s m _ below meth c Z a0 h hw x y q K
set_option maxRecDepth 65536 in
theorem mx1_b (p : Program) (l : Launch) (e : Env) (s : State) (m : MethodId) (args : Array Value) (below : List Frame) (meth : Method) (c : Code) (Z : State) (a0 : Array Value) (h : Heap) (hw : ∀ d ∈ tables_1, d.before a0 Z = true) (K : own_C p s m meth c Z jdk_29_method_65_code "java/lang/Math" (some .int) 2) :
    own_E p l e { frames := 0, cells := 0, slots := 0, locals := 0 } s m args below meth c h [] 0 0 0 #[.val (.int (1 : Int32)), .val (.int (18 : Int32))] [] (own_P s below h (some (.int (18 : Int32)))) := by
  refine own_iloadN K (pc := 0) d37_0 rfl ?_
  refine own_iloadN K (pc := 1) d37_1 rfl ?_
  refine own_icmpY K (pc := 2) (pc' := 9) d37_2 (by decide) (by decide) (by decide) ?_
  refine own_iloadN K (pc := 9) d37_9 rfl ?_
  exact own_retI K (pc := 10) d37_10 rfl
theorem mx1 (l : Launch) (Z : State) (a0 : Array Value) (h : Heap) (hw : ∀ d ∈ tables_1, d.before a0 Z = true) : own_M l (⟨"java/lang/Math", "max", "(II)I"⟩ : MethodName) jdk_29_method_65_code 2 (some .int) [] { frames := 0, cells := 0, slots := 0, locals := 0 } Z h #[(.int (1 : Int32)), (.int (18 : Int32))] (some (.int (18 : Int32))) := by
  refine own_met (by decide +kernel) rfl rfl (Ls := #[.val (.int (1 : Int32)), .val (.int (18 : Int32))]) (fun m => by first | (simp [entryFrame, mkF, argsToLocals, Value.category]; done) | rfl | (rcases ref_cases hg with rfl | ⟨y, rfl⟩ <;> first | (simp [entryFrame, mkF, argsToLocals, Value.category]; done) | rfl)) ?_
  intro p e s m below meth c K
  exact mx1_b p l e s m _ below meth c Z a0 h hw  K
set_option maxRecDepth 65536 in
theorem nl1_b (p : Program) (l : Launch) (e : Env) (s : State) (m : MethodId) (args : Array Value) (below : List Frame) (meth : Method) (c : Code) (Z : State) (a0 : Array Value) (h : Heap) (hw : ∀ d ∈ tables_1, d.before a0 Z = true) (K : own_C p s m meth c Z jdk_48_method_27_code "jdk/internal/util/ArraysSupport" (some .int) 4) :
    own_E p l e { frames := 1, cells := 0, slots := 0, locals := 14 } s m args below meth c h [] 0 0 0 #[.val (.int (16 : Int32)), .val (.int (1 : Int32)), .val (.int (18 : Int32)), .unset] [] (own_P s below h (some (.int (34 : Int32)))) := by
  refine own_iloadN K (pc := 0) d36_0 rfl ?_
  refine own_iloadN K (pc := 1) d36_1 rfl ?_
  refine own_iloadN K (pc := 2) d36_2 rfl ?_
  refine own_callS K (pc := 3) (W := 1) (rest := [(.int (16 : Int32))]) (argsL := [(.int (1 : Int32)), (.int (18 : Int32))]) (u := (.int (18 : Int32))) rfl rfl (mx1 l Z a0 h hw ) (hw _ (List.mem_of_getElem? (i := 214) rfl)) (hw _ (List.mem_of_getElem? (i := 215) rfl)) (hw _ (List.mem_of_getElem? (i := 162) rfl)) (hw _ (List.mem_of_getElem? (i := 216) rfl)) (by decide) d36_3 pd_37 rfl rfl rfl (Nat.le_of_eq rfl) (by decide) (by decide) (Nat.zero_le _) (Nat.zero_le _) ?_
  refine own_iadd K (pc := 6) d36_6 ?_
  refine own_istoreN K (pc := 7) (Ls' := #[.val (.int (16 : Int32)), .val (.int (1 : Int32)), .val (.int (18 : Int32)), .val (.int ((16 : Int32) + (18 : Int32)))]) d36_7 rfl ?_
  refine own_iconst K (pc := 8) d36_8 (x := (0 : Int32)) (by decide) ?_
  refine own_iloadN K (pc := 9) d36_9 rfl ?_
  refine own_icmpN K (pc := 10) d36_10 (by decide) ?_
  refine own_iloadN K (pc := 13) d36_13 rfl ?_
  refine own_ldc K (pc := 14) (x := (2147483639 : Int32)) (hw _ (List.mem_of_getElem? (i := 217) rfl)) d36_14 ?_
  refine own_icmpN K (pc := 16) d36_16 (by decide) ?_
  refine own_iloadN K (pc := 19) d36_19 rfl ?_
  exact own_retI K (pc := 20) d36_20 (by decide)
theorem nl1 (l : Launch) (Z : State) (a0 : Array Value) (h : Heap) (hw : ∀ d ∈ tables_1, d.before a0 Z = true) : own_M l (⟨"jdk/internal/util/ArraysSupport", "newLength", "(III)I"⟩ : MethodName) jdk_48_method_27_code 4 (some .int) [] { frames := 1, cells := 0, slots := 0, locals := 14 } Z h #[(.int (16 : Int32)), (.int (1 : Int32)), (.int (18 : Int32))] (some (.int (34 : Int32))) := by
  refine own_met (by decide +kernel) rfl rfl (Ls := #[.val (.int (16 : Int32)), .val (.int (1 : Int32)), .val (.int (18 : Int32)), .unset]) (fun m => by first | (simp [entryFrame, mkF, argsToLocals, Value.category]; done) | rfl | (rcases ref_cases hg with rfl | ⟨y, rfl⟩ <;> first | (simp [entryFrame, mkF, argsToLocals, Value.category]; done) | rfl)) ?_
  intro p e s m below meth c K
  exact nl1_b p l e s m _ below meth c Z a0 h hw  K
set_option maxRecDepth 65536 in
theorem nc1_b (p : Program) (l : Launch) (e : Env) (s : State) (m : MethodId) (args : Array Value) (below : List Frame) (meth : Method) (c : Code) (Z : State) (a0 : Array Value) (h : Heap) (hw : ∀ d ∈ tables_1, d.before a0 Z = true) (sb ar : Addr) (k : ClassId) (cs : List Int32) (B : own_Bd Z h sb ar k 16 cs) (K : own_C p s m meth c Z jdk_68_method_10_code "java/lang/AbstractStringBuilder" (some .int) 6) :
    own_E p l e { frames := 2, cells := 0, slots := 0, locals := 29 } s m args below meth c h [] 0 0 0 #[.val (.ref sb), .val (.int (17 : Int32)), .unset, .unset, .unset, .unset] [] (own_P s below h (some (.int (34 : Int32)))) := by
  refine own_aloadN K (pc := 0) d35_0 rfl rfl ?_
  refine own_getF K (pc := 1) (hw _ (List.mem_of_getElem? (i := 35) rfl)) B.2.2.1 d35_1 ?_
  refine own_alen K (pc := 4) B.2.2.2.2.1 d35_4 ?_
  refine own_istoreN K (pc := 5) (Ls' := #[.val (.ref sb), .val (.int (17 : Int32)), .val (.int (16 : Int32)), .unset, .unset, .unset]) d35_5 rfl ?_
  refine own_iloadN K (pc := 6) d35_6 rfl ?_
  refine own_aloadN K (pc := 7) d35_7 rfl rfl ?_
  refine own_getF K (pc := 8) (hw _ (List.mem_of_getElem? (i := 37) rfl)) B.2.1 d35_8 ?_
  refine own_ishl K (pc := 11) d35_11 ?_
  refine own_istoreN K (pc := 12) (Ls' := #[.val (.ref sb), .val (.int (17 : Int32)), .val (.int (16 : Int32)), .val (.int ((17 : Int32) <<< ((0 : Int32) &&& 31))), .unset, .unset]) d35_12 rfl ?_
  refine own_iloadN K (pc := 13) d35_13 rfl ?_
  refine own_iloadN K (pc := 14) d35_14 rfl ?_
  refine own_isub K (pc := 15) d35_15 ?_
  refine own_istore K (pc := 16) (Ls' := #[.val (.ref sb), .val (.int (17 : Int32)), .val (.int (16 : Int32)), .val (.int ((17 : Int32) <<< ((0 : Int32) &&& 31))), .val (.int (((17 : Int32) <<< ((0 : Int32) &&& 31)) - (16 : Int32))), .unset]) d35_16 rfl ?_
  refine own_iloadN K (pc := 18) d35_18 rfl ?_
  refine own_iload K (pc := 19) d35_19 rfl ?_
  refine own_iloadN K (pc := 21) d35_21 rfl ?_
  refine own_iconst K (pc := 22) d35_22 (x := (2 : Int32)) (by decide) ?_
  refine own_aloadN K (pc := 23) d35_23 rfl rfl ?_
  refine own_getF K (pc := 24) (hw _ (List.mem_of_getElem? (i := 37) rfl)) B.2.1 d35_24 ?_
  refine own_ishl K (pc := 27) d35_27 ?_
  refine own_iadd K (pc := 28) d35_28 ?_
  refine own_callS K (pc := 29) (W := 0) (rest := []) (argsL := [(.int (16 : Int32)), (.int (((17 : Int32) <<< ((0 : Int32) &&& 31)) - (16 : Int32))), (.int ((16 : Int32) + ((2 : Int32) <<< ((0 : Int32) &&& 31))))]) (u := (.int (34 : Int32))) rfl rfl (nl1 l Z a0 h hw ) (hw _ (List.mem_of_getElem? (i := 210) rfl)) (hw _ (List.mem_of_getElem? (i := 211) rfl)) (hw _ (List.mem_of_getElem? (i := 212) rfl)) (hw _ (List.mem_of_getElem? (i := 213) rfl)) (by decide) d35_29 pd_36 rfl rfl rfl (Nat.le_of_eq rfl) (by decide) (by decide) (Nat.zero_le _) (Nat.zero_le _) ?_
  refine own_istore K (pc := 32) (Ls' := #[.val (.ref sb), .val (.int (17 : Int32)), .val (.int (16 : Int32)), .val (.int ((17 : Int32) <<< ((0 : Int32) &&& 31))), .val (.int (((17 : Int32) <<< ((0 : Int32) &&& 31)) - (16 : Int32))), .val (.int (34 : Int32))]) d35_32 rfl ?_
  refine own_iload K (pc := 34) d35_34 rfl ?_
  refine own_ldc K (pc := 36) (x := (2147483647 : Int32)) (hw _ (List.mem_of_getElem? (i := 218) rfl)) d35_36 ?_
  refine own_icmpY K (pc := 38) (pc' := 51) d35_38 (by decide) (by decide) (by decide) ?_
  refine own_iload K (pc := 51) d35_51 rfl ?_
  refine own_aloadN K (pc := 53) d35_53 rfl rfl ?_
  refine own_getF K (pc := 54) (hw _ (List.mem_of_getElem? (i := 37) rfl)) B.2.1 d35_54 ?_
  refine own_ishr K (pc := 57) d35_57 ?_
  exact own_retI K (pc := 58) d35_58 (by decide)
theorem nc1 (l : Launch) (Z : State) (a0 : Array Value) (h : Heap) (hw : ∀ d ∈ tables_1, d.before a0 Z = true) (sb ar : Addr) (k : ClassId) (cs : List Int32) (B : own_Bd Z h sb ar k 16 cs) : own_M l (⟨"java/lang/AbstractStringBuilder", "newCapacity", "(I)I"⟩ : MethodName) jdk_68_method_10_code 6 (some .int) [] { frames := 2, cells := 0, slots := 0, locals := 29 } Z h #[(.ref sb), (.int (17 : Int32))] (some (.int (34 : Int32))) := by
  refine own_met (by decide +kernel) rfl rfl (Ls := #[.val (.ref sb), .val (.int (17 : Int32)), .unset, .unset, .unset, .unset]) (fun m => by first | (simp [entryFrame, mkF, argsToLocals, Value.category]; done) | rfl | (rcases ref_cases hg with rfl | ⟨y, rfl⟩ <;> first | (simp [entryFrame, mkF, argsToLocals, Value.category]; done) | rfl)) ?_
  intro p e s m below meth c K
  exact nc1_b p l e s m _ below meth c Z a0 h hw sb ar k cs B K
set_option maxRecDepth 65536 in
theorem mx2_b (p : Program) (l : Launch) (e : Env) (s : State) (m : MethodId) (args : Array Value) (below : List Frame) (meth : Method) (c : Code) (Z : State) (a0 : Array Value) (h : Heap) (hw : ∀ d ∈ tables_1, d.before a0 Z = true) (K : own_C p s m meth c Z jdk_29_method_65_code "java/lang/Math" (some .int) 2) :
    own_E p l e { frames := 0, cells := 0, slots := 0, locals := 0 } s m args below meth c h [] 0 0 0 #[.val (.int (2 : Int32)), .val (.int (18 : Int32))] [] (own_P s below h (some (.int (18 : Int32)))) := by
  refine own_iloadN K (pc := 0) d37_0 rfl ?_
  refine own_iloadN K (pc := 1) d37_1 rfl ?_
  refine own_icmpY K (pc := 2) (pc' := 9) d37_2 (by decide) (by decide) (by decide) ?_
  refine own_iloadN K (pc := 9) d37_9 rfl ?_
  exact own_retI K (pc := 10) d37_10 rfl
theorem mx2 (l : Launch) (Z : State) (a0 : Array Value) (h : Heap) (hw : ∀ d ∈ tables_1, d.before a0 Z = true) : own_M l (⟨"java/lang/Math", "max", "(II)I"⟩ : MethodName) jdk_29_method_65_code 2 (some .int) [] { frames := 0, cells := 0, slots := 0, locals := 0 } Z h #[(.int (2 : Int32)), (.int (18 : Int32))] (some (.int (18 : Int32))) := by
  refine own_met (by decide +kernel) rfl rfl (Ls := #[.val (.int (2 : Int32)), .val (.int (18 : Int32))]) (fun m => by first | (simp [entryFrame, mkF, argsToLocals, Value.category]; done) | rfl | (rcases ref_cases hg with rfl | ⟨y, rfl⟩ <;> first | (simp [entryFrame, mkF, argsToLocals, Value.category]; done) | rfl)) ?_
  intro p e s m below meth c K
  exact mx2_b p l e s m _ below meth c Z a0 h hw  K
set_option maxRecDepth 65536 in
theorem nl2_b (p : Program) (l : Launch) (e : Env) (s : State) (m : MethodId) (args : Array Value) (below : List Frame) (meth : Method) (c : Code) (Z : State) (a0 : Array Value) (h : Heap) (hw : ∀ d ∈ tables_1, d.before a0 Z = true) (K : own_C p s m meth c Z jdk_48_method_27_code "jdk/internal/util/ArraysSupport" (some .int) 4) :
    own_E p l e { frames := 1, cells := 0, slots := 0, locals := 14 } s m args below meth c h [] 0 0 0 #[.val (.int (16 : Int32)), .val (.int (2 : Int32)), .val (.int (18 : Int32)), .unset] [] (own_P s below h (some (.int (34 : Int32)))) := by
  refine own_iloadN K (pc := 0) d36_0 rfl ?_
  refine own_iloadN K (pc := 1) d36_1 rfl ?_
  refine own_iloadN K (pc := 2) d36_2 rfl ?_
  refine own_callS K (pc := 3) (W := 1) (rest := [(.int (16 : Int32))]) (argsL := [(.int (2 : Int32)), (.int (18 : Int32))]) (u := (.int (18 : Int32))) rfl rfl (mx2 l Z a0 h hw ) (hw _ (List.mem_of_getElem? (i := 214) rfl)) (hw _ (List.mem_of_getElem? (i := 215) rfl)) (hw _ (List.mem_of_getElem? (i := 162) rfl)) (hw _ (List.mem_of_getElem? (i := 216) rfl)) (by decide) d36_3 pd_37 rfl rfl rfl (Nat.le_of_eq rfl) (by decide) (by decide) (Nat.zero_le _) (Nat.zero_le _) ?_
  refine own_iadd K (pc := 6) d36_6 ?_
  refine own_istoreN K (pc := 7) (Ls' := #[.val (.int (16 : Int32)), .val (.int (2 : Int32)), .val (.int (18 : Int32)), .val (.int ((16 : Int32) + (18 : Int32)))]) d36_7 rfl ?_
  refine own_iconst K (pc := 8) d36_8 (x := (0 : Int32)) (by decide) ?_
  refine own_iloadN K (pc := 9) d36_9 rfl ?_
  refine own_icmpN K (pc := 10) d36_10 (by decide) ?_
  refine own_iloadN K (pc := 13) d36_13 rfl ?_
  refine own_ldc K (pc := 14) (x := (2147483639 : Int32)) (hw _ (List.mem_of_getElem? (i := 217) rfl)) d36_14 ?_
  refine own_icmpN K (pc := 16) d36_16 (by decide) ?_
  refine own_iloadN K (pc := 19) d36_19 rfl ?_
  exact own_retI K (pc := 20) d36_20 (by decide)
theorem nl2 (l : Launch) (Z : State) (a0 : Array Value) (h : Heap) (hw : ∀ d ∈ tables_1, d.before a0 Z = true) : own_M l (⟨"jdk/internal/util/ArraysSupport", "newLength", "(III)I"⟩ : MethodName) jdk_48_method_27_code 4 (some .int) [] { frames := 1, cells := 0, slots := 0, locals := 14 } Z h #[(.int (16 : Int32)), (.int (2 : Int32)), (.int (18 : Int32))] (some (.int (34 : Int32))) := by
  refine own_met (by decide +kernel) rfl rfl (Ls := #[.val (.int (16 : Int32)), .val (.int (2 : Int32)), .val (.int (18 : Int32)), .unset]) (fun m => by first | (simp [entryFrame, mkF, argsToLocals, Value.category]; done) | rfl | (rcases ref_cases hg with rfl | ⟨y, rfl⟩ <;> first | (simp [entryFrame, mkF, argsToLocals, Value.category]; done) | rfl)) ?_
  intro p e s m below meth c K
  exact nl2_b p l e s m _ below meth c Z a0 h hw  K
set_option maxRecDepth 65536 in
theorem nc2_b (p : Program) (l : Launch) (e : Env) (s : State) (m : MethodId) (args : Array Value) (below : List Frame) (meth : Method) (c : Code) (Z : State) (a0 : Array Value) (h : Heap) (hw : ∀ d ∈ tables_1, d.before a0 Z = true) (sb ar : Addr) (k : ClassId) (cs : List Int32) (B : own_Bd Z h sb ar k 16 cs) (K : own_C p s m meth c Z jdk_68_method_10_code "java/lang/AbstractStringBuilder" (some .int) 6) :
    own_E p l e { frames := 2, cells := 0, slots := 0, locals := 29 } s m args below meth c h [] 0 0 0 #[.val (.ref sb), .val (.int (18 : Int32)), .unset, .unset, .unset, .unset] [] (own_P s below h (some (.int (34 : Int32)))) := by
  refine own_aloadN K (pc := 0) d35_0 rfl rfl ?_
  refine own_getF K (pc := 1) (hw _ (List.mem_of_getElem? (i := 35) rfl)) B.2.2.1 d35_1 ?_
  refine own_alen K (pc := 4) B.2.2.2.2.1 d35_4 ?_
  refine own_istoreN K (pc := 5) (Ls' := #[.val (.ref sb), .val (.int (18 : Int32)), .val (.int (16 : Int32)), .unset, .unset, .unset]) d35_5 rfl ?_
  refine own_iloadN K (pc := 6) d35_6 rfl ?_
  refine own_aloadN K (pc := 7) d35_7 rfl rfl ?_
  refine own_getF K (pc := 8) (hw _ (List.mem_of_getElem? (i := 37) rfl)) B.2.1 d35_8 ?_
  refine own_ishl K (pc := 11) d35_11 ?_
  refine own_istoreN K (pc := 12) (Ls' := #[.val (.ref sb), .val (.int (18 : Int32)), .val (.int (16 : Int32)), .val (.int ((18 : Int32) <<< ((0 : Int32) &&& 31))), .unset, .unset]) d35_12 rfl ?_
  refine own_iloadN K (pc := 13) d35_13 rfl ?_
  refine own_iloadN K (pc := 14) d35_14 rfl ?_
  refine own_isub K (pc := 15) d35_15 ?_
  refine own_istore K (pc := 16) (Ls' := #[.val (.ref sb), .val (.int (18 : Int32)), .val (.int (16 : Int32)), .val (.int ((18 : Int32) <<< ((0 : Int32) &&& 31))), .val (.int (((18 : Int32) <<< ((0 : Int32) &&& 31)) - (16 : Int32))), .unset]) d35_16 rfl ?_
  refine own_iloadN K (pc := 18) d35_18 rfl ?_
  refine own_iload K (pc := 19) d35_19 rfl ?_
  refine own_iloadN K (pc := 21) d35_21 rfl ?_
  refine own_iconst K (pc := 22) d35_22 (x := (2 : Int32)) (by decide) ?_
  refine own_aloadN K (pc := 23) d35_23 rfl rfl ?_
  refine own_getF K (pc := 24) (hw _ (List.mem_of_getElem? (i := 37) rfl)) B.2.1 d35_24 ?_
  refine own_ishl K (pc := 27) d35_27 ?_
  refine own_iadd K (pc := 28) d35_28 ?_
  refine own_callS K (pc := 29) (W := 0) (rest := []) (argsL := [(.int (16 : Int32)), (.int (((18 : Int32) <<< ((0 : Int32) &&& 31)) - (16 : Int32))), (.int ((16 : Int32) + ((2 : Int32) <<< ((0 : Int32) &&& 31))))]) (u := (.int (34 : Int32))) rfl rfl (nl2 l Z a0 h hw ) (hw _ (List.mem_of_getElem? (i := 210) rfl)) (hw _ (List.mem_of_getElem? (i := 211) rfl)) (hw _ (List.mem_of_getElem? (i := 212) rfl)) (hw _ (List.mem_of_getElem? (i := 213) rfl)) (by decide) d35_29 pd_36 rfl rfl rfl (Nat.le_of_eq rfl) (by decide) (by decide) (Nat.zero_le _) (Nat.zero_le _) ?_
  refine own_istore K (pc := 32) (Ls' := #[.val (.ref sb), .val (.int (18 : Int32)), .val (.int (16 : Int32)), .val (.int ((18 : Int32) <<< ((0 : Int32) &&& 31))), .val (.int (((18 : Int32) <<< ((0 : Int32) &&& 31)) - (16 : Int32))), .val (.int (34 : Int32))]) d35_32 rfl ?_
  refine own_iload K (pc := 34) d35_34 rfl ?_
  refine own_ldc K (pc := 36) (x := (2147483647 : Int32)) (hw _ (List.mem_of_getElem? (i := 218) rfl)) d35_36 ?_
  refine own_icmpY K (pc := 38) (pc' := 51) d35_38 (by decide) (by decide) (by decide) ?_
  refine own_iload K (pc := 51) d35_51 rfl ?_
  refine own_aloadN K (pc := 53) d35_53 rfl rfl ?_
  refine own_getF K (pc := 54) (hw _ (List.mem_of_getElem? (i := 37) rfl)) B.2.1 d35_54 ?_
  refine own_ishr K (pc := 57) d35_57 ?_
  exact own_retI K (pc := 58) d35_58 (by decide)
theorem nc2 (l : Launch) (Z : State) (a0 : Array Value) (h : Heap) (hw : ∀ d ∈ tables_1, d.before a0 Z = true) (sb ar : Addr) (k : ClassId) (cs : List Int32) (B : own_Bd Z h sb ar k 16 cs) : own_M l (⟨"java/lang/AbstractStringBuilder", "newCapacity", "(I)I"⟩ : MethodName) jdk_68_method_10_code 6 (some .int) [] { frames := 2, cells := 0, slots := 0, locals := 29 } Z h #[(.ref sb), (.int (18 : Int32))] (some (.int (34 : Int32))) := by
  refine own_met (by decide +kernel) rfl rfl (Ls := #[.val (.ref sb), .val (.int (18 : Int32)), .unset, .unset, .unset, .unset]) (fun m => by first | (simp [entryFrame, mkF, argsToLocals, Value.category]; done) | rfl | (rcases ref_cases hg with rfl | ⟨y, rfl⟩ <;> first | (simp [entryFrame, mkF, argsToLocals, Value.category]; done) | rfl)) ?_
  intro p e s m below meth c K
  exact nc2_b p l e s m _ below meth c Z a0 h hw sb ar k cs B K
theorem own_EL {Z : State} {a0 : Array Value} (hw : ∀ d ∈ tables_1, d.before a0 Z = true) : EW Z a0 consts_1 := EW.cons (hw _ (List.mem_of_getElem? (i := 73) rfl)) (by decide) (EW.cons (hw _ (List.mem_of_getElem? (i := 201) rfl)) (by decide) (EW.cons (hw _ (List.mem_of_getElem? (i := 121) rfl)) (by decide) (EW.nil)))
theorem own_wS {Z : State} {a0 : Array Value} (hw : ∀ d ∈ tables_1, d.before a0 Z = true) : ∀ a ∈ Bundle.stringAtoms, a.before a0 Z = true := by
  intro a ha
  simp only [Bundle.stringAtoms, Bundle.sN, List.mem_cons, List.not_mem_nil, or_false] at ha
  rcases ha with rfl | rfl | rfl | rfl | rfl | rfl | rfl
  · exact (hw _ (List.mem_of_getElem? (i := 33) rfl))
  · exact (hw _ (List.mem_of_getElem? (i := 74) rfl))
  · exact (hw _ (List.mem_of_getElem? (i := 34) rfl))
  · exact (hw _ (List.mem_of_getElem? (i := 75) rfl))
  · exact (hw _ (List.mem_of_getElem? (i := 76) rfl))
  · exact (hw _ (List.mem_of_getElem? (i := 77) rfl))
  · exact (hw _ (List.mem_of_getElem? (i := 78) rfl))
theorem own_copied (cs : List Int32) (d : Value) : (List.replicate cs.length d).take 0 ++ (List.range cs.length).map (fun i => (cs.map Value.int).getD (0 + i) d) ++ (List.replicate cs.length d).drop (0 + cs.length) = cs.map Value.int := by
  rw [List.take_zero, List.nil_append, Nat.zero_add, List.drop_eq_nil_of_le (by simp), List.append_nil]
  apply List.ext_getElem
  · simp
  · intro i h1 h2
    simp at h1 h2
    simp [List.getD, h1]
def own_QI (Z : State) (sb : Addr) (h : Heap) (n0 : Nat) (u : Option Value) (h' : Heap) (L : List Loc) : Prop := u = none ∧ Fr n0 L ∧ Keep h h' [sb] ∧ ∃ (ar : Addr) (k : ClassId), h.size ≤ ar ∧ own_Bd Z h' sb ar k 16 []
def own_QC (Z : State) (h : Heap) (n0 : Nat) (N : Nat) (cs : List Int32) (u : Option Value) (h' : Heap) (L : List Loc) : Prop := ∃ (na : Addr) (k : ClassId), u = some (.ref na) ∧ h.size ≤ na ∧ Fr n0 L ∧ Keep h h' [] ∧ Arv Z h' na k .byte (Int32.ofNat N) (cs.map Value.int) (.int 0) ∧ Exa Z h' na "[B"
def own_QS (Z : State) (x : Addr) (h : Heap) (n0 : Nat) (cs : List Int32) (u : Option Value) (h' : Heap) (L : List Loc) : Prop := u = none ∧ Fr n0 L ∧ Keep h h' [x] ∧ ∃ (b : Addr) (kb : ClassId), own_S Z h' x b kb (Int32.ofNat cs.length) (cs.map Value.int)
def own_QX (Z : State) (h : Heap) (n0 : Nat) (cs : List Int32) (u : Option Value) (h' : Heap) (L : List Loc) : Prop := ∃ (x b : Addr) (kb : ClassId), u = some (.ref x) ∧ Fr n0 L ∧ Keep h h' [] ∧ own_S Z h' x b kb (Int32.ofNat cs.length) (cs.map Value.int)
theorem own_Fr1 {n0 : Nat} {L : List Loc} {x : Addr} (N : Fr n0 L) (hx : n0 ≤ x) (sl : Nat) : Fr n0 (L ++ [⟨x, sl⟩]) := N.app fun y hy => by cases List.mem_singleton.mp hy; exact hx
theorem own_fitB {Z : State} {h : Heap} {a : Addr} {k : ClassId} {z : Int32} {vs : List Value} {dv : Value} (A : Arv Z h a k .byte z vs dv) : ∀ cl : Cell, h[a]? = some cl → FitC Z cl := fun cl q => by
  obtain ⟨c, A1, -, -, -, H, G⟩ := A
  cases A1.1.symm.trans q
  exact fitC_of A1 fun i hi v hv => by rw [H i hi] at hv; cases hv; exact G i hi
theorem own_l_value {Z : State} {a0 : Array Value} (hw : ∀ d ∈ tables_1, d.before a0 Z = true) : Laid Z a0 "java/lang/StringBuilder" "java/lang/AbstractStringBuilder" "value" "[B" := Or.inl (hw _ (List.mem_of_getElem? (i := 36) rfl))
theorem own_l_coder {Z : State} {a0 : Array Value} (hw : ∀ d ∈ tables_1, d.before a0 Z = true) : Laid Z a0 "java/lang/StringBuilder" "java/lang/AbstractStringBuilder" "coder" "B" := Or.inl (hw _ (List.mem_of_getElem? (i := 38) rfl))
theorem own_l_count {Z : State} {a0 : Array Value} (hw : ∀ d ∈ tables_1, d.before a0 Z = true) : Laid Z a0 "java/lang/StringBuilder" "java/lang/AbstractStringBuilder" "count" "I" := Or.inl (hw _ (List.mem_of_getElem? (i := 50) rfl))
set_option maxHeartbeats 2000000 in
theorem ai (l : Launch) (Z : State) (a0 : Array Value) (h : Heap) (hw : ∀ d ∈ tables_1, d.before a0 Z = true) (sb : Addr) (n0 : Nat) (hx : n0 ≤ sb) (X : Exa Z h sb "java/lang/StringBuilder") (FV : Fld Z h sb "java/lang/AbstractStringBuilder" "value" "[B" .null) (FC : Fld Z h sb "java/lang/AbstractStringBuilder" "coder" "B" (.int 0)) (FN : Fld Z h sb "java/lang/AbstractStringBuilder" "count" "I" (.int 0)) (z : Int32) (g : Value) (T : own_T Z h z g) : own_W l (⟨"java/lang/AbstractStringBuilder", "<init>", "(I)V"⟩ : MethodName) jdk_68_method_2_code 2 none [] { frames := 1, cells := 1, slots := 16, locals := 12 } Z h #[(.ref sb), (.int (16 : Int32))] (own_QI Z sb h n0) := by
  refine own_metW (by decide +kernel) (Ls := #[.val (.ref sb), .val (.int (16 : Int32))]) (fun m => by first | (simp [entryFrame, mkF, argsToLocals, Value.category]; done) | rfl) ?_
  intro p e s m below meth c hnm K
  refine own_aloadN K (pc := 0) d4_0 rfl rfl ?_
  refine own_initO K (pc := 1) (W := 0) (hw _ (List.mem_of_getElem? (i := 29) rfl)) (hw _ (List.mem_of_getElem? (i := 30) rfl)) (hw _ (List.mem_of_getElem? (i := 31) rfl)) d4_1 rfl (by decide) (Nat.le_of_eq rfl) (by decide) ?_
  refine own_getS K (pc := 4) (hw _ (List.mem_of_getElem? (i := 32) rfl)) T.1 d4_4 ?_
  refine own_ifN K (pc := 7) d4_7 (by rw [if0]; exact (feq T.2.1).1) ?_
  refine own_aloadN K (pc := 10) d4_10 rfl rfl ?_
  refine own_iloadN K (pc := 11) d4_11 rfl ?_
  refine own_newB K (pc := 12) (cap := 16) (hw _ (List.mem_of_getElem? (i := 34) rfl)) d4_12 (by decide) (by decide) (by decide) (by decide) (by decide) ?_
  intro h1 k E1 A1 Y1
  obtain ⟨ar, ga⟩ : ∃ z, z = h.size := ⟨_, rfl⟩
  rw [← ga] at A1 Y1 ⊢
  have ne : ar ≠ sb := by rw [ga]; exact Nat.ne_of_gt X.lt
  refine own_putL K (pc := 14) (hw _ (List.mem_of_getElem? (i := 35) rfl)) (FV.ext E1) (X.ext E1) (hw _ (List.mem_of_getElem? (i := 36) rfl)) (hw _ (List.mem_of_getElem? (i := 18) rfl)) (ty := .array .byte) (by decide) rfl rfl d4_14 ?_
  intro h2 W2
  refine own_aloadN K (pc := 17) d4_17 rfl rfl ?_
  refine own_iconst K (pc := 18) d4_18 (x := (0 : Int32)) (by decide) ?_
  refine own_putL K (pc := 19) (hw _ (List.mem_of_getElem? (i := 37) rfl)) ((FC.ext E1).other W2 (Or.inr (slot_ne (own_l_coder hw) (own_l_value hw) (by decide) (t := .byte) (by decide) (t' := .array .byte) (by decide)))) ((X.ext E1).wr W2) (hw _ (List.mem_of_getElem? (i := 38) rfl)) (hw _ (List.mem_of_getElem? (i := 18) rfl)) (ty := .byte) (by decide) rfl rfl d4_19 ?_
  intro h3 W3
  refine own_goto K (pc := 22) (pc' := 38) d4_22 (by decide) (by decide) ?_
  have Bd : own_Bd Z h3 sb ar k 16 [] := ⟨((X.ext E1).wr W2).wr W3, ((FC.ext E1).other W2 (Or.inr (slot_ne (own_l_coder hw) (own_l_value hw) (by decide) (t := .byte) (by decide) (t' := .array .byte) (by decide)))).same W3, ((FV.ext E1).same W2).other W3 (Or.inr (slot_ne (own_l_value hw) (own_l_coder hw) (by decide) (t := .array .byte) (by decide) (t' := .byte) (by decide))), ((FN.ext E1).other W2 (Or.inr (slot_ne (own_l_count hw) (own_l_value hw) (by decide) (t := .int) (by decide) (t' := .array .byte) (by decide)))).other W3 (Or.inr (slot_ne (own_l_count hw) (own_l_coder hw) (by decide) (t := .int) (by decide) (t' := .byte) (by decide))), (A1.other W2 ne).other W3 ne, Nat.zero_le _, by decide, (Y1.wr W2).wr W3⟩
  have Kk : Keep h h3 [sb] := (((Keep.refl h [sb]).ext E1).wr W2 (Or.inl (List.mem_singleton.mpr rfl))).wr W3 (Or.inl (List.mem_singleton.mpr rfl))
  exact own_retVW K (pc := 38) d4_38 (by decide) (by decide) ⟨rfl, own_Fr1 (own_Fr1 (Fr.nil n0) hx _) hx _, Kk, ar, k, Nat.le_of_eq ga.symm, Bd⟩
set_option maxHeartbeats 2000000 in
theorem si (l : Launch) (Z : State) (a0 : Array Value) (h : Heap) (hw : ∀ d ∈ tables_1, d.before a0 Z = true) (sb : Addr) (n0 : Nat) (hx : n0 ≤ sb) (X : Exa Z h sb "java/lang/StringBuilder") (FV : Fld Z h sb "java/lang/AbstractStringBuilder" "value" "[B" .null) (FC : Fld Z h sb "java/lang/AbstractStringBuilder" "coder" "B" (.int 0)) (FN : Fld Z h sb "java/lang/AbstractStringBuilder" "count" "I" (.int 0)) (z : Int32) (g : Value) (T : own_T Z h z g) : own_W l (⟨"java/lang/StringBuilder", "<init>", "()V"⟩ : MethodName) jdk_67_method_1_code 1 none [] { frames := 2, cells := 1, slots := 16, locals := 25 } Z h #[(.ref sb)] (own_QI Z sb h n0) := by
  refine own_metW (by decide +kernel) (Ls := #[.val (.ref sb)]) (fun m => by first | (simp [entryFrame, mkF, argsToLocals, Value.category]; done) | rfl) ?_
  intro p e s m below meth c hnm K
  refine own_aloadN K (pc := 0) d3_0 rfl rfl ?_
  refine own_bipush K (pc := 1) d3_1 (x := (16 : Int32)) (by decide) ?_
  refine own_initW K (pc := 3) (W := 0) (a := sb) (rest := []) (argsL := [.int 16]) rfl rfl (ai l Z a0 h hw sb n0 hx X FV FC FN z g T) (hw _ (List.mem_of_getElem? (i := 23) rfl)) (hw _ (List.mem_of_getElem? (i := 24) rfl)) (hw _ (List.mem_of_getElem? (i := 28) rfl)) (hw _ (List.mem_of_getElem? (i := 27) rfl)) (by decide) d3_3 pd_4 rfl rfl rfl (Nat.le_of_eq rfl) (by decide) (by decide) (by decide) (by decide) ?_
  intro u h' L q
  obtain ⟨rfl, q⟩ := q
  exact own_retVW K (pc := 6) d3_6 (by decide) (by decide) ⟨rfl, q⟩
set_option maxHeartbeats 2000000 in
theorem crb (l : Launch) (Z : State) (a0 : Array Value) (h : Heap) (hw : ∀ d ∈ tables_1, d.before a0 Z = true) (ar : Addr) (k : ClassId) (N : Nat) (cs : List Int32) (A0 : Arv Z h ar k .byte (Int32.ofNat N) (cs.map Value.int) (.int 0)) (hN : N ≤ 40) (n0 : Nat) (hn : n0 ≤ h.size) (hlt : cs.length < N) : own_W l (⟨"java/util/Arrays", "copyOfRangeByte", "([BII)[B"⟩ : MethodName) jdk_65_method_133_code 5 (some (.array .byte)) [] { frames := 1, cells := 1, slots := 40, locals := 26 } Z h #[(.ref ar), (.int (0 : Int32)), (.int (Int32.ofNat cs.length))] (own_QC Z h n0 cs.length cs) := by
  refine own_metW (by decide +kernel) (Ls := #[.val (.ref ar), .val (.int (0 : Int32)), .val (.int (Int32.ofNat cs.length)), .unset, .unset]) (fun m => by first | (simp [entryFrame, mkF, argsToLocals, Value.category]; done) | rfl) ?_
  intro p e s m below meth c hnm K
  refine own_iloadN K (pc := 0) d26_0 rfl ?_
  refine own_iloadN K (pc := 1) d26_1 rfl ?_
  refine own_callSv K (pc := 2) (W := 0) (rest := []) (argsL := [(.int (0 : Int32)), (.int (Int32.ofNat cs.length))]) rfl rfl (chk l Z a0 h hw cs.length (by omega)) (hw _ (List.mem_of_getElem? (i := 157) rfl)) (hw _ (List.mem_of_getElem? (i := 158) rfl)) (hw _ (List.mem_of_getElem? (i := 152) rfl)) (hw _ (List.mem_of_getElem? (i := 159) rfl)) (by decide) d26_2 pd_27 rfl rfl rfl (Nat.le_of_eq rfl) (by decide) (by decide) (Nat.zero_le _) (Nat.zero_le _) ?_
  refine own_iloadN K (pc := 5) d26_5 rfl ?_
  refine own_iloadN K (pc := 6) d26_6 rfl ?_
  refine own_isub K (pc := 7) d26_7 ?_
  rw [Int32.sub_zero]
  refine own_istoreN K (pc := 8) (Ls' := #[.val (.ref ar), .val (.int (0 : Int32)), .val (.int (Int32.ofNat cs.length)), .val (.int (Int32.ofNat cs.length)), .unset]) d26_8 rfl ?_
  refine own_iloadN K (pc := 9) d26_9 rfl ?_
  refine own_newB K (pc := 10) (cap := 40) (hw _ (List.mem_of_getElem? (i := 34) rfl)) d26_10 (own_nn (by omega)) (by rw [own_nat (by omega)]; omega) (by decide) (by decide) (by decide) ?_
  intro h1 k1 E1 A1 Y1
  obtain ⟨na, ga⟩ : ∃ z, z = h.size := ⟨_, rfl⟩
  rw [← ga] at A1 Y1 ⊢
  have A2 := A0.ext E1
  have A1 := A1.pad (pad_rep [] (.int 0) cs.length)
  refine own_astore K (pc := 12) (Ls' := #[.val (.ref ar), .val (.int (0 : Int32)), .val (.int (Int32.ofNat cs.length)), .val (.int (Int32.ofNat cs.length)), .val (.ref na)]) d26_12 rfl rfl ?_
  refine own_aloadN K (pc := 14) d26_14 rfl rfl ?_
  refine own_iloadN K (pc := 15) d26_15 rfl ?_
  refine own_aload K (pc := 16) d26_16 rfl rfl ?_
  refine own_iconst K (pc := 18) d26_18 (x := (0 : Int32)) (by decide) ?_
  refine own_aloadN K (pc := 19) d26_19 rfl rfl ?_
  refine own_alen K (pc := 20) A2 d26_20 ?_
  refine own_iloadN K (pc := 21) d26_21 rfl ?_
  refine own_isub K (pc := 22) d26_22 ?_
  rw [Int32.sub_zero]
  refine own_iloadN K (pc := 23) d26_23 rfl ?_
  refine own_callS K (pc := 24) (W := 4) (rest := [(.int (0 : Int32)), (.ref na), (.int (0 : Int32)), (.ref ar)]) (argsL := [(.int (Int32.ofNat N)), (.int (Int32.ofNat cs.length))]) (u := (.int (Int32.ofNat cs.length))) rfl rfl (mng l Z a0 h1 hw (Int32.ofNat N) (Int32.ofNat cs.length) ((own_nlt (by omega) (by omega)).mpr hlt)) (hw _ (List.mem_of_getElem? (i := 160) rfl)) (hw _ (List.mem_of_getElem? (i := 161) rfl)) (hw _ (List.mem_of_getElem? (i := 162) rfl)) (hw _ (List.mem_of_getElem? (i := 163) rfl)) (by decide) d26_24 pd_28 rfl rfl rfl (Nat.le_of_eq rfl) (by decide) (by decide) (by decide) (by decide) ?_
  refine own_copy K (pc := 27) (W := 0) (n0 := n0) (Fr.nil n0) (by omega) (hw _ (List.mem_of_getElem? (i := 164) rfl)) (hw _ (List.mem_of_getElem? (i := 120) rfl)) (hw _ (List.mem_of_getElem? (i := 118) rfl)) (hw _ (List.mem_of_getElem? (i := 119) rfl)) A2 A1 (by decide) (by decide) (own_nn (by omega)) (by rw [own_nat (by omega), own_nat (by omega)]; show 0 + _ ≤ _; omega) (by rw [own_nat (by omega)]; show 0 + _ ≤ _; omega) (by rw [own_nat (by omega)]; show 0 + _ ≤ _; simp) d26_27 rfl (by decide) (Nat.le_of_eq rfl) (by decide) ?_
  intro h2 L2 N2 K2 A3
  rw [own_nat (show cs.length ≤ 4000 by omega)] at A3
  have A3 : Arv Z h2 na k1 .byte (Int32.ofNat cs.length) (cs.map Value.int) (.int 0) := by rw [← own_copied cs (.int 0)]; exact A3
  refine own_aload K (pc := 30) d26_30 rfl rfl ?_
  exact own_retAW K rfl (pc := 32) d26_32 rfl rfl rfl (by decide) (by decide) ⟨na, k1, rfl, Nat.le_of_eq ga.symm, N2, ((Keep.refl h []).ext E1).trans K2 (fun x hx => by cases List.mem_singleton.mp hx; exact Or.inr (Nat.le_of_eq ga.symm)), A3, Y1.keep K2⟩
set_option maxHeartbeats 2000000 in
theorem cr (l : Launch) (Z : State) (a0 : Array Value) (h : Heap) (hw : ∀ d ∈ tables_1, d.before a0 Z = true) (ar : Addr) (k : ClassId) (N : Nat) (cs : List Int32) (A0 : Arv Z h ar k .byte (Int32.ofNat N) (cs.map Value.int) (.int 0)) (hN : N ≤ 40) (n0 : Nat) (hn : n0 ≤ h.size) (hlt : cs.length < N) : own_W l (⟨"java/util/Arrays", "copyOfRange", "([BII)[B"⟩ : MethodName) jdk_65_method_132_code 3 (some (.array .byte)) [] { frames := 2, cells := 1, slots := 40, locals := 42 } Z h #[(.ref ar), (.int (0 : Int32)), (.int (Int32.ofNat cs.length))] (own_QC Z h n0 cs.length cs) := by
  refine own_metW (by decide +kernel) (Ls := #[.val (.ref ar), .val (.int (0 : Int32)), .val (.int (Int32.ofNat cs.length))]) (fun m => by first | (simp [entryFrame, mkF, argsToLocals, Value.category]; done) | rfl) ?_
  intro p e s m below meth c hnm K
  have ne : ¬ Int32.ofNat cs.length = Int32.ofNat N := fun e => by have := (own_nlt (i := cs.length) (n := N) (by omega) (by omega)).mpr hlt; rw [e] at this; exact Int32.lt_irrefl this
  refine own_iloadN K (pc := 0) d25_0 rfl ?_
  refine own_ifN K (pc := 1) d25_1 (by decide) ?_
  refine own_iloadN K (pc := 4) d25_4 rfl ?_
  refine own_aloadN K (pc := 5) d25_5 rfl rfl ?_
  refine own_alen K (pc := 6) A0 d25_6 ?_
  refine own_icmpN K (pc := 7) d25_7 (feq ne).1 ?_
  refine own_aloadN K (pc := 10) d25_10 rfl rfl ?_
  refine own_iloadN K (pc := 11) d25_11 rfl ?_
  refine own_iloadN K (pc := 12) d25_12 rfl ?_
  refine own_callSW K (pc := 13) (W := 0) (rest := []) (argsL := [(.ref ar), (.int (0 : Int32)), (.int (Int32.ofNat cs.length))]) (crb l Z a0 h hw ar k N cs A0 hN n0 hn hlt) (hw _ (List.mem_of_getElem? (i := 154) rfl)) (hw _ (List.mem_of_getElem? (i := 155) rfl)) (hw _ (List.mem_of_getElem? (i := 152) rfl)) (hw _ (List.mem_of_getElem? (i := 156) rfl)) (by decide) d25_13 pd_26 rfl rfl rfl (Nat.le_of_eq rfl) (by decide) (by decide) (by decide) (by decide) ?_
  intro u h' L q
  obtain ⟨na, k1, rfl, q⟩ := q
  exact own_retAW K rfl (pc := 16) d25_16 rfl rfl rfl (by decide) (by decide) ⟨na, k1, rfl, q⟩
set_option maxHeartbeats 2000000 in
theorem crc (l : Launch) (Z : State) (a0 : Array Value) (h : Heap) (hw : ∀ d ∈ tables_1, d.before a0 Z = true) (ar : Addr) (k : ClassId) (N : Nat) (cs : List Int32) (A0 : Arv Z h ar k .byte (Int32.ofNat N) (cs.map Value.int) (.int 0)) (hN : N ≤ 40) (n0 : Nat) (hn : n0 ≤ h.size) (heq : cs.length = N) (X0 : Exa Z h ar "[B") : own_W l (⟨"java/util/Arrays", "copyOfRange", "([BII)[B"⟩ : MethodName) jdk_65_method_132_code 3 (some (.array .byte)) [] { frames := 2, cells := 1, slots := 40, locals := 42 } Z h #[(.ref ar), (.int (0 : Int32)), (.int (Int32.ofNat cs.length))] (own_QC Z h n0 cs.length cs) := by
  refine own_metW (by decide +kernel) (Ls := #[.val (.ref ar), .val (.int (0 : Int32)), .val (.int (Int32.ofNat cs.length))]) (fun m => by first | (simp [entryFrame, mkF, argsToLocals, Value.category]; done) | rfl) ?_
  intro p e s m below meth c hnm K
  have e0 : Int32.ofNat cs.length = Int32.ofNat N := by rw [heq]
  refine own_iloadN K (pc := 0) d25_0 rfl ?_
  refine own_ifN K (pc := 1) d25_1 (by decide) ?_
  refine own_iloadN K (pc := 4) d25_4 rfl ?_
  refine own_aloadN K (pc := 5) d25_5 rfl rfl ?_
  refine own_alen K (pc := 6) A0 d25_6 ?_
  refine own_icmpY K (pc := 7) (pc' := 17) d25_7 (teq e0).1 (by decide) (by decide) ?_
  refine own_aloadN K (pc := 17) d25_17 rfl rfl ?_
  refine own_clone K (pc := 18) (W := 0) (cap := 40) A0 X0 (own_fitB A0) (hw _ (List.mem_of_getElem? (i := 222) rfl)) (hw _ (List.mem_of_getElem? (i := 223) rfl)) (hw _ (List.mem_of_getElem? (i := 227) rfl)) (hw _ (List.mem_of_getElem? (i := 225) rfl)) (hw _ (List.mem_of_getElem? (i := 226) rfl)) (hw _ (List.mem_of_getElem? (i := 228) rfl)) d25_18 rfl (by decide) (Nat.le_of_eq rfl) (by decide) (by rw [own_nat (by omega)]; exact hN) (by decide) (by decide) ?_
  intro h1 E1 A1 Y1
  obtain ⟨na, ga⟩ : ∃ z, z = h.size := ⟨_, rfl⟩
  rw [← ga] at A1 Y1 ⊢
  rw [← heq] at A1
  refine own_cast K (pc := 21) (hw _ (List.mem_of_getElem? (i := 229) rfl)) (Ins.self Y1) d25_21 ?_
  exact own_retAW K rfl (pc := 24) d25_24 rfl rfl rfl (by decide) (by decide) ⟨na, k, rfl, Nat.le_of_eq ga.symm, Fr.nil n0, (Keep.refl h []).ext E1, A1, Y1⟩
theorem cra (l : Launch) (Z : State) (a0 : Array Value) (h : Heap) (hw : ∀ d ∈ tables_1, d.before a0 Z = true) (ar : Addr) (k : ClassId) (N : Nat) (cs : List Int32) (A0 : Arv Z h ar k .byte (Int32.ofNat N) (cs.map Value.int) (.int 0)) (hN : N ≤ 40) (n0 : Nat) (hn : n0 ≤ h.size) (hl : cs.length ≤ N) (X0 : Exa Z h ar "[B") : own_W l (⟨"java/util/Arrays", "copyOfRange", "([BII)[B"⟩ : MethodName) jdk_65_method_132_code 3 (some (.array .byte)) [] { frames := 2, cells := 1, slots := 40, locals := 42 } Z h #[(.ref ar), (.int (0 : Int32)), (.int (Int32.ofNat cs.length))] (own_QC Z h n0 cs.length cs) := by
  rcases Nat.lt_or_ge cs.length N with q | q
  · exact cr l Z a0 h hw ar k N cs A0 hN n0 hn q
  · exact crc l Z a0 h hw ar k N cs A0 hN n0 hn (Nat.le_antisymm hl q) X0
set_option maxHeartbeats 2000000 in
theorem st2 (l : Launch) (Z : State) (a0 : Array Value) (h : Heap) (hw : ∀ d ∈ tables_1, d.before a0 Z = true) (sb ar : Addr) (k : ClassId) (N : Nat) (cs : List Int32) (B : own_Bd Z h sb ar k N cs) (z : Int32) (g : Value) (T : own_T Z h z g) (x : Addr) (n0 : Nat) (hx : n0 ≤ x) (hn : n0 ≤ h.size) (X : Exa Z h x "java/lang/String") (FV : Fld Z h x "java/lang/String" "value" "[B" .null) (FC : Fld Z h x "java/lang/String" "coder" "B" (.int 0)) : own_W l (⟨"java/lang/String", "<init>", "(Ljava/lang/AbstractStringBuilder;Ljava/lang/Void;)V"⟩ : MethodName) jdk_42_method_150_code 5 none [] { frames := 3, cells := 1, slots := 40, locals := 57 } Z h #[(.ref x), (.ref sb), Value.null] (own_QS Z x h n0 cs) := by
  refine own_metW (by decide +kernel) (Ls := #[.val (.ref x), .val (.ref sb), .val Value.null, .unset, .unset]) (fun m => by first | (simp [entryFrame, mkF, argsToLocals, Value.category]; done) | rfl) ?_
  intro p e s m below meth c hnm K
  refine own_aloadN K (pc := 0) d21_0 rfl rfl ?_
  refine own_initO K (pc := 1) (W := 0) (hw _ (List.mem_of_getElem? (i := 135) rfl)) (hw _ (List.mem_of_getElem? (i := 30) rfl)) (hw _ (List.mem_of_getElem? (i := 31) rfl)) d21_1 rfl (by decide) (Nat.le_of_eq rfl) (by decide) ?_
  refine own_aloadN K (pc := 4) d21_4 rfl rfl ?_
  refine own_callV K (pc := 5) (W := 0) (rest := []) (argsL := []) (u := (.ref ar)) rfl rfl (bgv l Z a0 h hw sb ar k N cs B) B.1 (hw _ (List.mem_of_getElem? (i := 136) rfl)) (hw _ (List.mem_of_getElem? (i := 137) rfl)) (hw _ (List.mem_of_getElem? (i := 139) rfl)) (hw _ (List.mem_of_getElem? (i := 138) rfl)) (hw _ (List.mem_of_getElem? (i := 140) rfl)) (hw _ (List.mem_of_getElem? (i := 27) rfl)) (by decide) d21_5 pd_22 rfl rfl rfl (Nat.le_of_eq rfl) (by decide) (by decide) (by decide) (by decide) ?_
  refine own_astoreN K (pc := 8) (Ls' := #[.val (.ref x), .val (.ref sb), .val Value.null, .val (.ref ar), .unset]) d21_8 rfl rfl ?_
  refine own_aloadN K (pc := 9) d21_9 rfl rfl ?_
  refine own_callVW K (pc := 10) (W := 0) (a := sb) (rest := []) (argsL := []) (own_nf (y := (⟨"java/lang/AbstractStringBuilder", "length", "()I"⟩ : MethodName)) (y' := (⟨"java/lang/AbstractStringBuilder", "isLatin1", "()Z"⟩ : MethodName)) (D := "java/lang/StringBuilder") rfl (hw _ (List.mem_of_getElem? (i := 64) rfl)) K.2.1) (own_W_of_M (bsl l Z a0 h hw sb ar k N cs B)) B.1 (hw _ (List.mem_of_getElem? (i := 141) rfl)) (hw _ (List.mem_of_getElem? (i := 142) rfl)) (hw _ (List.mem_of_getElem? (i := 144) rfl)) (hw _ (List.mem_of_getElem? (i := 145) rfl)) (hw _ (List.mem_of_getElem? (i := 146) rfl)) (hw _ (List.mem_of_getElem? (i := 19) rfl)) (by decide) d21_10 pd_24 rfl rfl rfl (Nat.le_of_eq rfl) (by decide) (by decide) (by decide) (by decide) ?_
  intro u h' L' q
  obtain ⟨rfl, rfl, hh⟩ := q
  subst h'
  refine own_istore K (pc := 13) (Ls' := #[.val (.ref x), .val (.ref sb), .val Value.null, .val (.ref ar), .val (.int (Int32.ofNat cs.length))]) d21_13 rfl ?_
  refine own_aloadN K (pc := 15) d21_15 rfl rfl ?_
  refine own_callV K (pc := 16) (W := 0) (rest := []) (argsL := []) (u := (.int (1 : Int32))) rfl rfl (bla l Z a0 h hw sb ar k N cs B z g T) B.1 (hw _ (List.mem_of_getElem? (i := 149) rfl)) (hw _ (List.mem_of_getElem? (i := 62) rfl)) (hw _ (List.mem_of_getElem? (i := 64) rfl)) (hw _ (List.mem_of_getElem? (i := 63) rfl)) (hw _ (List.mem_of_getElem? (i := 65) rfl)) (hw _ (List.mem_of_getElem? (i := 27) rfl)) (by decide) d21_16 pd_10 rfl rfl rfl (Nat.le_of_eq rfl) (by decide) (by decide) (by decide) (by decide) ?_
  refine own_ifN K (pc := 19) d21_19 (by decide) ?_
  refine own_aloadN K (pc := 22) d21_22 rfl rfl ?_
  refine own_iconst K (pc := 23) d21_23 (x := (0 : Int32)) (by decide) ?_
  refine own_putF K hnm (pc := 24) (hw _ (List.mem_of_getElem? (i := 100) rfl)) FC X (hw _ (List.mem_of_getElem? (i := 76) rfl)) (hw _ (List.mem_of_getElem? (i := 74) rfl)) (ty := .byte) (by decide) rfl rfl d21_24 ?_
  intro h1 W1
  have X1 := X.wr W1
  have C1 := FC.same W1
  have V1 := FV.other W1 (Or.inr (slot_ne (a0 := a0) (Or.inr (hw _ (List.mem_of_getElem? (i := 75) rfl))) (Or.inr (hw _ (List.mem_of_getElem? (i := 76) rfl))) (by decide) (t := .array .byte) (by decide) (t' := .byte) (by decide)))
  have nx : ar ≠ x := fun e => Exa.neArv X B.2.2.2.2.1 (hw _ (List.mem_of_getElem? (i := 74) rfl)) e.symm
  have A1 := B.2.2.2.2.1.other W1 nx
  have Y1 := B.2.2.2.2.2.2.2.wr W1
  refine own_aloadN K (pc := 27) d21_27 rfl rfl ?_
  refine own_aloadN K (pc := 28) d21_28 rfl rfl ?_
  refine own_iconst K (pc := 29) d21_29 (x := (0 : Int32)) (by decide) ?_
  refine own_iload K (pc := 30) d21_30 rfl ?_
  refine own_callSW K (pc := 32) (W := 1) (rest := [.ref x]) (argsL := [.ref ar, .int 0, .int (Int32.ofNat cs.length)]) (cra l Z a0 h1 hw ar k N cs A1 B.2.2.2.2.2.2.1 n0 (by rw [W1.size]; exact hn) B.2.2.2.2.2.1 Y1) (hw _ (List.mem_of_getElem? (i := 150) rfl)) (hw _ (List.mem_of_getElem? (i := 151) rfl)) (hw _ (List.mem_of_getElem? (i := 152) rfl)) (hw _ (List.mem_of_getElem? (i := 153) rfl)) (by decide) d21_32 pd_25 rfl rfl rfl (Nat.le_of_eq rfl) (by decide) (by decide) (by decide) (by decide) ?_
  intro u h2 L2 q
  obtain ⟨na, k1, rfl, gna, N2, K2, A2, Y2⟩ := q
  refine own_putF K hnm (pc := 35) (hw _ (List.mem_of_getElem? (i := 93) rfl)) (V1.keep K2 (by simp)) (X1.keep K2) (hw _ (List.mem_of_getElem? (i := 75) rfl)) (hw _ (List.mem_of_getElem? (i := 74) rfl)) (ty := .array .byte) (by decide) rfl rfl d21_35 ?_
  intro h3 W3
  have nn : na ≠ x := fun e => absurd X1.lt (Nat.not_lt.mpr (e ▸ gna))
  have S : own_S Z h3 x na k1 (Int32.ofNat cs.length) (cs.map Value.int) := ⟨(X1.keep K2).wr W3, (C1.keep K2 (by simp)).other W3 (Or.inr (slot_ne (a0 := a0) (Or.inr (hw _ (List.mem_of_getElem? (i := 76) rfl))) (Or.inr (hw _ (List.mem_of_getElem? (i := 75) rfl))) (by decide) (t := .byte) (by decide) (t' := .array .byte) (by decide))), (V1.keep K2 (by simp)).same W3, A2.other W3 nn⟩
  have Kk : Keep h h3 [x] := (((Keep.refl h [x]).wr W1 (Or.inl (List.mem_singleton.mpr rfl))).trans K2 (fun y hy => nomatch hy)).wr W3 (Or.inl (List.mem_singleton.mpr rfl))
  refine own_goto K (pc := 38) (pc' := 97) d21_38 (by decide) (by decide) ?_
  exact own_retVW K (pc := 97) d21_97 (by decide) (by decide) ⟨rfl, own_Fr1 ((own_Fr1 ((Fr.nil n0).app (Fr.nil n0)) hx _).app N2) hx _, Kk, na, k1, S⟩
set_option maxHeartbeats 2000000 in
theorem st1 (l : Launch) (Z : State) (a0 : Array Value) (h : Heap) (hw : ∀ d ∈ tables_1, d.before a0 Z = true) (sb ar : Addr) (k : ClassId) (N : Nat) (cs : List Int32) (B : own_Bd Z h sb ar k N cs) (z : Int32) (g : Value) (T : own_T Z h z g) (x : Addr) (n0 : Nat) (hx : n0 ≤ x) (hn : n0 ≤ h.size) (X : Exa Z h x "java/lang/String") (FV : Fld Z h x "java/lang/String" "value" "[B" .null) (FC : Fld Z h x "java/lang/String" "coder" "B" (.int 0)) : own_W l (⟨"java/lang/String", "<init>", "(Ljava/lang/StringBuilder;)V"⟩ : MethodName) jdk_42_method_53_code 2 none [] { frames := 4, cells := 1, slots := 40, locals := 73 } Z h #[(.ref x), (.ref sb)] (own_QS Z x h n0 cs) := by
  refine own_metW (by decide +kernel) (Ls := #[.val (.ref x), .val (.ref sb)]) (fun m => by first | (simp [entryFrame, mkF, argsToLocals, Value.category]; done) | rfl) ?_
  intro p e s m below meth c hnm K
  refine own_aloadN K (pc := 0) d20_0 rfl rfl ?_
  refine own_aloadN K (pc := 1) d20_1 rfl rfl ?_
  refine own_aconstNull K (pc := 2) d20_2 ?_
  refine own_initW K (pc := 3) (W := 0) (a := x) (rest := []) (argsL := [.ref sb, .null]) rfl rfl (st2 l Z a0 h hw sb ar k N cs B z g T x n0 hx hn X FV FC) (hw _ (List.mem_of_getElem? (i := 132) rfl)) (hw _ (List.mem_of_getElem? (i := 133) rfl)) (hw _ (List.mem_of_getElem? (i := 134) rfl)) (hw _ (List.mem_of_getElem? (i := 33) rfl)) (by decide) d20_3 pd_21 rfl rfl rfl (Nat.le_of_eq rfl) (by decide) (by decide) (by decide) (by decide) ?_
  intro u h' L q
  obtain ⟨rfl, q⟩ := q
  exact own_retVW K (pc := 6) d20_6 (by decide) (by decide) ⟨rfl, q⟩
set_option maxHeartbeats 2000000 in
theorem ts (l : Launch) (Z : State) (a0 : Array Value) (h : Heap) (hw : ∀ d ∈ tables_1, d.before a0 Z = true) (sb ar : Addr) (k : ClassId) (N : Nat) (cs : List Int32) (B : own_Bd Z h sb ar k N cs) (z : Int32) (g : Value) (T : own_T Z h z g) (n0 : Nat) (hn : n0 ≤ h.size) : own_W l (⟨"java/lang/StringBuilder", "toString", "()Ljava/lang/String;"⟩ : MethodName) jdk_67_method_42_code 1 (some (.object "java/lang/String")) [] { frames := 5, cells := 2, slots := 44, locals := 87 } Z h #[(.ref sb)] (own_QX Z h n0 cs) := by
  refine own_metW (by decide +kernel) (Ls := #[.val (.ref sb)]) (fun m => by first | (simp [entryFrame, mkF, argsToLocals, Value.category]; done) | rfl) ?_
  intro p e s m below meth c hnm K
  refine own_new K (pc := 0) (n := 4) (hw _ (List.mem_of_getElem? (i := 127) rfl)) (hw _ (List.mem_of_getElem? (i := 74) rfl)) (hw _ (List.mem_of_getElem? (i := 33) rfl)) d19_0 (by decide) (by decide) ?_
  intro h1 E1 X1 D1
  obtain ⟨x, gx⟩ : ∃ z, z = h.size := ⟨_, rfl⟩
  rw [← gx] at X1 D1 ⊢
  have FV : Fld Z h1 x "java/lang/String" "value" "[B" .null := D1 (Or.inr (hw _ (List.mem_of_getElem? (i := 75) rfl))) (ty := .array .byte) (by decide)
  have FC : Fld Z h1 x "java/lang/String" "coder" "B" (.int 0) := D1 (Or.inr (hw _ (List.mem_of_getElem? (i := 76) rfl))) (ty := .byte) (by decide)
  have B1 := own_Bd_ext E1 B
  have T1 := own_T_ext E1 T
  refine own_dup K (pc := 3) d19_3 rfl ?_
  refine own_aloadN K (pc := 4) d19_4 rfl rfl ?_
  refine own_initW K (pc := 5) (W := 1) (a := x) (rest := [.ref x]) (argsL := [.ref sb]) rfl rfl (st1 l Z a0 h1 hw sb ar k N cs B1 z g T1 x n0 (by omega) (Nat.le_trans hn E1.1) X1 FV FC) (hw _ (List.mem_of_getElem? (i := 128) rfl)) (hw _ (List.mem_of_getElem? (i := 129) rfl)) (hw _ (List.mem_of_getElem? (i := 131) rfl)) (hw _ (List.mem_of_getElem? (i := 33) rfl)) (by decide) d19_5 pd_20 rfl rfl rfl (Nat.le_of_eq rfl) (by decide) (by decide) (by decide) (by decide) ?_
  intro u h2 L2 q
  obtain ⟨rfl, N2, K2, b2, kb, S2⟩ := q
  exact own_retAW K rfl (pc := 8) d19_8 rfl rfl rfl (by decide) (by decide) ⟨x, b2, kb, rfl, (Fr.nil n0).app N2, ((Keep.refl h []).ext E1).trans K2 (fun y hy => by cases List.mem_singleton.mp hy; exact Or.inr (Nat.le_of_eq gx.symm)), S2⟩
theorem own_joined (cs ds : List Int32) (d : Value) : (cs.map Value.int ++ List.replicate ds.length d).take cs.length ++ (List.range ds.length).map (fun i => (ds.map Value.int).getD (0 + i) d) ++ (cs.map Value.int ++ List.replicate ds.length d).drop (cs.length + ds.length) = (cs ++ ds).map Value.int := by
  rw [List.take_left' (by simp), List.drop_eq_nil_of_le (by simp), List.append_nil, List.map_append]
  congr 1
  apply List.ext_getElem
  · simp
  · intro i h1 h2
    simp at h1 h2
    simp [List.getD, h1]
def own_QB (Z : State) (h : Heap) (n0 : Nat) (ar : Addr) (k : ClassId) (N : Nat) (cs : List Int32) (u : Option Value) (h' : Heap) (L : List Loc) : Prop := u = none ∧ Fr n0 L ∧ Keep h h' [ar] ∧ Arv Z h' ar k .byte (Int32.ofNat N) (cs.map Value.int) (.int 0)
def own_QG (Z : State) (h : Heap) (n0 : Nat) (sb ar0 : Addr) (N : Nat) (cs : List Int32) (u : Option Value) (h' : Heap) (L : List Loc) : Prop := u = some (.ref sb) ∧ Fr n0 L ∧ Keep h h' [sb, ar0] ∧ ∃ (ar : Addr) (k : ClassId), own_Bd Z h' sb ar k N cs ∧ n0 ≤ ar ∧ (ar = ar0 ∨ h.size ≤ ar)
def own_QE2 (Z : State) (h : Heap) (n0 : Nat) (sb ar0 : Addr) (cs : List Int32) (u : Option Value) (h' : Heap) (L : List Loc) : Prop := u = none ∧ Fr n0 L ∧ Keep h h' [sb] ∧ ∃ (ar : Addr) (k : ClassId), own_Bd Z h' sb ar k 34 cs ∧ h.size ≤ ar
theorem own_ne_sb {Z : State} {a0 : Array Value} {h : Heap} {sb ar : Addr} {k : ClassId} {N : Nat} {cs : List Int32} (hw : ∀ d ∈ tables_1, d.before a0 Z = true) (B : own_Bd Z h sb ar k N cs) : ar ≠ sb := fun e => Exa.neArv B.1 B.2.2.2.2.1 (hw _ (List.mem_of_getElem? (i := 18) rfl)) e.symm
/-- the count written: the builder holds cs -/
theorem own_cnt {Z : State} {a0 : Array Value} {h h' : Heap} {sb ar : Addr} {k : ClassId} {N : Nat} {cs : List Int32} {v0 : Value} (hw : ∀ d ∈ tables_1, d.before a0 Z = true) (W : Wr h h' sb (Jvm.RoadKit.slotOf Z "java/lang/AbstractStringBuilder" "count" "I") (.int (Int32.ofNat cs.length))) (X : Exa Z h sb "java/lang/StringBuilder") (FC : Fld Z h sb "java/lang/AbstractStringBuilder" "coder" "B" (.int 0)) (FV : Fld Z h sb "java/lang/AbstractStringBuilder" "value" "[B" (.ref ar)) (FN : Fld Z h sb "java/lang/AbstractStringBuilder" "count" "I" v0) (A : Arv Z h ar k .byte (Int32.ofNat N) (cs.map Value.int) (.int 0)) (hl : cs.length ≤ N) (hN : N ≤ 40) (Y : Exa Z h ar "[B") (ne : ar ≠ sb) : own_Bd Z h' sb ar k N cs :=
  ⟨X.wr W, FC.other W (Or.inr (slot_ne (own_l_coder hw) (own_l_count hw) (by decide) (t := .byte) (by decide) (t' := .int) (by decide))), FV.other W (Or.inr (slot_ne (own_l_value hw) (own_l_count hw) (by decide) (t := .array .byte) (by decide) (t' := .int) (by decide))), FN.same W, A.other W ne, hl, hN, Y.wr W⟩
theorem own_mem1 {x y : Addr} (h : x ≠ y) : x ∉ [y] := fun q => h (List.mem_singleton.mp q)
set_option maxHeartbeats 2000000 in
theorem gb (l : Launch) (Z : State) (a0 : Array Value) (h : Heap) (hw : ∀ d ∈ tables_1, d.before a0 Z = true) (a b : Addr) (kc : ClassId) (ds : List Int32) (z : Int32) (g : Value) (S : own_S Z h a b kc (Int32.ofNat ds.length) (ds.map Value.int)) (T : own_T Z h z g) (ar : Addr) (k : ClassId) (N : Nat) (cs : List Int32) (A0 : Arv Z h ar k .byte (Int32.ofNat N) (cs.map Value.int) (.int 0)) (hN : N ≤ 40) (n0 : Nat) (hn : n0 ≤ ar) (hr : cs.length + ds.length ≤ N) : own_W l (⟨"java/lang/String", "getBytes", "([BIB)V"⟩ : MethodName) jdk_42_method_147_code 4 none [] { frames := 1, cells := 0, slots := 0, locals := 26 } Z h #[(.ref a), (.ref ar), (.int (Int32.ofNat cs.length)), (.int (0 : Int32))] (own_QB Z h n0 ar k N (cs ++ ds)) := by
  refine own_metW (by decide +kernel) (Ls := #[.val (.ref a), .val (.ref ar), .val (.int (Int32.ofNat cs.length)), .val (.int (0 : Int32))]) (fun m => by first | (simp [entryFrame, mkF, argsToLocals, Value.category]; done) | rfl) ?_
  intro p e s m below meth c hnm K
  refine own_aloadN K (pc := 0) d18_0 rfl rfl ?_
  refine own_callV K (pc := 1) (W := 0) (rest := []) (argsL := []) (u := (.int (0 : Int32))) rfl rfl (cod l Z a0 h hw a b kc _ _ z g S T) S.1 (hw _ (List.mem_of_getElem? (i := 94) rfl)) (hw _ (List.mem_of_getElem? (i := 95) rfl)) (hw _ (List.mem_of_getElem? (i := 97) rfl)) (hw _ (List.mem_of_getElem? (i := 96) rfl)) (hw _ (List.mem_of_getElem? (i := 98) rfl)) (hw _ (List.mem_of_getElem? (i := 33) rfl)) (by decide) d18_1 pd_15 rfl rfl rfl (Nat.le_of_eq rfl) (by decide) (by decide) (Nat.zero_le _) (Nat.zero_le _) ?_
  refine own_iloadN K (pc := 4) d18_4 rfl ?_
  refine own_icmpN K (pc := 5) d18_5 (by decide) ?_
  refine own_aloadN K (pc := 8) d18_8 rfl rfl ?_
  refine own_getF K (pc := 9) (hw _ (List.mem_of_getElem? (i := 93) rfl)) S.2.2.1 d18_9 ?_
  refine own_iconst K (pc := 12) d18_12 (x := (0 : Int32)) (by decide) ?_
  refine own_aloadN K (pc := 13) d18_13 rfl rfl ?_
  refine own_iloadN K (pc := 14) d18_14 rfl ?_
  refine own_iloadN K (pc := 15) d18_15 rfl ?_
  refine own_ishl K (pc := 16) d18_16 ?_
  rw [own_sl0]
  refine own_aloadN K (pc := 17) d18_17 rfl rfl ?_
  refine own_getF K (pc := 18) (hw _ (List.mem_of_getElem? (i := 93) rfl)) S.2.2.1 d18_18 ?_
  refine own_alen K (pc := 21) S.2.2.2 d18_21 ?_
  have A1 := A0.pad (pad_rep (cs.map Value.int) (.int 0) ds.length)
  refine own_copy K (pc := 22) (W := 0) (n0 := n0) (Fr.nil n0) hn (hw _ (List.mem_of_getElem? (i := 117) rfl)) (hw _ (List.mem_of_getElem? (i := 120) rfl)) (hw _ (List.mem_of_getElem? (i := 118) rfl)) (hw _ (List.mem_of_getElem? (i := 119) rfl)) S.2.2.2 A1 (by decide) (own_nn (by omega)) (own_nn (by omega)) (by rw [own_nat (by omega)]; show 0 + _ ≤ _; omega) (by rw [own_nat (by omega), own_nat (by omega), own_nat (by omega)]; exact hr) (by rw [own_nat (by omega), own_nat (by omega)]; simp) d18_22 rfl (by decide) (Nat.le_of_eq rfl) (by decide) ?_
  intro h2 L2 N2 K2 A3
  rw [own_nat (show cs.length ≤ 4000 by omega), own_nat (show ds.length ≤ 4000 by omega)] at A3
  have A3 : Arv Z h2 ar k .byte (Int32.ofNat N) ((cs ++ ds).map Value.int) (.int 0) := by rw [← own_joined cs ds (.int 0)]; exact A3
  refine own_goto K (pc := 25) (pc' := 43) d18_25 (by decide) (by decide) ?_
  exact own_retVW K (pc := 43) d18_43 (by decide) (by decide) ⟨rfl, N2, K2, A3⟩
set_option maxHeartbeats 2000000 in
theorem ps (l : Launch) (Z : State) (a0 : Array Value) (h : Heap) (hw : ∀ d ∈ tables_1, d.before a0 Z = true) (sb ar : Addr) (k : ClassId) (N : Nat) (cs : List Int32) (B : own_Bd Z h sb ar k N cs) (a b : Addr) (kc : ClassId) (ds : List Int32) (z : Int32) (g : Value) (S : own_S Z h a b kc (Int32.ofNat ds.length) (ds.map Value.int)) (T : own_T Z h z g) (n0 : Nat) (hn : n0 ≤ ar) (hr : cs.length + ds.length ≤ N) : own_W l (⟨"java/lang/AbstractStringBuilder", "putStringAt", "(ILjava/lang/String;)V"⟩ : MethodName) jdk_68_method_73_code 3 none [] { frames := 2, cells := 0, slots := 0, locals := 41 } Z h #[(.ref sb), (.int (Int32.ofNat cs.length)), (.ref a)] (own_QB Z h n0 ar k N (cs ++ ds)) := by
  refine own_metW (by decide +kernel) (Ls := #[.val (.ref sb), .val (.int (Int32.ofNat cs.length)), .val (.ref a)]) (fun m => by first | (simp [entryFrame, mkF, argsToLocals, Value.category]; done) | rfl) ?_
  intro p e s m below meth c hnm K
  refine own_aloadN K (pc := 0) d16_0 rfl rfl ?_
  refine own_aloadN K (pc := 1) d16_1 rfl rfl ?_
  refine own_callVW K (pc := 2) (W := 0) (a := sb) (rest := []) (argsL := [.ref a]) (own_nf (y := (⟨"java/lang/AbstractStringBuilder", "inflateIfNeededFor", "(Ljava/lang/String;)V"⟩ : MethodName)) (y' := (⟨"java/lang/AbstractStringBuilder", "isLatin1", "()Z"⟩ : MethodName)) (D := "java/lang/StringBuilder") rfl (hw _ (List.mem_of_getElem? (i := 64) rfl)) K.2.1) (own_W_of_M (inf l Z a0 h hw sb ar k N cs B a b kc _ _ z g S T)) B.1 (hw _ (List.mem_of_getElem? (i := 106) rfl)) (own_decl (hw _ (List.mem_of_getElem? (i := 107) rfl)) (hw _ (List.mem_of_getElem? (i := 110) rfl))) (hw _ (List.mem_of_getElem? (i := 109) rfl)) (hw _ (List.mem_of_getElem? (i := 107) rfl)) (hw _ (List.mem_of_getElem? (i := 110) rfl)) (hw _ (List.mem_of_getElem? (i := 27) rfl)) (by decide) d16_2 pd_17 rfl rfl rfl (Nat.le_of_eq rfl) (by decide) (by decide) (Nat.zero_le _) (Nat.zero_le _) ?_
  intro u h' L' q
  obtain ⟨rfl, rfl, hh⟩ := q
  subst h'
  refine own_aloadN K (pc := 5) d16_5 rfl rfl ?_
  refine own_aloadN K (pc := 6) d16_6 rfl rfl ?_
  refine own_getF K (pc := 7) (hw _ (List.mem_of_getElem? (i := 35) rfl)) B.2.2.1 d16_7 ?_
  refine own_iloadN K (pc := 10) d16_10 rfl ?_
  refine own_aloadN K (pc := 11) d16_11 rfl rfl ?_
  refine own_getF K (pc := 12) (hw _ (List.mem_of_getElem? (i := 37) rfl)) B.2.1 d16_12 ?_
  refine own_callVW K (pc := 15) (W := 0) (a := a) (rest := []) (argsL := [.ref ar, .int (Int32.ofNat cs.length), .int 0]) (notFace_of_selects (args := #[]) (mvT K.2.1 (hw _ (List.mem_of_getElem? (i := 115) rfl)))) (gb l Z a0 h hw a b kc ds z g S T ar k N cs B.2.2.2.2.1 B.2.2.2.2.2.2.1 n0 hn hr) S.1 (hw _ (List.mem_of_getElem? (i := 112) rfl)) (hw _ (List.mem_of_getElem? (i := 113) rfl)) (hw _ (List.mem_of_getElem? (i := 115) rfl)) (hw _ (List.mem_of_getElem? (i := 114) rfl)) (hw _ (List.mem_of_getElem? (i := 116) rfl)) (hw _ (List.mem_of_getElem? (i := 33) rfl)) (by decide) d16_15 pd_18 rfl rfl rfl (Nat.le_of_eq rfl) (by decide) (by decide) (Nat.zero_le _) (Nat.zero_le _) ?_
  intro u h' L' q
  obtain ⟨rfl, q1, q2⟩ := q
  exact own_retVW K (pc := 18) d16_18 (by decide) (by decide) ⟨rfl, (Fr.nil n0).app q1, q2⟩
theorem own_grown (cs : List Int32) (hl : cs.length ≤ 16) (i : Nat) : (cs.map Value.int).getD i (.int 0) = ((([] ++ List.replicate 16 (Value.int 0)).take (Int32.toNatClampNeg 0) ++ (List.range (Int32.toNatClampNeg 16)).map (fun i => (cs.map Value.int).getD (Int32.toNatClampNeg 0 + i) (.int 0)) ++ ([] ++ List.replicate 16 (Value.int 0)).drop (Int32.toNatClampNeg 0 + Int32.toNatClampNeg 16))).getD i (.int 0) := by
  have e0 : Int32.toNatClampNeg 0 = 0 := by decide
  have e1 : Int32.toNatClampNeg 16 = 16 := by decide
  rw [e0, e1, List.take_zero, List.nil_append, Nat.zero_add, List.drop_eq_nil_of_le (by simp), List.append_nil]
  rcases Nat.lt_or_ge i 16 with q | q
  · simp [List.getD, q]
  · simp [List.getD, show ¬ i < 16 by omega, show cs.length ≤ i by omega]
set_option maxHeartbeats 2000000 in
theorem cpo (l : Launch) (Z : State) (a0 : Array Value) (h : Heap) (hw : ∀ d ∈ tables_1, d.before a0 Z = true) (ar : Addr) (k : ClassId) (cs : List Int32) (A0 : Arv Z h ar k .byte (Int32.ofNat 16) (cs.map Value.int) (.int 0)) (hl : cs.length ≤ 16) (n0 : Nat) (hn : n0 ≤ h.size) : own_W l (⟨"java/util/Arrays", "copyOf", "([BI)[B"⟩ : MethodName) jdk_65_method_121_code 3 (some (.array .byte)) [] { frames := 1, cells := 1, slots := 34, locals := 26 } Z h #[(.ref ar), (.int (34 : Int32))] (own_QC Z h n0 34 cs) := by
  refine own_metW (by decide +kernel) (Ls := #[.val (.ref ar), .val (.int (34 : Int32)), .unset]) (fun m => by first | (simp [entryFrame, mkF, argsToLocals, Value.category]; done) | rfl) ?_
  intro p e s m below meth c hnm K
  refine own_iloadN K (pc := 0) d38_0 rfl ?_
  refine own_aloadN K (pc := 1) d38_1 rfl rfl ?_
  refine own_alen K (pc := 2) A0 d38_2 ?_
  refine own_icmpY K (pc := 3) (pc' := 14) d38_3 (by decide) (by decide) (by decide) ?_
  refine own_iloadN K (pc := 14) d38_14 rfl ?_
  refine own_newB K (pc := 15) (cap := 34) (hw _ (List.mem_of_getElem? (i := 34) rfl)) d38_15 (by decide) (by decide) (by decide) (by decide) (by decide) ?_
  intro h1 k1 E1 A1 Y1
  obtain ⟨na, ga⟩ : ∃ z, z = h.size := ⟨_, rfl⟩
  rw [← ga] at A1 Y1 ⊢
  have A2 := A0.ext E1
  have A1 := A1.pad (pad_rep [] (.int 0) 16)
  refine own_astoreN K (pc := 17) (Ls' := #[.val (.ref ar), .val (.int (34 : Int32)), .val (.ref na)]) d38_17 rfl rfl ?_
  refine own_aloadN K (pc := 18) d38_18 rfl rfl ?_
  refine own_iconst K (pc := 19) d38_19 (x := (0 : Int32)) (by decide) ?_
  refine own_aloadN K (pc := 20) d38_20 rfl rfl ?_
  refine own_iconst K (pc := 21) d38_21 (x := (0 : Int32)) (by decide) ?_
  refine own_aloadN K (pc := 22) d38_22 rfl rfl ?_
  refine own_alen K (pc := 23) A2 d38_23 ?_
  refine own_iloadN K (pc := 24) d38_24 rfl ?_
  refine own_callS K (pc := 25) (W := 4) (rest := [(.int (0 : Int32)), (.ref na), (.int (0 : Int32)), (.ref ar)]) (argsL := [(.int (16 : Int32)), (.int (34 : Int32))]) (u := (.int (16 : Int32))) rfl rfl (mnl l Z a0 h1 hw 16 34 (by decide)) (hw _ (List.mem_of_getElem? (i := 160) rfl)) (hw _ (List.mem_of_getElem? (i := 161) rfl)) (hw _ (List.mem_of_getElem? (i := 162) rfl)) (hw _ (List.mem_of_getElem? (i := 163) rfl)) (by decide) d38_25 pd_28 rfl rfl rfl (Nat.le_of_eq rfl) (by decide) (by decide) (by decide) (by decide) ?_
  refine own_copy K (pc := 28) (W := 0) (n0 := n0) (Fr.nil n0) (by omega) (hw _ (List.mem_of_getElem? (i := 164) rfl)) (hw _ (List.mem_of_getElem? (i := 120) rfl)) (hw _ (List.mem_of_getElem? (i := 118) rfl)) (hw _ (List.mem_of_getElem? (i := 119) rfl)) A2 A1 (by decide) (by decide) (by decide) (by decide) (by decide) (by decide) d38_28 rfl (by decide) (Nat.le_of_eq rfl) (by decide) ?_
  intro h2 L2 N2 K2 A3
  have A3 : Arv Z h2 na k1 .byte (Int32.ofNat 34) (cs.map Value.int) (.int 0) := A3.pad (fun i => own_grown cs hl i)
  refine own_aloadN K (pc := 31) d38_31 rfl rfl ?_
  exact own_retAW K rfl (pc := 32) d38_32 rfl rfl rfl (by decide) (by decide) ⟨na, k1, rfl, Nat.le_of_eq ga.symm, N2, ((Keep.refl h []).ext E1).trans K2 (fun x hx => by cases List.mem_singleton.mp hx; exact Or.inr (Nat.le_of_eq ga.symm)), A3, Y1.keep K2⟩
set_option maxHeartbeats 2000000 in
theorem eng1 (l : Launch) (Z : State) (a0 : Array Value) (h : Heap) (hw : ∀ d ∈ tables_1, d.before a0 Z = true) (sb ar : Addr) (k : ClassId) (cs : List Int32) (B : own_Bd Z h sb ar k 16 cs) (n0 : Nat) (hs : n0 ≤ sb) (hn : n0 ≤ h.size) : own_W l (⟨"java/lang/AbstractStringBuilder", "ensureCapacityInternal", "(I)V"⟩ : MethodName) jdk_68_method_9_code 3 none [] { frames := 3, cells := 1, slots := 34, locals := 48 } Z h #[(.ref sb), (.int (17 : Int32))] (own_QE2 Z h n0 sb ar cs) := by
  refine own_metW (by decide +kernel) (Ls := #[.val (.ref sb), .val (.int (17 : Int32)), .unset]) (fun m => by first | (simp [entryFrame, mkF, argsToLocals, Value.category]; done) | rfl) ?_
  intro p e s m below meth c hnm K
  refine own_aloadN K (pc := 0) d9_0 rfl rfl ?_
  refine own_getF K (pc := 1) (hw _ (List.mem_of_getElem? (i := 35) rfl)) B.2.2.1 d9_1 ?_
  refine own_alen K (pc := 4) B.2.2.2.2.1 d9_4 ?_
  refine own_aloadN K (pc := 5) d9_5 rfl rfl ?_
  refine own_getF K (pc := 6) (hw _ (List.mem_of_getElem? (i := 37) rfl)) B.2.1 d9_6 ?_
  refine own_ishr K (pc := 9) d9_9 ?_
  refine own_istoreN K (pc := 10) (Ls' := #[.val (.ref sb), .val (.int (17 : Int32)), .val (.int ((16 : Int32) >>> ((0 : Int32) &&& 31)))]) d9_10 rfl ?_
  refine own_iloadN K (pc := 11) d9_11 rfl ?_
  refine own_iloadN K (pc := 12) d9_12 rfl ?_
  refine own_isub K (pc := 13) d9_13 ?_
  refine own_ifN K (pc := 14) d9_14 (by decide) ?_
  refine own_aloadN K (pc := 17) d9_17 rfl rfl ?_
  refine own_aloadN K (pc := 18) d9_18 rfl rfl ?_
  refine own_getF K (pc := 19) (hw _ (List.mem_of_getElem? (i := 35) rfl)) B.2.2.1 d9_19 ?_
  refine own_aloadN K (pc := 22) d9_22 rfl rfl ?_
  refine own_iloadN K (pc := 23) d9_23 rfl ?_
  refine own_callVW K (pc := 24) (W := 2) (a := sb) (rest := [.ref ar, .ref sb]) (argsL := [.int 17]) (own_nf (y := (⟨"java/lang/AbstractStringBuilder", "newCapacity", "(I)I"⟩ : MethodName)) (y' := (⟨"java/lang/AbstractStringBuilder", "isLatin1", "()Z"⟩ : MethodName)) (D := "java/lang/StringBuilder") rfl (hw _ (List.mem_of_getElem? (i := 64) rfl)) K.2.1) (own_W_of_M (nc1 l Z a0 h hw sb ar k cs B)) B.1 (hw _ (List.mem_of_getElem? (i := 205) rfl)) (own_decl (hw _ (List.mem_of_getElem? (i := 206) rfl)) (hw _ (List.mem_of_getElem? (i := 209) rfl))) (hw _ (List.mem_of_getElem? (i := 208) rfl)) (hw _ (List.mem_of_getElem? (i := 206) rfl)) (hw _ (List.mem_of_getElem? (i := 209) rfl)) (hw _ (List.mem_of_getElem? (i := 27) rfl)) (by decide) d9_24 pd_35 rfl rfl rfl (Nat.le_of_eq rfl) (by decide) (by decide) (by decide) (by decide) ?_
  intro u h' L' q
  obtain ⟨rfl, rfl, hh⟩ := q
  subst h'
  refine own_aloadN K (pc := 27) d9_27 rfl rfl ?_
  refine own_getF K (pc := 28) (hw _ (List.mem_of_getElem? (i := 37) rfl)) B.2.1 d9_28 ?_
  refine own_ishl K (pc := 31) d9_31 ?_
  refine own_callSW K (pc := 32) (W := 1) (rest := [.ref sb]) (argsL := [.ref ar, .int 34]) (cpo l Z a0 h hw ar k cs B.2.2.2.2.1 B.2.2.2.2.2.1 n0 hn) (hw _ (List.mem_of_getElem? (i := 219) rfl)) (hw _ (List.mem_of_getElem? (i := 220) rfl)) (hw _ (List.mem_of_getElem? (i := 152) rfl)) (hw _ (List.mem_of_getElem? (i := 221) rfl)) (by decide) d9_32 pd_38 rfl rfl rfl (Nat.le_of_eq rfl) (by decide) (by decide) (by decide) (by decide) ?_
  intro u h1 L1 q
  obtain ⟨na, k1, rfl, gn, N1, K1, A1, Y1⟩ := q
  have nn : na ≠ sb := fun e => absurd B.1.lt (Nat.not_lt.mpr (e ▸ gn))
  refine own_putL K (pc := 35) (hw _ (List.mem_of_getElem? (i := 35) rfl)) (B.2.2.1.keep K1 (by simp)) (B.1.keep K1) (hw _ (List.mem_of_getElem? (i := 36) rfl)) (hw _ (List.mem_of_getElem? (i := 18) rfl)) (ty := .array .byte) (by decide) rfl rfl d9_35 ?_
  intro h2 W2
  have Bd : own_Bd Z h2 sb na k1 34 cs := ⟨(B.1.keep K1).wr W2, (B.2.1.keep K1 (by simp)).other W2 (Or.inr (slot_ne (own_l_coder hw) (own_l_value hw) (by decide) (t := .byte) (by decide) (t' := .array .byte) (by decide))), (B.2.2.1.keep K1 (by simp)).same W2, (B.2.2.2.1.keep K1 (by simp)).other W2 (Or.inr (slot_ne (own_l_count hw) (own_l_value hw) (by decide) (t := .int) (by decide) (t' := .array .byte) (by decide))), A1.other W2 nn, Nat.le_trans B.2.2.2.2.2.1 (by decide), by decide, Y1.wr W2⟩
  exact own_retVW K (pc := 38) d9_38 (by decide) (by decide) ⟨rfl, own_Fr1 (((Fr.nil n0).app (Fr.nil n0)).app N1) hs _, (((Keep.refl h [sb]).trans K1 (fun y hy => nomatch hy)).wr W2 (Or.inl (List.mem_singleton.mpr rfl))), na, k1, Bd, gn⟩
set_option maxHeartbeats 2000000 in
theorem eng2 (l : Launch) (Z : State) (a0 : Array Value) (h : Heap) (hw : ∀ d ∈ tables_1, d.before a0 Z = true) (sb ar : Addr) (k : ClassId) (cs : List Int32) (B : own_Bd Z h sb ar k 16 cs) (n0 : Nat) (hs : n0 ≤ sb) (hn : n0 ≤ h.size) : own_W l (⟨"java/lang/AbstractStringBuilder", "ensureCapacityInternal", "(I)V"⟩ : MethodName) jdk_68_method_9_code 3 none [] { frames := 3, cells := 1, slots := 34, locals := 48 } Z h #[(.ref sb), (.int (18 : Int32))] (own_QE2 Z h n0 sb ar cs) := by
  refine own_metW (by decide +kernel) (Ls := #[.val (.ref sb), .val (.int (18 : Int32)), .unset]) (fun m => by first | (simp [entryFrame, mkF, argsToLocals, Value.category]; done) | rfl) ?_
  intro p e s m below meth c hnm K
  refine own_aloadN K (pc := 0) d9_0 rfl rfl ?_
  refine own_getF K (pc := 1) (hw _ (List.mem_of_getElem? (i := 35) rfl)) B.2.2.1 d9_1 ?_
  refine own_alen K (pc := 4) B.2.2.2.2.1 d9_4 ?_
  refine own_aloadN K (pc := 5) d9_5 rfl rfl ?_
  refine own_getF K (pc := 6) (hw _ (List.mem_of_getElem? (i := 37) rfl)) B.2.1 d9_6 ?_
  refine own_ishr K (pc := 9) d9_9 ?_
  refine own_istoreN K (pc := 10) (Ls' := #[.val (.ref sb), .val (.int (18 : Int32)), .val (.int ((16 : Int32) >>> ((0 : Int32) &&& 31)))]) d9_10 rfl ?_
  refine own_iloadN K (pc := 11) d9_11 rfl ?_
  refine own_iloadN K (pc := 12) d9_12 rfl ?_
  refine own_isub K (pc := 13) d9_13 ?_
  refine own_ifN K (pc := 14) d9_14 (by decide) ?_
  refine own_aloadN K (pc := 17) d9_17 rfl rfl ?_
  refine own_aloadN K (pc := 18) d9_18 rfl rfl ?_
  refine own_getF K (pc := 19) (hw _ (List.mem_of_getElem? (i := 35) rfl)) B.2.2.1 d9_19 ?_
  refine own_aloadN K (pc := 22) d9_22 rfl rfl ?_
  refine own_iloadN K (pc := 23) d9_23 rfl ?_
  refine own_callVW K (pc := 24) (W := 2) (a := sb) (rest := [.ref ar, .ref sb]) (argsL := [.int 18]) (own_nf (y := (⟨"java/lang/AbstractStringBuilder", "newCapacity", "(I)I"⟩ : MethodName)) (y' := (⟨"java/lang/AbstractStringBuilder", "isLatin1", "()Z"⟩ : MethodName)) (D := "java/lang/StringBuilder") rfl (hw _ (List.mem_of_getElem? (i := 64) rfl)) K.2.1) (own_W_of_M (nc2 l Z a0 h hw sb ar k cs B)) B.1 (hw _ (List.mem_of_getElem? (i := 205) rfl)) (own_decl (hw _ (List.mem_of_getElem? (i := 206) rfl)) (hw _ (List.mem_of_getElem? (i := 209) rfl))) (hw _ (List.mem_of_getElem? (i := 208) rfl)) (hw _ (List.mem_of_getElem? (i := 206) rfl)) (hw _ (List.mem_of_getElem? (i := 209) rfl)) (hw _ (List.mem_of_getElem? (i := 27) rfl)) (by decide) d9_24 pd_35 rfl rfl rfl (Nat.le_of_eq rfl) (by decide) (by decide) (by decide) (by decide) ?_
  intro u h' L' q
  obtain ⟨rfl, rfl, hh⟩ := q
  subst h'
  refine own_aloadN K (pc := 27) d9_27 rfl rfl ?_
  refine own_getF K (pc := 28) (hw _ (List.mem_of_getElem? (i := 37) rfl)) B.2.1 d9_28 ?_
  refine own_ishl K (pc := 31) d9_31 ?_
  refine own_callSW K (pc := 32) (W := 1) (rest := [.ref sb]) (argsL := [.ref ar, .int 34]) (cpo l Z a0 h hw ar k cs B.2.2.2.2.1 B.2.2.2.2.2.1 n0 hn) (hw _ (List.mem_of_getElem? (i := 219) rfl)) (hw _ (List.mem_of_getElem? (i := 220) rfl)) (hw _ (List.mem_of_getElem? (i := 152) rfl)) (hw _ (List.mem_of_getElem? (i := 221) rfl)) (by decide) d9_32 pd_38 rfl rfl rfl (Nat.le_of_eq rfl) (by decide) (by decide) (by decide) (by decide) ?_
  intro u h1 L1 q
  obtain ⟨na, k1, rfl, gn, N1, K1, A1, Y1⟩ := q
  have nn : na ≠ sb := fun e => absurd B.1.lt (Nat.not_lt.mpr (e ▸ gn))
  refine own_putL K (pc := 35) (hw _ (List.mem_of_getElem? (i := 35) rfl)) (B.2.2.1.keep K1 (by simp)) (B.1.keep K1) (hw _ (List.mem_of_getElem? (i := 36) rfl)) (hw _ (List.mem_of_getElem? (i := 18) rfl)) (ty := .array .byte) (by decide) rfl rfl d9_35 ?_
  intro h2 W2
  have Bd : own_Bd Z h2 sb na k1 34 cs := ⟨(B.1.keep K1).wr W2, (B.2.1.keep K1 (by simp)).other W2 (Or.inr (slot_ne (own_l_coder hw) (own_l_value hw) (by decide) (t := .byte) (by decide) (t' := .array .byte) (by decide))), (B.2.2.1.keep K1 (by simp)).same W2, (B.2.2.2.1.keep K1 (by simp)).other W2 (Or.inr (slot_ne (own_l_count hw) (own_l_value hw) (by decide) (t := .int) (by decide) (t' := .array .byte) (by decide))), A1.other W2 nn, Nat.le_trans B.2.2.2.2.2.1 (by decide), by decide, Y1.wr W2⟩
  exact own_retVW K (pc := 38) d9_38 (by decide) (by decide) ⟨rfl, own_Fr1 (((Fr.nil n0).app (Fr.nil n0)).app N1) hs _, (((Keep.refl h [sb]).trans K1 (fun y hy => nomatch hy)).wr W2 (Or.inl (List.mem_singleton.mpr rfl))), na, k1, Bd, gn⟩
theorem own_keepTo {h h1 h2 : Heap} {ws vs : List Addr} (K : Keep h h1 ws) (K' : Keep h1 h2 vs) (q : ∀ y ∈ vs, y ∈ ws ∨ h.size ≤ y) : Keep h h2 ws := K.trans K' q
theorem Sta_keep {Z : State} {h h' : Heap} {ws : List Addr} {C n d : String} {v : Value} (K : Keep h h' ws) (hs : ∀ y ∈ ws, ∀ cell : Cell, h[y]? = some cell → cell.vm.isStatics = false) (F : Sta Z h C n d v) : Sta Z h' C n d v := by
  obtain ⟨cf, i, k, f, st, cell, h1, h2, h3, h4, h5, h6, h7⟩ := F
  exact ⟨cf, i, k, f, st, cell, h1, h2, h3, h4, K.2.1 _ _ h5 (fun q => by have := hs _ q _ h5; rw [h6] at this; cases this), h6, h7⟩
set_option maxHeartbeats 2000000 in
theorem as0 (l : Launch) (Z : State) (a0 : Array Value) (h : Heap) (hw : ∀ d ∈ tables_1, d.before a0 Z = true) (sb ar : Addr) (k : ClassId) (N : Nat) (cs : List Int32) (B : own_Bd Z h sb ar k N cs) (a b : Addr) (kc : ClassId) (ds : List Int32) (z : Int32) (g : Value) (S : own_S Z h a b kc (Int32.ofNat ds.length) (ds.map Value.int)) (T : own_T Z h z g) (n0 : Nat) (hs : n0 ≤ sb) (hn : n0 ≤ ar) (hh0 : n0 ≤ h.size) (hr : cs.length + ds.length ≤ N) : own_W l (⟨"java/lang/AbstractStringBuilder", "append", "(Ljava/lang/String;)Ljava/lang/AbstractStringBuilder;"⟩ : MethodName) jdk_68_method_22_code 3 (some (.object "java/lang/AbstractStringBuilder")) [] { frames := 3, cells := 0, slots := 0, locals := 55 } Z h #[(.ref sb), (.ref a)] (own_QG Z h n0 sb ar N (cs ++ ds)) := by
  refine own_metW (by decide +kernel) (Ls := #[.val (.ref sb), .val (.ref a), .unset]) (fun m => by first | (simp [entryFrame, mkF, argsToLocals, Value.category]; done) | rfl) ?_
  intro p e s m below meth c hnm K
  refine own_aloadN K (pc := 0) d13_0 rfl rfl ?_
  refine own_ifnonnullY K (pc := 1) (pc' := 9) d13_1 (by decide) (by decide) ?_
  refine own_aloadN K (pc := 9) d13_9 rfl rfl ?_
  refine own_callV K (pc := 10) (W := 0) (rest := []) (argsL := []) (u := (.int (Int32.ofNat ds.length))) rfl rfl (len l Z a0 h hw a b kc _ _ z g S T) S.1 (hw _ (List.mem_of_getElem? (i := 88) rfl)) (hw _ (List.mem_of_getElem? (i := 89) rfl)) (hw _ (List.mem_of_getElem? (i := 91) rfl)) (hw _ (List.mem_of_getElem? (i := 90) rfl)) (hw _ (List.mem_of_getElem? (i := 92) rfl)) (hw _ (List.mem_of_getElem? (i := 33) rfl)) (by decide) d13_10 pd_14 rfl rfl rfl (Nat.le_of_eq rfl) (by decide) (by decide) (by decide) (by decide) ?_
  refine own_istoreN K (pc := 13) (Ls' := #[.val (.ref sb), .val (.ref a), .val (.int (Int32.ofNat ds.length))]) d13_13 rfl ?_
  refine own_aloadN K (pc := 14) d13_14 rfl rfl ?_
  refine own_aloadN K (pc := 15) d13_15 rfl rfl ?_
  refine own_getF K (pc := 16) (hw _ (List.mem_of_getElem? (i := 49) rfl)) B.2.2.2.1 d13_16 ?_
  refine own_iloadN K (pc := 19) d13_19 rfl ?_
  refine own_iadd K (pc := 20) d13_20 ?_
  rw [own_add]
  refine own_callVW K (pc := 21) (W := 0) (a := sb) (rest := []) (argsL := [.int (Int32.ofNat (cs.length + ds.length))]) (own_nf (y := (⟨"java/lang/AbstractStringBuilder", "ensureCapacityInternal", "(I)V"⟩ : MethodName)) (y' := (⟨"java/lang/AbstractStringBuilder", "isLatin1", "()Z"⟩ : MethodName)) (D := "java/lang/StringBuilder") rfl (hw _ (List.mem_of_getElem? (i := 64) rfl)) K.2.1) (own_W_of_M (enc l Z a0 h hw sb ar k N cs B _ hr)) B.1 (hw _ (List.mem_of_getElem? (i := 56) rfl)) (own_decl (hw _ (List.mem_of_getElem? (i := 57) rfl)) (hw _ (List.mem_of_getElem? (i := 60) rfl))) (hw _ (List.mem_of_getElem? (i := 59) rfl)) (hw _ (List.mem_of_getElem? (i := 57) rfl)) (hw _ (List.mem_of_getElem? (i := 60) rfl)) (hw _ (List.mem_of_getElem? (i := 27) rfl)) (by decide) d13_21 pd_9 rfl rfl rfl (Nat.le_of_eq rfl) (by decide) (by decide) (Nat.zero_le _) (Nat.zero_le _) ?_
  intro u h1 L1 q
  obtain ⟨rfl, rfl, hh⟩ := q
  subst h1
  have N1 : Fr n0 ([] : List Loc) := Fr.nil n0
  have K1 := Keep.refl h [sb]
  have S1 := S
  have T1 := T
  have B1 := B
  have hn1 := hn
  have hr1 := hr
  refine own_aloadN K (pc := 24) d13_24 rfl rfl ?_
  refine own_aloadN K (pc := 25) d13_25 rfl rfl ?_
  refine own_getF K (pc := 26) (hw _ (List.mem_of_getElem? (i := 49) rfl)) B1.2.2.2.1 d13_26 ?_
  refine own_aloadN K (pc := 29) d13_29 rfl rfl ?_
  refine own_callVW K (pc := 30) (W := 0) (a := sb) (rest := []) (argsL := [.int (Int32.ofNat cs.length), .ref a]) (own_nf (y := (⟨"java/lang/AbstractStringBuilder", "putStringAt", "(ILjava/lang/String;)V"⟩ : MethodName)) (y' := (⟨"java/lang/AbstractStringBuilder", "isLatin1", "()Z"⟩ : MethodName)) (D := "java/lang/StringBuilder") rfl (hw _ (List.mem_of_getElem? (i := 64) rfl)) K.2.1) (ps l Z a0 h hw sb ar k N cs B1 a b kc ds z g S1 T1 n0 hn1 hr1) B1.1 (hw _ (List.mem_of_getElem? (i := 101) rfl)) (own_decl (hw _ (List.mem_of_getElem? (i := 102) rfl)) (hw _ (List.mem_of_getElem? (i := 105) rfl))) (hw _ (List.mem_of_getElem? (i := 104) rfl)) (hw _ (List.mem_of_getElem? (i := 102) rfl)) (hw _ (List.mem_of_getElem? (i := 105) rfl)) (hw _ (List.mem_of_getElem? (i := 27) rfl)) (by decide) d13_30 pd_16 rfl rfl rfl (Nat.le_of_eq rfl) (by decide) (by decide) (by decide) (by decide) ?_
  intro u h2 L2 q
  obtain ⟨rfl, N2, K2, A2⟩ := q
  have ne := own_ne_sb hw B1
  have sn : sb ∉ [ar] := own_mem1 ne.symm
  refine own_aloadN K (pc := 33) d13_33 rfl rfl ?_
  refine own_dup K (pc := 34) d13_34 rfl ?_
  refine own_getF K (pc := 35) (hw _ (List.mem_of_getElem? (i := 49) rfl)) (B1.2.2.2.1.keep K2 sn) d13_35 ?_
  refine own_iloadN K (pc := 38) d13_38 rfl ?_
  refine own_iadd K (pc := 39) d13_39 ?_
  rw [own_add, ← List.length_append]
  refine own_putL K (pc := 40) (hw _ (List.mem_of_getElem? (i := 49) rfl)) (B1.2.2.2.1.keep K2 sn) (B1.1.keep K2) (hw _ (List.mem_of_getElem? (i := 50) rfl)) (hw _ (List.mem_of_getElem? (i := 18) rfl)) (ty := .int) (by decide) rfl rfl d13_40 ?_
  intro h3 W3
  have Bd := own_cnt hw W3 (B1.1.keep K2) (B1.2.1.keep K2 sn) (B1.2.2.1.keep K2 sn) (B1.2.2.2.1.keep K2 sn) A2 (by rw [List.length_append]; exact hr1) B1.2.2.2.2.2.2.1 (B1.2.2.2.2.2.2.2.keep K2) ne
  have Kk : Keep h h3 [sb, ar] := (own_keepTo (own_keepTo (Keep.refl h [sb, ar]) K1 (fun y hy => by cases List.mem_singleton.mp hy; exact Or.inl (by simp))) K2 (fun y hy => by cases List.mem_singleton.mp hy; exact Or.inl (by simp))).wr W3 (Or.inl (by simp))
  refine own_aloadN K (pc := 43) d13_43 rfl rfl ?_
  exact own_retAW K rfl (pc := 44) d13_44 rfl rfl rfl (by decide) (by decide) ⟨rfl, own_Fr1 (((Fr.nil n0).app N1).app N2) hs _, Kk, ar, k, Bd, hn1, Or.inl rfl⟩
set_option maxHeartbeats 2000000 in
theorem as1 (l : Launch) (Z : State) (a0 : Array Value) (h : Heap) (hw : ∀ d ∈ tables_1, d.before a0 Z = true) (sb ar : Addr) (k : ClassId) (cs : List Int32) (B : own_Bd Z h sb ar k 16 cs) (a b : Addr) (kc : ClassId) (ds : List Int32) (z : Int32) (g : Value) (S : own_S Z h a b kc (Int32.ofNat ds.length) (ds.map Value.int)) (T : own_T Z h z g) (n0 : Nat) (hs : n0 ≤ sb) (hn : n0 ≤ ar) (hh0 : n0 ≤ h.size) (hr : cs.length + ds.length = 17) : own_W l (⟨"java/lang/AbstractStringBuilder", "append", "(Ljava/lang/String;)Ljava/lang/AbstractStringBuilder;"⟩ : MethodName) jdk_68_method_22_code 3 (some (.object "java/lang/AbstractStringBuilder")) [] { frames := 4, cells := 1, slots := 34, locals := 62 } Z h #[(.ref sb), (.ref a)] (own_QG Z h n0 sb ar 34 (cs ++ ds)) := by
  refine own_metW (by decide +kernel) (Ls := #[.val (.ref sb), .val (.ref a), .unset]) (fun m => by first | (simp [entryFrame, mkF, argsToLocals, Value.category]; done) | rfl) ?_
  intro p e s m below meth c hnm K
  refine own_aloadN K (pc := 0) d13_0 rfl rfl ?_
  refine own_ifnonnullY K (pc := 1) (pc' := 9) d13_1 (by decide) (by decide) ?_
  refine own_aloadN K (pc := 9) d13_9 rfl rfl ?_
  refine own_callV K (pc := 10) (W := 0) (rest := []) (argsL := []) (u := (.int (Int32.ofNat ds.length))) rfl rfl (len l Z a0 h hw a b kc _ _ z g S T) S.1 (hw _ (List.mem_of_getElem? (i := 88) rfl)) (hw _ (List.mem_of_getElem? (i := 89) rfl)) (hw _ (List.mem_of_getElem? (i := 91) rfl)) (hw _ (List.mem_of_getElem? (i := 90) rfl)) (hw _ (List.mem_of_getElem? (i := 92) rfl)) (hw _ (List.mem_of_getElem? (i := 33) rfl)) (by decide) d13_10 pd_14 rfl rfl rfl (Nat.le_of_eq rfl) (by decide) (by decide) (by decide) (by decide) ?_
  refine own_istoreN K (pc := 13) (Ls' := #[.val (.ref sb), .val (.ref a), .val (.int (Int32.ofNat ds.length))]) d13_13 rfl ?_
  refine own_aloadN K (pc := 14) d13_14 rfl rfl ?_
  refine own_aloadN K (pc := 15) d13_15 rfl rfl ?_
  refine own_getF K (pc := 16) (hw _ (List.mem_of_getElem? (i := 49) rfl)) B.2.2.2.1 d13_16 ?_
  refine own_iloadN K (pc := 19) d13_19 rfl ?_
  refine own_iadd K (pc := 20) d13_20 ?_
  rw [own_add, hr]
  refine own_callVW K (pc := 21) (W := 0) (a := sb) (rest := []) (argsL := [.int 17]) (own_nf (y := (⟨"java/lang/AbstractStringBuilder", "ensureCapacityInternal", "(I)V"⟩ : MethodName)) (y' := (⟨"java/lang/AbstractStringBuilder", "isLatin1", "()Z"⟩ : MethodName)) (D := "java/lang/StringBuilder") rfl (hw _ (List.mem_of_getElem? (i := 64) rfl)) K.2.1) (eng1 l Z a0 h hw sb ar k cs B n0 hs hh0) B.1 (hw _ (List.mem_of_getElem? (i := 56) rfl)) (own_decl (hw _ (List.mem_of_getElem? (i := 57) rfl)) (hw _ (List.mem_of_getElem? (i := 60) rfl))) (hw _ (List.mem_of_getElem? (i := 59) rfl)) (hw _ (List.mem_of_getElem? (i := 57) rfl)) (hw _ (List.mem_of_getElem? (i := 60) rfl)) (hw _ (List.mem_of_getElem? (i := 27) rfl)) (by decide) d13_21 pd_9 rfl rfl rfl (Nat.le_of_eq rfl) (by decide) (by decide) (by decide) (by decide) ?_
  intro u h1 L1 q
  obtain ⟨rfl, N1, K1, ar1, k1, B1, g1⟩ := q
  have na : a ≠ sb := Exa.ne S.1 B.1 (by decide)
  have nb : b ≠ sb := fun e => Exa.neArv B.1 S.2.2.2 (hw _ (List.mem_of_getElem? (i := 18) rfl)) e.symm
  have S1 : own_S Z h1 a b kc (Int32.ofNat ds.length) (ds.map Value.int) := ⟨S.1.keep K1, S.2.1.keep K1 (own_mem1 na), S.2.2.1.keep K1 (own_mem1 na), S.2.2.2.keep K1 (own_mem1 nb)⟩
  have T1 : own_T Z h1 z g := ⟨Sta_keep K1 (fun y hy => by cases List.mem_singleton.mp hy; exact B.1.nostat) T.1, T.2.1, Sta_keep K1 (fun y hy => by cases List.mem_singleton.mp hy; exact B.1.nostat) T.2.2.1, T.2.2.2⟩
  have hn1 : n0 ≤ ar1 := Nat.le_trans hh0 g1
  have hr1 : cs.length + ds.length ≤ 34 := by omega
  refine own_aloadN K (pc := 24) d13_24 rfl rfl ?_
  refine own_aloadN K (pc := 25) d13_25 rfl rfl ?_
  refine own_getF K (pc := 26) (hw _ (List.mem_of_getElem? (i := 49) rfl)) B1.2.2.2.1 d13_26 ?_
  refine own_aloadN K (pc := 29) d13_29 rfl rfl ?_
  refine own_callVW K (pc := 30) (W := 0) (a := sb) (rest := []) (argsL := [.int (Int32.ofNat cs.length), .ref a]) (own_nf (y := (⟨"java/lang/AbstractStringBuilder", "putStringAt", "(ILjava/lang/String;)V"⟩ : MethodName)) (y' := (⟨"java/lang/AbstractStringBuilder", "isLatin1", "()Z"⟩ : MethodName)) (D := "java/lang/StringBuilder") rfl (hw _ (List.mem_of_getElem? (i := 64) rfl)) K.2.1) (ps l Z a0 h1 hw sb ar1 k1 34 cs B1 a b kc ds z g S1 T1 n0 hn1 hr1) B1.1 (hw _ (List.mem_of_getElem? (i := 101) rfl)) (own_decl (hw _ (List.mem_of_getElem? (i := 102) rfl)) (hw _ (List.mem_of_getElem? (i := 105) rfl))) (hw _ (List.mem_of_getElem? (i := 104) rfl)) (hw _ (List.mem_of_getElem? (i := 102) rfl)) (hw _ (List.mem_of_getElem? (i := 105) rfl)) (hw _ (List.mem_of_getElem? (i := 27) rfl)) (by decide) d13_30 pd_16 rfl rfl rfl (Nat.le_of_eq rfl) (by decide) (by decide) (by decide) (by decide) ?_
  intro u h2 L2 q
  obtain ⟨rfl, N2, K2, A2⟩ := q
  have ne := own_ne_sb hw B1
  have sn : sb ∉ [ar1] := own_mem1 ne.symm
  refine own_aloadN K (pc := 33) d13_33 rfl rfl ?_
  refine own_dup K (pc := 34) d13_34 rfl ?_
  refine own_getF K (pc := 35) (hw _ (List.mem_of_getElem? (i := 49) rfl)) (B1.2.2.2.1.keep K2 sn) d13_35 ?_
  refine own_iloadN K (pc := 38) d13_38 rfl ?_
  refine own_iadd K (pc := 39) d13_39 ?_
  rw [own_add, ← List.length_append]
  refine own_putL K (pc := 40) (hw _ (List.mem_of_getElem? (i := 49) rfl)) (B1.2.2.2.1.keep K2 sn) (B1.1.keep K2) (hw _ (List.mem_of_getElem? (i := 50) rfl)) (hw _ (List.mem_of_getElem? (i := 18) rfl)) (ty := .int) (by decide) rfl rfl d13_40 ?_
  intro h3 W3
  have Bd := own_cnt hw W3 (B1.1.keep K2) (B1.2.1.keep K2 sn) (B1.2.2.1.keep K2 sn) (B1.2.2.2.1.keep K2 sn) A2 (by rw [List.length_append]; exact hr1) B1.2.2.2.2.2.2.1 (B1.2.2.2.2.2.2.2.keep K2) ne
  have Kk : Keep h h3 [sb, ar] := (own_keepTo (own_keepTo (Keep.refl h [sb, ar]) K1 (fun y hy => by cases List.mem_singleton.mp hy; exact Or.inl (by simp))) K2 (fun y hy => by cases List.mem_singleton.mp hy; exact Or.inr g1)).wr W3 (Or.inl (by simp))
  refine own_aloadN K (pc := 43) d13_43 rfl rfl ?_
  exact own_retAW K rfl (pc := 44) d13_44 rfl rfl rfl (by decide) (by decide) ⟨rfl, own_Fr1 (((Fr.nil n0).app N1).app N2) hs _, Kk, ar1, k1, Bd, hn1, Or.inr g1⟩
set_option maxHeartbeats 2000000 in
theorem as2 (l : Launch) (Z : State) (a0 : Array Value) (h : Heap) (hw : ∀ d ∈ tables_1, d.before a0 Z = true) (sb ar : Addr) (k : ClassId) (cs : List Int32) (B : own_Bd Z h sb ar k 16 cs) (a b : Addr) (kc : ClassId) (ds : List Int32) (z : Int32) (g : Value) (S : own_S Z h a b kc (Int32.ofNat ds.length) (ds.map Value.int)) (T : own_T Z h z g) (n0 : Nat) (hs : n0 ≤ sb) (hn : n0 ≤ ar) (hh0 : n0 ≤ h.size) (hr : cs.length + ds.length = 18) : own_W l (⟨"java/lang/AbstractStringBuilder", "append", "(Ljava/lang/String;)Ljava/lang/AbstractStringBuilder;"⟩ : MethodName) jdk_68_method_22_code 3 (some (.object "java/lang/AbstractStringBuilder")) [] { frames := 4, cells := 1, slots := 34, locals := 62 } Z h #[(.ref sb), (.ref a)] (own_QG Z h n0 sb ar 34 (cs ++ ds)) := by
  refine own_metW (by decide +kernel) (Ls := #[.val (.ref sb), .val (.ref a), .unset]) (fun m => by first | (simp [entryFrame, mkF, argsToLocals, Value.category]; done) | rfl) ?_
  intro p e s m below meth c hnm K
  refine own_aloadN K (pc := 0) d13_0 rfl rfl ?_
  refine own_ifnonnullY K (pc := 1) (pc' := 9) d13_1 (by decide) (by decide) ?_
  refine own_aloadN K (pc := 9) d13_9 rfl rfl ?_
  refine own_callV K (pc := 10) (W := 0) (rest := []) (argsL := []) (u := (.int (Int32.ofNat ds.length))) rfl rfl (len l Z a0 h hw a b kc _ _ z g S T) S.1 (hw _ (List.mem_of_getElem? (i := 88) rfl)) (hw _ (List.mem_of_getElem? (i := 89) rfl)) (hw _ (List.mem_of_getElem? (i := 91) rfl)) (hw _ (List.mem_of_getElem? (i := 90) rfl)) (hw _ (List.mem_of_getElem? (i := 92) rfl)) (hw _ (List.mem_of_getElem? (i := 33) rfl)) (by decide) d13_10 pd_14 rfl rfl rfl (Nat.le_of_eq rfl) (by decide) (by decide) (by decide) (by decide) ?_
  refine own_istoreN K (pc := 13) (Ls' := #[.val (.ref sb), .val (.ref a), .val (.int (Int32.ofNat ds.length))]) d13_13 rfl ?_
  refine own_aloadN K (pc := 14) d13_14 rfl rfl ?_
  refine own_aloadN K (pc := 15) d13_15 rfl rfl ?_
  refine own_getF K (pc := 16) (hw _ (List.mem_of_getElem? (i := 49) rfl)) B.2.2.2.1 d13_16 ?_
  refine own_iloadN K (pc := 19) d13_19 rfl ?_
  refine own_iadd K (pc := 20) d13_20 ?_
  rw [own_add, hr]
  refine own_callVW K (pc := 21) (W := 0) (a := sb) (rest := []) (argsL := [.int 18]) (own_nf (y := (⟨"java/lang/AbstractStringBuilder", "ensureCapacityInternal", "(I)V"⟩ : MethodName)) (y' := (⟨"java/lang/AbstractStringBuilder", "isLatin1", "()Z"⟩ : MethodName)) (D := "java/lang/StringBuilder") rfl (hw _ (List.mem_of_getElem? (i := 64) rfl)) K.2.1) (eng2 l Z a0 h hw sb ar k cs B n0 hs hh0) B.1 (hw _ (List.mem_of_getElem? (i := 56) rfl)) (own_decl (hw _ (List.mem_of_getElem? (i := 57) rfl)) (hw _ (List.mem_of_getElem? (i := 60) rfl))) (hw _ (List.mem_of_getElem? (i := 59) rfl)) (hw _ (List.mem_of_getElem? (i := 57) rfl)) (hw _ (List.mem_of_getElem? (i := 60) rfl)) (hw _ (List.mem_of_getElem? (i := 27) rfl)) (by decide) d13_21 pd_9 rfl rfl rfl (Nat.le_of_eq rfl) (by decide) (by decide) (by decide) (by decide) ?_
  intro u h1 L1 q
  obtain ⟨rfl, N1, K1, ar1, k1, B1, g1⟩ := q
  have na : a ≠ sb := Exa.ne S.1 B.1 (by decide)
  have nb : b ≠ sb := fun e => Exa.neArv B.1 S.2.2.2 (hw _ (List.mem_of_getElem? (i := 18) rfl)) e.symm
  have S1 : own_S Z h1 a b kc (Int32.ofNat ds.length) (ds.map Value.int) := ⟨S.1.keep K1, S.2.1.keep K1 (own_mem1 na), S.2.2.1.keep K1 (own_mem1 na), S.2.2.2.keep K1 (own_mem1 nb)⟩
  have T1 : own_T Z h1 z g := ⟨Sta_keep K1 (fun y hy => by cases List.mem_singleton.mp hy; exact B.1.nostat) T.1, T.2.1, Sta_keep K1 (fun y hy => by cases List.mem_singleton.mp hy; exact B.1.nostat) T.2.2.1, T.2.2.2⟩
  have hn1 : n0 ≤ ar1 := Nat.le_trans hh0 g1
  have hr1 : cs.length + ds.length ≤ 34 := by omega
  refine own_aloadN K (pc := 24) d13_24 rfl rfl ?_
  refine own_aloadN K (pc := 25) d13_25 rfl rfl ?_
  refine own_getF K (pc := 26) (hw _ (List.mem_of_getElem? (i := 49) rfl)) B1.2.2.2.1 d13_26 ?_
  refine own_aloadN K (pc := 29) d13_29 rfl rfl ?_
  refine own_callVW K (pc := 30) (W := 0) (a := sb) (rest := []) (argsL := [.int (Int32.ofNat cs.length), .ref a]) (own_nf (y := (⟨"java/lang/AbstractStringBuilder", "putStringAt", "(ILjava/lang/String;)V"⟩ : MethodName)) (y' := (⟨"java/lang/AbstractStringBuilder", "isLatin1", "()Z"⟩ : MethodName)) (D := "java/lang/StringBuilder") rfl (hw _ (List.mem_of_getElem? (i := 64) rfl)) K.2.1) (ps l Z a0 h1 hw sb ar1 k1 34 cs B1 a b kc ds z g S1 T1 n0 hn1 hr1) B1.1 (hw _ (List.mem_of_getElem? (i := 101) rfl)) (own_decl (hw _ (List.mem_of_getElem? (i := 102) rfl)) (hw _ (List.mem_of_getElem? (i := 105) rfl))) (hw _ (List.mem_of_getElem? (i := 104) rfl)) (hw _ (List.mem_of_getElem? (i := 102) rfl)) (hw _ (List.mem_of_getElem? (i := 105) rfl)) (hw _ (List.mem_of_getElem? (i := 27) rfl)) (by decide) d13_30 pd_16 rfl rfl rfl (Nat.le_of_eq rfl) (by decide) (by decide) (by decide) (by decide) ?_
  intro u h2 L2 q
  obtain ⟨rfl, N2, K2, A2⟩ := q
  have ne := own_ne_sb hw B1
  have sn : sb ∉ [ar1] := own_mem1 ne.symm
  refine own_aloadN K (pc := 33) d13_33 rfl rfl ?_
  refine own_dup K (pc := 34) d13_34 rfl ?_
  refine own_getF K (pc := 35) (hw _ (List.mem_of_getElem? (i := 49) rfl)) (B1.2.2.2.1.keep K2 sn) d13_35 ?_
  refine own_iloadN K (pc := 38) d13_38 rfl ?_
  refine own_iadd K (pc := 39) d13_39 ?_
  rw [own_add, ← List.length_append]
  refine own_putL K (pc := 40) (hw _ (List.mem_of_getElem? (i := 49) rfl)) (B1.2.2.2.1.keep K2 sn) (B1.1.keep K2) (hw _ (List.mem_of_getElem? (i := 50) rfl)) (hw _ (List.mem_of_getElem? (i := 18) rfl)) (ty := .int) (by decide) rfl rfl d13_40 ?_
  intro h3 W3
  have Bd := own_cnt hw W3 (B1.1.keep K2) (B1.2.1.keep K2 sn) (B1.2.2.1.keep K2 sn) (B1.2.2.2.1.keep K2 sn) A2 (by rw [List.length_append]; exact hr1) B1.2.2.2.2.2.2.1 (B1.2.2.2.2.2.2.2.keep K2) ne
  have Kk : Keep h h3 [sb, ar] := (own_keepTo (own_keepTo (Keep.refl h [sb, ar]) K1 (fun y hy => by cases List.mem_singleton.mp hy; exact Or.inl (by simp))) K2 (fun y hy => by cases List.mem_singleton.mp hy; exact Or.inr g1)).wr W3 (Or.inl (by simp))
  refine own_aloadN K (pc := 43) d13_43 rfl rfl ?_
  exact own_retAW K rfl (pc := 44) d13_44 rfl rfl rfl (by decide) (by decide) ⟨rfl, own_Fr1 (((Fr.nil n0).app N1).app N2) hs _, Kk, ar1, k1, Bd, hn1, Or.inr g1⟩
set_option maxHeartbeats 2000000 in
theorem ss0 (l : Launch) (Z : State) (a0 : Array Value) (h : Heap) (hw : ∀ d ∈ tables_1, d.before a0 Z = true) (sb ar : Addr) (k : ClassId) (N : Nat) (cs : List Int32) (B : own_Bd Z h sb ar k N cs) (a b : Addr) (kc : ClassId) (ds : List Int32) (z : Int32) (g : Value) (S : own_S Z h a b kc (Int32.ofNat ds.length) (ds.map Value.int)) (T : own_T Z h z g) (n0 : Nat) (hs : n0 ≤ sb) (hn : n0 ≤ ar) (hh0 : n0 ≤ h.size) (hr : cs.length + ds.length ≤ N) : own_W l (⟨"java/lang/StringBuilder", "append", "(Ljava/lang/String;)Ljava/lang/StringBuilder;"⟩ : MethodName) jdk_67_method_7_code 2 (some (.object "java/lang/StringBuilder")) [] { frames := 4, cells := 0, slots := 0, locals := 69 } Z h #[(.ref sb), (.ref a)] (own_QG Z h n0 sb ar N (cs ++ ds)) := by
  refine own_metW (by decide +kernel) (Ls := #[.val (.ref sb), .val (.ref a)]) (fun m => by first | (simp [entryFrame, mkF, argsToLocals, Value.category]; done) | rfl) ?_
  intro p e s m below meth c hnm K
  refine own_aloadN K (pc := 0) d12_0 rfl rfl ?_
  refine own_aloadN K (pc := 1) d12_1 rfl rfl ?_
  refine own_supW K (pc := 2) (W := 0) (a := sb) (rest := []) (argsL := [.ref a]) (as0 l Z a0 h hw sb ar k N cs B a b kc ds z g S T n0 hs hn hh0 hr) B.1 (hw _ (List.mem_of_getElem? (i := 84) rfl)) (own_same (y := (⟨"java/lang/AbstractStringBuilder", "append", "(Ljava/lang/String;)Ljava/lang/AbstractStringBuilder;"⟩ : MethodName)) (y' := (⟨"java/lang/AbstractStringBuilder", "isLatin1", "()Z"⟩ : MethodName)) (D := "java/lang/StringBuilder") rfl (by decide) (hw _ (List.mem_of_getElem? (i := 85) rfl)) (hw _ (List.mem_of_getElem? (i := 64) rfl))) (hw _ (List.mem_of_getElem? (i := 85) rfl)) (hw _ (List.mem_of_getElem? (i := 46) rfl)) (by decide) (hw _ (List.mem_of_getElem? (i := 87) rfl)) (hw _ (List.mem_of_getElem? (i := 27) rfl)) (by decide) d12_2 pd_13 rfl rfl rfl (Nat.le_of_eq rfl) (by decide) (by decide) (by decide) (by decide) ?_
  intro u h' L' q
  obtain ⟨rfl, q1, q⟩ := q
  refine own_pop K (pc := 5) d12_5 rfl ?_
  refine own_aloadN K (pc := 6) d12_6 rfl rfl ?_
  exact own_retAW K rfl (pc := 7) d12_7 rfl rfl rfl (by decide) (by decide) ⟨rfl, (Fr.nil n0).app q1, q⟩
set_option maxHeartbeats 2000000 in
theorem ss1 (l : Launch) (Z : State) (a0 : Array Value) (h : Heap) (hw : ∀ d ∈ tables_1, d.before a0 Z = true) (sb ar : Addr) (k : ClassId) (cs : List Int32) (B : own_Bd Z h sb ar k 16 cs) (a b : Addr) (kc : ClassId) (ds : List Int32) (z : Int32) (g : Value) (S : own_S Z h a b kc (Int32.ofNat ds.length) (ds.map Value.int)) (T : own_T Z h z g) (n0 : Nat) (hs : n0 ≤ sb) (hn : n0 ≤ ar) (hh0 : n0 ≤ h.size) (hr : cs.length + ds.length = 17) : own_W l (⟨"java/lang/StringBuilder", "append", "(Ljava/lang/String;)Ljava/lang/StringBuilder;"⟩ : MethodName) jdk_67_method_7_code 2 (some (.object "java/lang/StringBuilder")) [] { frames := 5, cells := 1, slots := 34, locals := 76 } Z h #[(.ref sb), (.ref a)] (own_QG Z h n0 sb ar 34 (cs ++ ds)) := by
  refine own_metW (by decide +kernel) (Ls := #[.val (.ref sb), .val (.ref a)]) (fun m => by first | (simp [entryFrame, mkF, argsToLocals, Value.category]; done) | rfl) ?_
  intro p e s m below meth c hnm K
  refine own_aloadN K (pc := 0) d12_0 rfl rfl ?_
  refine own_aloadN K (pc := 1) d12_1 rfl rfl ?_
  refine own_supW K (pc := 2) (W := 0) (a := sb) (rest := []) (argsL := [.ref a]) (as1 l Z a0 h hw sb ar k cs B a b kc ds z g S T n0 hs hn hh0 hr) B.1 (hw _ (List.mem_of_getElem? (i := 84) rfl)) (own_same (y := (⟨"java/lang/AbstractStringBuilder", "append", "(Ljava/lang/String;)Ljava/lang/AbstractStringBuilder;"⟩ : MethodName)) (y' := (⟨"java/lang/AbstractStringBuilder", "isLatin1", "()Z"⟩ : MethodName)) (D := "java/lang/StringBuilder") rfl (by decide) (hw _ (List.mem_of_getElem? (i := 85) rfl)) (hw _ (List.mem_of_getElem? (i := 64) rfl))) (hw _ (List.mem_of_getElem? (i := 85) rfl)) (hw _ (List.mem_of_getElem? (i := 46) rfl)) (by decide) (hw _ (List.mem_of_getElem? (i := 87) rfl)) (hw _ (List.mem_of_getElem? (i := 27) rfl)) (by decide) d12_2 pd_13 rfl rfl rfl (Nat.le_of_eq rfl) (by decide) (by decide) (by decide) (by decide) ?_
  intro u h' L' q
  obtain ⟨rfl, q1, q⟩ := q
  refine own_pop K (pc := 5) d12_5 rfl ?_
  refine own_aloadN K (pc := 6) d12_6 rfl rfl ?_
  exact own_retAW K rfl (pc := 7) d12_7 rfl rfl rfl (by decide) (by decide) ⟨rfl, (Fr.nil n0).app q1, q⟩
set_option maxHeartbeats 2000000 in
theorem ss2 (l : Launch) (Z : State) (a0 : Array Value) (h : Heap) (hw : ∀ d ∈ tables_1, d.before a0 Z = true) (sb ar : Addr) (k : ClassId) (cs : List Int32) (B : own_Bd Z h sb ar k 16 cs) (a b : Addr) (kc : ClassId) (ds : List Int32) (z : Int32) (g : Value) (S : own_S Z h a b kc (Int32.ofNat ds.length) (ds.map Value.int)) (T : own_T Z h z g) (n0 : Nat) (hs : n0 ≤ sb) (hn : n0 ≤ ar) (hh0 : n0 ≤ h.size) (hr : cs.length + ds.length = 18) : own_W l (⟨"java/lang/StringBuilder", "append", "(Ljava/lang/String;)Ljava/lang/StringBuilder;"⟩ : MethodName) jdk_67_method_7_code 2 (some (.object "java/lang/StringBuilder")) [] { frames := 5, cells := 1, slots := 34, locals := 76 } Z h #[(.ref sb), (.ref a)] (own_QG Z h n0 sb ar 34 (cs ++ ds)) := by
  refine own_metW (by decide +kernel) (Ls := #[.val (.ref sb), .val (.ref a)]) (fun m => by first | (simp [entryFrame, mkF, argsToLocals, Value.category]; done) | rfl) ?_
  intro p e s m below meth c hnm K
  refine own_aloadN K (pc := 0) d12_0 rfl rfl ?_
  refine own_aloadN K (pc := 1) d12_1 rfl rfl ?_
  refine own_supW K (pc := 2) (W := 0) (a := sb) (rest := []) (argsL := [.ref a]) (as2 l Z a0 h hw sb ar k cs B a b kc ds z g S T n0 hs hn hh0 hr) B.1 (hw _ (List.mem_of_getElem? (i := 84) rfl)) (own_same (y := (⟨"java/lang/AbstractStringBuilder", "append", "(Ljava/lang/String;)Ljava/lang/AbstractStringBuilder;"⟩ : MethodName)) (y' := (⟨"java/lang/AbstractStringBuilder", "isLatin1", "()Z"⟩ : MethodName)) (D := "java/lang/StringBuilder") rfl (by decide) (hw _ (List.mem_of_getElem? (i := 85) rfl)) (hw _ (List.mem_of_getElem? (i := 64) rfl))) (hw _ (List.mem_of_getElem? (i := 85) rfl)) (hw _ (List.mem_of_getElem? (i := 46) rfl)) (by decide) (hw _ (List.mem_of_getElem? (i := 87) rfl)) (hw _ (List.mem_of_getElem? (i := 27) rfl)) (by decide) d12_2 pd_13 rfl rfl rfl (Nat.le_of_eq rfl) (by decide) (by decide) (by decide) (by decide) ?_
  intro u h' L' q
  obtain ⟨rfl, q1, q⟩ := q
  refine own_pop K (pc := 5) d12_5 rfl ?_
  refine own_aloadN K (pc := 6) d12_6 rfl rfl ?_
  exact own_retAW K rfl (pc := 7) d12_7 rfl rfl rfl (by decide) (by decide) ⟨rfl, (Fr.nil n0).app q1, q⟩
open Jvm.Free.SBG in
def own_digs (M : Nat) : List Int32 := (List.range (digitsL M)).map fun t => Int32.ofNat (48 + M / 10 ^ (digitsL M - 1 - t) % 10)
theorem own_digs_len (M : Nat) : (own_digs M).length = Jvm.Free.SBG.digitsL M := by simp [own_digs]
theorem own_big {M : Nat} (h : M < 10 ^ 13) : M ≤ 2 ^ 63 := by
  have e : (10 : Nat) ^ 13 = 10000000000000 := by decide
  have e2 : (2 : Nat) ^ 63 = 9223372036854775808 := by decide
  omega
theorem own_Lnn {M : Nat} (h : M < 2 ^ 63) : ¬ Int64.ofNat M < 0 := by
  rw [Int64.lt_iff_toInt_lt, Int64.toInt_ofNat_of_lt h]
  have e : (0 : Int64).toInt = 0 := rfl
  omega
theorem own_small {M : Nat} (h : M < 10 ^ 13) : M < 2 ^ 63 := by
  have e : (10 : Nat) ^ 13 = 10000000000000 := by decide
  have e2 : (2 : Nat) ^ 63 = 9223372036854775808 := by decide
  omega
theorem own_neg {M : Nat} (h : M < 10 ^ 13) : (if Int64.ofNat M < 0 then Int64.ofNat M else -Int64.ofNat M) = Jvm.Free.SBG.negL M := by
  rw [if_neg (own_Lnn (own_small h)), Jvm.Free.SBG.negL, Int64.ofInt_neg]; rfl
theorem own_sgn {M : Nat} (h : M < 10 ^ 13) : Jvm.Free.SBG.GetCharsL.sgnL (Int64.ofNat M) = 0 := if_neg (own_Lnn (own_small h))
open Jvm.Free.SBG in
theorem own_gcOut {Z : State} {h h2 : Heap} {ar : Addr} {k : ClassId} {N M : Nat} {cs : List Int32} {A : Cell} {st d1 d2 : Addr} {D1 D2 : Cell} (A1 : Arr Z h ar A .byte) (e1 : A.cls = k) (e2 : A.slots.size = (Int32.ofNat N).toNatClampNeg) (e3 : ¬ Int32.ofNat N < 0) (H : Has A (cs.map Value.int) (.int 0)) (F : ∀ i, i < A.slots.size → fits .byte ((cs.map Value.int).getD i (.int 0)) = true)
    (hN : N ≤ 40) (hr : cs.length + digitsL M ≤ N) (hM : M < 10 ^ 13) (O1 : Ones D1) (O2 : Tens D2) (q1 : h2[ar]? = some (GetCharsL.outCell ⟨Int64.ofNat M, M, cs.length + digitsL M, ar, A, st, d1, D1, d2, D2⟩)) (q2 : h2.size = h.size) (q3 : ∀ (y : Addr) (cy : Cell), y ≠ ar → h[y]? = some cy → h2[y]? = some cy) :
    Keep h h2 [ar] ∧ Arv Z h2 ar k .byte (Int32.ofNat N) ((cs ++ own_digs M).map Value.int) (.int 0) := by
  have hs := own_sgn hM
  have eN : A.slots.size = N := by rw [e2, own_nat (by omega)]
  obtain ⟨f1, f2, f3, f4, f5⟩ := GetCharsL.outCell_facts (⟨Int64.ofNat M, M, cs.length + digitsL M, ar, A, st, d1, D1, d2, D2⟩ : GetCharsL.G) (own_big hM) (by show digitsL M + GetCharsL.sgnL (Int64.ofNat M) ≤ _; rw [hs]; show _ ≤ cs.length + digitsL M; omega) (fun i hi => by
    rw [show A.slots.getD i .null = (cs.map Value.int).getD i (.int 0) from by rw [Array.getD_eq_getD_getElem?, H i hi]; rfl]; exact F i hi)
  obtain ⟨g1, -, g3⟩ := outCellL_at (⟨Int64.ofNat M, M, cs.length + digitsL M, ar, A, st, d1, D1, d2, D2⟩ : GetCharsL.G) O1 O2 (own_big hM) (by show digitsL M + GetCharsL.sgnL (Int64.ofNat M) ≤ _; rw [hs]; show _ ≤ cs.length + digitsL M; omega) (by show cs.length + digitsL M ≤ A.slots.size; omega)
  generalize hO : GetCharsL.outCell (⟨Int64.ofNat M, M, cs.length + digitsL M, ar, A, st, d1, D1, d2, D2⟩ : GetCharsL.G) = O at *
  dsimp only at f1 f2 f3 f5 g1 g3
  rw [hs] at f5 g3
  have HO : Has O ((cs ++ own_digs M).map Value.int) (.int 0) := by
    intro i hi
    rw [f3] at hi
    rcases Nat.lt_or_ge i cs.length with c1 | c1
    · rw [g3 i (Or.inl (by omega)), H i hi]
      simp only [List.map_append, List.getD_eq_getElem?_getD]
      rw [List.getElem?_append_left (by simpa using c1)]
    · rcases Nat.lt_or_ge i (cs.length + digitsL M) with c2 | c2
      · have := g1 (cs.length + digitsL M - 1 - i) (by omega)
        rw [show cs.length + digitsL M - 1 - (cs.length + digitsL M - 1 - i) = i from by omega] at this
        rw [this]
        have c3 : i - cs.length < digitsL M := by omega
        simp only [List.map_append, List.getD_eq_getElem?_getD]
        rw [List.getElem?_append_right (by simpa using c1), List.length_map]
        simp [own_digs, c3]
        rw [show cs.length + digitsL M - 1 - i = digitsL M - 1 - (i - cs.length) from by omega]
      · rw [g3 i (Or.inr c2), H i hi]
        simp [List.getD, own_digs_len, show cs.length ≤ i from by omega, c2]
  refine ⟨⟨Nat.le_of_eq q2.symm, fun x c r n => q3 x c (fun e => n (List.mem_singleton.mpr e)) r, fun x c r => ?_⟩, O, ⟨q1, ?_, ?_⟩, f1.trans e1, f3.trans e2, e3, HO, fun i hi => ?_⟩
  · by_cases hx : x = ar
    · subst hx
      cases A1.1.symm.trans r
      exact ⟨O, q1, f1, f2, f3⟩
    · exact ⟨c, q3 x c hx r, rfl, rfl, rfl⟩
  · obtain ⟨b1, b2, b3, b4, b5⟩ := A1.2.1
    exact ⟨by rw [f2]; exact b1, b2, by rw [f1]; exact b3, b4, b5⟩
  · rw [f2]; exact A1.2.2
  · have := f4 i hi
    rwa [show O.slots.getD i .null = ((cs ++ own_digs M).map Value.int).getD i (.int 0) from by rw [Array.getD_eq_getD_getElem?, HO i hi]; rfl] at this
set_option maxHeartbeats 2000000 in
theorem aj (l : Launch) (Z : State) (a0 : Array Value) (h : Heap) (hw : ∀ d ∈ tables_1, d.before a0 Z = true) (sb ar : Addr) (k : ClassId) (N : Nat) (cs : List Int32) (B : own_Bd Z h sb ar k N cs) (z : Int32) (g : Value) (T : own_T Z h z g) (n0 : Nat) (hs : n0 ≤ sb) (hn : n0 ≤ ar) (O : Old Z n0 h) (M : Nat) (hM : M < 10 ^ 13) (hr : cs.length + (own_digs M).length ≤ N) (st d1 d2 : Addr) (D1 D2 : Cell) (t1 : Jvm.Free.SBG.Tbl Z "DigitOnes" st d1 D1) (t2 : Jvm.Free.SBG.Tbl Z "DigitTens" st d2 D2) (o1 : Jvm.Free.SBG.Ones D1) (o2 : Jvm.Free.SBG.Tens D2) : own_W l (⟨"java/lang/AbstractStringBuilder", "append", "(J)Ljava/lang/AbstractStringBuilder;"⟩ : MethodName) jdk_68_method_33_code 5 (some (.object "java/lang/AbstractStringBuilder")) [] { frames := 2, cells := 0, slots := 0, locals := 102 } Z h #[(.ref sb), (.long (Int64.ofNat M))] (own_QG Z h n0 sb ar N (cs ++ own_digs M)) := by
  refine own_metW (by decide +kernel) (Ls := #[.val (.ref sb), .val (.long (Int64.ofNat M)), .second, .unset, .unset]) (fun m => by first | (simp [entryFrame, mkF, argsToLocals, Value.category]; done) | rfl) ?_
  intro p e s m below meth c hnm K
  have hr' : cs.length + Jvm.Free.SBG.digitsL M ≤ N := by rw [own_digs_len] at hr; exact hr
  have hN := B.2.2.2.2.2.2.1
  refine own_aloadN K (pc := 0) d7_0 rfl rfl ?_
  refine own_getF K (pc := 1) (hw _ (List.mem_of_getElem? (i := 49) rfl)) B.2.2.2.1 d7_1 ?_
  refine own_istoreN K (pc := 4) (Ls' := #[.val (.ref sb), .val (.long (Int64.ofNat M)), .second, .val (.int (Int32.ofNat cs.length)), .unset]) d7_4 rfl ?_
  refine own_iloadN K (pc := 5) d7_5 rfl ?_
  refine own_lloadN K (pc := 6) d7_6 rfl ?_
  refine own_callSB K (pc := 7) (W := 1) (argsL := [.long (Int64.ofNat M)]) (rest := [.int (Int32.ofNat cs.length)]) (Jvm.Free.SBG.StrSizeL.pays (by decide) (by decide) (by simp only [Jvm.Free.SBG.StrSizeL.tab, Cond.before_and, Bool.and_eq_true]; exact ⟨mvT K.2.1 (hw _ (List.mem_of_getElem? (i := 54) rfl)), (mvT K.2.1 (hw _ (List.mem_of_getElem? (i := 55) rfl))), (mvT K.2.1 (hw _ (List.mem_of_getElem? (i := 202) rfl)))⟩) (mvT K.2.1 (hw _ (List.mem_of_getElem? (i := 53) rfl)))) (hw _ (List.mem_of_getElem? (i := 51) rfl)) (hw _ (List.mem_of_getElem? (i := 52) rfl)) (hw _ (List.mem_of_getElem? (i := 53) rfl)) (hw _ (List.mem_of_getElem? (i := 54) rfl)) (by decide) d7_7 pd_8 rfl rfl rfl (Nat.le_of_eq rfl) (fun U _ _ => ⟨Nat.zero_le _, Nat.zero_le _, Int64.ofNat M, rfl⟩) ?_
  intro U u Bq hwU hhU hQ
  obtain ⟨⟨p1, p2, p3, p4⟩, hv⟩ := hQ
  rw [show Bq.U.heap = h from p1.trans hhU, show Bq.locs = [] from p2, show Bq.cells = 0 from p3, show Bq.slots = 0 from p4, hv (Int64.ofNat M) rfl, Jvm.Free.SBG.strSizeOfL_eq (own_big hM) (own_neg hM), own_sgn hM, Nat.add_zero]
  clear hv p1 p2 p3 p4 hhU hwU Bq u U
  refine own_iadd K (pc := 10) d7_10 ?_
  rw [own_add]
  refine own_istore K (pc := 11) (Ls' := #[.val (.ref sb), .val (.long (Int64.ofNat M)), .second, .val (.int (Int32.ofNat cs.length)), .val (.int (Int32.ofNat (cs.length + Jvm.Free.SBG.digitsL M)))]) d7_11 rfl ?_
  refine own_aloadN K (pc := 13) d7_13 rfl rfl ?_
  refine own_iload K (pc := 14) d7_14 rfl ?_
  refine own_callVW K (pc := 16) (W := 0) (a := sb) (rest := []) (argsL := [.int (Int32.ofNat (cs.length + Jvm.Free.SBG.digitsL M))]) (own_nf (y := (⟨"java/lang/AbstractStringBuilder", "ensureCapacityInternal", "(I)V"⟩ : MethodName)) (y' := (⟨"java/lang/AbstractStringBuilder", "isLatin1", "()Z"⟩ : MethodName)) (D := "java/lang/StringBuilder") rfl (hw _ (List.mem_of_getElem? (i := 64) rfl)) K.2.1) (own_W_of_M (enc l Z a0 h hw sb ar k N cs B _ hr')) B.1 (hw _ (List.mem_of_getElem? (i := 56) rfl)) (own_decl (hw _ (List.mem_of_getElem? (i := 57) rfl)) (hw _ (List.mem_of_getElem? (i := 60) rfl))) (hw _ (List.mem_of_getElem? (i := 59) rfl)) (hw _ (List.mem_of_getElem? (i := 57) rfl)) (hw _ (List.mem_of_getElem? (i := 60) rfl)) (hw _ (List.mem_of_getElem? (i := 27) rfl)) (by decide) d7_16 pd_9 rfl rfl rfl (Nat.le_of_eq rfl) (by decide) (by decide) (Nat.zero_le _) (Nat.zero_le _) ?_
  intro u h1 L1 q
  obtain ⟨rfl, rfl, hh⟩ := q
  subst h1
  refine own_aloadN K (pc := 19) d7_19 rfl rfl ?_
  refine own_callVW K (pc := 20) (W := 0) (a := sb) (rest := []) (argsL := []) (own_nf (y := (⟨"java/lang/AbstractStringBuilder", "isLatin1", "()Z"⟩ : MethodName)) (y' := (⟨"java/lang/AbstractStringBuilder", "isLatin1", "()Z"⟩ : MethodName)) (D := "java/lang/StringBuilder") rfl (hw _ (List.mem_of_getElem? (i := 64) rfl)) K.2.1) (own_W_of_M (bla l Z a0 h hw sb ar k N cs B z g T)) B.1 (hw _ (List.mem_of_getElem? (i := 61) rfl)) (hw _ (List.mem_of_getElem? (i := 62) rfl)) (hw _ (List.mem_of_getElem? (i := 64) rfl)) (hw _ (List.mem_of_getElem? (i := 63) rfl)) (hw _ (List.mem_of_getElem? (i := 65) rfl)) (hw _ (List.mem_of_getElem? (i := 27) rfl)) (by decide) d7_20 pd_10 rfl rfl rfl (Nat.le_of_eq rfl) (by decide) (by decide) (Nat.zero_le _) (Nat.zero_le _) ?_
  intro u h1 L1 q
  obtain ⟨rfl, rfl, hh⟩ := q
  subst h1
  refine own_ifN K (pc := 23) d7_23 (by decide) ?_
  refine own_lloadN K (pc := 26) d7_26 rfl ?_
  refine own_iload K (pc := 27) d7_27 rfl ?_
  refine own_aloadN K (pc := 29) d7_29 rfl rfl ?_
  refine own_getF K (pc := 30) (hw _ (List.mem_of_getElem? (i := 35) rfl)) B.2.2.1 d7_30 ?_
  obtain ⟨cA, Y1, Y2, Y3, Y4, Y5, Y6⟩ := B.2.2.2.2.1
  have eN : cA.slots.size = N := by rw [Y3, own_nat (by omega)]
  have k1 : Z.heap[st]?.isSome := by obtain ⟨_, _, _, _, cS, -, -, -, -, q, -⟩ := t1; rw [q]; rfl
  have k2 : Z.heap[d1]? = some D1 := by obtain ⟨_, _, _, _, cS, -, -, -, -, -, -, -, q, -⟩ := t1; exact q
  have k3 : Z.heap[d2]? = some D2 := by obtain ⟨_, _, _, _, cS, -, -, -, -, -, -, -, q, -⟩ := t2; exact q
  have n1 : ar ≠ st := by obtain ⟨cS, q⟩ := Option.isSome_iff_exists.mp k1; exact (O.ne (Array.getElem?_eq_some_iff.mp q).1 hn).symm
  have n2 : ar ≠ d1 := (O.ne (Array.getElem?_eq_some_iff.mp k2).1 hn).symm
  have n3 : ar ≠ d2 := (O.ne (Array.getElem?_eq_some_iff.mp k3).1 hn).symm
  refine own_callSB K (pc := 33) (W := 0) (argsL := [.long (Int64.ofNat M), .int (Int32.ofNat (cs.length + Jvm.Free.SBG.digitsL M)), .ref ar]) (rest := []) (Jvm.Free.SBG.GetCharsL.pays (⟨Int64.ofNat M, M, cs.length + Jvm.Free.SBG.digitsL M, ar, cA, st, d1, D1, d2, D2⟩ : Jvm.Free.SBG.GetCharsL.G) 0 (by simp only [Jvm.Free.SBG.GetCharsL.tab, Cond.before_and, Bool.and_eq_true]; exact ⟨mvT K.2.1 (hw _ (List.mem_of_getElem? (i := 68) rfl)), (mvT K.2.1 (hw _ (List.mem_of_getElem? (i := 70) rfl))), (mvT K.2.1 (hw _ (List.mem_of_getElem? (i := 203) rfl))), (mvT K.2.1 (hw _ (List.mem_of_getElem? (i := 69) rfl))), (mvT K.2.1 (hw _ (List.mem_of_getElem? (i := 204) rfl)))⟩) (mvT K.2.1 (hw _ (List.mem_of_getElem? (i := 53) rfl))) (by decide) (by decide)) (hw _ (List.mem_of_getElem? (i := 66) rfl)) (hw _ (List.mem_of_getElem? (i := 67) rfl)) (hw _ (List.mem_of_getElem? (i := 53) rfl)) (hw _ (List.mem_of_getElem? (i := 68) rfl)) (by decide) d7_33 pd_11 rfl rfl rfl (Nat.le_of_eq rfl) (fun U hU eU => ⟨rfl, Nat.zero_le _, Nat.zero_le _, ?_⟩) ?_
  · exact ⟨rfl, by rw [show U.heap = h from eU]; exact Y1.1, State.isArrayOf_alike hU.alike Y1.2.1, Y1.2.2, by show cA.slots.size < 2 ^ 31; omega, by show cs.length + Jvm.Free.SBG.digitsL M ≤ cA.slots.size; omega, by show Jvm.Free.SBG.digitsL M + Jvm.Free.SBG.GetCharsL.sgnL (Int64.ofNat M) ≤ cs.length + Jvm.Free.SBG.digitsL M; rw [own_sgn hM]; omega, own_big hM, own_neg hM, t1.move hU.alike (fun cc q => by rw [show U.heap = h from eU]; exact O.2.2 _ _ q) (by rw [show U.heap = h from eU]; exact O.2.2 _ _ k2), t2.move hU.alike (fun cc q => by rw [show U.heap = h from eU]; exact O.2.2 _ _ q) (by rw [show U.heap = h from eU]; exact O.2.2 _ _ k3), n1, n2, n3⟩
  intro U u Bq hwU hhU hQ
  obtain ⟨hv, p1, p2, p3, p4, p5, Lq, p6, p7⟩ := hQ
  obtain ⟨h2, e2⟩ : ∃ x, x = Bq.U.heap := ⟨_, rfl⟩
  rw [← e2] at p1 p4 p5 ⊢
  rw [show (Pt.U ⟨U, _, _, _⟩ : State).heap = h from hhU] at p4 p5
  rw [show Bq.locs = [] ++ Lq from p6, show Bq.cells = 0 from p2, show Bq.slots = 0 from p3, hv]
  have N2 : Fr n0 Lq := fun y hy => by rw [p7 y hy]; exact hn
  obtain ⟨K2, A2⟩ := own_gcOut Y1 Y2 Y3 Y4 Y5 Y6 hN hr' hM o1 o2 p1 p4 p5
  have ne := own_ne_sb hw B
  have sn : sb ∉ [ar] := own_mem1 ne.symm
  refine own_pop K (pc := 36) d7_36 rfl ?_
  refine own_goto K (pc := 37) (pc' := 52) d7_37 (by decide) (by decide) ?_
  refine own_aloadN K (pc := 52) d7_52 rfl rfl ?_
  refine own_iload K (pc := 53) d7_53 rfl ?_
  have el : Int32.ofNat (cs.length + Jvm.Free.SBG.digitsL M) = Int32.ofNat (cs ++ own_digs M).length := by rw [List.length_append, own_digs_len]
  refine own_putL K (pc := 55) (hw _ (List.mem_of_getElem? (i := 49) rfl)) (B.2.2.2.1.keep K2 sn) (B.1.keep K2) (hw _ (List.mem_of_getElem? (i := 50) rfl)) (hw _ (List.mem_of_getElem? (i := 18) rfl)) (ty := .int) (by decide) rfl rfl d7_55 ?_
  intro h3 W3
  rw [el] at W3
  have Bd := own_cnt hw W3 (B.1.keep K2) (B.2.1.keep K2 sn) (B.2.2.1.keep K2 sn) (B.2.2.2.1.keep K2 sn) A2 (by rw [List.length_append]; exact hr) hN (B.2.2.2.2.2.2.2.keep K2) ne
  have Kk : Keep h h3 [sb, ar] := (own_keepTo (Keep.refl h [sb, ar]) K2 (fun y hy => by cases List.mem_singleton.mp hy; exact Or.inl (by simp))).wr W3 (Or.inl (by simp))
  refine own_aloadN K (pc := 58) d7_58 rfl rfl ?_
  exact own_retAW K rfl (pc := 59) d7_59 rfl rfl rfl (by decide) (by decide) ⟨rfl, own_Fr1 ((Fr.nil n0).app N2) hs _, Kk, ar, k, Bd, hn, Or.inl rfl⟩
set_option maxHeartbeats 2000000 in
theorem sj (l : Launch) (Z : State) (a0 : Array Value) (h : Heap) (hw : ∀ d ∈ tables_1, d.before a0 Z = true) (sb ar : Addr) (k : ClassId) (N : Nat) (cs : List Int32) (B : own_Bd Z h sb ar k N cs) (z : Int32) (g : Value) (T : own_T Z h z g) (n0 : Nat) (hs : n0 ≤ sb) (hn : n0 ≤ ar) (O : Old Z n0 h) (M : Nat) (hM : M < 10 ^ 13) (hr : cs.length + (own_digs M).length ≤ N) (st d1 d2 : Addr) (D1 D2 : Cell) (t1 : Jvm.Free.SBG.Tbl Z "DigitOnes" st d1 D1) (t2 : Jvm.Free.SBG.Tbl Z "DigitTens" st d2 D2) (o1 : Jvm.Free.SBG.Ones D1) (o2 : Jvm.Free.SBG.Tens D2) : own_W l (⟨"java/lang/StringBuilder", "append", "(J)Ljava/lang/StringBuilder;"⟩ : MethodName) jdk_67_method_16_code 3 (some (.object "java/lang/StringBuilder")) [] { frames := 3, cells := 0, slots := 0, locals := 118 } Z h #[(.ref sb), (.long (Int64.ofNat M))] (own_QG Z h n0 sb ar N (cs ++ own_digs M)) := by
  refine own_metW (by decide +kernel) (Ls := #[.val (.ref sb), .val (.long (Int64.ofNat M)), .second]) (fun m => by first | (simp [entryFrame, mkF, argsToLocals, Value.category]; done) | rfl) ?_
  intro p e s m below meth c hnm K
  refine own_aloadN K (pc := 0) d6_0 rfl rfl ?_
  refine own_lloadN K (pc := 1) d6_1 rfl ?_
  refine own_supW K (pc := 2) (W := 0) (a := sb) (rest := []) (argsL := [.long (Int64.ofNat M)]) (aj l Z a0 h hw sb ar k N cs B z g T n0 hs hn O M hM hr st d1 d2 D1 D2 t1 t2 o1 o2) B.1 (hw _ (List.mem_of_getElem? (i := 44) rfl)) (own_same (y := (⟨"java/lang/AbstractStringBuilder", "append", "(J)Ljava/lang/AbstractStringBuilder;"⟩ : MethodName)) (y' := (⟨"java/lang/AbstractStringBuilder", "isLatin1", "()Z"⟩ : MethodName)) (D := "java/lang/StringBuilder") rfl (by decide) (hw _ (List.mem_of_getElem? (i := 45) rfl)) (hw _ (List.mem_of_getElem? (i := 64) rfl))) (hw _ (List.mem_of_getElem? (i := 45) rfl)) (hw _ (List.mem_of_getElem? (i := 46) rfl)) (by decide) (hw _ (List.mem_of_getElem? (i := 48) rfl)) (hw _ (List.mem_of_getElem? (i := 27) rfl)) (by decide) d6_2 pd_7 rfl rfl rfl (Nat.le_of_eq rfl) (by decide) (by decide) (by decide) (by decide) ?_
  intro u h' L' q
  obtain ⟨rfl, q1, q⟩ := q
  refine own_pop K (pc := 5) d6_5 rfl ?_
  refine own_aloadN K (pc := 6) d6_6 rfl rfl ?_
  exact own_retAW K rfl (pc := 7) d6_7 rfl rfl rfl (by decide) (by decide) ⟨rfl, (Fr.nil n0).app q1, q⟩
theorem own_Lad (a b : Nat) : Int64.ofNat a + Int64.ofNat b = Int64.ofNat (a + b) := (Int64.ofNat_add a b).symm
theorem own_Ldv {a b : Nat} (ha : a < 2 ^ 63) (hb : 0 < b) (hb' : b < 2 ^ 63) : Int64.ofNat a / Int64.ofNat b = Int64.ofNat (a / b) := by
  have hab : a / b < 2 ^ 63 := Nat.lt_of_le_of_lt (Nat.div_le_self _ _) ha
  apply Int64.toInt_inj.mp
  rw [Int64.toInt_div_of_ne_right _ _ (fun e => by have := congrArg Int64.toInt e; rw [Int64.toInt_ofNat_of_lt hb'] at this; have e1 : (-1 : Int64).toInt = -1 := rfl; omega), Int64.toInt_ofNat_of_lt ha, Int64.toInt_ofNat_of_lt hb', Int64.toInt_ofNat_of_lt hab, Int.tdiv_eq_ediv_of_nonneg (by omega), Int.natCast_ediv]
theorem own_Lrm {a b : Nat} (ha : a < 2 ^ 63) (hb : 0 < b) (hb' : b < 2 ^ 63) : Int64.ofNat a - Int64.ofNat a / Int64.ofNat b * Int64.ofNat b = Int64.ofNat (a % b) := by
  rw [own_Ldv ha hb hb', ← Int64.ofNat_mul]
  have e : Int64.ofNat a = Int64.ofNat (a % b) + Int64.ofNat (a / b * b) := by rw [own_Lad, Nat.mul_comm, Nat.mod_add_div]
  rw [e, Int64.add_sub_cancel]
theorem own_Llt {a b : Nat} (ha : a < 2 ^ 63) (hb : b < 2 ^ 63) : (Int64.ofNat a < Int64.ofNat b) ↔ a < b := by
  rw [Int64.lt_iff_toInt_lt, Int64.toInt_ofNat_of_lt ha, Int64.toInt_ofNat_of_lt hb]; omega
theorem own_L2i {a : Nat} (ha : a < 2 ^ 31) : (Int64.ofNat a).toInt32 = Int32.ofNat a := by
  apply Int32.toInt_inj.mp
  rw [Int64.toInt_toInt32, Int64.toInt_ofNat_of_lt (by omega), Int32.toInt_ofNat_of_lt ha, Int.bmod_eq_of_le (by omega) (by omega)]
theorem own_Land (x : Int64) : ∃ a : Nat, a < 2 ^ 63 ∧ x &&& 9223372036854775807 = Int64.ofNat a := by
  have h0 : (x &&& 9223372036854775807).toInt = (x.toBitVec &&& 9223372036854775807#64).toInt := rfl
  rw [BitVec.toInt_eq_toNat_of_msb (by rw [BitVec.msb_and, show (9223372036854775807#64).msb = false from by decide, Bool.and_false]), BitVec.toNat_and] at h0
  have h1 : x.toBitVec.toNat &&& (9223372036854775807#64).toNat ≤ 9223372036854775807 := Nat.and_le_right
  generalize x.toBitVec.toNat &&& (9223372036854775807#64).toNat = y at h0 h1
  refine ⟨y, by omega, Int64.toInt_inj.mp ?_⟩
  rw [h0, Int64.toInt_ofNat_of_lt (by omega)]
theorem own_Lsb {a b : Nat} (h : b ≤ a) : Int64.ofNat a - Int64.ofNat b = Int64.ofNat (a - b) := by
  have e : Int64.ofNat a = Int64.ofNat (a - b) + Int64.ofNat b := by rw [own_Lad, Nat.sub_add_cancel h]
  rw [e, Int64.add_sub_cancel]
theorem own_Isb {a b : Nat} (h : b ≤ a) : Int32.ofNat a - Int32.ofNat b = Int32.ofNat (a - b) := by
  have e : Int32.ofNat a = Int32.ofNat (a - b) + Int32.ofNat b := by rw [← Int32.ofNat_add, Nat.sub_add_cancel h]
  rw [e, Int32.add_sub_cancel]
theorem own_I10 {f : Nat} (h : f < 100) : Int32.ofNat f / 10 = Int32.ofNat (f / 10) := (by decide +kernel : ∀ f : Fin 100, Int32.ofNat f.val / 10 = Int32.ofNat (f.val / 10)) ⟨f, h⟩
theorem own_R10 {f : Nat} (h : f < 100) : Int32.ofNat f % 10 = Int32.ofNat (f % 10) := (by decide +kernel : ∀ f : Fin 100, Int32.ofNat f.val % 10 = Int32.ofNat (f.val % 10)) ⟨f, h⟩
theorem own_wN {f n : Nat} (h : 100 ≤ n) : Jvm.Free.SBG.wN (f + 1) n = 2 + Jvm.Free.SBG.wN f (n / 100) := if_pos h
theorem own_wN2 {f n : Nat} (h : ¬ 100 ≤ n) (h' : 9 < n) : Jvm.Free.SBG.wN (f + 1) n = 2 := by rw [Jvm.Free.SBG.wN, if_neg h, if_pos h']
theorem own_wN1 {f n : Nat} (h : ¬ 100 ≤ n) (h' : ¬ 9 < n) : Jvm.Free.SBG.wN (f + 1) n = 1 := by rw [Jvm.Free.SBG.wN, if_neg h, if_neg h']
theorem own_dg1 {n : Nat} (h1 : 0 ≤ n) (h2 : n < 10) : Jvm.Free.SBG.digitsL n = 1 := by
  show Jvm.Free.SBG.wN 10 n = 1
  rw [own_wN1 (show ¬ 100 ≤ n by omega) (show ¬ 9 < n by omega)]
theorem own_dg2 {n : Nat} (h1 : 10 ≤ n) (h2 : n < 100) : Jvm.Free.SBG.digitsL n = 2 := by
  show Jvm.Free.SBG.wN 10 n = 2
  rw [own_wN2 (show ¬ 100 ≤ n by omega) (show 9 < n by omega)]
theorem own_dg3 {n : Nat} (h1 : 100 ≤ n) (h2 : n < 1000) : Jvm.Free.SBG.digitsL n = 3 := by
  show Jvm.Free.SBG.wN 10 n = 3
  rw [own_wN (show 100 ≤ n by omega)]
  rw [own_wN1 (show ¬ 100 ≤ (n / 100) by omega) (show ¬ 9 < (n / 100) by omega)]
theorem own_dg4 {n : Nat} (h1 : 1000 ≤ n) (h2 : n < 10000) : Jvm.Free.SBG.digitsL n = 4 := by
  show Jvm.Free.SBG.wN 10 n = 4
  rw [own_wN (show 100 ≤ n by omega)]
  rw [own_wN2 (show ¬ 100 ≤ (n / 100) by omega) (show 9 < (n / 100) by omega)]
theorem own_dg5 {n : Nat} (h1 : 10000 ≤ n) (h2 : n < 100000) : Jvm.Free.SBG.digitsL n = 5 := by
  show Jvm.Free.SBG.wN 10 n = 5
  rw [own_wN (show 100 ≤ n by omega)]
  rw [own_wN (show 100 ≤ (n / 100) by omega)]
  rw [own_wN1 (show ¬ 100 ≤ ((n / 100) / 100) by omega) (show ¬ 9 < ((n / 100) / 100) by omega)]
theorem own_dg6 {n : Nat} (h1 : 100000 ≤ n) (h2 : n < 1000000) : Jvm.Free.SBG.digitsL n = 6 := by
  show Jvm.Free.SBG.wN 10 n = 6
  rw [own_wN (show 100 ≤ n by omega)]
  rw [own_wN (show 100 ≤ (n / 100) by omega)]
  rw [own_wN2 (show ¬ 100 ≤ ((n / 100) / 100) by omega) (show 9 < ((n / 100) / 100) by omega)]
theorem own_dg7 {n : Nat} (h1 : 1000000 ≤ n) (h2 : n < 10000000) : Jvm.Free.SBG.digitsL n = 7 := by
  show Jvm.Free.SBG.wN 10 n = 7
  rw [own_wN (show 100 ≤ n by omega)]
  rw [own_wN (show 100 ≤ (n / 100) by omega)]
  rw [own_wN (show 100 ≤ ((n / 100) / 100) by omega)]
  rw [own_wN1 (show ¬ 100 ≤ (((n / 100) / 100) / 100) by omega) (show ¬ 9 < (((n / 100) / 100) / 100) by omega)]
theorem own_dg8 {n : Nat} (h1 : 10000000 ≤ n) (h2 : n < 100000000) : Jvm.Free.SBG.digitsL n = 8 := by
  show Jvm.Free.SBG.wN 10 n = 8
  rw [own_wN (show 100 ≤ n by omega)]
  rw [own_wN (show 100 ≤ (n / 100) by omega)]
  rw [own_wN (show 100 ≤ ((n / 100) / 100) by omega)]
  rw [own_wN2 (show ¬ 100 ≤ (((n / 100) / 100) / 100) by omega) (show 9 < (((n / 100) / 100) / 100) by omega)]
theorem own_dg9 {n : Nat} (h1 : 100000000 ≤ n) (h2 : n < 1000000000) : Jvm.Free.SBG.digitsL n = 9 := by
  show Jvm.Free.SBG.wN 10 n = 9
  rw [own_wN (show 100 ≤ n by omega)]
  rw [own_wN (show 100 ≤ (n / 100) by omega)]
  rw [own_wN (show 100 ≤ ((n / 100) / 100) by omega)]
  rw [own_wN (show 100 ≤ (((n / 100) / 100) / 100) by omega)]
  rw [own_wN1 (show ¬ 100 ≤ ((((n / 100) / 100) / 100) / 100) by omega) (show ¬ 9 < ((((n / 100) / 100) / 100) / 100) by omega)]
theorem own_dg10 {n : Nat} (h1 : 1000000000 ≤ n) (h2 : n < 10000000000) : Jvm.Free.SBG.digitsL n = 10 := by
  show Jvm.Free.SBG.wN 10 n = 10
  rw [own_wN (show 100 ≤ n by omega)]
  rw [own_wN (show 100 ≤ (n / 100) by omega)]
  rw [own_wN (show 100 ≤ ((n / 100) / 100) by omega)]
  rw [own_wN (show 100 ≤ (((n / 100) / 100) / 100) by omega)]
  rw [own_wN2 (show ¬ 100 ≤ ((((n / 100) / 100) / 100) / 100) by omega) (show 9 < ((((n / 100) / 100) / 100) / 100) by omega)]
theorem own_dg11 {n : Nat} (h1 : 10000000000 ≤ n) (h2 : n < 100000000000) : Jvm.Free.SBG.digitsL n = 11 := by
  show Jvm.Free.SBG.wN 10 n = 11
  rw [own_wN (show 100 ≤ n by omega)]
  rw [own_wN (show 100 ≤ (n / 100) by omega)]
  rw [own_wN (show 100 ≤ ((n / 100) / 100) by omega)]
  rw [own_wN (show 100 ≤ (((n / 100) / 100) / 100) by omega)]
  rw [own_wN (show 100 ≤ ((((n / 100) / 100) / 100) / 100) by omega)]
  rw [own_wN1 (show ¬ 100 ≤ (((((n / 100) / 100) / 100) / 100) / 100) by omega) (show ¬ 9 < (((((n / 100) / 100) / 100) / 100) / 100) by omega)]
theorem own_dg12 {n : Nat} (h1 : 100000000000 ≤ n) (h2 : n < 1000000000000) : Jvm.Free.SBG.digitsL n = 12 := by
  show Jvm.Free.SBG.wN 10 n = 12
  rw [own_wN (show 100 ≤ n by omega)]
  rw [own_wN (show 100 ≤ (n / 100) by omega)]
  rw [own_wN (show 100 ≤ ((n / 100) / 100) by omega)]
  rw [own_wN (show 100 ≤ (((n / 100) / 100) / 100) by omega)]
  rw [own_wN (show 100 ≤ ((((n / 100) / 100) / 100) / 100) by omega)]
  rw [own_wN2 (show ¬ 100 ≤ (((((n / 100) / 100) / 100) / 100) / 100) by omega) (show 9 < (((((n / 100) / 100) / 100) / 100) / 100) by omega)]
theorem own_dg13 {n : Nat} (h1 : 1000000000000 ≤ n) (h2 : n < 10000000000000) : Jvm.Free.SBG.digitsL n = 13 := by
  show Jvm.Free.SBG.wN 10 n = 13
  rw [own_wN (show 100 ≤ n by omega)]
  rw [own_wN (show 100 ≤ (n / 100) by omega)]
  rw [own_wN (show 100 ≤ ((n / 100) / 100) by omega)]
  rw [own_wN (show 100 ≤ (((n / 100) / 100) / 100) by omega)]
  rw [own_wN (show 100 ≤ ((((n / 100) / 100) / 100) / 100) by omega)]
  rw [own_wN (show 100 ≤ (((((n / 100) / 100) / 100) / 100) / 100) by omega)]
  rw [own_wN1 (show ¬ 100 ≤ ((((((n / 100) / 100) / 100) / 100) / 100) / 100) by omega) (show ¬ 9 < ((((((n / 100) / 100) / 100) / 100) / 100) / 100) by omega)]
set_option maxHeartbeats 2000000 in
theorem dg_b (p : Program) (l : Launch) (e : Env) (s : State) (m : MethodId) (args : Array Value) (below : List Frame) (meth : Method) (c : Code) (Z : State) (a0 : Array Value) (h : Heap) (hw : ∀ d ∈ tables_1, d.before a0 Z = true) (M : Nat) (hM : M < 10 ^ 13) (K : own_C p s m meth c Z method_2_code "com/example/brokkr/brokkr/LogTextMillisPinLaw" (some .int) 2) :
    own_E p l e { frames := 0, cells := 0, slots := 0, locals := 0 } s m args below meth c h [] 0 0 0 #[.val (.long (Int64.ofNat M)), .second] [] (own_P s below h (some (.int (Int32.ofNat (Jvm.Free.SBG.digitsL M))))) := by
  have hM : M < 10000000000000 := hM
  by_cases q1 : M < 10
  · refine own_lloadN K (pc := 0) d1_0 rfl ?_
    refine own_ldc2 K (pc := 1) (x := (10 : Int64)) (hw _ (List.mem_of_getElem? (i := 9) rfl)) d1_1 ?_
    refine own_lcmp K (pc := 4) d1_4 ?_
    refine own_ifN K (pc := 5) d1_5 (by rw [if0]; exact ((if0 _ _).symm.trans (XT.ll_ge_f ((own_Llt (b := 10) (by omega) (by decide)).mpr q1)))) ?_
    refine own_iconst K (pc := 8) d1_8 (x := (1 : Int32)) (by decide) ?_
    exact own_retI K (pc := 9) d1_9 (by rw [own_dg1 (by omega) (by omega)]; rfl)
  refine own_lloadN K (pc := 0) d1_0 rfl ?_
  refine own_ldc2 K (pc := 1) (x := (10 : Int64)) (hw _ (List.mem_of_getElem? (i := 9) rfl)) d1_1 ?_
  refine own_lcmp K (pc := 4) d1_4 ?_
  refine own_ifY K (pc := 5) (pc' := 10) d1_5 (by rw [if0]; exact ((if0 _ _).symm.trans (XT.ll_ge_t (fun e => q1 ((own_Llt (b := 10) (by omega) (by decide)).mp e))))) (by decide) (by decide) ?_
  by_cases q2 : M < 100
  · refine own_lloadN K (pc := 10) d1_10 rfl ?_
    refine own_ldc2 K (pc := 11) (x := (100 : Int64)) (hw _ (List.mem_of_getElem? (i := 4) rfl)) d1_11 ?_
    refine own_lcmp K (pc := 14) d1_14 ?_
    refine own_ifN K (pc := 15) d1_15 (by rw [if0]; exact ((if0 _ _).symm.trans (XT.ll_ge_f ((own_Llt (b := 100) (by omega) (by decide)).mpr q2)))) ?_
    refine own_iconst K (pc := 18) d1_18 (x := (2 : Int32)) (by decide) ?_
    exact own_retI K (pc := 19) d1_19 (by rw [own_dg2 (by omega) (by omega)]; rfl)
  refine own_lloadN K (pc := 10) d1_10 rfl ?_
  refine own_ldc2 K (pc := 11) (x := (100 : Int64)) (hw _ (List.mem_of_getElem? (i := 4) rfl)) d1_11 ?_
  refine own_lcmp K (pc := 14) d1_14 ?_
  refine own_ifY K (pc := 15) (pc' := 20) d1_15 (by rw [if0]; exact ((if0 _ _).symm.trans (XT.ll_ge_t (fun e => q2 ((own_Llt (b := 100) (by omega) (by decide)).mp e))))) (by decide) (by decide) ?_
  by_cases q3 : M < 1000
  · refine own_lloadN K (pc := 20) d1_20 rfl ?_
    refine own_ldc2 K (pc := 21) (x := (1000 : Int64)) (hw _ (List.mem_of_getElem? (i := 191) rfl)) d1_21 ?_
    refine own_lcmp K (pc := 24) d1_24 ?_
    refine own_ifN K (pc := 25) d1_25 (by rw [if0]; exact ((if0 _ _).symm.trans (XT.ll_ge_f ((own_Llt (b := 1000) (by omega) (by decide)).mpr q3)))) ?_
    refine own_iconst K (pc := 28) d1_28 (x := (3 : Int32)) (by decide) ?_
    exact own_retI K (pc := 29) d1_29 (by rw [own_dg3 (by omega) (by omega)]; rfl)
  refine own_lloadN K (pc := 20) d1_20 rfl ?_
  refine own_ldc2 K (pc := 21) (x := (1000 : Int64)) (hw _ (List.mem_of_getElem? (i := 191) rfl)) d1_21 ?_
  refine own_lcmp K (pc := 24) d1_24 ?_
  refine own_ifY K (pc := 25) (pc' := 30) d1_25 (by rw [if0]; exact ((if0 _ _).symm.trans (XT.ll_ge_t (fun e => q3 ((own_Llt (b := 1000) (by omega) (by decide)).mp e))))) (by decide) (by decide) ?_
  by_cases q4 : M < 10000
  · refine own_lloadN K (pc := 30) d1_30 rfl ?_
    refine own_ldc2 K (pc := 31) (x := (10000 : Int64)) (hw _ (List.mem_of_getElem? (i := 2) rfl)) d1_31 ?_
    refine own_lcmp K (pc := 34) d1_34 ?_
    refine own_ifN K (pc := 35) d1_35 (by rw [if0]; exact ((if0 _ _).symm.trans (XT.ll_ge_f ((own_Llt (b := 10000) (by omega) (by decide)).mpr q4)))) ?_
    refine own_iconst K (pc := 38) d1_38 (x := (4 : Int32)) (by decide) ?_
    exact own_retI K (pc := 39) d1_39 (by rw [own_dg4 (by omega) (by omega)]; rfl)
  refine own_lloadN K (pc := 30) d1_30 rfl ?_
  refine own_ldc2 K (pc := 31) (x := (10000 : Int64)) (hw _ (List.mem_of_getElem? (i := 2) rfl)) d1_31 ?_
  refine own_lcmp K (pc := 34) d1_34 ?_
  refine own_ifY K (pc := 35) (pc' := 40) d1_35 (by rw [if0]; exact ((if0 _ _).symm.trans (XT.ll_ge_t (fun e => q4 ((own_Llt (b := 10000) (by omega) (by decide)).mp e))))) (by decide) (by decide) ?_
  by_cases q5 : M < 100000
  · refine own_lloadN K (pc := 40) d1_40 rfl ?_
    refine own_ldc2 K (pc := 41) (x := (100000 : Int64)) (hw _ (List.mem_of_getElem? (i := 192) rfl)) d1_41 ?_
    refine own_lcmp K (pc := 44) d1_44 ?_
    refine own_ifN K (pc := 45) d1_45 (by rw [if0]; exact ((if0 _ _).symm.trans (XT.ll_ge_f ((own_Llt (b := 100000) (by omega) (by decide)).mpr q5)))) ?_
    refine own_iconst K (pc := 48) d1_48 (x := (5 : Int32)) (by decide) ?_
    exact own_retI K (pc := 49) d1_49 (by rw [own_dg5 (by omega) (by omega)]; rfl)
  refine own_lloadN K (pc := 40) d1_40 rfl ?_
  refine own_ldc2 K (pc := 41) (x := (100000 : Int64)) (hw _ (List.mem_of_getElem? (i := 192) rfl)) d1_41 ?_
  refine own_lcmp K (pc := 44) d1_44 ?_
  refine own_ifY K (pc := 45) (pc' := 50) d1_45 (by rw [if0]; exact ((if0 _ _).symm.trans (XT.ll_ge_t (fun e => q5 ((own_Llt (b := 100000) (by omega) (by decide)).mp e))))) (by decide) (by decide) ?_
  by_cases q6 : M < 1000000
  · refine own_lloadN K (pc := 50) d1_50 rfl ?_
    refine own_ldc2 K (pc := 51) (x := (1000000 : Int64)) (hw _ (List.mem_of_getElem? (i := 193) rfl)) d1_51 ?_
    refine own_lcmp K (pc := 54) d1_54 ?_
    refine own_ifN K (pc := 55) d1_55 (by rw [if0]; exact ((if0 _ _).symm.trans (XT.ll_ge_f ((own_Llt (b := 1000000) (by omega) (by decide)).mpr q6)))) ?_
    refine own_bipush K (pc := 58) d1_58 (x := (6 : Int32)) (by decide) ?_
    exact own_retI K (pc := 60) d1_60 (by rw [own_dg6 (by omega) (by omega)]; rfl)
  refine own_lloadN K (pc := 50) d1_50 rfl ?_
  refine own_ldc2 K (pc := 51) (x := (1000000 : Int64)) (hw _ (List.mem_of_getElem? (i := 193) rfl)) d1_51 ?_
  refine own_lcmp K (pc := 54) d1_54 ?_
  refine own_ifY K (pc := 55) (pc' := 61) d1_55 (by rw [if0]; exact ((if0 _ _).symm.trans (XT.ll_ge_t (fun e => q6 ((own_Llt (b := 1000000) (by omega) (by decide)).mp e))))) (by decide) (by decide) ?_
  by_cases q7 : M < 10000000
  · refine own_lloadN K (pc := 61) d1_61 rfl ?_
    refine own_ldc2 K (pc := 62) (x := (10000000 : Int64)) (hw _ (List.mem_of_getElem? (i := 194) rfl)) d1_62 ?_
    refine own_lcmp K (pc := 65) d1_65 ?_
    refine own_ifN K (pc := 66) d1_66 (by rw [if0]; exact ((if0 _ _).symm.trans (XT.ll_ge_f ((own_Llt (b := 10000000) (by omega) (by decide)).mpr q7)))) ?_
    refine own_bipush K (pc := 69) d1_69 (x := (7 : Int32)) (by decide) ?_
    exact own_retI K (pc := 71) d1_71 (by rw [own_dg7 (by omega) (by omega)]; rfl)
  refine own_lloadN K (pc := 61) d1_61 rfl ?_
  refine own_ldc2 K (pc := 62) (x := (10000000 : Int64)) (hw _ (List.mem_of_getElem? (i := 194) rfl)) d1_62 ?_
  refine own_lcmp K (pc := 65) d1_65 ?_
  refine own_ifY K (pc := 66) (pc' := 72) d1_66 (by rw [if0]; exact ((if0 _ _).symm.trans (XT.ll_ge_t (fun e => q7 ((own_Llt (b := 10000000) (by omega) (by decide)).mp e))))) (by decide) (by decide) ?_
  by_cases q8 : M < 100000000
  · refine own_lloadN K (pc := 72) d1_72 rfl ?_
    refine own_ldc2 K (pc := 73) (x := (100000000 : Int64)) (hw _ (List.mem_of_getElem? (i := 195) rfl)) d1_73 ?_
    refine own_lcmp K (pc := 76) d1_76 ?_
    refine own_ifN K (pc := 77) d1_77 (by rw [if0]; exact ((if0 _ _).symm.trans (XT.ll_ge_f ((own_Llt (b := 100000000) (by omega) (by decide)).mpr q8)))) ?_
    refine own_bipush K (pc := 80) d1_80 (x := (8 : Int32)) (by decide) ?_
    exact own_retI K (pc := 82) d1_82 (by rw [own_dg8 (by omega) (by omega)]; rfl)
  refine own_lloadN K (pc := 72) d1_72 rfl ?_
  refine own_ldc2 K (pc := 73) (x := (100000000 : Int64)) (hw _ (List.mem_of_getElem? (i := 195) rfl)) d1_73 ?_
  refine own_lcmp K (pc := 76) d1_76 ?_
  refine own_ifY K (pc := 77) (pc' := 83) d1_77 (by rw [if0]; exact ((if0 _ _).symm.trans (XT.ll_ge_t (fun e => q8 ((own_Llt (b := 100000000) (by omega) (by decide)).mp e))))) (by decide) (by decide) ?_
  by_cases q9 : M < 1000000000
  · refine own_lloadN K (pc := 83) d1_83 rfl ?_
    refine own_ldc2 K (pc := 84) (x := (1000000000 : Int64)) (hw _ (List.mem_of_getElem? (i := 196) rfl)) d1_84 ?_
    refine own_lcmp K (pc := 87) d1_87 ?_
    refine own_ifN K (pc := 88) d1_88 (by rw [if0]; exact ((if0 _ _).symm.trans (XT.ll_ge_f ((own_Llt (b := 1000000000) (by omega) (by decide)).mpr q9)))) ?_
    refine own_bipush K (pc := 91) d1_91 (x := (9 : Int32)) (by decide) ?_
    exact own_retI K (pc := 93) d1_93 (by rw [own_dg9 (by omega) (by omega)]; rfl)
  refine own_lloadN K (pc := 83) d1_83 rfl ?_
  refine own_ldc2 K (pc := 84) (x := (1000000000 : Int64)) (hw _ (List.mem_of_getElem? (i := 196) rfl)) d1_84 ?_
  refine own_lcmp K (pc := 87) d1_87 ?_
  refine own_ifY K (pc := 88) (pc' := 94) d1_88 (by rw [if0]; exact ((if0 _ _).symm.trans (XT.ll_ge_t (fun e => q9 ((own_Llt (b := 1000000000) (by omega) (by decide)).mp e))))) (by decide) (by decide) ?_
  by_cases q10 : M < 10000000000
  · refine own_lloadN K (pc := 94) d1_94 rfl ?_
    refine own_ldc2 K (pc := 95) (x := (10000000000 : Int64)) (hw _ (List.mem_of_getElem? (i := 197) rfl)) d1_95 ?_
    refine own_lcmp K (pc := 98) d1_98 ?_
    refine own_ifN K (pc := 99) d1_99 (by rw [if0]; exact ((if0 _ _).symm.trans (XT.ll_ge_f ((own_Llt (b := 10000000000) (by omega) (by decide)).mpr q10)))) ?_
    refine own_bipush K (pc := 102) d1_102 (x := (10 : Int32)) (by decide) ?_
    exact own_retI K (pc := 104) d1_104 (by rw [own_dg10 (by omega) (by omega)]; rfl)
  refine own_lloadN K (pc := 94) d1_94 rfl ?_
  refine own_ldc2 K (pc := 95) (x := (10000000000 : Int64)) (hw _ (List.mem_of_getElem? (i := 197) rfl)) d1_95 ?_
  refine own_lcmp K (pc := 98) d1_98 ?_
  refine own_ifY K (pc := 99) (pc' := 105) d1_99 (by rw [if0]; exact ((if0 _ _).symm.trans (XT.ll_ge_t (fun e => q10 ((own_Llt (b := 10000000000) (by omega) (by decide)).mp e))))) (by decide) (by decide) ?_
  by_cases q11 : M < 100000000000
  · refine own_lloadN K (pc := 105) d1_105 rfl ?_
    refine own_ldc2 K (pc := 106) (x := (100000000000 : Int64)) (hw _ (List.mem_of_getElem? (i := 198) rfl)) d1_106 ?_
    refine own_lcmp K (pc := 109) d1_109 ?_
    refine own_ifN K (pc := 110) d1_110 (by rw [if0]; exact ((if0 _ _).symm.trans (XT.ll_ge_f ((own_Llt (b := 100000000000) (by omega) (by decide)).mpr q11)))) ?_
    refine own_bipush K (pc := 113) d1_113 (x := (11 : Int32)) (by decide) ?_
    exact own_retI K (pc := 115) d1_115 (by rw [own_dg11 (by omega) (by omega)]; rfl)
  refine own_lloadN K (pc := 105) d1_105 rfl ?_
  refine own_ldc2 K (pc := 106) (x := (100000000000 : Int64)) (hw _ (List.mem_of_getElem? (i := 198) rfl)) d1_106 ?_
  refine own_lcmp K (pc := 109) d1_109 ?_
  refine own_ifY K (pc := 110) (pc' := 116) d1_110 (by rw [if0]; exact ((if0 _ _).symm.trans (XT.ll_ge_t (fun e => q11 ((own_Llt (b := 100000000000) (by omega) (by decide)).mp e))))) (by decide) (by decide) ?_
  by_cases q12 : M < 1000000000000
  · refine own_lloadN K (pc := 116) d1_116 rfl ?_
    refine own_ldc2 K (pc := 117) (x := (1000000000000 : Int64)) (hw _ (List.mem_of_getElem? (i := 199) rfl)) d1_117 ?_
    refine own_lcmp K (pc := 120) d1_120 ?_
    refine own_ifN K (pc := 121) d1_121 (by rw [if0]; exact ((if0 _ _).symm.trans (XT.ll_ge_f ((own_Llt (b := 1000000000000) (by omega) (by decide)).mpr q12)))) ?_
    refine own_bipush K (pc := 124) d1_124 (x := (12 : Int32)) (by decide) ?_
    exact own_retI K (pc := 126) d1_126 (by rw [own_dg12 (by omega) (by omega)]; rfl)
  refine own_lloadN K (pc := 116) d1_116 rfl ?_
  refine own_ldc2 K (pc := 117) (x := (1000000000000 : Int64)) (hw _ (List.mem_of_getElem? (i := 199) rfl)) d1_117 ?_
  refine own_lcmp K (pc := 120) d1_120 ?_
  refine own_ifY K (pc := 121) (pc' := 127) d1_121 (by rw [if0]; exact ((if0 _ _).symm.trans (XT.ll_ge_t (fun e => q12 ((own_Llt (b := 1000000000000) (by omega) (by decide)).mp e))))) (by decide) (by decide) ?_
  refine own_bipush K (pc := 127) d1_127 (x := (13 : Int32)) (by decide) ?_
  exact own_retI K (pc := 129) d1_129 (by rw [own_dg13 (by omega) (by omega)]; rfl)
theorem dg (l : Launch) (Z : State) (a0 : Array Value) (h : Heap) (hw : ∀ d ∈ tables_1, d.before a0 Z = true) (M : Nat) (hM : M < 10 ^ 13) : own_M l (⟨"com/example/brokkr/brokkr/LogTextMillisPinLaw", "digits", "(J)I"⟩ : MethodName) method_2_code 2 (some .int) [] { frames := 0, cells := 0, slots := 0, locals := 0 } Z h #[(.long (Int64.ofNat M))] (some (.int (Int32.ofNat (Jvm.Free.SBG.digitsL M)))) := by
  refine own_met (by decide +kernel) rfl rfl (Ls := #[.val (.long (Int64.ofNat M)), .second]) (fun m => by first | (simp [entryFrame, mkF, argsToLocals, Value.category]; done) | rfl | (rcases ref_cases hg with rfl | ⟨y, rfl⟩ <;> first | (simp [entryFrame, mkF, argsToLocals, Value.category]; done) | rfl)) ?_
  intro p e s m below meth c K
  exact dg_b p l e s m _ below meth c Z a0 h hw M hM K
set_option maxHeartbeats 2000000 in
theorem dok_b (p : Program) (l : Launch) (e : Env) (s : State) (m : MethodId) (args : Array Value) (below : List Frame) (meth : Method) (c : Code) (Z : State) (a0 : Array Value) (h : Heap) (hw : ∀ d ∈ tables_1, d.before a0 Z = true) (a b : Addr) (kc : ClassId) (cs : List Int32) (z : Int32) (g : Value) (S : own_S Z h a b kc (Int32.ofNat cs.length) (cs.map Value.int)) (T : own_T Z h z g) (dd M i : Nat) (pw : Int64) (ix : Int32) (hM : M < 10 ^ 13) (hi : i ≤ 12) (epw : pw = Int64.ofNat (10 ^ i)) (eix : ix = Int32.ofNat i) (hl : dd ≤ cs.length) (hl2 : cs.length ≤ 40) (hcs : ∀ j, j < dd → (cs.map Value.int).getD j (.int 0) = .int (Int32.ofNat (48 + M / 10 ^ (dd - 1 - j) % 10))) (K : own_C p s m meth c Z method_3_code "com/example/brokkr/brokkr/LogTextMillisPinLaw" (some .boolean) 8) :
    own_E p l e { frames := 4, cells := 0, slots := 0, locals := 53 } s m args below meth c h [] 0 0 0 #[.val (.ref a), .val (.int (Int32.ofNat dd)), .val (.long (Int64.ofNat M)), .second, .val (.long pw), .second, .val (.int ix), .unset] [] (own_P s below h (some (.int 1))) := by
  have hp63 : (10 : Nat) ^ i < 2 ^ 63 := Nat.lt_of_le_of_lt (Nat.pow_le_pow_right (by decide) hi) (by decide)
  have hp0 : 0 < (10 : Nat) ^ i := Nat.pow_pos (by decide)
  have hpw : pw ≠ 0 := fun e => by have e2 := congrArg Int64.toInt (epw.symm.trans e); rw [Int64.toInt_ofNat_of_lt hp63] at e2; have e0 : (0 : Int64).toInt = 0 := rfl; omega
  rcases Nat.lt_or_ge i dd with hlt | hge
  · obtain ⟨ch, hch⟩ : ∃ x, x = Int32.ofNat (48 + M / 10 ^ i % 10) := ⟨_, rfl⟩
    have hr : M / 10 ^ i % 10 < 10 := Nat.mod_lt _ (by decide)
    have hq : ix < Int32.ofNat dd := by rw [eix]; exact (own_nlt (by omega) (by omega)).mpr hlt
    have c1 : ¬ ch < 0 := by rw [hch]; exact own_nn (by omega)
    have c2 : ¬ 255 < ch := by rw [hch]; intro e; exact absurd ((own_nlt (i := 255) (by omega) (by omega)).mp e) (by omega)
    have e8 : ch.toInt8.toInt32 = ch := by rw [hch]; exact Jvm.Free.SBG.dgNarrow _ (by omega)
    have hv : (cs.map Value.int).getD (Int32.ofNat (dd - 1 - i)).toNatClampNeg (.int 0) = .int ch.toInt8.toInt32 := by rw [own_nat (by omega), hcs _ (by omega), e8, hch, show dd - 1 - (dd - 1 - i) = i from by omega]
    refine own_iload K (pc := 0) d34_0 rfl ?_
    refine own_iloadN K (pc := 2) d34_2 rfl ?_
    refine own_icmpY K (pc := 3) (pc' := 8) d34_3 (tlt hq).1 (by decide) (by decide) ?_
    refine own_aloadN K (pc := 8) d34_8 rfl rfl ?_
    refine own_iloadN K (pc := 9) d34_9 rfl ?_
    refine own_iconst K (pc := 10) d34_10 (x := (1 : Int32)) (by decide) ?_
    refine own_isub K (pc := 11) d34_11 ?_
    rw [show Int32.ofNat dd - (1 : Int32) = Int32.ofNat (dd - 1) from own_Isb (b := 1) (by omega)]
    refine own_iload K (pc := 12) d34_12 rfl ?_
    refine own_isub K (pc := 14) d34_14 ?_
    rw [show Int32.ofNat (dd - 1) - ix = Int32.ofNat (dd - 1 - i) from by rw [eix]; exact own_Isb (by omega)]
    refine own_callV K (pc := 15) (W := 0) (rest := []) (argsL := [(.int (Int32.ofNat (dd - 1 - i)))]) (u := (.int ch)) rfl rfl (cha l Z a0 h hw a b kc _ _ z g S T (Int32.ofNat (dd - 1 - i)) ch (own_nn (by omega)) ((own_nlt (by omega) (by omega)).mpr (by omega)) hv c1 c2) S.1 (hw _ (List.mem_of_getElem? (i := 166) rfl)) (hw _ (List.mem_of_getElem? (i := 167) rfl)) (hw _ (List.mem_of_getElem? (i := 169) rfl)) (hw _ (List.mem_of_getElem? (i := 168) rfl)) (hw _ (List.mem_of_getElem? (i := 170) rfl)) (hw _ (List.mem_of_getElem? (i := 33) rfl)) (by decide) d34_15 pd_29 rfl rfl rfl (Nat.le_of_eq rfl) (by decide) (by decide) (Nat.zero_le _) (Nat.zero_le _) ?_
    refine own_istore K (pc := 18) (Ls' := #[.val (.ref a), .val (.int (Int32.ofNat dd)), .val (.long (Int64.ofNat M)), .second, .val (.long pw), .second, .val (.int ix), .val (.int ch)]) d34_18 rfl ?_
    refine own_iload K (pc := 20) d34_20 rfl ?_
    refine own_bipush K (pc := 22) d34_22 (x := (48 : Int32)) (by decide) ?_
    refine own_lloadN K (pc := 24) d34_24 rfl ?_
    refine own_lload K (pc := 25) d34_25 rfl ?_
    refine own_ldiv K (pc := 27) d34_27 (by first | decide | exact hpw) ?_
    rw [show Int64.ofNat M / pw = Int64.ofNat (M / 10 ^ i) from by rw [epw]; exact own_Ldv (own_small hM) hp0 hp63]
    refine own_ldc2 K (pc := 28) (x := (10 : Int64)) (hw _ (List.mem_of_getElem? (i := 9) rfl)) d34_28 ?_
    refine own_lrem K (pc := 31) d34_31 (by decide) ?_
    rw [show Int64.ofNat (M / 10 ^ i) - Int64.ofNat (M / 10 ^ i) / 10 * 10 = Int64.ofNat (M / 10 ^ i % 10) from own_Lrm (b := 10) (Nat.lt_of_le_of_lt (Nat.div_le_self _ _) (own_small hM)) (by decide) (by decide)]
    refine own_l2i K (pc := 32) d34_32 ?_
    rw [own_L2i (Nat.lt_of_lt_of_le hr (by decide))]
    refine own_iadd K (pc := 33) d34_33 ?_
    rw [show (48 : Int32) + Int32.ofNat (M / 10 ^ i % 10) = ch from (own_add 48 _).trans hch.symm]
    refine own_i2c K (pc := 34) d34_34 ?_
    rw [own_c16 c1 c2]
    refine own_icmpN K (pc := 35) d34_35 (teq rfl).2 ?_
    refine own_iconst K (pc := 38) d34_38 (x := (1 : Int32)) (by decide) ?_
    refine own_goto K (pc := 39) (pc' := 43) d34_39 (by decide) (by decide) ?_
    exact own_retZ K (pc := 43) d34_43 (by decide)
  · have hq : ¬ ix < Int32.ofNat dd := by rw [eix]; intro e; exact absurd ((own_nlt (by omega) (by omega)).mp e) (by omega)
    refine own_iload K (pc := 0) d34_0 rfl ?_
    refine own_iloadN K (pc := 2) d34_2 rfl ?_
    refine own_icmpN K (pc := 3) d34_3 (flt hq).1 ?_
    refine own_iconst K (pc := 6) d34_6 (x := (1 : Int32)) (by decide) ?_
    exact own_retZ K (pc := 7) d34_7 (by decide)
theorem dok (l : Launch) (Z : State) (a0 : Array Value) (h : Heap) (hw : ∀ d ∈ tables_1, d.before a0 Z = true) (a b : Addr) (kc : ClassId) (cs : List Int32) (z : Int32) (g : Value) (S : own_S Z h a b kc (Int32.ofNat cs.length) (cs.map Value.int)) (T : own_T Z h z g) (dd M i : Nat) (pw : Int64) (ix : Int32) (hM : M < 10 ^ 13) (hi : i ≤ 12) (epw : pw = Int64.ofNat (10 ^ i)) (eix : ix = Int32.ofNat i) (hl : dd ≤ cs.length) (hl2 : cs.length ≤ 40) (hcs : ∀ j, j < dd → (cs.map Value.int).getD j (.int 0) = .int (Int32.ofNat (48 + M / 10 ^ (dd - 1 - j) % 10))) : own_M l (⟨"com/example/brokkr/brokkr/LogTextMillisPinLaw", "digitOk", "(Ljava/lang/String;IJJI)Z"⟩ : MethodName) method_3_code 8 (some .boolean) [] { frames := 4, cells := 0, slots := 0, locals := 53 } Z h #[(.ref a), (.int (Int32.ofNat dd)), (.long (Int64.ofNat M)), (.long pw), (.int ix)] (some (.int 1)) := by
  refine own_met (by decide +kernel) rfl rfl (Ls := #[.val (.ref a), .val (.int (Int32.ofNat dd)), .val (.long (Int64.ofNat M)), .second, .val (.long pw), .second, .val (.int ix), .unset]) (fun m => by first | (simp [entryFrame, mkF, argsToLocals, Value.category]; done) | rfl | (rcases ref_cases hg with rfl | ⟨y, rfl⟩ <;> first | (simp [entryFrame, mkF, argsToLocals, Value.category]; done) | rfl)) ?_
  intro p e s m below meth c K
  exact dok_b p l e s m _ below meth c Z a0 h hw a b kc cs z g S T dd M i pw ix hM hi epw eix hl hl2 hcs K
def own_txt (M f : Nat) : List Int32 := own_digs M ++ [46, Int32.ofNat (48 + f / 10), Int32.ofNat (48 + f % 10), 109, 115]
theorem own_digs1 {f : Nat} (h : f < 10) : own_digs f = [Int32.ofNat (48 + f)] := (by decide +kernel : ∀ f : Fin 10, own_digs f.val = [Int32.ofNat (48 + f.val)]) ⟨f, h⟩
theorem own_digs2 {f : Nat} (h : f < 100) (h' : ¬ f < 10) : own_digs f = [Int32.ofNat (48 + f / 10), Int32.ofNat (48 + f % 10)] := (by decide +kernel : ∀ f : Fin 100, ¬ f.val < 10 → own_digs f.val = [Int32.ofNat (48 + f.val / 10), Int32.ofNat (48 + f.val % 10)]) ⟨f, h⟩ h'
theorem own_txtA {M f : Nat} (h : f < 10) : own_digs M ++ [46, 48] ++ own_digs f ++ [109, 115] = own_txt M f := by
  rw [own_digs1 h, own_txt, show f / 10 = 0 from by omega, show f % 10 = f from by omega]; simp
theorem own_txtB {M f : Nat} (h : f < 100) (h' : ¬ f < 10) : own_digs M ++ [46] ++ own_digs f ++ [109, 115] = own_txt M f := by
  rw [own_digs2 h h', own_txt]; simp
theorem own_dl13 {M : Nat} (h : M < 10 ^ 13) : 1 ≤ Jvm.Free.SBG.digitsL M ∧ Jvm.Free.SBG.digitsL M ≤ 13 := by
  have h : M < 10000000000000 := h
  by_cases q1 : M < 10
  · have := own_dg1 (n := M) (by omega) (by omega); omega
  by_cases q2 : M < 100
  · have := own_dg2 (n := M) (by omega) (by omega); omega
  by_cases q3 : M < 1000
  · have := own_dg3 (n := M) (by omega) (by omega); omega
  by_cases q4 : M < 10000
  · have := own_dg4 (n := M) (by omega) (by omega); omega
  by_cases q5 : M < 100000
  · have := own_dg5 (n := M) (by omega) (by omega); omega
  by_cases q6 : M < 1000000
  · have := own_dg6 (n := M) (by omega) (by omega); omega
  by_cases q7 : M < 10000000
  · have := own_dg7 (n := M) (by omega) (by omega); omega
  by_cases q8 : M < 100000000
  · have := own_dg8 (n := M) (by omega) (by omega); omega
  by_cases q9 : M < 1000000000
  · have := own_dg9 (n := M) (by omega) (by omega); omega
  by_cases q10 : M < 10000000000
  · have := own_dg10 (n := M) (by omega) (by omega); omega
  by_cases q11 : M < 100000000000
  · have := own_dg11 (n := M) (by omega) (by omega); omega
  by_cases q12 : M < 1000000000000
  · have := own_dg12 (n := M) (by omega) (by omega); omega
  have := own_dg13 (n := M) (by omega) (by omega); omega
theorem own_T_keep {Z : State} {h h' : Heap} {ws : List Addr} {z : Int32} {g : Value} (K : Keep h h' ws) (hs : ∀ y ∈ ws, ∀ cell : Cell, h[y]? = some cell → cell.vm.isStatics = false) (T : own_T Z h z g) : own_T Z h' z g := ⟨Sta_keep K hs T.1, T.2.1, Sta_keep K hs T.2.2.1, T.2.2.2⟩
def own_J (s Z : State) (vm : Vm) (h0 h : Heap) (n0 : Nat) (sb ar : Addr) (k : ClassId) (N : Nat) (cs : List Int32) (z : Int32) (g : Value) : Prop := own_V s Z consts_1 vm h ∧ own_T Z h z g ∧ Old Z n0 h ∧ own_Bd Z h sb ar k N cs ∧ n0 ≤ sb ∧ n0 ≤ ar ∧ Keep h0 h [] ∧ h0.size ≤ sb ∧ h0.size ≤ ar ∧ Safe Z consts_1 vm h ar
section OwnJ
variable {s Z : State} {vm : Vm} {h0 h h' : Heap} {n0 : Nat} {sb ar ar' : Addr} {k k' : ClassId} {N N' : Nat} {cs cs' : List Int32} {z : Int32} {g : Value}
theorem own_J_go (hal : Z.vm.Alike vm) (J : own_J s Z vm h0 h n0 sb ar k N cs z g) (K : Keep h h' [sb, ar]) (B' : own_Bd Z h' sb ar' k' N' cs') (hn' : n0 ≤ ar') (ho : ar' = ar ∨ h.size ≤ ar') : own_J s Z vm h0 h' n0 sb ar' k' N' cs' z g := by
  obtain ⟨V, T, O, B, a1, a2, Kk, b1, b2, Sr⟩ := J
  have Ss : Safe Z consts_1 vm h sb := Safe.exa hal B.1 (by decide) (by decide)
  have SF : ∀ x ∈ [sb, ar], Safe Z consts_1 vm h x := fun x hx => by
    rcases List.mem_cons.mp hx with rfl | hx
    · exact Ss
    · cases List.mem_singleton.mp hx; exact Sr
  have hs0 : h0.size ≤ h.size := Kk.1
  refine ⟨own_V_keep K SF V, own_T_keep K (fun y hy => ?_) T, O.keep K (fun y hy => ?_), B', a1, hn', Kk.trans K (fun y hy => Or.inr ?_), b1, ?_, ?_⟩
  · rcases List.mem_cons.mp hy with rfl | hy
    · exact B.1.nostat
    · cases List.mem_singleton.mp hy; exact B.2.2.2.2.2.2.2.nostat
  · rcases List.mem_cons.mp hy with rfl | hy
    · exact a1
    · cases List.mem_singleton.mp hy; exact a2
  · rcases List.mem_cons.mp hy with rfl | hy
    · exact b1
    · cases List.mem_singleton.mp hy; exact b2
  · rcases ho with rfl | q
    · exact b2
    · exact Nat.le_trans hs0 q
  · rcases ho with rfl | q
    · exact Safe.keep K SF V.2.1 Sr
    · exact Safe.keep K SF V.2.1 (Safe.new q)
theorem own_J_ldc {vm' : Vm} (J : own_J s Z vm h0 h n0 sb ar k N cs z g) (V' : own_V s Z consts_1 vm' h') (C : CHr Z consts_1 vm h vm' h') (E : Ext h h') : own_J s Z vm' h0 h' n0 sb ar k N cs z g := by
  obtain ⟨V, T, O, B, a1, a2, Kk, b1, b2, Sr⟩ := J
  exact ⟨V', own_T_ext E T, O.ext E, own_Bd_ext E B, a1, a2, Kk.ext E, b1, b2, C.safe B.2.2.2.2.1.lt Sr⟩
end OwnJ
abbrev own_RM : Room := { frames := 6, cells := 9, slots := 122, locals := 132 }
set_option maxHeartbeats 2000000 in
theorem ml_61 (p : Program) (l : Launch) (e : Env) (s : State) (m : MethodId) (args : Array Value) (below : List Frame) (meth : Method) (c : Code) (Z : State) (a0 : Array Value) (hw : ∀ d ∈ tables_1, d.before a0 Z = true) (Nn Hh f : Nat) (vm : Vm) (h0 h : Heap) (locs : List Loc) (cells slots : Nat) (n0 : Nat) (sb ar : Addr) (k : ClassId) (N : Nat) (cs : List Int32) (z : Int32) (g : Value) (Nl : Fr n0 locs) (hc : cells + 2 ≤ 9) (hs : slots + 44 ≤ 122) (K : own_C p (s.setVm vm) m meth c Z prog_12_method_3_code "com/example/brokkr/brokkr/LogText" (some (.object "java/lang/String")) 6) (J : own_J s Z vm h0 h n0 sb ar k N cs z g) : own_E p l e own_RM (s.setVm vm) m args below meth c h locs cells slots 61 #[.val (.long (Int64.ofNat Nn)), .second, .val (.long (Int64.ofNat Hh)), .second, .val (.long (Int64.ofNat f)), .second] [.ref sb] (own_O s below Z consts_1 own_RM (own_QX Z h0 n0 (cs))) := by
  obtain ⟨V, T, O, B, a1, a2, Kk, b1, b2, Sr⟩ := id J
  refine own_callVW K (pc := 61) (W := 0) (a := sb) (rest := []) (argsL := []) (notFace_of_selects (args := #[]) (mvT K.2.1 (hw _ (List.mem_of_getElem? (i := 125) rfl)))) (ts l Z a0 h hw sb ar k N cs B z g T n0 (by have := O.1; have := O.2.1; omega)) B.1 (hw _ (List.mem_of_getElem? (i := 122) rfl)) (hw _ (List.mem_of_getElem? (i := 123) rfl)) (hw _ (List.mem_of_getElem? (i := 125) rfl)) (hw _ (List.mem_of_getElem? (i := 124) rfl)) (hw _ (List.mem_of_getElem? (i := 126) rfl)) (hw _ (List.mem_of_getElem? (i := 19) rfl)) (by decide) d2_61 pd_19 rfl rfl rfl (Nat.le_of_eq rfl) (by decide) (by decide) (by show cells + 2 ≤ 9; omega) (by show slots + 44 ≤ 122; omega) ?_
  intro u h2 L2 q
  obtain ⟨x, b', kb, rfl, N2, K2, S2⟩ := q
  exact own_retAH K (own_EL hw) (own_V_keep K2 (fun y hy => nomatch hy) V) rfl (pc := 64) d2_64 rfl rfl rfl (by show cells + 2 ≤ 9; omega) (by show slots + 44 ≤ 122; omega) ⟨x, b', kb, rfl, Nl.app N2, Kk.trans K2 (fun y hy => nomatch hy), S2⟩
set_option maxHeartbeats 2000000 in
theorem ml_56 (p : Program) (l : Launch) (e : Env) (s : State) (m : MethodId) (args : Array Value) (below : List Frame) (meth : Method) (c : Code) (Z : State) (a0 : Array Value) (hw : ∀ d ∈ tables_1, d.before a0 Z = true) (Nn Hh f : Nat) (vm : Vm) (h0 h : Heap) (locs : List Loc) (cells slots : Nat) (n0 : Nat) (sb ar : Addr) (k : ClassId) (cs : List Int32) (z : Int32) (g : Value) (Nl : Fr n0 locs) (hc : cells + 5 ≤ 9) (hs : slots + 90 ≤ 122) (hl : cs.length ≤ 16) (K : own_C p (s.setVm vm) m meth c Z prog_12_method_3_code "com/example/brokkr/brokkr/LogText" (some (.object "java/lang/String")) 6) (J : own_J s Z vm h0 h n0 sb ar k 16 cs z g) : own_E p l e own_RM (s.setVm vm) m args below meth c h locs cells slots 56 #[.val (.long (Int64.ofNat Nn)), .second, .val (.long (Int64.ofNat Hh)), .second, .val (.long (Int64.ofNat f)), .second] [.ref sb] (own_O s below Z consts_1 own_RM (own_QX Z h0 n0 (cs ++ [109, 115]))) := by
  obtain ⟨V, T, O, B, a1, a2, Kk, b1, b2, Sr⟩ := id J
  refine own_ldcS K (own_EL hw) V (pc := 56) (n := 8) (i := 59) (by simp [consts_1]) (hw _ (List.mem_of_getElem? (i := 121) rfl)) (own_wS hw) (vs := [.int 109, .int 115]) (z := 2) (by decide) (by decide) (by decide) d2_56 (by decide) (by decide) (by show cells + 2 ≤ 9; omega) (by show slots + 12 ≤ 122; omega) ?_
  intro vm1 h1 a' b' k' K V1 C1 E1 X1 Y1 F1 A1 _
  have J1 := own_J_ldc J V1 C1 E1
  clear J V T O B a1 a2 Kk b1 b2 Sr
  obtain ⟨V, T, O, B, a1, a2, Kk, b1, b2, Sr⟩ := id J1
  have S1 : own_S Z h1 a' b' k' (Int32.ofNat ([109, 115] : List Int32).length) (([109, 115] : List Int32).map Value.int) := ⟨X1, Y1, F1, A1⟩
  by_cases hl14 : cs.length ≤ 14
  · refine own_callVW K (pc := 58) (W := 0) (a := sb) (rest := []) (argsL := [.ref a']) (notFace_of_selects (args := #[]) (mvT K.2.1 (hw _ (List.mem_of_getElem? (i := 82) rfl)))) (ss0 l Z a0 h1 hw sb ar k 16 cs B a' b' k' [109, 115] z g S1 T n0 a1 a2 (by have := O.1; have := O.2.1; omega) (show cs.length + 2 ≤ 16 by omega)) B.1 (hw _ (List.mem_of_getElem? (i := 79) rfl)) (hw _ (List.mem_of_getElem? (i := 80) rfl)) (hw _ (List.mem_of_getElem? (i := 82) rfl)) (hw _ (List.mem_of_getElem? (i := 81) rfl)) (hw _ (List.mem_of_getElem? (i := 83) rfl)) (hw _ (List.mem_of_getElem? (i := 19) rfl)) (by decide) d2_58 pd_12 rfl rfl rfl (Nat.le_of_eq rfl) (by decide) (by decide) (by show cells + 2 + 0 ≤ 9; omega) (by show slots + 12 + 0 ≤ 122; omega) ?_
    intro u h2 L2 q
    obtain ⟨rfl, N2, K2, ar2, k2, B2, hn2, ho2⟩ := q
    exact ml_61 p l e s m args below meth c Z a0 hw Nn Hh f vm1 h0 h2 _ _ _ n0 sb ar2 k2 _ _ z g (Nl.app N2) (by show cells + 2 + 0 + 2 ≤ 9; omega) (by show slots + 12 + 0 + 44 ≤ 122; omega) K (own_J_go K.2.1.alike J1 K2 B2 hn2 ho2)
  by_cases hl15 : cs.length = 15
  · refine own_callVW K (pc := 58) (W := 0) (a := sb) (rest := []) (argsL := [.ref a']) (notFace_of_selects (args := #[]) (mvT K.2.1 (hw _ (List.mem_of_getElem? (i := 82) rfl)))) (ss1 l Z a0 h1 hw sb ar k cs B a' b' k' [109, 115] z g S1 T n0 a1 a2 (by have := O.1; have := O.2.1; omega) (show cs.length + 2 = 17 by omega)) B.1 (hw _ (List.mem_of_getElem? (i := 79) rfl)) (hw _ (List.mem_of_getElem? (i := 80) rfl)) (hw _ (List.mem_of_getElem? (i := 82) rfl)) (hw _ (List.mem_of_getElem? (i := 81) rfl)) (hw _ (List.mem_of_getElem? (i := 83) rfl)) (hw _ (List.mem_of_getElem? (i := 19) rfl)) (by decide) d2_58 pd_12 rfl rfl rfl (Nat.le_of_eq rfl) (by decide) (by decide) (by show cells + 2 + 1 ≤ 9; omega) (by show slots + 12 + 34 ≤ 122; omega) ?_
    intro u h2 L2 q
    obtain ⟨rfl, N2, K2, ar2, k2, B2, hn2, ho2⟩ := q
    exact ml_61 p l e s m args below meth c Z a0 hw Nn Hh f vm1 h0 h2 _ _ _ n0 sb ar2 k2 _ _ z g (Nl.app N2) (by show cells + 2 + 1 + 2 ≤ 9; omega) (by show slots + 12 + 34 + 44 ≤ 122; omega) K (own_J_go K.2.1.alike J1 K2 B2 hn2 ho2)
  refine own_callVW K (pc := 58) (W := 0) (a := sb) (rest := []) (argsL := [.ref a']) (notFace_of_selects (args := #[]) (mvT K.2.1 (hw _ (List.mem_of_getElem? (i := 82) rfl)))) (ss2 l Z a0 h1 hw sb ar k cs B a' b' k' [109, 115] z g S1 T n0 a1 a2 (by have := O.1; have := O.2.1; omega) (show cs.length + 2 = 18 by omega)) B.1 (hw _ (List.mem_of_getElem? (i := 79) rfl)) (hw _ (List.mem_of_getElem? (i := 80) rfl)) (hw _ (List.mem_of_getElem? (i := 82) rfl)) (hw _ (List.mem_of_getElem? (i := 81) rfl)) (hw _ (List.mem_of_getElem? (i := 83) rfl)) (hw _ (List.mem_of_getElem? (i := 19) rfl)) (by decide) d2_58 pd_12 rfl rfl rfl (Nat.le_of_eq rfl) (by decide) (by decide) (by show cells + 2 + 1 ≤ 9; omega) (by show slots + 12 + 34 ≤ 122; omega) ?_
  intro u h2 L2 q
  obtain ⟨rfl, N2, K2, ar2, k2, B2, hn2, ho2⟩ := q
  exact ml_61 p l e s m args below meth c Z a0 hw Nn Hh f vm1 h0 h2 _ _ _ n0 sb ar2 k2 _ _ z g (Nl.app N2) (by show cells + 2 + 1 + 2 ≤ 9; omega) (by show slots + 12 + 34 + 44 ≤ 122; omega) K (own_J_go K.2.1.alike J1 K2 B2 hn2 ho2)
set_option maxHeartbeats 2000000 in
theorem ml_51 (p : Program) (l : Launch) (e : Env) (s : State) (m : MethodId) (args : Array Value) (below : List Frame) (meth : Method) (c : Code) (Z : State) (a0 : Array Value) (hw : ∀ d ∈ tables_1, d.before a0 Z = true) (Nn Hh f : Nat) (vm : Vm) (h0 h : Heap) (locs : List Loc) (cells slots : Nat) (n0 : Nat) (sb ar : Addr) (k : ClassId) (cs : List Int32) (z : Int32) (g : Value) (Nl : Fr n0 locs) (st d1 d2 : Addr) (D1 D2 : Cell) (t1 : Jvm.Free.SBG.Tbl Z "DigitOnes" st d1 D1) (t2 : Jvm.Free.SBG.Tbl Z "DigitTens" st d2 D2) (o1 : Jvm.Free.SBG.Ones D1) (o2 : Jvm.Free.SBG.Tens D2) (hf : f < 10 ^ 13) (hc : cells + 5 ≤ 9) (hs : slots + 90 ≤ 122) (hr : cs.length + (own_digs f).length ≤ 16) (K : own_C p (s.setVm vm) m meth c Z prog_12_method_3_code "com/example/brokkr/brokkr/LogText" (some (.object "java/lang/String")) 6) (J : own_J s Z vm h0 h n0 sb ar k 16 cs z g) : own_E p l e own_RM (s.setVm vm) m args below meth c h locs cells slots 51 #[.val (.long (Int64.ofNat Nn)), .second, .val (.long (Int64.ofNat Hh)), .second, .val (.long (Int64.ofNat f)), .second] [.ref sb] (own_O s below Z consts_1 own_RM (own_QX Z h0 n0 (cs ++ own_digs f ++ [109, 115]))) := by
  obtain ⟨V, T, O, B, a1, a2, Kk, b1, b2, Sr⟩ := id J
  refine own_lload K (pc := 51) d2_51 rfl ?_
  refine own_callVW K (pc := 53) (W := 0) (a := sb) (rest := []) (argsL := [.long (Int64.ofNat f)]) (notFace_of_selects (args := #[]) (mvT K.2.1 (hw _ (List.mem_of_getElem? (i := 42) rfl)))) (sj l Z a0 h hw sb ar k 16 cs B z g T n0 a1 a2 O f hf hr st d1 d2 D1 D2 t1 t2 o1 o2) B.1 (hw _ (List.mem_of_getElem? (i := 39) rfl)) (hw _ (List.mem_of_getElem? (i := 40) rfl)) (hw _ (List.mem_of_getElem? (i := 42) rfl)) (hw _ (List.mem_of_getElem? (i := 41) rfl)) (hw _ (List.mem_of_getElem? (i := 43) rfl)) (hw _ (List.mem_of_getElem? (i := 19) rfl)) (by decide) d2_53 pd_6 rfl rfl rfl (Nat.le_of_eq rfl) (by decide) (by decide) (by show cells + 0 ≤ 9; omega) (by show slots + 0 ≤ 122; omega) ?_
  intro u h2 L2 q
  obtain ⟨rfl, N2, K2, ar2, k2, B2, hn2, ho2⟩ := q
  exact ml_56 p l e s m args below meth c Z a0 hw Nn Hh f vm h0 h2 _ _ _ n0 sb ar2 k2 _ z g (Nl.app N2) (by show cells + 0 + 5 ≤ 9; omega) (by show slots + 0 + 90 ≤ 122; omega) (by rw [List.length_append]; exact hr) K (own_J_go K.2.1.alike J K2 B2 hn2 ho2)
set_option maxHeartbeats 2000000 in
theorem ml_48 (p : Program) (l : Launch) (e : Env) (s : State) (m : MethodId) (args : Array Value) (below : List Frame) (meth : Method) (c : Code) (Z : State) (a0 : Array Value) (hw : ∀ d ∈ tables_1, d.before a0 Z = true) (Nn Hh f : Nat) (vm : Vm) (h0 h : Heap) (locs : List Loc) (cells slots : Nat) (n0 : Nat) (sb ar : Addr) (k : ClassId) (cs : List Int32) (z : Int32) (g : Value) (Nl : Fr n0 locs) (st d1 d2 : Addr) (D1 D2 : Cell) (t1 : Jvm.Free.SBG.Tbl Z "DigitOnes" st d1 D1) (t2 : Jvm.Free.SBG.Tbl Z "DigitTens" st d2 D2) (o1 : Jvm.Free.SBG.Ones D1) (o2 : Jvm.Free.SBG.Tens D2) (a' b' : Addr) (k' : ClassId) (ds : List Int32) (S1 : own_S Z h a' b' k' (Int32.ofNat ds.length) (ds.map Value.int)) (hf : f < 10 ^ 13) (hc : cells + 5 ≤ 9) (hs : slots + 90 ≤ 122) (hr : cs.length + ds.length + (own_digs f).length ≤ 16) (K : own_C p (s.setVm vm) m meth c Z prog_12_method_3_code "com/example/brokkr/brokkr/LogText" (some (.object "java/lang/String")) 6) (J : own_J s Z vm h0 h n0 sb ar k 16 cs z g) : own_E p l e own_RM (s.setVm vm) m args below meth c h locs cells slots 48 #[.val (.long (Int64.ofNat Nn)), .second, .val (.long (Int64.ofNat Hh)), .second, .val (.long (Int64.ofNat f)), .second] [.ref a', .ref sb] (own_O s below Z consts_1 own_RM (own_QX Z h0 n0 (cs ++ ds ++ own_digs f ++ [109, 115]))) := by
  obtain ⟨V, T, O, B, a1, a2, Kk, b1, b2, Sr⟩ := id J
  refine own_callVW K (pc := 48) (W := 0) (a := sb) (rest := []) (argsL := [.ref a']) (notFace_of_selects (args := #[]) (mvT K.2.1 (hw _ (List.mem_of_getElem? (i := 82) rfl)))) (ss0 l Z a0 h hw sb ar k 16 cs B a' b' k' ds z g S1 T n0 a1 a2 (by have := O.1; have := O.2.1; omega) (by omega)) B.1 (hw _ (List.mem_of_getElem? (i := 79) rfl)) (hw _ (List.mem_of_getElem? (i := 80) rfl)) (hw _ (List.mem_of_getElem? (i := 82) rfl)) (hw _ (List.mem_of_getElem? (i := 81) rfl)) (hw _ (List.mem_of_getElem? (i := 83) rfl)) (hw _ (List.mem_of_getElem? (i := 19) rfl)) (by decide) d2_48 pd_12 rfl rfl rfl (Nat.le_of_eq rfl) (by decide) (by decide) (by show cells + 0 ≤ 9; omega) (by show slots + 0 ≤ 122; omega) ?_
  intro u h2 L2 q
  obtain ⟨rfl, N2, K2, ar2, k2, B2, hn2, ho2⟩ := q
  exact ml_51 p l e s m args below meth c Z a0 hw Nn Hh f vm h0 h2 _ _ _ n0 sb ar2 k2 _ z g (Nl.app N2) st d1 d2 D1 D2 t1 t2 o1 o2 hf (by show cells + 0 + 5 ≤ 9; omega) (by show slots + 0 + 90 ≤ 122; omega) (by rw [List.length_append]; exact hr) K (own_J_go K.2.1.alike J K2 B2 hn2 ho2)
set_option maxHeartbeats 2000000 in
theorem mil (l : Launch) (Z : State) (a0 : Array Value) (h : Heap) (hw : ∀ d ∈ tables_1, d.before a0 Z = true) (z : Int32) (g : Value) (T : own_T Z h z g) (n0 : Nat) (O : Old Z n0 h) (Nn : Nat) (hN : Nn + 5000 < 2 ^ 63) (st d1 d2 : Addr) (D1 D2 : Cell) (t1 : Jvm.Free.SBG.Tbl Z "DigitOnes" st d1 D1) (t2 : Jvm.Free.SBG.Tbl Z "DigitTens" st d2 D2) (o1 : Jvm.Free.SBG.Ones D1) (o2 : Jvm.Free.SBG.Tens D2) : own_H l (⟨"com/example/brokkr/brokkr/LogText", "millis", "(J)Ljava/lang/String;"⟩ : MethodName) prog_12_method_3_code 6 (some (.object "java/lang/String")) [] own_RM Z consts_1 h #[(.long (Int64.ofNat Nn))] (own_QX Z h n0 (own_txt ((Nn + 5000) / 10000 / 100) ((Nn + 5000) / 10000 % 100))) := by
  refine own_metH (by decide +kernel) (Ls := #[.val (.long (Int64.ofNat Nn)), .second, .unset, .unset, .unset, .unset]) (fun m => by first | (simp [entryFrame, mkF, argsToLocals, Value.category]; done) | rfl) ?_
  intro p e s m below meth c hh hnm K V
  obtain ⟨Hh, eH⟩ : ∃ x, x = (Nn + 5000) / 10000 := ⟨_, rfl⟩
  obtain ⟨f, ef⟩ : ∃ x, x = Hh % 100 := ⟨_, rfl⟩
  obtain ⟨M, eM⟩ : ∃ x, x = Hh / 100 := ⟨_, rfl⟩
  rw [← eH, ← ef, ← eM]
  have e63 : (2 : Nat) ^ 63 = 9223372036854775808 := by decide
  rw [e63] at hN
  have hM' : M < 10000000000000 := by omega
  have hM : M < 10 ^ 13 := hM'
  have hf : f < 100 := by omega
  have hf13 : f < 10 ^ 13 := Nat.lt_of_lt_of_le hf (by decide)
  have hd13 := own_dl13 hM
  refine own_lloadN K (pc := 0) d2_0 rfl ?_
  refine own_ldc2 K (pc := 1) (x := (5000 : Int64)) (hw _ (List.mem_of_getElem? (i := 14) rfl)) d2_1 ?_
  refine own_ladd K (pc := 4) d2_4 ?_
  rw [show Int64.ofNat Nn + (5000 : Int64) = Int64.ofNat (Nn + 5000) from own_Lad _ _]
  refine own_ldc2 K (pc := 5) (x := (10000 : Int64)) (hw _ (List.mem_of_getElem? (i := 15) rfl)) d2_5 ?_
  refine own_ldiv K (pc := 8) d2_8 (by decide) ?_
  rw [show Int64.ofNat (Nn + 5000) / (10000 : Int64) = Int64.ofNat Hh from by rw [eH]; exact own_Ldv (b := 10000) (by omega) (by decide) (by decide)]
  refine own_lstoreN K (pc := 9) (Ls' := #[.val (.long (Int64.ofNat Nn)), .second, .val (.long (Int64.ofNat Hh)), .second, .unset, .unset]) d2_9 rfl ?_
  refine own_lloadN K (pc := 10) d2_10 rfl ?_
  refine own_ldc2 K (pc := 11) (x := (100 : Int64)) (hw _ (List.mem_of_getElem? (i := 16) rfl)) d2_11 ?_
  refine own_lrem K (pc := 14) d2_14 (by decide) ?_
  rw [show Int64.ofNat Hh - Int64.ofNat Hh / (100 : Int64) * 100 = Int64.ofNat f from by rw [ef]; exact own_Lrm (b := 100) (by omega) (by decide) (by decide)]
  refine own_lstore K (pc := 15) (Ls' := #[.val (.long (Int64.ofNat Nn)), .second, .val (.long (Int64.ofNat Hh)), .second, .val (.long (Int64.ofNat f)), .second]) d2_15 rfl ?_
  refine own_new K (pc := 17) (n := 4) (hw _ (List.mem_of_getElem? (i := 17) rfl)) (hw _ (List.mem_of_getElem? (i := 18) rfl)) (hw _ (List.mem_of_getElem? (i := 19) rfl)) d2_17 (by decide) (by decide) ?_
  intro h1 E1 X1 DD
  obtain ⟨sb, gs⟩ : ∃ z, z = h.size := ⟨_, rfl⟩
  rw [← gs] at X1 DD ⊢
  have FV : Fld Z h1 sb "java/lang/AbstractStringBuilder" "value" "[B" .null := DD (own_l_value hw) (ty := .array .byte) (by decide)
  have FC : Fld Z h1 sb "java/lang/AbstractStringBuilder" "coder" "B" (.int 0) := DD (own_l_coder hw) (ty := .byte) (by decide)
  have FN : Fld Z h1 sb "java/lang/AbstractStringBuilder" "count" "I" (.int 0) := DD (own_l_count hw) (ty := .int) (by decide)
  have T1 := own_T_ext E1 T
  have O1 := O.ext E1
  have V1 := own_V_ext E1 V
  have gsn : n0 ≤ sb := by have := O.1; have := O.2.1; omega
  refine own_dup K (pc := 20) d2_20 rfl ?_
  refine own_initW K (pc := 21) (W := 1) (a := sb) (rest := [.ref sb]) (argsL := []) rfl rfl (si l Z a0 h1 hw sb n0 gsn X1 FV FC FN z g T1) (hw _ (List.mem_of_getElem? (i := 20) rfl)) (hw _ (List.mem_of_getElem? (i := 21) rfl)) (hw _ (List.mem_of_getElem? (i := 22) rfl)) (hw _ (List.mem_of_getElem? (i := 19) rfl)) (by decide) d2_21 pd_3 rfl rfl rfl (Nat.le_of_eq rfl) (by decide) (by decide) (by decide) (by decide) ?_
  intro u h2 L2 q
  obtain ⟨rfl, N2, K2, ar, k, g2, B2⟩ := q
  have Ss : Safe Z consts_1 s.vm h1 sb := Safe.exa K.2.1.alike X1 (by decide) (by decide)
  have SF : ∀ x ∈ [sb], Safe Z consts_1 s.vm h1 x := fun x hx => by cases List.mem_singleton.mp hx; exact Ss
  have J2 : own_J s Z s.vm h h2 n0 sb ar k 16 [] z g := ⟨own_V_keep K2 SF V1, own_T_keep K2 (fun y hy => by cases List.mem_singleton.mp hy; exact X1.nostat) T1, O1.keep K2 (fun y hy => by cases List.mem_singleton.mp hy; exact gsn), B2, gsn, by have := O1.1; have := O1.2.1; omega, ((Keep.refl h []).ext E1).trans K2 (fun y hy => by cases List.mem_singleton.mp hy; exact Or.inr (Nat.le_of_eq gs.symm)), Nat.le_of_eq gs.symm, Nat.le_trans E1.1 g2, Safe.keep K2 SF V1.2.1 (Safe.new g2)⟩
  have N2 : Fr n0 ([] ++ L2) := (Fr.nil n0).app N2
  clear V1 T1 O1 V
  refine own_lloadN K (pc := 24) d2_24 rfl ?_
  refine own_ldc2 K (pc := 25) (x := (100 : Int64)) (hw _ (List.mem_of_getElem? (i := 16) rfl)) d2_25 ?_
  refine own_ldiv K (pc := 28) d2_28 (by decide) ?_
  rw [show Int64.ofNat Hh / (100 : Int64) = Int64.ofNat M from by rw [eM]; exact own_Ldv (b := 100) (by omega) (by decide) (by decide)]
  obtain ⟨V, T', O', B, a1, a2, Kk, b1, b2, Sr⟩ := id J2
  refine own_callVW K (pc := 29) (W := 0) (a := sb) (rest := []) (argsL := [.long (Int64.ofNat M)]) (notFace_of_selects (args := #[]) (mvT K.2.1 (hw _ (List.mem_of_getElem? (i := 42) rfl)))) (sj l Z a0 h2 hw sb ar k 16 [] B z g T' n0 a1 a2 O' M hM (by rw [own_digs_len]; show 0 + _ ≤ _; omega) st d1 d2 D1 D2 t1 t2 o1 o2) B.1 (hw _ (List.mem_of_getElem? (i := 39) rfl)) (hw _ (List.mem_of_getElem? (i := 40) rfl)) (hw _ (List.mem_of_getElem? (i := 42) rfl)) (hw _ (List.mem_of_getElem? (i := 41) rfl)) (hw _ (List.mem_of_getElem? (i := 43) rfl)) (hw _ (List.mem_of_getElem? (i := 19) rfl)) (by decide) d2_29 pd_6 rfl rfl rfl (Nat.le_of_eq rfl) (by decide) (by decide) (by decide) (by decide) ?_
  intro u h3 L3 q
  obtain ⟨rfl, N3, K3, ar3, k3, B3, hn3, ho3⟩ := q
  rw [List.nil_append] at B3
  have J3 := own_J_go K.2.1.alike J2 K3 B3 hn3 ho3
  clear V T' O' B a1 a2 Kk b1 b2 Sr J2
  have N3 := N2.app N3
  obtain ⟨V, T', O', B, a1, a2, Kk, b1, b2, Sr⟩ := id J3
  refine own_lload K (pc := 32) d2_32 rfl ?_
  refine own_ldc2 K (pc := 34) (x := (10 : Int64)) (hw _ (List.mem_of_getElem? (i := 72) rfl)) d2_34 ?_
  refine own_lcmp K (pc := 37) d2_37 ?_
  by_cases q : f < 10
  · refine own_ifN K (pc := 38) d2_38 (by rw [if0]; exact ((if0 _ _).symm.trans (XT.ll_ge_f ((own_Llt (b := 10) (by omega) (by decide)).mpr q)))) ?_
    refine own_ldcS K (own_EL hw) V (pc := 41) (n := 8) (i := 55) (by simp [consts_1]) (hw _ (List.mem_of_getElem? (i := 73) rfl)) (own_wS hw) (vs := [.int 46, .int 48]) (z := 2) (by decide) (by decide) (by decide) d2_41 (by decide) (by decide) (by decide) (by decide) ?_
    intro vm1 h4 a' b' k' K V1 C1 E4 X4 Y4 F4 A4 _
    have J4 := own_J_ldc J3 V1 C1 E4
    have S4 : own_S Z h4 a' b' k' (Int32.ofNat ([46, 48] : List Int32).length) (([46, 48] : List Int32).map Value.int) := ⟨X4, Y4, F4, A4⟩
    refine own_goto K (pc := 43) (pc' := 48) d2_43 (by decide) (by decide) ?_
    rw [← own_txtA q]
    exact ml_48 p l e s m _ below meth c Z a0 hw Nn Hh f vm1 h h4 _ _ _ n0 sb ar3 k3 _ z g N3 st d1 d2 D1 D2 t1 t2 o1 o2 a' b' k' [46, 48] S4 hf13 (by decide) (by decide) (by rw [own_digs_len, own_digs_len]; have := own_dg1 (n := f) (by omega) (by omega); show _ + 2 + _ ≤ _; omega) K J4
  · refine own_ifY K (pc := 38) (pc' := 46) d2_38 (by rw [if0]; exact ((if0 _ _).symm.trans (XT.ll_ge_t (fun e => q ((own_Llt (b := 10) (by omega) (by decide)).mp e))))) (by decide) (by decide) ?_
    refine own_ldcS K (own_EL hw) V (pc := 46) (n := 8) (i := 57) (by simp [consts_1]) (hw _ (List.mem_of_getElem? (i := 201) rfl)) (own_wS hw) (vs := [.int 46]) (z := 1) (by decide) (by decide) (by decide) d2_46 (by decide) (by decide) (by decide) (by decide) ?_
    intro vm1 h4 a' b' k' K V1 C1 E4 X4 Y4 F4 A4 _
    have J4 := own_J_ldc J3 V1 C1 E4
    have S4 : own_S Z h4 a' b' k' (Int32.ofNat ([46] : List Int32).length) (([46] : List Int32).map Value.int) := ⟨X4, Y4, F4, A4⟩
    rw [← own_txtB hf q]
    exact ml_48 p l e s m _ below meth c Z a0 hw Nn Hh f vm1 h h4 _ _ _ n0 sb ar3 k3 _ z g N3 st d1 d2 D1 D2 t1 t2 o1 o2 a' b' k' [46] S4 hf13 (by decide) (by decide) (by rw [own_digs_len, own_digs_len]; have := own_dg2 (n := f) (by omega) (by omega); show _ + 1 + _ ≤ _; omega) K J4
def own_QL (n0 : Nat) (u : Option Value) (h : Heap) (L : List Loc) : Prop := u = some (.int 1) ∧ Fr n0 L
theorem own_txt_len (M f : Nat) : (own_txt M f).length = Jvm.Free.SBG.digitsL M + 5 := by rw [own_txt, List.length_append, own_digs_len]; rfl
theorem own_txt_hi {M f j : Nat} {x : Int32} (hx : ([46, Int32.ofNat (48 + f / 10), Int32.ofNat (48 + f % 10), 109, 115] : List Int32)[j]? = some x) : ((own_txt M f).map Value.int).getD (Jvm.Free.SBG.digitsL M + j) (.int 0) = .int x := by
  rw [List.getD_eq_getElem?_getD, own_txt, List.map_append, List.getElem?_append_right (by simp [own_digs_len]), List.length_map, own_digs_len, Nat.add_sub_cancel_left, List.getElem?_map, hx]; rfl
theorem own_txt_lo {M f j : Nat} (hj : j < Jvm.Free.SBG.digitsL M) : ((own_txt M f).map Value.int).getD j (.int 0) = .int (Int32.ofNat (48 + M / 10 ^ (Jvm.Free.SBG.digitsL M - 1 - j) % 10)) := by
  rw [List.getD_eq_getElem?_getD, own_txt, List.map_append, List.getElem?_append_left (by simpa [own_digs_len] using hj)]
  simp [own_digs, hj]
set_option maxRecDepth 65536 in
set_option maxHeartbeats 4000000 in
theorem lw_71 (p : Program) (l : Launch) (e : Env) (s : State) (m : MethodId) (args : Array Value) (below : List Frame) (meth : Method) (c : Code) (Z : State) (a0 : Array Value) (hw : ∀ d ∈ tables_1, d.before a0 Z = true) (z : Int32) (g : Value) (T0 : own_T Z Z.heap z g) (st d1 d2 : Addr) (D1 D2 : Cell) (t1 : Jvm.Free.SBG.Tbl Z "DigitOnes" st d1 D1) (t2 : Jvm.Free.SBG.Tbl Z "DigitTens" st d2 D2) (o1 : Jvm.Free.SBG.Ones D1) (o2 : Jvm.Free.SBG.Tens D2) (v0 : Int64) (v1 : Int32) (vm : Vm) (Nn Hh : Nat) (hN : Nn + 5000 < 2 ^ 63) (eH : Hh = (Nn + 5000) / 10000) (K : own_C p (s.setVm vm) m meth c Z code "com/example/brokkr/brokkr/LogTextMillisPinLaw" (some .boolean) 12) (V : own_V s Z consts_1 vm Z.heap) :
    own_E p l e room_1 (s.setVm vm) m args below meth c Z.heap [] 0 0 71 #[.val (.long v0), .second, .val (.int v1), .val (.long (Int64.ofNat Nn)), .second, .unset, .unset, .unset, .unset, .unset, .unset, .unset] [(.long (Int64.ofNat Hh))] (own_O s below Z consts_1 room_1 (own_QL Z.heap.size)) := by
  obtain ⟨f, ef⟩ : ∃ x, x = Hh % 100 := ⟨_, rfl⟩
  obtain ⟨M, eM⟩ : ∃ x, x = Hh / 100 := ⟨_, rfl⟩
  have e63 : (2 : Nat) ^ 63 = 9223372036854775808 := by decide
  have hN' := hN
  rw [e63] at hN'
  have hM' : M < 10000000000000 := by omega
  have hM : M < 10 ^ 13 := hM'
  have hf : f < 100 := by omega
  have hd13 := own_dl13 hM
  have h9 : Hh < 2 ^ 63 := by omega
  obtain ⟨dd, ed⟩ : ∃ x, x = Jvm.Free.SBG.digitsL M := ⟨_, rfl⟩
  rw [← ed] at hd13
  refine own_lstore K (pc := 71) (Ls' := #[.val (.long v0), .second, .val (.int v1), .val (.long (Int64.ofNat Nn)), .second, .val (.long (Int64.ofNat Hh)), .second, .unset, .unset, .unset, .unset, .unset]) at_71 rfl ?_
  refine own_lload K (pc := 73) at_73 rfl ?_
  refine own_ldc2 K (pc := 75) (x := (100 : Int64)) (hw _ (List.mem_of_getElem? (i := 4) rfl)) at_75 ?_
  refine own_ldiv K (pc := 78) at_78 (by decide) ?_
  rw [show Int64.ofNat Hh / (100 : Int64) = Int64.ofNat M from by rw [eM]; exact own_Ldv (b := 100) h9 (by decide) (by decide)]
  refine own_lstore K (pc := 79) (Ls' := #[.val (.long v0), .second, .val (.int v1), .val (.long (Int64.ofNat Nn)), .second, .val (.long (Int64.ofNat Hh)), .second, .val (.long (Int64.ofNat M)), .second, .unset, .unset, .unset]) at_79 rfl ?_
  refine own_lload K (pc := 81) at_81 rfl ?_
  refine own_ldc2 K (pc := 83) (x := (100 : Int64)) (hw _ (List.mem_of_getElem? (i := 4) rfl)) at_83 ?_
  refine own_lrem K (pc := 86) at_86 (by decide) ?_
  rw [show Int64.ofNat Hh - Int64.ofNat Hh / (100 : Int64) * 100 = Int64.ofNat f from by rw [ef]; exact own_Lrm (b := 100) h9 (by decide) (by decide)]
  refine own_l2i K (pc := 87) at_87 ?_
  rw [own_L2i (show f < 2 ^ 31 by omega)]
  refine own_istore K (pc := 88) (Ls' := #[.val (.long v0), .second, .val (.int v1), .val (.long (Int64.ofNat Nn)), .second, .val (.long (Int64.ofNat Hh)), .second, .val (.long (Int64.ofNat M)), .second, .val (.int (Int32.ofNat f)), .unset, .unset]) at_88 rfl ?_
  refine own_lload K (pc := 90) at_90 rfl ?_
  refine own_callS K (pc := 92) (W := 0) (rest := []) (argsL := [(.long (Int64.ofNat M))]) (u := (.int (Int32.ofNat (Jvm.Free.SBG.digitsL M)))) rfl rfl (dg l Z a0 Z.heap hw M hM) (hw _ (List.mem_of_getElem? (i := 5) rfl)) (hw _ (List.mem_of_getElem? (i := 6) rfl)) (hw _ (List.mem_of_getElem? (i := 7) rfl)) (hw _ (List.mem_of_getElem? (i := 8) rfl)) (by decide) at_92 pd_1 rfl rfl rfl (Nat.le_of_eq rfl) (by decide) (by decide) (by decide) (by decide) ?_
  rw [← ed]
  refine own_istore K (pc := 95) (Ls' := #[.val (.long v0), .second, .val (.int v1), .val (.long (Int64.ofNat Nn)), .second, .val (.long (Int64.ofNat Hh)), .second, .val (.long (Int64.ofNat M)), .second, .val (.int (Int32.ofNat f)), .val (.int (Int32.ofNat dd)), .unset]) at_95 rfl ?_
  refine own_lloadN K (pc := 97) at_97 rfl ?_
  refine own_callSH K (own_EL hw) V (pc := 98) (W := 0) (rest := []) (argsL := [.long (Int64.ofNat Nn)]) (mil l Z a0 Z.heap hw z g T0 Z.heap.size (Old.start Z) Nn hN st d1 d2 D1 D2 t1 t2 o1 o2) (hw _ (List.mem_of_getElem? (i := 10) rfl)) (hw _ (List.mem_of_getElem? (i := 11) rfl)) (hw _ (List.mem_of_getElem? (i := 12) rfl)) (hw _ (List.mem_of_getElem? (i := 13) rfl)) (by decide) at_98 pd_2 rfl rfl rfl (Nat.le_of_eq rfl) (by decide) (by decide) (by decide) (by decide) ?_
  intro vm2 h2 u2 L2 hQ2 K V2 _
  rw [← eH, ← ef, ← eM] at hQ2
  obtain ⟨x, b', kb, rfl, N2, K2, S⟩ := hQ2
  have T := own_T_keep K2 (fun y hy => nomatch hy) T0
  have el : (own_txt M f).length = dd + 5 := by rw [ed]; exact own_txt_len M f
  have hi : ∀ {j : Nat} {y : Int32}, ([46, Int32.ofNat (48 + f / 10), Int32.ofNat (48 + f % 10), 109, 115] : List Int32)[j]? = some y → j < 5 → y.toInt8.toInt32 = y → ((own_txt M f).map Value.int).getD (Int32.ofNat (dd + j)).toNatClampNeg (.int 0) = .int y.toInt8.toInt32 := fun {j y} q1 q3 q2 => by rw [own_nat (show dd + j ≤ 4000 by omega), q2, ed]; exact own_txt_hi q1
  have lo : ∀ j, j < dd → ((own_txt M f).map Value.int).getD j (.int 0) = .int (Int32.ofNat (48 + M / 10 ^ (dd - 1 - j) % 10)) := fun j hj => by rw [ed] at hj ⊢; exact own_txt_lo hj
  have le : Int32.ofNat (own_txt M f).length = Int32.ofNat (dd + 5) := by rw [el]
  have nz : ∀ j, j ≤ 4 → ¬ Int32.ofNat (dd + j) < 0 := fun j hj => own_nn (by omega)
  have lt : ∀ j, j ≤ 4 → Int32.ofNat (dd + j) < Int32.ofNat (own_txt M f).length := fun j hj => by rw [el]; exact (own_nlt (by omega) (by omega)).mpr (by omega)
  obtain ⟨ca, ea⟩ : ∃ x, x = Int32.ofNat (48 + f / 10) := ⟨_, rfl⟩
  obtain ⟨cb, eb⟩ : ∃ x, x = Int32.ofNat (48 + f % 10) := ⟨_, rfl⟩
  have ca1 : ¬ ca < 0 := by rw [ea]; exact own_nn (by omega)
  have ca2 : ¬ 255 < ca := by rw [ea]; intro e; exact absurd ((own_nlt (i := 255) (by omega) (by omega)).mp e) (by omega)
  have ca8 : ca.toInt8.toInt32 = ca := by rw [ea]; exact Jvm.Free.SBG.dgNarrow _ (by omega)
  have cb1 : ¬ cb < 0 := by rw [eb]; exact own_nn (by omega)
  have cb2 : ¬ 255 < cb := by rw [eb]; intro e; exact absurd ((own_nlt (i := 255) (by omega) (by omega)).mp e) (by omega)
  have cb8 : cb.toInt8.toInt32 = cb := by rw [eb]; exact Jvm.Free.SBG.dgNarrow _ (by omega)
  refine own_astore K (pc := 101) (Ls' := #[.val (.long v0), .second, .val (.int v1), .val (.long (Int64.ofNat Nn)), .second, .val (.long (Int64.ofNat Hh)), .second, .val (.long (Int64.ofNat M)), .second, .val (.int (Int32.ofNat f)), .val (.int (Int32.ofNat dd)), .val (.ref x)]) at_101 rfl rfl ?_
  refine own_aload K (pc := 103) at_103 rfl rfl ?_
  refine own_callV K (pc := 105) (W := 0) (rest := []) (argsL := []) (u := (.int (Int32.ofNat (own_txt M f).length))) rfl rfl (len l Z a0 h2 hw x b' kb _ _ z g S T) S.1 (hw _ (List.mem_of_getElem? (i := 165) rfl)) (hw _ (List.mem_of_getElem? (i := 89) rfl)) (hw _ (List.mem_of_getElem? (i := 91) rfl)) (hw _ (List.mem_of_getElem? (i := 90) rfl)) (hw _ (List.mem_of_getElem? (i := 92) rfl)) (hw _ (List.mem_of_getElem? (i := 33) rfl)) (by decide) at_105 pd_14 rfl rfl rfl (Nat.le_of_eq rfl) (by decide) (by decide) (by decide) (by decide) ?_
  refine own_iload K (pc := 108) at_108 rfl ?_
  refine own_iconst K (pc := 110) at_110 (x := (5 : Int32)) (by decide) ?_
  refine own_iadd K (pc := 111) at_111 ?_
  rw [show Int32.ofNat dd + (5 : Int32) = Int32.ofNat (dd + 5) from own_add _ _]
  refine own_icmpY K (pc := 112) (pc' := 117) at_112 (teq le).1 (by decide) (by decide) ?_
  refine own_aload K (pc := 117) at_117 rfl rfl ?_
  refine own_iload K (pc := 119) at_119 rfl ?_
  refine own_callV K (pc := 121) (W := 0) (rest := []) (argsL := [(.int (Int32.ofNat dd))]) (u := (.int (46 : Int32))) rfl rfl (cha l Z a0 h2 hw x b' kb _ _ z g S T (Int32.ofNat dd) 46 (nz 0 (by decide)) (lt 0 (by decide)) (hi (j := 0) (y := 46) rfl (by decide) (by decide)) (by decide) (by decide)) S.1 (hw _ (List.mem_of_getElem? (i := 166) rfl)) (hw _ (List.mem_of_getElem? (i := 167) rfl)) (hw _ (List.mem_of_getElem? (i := 169) rfl)) (hw _ (List.mem_of_getElem? (i := 168) rfl)) (hw _ (List.mem_of_getElem? (i := 170) rfl)) (hw _ (List.mem_of_getElem? (i := 33) rfl)) (by decide) at_121 pd_29 rfl rfl rfl (Nat.le_of_eq rfl) (by decide) (by decide) (by decide) (by decide) ?_
  refine own_bipush K (pc := 124) at_124 (x := (46 : Int32)) (by decide) ?_
  refine own_icmpY K (pc := 126) (pc' := 131) at_126 (by decide) (by decide) (by decide) ?_
  refine own_aload K (pc := 131) at_131 rfl rfl ?_
  refine own_iload K (pc := 133) at_133 rfl ?_
  refine own_iconst K (pc := 135) at_135 (x := (1 : Int32)) (by decide) ?_
  refine own_iadd K (pc := 136) at_136 ?_
  rw [show Int32.ofNat dd + (1 : Int32) = Int32.ofNat (dd + 1) from own_add _ _]
  refine own_callV K (pc := 137) (W := 0) (rest := []) (argsL := [(.int (Int32.ofNat (dd + 1)))]) (u := (.int ca)) rfl rfl (cha l Z a0 h2 hw x b' kb _ _ z g S T (Int32.ofNat (dd + 1)) ca (nz 1 (by decide)) (lt 1 (by decide)) (hi (j := 1) (y := ca) (by rw [ea]; rfl) (by decide) ca8) ca1 ca2) S.1 (hw _ (List.mem_of_getElem? (i := 166) rfl)) (hw _ (List.mem_of_getElem? (i := 167) rfl)) (hw _ (List.mem_of_getElem? (i := 169) rfl)) (hw _ (List.mem_of_getElem? (i := 168) rfl)) (hw _ (List.mem_of_getElem? (i := 170) rfl)) (hw _ (List.mem_of_getElem? (i := 33) rfl)) (by decide) at_137 pd_29 rfl rfl rfl (Nat.le_of_eq rfl) (by decide) (by decide) (by decide) (by decide) ?_
  refine own_bipush K (pc := 140) at_140 (x := (48 : Int32)) (by decide) ?_
  refine own_iload K (pc := 142) at_142 rfl ?_
  refine own_bipush K (pc := 144) at_144 (x := (10 : Int32)) (by decide) ?_
  refine own_idiv K (pc := 146) at_146 (by decide) ?_
  rw [own_I10 hf]
  refine own_iadd K (pc := 147) at_147 ?_
  rw [show (48 : Int32) + Int32.ofNat (f / 10) = ca from (own_add 48 _).trans ea.symm]
  refine own_i2c K (pc := 148) at_148 ?_
  rw [own_c16 ca1 ca2]
  refine own_icmpY K (pc := 149) (pc' := 154) at_149 (teq rfl).1 (by decide) (by decide) ?_
  refine own_aload K (pc := 154) at_154 rfl rfl ?_
  refine own_iload K (pc := 156) at_156 rfl ?_
  refine own_iconst K (pc := 158) at_158 (x := (2 : Int32)) (by decide) ?_
  refine own_iadd K (pc := 159) at_159 ?_
  rw [show Int32.ofNat dd + (2 : Int32) = Int32.ofNat (dd + 2) from own_add _ _]
  refine own_callV K (pc := 160) (W := 0) (rest := []) (argsL := [(.int (Int32.ofNat (dd + 2)))]) (u := (.int cb)) rfl rfl (cha l Z a0 h2 hw x b' kb _ _ z g S T (Int32.ofNat (dd + 2)) cb (nz 2 (by decide)) (lt 2 (by decide)) (hi (j := 2) (y := cb) (by rw [eb]; rfl) (by decide) cb8) cb1 cb2) S.1 (hw _ (List.mem_of_getElem? (i := 166) rfl)) (hw _ (List.mem_of_getElem? (i := 167) rfl)) (hw _ (List.mem_of_getElem? (i := 169) rfl)) (hw _ (List.mem_of_getElem? (i := 168) rfl)) (hw _ (List.mem_of_getElem? (i := 170) rfl)) (hw _ (List.mem_of_getElem? (i := 33) rfl)) (by decide) at_160 pd_29 rfl rfl rfl (Nat.le_of_eq rfl) (by decide) (by decide) (by decide) (by decide) ?_
  refine own_bipush K (pc := 163) at_163 (x := (48 : Int32)) (by decide) ?_
  refine own_iload K (pc := 165) at_165 rfl ?_
  refine own_bipush K (pc := 167) at_167 (x := (10 : Int32)) (by decide) ?_
  refine own_irem K (pc := 169) at_169 (by decide) ?_
  rw [own_R10 hf]
  refine own_iadd K (pc := 170) at_170 ?_
  rw [show (48 : Int32) + Int32.ofNat (f % 10) = cb from (own_add 48 _).trans eb.symm]
  refine own_i2c K (pc := 171) at_171 ?_
  rw [own_c16 cb1 cb2]
  refine own_icmpY K (pc := 172) (pc' := 177) at_172 (teq rfl).1 (by decide) (by decide) ?_
  refine own_aload K (pc := 177) at_177 rfl rfl ?_
  refine own_iload K (pc := 179) at_179 rfl ?_
  refine own_iconst K (pc := 181) at_181 (x := (3 : Int32)) (by decide) ?_
  refine own_iadd K (pc := 182) at_182 ?_
  rw [show Int32.ofNat dd + (3 : Int32) = Int32.ofNat (dd + 3) from own_add _ _]
  refine own_callV K (pc := 183) (W := 0) (rest := []) (argsL := [(.int (Int32.ofNat (dd + 3)))]) (u := (.int (109 : Int32))) rfl rfl (cha l Z a0 h2 hw x b' kb _ _ z g S T (Int32.ofNat (dd + 3)) 109 (nz 3 (by decide)) (lt 3 (by decide)) (hi (j := 3) (y := 109) rfl (by decide) (by decide)) (by decide) (by decide)) S.1 (hw _ (List.mem_of_getElem? (i := 166) rfl)) (hw _ (List.mem_of_getElem? (i := 167) rfl)) (hw _ (List.mem_of_getElem? (i := 169) rfl)) (hw _ (List.mem_of_getElem? (i := 168) rfl)) (hw _ (List.mem_of_getElem? (i := 170) rfl)) (hw _ (List.mem_of_getElem? (i := 33) rfl)) (by decide) at_183 pd_29 rfl rfl rfl (Nat.le_of_eq rfl) (by decide) (by decide) (by decide) (by decide) ?_
  refine own_bipush K (pc := 186) at_186 (x := (109 : Int32)) (by decide) ?_
  refine own_icmpY K (pc := 188) (pc' := 193) at_188 (by decide) (by decide) (by decide) ?_
  refine own_aload K (pc := 193) at_193 rfl rfl ?_
  refine own_iload K (pc := 195) at_195 rfl ?_
  refine own_iconst K (pc := 197) at_197 (x := (4 : Int32)) (by decide) ?_
  refine own_iadd K (pc := 198) at_198 ?_
  rw [show Int32.ofNat dd + (4 : Int32) = Int32.ofNat (dd + 4) from own_add _ _]
  refine own_callV K (pc := 199) (W := 0) (rest := []) (argsL := [(.int (Int32.ofNat (dd + 4)))]) (u := (.int (115 : Int32))) rfl rfl (cha l Z a0 h2 hw x b' kb _ _ z g S T (Int32.ofNat (dd + 4)) 115 (nz 4 (by decide)) (lt 4 (by decide)) (hi (j := 4) (y := 115) rfl (by decide) (by decide)) (by decide) (by decide)) S.1 (hw _ (List.mem_of_getElem? (i := 166) rfl)) (hw _ (List.mem_of_getElem? (i := 167) rfl)) (hw _ (List.mem_of_getElem? (i := 169) rfl)) (hw _ (List.mem_of_getElem? (i := 168) rfl)) (hw _ (List.mem_of_getElem? (i := 170) rfl)) (hw _ (List.mem_of_getElem? (i := 33) rfl)) (by decide) at_199 pd_29 rfl rfl rfl (Nat.le_of_eq rfl) (by decide) (by decide) (by decide) (by decide) ?_
  refine own_bipush K (pc := 202) at_202 (x := (115 : Int32)) (by decide) ?_
  refine own_icmpY K (pc := 204) (pc' := 209) at_204 (by decide) (by decide) (by decide) ?_
  refine own_aload K (pc := 209) at_209 rfl rfl ?_
  refine own_iload K (pc := 211) at_211 rfl ?_
  refine own_lload K (pc := 213) at_213 rfl ?_
  refine own_lconst K (pc := 215) at_215 (x := (1 : Int64)) (by decide) ?_
  refine own_iconst K (pc := 216) at_216 (x := (0 : Int32)) (by decide) ?_
  refine own_callS K (pc := 217) (W := 0) (rest := []) (argsL := [(.ref x), (.int (Int32.ofNat dd)), (.long (Int64.ofNat M)), (.long (1 : Int64)), (.int (0 : Int32))]) (u := (.int (1 : Int32))) rfl rfl (dok l Z a0 h2 hw x b' kb _ z g S T dd M 0 (1 : Int64) (0 : Int32) hM (by decide) rfl rfl (by omega) (by omega) lo) (hw _ (List.mem_of_getElem? (i := 188) rfl)) (hw _ (List.mem_of_getElem? (i := 189) rfl)) (hw _ (List.mem_of_getElem? (i := 7) rfl)) (hw _ (List.mem_of_getElem? (i := 190) rfl)) (by decide) at_217 pd_34 rfl rfl rfl (Nat.le_of_eq rfl) (by decide) (by decide) (by decide) (by decide) ?_
  refine own_ifN K (pc := 220) at_220 (by decide) ?_
  refine own_aload K (pc := 223) at_223 rfl rfl ?_
  refine own_iload K (pc := 225) at_225 rfl ?_
  refine own_lload K (pc := 227) at_227 rfl ?_
  refine own_ldc2 K (pc := 229) (x := (10 : Int64)) (hw _ (List.mem_of_getElem? (i := 9) rfl)) at_229 ?_
  refine own_iconst K (pc := 232) at_232 (x := (1 : Int32)) (by decide) ?_
  refine own_callS K (pc := 233) (W := 0) (rest := []) (argsL := [(.ref x), (.int (Int32.ofNat dd)), (.long (Int64.ofNat M)), (.long (10 : Int64)), (.int (1 : Int32))]) (u := (.int (1 : Int32))) rfl rfl (dok l Z a0 h2 hw x b' kb _ z g S T dd M 1 (10 : Int64) (1 : Int32) hM (by decide) rfl rfl (by omega) (by omega) lo) (hw _ (List.mem_of_getElem? (i := 188) rfl)) (hw _ (List.mem_of_getElem? (i := 189) rfl)) (hw _ (List.mem_of_getElem? (i := 7) rfl)) (hw _ (List.mem_of_getElem? (i := 190) rfl)) (by decide) at_233 pd_34 rfl rfl rfl (Nat.le_of_eq rfl) (by decide) (by decide) (by decide) (by decide) ?_
  refine own_ifN K (pc := 236) at_236 (by decide) ?_
  refine own_aload K (pc := 239) at_239 rfl rfl ?_
  refine own_iload K (pc := 241) at_241 rfl ?_
  refine own_lload K (pc := 243) at_243 rfl ?_
  refine own_ldc2 K (pc := 245) (x := (100 : Int64)) (hw _ (List.mem_of_getElem? (i := 4) rfl)) at_245 ?_
  refine own_iconst K (pc := 248) at_248 (x := (2 : Int32)) (by decide) ?_
  refine own_callS K (pc := 249) (W := 0) (rest := []) (argsL := [(.ref x), (.int (Int32.ofNat dd)), (.long (Int64.ofNat M)), (.long (100 : Int64)), (.int (2 : Int32))]) (u := (.int (1 : Int32))) rfl rfl (dok l Z a0 h2 hw x b' kb _ z g S T dd M 2 (100 : Int64) (2 : Int32) hM (by decide) rfl rfl (by omega) (by omega) lo) (hw _ (List.mem_of_getElem? (i := 188) rfl)) (hw _ (List.mem_of_getElem? (i := 189) rfl)) (hw _ (List.mem_of_getElem? (i := 7) rfl)) (hw _ (List.mem_of_getElem? (i := 190) rfl)) (by decide) at_249 pd_34 rfl rfl rfl (Nat.le_of_eq rfl) (by decide) (by decide) (by decide) (by decide) ?_
  refine own_ifN K (pc := 252) at_252 (by decide) ?_
  refine own_aload K (pc := 255) at_255 rfl rfl ?_
  refine own_iload K (pc := 257) at_257 rfl ?_
  refine own_lload K (pc := 259) at_259 rfl ?_
  refine own_ldc2 K (pc := 261) (x := (1000 : Int64)) (hw _ (List.mem_of_getElem? (i := 191) rfl)) at_261 ?_
  refine own_iconst K (pc := 264) at_264 (x := (3 : Int32)) (by decide) ?_
  refine own_callS K (pc := 265) (W := 0) (rest := []) (argsL := [(.ref x), (.int (Int32.ofNat dd)), (.long (Int64.ofNat M)), (.long (1000 : Int64)), (.int (3 : Int32))]) (u := (.int (1 : Int32))) rfl rfl (dok l Z a0 h2 hw x b' kb _ z g S T dd M 3 (1000 : Int64) (3 : Int32) hM (by decide) rfl rfl (by omega) (by omega) lo) (hw _ (List.mem_of_getElem? (i := 188) rfl)) (hw _ (List.mem_of_getElem? (i := 189) rfl)) (hw _ (List.mem_of_getElem? (i := 7) rfl)) (hw _ (List.mem_of_getElem? (i := 190) rfl)) (by decide) at_265 pd_34 rfl rfl rfl (Nat.le_of_eq rfl) (by decide) (by decide) (by decide) (by decide) ?_
  refine own_ifN K (pc := 268) at_268 (by decide) ?_
  refine own_aload K (pc := 271) at_271 rfl rfl ?_
  refine own_iload K (pc := 273) at_273 rfl ?_
  refine own_lload K (pc := 275) at_275 rfl ?_
  refine own_ldc2 K (pc := 277) (x := (10000 : Int64)) (hw _ (List.mem_of_getElem? (i := 2) rfl)) at_277 ?_
  refine own_iconst K (pc := 280) at_280 (x := (4 : Int32)) (by decide) ?_
  refine own_callS K (pc := 281) (W := 0) (rest := []) (argsL := [(.ref x), (.int (Int32.ofNat dd)), (.long (Int64.ofNat M)), (.long (10000 : Int64)), (.int (4 : Int32))]) (u := (.int (1 : Int32))) rfl rfl (dok l Z a0 h2 hw x b' kb _ z g S T dd M 4 (10000 : Int64) (4 : Int32) hM (by decide) rfl rfl (by omega) (by omega) lo) (hw _ (List.mem_of_getElem? (i := 188) rfl)) (hw _ (List.mem_of_getElem? (i := 189) rfl)) (hw _ (List.mem_of_getElem? (i := 7) rfl)) (hw _ (List.mem_of_getElem? (i := 190) rfl)) (by decide) at_281 pd_34 rfl rfl rfl (Nat.le_of_eq rfl) (by decide) (by decide) (by decide) (by decide) ?_
  refine own_ifN K (pc := 284) at_284 (by decide) ?_
  refine own_aload K (pc := 287) at_287 rfl rfl ?_
  refine own_iload K (pc := 289) at_289 rfl ?_
  refine own_lload K (pc := 291) at_291 rfl ?_
  refine own_ldc2 K (pc := 293) (x := (100000 : Int64)) (hw _ (List.mem_of_getElem? (i := 192) rfl)) at_293 ?_
  refine own_iconst K (pc := 296) at_296 (x := (5 : Int32)) (by decide) ?_
  refine own_callS K (pc := 297) (W := 0) (rest := []) (argsL := [(.ref x), (.int (Int32.ofNat dd)), (.long (Int64.ofNat M)), (.long (100000 : Int64)), (.int (5 : Int32))]) (u := (.int (1 : Int32))) rfl rfl (dok l Z a0 h2 hw x b' kb _ z g S T dd M 5 (100000 : Int64) (5 : Int32) hM (by decide) rfl rfl (by omega) (by omega) lo) (hw _ (List.mem_of_getElem? (i := 188) rfl)) (hw _ (List.mem_of_getElem? (i := 189) rfl)) (hw _ (List.mem_of_getElem? (i := 7) rfl)) (hw _ (List.mem_of_getElem? (i := 190) rfl)) (by decide) at_297 pd_34 rfl rfl rfl (Nat.le_of_eq rfl) (by decide) (by decide) (by decide) (by decide) ?_
  refine own_ifN K (pc := 300) at_300 (by decide) ?_
  refine own_aload K (pc := 303) at_303 rfl rfl ?_
  refine own_iload K (pc := 305) at_305 rfl ?_
  refine own_lload K (pc := 307) at_307 rfl ?_
  refine own_ldc2 K (pc := 309) (x := (1000000 : Int64)) (hw _ (List.mem_of_getElem? (i := 193) rfl)) at_309 ?_
  refine own_bipush K (pc := 312) at_312 (x := (6 : Int32)) (by decide) ?_
  refine own_callS K (pc := 314) (W := 0) (rest := []) (argsL := [(.ref x), (.int (Int32.ofNat dd)), (.long (Int64.ofNat M)), (.long (1000000 : Int64)), (.int (6 : Int32))]) (u := (.int (1 : Int32))) rfl rfl (dok l Z a0 h2 hw x b' kb _ z g S T dd M 6 (1000000 : Int64) (6 : Int32) hM (by decide) rfl rfl (by omega) (by omega) lo) (hw _ (List.mem_of_getElem? (i := 188) rfl)) (hw _ (List.mem_of_getElem? (i := 189) rfl)) (hw _ (List.mem_of_getElem? (i := 7) rfl)) (hw _ (List.mem_of_getElem? (i := 190) rfl)) (by decide) at_314 pd_34 rfl rfl rfl (Nat.le_of_eq rfl) (by decide) (by decide) (by decide) (by decide) ?_
  refine own_ifN K (pc := 317) at_317 (by decide) ?_
  refine own_aload K (pc := 320) at_320 rfl rfl ?_
  refine own_iload K (pc := 322) at_322 rfl ?_
  refine own_lload K (pc := 324) at_324 rfl ?_
  refine own_ldc2 K (pc := 326) (x := (10000000 : Int64)) (hw _ (List.mem_of_getElem? (i := 194) rfl)) at_326 ?_
  refine own_bipush K (pc := 329) at_329 (x := (7 : Int32)) (by decide) ?_
  refine own_callS K (pc := 331) (W := 0) (rest := []) (argsL := [(.ref x), (.int (Int32.ofNat dd)), (.long (Int64.ofNat M)), (.long (10000000 : Int64)), (.int (7 : Int32))]) (u := (.int (1 : Int32))) rfl rfl (dok l Z a0 h2 hw x b' kb _ z g S T dd M 7 (10000000 : Int64) (7 : Int32) hM (by decide) rfl rfl (by omega) (by omega) lo) (hw _ (List.mem_of_getElem? (i := 188) rfl)) (hw _ (List.mem_of_getElem? (i := 189) rfl)) (hw _ (List.mem_of_getElem? (i := 7) rfl)) (hw _ (List.mem_of_getElem? (i := 190) rfl)) (by decide) at_331 pd_34 rfl rfl rfl (Nat.le_of_eq rfl) (by decide) (by decide) (by decide) (by decide) ?_
  refine own_ifN K (pc := 334) at_334 (by decide) ?_
  refine own_aload K (pc := 337) at_337 rfl rfl ?_
  refine own_iload K (pc := 339) at_339 rfl ?_
  refine own_lload K (pc := 341) at_341 rfl ?_
  refine own_ldc2 K (pc := 343) (x := (100000000 : Int64)) (hw _ (List.mem_of_getElem? (i := 195) rfl)) at_343 ?_
  refine own_bipush K (pc := 346) at_346 (x := (8 : Int32)) (by decide) ?_
  refine own_callS K (pc := 348) (W := 0) (rest := []) (argsL := [(.ref x), (.int (Int32.ofNat dd)), (.long (Int64.ofNat M)), (.long (100000000 : Int64)), (.int (8 : Int32))]) (u := (.int (1 : Int32))) rfl rfl (dok l Z a0 h2 hw x b' kb _ z g S T dd M 8 (100000000 : Int64) (8 : Int32) hM (by decide) rfl rfl (by omega) (by omega) lo) (hw _ (List.mem_of_getElem? (i := 188) rfl)) (hw _ (List.mem_of_getElem? (i := 189) rfl)) (hw _ (List.mem_of_getElem? (i := 7) rfl)) (hw _ (List.mem_of_getElem? (i := 190) rfl)) (by decide) at_348 pd_34 rfl rfl rfl (Nat.le_of_eq rfl) (by decide) (by decide) (by decide) (by decide) ?_
  refine own_ifN K (pc := 351) at_351 (by decide) ?_
  refine own_aload K (pc := 354) at_354 rfl rfl ?_
  refine own_iload K (pc := 356) at_356 rfl ?_
  refine own_lload K (pc := 358) at_358 rfl ?_
  refine own_ldc2 K (pc := 360) (x := (1000000000 : Int64)) (hw _ (List.mem_of_getElem? (i := 196) rfl)) at_360 ?_
  refine own_bipush K (pc := 363) at_363 (x := (9 : Int32)) (by decide) ?_
  refine own_callS K (pc := 365) (W := 0) (rest := []) (argsL := [(.ref x), (.int (Int32.ofNat dd)), (.long (Int64.ofNat M)), (.long (1000000000 : Int64)), (.int (9 : Int32))]) (u := (.int (1 : Int32))) rfl rfl (dok l Z a0 h2 hw x b' kb _ z g S T dd M 9 (1000000000 : Int64) (9 : Int32) hM (by decide) rfl rfl (by omega) (by omega) lo) (hw _ (List.mem_of_getElem? (i := 188) rfl)) (hw _ (List.mem_of_getElem? (i := 189) rfl)) (hw _ (List.mem_of_getElem? (i := 7) rfl)) (hw _ (List.mem_of_getElem? (i := 190) rfl)) (by decide) at_365 pd_34 rfl rfl rfl (Nat.le_of_eq rfl) (by decide) (by decide) (by decide) (by decide) ?_
  refine own_ifN K (pc := 368) at_368 (by decide) ?_
  refine own_aload K (pc := 371) at_371 rfl rfl ?_
  refine own_iload K (pc := 373) at_373 rfl ?_
  refine own_lload K (pc := 375) at_375 rfl ?_
  refine own_ldc2 K (pc := 377) (x := (10000000000 : Int64)) (hw _ (List.mem_of_getElem? (i := 197) rfl)) at_377 ?_
  refine own_bipush K (pc := 380) at_380 (x := (10 : Int32)) (by decide) ?_
  refine own_callS K (pc := 382) (W := 0) (rest := []) (argsL := [(.ref x), (.int (Int32.ofNat dd)), (.long (Int64.ofNat M)), (.long (10000000000 : Int64)), (.int (10 : Int32))]) (u := (.int (1 : Int32))) rfl rfl (dok l Z a0 h2 hw x b' kb _ z g S T dd M 10 (10000000000 : Int64) (10 : Int32) hM (by decide) rfl rfl (by omega) (by omega) lo) (hw _ (List.mem_of_getElem? (i := 188) rfl)) (hw _ (List.mem_of_getElem? (i := 189) rfl)) (hw _ (List.mem_of_getElem? (i := 7) rfl)) (hw _ (List.mem_of_getElem? (i := 190) rfl)) (by decide) at_382 pd_34 rfl rfl rfl (Nat.le_of_eq rfl) (by decide) (by decide) (by decide) (by decide) ?_
  refine own_ifN K (pc := 385) at_385 (by decide) ?_
  refine own_aload K (pc := 388) at_388 rfl rfl ?_
  refine own_iload K (pc := 390) at_390 rfl ?_
  refine own_lload K (pc := 392) at_392 rfl ?_
  refine own_ldc2 K (pc := 394) (x := (100000000000 : Int64)) (hw _ (List.mem_of_getElem? (i := 198) rfl)) at_394 ?_
  refine own_bipush K (pc := 397) at_397 (x := (11 : Int32)) (by decide) ?_
  refine own_callS K (pc := 399) (W := 0) (rest := []) (argsL := [(.ref x), (.int (Int32.ofNat dd)), (.long (Int64.ofNat M)), (.long (100000000000 : Int64)), (.int (11 : Int32))]) (u := (.int (1 : Int32))) rfl rfl (dok l Z a0 h2 hw x b' kb _ z g S T dd M 11 (100000000000 : Int64) (11 : Int32) hM (by decide) rfl rfl (by omega) (by omega) lo) (hw _ (List.mem_of_getElem? (i := 188) rfl)) (hw _ (List.mem_of_getElem? (i := 189) rfl)) (hw _ (List.mem_of_getElem? (i := 7) rfl)) (hw _ (List.mem_of_getElem? (i := 190) rfl)) (by decide) at_399 pd_34 rfl rfl rfl (Nat.le_of_eq rfl) (by decide) (by decide) (by decide) (by decide) ?_
  refine own_ifN K (pc := 402) at_402 (by decide) ?_
  refine own_aload K (pc := 405) at_405 rfl rfl ?_
  refine own_iload K (pc := 407) at_407 rfl ?_
  refine own_lload K (pc := 409) at_409 rfl ?_
  refine own_ldc2 K (pc := 411) (x := (1000000000000 : Int64)) (hw _ (List.mem_of_getElem? (i := 199) rfl)) at_411 ?_
  refine own_bipush K (pc := 414) at_414 (x := (12 : Int32)) (by decide) ?_
  refine own_callS K (pc := 416) (W := 0) (rest := []) (argsL := [(.ref x), (.int (Int32.ofNat dd)), (.long (Int64.ofNat M)), (.long (1000000000000 : Int64)), (.int (12 : Int32))]) (u := (.int (1 : Int32))) rfl rfl (dok l Z a0 h2 hw x b' kb _ z g S T dd M 12 (1000000000000 : Int64) (12 : Int32) hM (by decide) rfl rfl (by omega) (by omega) lo) (hw _ (List.mem_of_getElem? (i := 188) rfl)) (hw _ (List.mem_of_getElem? (i := 189) rfl)) (hw _ (List.mem_of_getElem? (i := 7) rfl)) (hw _ (List.mem_of_getElem? (i := 190) rfl)) (by decide) at_416 pd_34 rfl rfl rfl (Nat.le_of_eq rfl) (by decide) (by decide) (by decide) (by decide) ?_
  refine own_ifN K (pc := 419) at_419 (by decide) ?_
  refine own_iconst K (pc := 422) at_422 (x := (1 : Int32)) (by decide) ?_
  refine own_goto K (pc := 423) (pc' := 427) at_423 (by decide) (by decide) ?_
  exact own_retZH K (own_EL hw) V2 (pc := 427) at_427 (z := 1) (by decide) (by decide) (by decide) ⟨rfl, (Fr.nil _).app N2⟩
set_option maxRecDepth 65536 in
set_option maxHeartbeats 4000000 in
theorem lw_48 (p : Program) (l : Launch) (e : Env) (s : State) (m : MethodId) (args : Array Value) (below : List Frame) (meth : Method) (c : Code) (Z : State) (a0 : Array Value) (hw : ∀ d ∈ tables_1, d.before a0 Z = true) (z : Int32) (g : Value) (T0 : own_T Z Z.heap z g) (st d1 d2 : Addr) (D1 D2 : Cell) (t1 : Jvm.Free.SBG.Tbl Z "DigitOnes" st d1 D1) (t2 : Jvm.Free.SBG.Tbl Z "DigitTens" st d2 D2) (o1 : Jvm.Free.SBG.Ones D1) (o2 : Jvm.Free.SBG.Tens D2) (v0 : Int64) (v1 : Int32) (vm : Vm) (Nn : Nat) (hN : Nn + 5000 < 2 ^ 63) (K : own_C p (s.setVm vm) m meth c Z code "com/example/brokkr/brokkr/LogTextMillisPinLaw" (some .boolean) 12) (V : own_V s Z consts_1 vm Z.heap) :
    own_E p l e room_1 (s.setVm vm) m args below meth c Z.heap [] 0 0 48 #[.val (.long v0), .second, .val (.int v1), .val (.long (Int64.ofNat Nn)), .second, .unset, .unset, .unset, .unset, .unset, .unset, .unset] [] (own_O s below Z consts_1 room_1 (own_QL Z.heap.size)) := by
  have h9 : Nn < 2 ^ 63 := by omega
  refine own_lloadN K (pc := 48) at_48 rfl ?_
  refine own_ldc2 K (pc := 49) (x := (10000 : Int64)) (hw _ (List.mem_of_getElem? (i := 2) rfl)) at_49 ?_
  refine own_ldiv K (pc := 52) at_52 (by decide) ?_
  rw [show Int64.ofNat Nn / (10000 : Int64) = Int64.ofNat (Nn / 10000) from own_Ldv (b := 10000) h9 (by decide) (by decide)]
  refine own_lloadN K (pc := 53) at_53 rfl ?_
  refine own_ldc2 K (pc := 54) (x := (10000 : Int64)) (hw _ (List.mem_of_getElem? (i := 2) rfl)) at_54 ?_
  refine own_lrem K (pc := 57) at_57 (by decide) ?_
  rw [show Int64.ofNat Nn - Int64.ofNat Nn / (10000 : Int64) * 10000 = Int64.ofNat (Nn % 10000) from own_Lrm (b := 10000) h9 (by decide) (by decide)]
  refine own_ldc2 K (pc := 58) (x := (5000 : Int64)) (hw _ (List.mem_of_getElem? (i := 3) rfl)) at_58 ?_
  refine own_lcmp K (pc := 61) at_61 ?_
  by_cases q : Nn % 10000 < 5000
  · refine own_ifY K (pc := 62) (pc' := 69) at_62 (by rw [if0]; exact ((if0 _ _).symm.trans (XT.ll_lt_t ((own_Llt (b := 5000) (by omega) (by decide)).mpr q)))) (by decide) (by decide) ?_
    refine own_lconst K (pc := 69) at_69 (x := (0 : Int64)) (by decide) ?_
    refine own_ladd K (pc := 70) at_70 ?_
    rw [show Int64.ofNat (Nn / 10000) + (0 : Int64) = Int64.ofNat ((Nn + 5000) / 10000) from (own_Lad _ 0).trans (congrArg Int64.ofNat (by omega))]
    exact lw_71 p l e s m args below meth c Z a0 hw z g T0 st d1 d2 D1 D2 t1 t2 o1 o2 v0 v1 vm Nn _ hN rfl K V
  · refine own_ifN K (pc := 62) at_62 (by rw [if0]; exact ((if0 _ _).symm.trans (XT.ll_lt_f (fun e => q ((own_Llt (b := 5000) (by omega) (by decide)).mp e))))) ?_
    refine own_lconst K (pc := 65) at_65 (x := (1 : Int64)) (by decide) ?_
    refine own_goto K (pc := 66) (pc' := 70) at_66 (by decide) (by decide) ?_
    refine own_ladd K (pc := 70) at_70 ?_
    rw [show Int64.ofNat (Nn / 10000) + (1 : Int64) = Int64.ofNat ((Nn + 5000) / 10000) from (own_Lad _ 1).trans (congrArg Int64.ofNat (by omega))]
    exact lw_71 p l e s m args below meth c Z a0 hw z g T0 st d1 d2 D1 D2 t1 t2 o1 o2 v0 v1 vm Nn _ hN rfl K V
set_option maxRecDepth 65536 in
set_option maxHeartbeats 4000000 in
theorem lw_34 (p : Program) (l : Launch) (e : Env) (s : State) (m : MethodId) (args : Array Value) (below : List Frame) (meth : Method) (c : Code) (Z : State) (a0 : Array Value) (hw : ∀ d ∈ tables_1, d.before a0 Z = true) (z : Int32) (g : Value) (T0 : own_T Z Z.heap z g) (st d1 d2 : Addr) (D1 D2 : Cell) (t1 : Jvm.Free.SBG.Tbl Z "DigitOnes" st d1 D1) (t2 : Jvm.Free.SBG.Tbl Z "DigitTens" st d2 D2) (o1 : Jvm.Free.SBG.Ones D1) (o2 : Jvm.Free.SBG.Tens D2) (v0 : Int64) (v1 : Int32) (vm : Vm) (a : Nat) (ha : a < 2 ^ 63) (K : own_C p (s.setVm vm) m meth c Z code "com/example/brokkr/brokkr/LogTextMillisPinLaw" (some .boolean) 12) (V : own_V s Z consts_1 vm Z.heap) :
    own_E p l e room_1 (s.setVm vm) m args below meth c Z.heap [] 0 0 34 #[.val (.long v0), .second, .val (.int v1), .val (.long (Int64.ofNat a)), .second, .unset, .unset, .unset, .unset, .unset, .unset, .unset] [] (own_O s below Z consts_1 room_1 (own_QL Z.heap.size)) := by
  have e63 : (2 : Nat) ^ 63 = 9223372036854775808 := by decide
  rw [e63] at ha
  refine own_lloadN K (pc := 34) at_34 rfl ?_
  refine own_ldc2 K (pc := 35) (x := (9223372036854770807 : Int64)) (hw _ (List.mem_of_getElem? (i := 1) rfl)) at_35 ?_
  refine own_lcmp K (pc := 38) at_38 ?_
  by_cases q : 9223372036854770807 < a
  · refine own_ifN K (pc := 39) at_39 (by rw [if0]; exact ((if0 _ _).symm.trans (XT.ll_le_f ((own_Llt (a := 9223372036854770807) (by decide) (by omega)).mpr q)))) ?_
    refine own_lloadN K (pc := 42) at_42 rfl ?_
    refine own_ldc2 K (pc := 43) (x := (5000 : Int64)) (hw _ (List.mem_of_getElem? (i := 3) rfl)) at_43 ?_
    refine own_lsub K (pc := 46) at_46 ?_
    rw [show Int64.ofNat a - (5000 : Int64) = Int64.ofNat (a - 5000) from own_Lsb (b := 5000) (by omega)]
    refine own_lstoreN K (pc := 47) (Ls' := #[.val (.long v0), .second, .val (.int v1), .val (.long (Int64.ofNat (a - 5000))), .second, .unset, .unset, .unset, .unset, .unset, .unset, .unset]) at_47 rfl ?_
    exact lw_48 p l e s m args below meth c Z a0 hw z g T0 st d1 d2 D1 D2 t1 t2 o1 o2 v0 v1 vm (a - 5000) (by omega) K V
  · refine own_ifY K (pc := 39) (pc' := 48) at_39 (by rw [if0]; exact ((if0 _ _).symm.trans (XT.ll_le_t (fun e => q ((own_Llt (a := 9223372036854770807) (by decide) (by omega)).mp e))))) (by decide) (by decide) ?_
    exact lw_48 p l e s m args below meth c Z a0 hw z g T0 st d1 d2 D1 D2 t1 t2 o1 o2 v0 v1 vm a (by omega) K V
set_option maxRecDepth 65536 in
set_option maxHeartbeats 4000000 in
theorem rm0 (l : Launch) (Z : State) (a0 : Array Value) (hw : ∀ d ∈ tables_1, d.before a0 Z = true) (v0 : Int64) (v1 : Int32) (z : Int32) (g : Value) (T0 : own_T Z Z.heap z g) (TB : ∃ (st d1 : Addr) (D1 : Cell) (d2 : Addr) (D2 : Cell), Jvm.Free.SBG.Tbl Z "DigitOnes" st d1 D1 ∧ Jvm.Free.SBG.Ones D1 ∧ Jvm.Free.SBG.Tbl Z "DigitTens" st d2 D2 ∧ Jvm.Free.SBG.Tens D2) : own_H l x code maxLocals (some .boolean) tables_1 room_1 Z consts_1 Z.heap #[(.long v0), (.int v1)] (own_QL Z.heap.size) := by
  obtain ⟨st, d1, D1, d2, D2, t1, o1, t2, o2⟩ := TB
  refine own_metH (by decide +kernel) (Ls := #[.val (.long v0), .second, .val (.int v1), .unset, .unset, .unset, .unset, .unset, .unset, .unset, .unset, .unset]) (fun m => by first | (simp [entryFrame, mkF, argsToLocals, Value.category, maxLocals]; done) | rfl) ?_
  intro p e s m below meth c hh hnm K V
  obtain ⟨a, ha, ea⟩ := own_Land v0
  refine own_lloadN K (pc := 0) at_0 rfl ?_
  refine own_ldc2 K (pc := 1) (x := (9223372036854775807 : Int64)) (hw _ (List.mem_of_getElem? (i := 0) rfl)) at_1 ?_
  refine own_land K (pc := 4) at_4 ?_
  rw [ea]
  refine own_lstoreN K (pc := 5) (Ls' := #[.val (.long v0), .second, .val (.int v1), .val (.long (Int64.ofNat a)), .second, .unset, .unset, .unset, .unset, .unset, .unset, .unset]) at_5 rfl ?_
  refine own_iloadN K (pc := 6) at_6 rfl ?_
  refine own_iconst K (pc := 7) at_7 (x := (3 : Int32)) (by decide) ?_
  refine own_iand K (pc := 8) at_8 ?_
  by_cases q0 : v1 &&& 3 = 0
  · refine own_ifN K (pc := 9) at_9 (by rw [if0]; exact (teq q0).2) ?_
    refine own_lloadN K (pc := 12) at_12 rfl ?_
    refine own_ldc2 K (pc := 13) (x := (2000000 : Int64)) (hw _ (List.mem_of_getElem? (i := 200) rfl)) at_13 ?_
    refine own_lrem K (pc := 16) at_16 (by decide) ?_
    rw [show Int64.ofNat a - Int64.ofNat a / (2000000 : Int64) * 2000000 = Int64.ofNat (a % 2000000) from own_Lrm (b := 2000000) ha (by decide) (by decide)]
    refine own_lstoreN K (pc := 17) (Ls' := #[.val (.long v0), .second, .val (.int v1), .val (.long (Int64.ofNat (a % 2000000))), .second, .unset, .unset, .unset, .unset, .unset, .unset, .unset]) at_17 rfl ?_
    refine own_goto K (pc := 18) (pc' := 34) at_18 (by decide) (by decide) ?_
    exact lw_34 p l e s m _ below meth c Z a0 hw z g T0 st d1 d2 D1 D2 t1 t2 o1 o2 v0 v1 s.vm (a % 2000000) (Nat.lt_of_le_of_lt (Nat.mod_le _ _) ha) K V
  refine own_ifY K (pc := 9) (pc' := 21) at_9 (by rw [if0]; exact (feq q0).2) (by decide) (by decide) ?_
  refine own_iloadN K (pc := 21) at_21 rfl ?_
  refine own_iconst K (pc := 22) at_22 (x := (3 : Int32)) (by decide) ?_
  refine own_iand K (pc := 23) at_23 ?_
  refine own_iconst K (pc := 24) at_24 (x := (1 : Int32)) (by decide) ?_
  by_cases q1 : v1 &&& 3 = 1
  · refine own_icmpN K (pc := 25) at_25 (teq q1).2 ?_
    refine own_lloadN K (pc := 28) at_28 rfl ?_
    refine own_ldc2 K (pc := 29) (x := (100000000000 : Int64)) (hw _ (List.mem_of_getElem? (i := 198) rfl)) at_29 ?_
    refine own_lrem K (pc := 32) at_32 (by decide) ?_
    rw [show Int64.ofNat a - Int64.ofNat a / (100000000000 : Int64) * 100000000000 = Int64.ofNat (a % 100000000000) from own_Lrm (b := 100000000000) ha (by decide) (by decide)]
    refine own_lstoreN K (pc := 33) (Ls' := #[.val (.long v0), .second, .val (.int v1), .val (.long (Int64.ofNat (a % 100000000000))), .second, .unset, .unset, .unset, .unset, .unset, .unset, .unset]) at_33 rfl ?_
    exact lw_34 p l e s m _ below meth c Z a0 hw z g T0 st d1 d2 D1 D2 t1 t2 o1 o2 v0 v1 s.vm (a % 100000000000) (Nat.lt_of_le_of_lt (Nat.mod_le _ _) ha) K V
  · refine own_icmpY K (pc := 25) (pc' := 34) at_25 (feq q1).2 (by decide) (by decide) ?_
    exact lw_34 p l e s m _ below meth c Z a0 hw z g T0 st d1 d2 D1 D2 t1 t2 o1 o2 v0 v1 s.vm a ha K V
set_option maxRecDepth 65536 in
set_option maxHeartbeats 40000000 in
theorem comes_1 {Post : Tables → Env → Array Value → State → Outcome → State → Prop} (hpost : ∀ tb e args s v u, (limb_1_1.after args s (.returned v) u = true ∧ limb_1_2.after args s (.returned v) u = true ∧ True) → FramedW s (.returned v) u (Jvm.fieldLocs frame_1_writes args s ++ Jvm.arrayLocs frame_1_arrays args s ++ Jvm.staticLocs frame_1_statics s) 24 3328 → Post tb e args s (.returned v) u) :
    ArmFor flags0 classFile x code maxLocals ret World_1 tables_1 room_1 Calls_1 rest_1 Pre_1 Post := by
  intro l hfl _ _ p e ha hc hk s m args below hf hA hF happ hP
  obtain ⟨hcalls, hrest, hpre⟩ := hP
  obtain ⟨-, -, -, hnamed, -, -, -, hat⟩ := (Spec.applies_iff hf).mp happ
  obtain ⟨hg, hn⟩ := and_e (Cond.before_iff.mp (show (Jvm.Cond.and given_1 narrow_1).before args s = true from hpre))
  obtain ⟨h1, h2⟩ := and_e hg
  obtain ⟨w0, w1, rfl⟩ : ∃ w0 w1 : Value, args = #[w0, w1] := by
    have hs : args.size = 2 := by simpa [Cond.value, given_1] using h1
    obtain ⟨L⟩ := args
    match L, hs with
    | [w0, w1], _ => exact ⟨w0, w1, rfl⟩
  have hw := fun d (hd : d ∈ tables_1) => atoms_spec (ws := Jvm.Cond.code x code maxLocals ret :: tables_1) hat d (List.mem_cons_of_mem _ hd)
  obtain ⟨hsets, hown0⟩ := atoms_of _ (rest_1_c_eq ▸ (show rest_1_c.before _ s = true from hrest))
  obtain ⟨q0, h2⟩ := and_e h2
  obtain ⟨i0, e0⟩ := isL_v q0
  obtain rfl : w0 = (.long i0) := Option.some.inj e0
  obtain ⟨i1, e1⟩ := is_v h2
  obtain rfl : w1 = (.int i1) := Option.some.inj e1
  obtain ⟨k1, ek⟩ := is_v (Cond.before_iff.mp (hsets _ (List.mem_of_getElem? (i := 1) rfl)))
  have S1 : Sta s s.heap "java/lang/String" "COMPACT_STRINGS" "Z" (.int k1) := Sta.start ek (Or.inl (hsets _ (List.mem_of_getElem? (i := 0) rfl)))
  have P1 : ¬ (k1 = (0 : Int32)) := gotF (Cond.eq_ints ek (Term.int_eval (0))) (not_v (Cond.before_iff.mp (hsets _ (List.mem_of_getElem? (i := 2) rfl))))
  obtain ⟨g1, eg, r2⟩ := isR_v (Cond.before_iff.mp (hsets _ (List.mem_of_getElem? (i := 8) rfl)))
  have S2 : Sta s s.heap "jdk/internal/util/Preconditions" "SIOOBE_FORMATTER" "Ljava/util/function/BiFunction;" g1 := Sta.start eg (Or.inl (hsets _ (List.mem_of_getElem? (i := 7) rfl)))
  have hV : CHv s consts_1 s.vm s.heap := CHv.start (own_EL hw) hcalls.1 (hsets _ (List.mem_of_getElem? (i := 2) rfl)) (own_wS hw _ (by simp [Bundle.stringAtoms])) (own_wS hw _ (by simp [Bundle.stringAtoms, Bundle.sN]))
  have hfit : ∀ {y : Addr} {c : Cell}, s.heap[y]? = some c → ∀ {i : Nat} (hi : i < c.slots.size), s.fitsSlot c.cls c.vm i c.slots[i] = true := fun {y c} hc i hi => by
    obtain ⟨ha, rfl⟩ := Array.getElem?_eq_some_iff.mp hc
    have q := List.all_eq_true.mp ((Array.all_eq_true_iff_forall_mem.mp hF) _ (Array.getElem_mem ha)) i (List.mem_range.mpr hi)
    simpa [Array.getElem?_eq_getElem hi] using q
  have TB := Jvm.SetKit.digits_of hfit (hw _ (List.mem_of_getElem? (i := 34) rfl)) (hsets _ (List.mem_of_getElem? (i := 9) rfl)) (hsets _ (List.mem_of_getElem? (i := 10) rfl)) (hsets _ (List.mem_of_getElem? (i := 12) rfl)) (hsets _ (List.mem_of_getElem? (i := 13) rfl)) (hsets _ (List.mem_of_getElem? (i := 14) rfl)) (hsets _ (List.mem_of_getElem? (i := 15) rfl)) (hsets _ (List.mem_of_getElem? (i := 17) rfl)) (hsets _ (List.mem_of_getElem? (i := 18) rfl)) (hsets _ (List.mem_of_getElem? (i := 19) rfl))
  obtain ⟨n, o, h1, h2, h3, _, L, rfl, ⟨rfl, N⟩, -, hq⟩ := rm0 l s _ hw i0 i1 k1 g1 ⟨S1, P1, S2, r2⟩ TB p e ha hc hk s m _ below hf ((Spec.applies_iff_loose hf).mp happ).1 ⟨rfl, State.Warmed39.refl s, rfl, hV⟩ trivial
  refine ⟨n, _, h1, h2, h3, hpost _ _ _ _ _ _ ⟨Cond.after_iff.mpr rfl, Cond.after_iff.mpr (eq_i res_at (Term.int_eval (1)) rfl), trivial⟩ ⟨hq.1, hq.2.1, hq.2.2.1, (hq.2.2.2.sift fun y hy => Or.inr (N y hy)).mono (by decide) (by decide)⟩⟩
theorem main_1_1 : Claimed_1_1 := comes_1 fun _ _ _ _ _ _ h hF => ⟨h.1, hF⟩
theorem main_1_2 : Claimed_1_2 := comes_1 fun _ _ _ _ _ _ h hF => ⟨h.2.1, hF⟩
end Jvm.Pilot.@@N@@
namespace Jvm.Pilot.@@N@@
open Jvm Jvm.ClassFile Sem Op Lib Jvm.Free Jvm.Stand Jvm.Pilot.@@N@@.Jvm.D
/-! MADE BY PROGRAM (witnessworld.py) out of the Statement's table words and the real class files: 26 classes; the members and pool entries that the words name. The judged class is class 1, her method 3. -/
namespace start1
open Jvm.ClassFile
def u (s : String) : CpInfo := .utf8 (stringToUtf16 s)
/-- a pool by its gaps: so many unusable entries, then the entry; so many at the end -/
def gap : Nat → List CpInfo → List CpInfo
  | 0, r => r
  | n + 1, r => .unusable :: gap n r
def poolList (es : List (Nat × CpInfo)) (last : Nat) : List CpInfo := es.foldr (fun e r => gap e.1 (e.2 :: r)) (gap last [])
def pool (es : List (Nat × CpInfo)) (last : Nat) : Array CpInfo := ⟨poolList es last⟩
def fileOf (pool : Array CpInfo) (this : Nat) (attrs : Array Attribute := #[]) (ms : Array MethodInfo := #[]) (fl : Nat := 33) (sup : Nat := 0) (ifs : Array Nat := #[]) (fds : Array FieldInfo := #[]) : ClassFile where
  minorVersion := 0
  majorVersion := 65
  constantPool := pool
  accessFlags := fl
  thisClass := this
  superClass := sup
  interfaces := ifs
  fields := fds
  methods := ms
  attributes := attrs
def plain (name : String) (sup : Option ClassId) : Class where
  name := name
  kind := .ordinary
  loader := none
  accessFlags := 33
  super := sup
  interfaces := #[]
  cf := none
  fields := #[]
  methods := #[]
  instanceTypes := #[]
  staticTypes := #[]
  resolved := #[]
  callSites := []
  init := .initialized
  statics := none
  mirror := none

def pool0 : Array CpInfo := pool [(5, u "<init>"), (0, u "()V"), (1, .class_ 10), (1, u "java/lang/Object"), (85, u "clone"), (0, u "()Ljava/lang/Object;")] 26

def k0c0 : Code := { maxStack := 0, maxLocals := 1, code := object_method_1_code, exceptionTable := #[], attributes := #[] }
def k0m0 : Method := { name := "<init>", desc := "()V", sig := { parameters := [], returnType := none }, accessFlags := 1, code := some k0c0 }
def k0m1 : Method := { name := "clone", desc := "()Ljava/lang/Object;", sig := { parameters := [], returnType := some (.object "java/lang/Object") }, accessFlags := 260, code := none }
/-- java/lang/Object -/
def k0 : Class := { plain "java/lang/Object" none with
  accessFlags := 33
  interfaces := #[]
  cf := some (fileOf pool0 8 #[] #[{ accessFlags := 1, nameIndex := 5, descriptorIndex := 6, attributes := #[] }, { accessFlags := 260, nameIndex := 96, descriptorIndex := 97, attributes := #[] }] 33 0 #[] #[])
  fields := #[]
  methods := #[k0m0, k0m1]
  instanceTypes := #[]
  staticTypes := #[]
  resolved := Array.replicate 124 none
  statics := none }

def pool1 : Array CpInfo := pool [(2, .class_ 4), (1, u "java/lang/Object"), (0, u "<init>"), (0, u "()V"), (0, .long 10), (1, .long 100), (1, .long 1000), (1, .long 10000), (1, .long 100000), (1, .long 1000000), (1, .long 10000000), (1, .long 100000000), (1, .long 1000000000), (1, .long 10000000000), (1, .long 100000000000), (1, .long 1000000000000), (1, .methodref 32 33), (0, .class_ 34), (0, .nameAndType 35 36), (0, u "java/lang/String"), (0, u "charAt"), (0, u "(I)C"), (2, .long 9223372036854775807), (1, .long 2000000), (1, .long 9223372036854770807), (1, .long 5000), (1, .methodref 48 49), (0, .class_ 50), (0, .nameAndType 51 52), (0, u "com/example/brokkr/brokkr/LogTextMillisPinLaw"), (0, u "digits"), (0, u "(J)I"), (0, .methodref 54 55), (0, .class_ 56), (0, .nameAndType 57 58), (0, u "com/example/brokkr/brokkr/LogText"), (0, u "millis"), (0, u "(J)Ljava/lang/String;"), (0, .methodref 32 60), (0, .nameAndType 61 62), (0, u "length"), (0, u "()I"), (0, .methodref 48 64), (0, .nameAndType 65 66), (0, u "digitOk"), (0, u "(Ljava/lang/String;IJJI)Z"), (3, u "law"), (0, u "(JI)Z")] 2

def k1m0 : Method := { name := "<init>", desc := "()V", sig := { parameters := [], returnType := none }, accessFlags := 2, code := none }
def k1c1 : Code := { maxStack := 4, maxLocals := 2, code := method_2_code, exceptionTable := #[], attributes := #[] }
def k1m1 : Method := { name := "digits", desc := "(J)I", sig := { parameters := [.long], returnType := some .int }, accessFlags := 10, code := some k1c1 }
def k1c2 : Code := { maxStack := 6, maxLocals := 8, code := method_3_code, exceptionTable := #[], attributes := #[] }
def k1m2 : Method := { name := "digitOk", desc := "(Ljava/lang/String;IJJI)Z", sig := { parameters := [(.object "java/lang/String"), .int, .long, .long, .int], returnType := some .boolean }, accessFlags := 10, code := some k1c2 }
def k1c3 : Code := { maxStack := 7, maxLocals := 12, code := code, exceptionTable := #[], attributes := #[] }
def k1m3 : Method := { name := "law", desc := "(JI)Z", sig := { parameters := [.long, .int], returnType := some .boolean }, accessFlags := 9, code := some k1c3 }
/-- com/example/brokkr/brokkr/LogTextMillisPinLaw -/
def k1 : Class := { plain "com/example/brokkr/brokkr/LogTextMillisPinLaw" (some 0) with
  accessFlags := 49
  interfaces := #[]
  cf := some (fileOf pool1 48 #[] #[{ accessFlags := 2, nameIndex := 5, descriptorIndex := 6, attributes := #[] }, { accessFlags := 10, nameIndex := 51, descriptorIndex := 52, attributes := #[] }, { accessFlags := 10, nameIndex := 65, descriptorIndex := 66, attributes := #[] }, { accessFlags := 9, nameIndex := 70, descriptorIndex := 71, attributes := #[] }] 49 2 #[] #[])
  fields := #[]
  methods := #[k1m0, k1m1, k1m2, k1m3]
  instanceTypes := #[]
  staticTypes := #[]
  resolved := Array.replicate 74 none
  statics := none }

def pool2 : Array CpInfo := pool [(2, .class_ 4), (0, .nameAndType 5 6), (0, u "java/lang/Object"), (0, u "<init>"), (0, u "()V"), (10, .class_ 18), (0, u "java/lang/StringBuilder"), (0, .methodref 17 3), (0, .class_ 21), (0, u "com/example/brokkr/brokkr/LogText"), (9, .methodref 17 32), (0, .nameAndType 33 34), (0, u "append"), (0, u "(Ljava/lang/String;)Ljava/lang/StringBuilder;"), (5, .methodref 17 41), (0, .nameAndType 42 43), (0, u "toString"), (0, u "()Ljava/lang/String;"), (0, .long 5000), (1, .long 10000), (1, .long 100), (1, .methodref 17 51), (0, .nameAndType 33 52), (0, u "(J)Ljava/lang/StringBuilder;"), (0, .long 10), (1, .string 56), (0, u ".0"), (0, .string 58), (0, u "."), (0, .string 60), (0, u "ms"), (10, .class_ 73), (1, u "com/example/brokkr/brokkr/LogText$EscapedTrace"), (76, u "SHORT_ESCAPES"), (0, u "Ljava/util/Map;"), (58, u "KEPT_AT_EACH_END"), (0, u "I"), (2, u "NANOS_PER_HUNDREDTH_OF_A_MILLI"), (0, u "J"), (5, u "millis"), (0, u "(J)Ljava/lang/String;")] 31

def k2m0 : Method := { name := "<init>", desc := "()V", sig := { parameters := [], returnType := none }, accessFlags := 2, code := none }
def k2c1 : Code := { maxStack := 5, maxLocals := 6, code := prog_12_method_3_code, exceptionTable := #[], attributes := #[] }
def k2m1 : Method := { name := "millis", desc := "(J)Ljava/lang/String;", sig := { parameters := [.long], returnType := some (.object "java/lang/String") }, accessFlags := 8, code := some k2c1 }
/-- com/example/brokkr/brokkr/LogText -/
def k2 : Class := { plain "com/example/brokkr/brokkr/LogText" (some 0) with
  accessFlags := 48
  interfaces := #[]
  cf := some (fileOf pool2 20 #[.nestMembers #[71]] #[{ accessFlags := 2, nameIndex := 5, descriptorIndex := 6, attributes := #[] }, { accessFlags := 8, nameIndex := 221, descriptorIndex := 222, attributes := #[] }] 48 2 #[] #[{ accessFlags := 26, nameIndex := 210, descriptorIndex := 211, attributes := #[] }, { accessFlags := 26, nameIndex := 214, descriptorIndex := 215, attributes := #[] }, { accessFlags := 26, nameIndex := 150, descriptorIndex := 151, attributes := #[] }])
  fields := #[{ name := "KEPT_AT_EACH_END", type := .int, accessFlags := 26, slot := 0, constantValue := 0 }, { name := "NANOS_PER_HUNDREDTH_OF_A_MILLI", type := .long, accessFlags := 26, slot := 1, constantValue := 0 }, { name := "SHORT_ESCAPES", type := (.object "java/util/Map"), accessFlags := 26, slot := 2, constantValue := 0 }]
  methods := #[k2m0, k2m1]
  instanceTypes := #[]
  staticTypes := #[.int, .long, (.object "java/util/Map")]
  resolved := Array.replicate 254 none
  statics := none }

def pool3 : Array CpInfo := pool [(1, .class_ 2), (0, u "java/lang/Appendable"), (0, .class_ 4), (0, u "java/lang/Object")] 9

/-- java/lang/Appendable -/
def k3 : Class := { plain "java/lang/Appendable" (some 0) with
  accessFlags := 1537
  interfaces := #[]
  cf := some (fileOf pool3 1 #[] #[] 1537 3 #[] #[])
  fields := #[]
  methods := #[]
  instanceTypes := #[]
  staticTypes := #[]
  resolved := Array.replicate 14 none
  statics := none }

def pool4 : Array CpInfo := pool [(2, .class_ 4), (1, u "java/lang/CharSequence"), (42, .class_ 48), (0, u "java/lang/CharSequence$1CodePointIterator"), (10, .class_ 60), (0, u "java/lang/CharSequence$1CharIterator"), (5, .class_ 67), (0, u "java/lang/Object")] 63

/-- java/lang/CharSequence -/
def k4 : Class := { plain "java/lang/CharSequence" (some 0) with
  accessFlags := 1537
  interfaces := #[]
  cf := some (fileOf pool4 2 #[.nestMembers #[47, 59]] #[] 1537 66 #[] #[])
  fields := #[]
  methods := #[]
  instanceTypes := #[]
  staticTypes := #[]
  resolved := Array.replicate 131 none
  statics := none }

def pool5 : Array CpInfo := pool [(1, .class_ 2), (0, u "java/lang/String"), (0, .methodref 4 5), (0, .class_ 6), (0, .nameAndType 7 8), (0, u "java/lang/Object"), (0, u "<init>"), (0, u "()V"), (1, .class_ 12), (1, u "java/lang/AbstractStringBuilder"), (0, u "EMPTYVALUE"), (0, u "[B"), (0, .fieldref 10 16), (0, .nameAndType 17 14), (0, u "value"), (0, .fieldref 1 19), (0, .nameAndType 20 21), (0, u "COMPACT_STRINGS"), (0, u "Z"), (0, .fieldref 10 23), (0, .nameAndType 24 25), (0, u "coder"), (0, u "B"), (6, .methodref 1 33), (0, .nameAndType 34 35), (0, u "length"), (0, u "()I"), (3, .integer 2147483647), (0, .methodref 1 41), (0, .nameAndType 24 42), (0, u "()B"), (2, u "append"), (0, u "(Ljava/lang/String;)Ljava/lang/AbstractStringBuilder;"), (1, .class_ 49), (0, u "java/lang/CharSequence"), (19, u "(Ljava/lang/String;)V"), (5, u "maybeLatin1"), (3, .fieldref 10 80), (0, .nameAndType 81 82), (0, u "count"), (0, u "I"), (0, .methodref 10 84), (0, .nameAndType 85 86), (0, u "isLatin1"), (0, u "()Z"), (13, .methodref 10 101), (0, .nameAndType 102 103), (0, u "ensureCapacityInternal"), (0, u "(I)V"), (0, .methodref 10 105), (0, .nameAndType 106 107), (0, u "newCapacity"), (0, u "(I)I"), (0, .methodref 109 110), (0, .class_ 111), (0, .nameAndType 112 113), (0, u "java/util/Arrays"), (0, u "copyOf"), (0, u "([BI)[B"), (0, .methodref 115 116), (0, .class_ 117), (0, .nameAndType 118 119), (0, u "jdk/internal/util/ArraysSupport"), (0, u "newLength"), (0, u "(III)I"), (68, u "getChars"), (19, .methodref 10 209), (0, .nameAndType 210 211), (0, u "putStringAt"), (0, u "(ILjava/lang/String;)V"), (5, u "inflateIfNeededFor"), (2, .nameAndType 221 222), (0, u "getBytes"), (0, u "([BIB)V"), (24, u "stringSize"), (6, .methodref 255 256), (0, .class_ 257), (0, .nameAndType 247 258), (0, u "java/lang/Long"), (0, u "(J)I"), (0, .methodref 255 260), (0, .nameAndType 188 261), (0, u "(JI[B)I"), (135, .methodref 10 398), (0, .nameAndType 217 69), (0, .methodref 1 220), (3, u "()[B"), (40, .class_ 445), (0, u "java/lang/Appendable"), (67, u "(J)Ljava/lang/AbstractStringBuilder;"), (38, u "getValue")] 56

def k5m0 : Method := { name := "<init>", desc := "()V", sig := { parameters := [], returnType := none }, accessFlags := 0, code := none }
def k5c1 : Code := { maxStack := 2, maxLocals := 2, code := jdk_68_method_2_code, exceptionTable := #[], attributes := #[] }
def k5m1 : Method := { name := "<init>", desc := "(I)V", sig := { parameters := [.int], returnType := none }, accessFlags := 0, code := some k5c1 }
def k5c2 : Code := { maxStack := 1, maxLocals := 1, code := jdk_68_method_6_code, exceptionTable := #[], attributes := #[] }
def k5m2 : Method := { name := "length", desc := "()I", sig := { parameters := [], returnType := some .int }, accessFlags := 1, code := some k5c2 }
def k5c3 : Code := { maxStack := 4, maxLocals := 3, code := jdk_68_method_9_code, exceptionTable := #[], attributes := #[] }
def k5m3 : Method := { name := "ensureCapacityInternal", desc := "(I)V", sig := { parameters := [.int], returnType := none }, accessFlags := 2, code := some k5c3 }
def k5c4 : Code := { maxStack := 5, maxLocals := 6, code := jdk_68_method_10_code, exceptionTable := #[], attributes := #[] }
def k5m4 : Method := { name := "newCapacity", desc := "(I)I", sig := { parameters := [.int], returnType := some .int }, accessFlags := 2, code := some k5c4 }
def k5c5 : Code := { maxStack := 3, maxLocals := 3, code := jdk_68_method_22_code, exceptionTable := #[], attributes := #[] }
def k5m5 : Method := { name := "append", desc := "(Ljava/lang/String;)Ljava/lang/AbstractStringBuilder;", sig := { parameters := [(.object "java/lang/String")], returnType := some (.object "java/lang/AbstractStringBuilder") }, accessFlags := 1, code := some k5c5 }
def k5c6 : Code := { maxStack := 5, maxLocals := 5, code := jdk_68_method_33_code, exceptionTable := #[], attributes := #[] }
def k5m6 : Method := { name := "append", desc := "(J)Ljava/lang/AbstractStringBuilder;", sig := { parameters := [.long], returnType := some (.object "java/lang/AbstractStringBuilder") }, accessFlags := 1, code := some k5c6 }
def k5c7 : Code := { maxStack := 1, maxLocals := 1, code := jdk_68_method_64_code, exceptionTable := #[], attributes := #[] }
def k5m7 : Method := { name := "getValue", desc := "()[B", sig := { parameters := [], returnType := some (.array .byte) }, accessFlags := 16, code := some k5c7 }
def k5c8 : Code := { maxStack := 1, maxLocals := 1, code := jdk_68_method_68_code, exceptionTable := #[], attributes := #[] }
def k5m8 : Method := { name := "isLatin1", desc := "()Z", sig := { parameters := [], returnType := some .boolean }, accessFlags := 16, code := some k5c8 }
def k5c9 : Code := { maxStack := 2, maxLocals := 2, code := jdk_68_method_71_code, exceptionTable := #[], attributes := #[] }
def k5m9 : Method := { name := "inflateIfNeededFor", desc := "(Ljava/lang/String;)V", sig := { parameters := [(.object "java/lang/String")], returnType := none }, accessFlags := 2, code := some k5c9 }
def k5c10 : Code := { maxStack := 4, maxLocals := 3, code := jdk_68_method_73_code, exceptionTable := #[], attributes := #[] }
def k5m10 : Method := { name := "putStringAt", desc := "(ILjava/lang/String;)V", sig := { parameters := [.int, (.object "java/lang/String")], returnType := none }, accessFlags := 2, code := some k5c10 }
/-- java/lang/AbstractStringBuilder -/
def k5 : Class := { plain "java/lang/AbstractStringBuilder" (some 0) with
  accessFlags := 1056
  interfaces := #[3, 4]
  cf := some (fileOf pool5 10 #[] #[{ accessFlags := 0, nameIndex := 7, descriptorIndex := 8, attributes := #[] }, { accessFlags := 0, nameIndex := 7, descriptorIndex := 103, attributes := #[] }, { accessFlags := 1, nameIndex := 34, descriptorIndex := 35, attributes := #[] }, { accessFlags := 2, nameIndex := 102, descriptorIndex := 103, attributes := #[] }, { accessFlags := 2, nameIndex := 106, descriptorIndex := 107, attributes := #[] }, { accessFlags := 1, nameIndex := 45, descriptorIndex := 46, attributes := #[] }, { accessFlags := 1, nameIndex := 45, descriptorIndex := 513, attributes := #[] }, { accessFlags := 16, nameIndex := 552, descriptorIndex := 403, attributes := #[] }, { accessFlags := 16, nameIndex := 85, descriptorIndex := 86, attributes := #[] }, { accessFlags := 2, nameIndex := 217, descriptorIndex := 69, attributes := #[] }, { accessFlags := 2, nameIndex := 210, descriptorIndex := 211, attributes := #[] }] 1056 4 #[444, 48] #[{ accessFlags := 0, nameIndex := 17, descriptorIndex := 14, attributes := #[] }, { accessFlags := 0, nameIndex := 24, descriptorIndex := 25, attributes := #[] }, { accessFlags := 0, nameIndex := 75, descriptorIndex := 21, attributes := #[] }, { accessFlags := 0, nameIndex := 81, descriptorIndex := 82, attributes := #[] }, { accessFlags := 26, nameIndex := 13, descriptorIndex := 14, attributes := #[] }])
  fields := #[{ name := "value", type := (.array .byte), accessFlags := 0, slot := 0, constantValue := 0 }, { name := "coder", type := .byte, accessFlags := 0, slot := 1, constantValue := 0 }, { name := "maybeLatin1", type := .boolean, accessFlags := 0, slot := 2, constantValue := 0 }, { name := "count", type := .int, accessFlags := 0, slot := 3, constantValue := 0 }, { name := "EMPTYVALUE", type := (.array .byte), accessFlags := 26, slot := 0, constantValue := 0 }]
  methods := #[k5m0, k5m1, k5m2, k5m3, k5m4, k5m5, k5m6, k5m7, k5m8, k5m9, k5m10]
  instanceTypes := #[(.array .byte), .byte, .boolean, .int]
  staticTypes := #[(.array .byte)]
  resolved := Array.replicate 609 none
  statics := none }

def pool6 : Array CpInfo := pool [(1, .class_ 2), (0, u "java/io/Serializable"), (0, .class_ 4), (0, u "java/lang/Object")] 2

/-- java/io/Serializable -/
def k6 : Class := { plain "java/io/Serializable" (some 0) with
  accessFlags := 1537
  interfaces := #[]
  cf := some (fileOf pool6 1 #[] #[] 1537 3 #[] #[])
  fields := #[]
  methods := #[]
  instanceTypes := #[]
  staticTypes := #[]
  resolved := Array.replicate 7 none
  statics := none }

def pool7 : Array CpInfo := pool [(1, .class_ 2), (0, u "java/lang/Comparable"), (0, .class_ 4), (0, u "java/lang/Object")] 7

/-- java/lang/Comparable -/
def k7 : Class := { plain "java/lang/Comparable" (some 0) with
  accessFlags := 1537
  interfaces := #[]
  cf := some (fileOf pool7 1 #[] #[] 1537 3 #[] #[])
  fields := #[]
  methods := #[]
  instanceTypes := #[]
  staticTypes := #[]
  resolved := Array.replicate 12 none
  statics := none }

def pool8 : Array CpInfo := pool [(1, .methodref 2 3), (0, .class_ 4), (0, .nameAndType 5 6), (0, u "java/lang/AbstractStringBuilder"), (0, u "<init>"), (0, u "(I)V"), (11, .class_ 20), (1, u "java/lang/String"), (3, .class_ 26), (1, u "java/lang/StringBuilder"), (0, u "append"), (0, u "(Ljava/lang/String;)Ljava/lang/StringBuilder;"), (0, .methodref 2 30), (0, .nameAndType 27 31), (0, u "(Ljava/lang/String;)Ljava/lang/AbstractStringBuilder;"), (24, .methodref 2 57), (0, .nameAndType 27 58), (0, u "(J)Ljava/lang/AbstractStringBuilder;"), (78, .methodref 18 138), (0, .nameAndType 5 139), (0, u "(Ljava/lang/StringBuilder;)V"), (5, u "()V"), (10, u "()I"), (124, u "(J)Ljava/lang/StringBuilder;"), (61, .methodref 2 344), (0, .nameAndType 345 156), (0, u "length"), (3, .class_ 350), (0, u "java/lang/Appendable"), (0, .class_ 352), (0, u "java/io/Serializable"), (0, .class_ 354), (0, u "java/lang/Comparable"), (0, .class_ 356), (0, u "java/lang/CharSequence"), (0, u "serialVersionUID"), (0, u "J"), (40, u "toString"), (0, u "()Ljava/lang/String;")] 21

def k8c0 : Code := { maxStack := 2, maxLocals := 1, code := jdk_67_method_1_code, exceptionTable := #[], attributes := #[] }
def k8m0 : Method := { name := "<init>", desc := "()V", sig := { parameters := [], returnType := none }, accessFlags := 1, code := some k8c0 }
def k8c1 : Code := { maxStack := 2, maxLocals := 2, code := jdk_67_method_7_code, exceptionTable := #[], attributes := #[] }
def k8m1 : Method := { name := "append", desc := "(Ljava/lang/String;)Ljava/lang/StringBuilder;", sig := { parameters := [(.object "java/lang/String")], returnType := some (.object "java/lang/StringBuilder") }, accessFlags := 1, code := some k8c1 }
def k8c2 : Code := { maxStack := 3, maxLocals := 3, code := jdk_67_method_16_code, exceptionTable := #[], attributes := #[] }
def k8m2 : Method := { name := "append", desc := "(J)Ljava/lang/StringBuilder;", sig := { parameters := [.long], returnType := some (.object "java/lang/StringBuilder") }, accessFlags := 1, code := some k8c2 }
def k8c3 : Code := { maxStack := 3, maxLocals := 1, code := jdk_67_method_42_code, exceptionTable := #[], attributes := #[] }
def k8m3 : Method := { name := "toString", desc := "()Ljava/lang/String;", sig := { parameters := [], returnType := some (.object "java/lang/String") }, accessFlags := 1, code := some k8c3 }
def k8c4 : Code := { maxStack := 1, maxLocals := 1, code := jdk_67_method_93_code, exceptionTable := #[], attributes := #[] }
def k8m4 : Method := { name := "length", desc := "()I", sig := { parameters := [], returnType := some .int }, accessFlags := 4161, code := some k8c4 }
/-- java/lang/StringBuilder -/
def k8 : Class := { plain "java/lang/StringBuilder" (some 5) with
  accessFlags := 49
  interfaces := #[3, 6, 7, 4]
  cf := some (fileOf pool8 24 #[] #[{ accessFlags := 1, nameIndex := 5, descriptorIndex := 145, attributes := #[] }, { accessFlags := 1, nameIndex := 27, descriptorIndex := 28, attributes := #[] }, { accessFlags := 1, nameIndex := 27, descriptorIndex := 281, attributes := #[] }, { accessFlags := 1, nameIndex := 399, descriptorIndex := 400, attributes := #[] }, { accessFlags := 4161, nameIndex := 345, descriptorIndex := 156, attributes := #[] }] 49 2 #[349, 351, 353, 355] #[{ accessFlags := 24, nameIndex := 357, descriptorIndex := 358, attributes := #[] }])
  fields := #[{ name := "serialVersionUID", type := .long, accessFlags := 24, slot := 0, constantValue := 0 }]
  methods := #[k8m0, k8m1, k8m2, k8m3, k8m4]
  instanceTypes := #[(.array .byte), .byte, .boolean, .int]
  staticTypes := #[.long]
  resolved := Array.replicate 422 none
  statics := none }

def pool9 : Array CpInfo := pool [(1, .class_ 2), (0, u "java/lang/constant/Constable"), (0, .class_ 4), (0, u "java/lang/Object")] 6

/-- java/lang/constant/Constable -/
def k9 : Class := { plain "java/lang/constant/Constable" (some 0) with
  accessFlags := 1537
  interfaces := #[]
  cf := some (fileOf pool9 1 #[] #[] 1537 3 #[] #[])
  fields := #[]
  methods := #[]
  instanceTypes := #[]
  staticTypes := #[]
  resolved := Array.replicate 11 none
  statics := none }

def pool10 : Array CpInfo := pool [(1, .class_ 2), (0, u "java/lang/constant/ConstantDesc"), (0, .class_ 4), (0, u "java/lang/Object")] 32

/-- java/lang/constant/ConstantDesc -/
def k10 : Class := { plain "java/lang/constant/ConstantDesc" (some 0) with
  accessFlags := 1537
  interfaces := #[]
  cf := some (fileOf pool10 1 #[] #[] 1537 3 #[] #[])
  fields := #[]
  methods := #[]
  instanceTypes := #[]
  staticTypes := #[]
  resolved := Array.replicate 37 none
  statics := none }

def pool11 : Array CpInfo := pool [(1, .methodref 2 3), (0, .class_ 4), (0, .nameAndType 5 6), (0, u "java/lang/Object"), (0, u "<init>"), (0, u "()V"), (2, .fieldref 10 11), (0, .class_ 12), (0, .nameAndType 13 14), (0, u "java/lang/String"), (0, u "value"), (0, u "[B"), (0, .fieldref 10 16), (0, .nameAndType 17 18), (0, u "coder"), (0, u "B"), (2, u "hash"), (0, u "I"), (2, u "hashIsZero"), (0, u "Z"), (11, .fieldref 10 39), (0, .nameAndType 40 26), (0, u "COMPACT_STRINGS"), (13, .methodref 55 56), (0, .class_ 57), (0, .nameAndType 58 59), (0, u "java/util/Arrays"), (0, u "copyOfRange"), (0, u "([BII)[B"), (47, .class_ 109), (1, u "java/lang/StringLatin1"), (32, u "()Z"), (50, .class_ 195), (1, u "java/lang/System"), (16, .methodref 193 213), (0, .nameAndType 214 215), (0, u "arraycopy"), (0, u "(Ljava/lang/Object;ILjava/lang/Object;II)V"), (118, u "()I"), (0, .methodref 10 336), (0, .nameAndType 17 337), (0, u "()B"), (2, u "()[B"), (22, u "([BI)C"), (27, u "(II)V"), (35, u "(I)C"), (61, .methodref 10 490), (0, .nameAndType 5 491), (0, u "(Ljava/lang/AbstractStringBuilder;Ljava/lang/Void;)V"), (0, .methodref 10 493), (0, .nameAndType 494 142), (0, u "isLatin1"), (0, .methodref 107 496), (0, .nameAndType 497 363), (0, u "charAt"), (3, u "checkIndex"), (4, .nameAndType 507 334), (0, u "length"), (24, u "getBytes"), (16, .methodref 550 506), (0, .class_ 551), (0, u "java/lang/AbstractStringBuilder"), (0, .methodref 550 553), (0, .nameAndType 554 340), (0, u "getValue"), (20, .class_ 576), (0, u "java/lang/CharSequence"), (22, u "CASE_INSENSITIVE_ORDER"), (0, u "Ljava/util/Comparator;"), (220, u "([BIB)V"), (225, .methodref 550 493), (5, .fieldref 1054 1055), (0, .class_ 1056), (0, .nameAndType 1057 1058), (0, u "jdk/internal/util/Preconditions"), (0, u "SIOOBE_FORMATTER"), (0, u "Ljava/util/function/BiFunction;"), (0, .methodref 1054 1060), (0, .nameAndType 501 1061), (0, u "(IILjava/util/function/BiFunction;)I"), (39, u "serialPersistentFields"), (0, u "[Ljava/io/ObjectStreamField;"), (0, .class_ 1104), (0, u "java/lang/String$CaseInsensitiveComparator"), (1, .class_ 1107), (0, u "java/io/Serializable"), (0, .class_ 1109), (0, u "java/lang/Comparable"), (0, .class_ 1111), (0, u "java/lang/constant/Constable"), (0, .class_ 1113), (0, u "java/lang/constant/ConstantDesc"), (2, u "serialVersionUID"), (0, u "J"), (3, u "REPL"), (0, u "C"), (2, u "LATIN1"), (1, u "UTF16"), (105, u "(Ljava/lang/StringBuilder;)V")] 217

def k11m0 : Method := { name := "<init>", desc := "()V", sig := { parameters := [], returnType := none }, accessFlags := 1, code := none }
def k11c1 : Code := { maxStack := 3, maxLocals := 2, code := jdk_42_method_53_code, exceptionTable := #[], attributes := #[] }
def k11m1 : Method := { name := "<init>", desc := "(Ljava/lang/StringBuilder;)V", sig := { parameters := [(.object "java/lang/StringBuilder")], returnType := none }, accessFlags := 1, code := some k11c1 }
def k11c2 : Code := { maxStack := 2, maxLocals := 1, code := jdk_42_method_54_code, exceptionTable := #[], attributes := #[] }
def k11m2 : Method := { name := "length", desc := "()I", sig := { parameters := [], returnType := some .int }, accessFlags := 1, code := some k11c2 }
def k11c3 : Code := { maxStack := 2, maxLocals := 2, code := jdk_42_method_56_code, exceptionTable := #[], attributes := #[] }
def k11m3 : Method := { name := "charAt", desc := "(I)C", sig := { parameters := [.int], returnType := some .char }, accessFlags := 1, code := some k11c3 }
def k11c4 : Code := { maxStack := 5, maxLocals := 4, code := jdk_42_method_147_code, exceptionTable := #[], attributes := #[] }
def k11m4 : Method := { name := "getBytes", desc := "([BIB)V", sig := { parameters := [(.array .byte), .int, .byte], returnType := none }, accessFlags := 0, code := some k11c4 }
def k11c5 : Code := { maxStack := 5, maxLocals := 5, code := jdk_42_method_150_code, exceptionTable := #[], attributes := #[] }
def k11m5 : Method := { name := "<init>", desc := "(Ljava/lang/AbstractStringBuilder;Ljava/lang/Void;)V", sig := { parameters := [(.object "java/lang/AbstractStringBuilder"), (.object "java/lang/Void")], returnType := none }, accessFlags := 0, code := some k11c5 }
def k11c6 : Code := { maxStack := 1, maxLocals := 1, code := jdk_42_method_152_code, exceptionTable := #[], attributes := #[] }
def k11m6 : Method := { name := "coder", desc := "()B", sig := { parameters := [], returnType := some .byte }, accessFlags := 0, code := some k11c6 }
def k11c7 : Code := { maxStack := 1, maxLocals := 1, code := jdk_42_method_154_code, exceptionTable := #[], attributes := #[] }
def k11m7 : Method := { name := "isLatin1", desc := "()Z", sig := { parameters := [], returnType := some .boolean }, accessFlags := 0, code := some k11c7 }
def k11c8 : Code := { maxStack := 3, maxLocals := 2, code := jdk_42_method_155_code, exceptionTable := #[], attributes := #[] }
def k11m8 : Method := { name := "checkIndex", desc := "(II)V", sig := { parameters := [.int, .int], returnType := none }, accessFlags := 8, code := some k11c8 }
/-- java/lang/String -/
def k11 : Class := { plain "java/lang/String" (some 0) with
  accessFlags := 49
  interfaces := #[6, 7, 4, 9, 10]
  cf := some (fileOf pool11 10 #[.nestMembers #[1103]] #[{ accessFlags := 1, nameIndex := 5, descriptorIndex := 6, attributes := #[] }, { accessFlags := 1, nameIndex := 5, descriptorIndex := 1233, attributes := #[] }, { accessFlags := 1, nameIndex := 507, descriptorIndex := 334, attributes := #[] }, { accessFlags := 1, nameIndex := 497, descriptorIndex := 427, attributes := #[] }, { accessFlags := 0, nameIndex := 532, descriptorIndex := 821, attributes := #[] }, { accessFlags := 0, nameIndex := 5, descriptorIndex := 491, attributes := #[] }, { accessFlags := 0, nameIndex := 17, descriptorIndex := 337, attributes := #[] }, { accessFlags := 0, nameIndex := 494, descriptorIndex := 142, attributes := #[] }, { accessFlags := 8, nameIndex := 501, descriptorIndex := 391, attributes := #[] }] 49 2 #[1106, 1108, 575, 1110, 1112] #[{ accessFlags := 18, nameIndex := 13, descriptorIndex := 14, attributes := #[] }, { accessFlags := 18, nameIndex := 17, descriptorIndex := 18, attributes := #[] }, { accessFlags := 2, nameIndex := 21, descriptorIndex := 22, attributes := #[] }, { accessFlags := 2, nameIndex := 25, descriptorIndex := 26, attributes := #[] }, { accessFlags := 26, nameIndex := 1116, descriptorIndex := 1117, attributes := #[] }, { accessFlags := 24, nameIndex := 40, descriptorIndex := 26, attributes := #[] }, { accessFlags := 26, nameIndex := 1101, descriptorIndex := 1102, attributes := #[] }, { accessFlags := 26, nameIndex := 1121, descriptorIndex := 1122, attributes := #[] }, { accessFlags := 25, nameIndex := 599, descriptorIndex := 600, attributes := #[] }, { accessFlags := 24, nameIndex := 1125, descriptorIndex := 18, attributes := #[] }, { accessFlags := 24, nameIndex := 1127, descriptorIndex := 18, attributes := #[] }])
  fields := #[{ name := "value", type := (.array .byte), accessFlags := 18, slot := 0, constantValue := 0 }, { name := "coder", type := .byte, accessFlags := 18, slot := 1, constantValue := 0 }, { name := "hash", type := .int, accessFlags := 2, slot := 2, constantValue := 0 }, { name := "hashIsZero", type := .boolean, accessFlags := 2, slot := 3, constantValue := 0 }, { name := "serialVersionUID", type := .long, accessFlags := 26, slot := 0, constantValue := 0 }, { name := "COMPACT_STRINGS", type := .boolean, accessFlags := 24, slot := 1, constantValue := 0 }, { name := "serialPersistentFields", type := (.array (.object "java/io/ObjectStreamField")), accessFlags := 26, slot := 2, constantValue := 0 }, { name := "REPL", type := .char, accessFlags := 26, slot := 3, constantValue := 0 }, { name := "CASE_INSENSITIVE_ORDER", type := (.object "java/util/Comparator"), accessFlags := 25, slot := 4, constantValue := 0 }, { name := "LATIN1", type := .byte, accessFlags := 24, slot := 5, constantValue := 0 }, { name := "UTF16", type := .byte, accessFlags := 24, slot := 6, constantValue := 0 }]
  methods := #[k11m0, k11m1, k11m2, k11m3, k11m4, k11m5, k11m6, k11m7, k11m8]
  instanceTypes := #[(.array .byte), .byte, .int, .boolean]
  staticTypes := #[.long, .boolean, (.array (.object "java/io/ObjectStreamField")), .char, (.object "java/util/Comparator"), .byte, .byte]
  resolved := Array.replicate 1451 none
  statics := some 0 }

def pool12 : Array CpInfo := pool [(2, .class_ 4), (1, u "java/lang/Object"), (0, u "<init>"), (0, u "()V"), (1, .class_ 10), (1, u "java/lang/Number"), (2, .class_ 14), (0, u "java/io/Serializable"), (0, u "serialVersionUID"), (0, u "J")] 20

def k12m0 : Method := { name := "<init>", desc := "()V", sig := { parameters := [], returnType := none }, accessFlags := 1, code := none }
/-- java/lang/Number -/
def k12 : Class := { plain "java/lang/Number" (some 0) with
  accessFlags := 1057
  interfaces := #[6]
  cf := some (fileOf pool12 8 #[] #[{ accessFlags := 1, nameIndex := 5, descriptorIndex := 6, attributes := #[] }] 1057 2 #[13] #[{ accessFlags := 26, nameIndex := 15, descriptorIndex := 16, attributes := #[] }])
  fields := #[{ name := "serialVersionUID", type := .long, accessFlags := 26, slot := 0, constantValue := 0 }]
  methods := #[k12m0]
  instanceTypes := #[]
  staticTypes := #[.long]
  resolved := Array.replicate 37 none
  statics := none }

def pool13 : Array CpInfo := pool [(1, .class_ 2), (0, u "java/lang/Long"), (15, .class_ 20), (1, u "java/lang/Integer"), (32, .long 10), (47, u "(J)I"), (18, u "stringSize"), (2, u "getChars"), (0, u "(JI[B)I"), (4, .long 18446744071562067968), (1, .long 100), (1, .fieldref 18 134), (0, .nameAndType 135 136), (0, u "DigitOnes"), (0, u "[B"), (0, .fieldref 18 138), (0, .nameAndType 139 136), (0, u "DigitTens"), (0, .long 18446744073709551606), (94, .class_ 237), (1, u "java/lang/Long$LongCache"), (33, .class_ 272), (0, u "java/lang/Number"), (2, u "value"), (0, u "J"), (84, u "TYPE"), (0, u "Ljava/lang/Class;"), (0, .class_ 364), (0, u "java/lang/Comparable"), (0, .class_ 366), (0, u "java/lang/constant/Constable"), (0, .class_ 368), (0, u "java/lang/constant/ConstantDesc"), (0, u "MIN_VALUE"), (1, u "MAX_VALUE"), (4, u "SIZE"), (0, u "I"), (1, u "BYTES"), (1, u "serialVersionUID")] 142

def k13c0 : Code := { maxStack := 4, maxLocals := 11, code := jdk_35_method_14_code, exceptionTable := #[], attributes := #[] }
def k13m0 : Method := { name := "getChars", desc := "(JI[B)I", sig := { parameters := [.long, .int, (.array .byte)], returnType := some .int }, accessFlags := 8, code := some k13c0 }
def k13c1 : Code := { maxStack := 4, maxLocals := 6, code := jdk_35_method_15_code, exceptionTable := #[], attributes := #[] }
def k13m1 : Method := { name := "stringSize", desc := "(J)I", sig := { parameters := [.long], returnType := some .int }, accessFlags := 8, code := some k13c1 }
/-- java/lang/Long -/
def k13 : Class := { plain "java/lang/Long" (some 12) with
  accessFlags := 49
  interfaces := #[7, 9, 10]
  cf := some (fileOf pool13 1 #[.nestMembers #[235]] #[{ accessFlags := 8, nameIndex := 123, descriptorIndex := 124, attributes := #[] }, { accessFlags := 8, nameIndex := 120, descriptorIndex := 101, attributes := #[] }] 49 271 #[363, 365, 367] #[{ accessFlags := 25, nameIndex := 369, descriptorIndex := 276, attributes := #[] }, { accessFlags := 25, nameIndex := 371, descriptorIndex := 276, attributes := #[] }, { accessFlags := 25, nameIndex := 361, descriptorIndex := 362, attributes := #[] }, { accessFlags := 18, nameIndex := 275, descriptorIndex := 276, attributes := #[] }, { accessFlags := 25, nameIndex := 376, descriptorIndex := 377, attributes := #[] }, { accessFlags := 25, nameIndex := 379, descriptorIndex := 377, attributes := #[] }, { accessFlags := 26, nameIndex := 381, descriptorIndex := 276, attributes := #[] }])
  fields := #[{ name := "MIN_VALUE", type := .long, accessFlags := 25, slot := 0, constantValue := 0 }, { name := "MAX_VALUE", type := .long, accessFlags := 25, slot := 1, constantValue := 0 }, { name := "TYPE", type := (.object "java/lang/Class"), accessFlags := 25, slot := 2, constantValue := 0 }, { name := "value", type := .long, accessFlags := 18, slot := 0, constantValue := 0 }, { name := "SIZE", type := .int, accessFlags := 25, slot := 3, constantValue := 0 }, { name := "BYTES", type := .int, accessFlags := 25, slot := 4, constantValue := 0 }, { name := "serialVersionUID", type := .long, accessFlags := 26, slot := 5, constantValue := 0 }]
  methods := #[k13m0, k13m1]
  instanceTypes := #[.long]
  staticTypes := #[.long, .long, (.object "java/lang/Class"), .int, .int, .long]
  resolved := Array.replicate 524 none
  statics := none }

def pool14 : Array CpInfo := pool [(1, .class_ 2), (0, u "java/lang/Integer"), (16, u "digits"), (0, u "[C"), (64, u "DigitOnes"), (0, u "[B"), (2, u "DigitTens"), (99, .class_ 190), (0, u "java/lang/Integer$IntegerCache"), (3, u "I"), (8, .class_ 204), (0, u "java/lang/Number"), (2, u "value"), (94, u "TYPE"), (0, u "Ljava/lang/Class;"), (0, .class_ 305), (0, u "java/lang/Comparable"), (0, .class_ 307), (0, u "java/lang/constant/Constable"), (0, .class_ 309), (0, u "java/lang/constant/ConstantDesc"), (0, u "MIN_VALUE"), (1, u "MAX_VALUE"), (3, u "SIZE"), (1, u "BYTES"), (1, u "serialVersionUID"), (0, u "J")] 131

/-- java/lang/Integer -/
def k14 : Class := { plain "java/lang/Integer" (some 12) with
  accessFlags := 49
  interfaces := #[7, 9, 10]
  cf := some (fileOf pool14 1 #[.nestMembers #[189]] #[] 49 203 #[304, 306, 308] #[{ accessFlags := 25, nameIndex := 310, descriptorIndex := 194, attributes := #[] }, { accessFlags := 25, nameIndex := 312, descriptorIndex := 194, attributes := #[] }, { accessFlags := 25, nameIndex := 302, descriptorIndex := 303, attributes := #[] }, { accessFlags := 24, nameIndex := 19, descriptorIndex := 20, attributes := #[] }, { accessFlags := 24, nameIndex := 89, descriptorIndex := 86, attributes := #[] }, { accessFlags := 24, nameIndex := 85, descriptorIndex := 86, attributes := #[] }, { accessFlags := 18, nameIndex := 207, descriptorIndex := 194, attributes := #[] }, { accessFlags := 25, nameIndex := 316, descriptorIndex := 194, attributes := #[] }, { accessFlags := 25, nameIndex := 318, descriptorIndex := 194, attributes := #[] }, { accessFlags := 26, nameIndex := 320, descriptorIndex := 321, attributes := #[] }])
  fields := #[{ name := "MIN_VALUE", type := .int, accessFlags := 25, slot := 0, constantValue := 0 }, { name := "MAX_VALUE", type := .int, accessFlags := 25, slot := 1, constantValue := 0 }, { name := "TYPE", type := (.object "java/lang/Class"), accessFlags := 25, slot := 2, constantValue := 0 }, { name := "digits", type := (.array .char), accessFlags := 24, slot := 3, constantValue := 0 }, { name := "DigitTens", type := (.array .byte), accessFlags := 24, slot := 4, constantValue := 0 }, { name := "DigitOnes", type := (.array .byte), accessFlags := 24, slot := 5, constantValue := 0 }, { name := "value", type := .int, accessFlags := 18, slot := 0, constantValue := 0 }, { name := "SIZE", type := .int, accessFlags := 25, slot := 6, constantValue := 0 }, { name := "BYTES", type := .int, accessFlags := 25, slot := 7, constantValue := 0 }, { name := "serialVersionUID", type := .long, accessFlags := 26, slot := 8, constantValue := 0 }]
  methods := #[]
  instanceTypes := #[.int]
  staticTypes := #[.int, .int, (.object "java/lang/Class"), (.array .char), (.array .byte), (.array .byte), .int, .int, .long]
  resolved := Array.replicate 453 none
  statics := some 1 }

def pool15 : Array CpInfo := pool [(2, .class_ 4), (1, u "java/lang/Object"), (0, u "<init>"), (0, u "()V"), (1, .class_ 10), (1, u "java/lang/System"), (0, u "allowSecurityManager"), (0, u "I"), (16, u "cons"), (0, u "Ljava/io/Console;"), (77, .class_ 110), (1, u "java/lang/System$CallersHolder"), (43, u "initialErrStream"), (0, u "Ljava/io/PrintStream;"), (19, u "security"), (0, u "Ljava/lang/SecurityManager;"), (31, .class_ 209), (0, u "java/lang/System$1"), (7, u "props"), (0, u "Ljava/util/Properties;"), (2, u "lineSeparator"), (0, u "Ljava/lang/String;"), (96, .class_ 321), (1, u "java/lang/System$LoggerFinder"), (5, .class_ 328), (0, u "java/lang/System$Logger"), (67, u "err"), (2, u "out"), (91, u "notSupportedJnuEncoding"), (15, u "in"), (17, u "initialIn"), (0, u "Ljava/io/InputStream;"), (35, u "bootLayer"), (0, u "Ljava/lang/ModuleLayer;"), (99, .class_ 664), (0, u "java/lang/System$2"), (9, u "NEVER"), (2, u "MAYBE"), (49, u "arraycopy"), (0, u "(Ljava/lang/Object;ILjava/lang/Object;II)V"), (72, .class_ 802), (0, u "java/lang/System$Logger$Level")] 31

def k15m0 : Method := { name := "<init>", desc := "()V", sig := { parameters := [], returnType := none }, accessFlags := 2, code := none }
def k15m1 : Method := { name := "arraycopy", desc := "(Ljava/lang/Object;ILjava/lang/Object;II)V", sig := { parameters := [(.object "java/lang/Object"), .int, (.object "java/lang/Object"), .int, .int], returnType := none }, accessFlags := 265, code := none }
/-- java/lang/System -/
def k15 : Class := { plain "java/lang/System" (some 0) with
  accessFlags := 49
  interfaces := #[]
  cf := some (fileOf pool15 8 #[.nestMembers #[319, 327, 801, 108, 663, 208]] #[{ accessFlags := 2, nameIndex := 5, descriptorIndex := 6, attributes := #[] }, { accessFlags := 265, nameIndex := 727, descriptorIndex := 728, attributes := #[] }] 49 2 #[] #[{ accessFlags := 25, nameIndex := 507, descriptorIndex := 526, attributes := #[] }, { accessFlags := 25, nameIndex := 399, descriptorIndex := 155, attributes := #[] }, { accessFlags := 25, nameIndex := 396, descriptorIndex := 155, attributes := #[] }, { accessFlags := 10, nameIndex := 525, descriptorIndex := 526, attributes := #[] }, { accessFlags := 26, nameIndex := 674, descriptorIndex := 12, attributes := #[] }, { accessFlags := 26, nameIndex := 677, descriptorIndex := 12, attributes := #[] }, { accessFlags := 10, nameIndex := 11, descriptorIndex := 12, attributes := #[] }, { accessFlags := 74, nameIndex := 175, descriptorIndex := 176, attributes := #[] }, { accessFlags := 10, nameIndex := 491, descriptorIndex := 222, attributes := #[] }, { accessFlags := 74, nameIndex := 29, descriptorIndex := 30, attributes := #[] }, { accessFlags := 74, nameIndex := 154, descriptorIndex := 155, attributes := #[] }, { accessFlags := 10, nameIndex := 217, descriptorIndex := 218, attributes := #[] }, { accessFlags := 10, nameIndex := 221, descriptorIndex := 222, attributes := #[] }, { accessFlags := 8, nameIndex := 562, descriptorIndex := 563, attributes := #[] }])
  fields := #[{ name := "in", type := (.object "java/io/InputStream"), accessFlags := 25, slot := 0, constantValue := 0 }, { name := "out", type := (.object "java/io/PrintStream"), accessFlags := 25, slot := 1, constantValue := 0 }, { name := "err", type := (.object "java/io/PrintStream"), accessFlags := 25, slot := 2, constantValue := 0 }, { name := "initialIn", type := (.object "java/io/InputStream"), accessFlags := 10, slot := 3, constantValue := 0 }, { name := "NEVER", type := .int, accessFlags := 26, slot := 4, constantValue := 0 }, { name := "MAYBE", type := .int, accessFlags := 26, slot := 5, constantValue := 0 }, { name := "allowSecurityManager", type := .int, accessFlags := 10, slot := 6, constantValue := 0 }, { name := "security", type := (.object "java/lang/SecurityManager"), accessFlags := 74, slot := 7, constantValue := 0 }, { name := "notSupportedJnuEncoding", type := (.object "java/lang/String"), accessFlags := 10, slot := 8, constantValue := 0 }, { name := "cons", type := (.object "java/io/Console"), accessFlags := 74, slot := 9, constantValue := 0 }, { name := "initialErrStream", type := (.object "java/io/PrintStream"), accessFlags := 74, slot := 10, constantValue := 0 }, { name := "props", type := (.object "java/util/Properties"), accessFlags := 10, slot := 11, constantValue := 0 }, { name := "lineSeparator", type := (.object "java/lang/String"), accessFlags := 10, slot := 12, constantValue := 0 }, { name := "bootLayer", type := (.object "java/lang/ModuleLayer"), accessFlags := 8, slot := 13, constantValue := 0 }]
  methods := #[k15m0, k15m1]
  instanceTypes := #[]
  staticTypes := #[(.object "java/io/InputStream"), (.object "java/io/PrintStream"), (.object "java/io/PrintStream"), (.object "java/io/InputStream"), .int, .int, .int, (.object "java/lang/SecurityManager"), (.object "java/lang/String"), (.object "java/io/Console"), (.object "java/io/PrintStream"), (.object "java/util/Properties"), (.object "java/lang/String"), (.object "java/lang/ModuleLayer")]
  resolved := Array.replicate 834 none
  statics := none }

def pool16 : Array CpInfo := pool [(2, .class_ 4), (1, u "java/lang/Object"), (0, u "<init>"), (0, u "()V"), (7, .class_ 16), (1, u "java/util/Arrays"), (57, .class_ 76), (1, u "java/util/Arrays$NaturalOrder"), (32, u "()Ljava/lang/Object;"), (3, .class_ 115), (1, u "java/util/Arrays$LegacyMergeSort"), (1, u "Z"), (10, .nameAndType 129 109), (0, u "clone"), (9, u "copyOfRange"), (10, .methodref 151 152), (0, .class_ 153), (0, .nameAndType 154 155), (0, u "java/lang/System"), (0, u "arraycopy"), (0, u "(Ljava/lang/Object;ILjava/lang/Object;II)V"), (146, u "copyOf"), (1, .methodref 305 306), (0, .class_ 307), (0, .nameAndType 308 309), (0, u "java/lang/Math"), (0, u "min"), (0, u "(II)I"), (0, .methodref 311 128), (0, .class_ 312), (0, u "[B"), (26, .methodref 14 340), (0, .nameAndType 341 342), (0, u "copyOfRangeByte"), (0, u "([BII)[B"), (0, .methodref 14 344), (0, .nameAndType 345 346), (0, u "checkLength"), (0, u "(II)V"), (28, .class_ 376), (0, u "java/util/Arrays$ArrayList"), (68, u "$assertionsDisabled"), (269, u "MIN_ARRAY_SORT_GRAN"), (0, u "I"), (2, u "INSERTIONSORT_THRESHOLD"), (149, u "([BI)[B"), (105, .class_ 976), (0, u "java/util/Arrays$ArrayItr")] 52

def k16m0 : Method := { name := "<init>", desc := "()V", sig := { parameters := [], returnType := none }, accessFlags := 2, code := none }
def k16c1 : Code := { maxStack := 6, maxLocals := 3, code := jdk_65_method_121_code, exceptionTable := #[], attributes := #[] }
def k16m1 : Method := { name := "copyOf", desc := "([BI)[B", sig := { parameters := [(.array .byte), .int], returnType := some (.array .byte) }, accessFlags := 9, code := some k16c1 }
def k16c2 : Code := { maxStack := 4, maxLocals := 2, code := jdk_65_method_131_code, exceptionTable := #[], attributes := #[] }
def k16m2 : Method := { name := "checkLength", desc := "(II)V", sig := { parameters := [.int, .int], returnType := none }, accessFlags := 10, code := some k16c2 }
def k16c3 : Code := { maxStack := 3, maxLocals := 3, code := jdk_65_method_132_code, exceptionTable := #[], attributes := #[] }
def k16m3 : Method := { name := "copyOfRange", desc := "([BII)[B", sig := { parameters := [(.array .byte), .int, .int], returnType := some (.array .byte) }, accessFlags := 9, code := some k16c3 }
def k16c4 : Code := { maxStack := 6, maxLocals := 5, code := jdk_65_method_133_code, exceptionTable := #[], attributes := #[] }
def k16m4 : Method := { name := "copyOfRangeByte", desc := "([BII)[B", sig := { parameters := [(.array .byte), .int, .int], returnType := some (.array .byte) }, accessFlags := 10, code := some k16c4 }
/-- java/util/Arrays -/
def k16 : Class := { plain "java/util/Arrays" (some 0) with
  accessFlags := 49
  interfaces := #[]
  cf := some (fileOf pool16 14 #[.nestMembers #[975, 375, 113, 74]] #[{ accessFlags := 2, nameIndex := 5, descriptorIndex := 6, attributes := #[] }, { accessFlags := 9, nameIndex := 302, descriptorIndex := 869, attributes := #[] }, { accessFlags := 10, nameIndex := 345, descriptorIndex := 346, attributes := #[] }, { accessFlags := 9, nameIndex := 139, descriptorIndex := 342, attributes := #[] }, { accessFlags := 10, nameIndex := 341, descriptorIndex := 342, attributes := #[] }] 49 2 #[] #[{ accessFlags := 26, nameIndex := 715, descriptorIndex := 716, attributes := #[] }, { accessFlags := 26, nameIndex := 719, descriptorIndex := 716, attributes := #[] }, { accessFlags := 4120, nameIndex := 445, descriptorIndex := 117, attributes := #[] }])
  fields := #[{ name := "MIN_ARRAY_SORT_GRAN", type := .int, accessFlags := 26, slot := 0, constantValue := 0 }, { name := "INSERTIONSORT_THRESHOLD", type := .int, accessFlags := 26, slot := 1, constantValue := 0 }, { name := "$assertionsDisabled", type := .boolean, accessFlags := 4120, slot := 2, constantValue := 0 }]
  methods := #[k16m0, k16m1, k16m2, k16m3, k16m4]
  instanceTypes := #[]
  staticTypes := #[.int, .int, .boolean]
  resolved := Array.replicate 1029 none
  statics := none }

def pool17 : Array CpInfo := pool [(1, .class_ 2), (0, u "java/lang/Math"), (1, .class_ 6), (1, u "java/lang/Object"), (0, u "<init>"), (0, u "()V"), (89, .class_ 100), (1, u "java/lang/Math$RandomNumberGeneratorHolder"), (71, u "negativeZeroFloatBits"), (0, u "J"), (2, u "negativeZeroDoubleBits"), (21, u "max"), (2, u "min"), (43, u "$assertionsDisabled"), (0, u "Z"), (88, u "(II)I"), (2, u "twoToTheDoubleScaleDown"), (0, u "D"), (4, u "twoToTheDoubleScaleUp"), (9, u "E"), (3, u "PI"), (2, u "TAU"), (2, u "DEGREES_TO_RADIANS"), (0, u "RADIANS_TO_DEGREES")] 94

def k17m0 : Method := { name := "<init>", desc := "()V", sig := { parameters := [], returnType := none }, accessFlags := 2, code := none }
def k17c1 : Code := { maxStack := 2, maxLocals := 2, code := jdk_29_method_65_code, exceptionTable := #[], attributes := #[] }
def k17m1 : Method := { name := "max", desc := "(II)I", sig := { parameters := [.int, .int], returnType := some .int }, accessFlags := 9, code := some k17c1 }
def k17c2 : Code := { maxStack := 2, maxLocals := 2, code := jdk_29_method_69_code, exceptionTable := #[], attributes := #[] }
def k17m2 : Method := { name := "min", desc := "(II)I", sig := { parameters := [.int, .int], returnType := some .int }, accessFlags := 9, code := some k17c2 }
/-- java/lang/Math -/
def k17 : Class := { plain "java/lang/Math" (some 0) with
  accessFlags := 49
  interfaces := #[]
  cf := some (fileOf pool17 1 #[.nestMembers #[98]] #[{ accessFlags := 2, nameIndex := 7, descriptorIndex := 8, attributes := #[] }, { accessFlags := 9, nameIndex := 198, descriptorIndex := 335, attributes := #[] }, { accessFlags := 9, nameIndex := 201, descriptorIndex := 335, attributes := #[] }] 49 4 #[] #[{ accessFlags := 25, nameIndex := 354, descriptorIndex := 339, attributes := #[] }, { accessFlags := 25, nameIndex := 358, descriptorIndex := 339, attributes := #[] }, { accessFlags := 25, nameIndex := 361, descriptorIndex := 339, attributes := #[] }, { accessFlags := 26, nameIndex := 364, descriptorIndex := 339, attributes := #[] }, { accessFlags := 26, nameIndex := 365, descriptorIndex := 339, attributes := #[] }, { accessFlags := 26, nameIndex := 172, descriptorIndex := 173, attributes := #[] }, { accessFlags := 26, nameIndex := 176, descriptorIndex := 173, attributes := #[] }, { accessFlags := 8, nameIndex := 344, descriptorIndex := 339, attributes := #[] }, { accessFlags := 8, nameIndex := 338, descriptorIndex := 339, attributes := #[] }, { accessFlags := 4120, nameIndex := 245, descriptorIndex := 246, attributes := #[] }])
  fields := #[{ name := "E", type := .double, accessFlags := 25, slot := 0, constantValue := 0 }, { name := "PI", type := .double, accessFlags := 25, slot := 1, constantValue := 0 }, { name := "TAU", type := .double, accessFlags := 25, slot := 2, constantValue := 0 }, { name := "DEGREES_TO_RADIANS", type := .double, accessFlags := 26, slot := 3, constantValue := 0 }, { name := "RADIANS_TO_DEGREES", type := .double, accessFlags := 26, slot := 4, constantValue := 0 }, { name := "negativeZeroFloatBits", type := .long, accessFlags := 26, slot := 5, constantValue := 0 }, { name := "negativeZeroDoubleBits", type := .long, accessFlags := 26, slot := 6, constantValue := 0 }, { name := "twoToTheDoubleScaleUp", type := .double, accessFlags := 8, slot := 7, constantValue := 0 }, { name := "twoToTheDoubleScaleDown", type := .double, accessFlags := 8, slot := 8, constantValue := 0 }, { name := "$assertionsDisabled", type := .boolean, accessFlags := 4120, slot := 9, constantValue := 0 }]
  methods := #[k17m0, k17m1, k17m2]
  instanceTypes := #[]
  staticTypes := #[.double, .double, .double, .double, .double, .long, .long, .double, .double, .boolean]
  resolved := Array.replicate 460 none
  statics := none }

def pool18 : Array CpInfo := pool [(1, .class_ 2), (0, u "java/lang/String"), (1, .class_ 6), (1, u "java/lang/Object"), (0, u "<init>"), (0, u "()V"), (0, .methodref 1 10), (0, .nameAndType 11 12), (0, u "checkIndex"), (0, u "(II)V"), (1, .class_ 16), (1, u "java/lang/StringLatin1"), (36, u "([BI)C"), (67, u "$assertionsDisabled"), (0, u "Z"), (98, .class_ 223), (1, u "java/lang/StringLatin1$LinesSpliterator"), (28, u "charAt"), (137, .class_ 391), (0, u "java/lang/StringLatin1$CharsSpliterator")] 3

def k18m0 : Method := { name := "<init>", desc := "()V", sig := { parameters := [], returnType := none }, accessFlags := 0, code := none }
def k18c1 : Code := { maxStack := 2, maxLocals := 2, code := jdk_43_method_2_code, exceptionTable := #[], attributes := #[] }
def k18m1 : Method := { name := "charAt", desc := "([BI)C", sig := { parameters := [(.array .byte), .int], returnType := some .char }, accessFlags := 9, code := some k18c1 }
/-- java/lang/StringLatin1 -/
def k18 : Class := { plain "java/lang/StringLatin1" (some 0) with
  accessFlags := 48
  interfaces := #[]
  cf := some (fileOf pool18 14 #[.nestMembers #[390, 221]] #[{ accessFlags := 0, nameIndex := 7, descriptorIndex := 8, attributes := #[] }, { accessFlags := 9, nameIndex := 252, descriptorIndex := 53, attributes := #[] }] 48 4 #[] #[{ accessFlags := 4120, nameIndex := 121, descriptorIndex := 122, attributes := #[] }])
  fields := #[{ name := "$assertionsDisabled", type := .boolean, accessFlags := 4120, slot := 0, constantValue := 0 }]
  methods := #[k18m0, k18m1]
  instanceTypes := #[]
  staticTypes := #[.boolean]
  resolved := Array.replicate 395 none
  statics := none }

def pool19 : Array CpInfo := pool [(2, .class_ 4), (1, u "java/lang/Object"), (0, u "<init>"), (0, u "()V"), (17, .class_ 26), (1, u "jdk/internal/util/Preconditions"), (6, u "checkIndex"), (21, .class_ 56), (0, u "jdk/internal/util/Preconditions$4"), (57, .class_ 115), (0, u "jdk/internal/util/Preconditions$1"), (7, u "SIOOBE_FORMATTER"), (0, u "Ljava/util/function/BiFunction;"), (0, .class_ 126), (0, u "jdk/internal/util/Preconditions$2"), (3, u "AIOOBE_FORMATTER"), (0, .class_ 132), (0, u "jdk/internal/util/Preconditions$3"), (3, u "IOOBE_FORMATTER"), (41, u "(IILjava/util/function/BiFunction;)I")] 15

def k19m0 : Method := { name := "<init>", desc := "()V", sig := { parameters := [], returnType := none }, accessFlags := 1, code := none }
def k19c1 : Code := { maxStack := 3, maxLocals := 3, code := jdk_41_method_11_code, exceptionTable := #[], attributes := #[] }
def k19m1 : Method := { name := "checkIndex", desc := "(IILjava/util/function/BiFunction;)I", sig := { parameters := [.int, .int, (.object "java/util/function/BiFunction")], returnType := some .int }, accessFlags := 9, code := some k19c1 }
/-- jdk/internal/util/Preconditions -/
def k19 : Class := { plain "jdk/internal/util/Preconditions" (some 0) with
  accessFlags := 33
  interfaces := #[]
  cf := some (fileOf pool19 24 #[.nestMembers #[55, 131, 125, 114]] #[{ accessFlags := 1, nameIndex := 5, descriptorIndex := 6, attributes := #[] }, { accessFlags := 9, nameIndex := 33, descriptorIndex := 178, attributes := #[] }] 33 2 #[] #[{ accessFlags := 25, nameIndex := 123, descriptorIndex := 124, attributes := #[] }, { accessFlags := 25, nameIndex := 130, descriptorIndex := 124, attributes := #[] }, { accessFlags := 25, nameIndex := 136, descriptorIndex := 124, attributes := #[] }])
  fields := #[{ name := "SIOOBE_FORMATTER", type := (.object "java/util/function/BiFunction"), accessFlags := 25, slot := 0, constantValue := 0 }, { name := "AIOOBE_FORMATTER", type := (.object "java/util/function/BiFunction"), accessFlags := 25, slot := 1, constantValue := 0 }, { name := "IOOBE_FORMATTER", type := (.object "java/util/function/BiFunction"), accessFlags := 25, slot := 2, constantValue := 0 }]
  methods := #[k19m0, k19m1]
  instanceTypes := #[]
  staticTypes := #[(.object "java/util/function/BiFunction"), (.object "java/util/function/BiFunction"), (.object "java/util/function/BiFunction")]
  resolved := Array.replicate 194 none
  statics := some 2 }

def pool20 : Array CpInfo := pool [(9, u "<init>"), (6, .class_ 18), (1, u "java/lang/Object"), (0, u "()V"), (1, .class_ 23), (1, u "jdk/internal/util/ArraysSupport"), (0, u "LOG2_ARRAY_LONG_INDEX_SCALE"), (0, u "I"), (2, u "U"), (0, u "Ljdk/internal/misc/Unsafe;"), (8, u "BIG_ENDIAN"), (0, u "Z"), (8, u "LOG2_BYTE_BIT_SIZE"), (4, u "LOG2_ARRAY_INT_INDEX_SCALE"), (54, u "JLA"), (0, u "Ljdk/internal/access/JavaLangAccess;"), (11, u "LOG2_ARRAY_BOOLEAN_INDEX_SCALE"), (9, u "LOG2_ARRAY_BYTE_INDEX_SCALE"), (5, u "LOG2_ARRAY_CHAR_INDEX_SCALE"), (5, u "LOG2_ARRAY_SHORT_INDEX_SCALE"), (18, u "LOG2_ARRAY_FLOAT_INDEX_SCALE"), (24, u "LOG2_ARRAY_DOUBLE_INDEX_SCALE"), (6, .methodref 195 196), (0, .class_ 197), (0, .nameAndType 198 199), (0, u "java/lang/Math"), (0, u "max"), (0, u "(II)I"), (0, .integer 2147483639), (76, u "T_BOOLEAN"), (2, u "T_CHAR"), (1, u "T_FLOAT"), (1, u "T_DOUBLE"), (1, u "T_BYTE"), (1, u "T_SHORT"), (1, u "T_INT"), (1, u "T_LONG"), (1, u "SOFT_MAX_ARRAY_LENGTH"), (56, u "newLength"), (0, u "(III)I")] 25

def k20m0 : Method := { name := "<init>", desc := "()V", sig := { parameters := [], returnType := none }, accessFlags := 2, code := none }
def k20c1 : Code := { maxStack := 3, maxLocals := 4, code := jdk_48_method_27_code, exceptionTable := #[], attributes := #[] }
def k20m1 : Method := { name := "newLength", desc := "(III)I", sig := { parameters := [.int, .int, .int], returnType := some .int }, accessFlags := 9, code := some k20c1 }
/-- jdk/internal/util/ArraysSupport -/
def k20 : Class := { plain "jdk/internal/util/ArraysSupport" (some 0) with
  accessFlags := 33
  interfaces := #[]
  cf := some (fileOf pool20 21 #[] #[{ accessFlags := 2, nameIndex := 9, descriptorIndex := 19, attributes := #[] }, { accessFlags := 9, nameIndex := 351, descriptorIndex := 352, attributes := #[] }] 33 16 #[] #[{ accessFlags := 24, nameIndex := 28, descriptorIndex := 29, attributes := #[] }, { accessFlags := 26, nameIndex := 38, descriptorIndex := 39, attributes := #[] }, { accessFlags := 25, nameIndex := 121, descriptorIndex := 25, attributes := #[] }, { accessFlags := 25, nameIndex := 131, descriptorIndex := 25, attributes := #[] }, { accessFlags := 25, nameIndex := 137, descriptorIndex := 25, attributes := #[] }, { accessFlags := 25, nameIndex := 143, descriptorIndex := 25, attributes := #[] }, { accessFlags := 25, nameIndex := 53, descriptorIndex := 25, attributes := #[] }, { accessFlags := 25, nameIndex := 24, descriptorIndex := 25, attributes := #[] }, { accessFlags := 25, nameIndex := 162, descriptorIndex := 25, attributes := #[] }, { accessFlags := 25, nameIndex := 187, descriptorIndex := 25, attributes := #[] }, { accessFlags := 26, nameIndex := 48, descriptorIndex := 25, attributes := #[] }, { accessFlags := 25, nameIndex := 277, descriptorIndex := 25, attributes := #[] }, { accessFlags := 25, nameIndex := 280, descriptorIndex := 25, attributes := #[] }, { accessFlags := 25, nameIndex := 282, descriptorIndex := 25, attributes := #[] }, { accessFlags := 25, nameIndex := 284, descriptorIndex := 25, attributes := #[] }, { accessFlags := 25, nameIndex := 286, descriptorIndex := 25, attributes := #[] }, { accessFlags := 25, nameIndex := 288, descriptorIndex := 25, attributes := #[] }, { accessFlags := 25, nameIndex := 290, descriptorIndex := 25, attributes := #[] }, { accessFlags := 25, nameIndex := 292, descriptorIndex := 25, attributes := #[] }, { accessFlags := 26, nameIndex := 108, descriptorIndex := 109, attributes := #[] }, { accessFlags := 25, nameIndex := 294, descriptorIndex := 25, attributes := #[] }])
  fields := #[{ name := "U", type := (.object "jdk/internal/misc/Unsafe"), accessFlags := 24, slot := 0, constantValue := 0 }, { name := "BIG_ENDIAN", type := .boolean, accessFlags := 26, slot := 1, constantValue := 0 }, { name := "LOG2_ARRAY_BOOLEAN_INDEX_SCALE", type := .int, accessFlags := 25, slot := 2, constantValue := 0 }, { name := "LOG2_ARRAY_BYTE_INDEX_SCALE", type := .int, accessFlags := 25, slot := 3, constantValue := 0 }, { name := "LOG2_ARRAY_CHAR_INDEX_SCALE", type := .int, accessFlags := 25, slot := 4, constantValue := 0 }, { name := "LOG2_ARRAY_SHORT_INDEX_SCALE", type := .int, accessFlags := 25, slot := 5, constantValue := 0 }, { name := "LOG2_ARRAY_INT_INDEX_SCALE", type := .int, accessFlags := 25, slot := 6, constantValue := 0 }, { name := "LOG2_ARRAY_LONG_INDEX_SCALE", type := .int, accessFlags := 25, slot := 7, constantValue := 0 }, { name := "LOG2_ARRAY_FLOAT_INDEX_SCALE", type := .int, accessFlags := 25, slot := 8, constantValue := 0 }, { name := "LOG2_ARRAY_DOUBLE_INDEX_SCALE", type := .int, accessFlags := 25, slot := 9, constantValue := 0 }, { name := "LOG2_BYTE_BIT_SIZE", type := .int, accessFlags := 26, slot := 10, constantValue := 0 }, { name := "T_BOOLEAN", type := .int, accessFlags := 25, slot := 11, constantValue := 0 }, { name := "T_CHAR", type := .int, accessFlags := 25, slot := 12, constantValue := 0 }, { name := "T_FLOAT", type := .int, accessFlags := 25, slot := 13, constantValue := 0 }, { name := "T_DOUBLE", type := .int, accessFlags := 25, slot := 14, constantValue := 0 }, { name := "T_BYTE", type := .int, accessFlags := 25, slot := 15, constantValue := 0 }, { name := "T_SHORT", type := .int, accessFlags := 25, slot := 16, constantValue := 0 }, { name := "T_INT", type := .int, accessFlags := 25, slot := 17, constantValue := 0 }, { name := "T_LONG", type := .int, accessFlags := 25, slot := 18, constantValue := 0 }, { name := "JLA", type := (.object "jdk/internal/access/JavaLangAccess"), accessFlags := 26, slot := 19, constantValue := 0 }, { name := "SOFT_MAX_ARRAY_LENGTH", type := .int, accessFlags := 25, slot := 20, constantValue := 0 }]
  methods := #[k20m0, k20m1]
  instanceTypes := #[]
  staticTypes := #[(.object "jdk/internal/misc/Unsafe"), .boolean, .int, .int, .int, .int, .int, .int, .int, .int, .int, .int, .int, .int, .int, .int, .int, .int, .int, (.object "jdk/internal/access/JavaLangAccess"), .int]
  resolved := Array.replicate 378 none
  statics := none }

def pool21 : Array CpInfo := pool [(1, .class_ 2), (0, u "java/lang/Cloneable"), (0, .class_ 4), (0, u "java/lang/Object")] 2

/-- java/lang/Cloneable -/
def k21 : Class := { plain "java/lang/Cloneable" (some 0) with
  accessFlags := 1537
  interfaces := #[]
  cf := some (fileOf pool21 1 #[] #[] 1537 3 #[] #[])
  fields := #[]
  methods := #[]
  instanceTypes := #[]
  staticTypes := #[]
  resolved := Array.replicate 7 none
  statics := none }

/-- the primitive byte -/
def k22 : Class := { plain "byte" none with kind := .primitive 'B', accessFlags := 0x411 }
/-- [B -/
def k23 : Class := { plain "[B" (some 0) with kind := .array 22 .byte, interfaces := #[21, 6], accessFlags := 1041 }

/-- the primitive int -/
def k24 : Class := { plain "int" none with kind := .primitive 'I', accessFlags := 0x411 }
/-- [I -/
def k25 : Class := { plain "[I" (some 0) with kind := .array 24 .int, interfaces := #[21, 6], accessFlags := 1041 }

def heap : Heap := #[{ cls := 11, slots := #[.long 0, .int 1, .null, .int 0, .null, .int 0, .int 0], vm := .statics 11 },
  { cls := 14, slots := #[.int 0, .int 0, .null, .null, .ref 4, .ref 3, .int 0, .int 0, .long 0], vm := .statics 14 },
  { cls := 19, slots := #[.null, .null, .null], vm := .statics 19 },
  { cls := 23, slots := #[.int 48, .int 49, .int 50, .int 51, .int 52, .int 53, .int 54, .int 55, .int 56, .int 57, .int 48, .int 49, .int 50, .int 51, .int 52, .int 53, .int 54, .int 55, .int 56, .int 57, .int 48, .int 49, .int 50, .int 51, .int 52, .int 53, .int 54, .int 55, .int 56, .int 57, .int 48, .int 49, .int 50, .int 51, .int 52, .int 53, .int 54, .int 55, .int 56, .int 57, .int 48, .int 49, .int 50, .int 51, .int 52, .int 53, .int 54, .int 55, .int 56, .int 57, .int 48, .int 49, .int 50, .int 51, .int 52, .int 53, .int 54, .int 55, .int 56, .int 57, .int 48, .int 49, .int 50, .int 51, .int 52, .int 53, .int 54, .int 55, .int 56, .int 57, .int 48, .int 49, .int 50, .int 51, .int 52, .int 53, .int 54, .int 55, .int 56, .int 57, .int 48, .int 49, .int 50, .int 51, .int 52, .int 53, .int 54, .int 55, .int 56, .int 57, .int 48, .int 49, .int 50, .int 51, .int 52, .int 53, .int 54, .int 55, .int 56, .int 57], vm := .none },
  { cls := 23, slots := #[.int 48, .int 48, .int 48, .int 48, .int 48, .int 48, .int 48, .int 48, .int 48, .int 48, .int 49, .int 49, .int 49, .int 49, .int 49, .int 49, .int 49, .int 49, .int 49, .int 49, .int 50, .int 50, .int 50, .int 50, .int 50, .int 50, .int 50, .int 50, .int 50, .int 50, .int 51, .int 51, .int 51, .int 51, .int 51, .int 51, .int 51, .int 51, .int 51, .int 51, .int 52, .int 52, .int 52, .int 52, .int 52, .int 52, .int 52, .int 52, .int 52, .int 52, .int 53, .int 53, .int 53, .int 53, .int 53, .int 53, .int 53, .int 53, .int 53, .int 53, .int 54, .int 54, .int 54, .int 54, .int 54, .int 54, .int 54, .int 54, .int 54, .int 54, .int 55, .int 55, .int 55, .int 55, .int 55, .int 55, .int 55, .int 55, .int 55, .int 55, .int 56, .int 56, .int 56, .int 56, .int 56, .int 56, .int 56, .int 56, .int 56, .int 56, .int 57, .int 57, .int 57, .int 57, .int 57, .int 57, .int 57, .int 57, .int 57, .int 57], vm := .none }]
def classes : Array Class := #[k0, k1, k2, k3, k4, k5, k6, k7, k8, k9, k10, k11, k12, k13, k14, k15, k16, k17, k18, k19, k20, k21, k22, k23, k24, k25]
def interned : List (Array UInt16 × Addr) := []
def slotsUsed : Nat := 219
def theMethod : MethodId := ⟨1, 3⟩
def args0 : Array Value := #[.long 5, .int 0]
def aboutOver (below : List Frame) : State where
  vm := { classes := classes, interned := interned.toArray }
  heap := heap
  slotsUsed := slotsUsed
  threads := #[{ frames := .invoking theMethod args0 :: below }]
def below0 : List Frame := [.native { method := ⟨0, 0⟩, args := #[] }]
def about1 : State := aboutOver below0
def p0 : Program := .bare "" "" ""
def e0 : Env := launch0.env 0 0 0
theorem w_frames : about1.frames = Frame.invoking theMethod args0 :: below0 := rfl
set_option maxRecDepth 65536 in
theorem w_args : argsFit about1.vm theMethod args0 = true := by decide +kernel
set_option maxRecDepth 65536 in
theorem w_heap : heapFits about1 = true := by decide +kernel
set_option maxRecDepth 65536 in
theorem w_runnable : about1.curStatus? = some .runnable := by decide +kernel
set_option maxRecDepth 65536 in
theorem w_alone : about1.alone = true := by decide +kernel
set_option maxRecDepth 65536 in
theorem w_named : about1.methodNamed? x = some theMethod := by decide +kernel
set_option maxRecDepth 65536 in
theorem w_hears : about1.hears theMethod below0 = true := by decide +kernel
set_option maxRecDepth 65536 in
theorem w_ripe : about1.ripe theMethod args0 below0 = true := by decide +kernel
theorem w_running : about1.status = .running := rfl
set_option maxRecDepth 65536 in
theorem w_room : about1.hasRoom e0.platform room_1 = true :=
  launch0.hasRoom_least _ room_1 (by decide +kernel) (by decide +kernel) (by decide +kernel) (by decide +kernel) (by decide +kernel) (by decide +kernel)
theorem allAtoms_all (ts : List Jvm.Cond) (a : Array Jvm.Value) (st : Jvm.State) : (allAtoms ts).before a st = ts.all (fun c => c.before a st) := by
  induction ts with
  | nil => rfl
  | cons c t ih =>
    show (Jvm.Cond.and c (allAtoms t)).before a st = _
    rw [Jvm.Cond.before_and, ih, List.all_cons]
def words1 : List Jvm.Cond := Jvm.Cond.code x code maxLocals ret :: tables_1
/-- a 'code' word, met by the world's own term for the bytes: nothing is compared byte by byte -/
theorem code_word {y : MethodName} {bytes : ByteArray} {mx : Nat} {rt : Option FieldType} {a : Array Value} {s : State} {m : MethodId} {meth : Method} {c : Code} (h1 : s.methodNamed? y = some m) (h2 : s.vm.method? m = some meth) (h3 : meth.code = some c) (h4 : c.code = bytes)
    (h5 : (c.maxLocals == mx && c.exceptionTable.isEmpty && decide (c.maxStack ≤ mostOperands) && decide (meth.sig.returnType = rt) && !meth.locks && decide (parseMethodDescriptor y.desc = some meth.sig)) = true) : (Jvm.Cond.code y bytes mx rt).before a s = true := by
  simp only [Bool.and_eq_true, beq_iff_eq, Bool.not_eq_true', decide_eq_true_eq] at h5
  obtain ⟨⟨⟨⟨⟨g1, g2⟩, g3⟩, g4⟩, g5⟩, g6⟩ := h5
  simp [Cond.before, Cond.holds, Cond.value, h1, h2, h3, h4, g1, g2, g3, g4, g5, g6]
def isCode : Jvm.Cond → Bool
  | .code _ _ _ _ => true
  | _ => false
theorem all_split {L : List Jvm.Cond} {P : Jvm.Cond → Bool} (h1 : L.all (fun c => isCode c || P c) = true) (h2 : ∀ c ∈ L.filter isCode, P c = true) : L.all P = true := by
  refine List.all_eq_true.mpr fun c hc => ?_
  have h := List.all_eq_true.mp h1 c hc
  rcases Bool.eq_false_or_eq_true (isCode c) with hi | hi
  · exact h2 c (List.mem_filter.mpr ⟨hc, hi⟩)
  · simpa [hi] using h
set_option maxRecDepth 65536 in
theorem w_c0 : (Jvm.Cond.code x code maxLocals ret).before args0 about1 = true := code_word (m := ⟨1, 3⟩) (meth := k1m3) (c := k1c3) (by decide +kernel) rfl rfl rfl (by decide +kernel)
set_option maxRecDepth 65536 in
theorem w_c1 : (Jvm.Cond.code ({ cls := "com/example/brokkr/brokkr/LogTextMillisPinLaw", name := "digits", desc := "(J)I" } : Jvm.MethodName) method_2_code (2 : Nat) (Option.some Jvm.ClassFile.FieldType.int)).before args0 about1 = true := code_word (m := ⟨1, 1⟩) (meth := k1m1) (c := k1c1) (by decide +kernel) rfl rfl rfl (by decide +kernel)
set_option maxRecDepth 65536 in
theorem w_c2 : (Jvm.Cond.code ({ cls := "com/example/brokkr/brokkr/LogText", name := "millis", desc := "(J)Ljava/lang/String;" } : Jvm.MethodName) prog_12_method_3_code (6 : Nat) (Option.some (Jvm.ClassFile.FieldType.object "java/lang/String"))).before args0 about1 = true := code_word (m := ⟨2, 1⟩) (meth := k2m1) (c := k2c1) (by decide +kernel) rfl rfl rfl (by decide +kernel)
set_option maxRecDepth 65536 in
theorem w_c3 : (Jvm.Cond.code ({ cls := "java/lang/StringBuilder", name := "<init>", desc := "()V" } : Jvm.MethodName) jdk_67_method_1_code (1 : Nat) (Option.none : Option Jvm.ClassFile.FieldType)).before args0 about1 = true := code_word (m := ⟨8, 0⟩) (meth := k8m0) (c := k8c0) (by decide +kernel) rfl rfl rfl (by decide +kernel)
set_option maxRecDepth 65536 in
theorem w_c4 : (Jvm.Cond.code ({ cls := "java/lang/AbstractStringBuilder", name := "<init>", desc := "(I)V" } : Jvm.MethodName) jdk_68_method_2_code (2 : Nat) (Option.none : Option Jvm.ClassFile.FieldType)).before args0 about1 = true := code_word (m := ⟨5, 1⟩) (meth := k5m1) (c := k5c1) (by decide +kernel) rfl rfl rfl (by decide +kernel)
set_option maxRecDepth 65536 in
theorem w_c5 : (Jvm.Cond.code ({ cls := "java/lang/Object", name := "<init>", desc := "()V" } : Jvm.MethodName) object_method_1_code (1 : Nat) (Option.none : Option Jvm.ClassFile.FieldType)).before args0 about1 = true := code_word (m := ⟨0, 0⟩) (meth := k0m0) (c := k0c0) (by decide +kernel) rfl rfl rfl (by decide +kernel)
set_option maxRecDepth 65536 in
theorem w_c6 : (Jvm.Cond.code ({ cls := "java/lang/StringBuilder", name := "append", desc := "(J)Ljava/lang/StringBuilder;" } : Jvm.MethodName) jdk_67_method_16_code (3 : Nat) (Option.some (Jvm.ClassFile.FieldType.object "java/lang/StringBuilder"))).before args0 about1 = true := code_word (m := ⟨8, 2⟩) (meth := k8m2) (c := k8c2) (by decide +kernel) rfl rfl rfl (by decide +kernel)
set_option maxRecDepth 65536 in
theorem w_c7 : (Jvm.Cond.code ({ cls := "java/lang/AbstractStringBuilder", name := "append", desc := "(J)Ljava/lang/AbstractStringBuilder;" } : Jvm.MethodName) jdk_68_method_33_code (5 : Nat) (Option.some (Jvm.ClassFile.FieldType.object "java/lang/AbstractStringBuilder"))).before args0 about1 = true := code_word (m := ⟨5, 6⟩) (meth := k5m6) (c := k5c6) (by decide +kernel) rfl rfl rfl (by decide +kernel)
set_option maxRecDepth 65536 in
theorem w_c8 : (Jvm.Cond.code ({ cls := "java/lang/Long", name := "stringSize", desc := "(J)I" } : Jvm.MethodName) jdk_35_method_15_code (6 : Nat) (Option.some Jvm.ClassFile.FieldType.int)).before args0 about1 = true := code_word (m := ⟨13, 1⟩) (meth := k13m1) (c := k13c1) (by decide +kernel) rfl rfl rfl (by decide +kernel)
set_option maxRecDepth 65536 in
theorem w_c9 : (Jvm.Cond.code ({ cls := "java/lang/AbstractStringBuilder", name := "ensureCapacityInternal", desc := "(I)V" } : Jvm.MethodName) jdk_68_method_9_code (3 : Nat) (Option.none : Option Jvm.ClassFile.FieldType)).before args0 about1 = true := code_word (m := ⟨5, 3⟩) (meth := k5m3) (c := k5c3) (by decide +kernel) rfl rfl rfl (by decide +kernel)
set_option maxRecDepth 65536 in
theorem w_c10 : (Jvm.Cond.code ({ cls := "java/lang/AbstractStringBuilder", name := "isLatin1", desc := "()Z" } : Jvm.MethodName) jdk_68_method_68_code (1 : Nat) (Option.some Jvm.ClassFile.FieldType.boolean)).before args0 about1 = true := code_word (m := ⟨5, 8⟩) (meth := k5m8) (c := k5c8) (by decide +kernel) rfl rfl rfl (by decide +kernel)
set_option maxRecDepth 65536 in
theorem w_c11 : (Jvm.Cond.code ({ cls := "java/lang/Long", name := "getChars", desc := "(JI[B)I" } : Jvm.MethodName) jdk_35_method_14_code (11 : Nat) (Option.some Jvm.ClassFile.FieldType.int)).before args0 about1 = true := code_word (m := ⟨13, 0⟩) (meth := k13m0) (c := k13c0) (by decide +kernel) rfl rfl rfl (by decide +kernel)
set_option maxRecDepth 65536 in
theorem w_c12 : (Jvm.Cond.code ({ cls := "java/lang/StringBuilder", name := "append", desc := "(Ljava/lang/String;)Ljava/lang/StringBuilder;" } : Jvm.MethodName) jdk_67_method_7_code (2 : Nat) (Option.some (Jvm.ClassFile.FieldType.object "java/lang/StringBuilder"))).before args0 about1 = true := code_word (m := ⟨8, 1⟩) (meth := k8m1) (c := k8c1) (by decide +kernel) rfl rfl rfl (by decide +kernel)
set_option maxRecDepth 65536 in
theorem w_c13 : (Jvm.Cond.code ({ cls := "java/lang/AbstractStringBuilder", name := "append", desc := "(Ljava/lang/String;)Ljava/lang/AbstractStringBuilder;" } : Jvm.MethodName) jdk_68_method_22_code (3 : Nat) (Option.some (Jvm.ClassFile.FieldType.object "java/lang/AbstractStringBuilder"))).before args0 about1 = true := code_word (m := ⟨5, 5⟩) (meth := k5m5) (c := k5c5) (by decide +kernel) rfl rfl rfl (by decide +kernel)
set_option maxRecDepth 65536 in
theorem w_c14 : (Jvm.Cond.code ({ cls := "java/lang/String", name := "length", desc := "()I" } : Jvm.MethodName) jdk_42_method_54_code (1 : Nat) (Option.some Jvm.ClassFile.FieldType.int)).before args0 about1 = true := code_word (m := ⟨11, 2⟩) (meth := k11m2) (c := k11c2) (by decide +kernel) rfl rfl rfl (by decide +kernel)
set_option maxRecDepth 65536 in
theorem w_c15 : (Jvm.Cond.code ({ cls := "java/lang/String", name := "coder", desc := "()B" } : Jvm.MethodName) jdk_42_method_152_code (1 : Nat) (Option.some Jvm.ClassFile.FieldType.byte)).before args0 about1 = true := code_word (m := ⟨11, 6⟩) (meth := k11m6) (c := k11c6) (by decide +kernel) rfl rfl rfl (by decide +kernel)
set_option maxRecDepth 65536 in
theorem w_c16 : (Jvm.Cond.code ({ cls := "java/lang/AbstractStringBuilder", name := "putStringAt", desc := "(ILjava/lang/String;)V" } : Jvm.MethodName) jdk_68_method_73_code (3 : Nat) (Option.none : Option Jvm.ClassFile.FieldType)).before args0 about1 = true := code_word (m := ⟨5, 10⟩) (meth := k5m10) (c := k5c10) (by decide +kernel) rfl rfl rfl (by decide +kernel)
set_option maxRecDepth 65536 in
theorem w_c17 : (Jvm.Cond.code ({ cls := "java/lang/AbstractStringBuilder", name := "inflateIfNeededFor", desc := "(Ljava/lang/String;)V" } : Jvm.MethodName) jdk_68_method_71_code (2 : Nat) (Option.none : Option Jvm.ClassFile.FieldType)).before args0 about1 = true := code_word (m := ⟨5, 9⟩) (meth := k5m9) (c := k5c9) (by decide +kernel) rfl rfl rfl (by decide +kernel)
set_option maxRecDepth 65536 in
theorem w_c18 : (Jvm.Cond.code ({ cls := "java/lang/String", name := "getBytes", desc := "([BIB)V" } : Jvm.MethodName) jdk_42_method_147_code (4 : Nat) (Option.none : Option Jvm.ClassFile.FieldType)).before args0 about1 = true := code_word (m := ⟨11, 4⟩) (meth := k11m4) (c := k11c4) (by decide +kernel) rfl rfl rfl (by decide +kernel)
set_option maxRecDepth 65536 in
theorem w_c19 : (Jvm.Cond.code ({ cls := "java/lang/StringBuilder", name := "toString", desc := "()Ljava/lang/String;" } : Jvm.MethodName) jdk_67_method_42_code (1 : Nat) (Option.some (Jvm.ClassFile.FieldType.object "java/lang/String"))).before args0 about1 = true := code_word (m := ⟨8, 3⟩) (meth := k8m3) (c := k8c3) (by decide +kernel) rfl rfl rfl (by decide +kernel)
set_option maxRecDepth 65536 in
theorem w_c20 : (Jvm.Cond.code ({ cls := "java/lang/String", name := "<init>", desc := "(Ljava/lang/StringBuilder;)V" } : Jvm.MethodName) jdk_42_method_53_code (2 : Nat) (Option.none : Option Jvm.ClassFile.FieldType)).before args0 about1 = true := code_word (m := ⟨11, 1⟩) (meth := k11m1) (c := k11c1) (by decide +kernel) rfl rfl rfl (by decide +kernel)
set_option maxRecDepth 65536 in
theorem w_c21 : (Jvm.Cond.code ({ cls := "java/lang/String", name := "<init>", desc := "(Ljava/lang/AbstractStringBuilder;Ljava/lang/Void;)V" } : Jvm.MethodName) jdk_42_method_150_code (5 : Nat) (Option.none : Option Jvm.ClassFile.FieldType)).before args0 about1 = true := code_word (m := ⟨11, 5⟩) (meth := k11m5) (c := k11c5) (by decide +kernel) rfl rfl rfl (by decide +kernel)
set_option maxRecDepth 65536 in
theorem w_c22 : (Jvm.Cond.code ({ cls := "java/lang/AbstractStringBuilder", name := "getValue", desc := "()[B" } : Jvm.MethodName) jdk_68_method_64_code (1 : Nat) (Option.some (Jvm.ClassFile.FieldType.array Jvm.ClassFile.FieldType.byte))).before args0 about1 = true := code_word (m := ⟨5, 7⟩) (meth := k5m7) (c := k5c7) (by decide +kernel) rfl rfl rfl (by decide +kernel)
set_option maxRecDepth 65536 in
theorem w_c23 : (Jvm.Cond.code ({ cls := "java/lang/StringBuilder", name := "length", desc := "()I" } : Jvm.MethodName) jdk_67_method_93_code (1 : Nat) (Option.some Jvm.ClassFile.FieldType.int)).before args0 about1 = true := code_word (m := ⟨8, 4⟩) (meth := k8m4) (c := k8c4) (by decide +kernel) rfl rfl rfl (by decide +kernel)
set_option maxRecDepth 65536 in
theorem w_c24 : (Jvm.Cond.code ({ cls := "java/lang/AbstractStringBuilder", name := "length", desc := "()I" } : Jvm.MethodName) jdk_68_method_6_code (1 : Nat) (Option.some Jvm.ClassFile.FieldType.int)).before args0 about1 = true := code_word (m := ⟨5, 2⟩) (meth := k5m2) (c := k5c2) (by decide +kernel) rfl rfl rfl (by decide +kernel)
set_option maxRecDepth 65536 in
theorem w_c25 : (Jvm.Cond.code ({ cls := "java/util/Arrays", name := "copyOfRange", desc := "([BII)[B" } : Jvm.MethodName) jdk_65_method_132_code (3 : Nat) (Option.some (Jvm.ClassFile.FieldType.array Jvm.ClassFile.FieldType.byte))).before args0 about1 = true := code_word (m := ⟨16, 3⟩) (meth := k16m3) (c := k16c3) (by decide +kernel) rfl rfl rfl (by decide +kernel)
set_option maxRecDepth 65536 in
theorem w_c26 : (Jvm.Cond.code ({ cls := "java/util/Arrays", name := "copyOfRangeByte", desc := "([BII)[B" } : Jvm.MethodName) jdk_65_method_133_code (5 : Nat) (Option.some (Jvm.ClassFile.FieldType.array Jvm.ClassFile.FieldType.byte))).before args0 about1 = true := code_word (m := ⟨16, 4⟩) (meth := k16m4) (c := k16c4) (by decide +kernel) rfl rfl rfl (by decide +kernel)
set_option maxRecDepth 65536 in
theorem w_c27 : (Jvm.Cond.code ({ cls := "java/util/Arrays", name := "checkLength", desc := "(II)V" } : Jvm.MethodName) jdk_65_method_131_code (2 : Nat) (Option.none : Option Jvm.ClassFile.FieldType)).before args0 about1 = true := code_word (m := ⟨16, 2⟩) (meth := k16m2) (c := k16c2) (by decide +kernel) rfl rfl rfl (by decide +kernel)
set_option maxRecDepth 65536 in
theorem w_c28 : (Jvm.Cond.code ({ cls := "java/lang/Math", name := "min", desc := "(II)I" } : Jvm.MethodName) jdk_29_method_69_code (2 : Nat) (Option.some Jvm.ClassFile.FieldType.int)).before args0 about1 = true := code_word (m := ⟨17, 2⟩) (meth := k17m2) (c := k17c2) (by decide +kernel) rfl rfl rfl (by decide +kernel)
set_option maxRecDepth 65536 in
theorem w_c29 : (Jvm.Cond.code ({ cls := "java/lang/String", name := "charAt", desc := "(I)C" } : Jvm.MethodName) jdk_42_method_56_code (2 : Nat) (Option.some Jvm.ClassFile.FieldType.char)).before args0 about1 = true := code_word (m := ⟨11, 3⟩) (meth := k11m3) (c := k11c3) (by decide +kernel) rfl rfl rfl (by decide +kernel)
set_option maxRecDepth 65536 in
theorem w_c30 : (Jvm.Cond.code ({ cls := "java/lang/String", name := "isLatin1", desc := "()Z" } : Jvm.MethodName) jdk_42_method_154_code (1 : Nat) (Option.some Jvm.ClassFile.FieldType.boolean)).before args0 about1 = true := code_word (m := ⟨11, 7⟩) (meth := k11m7) (c := k11c7) (by decide +kernel) rfl rfl rfl (by decide +kernel)
set_option maxRecDepth 65536 in
theorem w_c31 : (Jvm.Cond.code ({ cls := "java/lang/StringLatin1", name := "charAt", desc := "([BI)C" } : Jvm.MethodName) jdk_43_method_2_code (2 : Nat) (Option.some Jvm.ClassFile.FieldType.char)).before args0 about1 = true := code_word (m := ⟨18, 1⟩) (meth := k18m1) (c := k18c1) (by decide +kernel) rfl rfl rfl (by decide +kernel)
set_option maxRecDepth 65536 in
theorem w_c32 : (Jvm.Cond.code ({ cls := "java/lang/String", name := "checkIndex", desc := "(II)V" } : Jvm.MethodName) jdk_42_method_155_code (2 : Nat) (Option.none : Option Jvm.ClassFile.FieldType)).before args0 about1 = true := code_word (m := ⟨11, 8⟩) (meth := k11m8) (c := k11c8) (by decide +kernel) rfl rfl rfl (by decide +kernel)
set_option maxRecDepth 65536 in
theorem w_c33 : (Jvm.Cond.code ({ cls := "jdk/internal/util/Preconditions", name := "checkIndex", desc := "(IILjava/util/function/BiFunction;)I" } : Jvm.MethodName) jdk_41_method_11_code (3 : Nat) (Option.some Jvm.ClassFile.FieldType.int)).before args0 about1 = true := code_word (m := ⟨19, 1⟩) (meth := k19m1) (c := k19c1) (by decide +kernel) rfl rfl rfl (by decide +kernel)
set_option maxRecDepth 65536 in
theorem w_c34 : (Jvm.Cond.code ({ cls := "com/example/brokkr/brokkr/LogTextMillisPinLaw", name := "digitOk", desc := "(Ljava/lang/String;IJJI)Z" } : Jvm.MethodName) method_3_code (8 : Nat) (Option.some Jvm.ClassFile.FieldType.boolean)).before args0 about1 = true := code_word (m := ⟨1, 2⟩) (meth := k1m2) (c := k1c2) (by decide +kernel) rfl rfl rfl (by decide +kernel)
set_option maxRecDepth 65536 in
theorem w_c35 : (Jvm.Cond.code ({ cls := "java/lang/AbstractStringBuilder", name := "newCapacity", desc := "(I)I" } : Jvm.MethodName) jdk_68_method_10_code (6 : Nat) (Option.some Jvm.ClassFile.FieldType.int)).before args0 about1 = true := code_word (m := ⟨5, 4⟩) (meth := k5m4) (c := k5c4) (by decide +kernel) rfl rfl rfl (by decide +kernel)
set_option maxRecDepth 65536 in
theorem w_c36 : (Jvm.Cond.code ({ cls := "jdk/internal/util/ArraysSupport", name := "newLength", desc := "(III)I" } : Jvm.MethodName) jdk_48_method_27_code (4 : Nat) (Option.some Jvm.ClassFile.FieldType.int)).before args0 about1 = true := code_word (m := ⟨20, 1⟩) (meth := k20m1) (c := k20c1) (by decide +kernel) rfl rfl rfl (by decide +kernel)
set_option maxRecDepth 65536 in
theorem w_c37 : (Jvm.Cond.code ({ cls := "java/lang/Math", name := "max", desc := "(II)I" } : Jvm.MethodName) jdk_29_method_65_code (2 : Nat) (Option.some Jvm.ClassFile.FieldType.int)).before args0 about1 = true := code_word (m := ⟨17, 1⟩) (meth := k17m1) (c := k17c1) (by decide +kernel) rfl rfl rfl (by decide +kernel)
set_option maxRecDepth 65536 in
theorem w_c38 : (Jvm.Cond.code ({ cls := "java/util/Arrays", name := "copyOf", desc := "([BI)[B" } : Jvm.MethodName) jdk_65_method_121_code (3 : Nat) (Option.some (Jvm.ClassFile.FieldType.array Jvm.ClassFile.FieldType.byte))).before args0 about1 = true := code_word (m := ⟨16, 1⟩) (meth := k16m1) (c := k16c1) (by decide +kernel) rfl rfl rfl (by decide +kernel)
def codes1 : List Jvm.Cond := [Jvm.Cond.code x code maxLocals ret, Jvm.Cond.code ({ cls := "com/example/brokkr/brokkr/LogTextMillisPinLaw", name := "digits", desc := "(J)I" } : Jvm.MethodName) method_2_code (2 : Nat) (Option.some Jvm.ClassFile.FieldType.int), Jvm.Cond.code ({ cls := "com/example/brokkr/brokkr/LogText", name := "millis", desc := "(J)Ljava/lang/String;" } : Jvm.MethodName) prog_12_method_3_code (6 : Nat) (Option.some (Jvm.ClassFile.FieldType.object "java/lang/String")), Jvm.Cond.code ({ cls := "java/lang/StringBuilder", name := "<init>", desc := "()V" } : Jvm.MethodName) jdk_67_method_1_code (1 : Nat) (Option.none : Option Jvm.ClassFile.FieldType), Jvm.Cond.code ({ cls := "java/lang/AbstractStringBuilder", name := "<init>", desc := "(I)V" } : Jvm.MethodName) jdk_68_method_2_code (2 : Nat) (Option.none : Option Jvm.ClassFile.FieldType), Jvm.Cond.code ({ cls := "java/lang/Object", name := "<init>", desc := "()V" } : Jvm.MethodName) object_method_1_code (1 : Nat) (Option.none : Option Jvm.ClassFile.FieldType), Jvm.Cond.code ({ cls := "java/lang/StringBuilder", name := "append", desc := "(J)Ljava/lang/StringBuilder;" } : Jvm.MethodName) jdk_67_method_16_code (3 : Nat) (Option.some (Jvm.ClassFile.FieldType.object "java/lang/StringBuilder")), Jvm.Cond.code ({ cls := "java/lang/AbstractStringBuilder", name := "append", desc := "(J)Ljava/lang/AbstractStringBuilder;" } : Jvm.MethodName) jdk_68_method_33_code (5 : Nat) (Option.some (Jvm.ClassFile.FieldType.object "java/lang/AbstractStringBuilder")), Jvm.Cond.code ({ cls := "java/lang/Long", name := "stringSize", desc := "(J)I" } : Jvm.MethodName) jdk_35_method_15_code (6 : Nat) (Option.some Jvm.ClassFile.FieldType.int), Jvm.Cond.code ({ cls := "java/lang/AbstractStringBuilder", name := "ensureCapacityInternal", desc := "(I)V" } : Jvm.MethodName) jdk_68_method_9_code (3 : Nat) (Option.none : Option Jvm.ClassFile.FieldType), Jvm.Cond.code ({ cls := "java/lang/AbstractStringBuilder", name := "isLatin1", desc := "()Z" } : Jvm.MethodName) jdk_68_method_68_code (1 : Nat) (Option.some Jvm.ClassFile.FieldType.boolean), Jvm.Cond.code ({ cls := "java/lang/Long", name := "getChars", desc := "(JI[B)I" } : Jvm.MethodName) jdk_35_method_14_code (11 : Nat) (Option.some Jvm.ClassFile.FieldType.int), Jvm.Cond.code ({ cls := "java/lang/StringBuilder", name := "append", desc := "(Ljava/lang/String;)Ljava/lang/StringBuilder;" } : Jvm.MethodName) jdk_67_method_7_code (2 : Nat) (Option.some (Jvm.ClassFile.FieldType.object "java/lang/StringBuilder")), Jvm.Cond.code ({ cls := "java/lang/AbstractStringBuilder", name := "append", desc := "(Ljava/lang/String;)Ljava/lang/AbstractStringBuilder;" } : Jvm.MethodName) jdk_68_method_22_code (3 : Nat) (Option.some (Jvm.ClassFile.FieldType.object "java/lang/AbstractStringBuilder")), Jvm.Cond.code ({ cls := "java/lang/String", name := "length", desc := "()I" } : Jvm.MethodName) jdk_42_method_54_code (1 : Nat) (Option.some Jvm.ClassFile.FieldType.int), Jvm.Cond.code ({ cls := "java/lang/String", name := "coder", desc := "()B" } : Jvm.MethodName) jdk_42_method_152_code (1 : Nat) (Option.some Jvm.ClassFile.FieldType.byte), Jvm.Cond.code ({ cls := "java/lang/AbstractStringBuilder", name := "putStringAt", desc := "(ILjava/lang/String;)V" } : Jvm.MethodName) jdk_68_method_73_code (3 : Nat) (Option.none : Option Jvm.ClassFile.FieldType), Jvm.Cond.code ({ cls := "java/lang/AbstractStringBuilder", name := "inflateIfNeededFor", desc := "(Ljava/lang/String;)V" } : Jvm.MethodName) jdk_68_method_71_code (2 : Nat) (Option.none : Option Jvm.ClassFile.FieldType), Jvm.Cond.code ({ cls := "java/lang/String", name := "getBytes", desc := "([BIB)V" } : Jvm.MethodName) jdk_42_method_147_code (4 : Nat) (Option.none : Option Jvm.ClassFile.FieldType), Jvm.Cond.code ({ cls := "java/lang/StringBuilder", name := "toString", desc := "()Ljava/lang/String;" } : Jvm.MethodName) jdk_67_method_42_code (1 : Nat) (Option.some (Jvm.ClassFile.FieldType.object "java/lang/String")), Jvm.Cond.code ({ cls := "java/lang/String", name := "<init>", desc := "(Ljava/lang/StringBuilder;)V" } : Jvm.MethodName) jdk_42_method_53_code (2 : Nat) (Option.none : Option Jvm.ClassFile.FieldType), Jvm.Cond.code ({ cls := "java/lang/String", name := "<init>", desc := "(Ljava/lang/AbstractStringBuilder;Ljava/lang/Void;)V" } : Jvm.MethodName) jdk_42_method_150_code (5 : Nat) (Option.none : Option Jvm.ClassFile.FieldType), Jvm.Cond.code ({ cls := "java/lang/AbstractStringBuilder", name := "getValue", desc := "()[B" } : Jvm.MethodName) jdk_68_method_64_code (1 : Nat) (Option.some (Jvm.ClassFile.FieldType.array Jvm.ClassFile.FieldType.byte)), Jvm.Cond.code ({ cls := "java/lang/StringBuilder", name := "length", desc := "()I" } : Jvm.MethodName) jdk_67_method_93_code (1 : Nat) (Option.some Jvm.ClassFile.FieldType.int), Jvm.Cond.code ({ cls := "java/lang/AbstractStringBuilder", name := "length", desc := "()I" } : Jvm.MethodName) jdk_68_method_6_code (1 : Nat) (Option.some Jvm.ClassFile.FieldType.int), Jvm.Cond.code ({ cls := "java/util/Arrays", name := "copyOfRange", desc := "([BII)[B" } : Jvm.MethodName) jdk_65_method_132_code (3 : Nat) (Option.some (Jvm.ClassFile.FieldType.array Jvm.ClassFile.FieldType.byte)), Jvm.Cond.code ({ cls := "java/util/Arrays", name := "copyOfRangeByte", desc := "([BII)[B" } : Jvm.MethodName) jdk_65_method_133_code (5 : Nat) (Option.some (Jvm.ClassFile.FieldType.array Jvm.ClassFile.FieldType.byte)), Jvm.Cond.code ({ cls := "java/util/Arrays", name := "checkLength", desc := "(II)V" } : Jvm.MethodName) jdk_65_method_131_code (2 : Nat) (Option.none : Option Jvm.ClassFile.FieldType), Jvm.Cond.code ({ cls := "java/lang/Math", name := "min", desc := "(II)I" } : Jvm.MethodName) jdk_29_method_69_code (2 : Nat) (Option.some Jvm.ClassFile.FieldType.int), Jvm.Cond.code ({ cls := "java/lang/String", name := "charAt", desc := "(I)C" } : Jvm.MethodName) jdk_42_method_56_code (2 : Nat) (Option.some Jvm.ClassFile.FieldType.char), Jvm.Cond.code ({ cls := "java/lang/String", name := "isLatin1", desc := "()Z" } : Jvm.MethodName) jdk_42_method_154_code (1 : Nat) (Option.some Jvm.ClassFile.FieldType.boolean), Jvm.Cond.code ({ cls := "java/lang/StringLatin1", name := "charAt", desc := "([BI)C" } : Jvm.MethodName) jdk_43_method_2_code (2 : Nat) (Option.some Jvm.ClassFile.FieldType.char), Jvm.Cond.code ({ cls := "java/lang/String", name := "checkIndex", desc := "(II)V" } : Jvm.MethodName) jdk_42_method_155_code (2 : Nat) (Option.none : Option Jvm.ClassFile.FieldType), Jvm.Cond.code ({ cls := "jdk/internal/util/Preconditions", name := "checkIndex", desc := "(IILjava/util/function/BiFunction;)I" } : Jvm.MethodName) jdk_41_method_11_code (3 : Nat) (Option.some Jvm.ClassFile.FieldType.int), Jvm.Cond.code ({ cls := "com/example/brokkr/brokkr/LogTextMillisPinLaw", name := "digitOk", desc := "(Ljava/lang/String;IJJI)Z" } : Jvm.MethodName) method_3_code (8 : Nat) (Option.some Jvm.ClassFile.FieldType.boolean), Jvm.Cond.code ({ cls := "java/lang/AbstractStringBuilder", name := "newCapacity", desc := "(I)I" } : Jvm.MethodName) jdk_68_method_10_code (6 : Nat) (Option.some Jvm.ClassFile.FieldType.int), Jvm.Cond.code ({ cls := "jdk/internal/util/ArraysSupport", name := "newLength", desc := "(III)I" } : Jvm.MethodName) jdk_48_method_27_code (4 : Nat) (Option.some Jvm.ClassFile.FieldType.int), Jvm.Cond.code ({ cls := "java/lang/Math", name := "max", desc := "(II)I" } : Jvm.MethodName) jdk_29_method_65_code (2 : Nat) (Option.some Jvm.ClassFile.FieldType.int), Jvm.Cond.code ({ cls := "java/util/Arrays", name := "copyOf", desc := "([BI)[B" } : Jvm.MethodName) jdk_65_method_121_code (3 : Nat) (Option.some (Jvm.ClassFile.FieldType.array Jvm.ClassFile.FieldType.byte))]
set_option maxRecDepth 65536 in
theorem codes_eq : words1.filter isCode = codes1 := rfl
theorem w_codes : ∀ c ∈ words1.filter isCode, c.before args0 about1 = true := by
  rw [codes_eq]
  intro c hc
  simp only [codes1, List.mem_cons, List.not_mem_nil, or_false] at hc
  rcases hc with rfl | rfl | rfl | rfl | rfl | rfl | rfl | rfl | rfl | rfl | rfl | rfl | rfl | rfl | rfl | rfl | rfl | rfl | rfl | rfl | rfl | rfl | rfl | rfl | rfl | rfl | rfl | rfl | rfl | rfl | rfl | rfl | rfl | rfl | rfl | rfl | rfl | rfl | rfl
  · exact w_c0
  · exact w_c1
  · exact w_c2
  · exact w_c3
  · exact w_c4
  · exact w_c5
  · exact w_c6
  · exact w_c7
  · exact w_c8
  · exact w_c9
  · exact w_c10
  · exact w_c11
  · exact w_c12
  · exact w_c13
  · exact w_c14
  · exact w_c15
  · exact w_c16
  · exact w_c17
  · exact w_c18
  · exact w_c19
  · exact w_c20
  · exact w_c21
  · exact w_c22
  · exact w_c23
  · exact w_c24
  · exact w_c25
  · exact w_c26
  · exact w_c27
  · exact w_c28
  · exact w_c29
  · exact w_c30
  · exact w_c31
  · exact w_c32
  · exact w_c33
  · exact w_c34
  · exact w_c35
  · exact w_c36
  · exact w_c37
  · exact w_c38
set_option maxRecDepth 65536 in
theorem w_t1 : (words1.take 24).all (fun c => isCode c || c.before args0 about1) = true := by decide +kernel
set_option maxRecDepth 65536 in
theorem w_t2 : ((words1.drop 24).take 24).all (fun c => isCode c || c.before args0 about1) = true := by decide +kernel
set_option maxRecDepth 65536 in
theorem w_t3 : (((words1.drop 24).drop 24).take 24).all (fun c => isCode c || c.before args0 about1) = true := by decide +kernel
set_option maxRecDepth 65536 in
theorem w_t4 : ((((words1.drop 24).drop 24).drop 24).take 24).all (fun c => isCode c || c.before args0 about1) = true := by decide +kernel
set_option maxRecDepth 65536 in
theorem w_t5 : (((((words1.drop 24).drop 24).drop 24).drop 24).take 24).all (fun c => isCode c || c.before args0 about1) = true := by decide +kernel
set_option maxRecDepth 65536 in
theorem w_t6 : ((((((words1.drop 24).drop 24).drop 24).drop 24).drop 24).take 24).all (fun c => isCode c || c.before args0 about1) = true := by decide +kernel
set_option maxRecDepth 65536 in
theorem w_t7 : (((((((words1.drop 24).drop 24).drop 24).drop 24).drop 24).drop 24).take 24).all (fun c => isCode c || c.before args0 about1) = true := by decide +kernel
set_option maxRecDepth 65536 in
theorem w_t8 : ((((((((words1.drop 24).drop 24).drop 24).drop 24).drop 24).drop 24).drop 24).take 24).all (fun c => isCode c || c.before args0 about1) = true := by decide +kernel
set_option maxRecDepth 65536 in
theorem w_t9 : (((((((((words1.drop 24).drop 24).drop 24).drop 24).drop 24).drop 24).drop 24).drop 24).take 24).all (fun c => isCode c || c.before args0 about1) = true := by decide +kernel
set_option maxRecDepth 65536 in
theorem w_t10 : (((((((((words1.drop 24).drop 24).drop 24).drop 24).drop 24).drop 24).drop 24).drop 24).drop 24).all (fun c => isCode c || c.before args0 about1) = true := by decide +kernel
theorem w_tables : (allAtoms (Jvm.Cond.code x code maxLocals ret :: tables_1)).before args0 about1 = true := by
  rw [allAtoms_all]
  show words1.all (fun c => c.before args0 about1) = true
  refine all_split ?_ w_codes
  rw [← List.take_append_drop 24 words1, List.all_append, w_t1, ← List.take_append_drop 24 (words1.drop 24), List.all_append, w_t2, ← List.take_append_drop 24 ((words1.drop 24).drop 24), List.all_append, w_t3, ← List.take_append_drop 24 (((words1.drop 24).drop 24).drop 24), List.all_append, w_t4, ← List.take_append_drop 24 ((((words1.drop 24).drop 24).drop 24).drop 24), List.all_append, w_t5, ← List.take_append_drop 24 (((((words1.drop 24).drop 24).drop 24).drop 24).drop 24), List.all_append, w_t6, ← List.take_append_drop 24 ((((((words1.drop 24).drop 24).drop 24).drop 24).drop 24).drop 24), List.all_append, w_t7, ← List.take_append_drop 24 (((((((words1.drop 24).drop 24).drop 24).drop 24).drop 24).drop 24).drop 24), List.all_append, w_t8, ← List.take_append_drop 24 ((((((((words1.drop 24).drop 24).drop 24).drop 24).drop 24).drop 24).drop 24).drop 24), List.all_append, w_t9, w_t10]
  rfl
set_option maxRecDepth 65536 in
theorem w_rest : rest_1_c.before args0 about1 = true := by decide +kernel
set_option maxRecDepth 65536 in
theorem w_case : (Jvm.Cond.and given_1 narrow_1).before args0 about1 = true := by decide +kernel
set_option maxRecDepth 65536 in
theorem w_consts : constsHeld consts_1 about1 := Jvm.Lit.constsHeldB_iff.mp (by decide +kernel)
theorem w_applies : (headSpec (Jvm.Cond.code x code maxLocals ret :: tables_1) room_1).applies x e0.platform about1 = true :=
  (Spec.applies_iff w_frames).mpr ⟨w_running, w_runnable, w_alone, w_named, w_hears, w_ripe, w_room, w_tables⟩
theorem atStart : AtStart classFile x code maxLocals ret World_1 tables_1 room_1 Calls_1 rest_1 Pre_1 launch0 p0 e0 about1 theMethod args0 below0 :=
  ⟨lists_1, trivial, launch0.admits_env _ _ _, launch0.least_env, fairChoices_fair.cas, fairChoices_fair.clock, w_frames, w_args, w_heap, w_applies, ⟨w_consts, trivial⟩, w_rest, w_case⟩
end start1
theorem witness_1 : WitnessClaimed_1 := ⟨start1.p0, start1.e0, start1.about1, start1.theMethod, start1.args0, start1.below0, start1.atStart⟩
end Jvm.Pilot.@@N@@
