import JvmDerived
import JvmDerived.Pilot.@@N@@Statement
import JvmDerived.Pilot.@@N@@Code
set_option linter.unusedVariables false
set_option linter.unusedSimpArgs false
namespace Jvm.Pilot.@@N@@
open Jvm Jvm.ClassFile Sem Op Lib Jvm.Free Jvm.Stand Jvm.LawKit Jvm.RoadKit Bundle Jvm.Pilot.@@N@@.Jvm.D
section Own
variable {p : Program} {l : Launch} {e : Env} {R : Room} {s : State} {m : MethodId} {args : Array Value} {below : List Frame} {meth : Method} {c : Code} {Z : State} {a0 : Array Value} {h : Heap} {bytes : ByteArray} {own : String} {rt : FieldType} {ml : Nat} {pc : Nat} {Ls : Array Slot} {stk rest : List Value} {v : Value}
/-- what every step of a body that writes nothing asks -/
def own_C (p : Program) (s : State) (m : MethodId) (meth : Method) (c : Code) (Z : State) (bytes : ByteArray) (own : String) (rt : FieldType) (ml : Nat) : Prop :=
  p.tables.exec = Jvm.exec ∧ Z.Warmed39 s.vm ∧ s.vm.findClass own = some m.cls ∧ c.code = bytes ∧ meth.sig.returnType = some rt ∧ meth.locks = false ∧ c.maxLocals = ml
/-- from this pc, these locals and this operand stack the body returns v and leaves the heap h as it is -/
def own_E (p : Program) (l : Launch) (e : Env) (R : Room) (s : State) (m : MethodId) (args : Array Value) (below : List Frame) (meth : Method) (c : Code) (h : Heap) (pc : Nat) (Ls : Array Slot) (stk : List Value) (v : Value) : Prop :=
  ∀ T, Stand p l e R s m args below meth c T [] 0 0 → T.heap = h → ∃ s₂, Steps p.tables e below (T.setTop (mkF m pc Ls stk)) s₂ ∧ s₂.status = .running ∧ Ended s₂ below (.returned (some v)) ∧ s₂.heap = h ∧ FrameEnd s (.returned (some v)) s₂ [] 0 0
/-- the contract of such a body -/
def own_M (l : Launch) (y : MethodName) (bytes : ByteArray) (ml : Nat) (rt : FieldType) (ws : List Jvm.Cond) (rm : Room) (Z : State) (h : Heap) (as : Array Value) (v : Value) : Prop :=
  MetFree l y (head1 (Jvm.Cond.code y bytes ml (some rt) :: ws) rm) (fun a U => a = as ∧ Z.Warmed39 U.vm ∧ U.heap = h) (fun _ _ _ _ _ => True) (fun _ U o U' => ∃ v' L, o = .returned v' ∧ (v' = some v ∧ L = [] ∧ U'.heap = h) ∧ FrameEnd U o U' L rm.cells rm.slots)
theorem own_met {l : Launch} {y : MethodName} {bytes : ByteArray} {ml : Nat} {rt : FieldType} {ws : List Jvm.Cond} {f n : Nat} {Z : State} {h : Heap} {as : Array Value} {v : Value} {Ls : Array Slot} (hp : plainName y.cls = true)
    (hef : ∀ m, entryFrame m as ml = mkF m 0 Ls [])
    (body : ∀ (p : Program) (e : Env) (s : State) (m : MethodId) (below : List Frame) (meth : Method) (c : Code), own_C p s m meth c Z bytes y.cls rt ml → own_E p l e { frames := f, cells := 0, slots := 0, locals := n } s m as below meth c h 0 Ls [] v) :
    own_M l y bytes ml rt ws { frames := f, cells := 0, slots := 0, locals := n } Z h as v := by
  refine MetFree.of_bodySF (plainFor_of_name hp) hisR ?_
  intro p e s m args below meth c s₁ Bd hml0 hP hK
  obtain ⟨rfl, hZ, hh⟩ := hP
  have X0 : Stand p l e ({ frames := f, cells := 0, slots := 0, locals := n } : Room) s m args below meth c s₁ [] 0 0 := Stand.of_body Bd
  have e0 : s₁.heap = h := by rw [← hh, Bd.state]; rfl
  obtain ⟨s₂, q1, q2, q3, q4, q5⟩ := body p e s m below meth c ⟨Bd.exec, hZ, findClass_of_methodNamed Bd.named, Bd.bytes, Bd.returns, Bd.notSynchronized, hml0⟩ s₁ X0 e0
  exact ⟨s₂, _, castTop (hef m) q1, q2, q3, _, _, rfl, ⟨rfl, rfl, q4⟩, q5⟩
theorem own_iloadN (K : own_C p s m meth c Z bytes own rt ml) {k : Fin 4} {x : Int32} (hd : decode bytes pc = .ok (.iload_n k, 1)) (hl : Ls[k.val]? = some (.val (.int x)))
    (r : own_E p l e R s m args below meth c h (pc + 1) Ls (.int x :: stk) v) : own_E p l e R s m args below meth c h pc Ls stk v := fun T X eT => by
  obtain ⟨s₂, st, q⟩ := r T X eT
  exact ⟨s₂, XS.iloadN X.here K.1 rfl (hb K.2.2.2.1 hd) hl st, q⟩
theorem own_iload (K : own_C p s m meth c Z bytes own rt ml) {k : Nat} {x : Int32} (hd : decode bytes pc = .ok (.iload k, 2)) (hl : Ls[k]? = some (.val (.int x)))
    (r : own_E p l e R s m args below meth c h (pc + 2) Ls (.int x :: stk) v) : own_E p l e R s m args below meth c h pc Ls stk v := fun T X eT => by
  obtain ⟨s₂, st, q⟩ := r T X eT
  exact ⟨s₂, XS.iload X.here K.1 rfl (hb K.2.2.2.1 hd) hl st, q⟩
theorem own_aloadN (K : own_C p s m meth c Z bytes own rt ml) {k : Fin 4} {x : Value} (hd : decode bytes pc = .ok (.aload_n k, 1)) (hl : Ls[k.val]? = some (.val x)) (hv : x.isRef = true)
    (r : own_E p l e R s m args below meth c h (pc + 1) Ls (x :: stk) v) : own_E p l e R s m args below meth c h pc Ls stk v := fun T X eT => by
  obtain ⟨s₂, st, q⟩ := r T X eT
  exact ⟨s₂, XS.aloadN X.here K.1 rfl (hb K.2.2.2.1 hd) hl hv st, q⟩
theorem own_aload (K : own_C p s m meth c Z bytes own rt ml) {k : Nat} {x : Value} (hd : decode bytes pc = .ok (.aload k, 2)) (hl : Ls[k]? = some (.val x)) (hv : x.isRef = true)
    (r : own_E p l e R s m args below meth c h (pc + 2) Ls (x :: stk) v) : own_E p l e R s m args below meth c h pc Ls stk v := fun T X eT => by
  obtain ⟨s₂, st, q⟩ := r T X eT
  exact ⟨s₂, XS.aload X.here K.1 rfl (hb K.2.2.2.1 hd) hl hv st, q⟩
theorem own_iconst (K : own_C p s m meth c Z bytes own rt ml) {i : Int} (hd : decode bytes pc = .ok (.iconst i, 1)) {x : Int32} (hx : Int32.ofInt i = x)
    (r : own_E p l e R s m args below meth c h (pc + 1) Ls (.int x :: stk) v) : own_E p l e R s m args below meth c h pc Ls stk v := fun T X eT => by
  subst hx
  obtain ⟨s₂, st, q⟩ := r T X eT
  exact ⟨s₂, XS.iconst X.here K.1 rfl (hb K.2.2.2.1 hd) st, q⟩
theorem own_bipush (K : own_C p s m meth c Z bytes own rt ml) {i : Int} (hd : decode bytes pc = .ok (.bipush i, 2)) {x : Int32} (hx : (Int8.ofInt i).toInt32 = x)
    (r : own_E p l e R s m args below meth c h (pc + 2) Ls (.int x :: stk) v) : own_E p l e R s m args below meth c h pc Ls stk v := fun T X eT => by
  subst hx
  obtain ⟨s₂, st, q⟩ := r T X eT
  exact ⟨s₂, XS.bipush X.here K.1 rfl (hb K.2.2.2.1 hd) st, q⟩
theorem own_ldc (K : own_C p s m meth c Z bytes own rt ml) {i : Nat} {x : Int32} (w : (Jvm.Cond.constant own i x).before a0 Z = true) (hd : decode bytes pc = .ok (.ldc i, 2))
    (r : own_E p l e R s m args below meth c h (pc + 2) Ls (.int x :: stk) v) : own_E p l e R s m args below meth c h pc Ls stk v := fun T X eT => by
  obtain ⟨s₂, st, q⟩ := r T X eT
  exact ⟨s₂, X.ldcI K.1 K.2.2.1 (mvT K.2.1 w) rfl (hb K.2.2.2.1 hd) st, q⟩
theorem own_iand (K : own_C p s m meth c Z bytes own rt ml) {x y : Int32} (hd : decode bytes pc = .ok (.iand, 1))
    (r : own_E p l e R s m args below meth c h (pc + 1) Ls (.int (x &&& y) :: rest) v) : own_E p l e R s m args below meth c h pc Ls (.int y :: .int x :: rest) v := fun T X eT => by
  obtain ⟨s₂, st, q⟩ := r T X eT
  exact ⟨s₂, XS.iand X.here K.1 rfl (hb K.2.2.2.1 hd) rfl st, q⟩
theorem own_irem (K : own_C p s m meth c Z bytes own rt ml) {x y : Int32} (hd : decode bytes pc = .ok (.irem, 1)) (hy : y ≠ 0)
    (r : own_E p l e R s m args below meth c h (pc + 1) Ls (.int (x % y) :: rest) v) : own_E p l e R s m args below meth c h pc Ls (.int y :: .int x :: rest) v := fun T X eT => by
  obtain ⟨s₂, st, q⟩ := r T X eT
  exact ⟨s₂, iremM X K.1 rfl (hb K.2.2.2.1 hd) rfl hy st, q⟩
theorem own_istoreN (K : own_C p s m meth c Z bytes own rt ml) {k : Fin 4} {x : Int32} {Ls' : Array Slot} (hd : decode bytes pc = .ok (.istore_n k, 1)) (hl : storeLocals Ls k.val (.int x) = some Ls')
    (r : own_E p l e R s m args below meth c h (pc + 1) Ls' rest v) : own_E p l e R s m args below meth c h pc Ls (.int x :: rest) v := fun T X eT => by
  obtain ⟨s₂, st, q⟩ := r T X eT
  exact ⟨s₂, XS.istoreN X.here K.1 rfl (hb K.2.2.2.1 hd) rfl hl st, q⟩
theorem own_istore (K : own_C p s m meth c Z bytes own rt ml) {k : Nat} {x : Int32} {Ls' : Array Slot} (hd : decode bytes pc = .ok (.istore k, 2)) (hl : storeLocals Ls k (.int x) = some Ls')
    (r : own_E p l e R s m args below meth c h (pc + 2) Ls' rest v) : own_E p l e R s m args below meth c h pc Ls (.int x :: rest) v := fun T X eT => by
  obtain ⟨s₂, st, q⟩ := r T X eT
  exact ⟨s₂, XS.istore X.here K.1 rfl (hb K.2.2.2.1 hd) rfl hl st, q⟩
theorem own_astoreN (K : own_C p s m meth c Z bytes own rt ml) {k : Fin 4} {x : Value} {Ls' : Array Slot} (hd : decode bytes pc = .ok (.astore_n k, 1)) (hv : x.isRef = true) (hl : storeLocals Ls k.val x = some Ls')
    (r : own_E p l e R s m args below meth c h (pc + 1) Ls' rest v) : own_E p l e R s m args below meth c h pc Ls (x :: rest) v := fun T X eT => by
  obtain ⟨s₂, st, q⟩ := r T X eT
  exact ⟨s₂, XS.astoreN X.here K.1 rfl (hb K.2.2.2.1 hd) rfl hv hl st, q⟩
theorem own_astore (K : own_C p s m meth c Z bytes own rt ml) {k : Nat} {x : Value} {Ls' : Array Slot} (hd : decode bytes pc = .ok (.astore k, 2)) (hv : x.isRef = true) (hl : storeLocals Ls k x = some Ls')
    (r : own_E p l e R s m args below meth c h (pc + 2) Ls' rest v) : own_E p l e R s m args below meth c h pc Ls (x :: rest) v := fun T X eT => by
  obtain ⟨s₂, st, q⟩ := r T X eT
  exact ⟨s₂, XS.astore X.here K.1 rfl (hb K.2.2.2.1 hd) rfl hv hl st, q⟩
theorem own_goto (K : own_C p s m meth c Z bytes own rt ml) {o : Int} {pc' : Nat} (hd : decode bytes pc = .ok (.goto o, 3)) (ho : 0 ≤ (pc : Int) + o) (hp : ((pc : Int) + o).toNat = pc')
    (r : own_E p l e R s m args below meth c h pc' Ls stk v) : own_E p l e R s m args below meth c h pc Ls stk v := fun T X eT => by
  obtain ⟨s₂, st, q⟩ := r T X eT
  exact ⟨s₂, XS.goto X.here K.1 rfl (pc0 := pc) (pc' := pc') rfl (hb K.2.2.2.1 hd) ho hp st, q⟩
theorem own_ifY (K : own_C p s m meth c Z bytes own rt ml) {cd : ClassFile.Cond} {x : Int32} {o : Int} {pc' : Nat} (hd : decode bytes pc = .ok (.ifCond cd o, 3)) (hc : ifCond.holds cd x = true) (ho : 0 ≤ (pc : Int) + o) (hp : ((pc : Int) + o).toNat = pc')
    (r : own_E p l e R s m args below meth c h pc' Ls rest v) : own_E p l e R s m args below meth c h pc Ls (.int x :: rest) v := fun T X eT => by
  obtain ⟨s₂, st, q⟩ := r T X eT
  exact ⟨s₂, XS.ifYes X.here K.1 rfl (pc0 := pc) (pc' := pc') rfl (hb K.2.2.2.1 hd) rfl hc ho hp st, q⟩
theorem own_ifN (K : own_C p s m meth c Z bytes own rt ml) {cd : ClassFile.Cond} {x : Int32} {o : Int} (hd : decode bytes pc = .ok (.ifCond cd o, 3)) (hc : ifCond.holds cd x = false)
    (r : own_E p l e R s m args below meth c h (pc + 3) Ls rest v) : own_E p l e R s m args below meth c h pc Ls (.int x :: rest) v := fun T X eT => by
  obtain ⟨s₂, st, q⟩ := r T X eT
  exact ⟨s₂, XS.ifNo X.here K.1 rfl (hb K.2.2.2.1 hd) rfl hc st, q⟩
theorem own_icmpY (K : own_C p s m meth c Z bytes own rt ml) {cd : ClassFile.Cond} {x y : Int32} {o : Int} {pc' : Nat} (hd : decode bytes pc = .ok (.if_icmp cd o, 3)) (hc : if_icmp.holds cd x y = true) (ho : 0 ≤ (pc : Int) + o) (hp : ((pc : Int) + o).toNat = pc')
    (r : own_E p l e R s m args below meth c h pc' Ls rest v) : own_E p l e R s m args below meth c h pc Ls (.int y :: .int x :: rest) v := fun T X eT => by
  obtain ⟨s₂, st, q⟩ := r T X eT
  exact ⟨s₂, XS.icmpYes X.here K.1 rfl (pc0 := pc) (pc' := pc') rfl (hb K.2.2.2.1 hd) rfl hc ho hp st, q⟩
theorem own_icmpN (K : own_C p s m meth c Z bytes own rt ml) {cd : ClassFile.Cond} {x y : Int32} {o : Int} (hd : decode bytes pc = .ok (.if_icmp cd o, 3)) (hc : if_icmp.holds cd x y = false)
    (r : own_E p l e R s m args below meth c h (pc + 3) Ls rest v) : own_E p l e R s m args below meth c h pc Ls (.int y :: .int x :: rest) v := fun T X eT => by
  obtain ⟨s₂, st, q⟩ := r T X eT
  exact ⟨s₂, XS.icmpNo X.here K.1 rfl (hb K.2.2.2.1 hd) rfl hc st, q⟩
theorem own_acmp (K : own_C p s m meth c Z bytes own rt ml) {cd : ACond} {x y : Addr} {o : Int} {pc' : Nat} {same : Bool} (hd : decode bytes pc = .ok (.if_acmp cd o, 3)) (hq : decide (x = y) = same) (ho : 0 ≤ (pc : Int) + o) (hp : pc' = if acV cd same = true then ((pc : Int) + o).toNat else pc + 3)
    (r : own_E p l e R s m args below meth c h pc' Ls rest v) : own_E p l e R s m args below meth c h pc Ls (.ref y :: .ref x :: rest) v := fun T X eT => by
  obtain ⟨s₂, st, q⟩ := r T X eT
  exact ⟨s₂, Jvm.RoadKit.acmp (g := mkF m pc Ls (.ref y :: .ref x :: rest)) X K.1 rfl (x := .ref x) (y := .ref y) rfl rfl (pc0 := pc) (pc' := pc') (same := same) rfl (hb K.2.2.2.1 hd) rfl (by rw [← hq]; simp) ho hp st, q⟩
theorem own_ifnullY (K : own_C p s m meth c Z bytes own rt ml) {o : Int} {pc' : Nat} (hd : decode bytes pc = .ok (.ifnull o, 3)) (ho : 0 ≤ (pc : Int) + o) (hp : ((pc : Int) + o).toNat = pc')
    (r : own_E p l e R s m args below meth c h pc' Ls rest v) : own_E p l e R s m args below meth c h pc Ls (.null :: rest) v := fun T X eT => by
  obtain ⟨s₂, st, q⟩ := r T X eT
  exact ⟨s₂, XS.ifnullYes X.here K.1 rfl (pc0 := pc) (pc' := pc') rfl (hb K.2.2.2.1 hd) rfl ho hp st, q⟩
theorem own_ifnullN (K : own_C p s m meth c Z bytes own rt ml) {o : Int} {b : Addr} (hd : decode bytes pc = .ok (.ifnull o, 3))
    (r : own_E p l e R s m args below meth c h (pc + 3) Ls rest v) : own_E p l e R s m args below meth c h pc Ls (.ref b :: rest) v := fun T X eT => by
  obtain ⟨s₂, st, q⟩ := r T X eT
  exact ⟨s₂, XS.ifnullNo X.here K.1 rfl (hb K.2.2.2.1 hd) rfl st, q⟩
theorem own_getS (K : own_C p s m meth c Z bytes own rt ml) {C f d : String} {i : Nat} {x : Value} (w : (Jvm.Cond.fieldLink own i C f d).before a0 Z = true) (F : Sta Z h C f d x) (hd : decode bytes pc = .ok (.getstatic i, 3))
    (r : own_E p l e R s m args below meth c h (pc + 3) Ls (x :: stk) v) : own_E p l e R s m args below meth c h pc Ls stk v := fun T X eT => by
  obtain ⟨T', X', e', st⟩ := getS2 X K.1 K.2.1 K.2.2.1 (host := "") (Or.inl w) Via.refl eT F (g := mkF m pc Ls stk) rfl (hb K.2.2.2.1 hd)
  obtain ⟨s₂, st', q⟩ := r T' X' e'
  exact ⟨s₂, st _ st', q⟩
theorem own_getF (K : own_C p s m meth c Z bytes own rt ml) {C f d : String} {i : Nat} {x : Value} {a : Addr} (w : (Jvm.Cond.fieldLink own i C f d).before a0 Z = true) (F : Fld Z h a C f d x) (hd : decode bytes pc = .ok (.getfield i, 3))
    (r : own_E p l e R s m args below meth c h (pc + 3) Ls (x :: rest) v) : own_E p l e R s m args below meth c h pc Ls (.ref a :: rest) v := fun T X eT => by
  obtain ⟨T', X', e', st⟩ := getF X K.1 K.2.1 K.2.2.1 (host := "") (Or.inl w) Via.refl eT F (g := mkF m pc Ls (.ref a :: rest)) rfl rfl (hb K.2.2.2.1 hd)
  obtain ⟨s₂, st', q⟩ := r T' X' e'
  exact ⟨s₂, st _ st', q⟩
theorem own_retZ (K : own_C p s m meth c Z bytes own .boolean ml) {x z : Int32} (hd : decode bytes pc = .ok (.ireturn, 1)) (hz : nar .boolean x = z) : own_E p l e R s m args below meth c h pc Ls (.int x :: rest) (.int z) := fun T X eT => by
  subst hz
  obtain ⟨fs, hr, hrun, hended, hW, hsame⟩ := X.leave (v := some (.int (nar .boolean x))) (fun q => by rw [K.2.2.2.2.1] at q; cases q) K.2.2.2.2.2.1
  exact ⟨_, retN X K.1 (t := .boolean) K.2.2.2.2.1 (by simp) (hb K.2.2.2.1 hd) hr, hrun, hended, eT, ⟨_, rfl⟩, hW, hsame⟩
theorem own_retA (K : own_C p s m meth c Z bytes own rt ml) {x : Value} (hd : decode bytes pc = .ok (.areturn, 1)) (ht : rt.isReference = true) (hn : narrow rt x = x) (hx : x.isRef = true) : own_E p l e R s m args below meth c h pc Ls (x :: rest) x := fun T X eT => by
  obtain ⟨fs, hr, hrun, hended, hW, hsame⟩ := X.leave (v := some x) (fun q => by rw [K.2.2.2.2.1] at q; cases q) K.2.2.2.2.2.1
  exact ⟨_, retOut X K.1 K.2.2.2.2.1 hn (Or.inr (Or.inr (Or.inr (Or.inr ⟨rfl, ht, hx⟩)))) (hb K.2.2.2.1 hd) hr, hrun, hended, eT, ⟨_, rfl⟩, hW, hsame⟩
theorem own_callS (K : own_C p s m meth c Z bytes own rt ml) {i : Nat} {y : MethodName} {bs : ByteArray} {mx f n W : Nat} {ry : FieldType} {ps : List FieldType} {argsL : List Value} {u : Value}
    (M : own_M l y bs mx ry [] { frames := f, cells := 0, slots := 0, locals := n } Z h argsL.toArray u)
    (w1 : (Jvm.Cond.methodLink own i y).before a0 Z = true) (w2 : (Jvm.Cond.static y).before a0 Z = true) (w3 : (Jvm.Cond.initialized y.cls).before a0 Z = true) (w4 : (Jvm.Cond.code y bs mx (some ry)).before a0 Z = true)
    (hy : y.cls ≠ "java/lang/invoke/MethodHandle" ∧ y.cls ≠ "java/lang/invoke/VarHandle") (hd : decode bytes pc = .ok (.invokestatic i, 3)) (hdesc : parseMethodDescriptor y.desc = some ⟨ps, some ry⟩) (hlen : argsL.length = ps.length)
    (hs : stk = argsL.reverse ++ rest) (hsz : Ls.size = ml) (hW : (rest.map fun v => v.category).sum ≤ W) (hf : f + 1 ≤ R.frames) (hl : W + (mx + 11) + n ≤ R.locals)
    (r : own_E p l e R s m args below meth c h (pc + 3) Ls (u :: rest) v) : own_E p l e R s m args below meth c h pc Ls stk v := fun T X eT => by
  obtain ⟨_, _, ⟨T1, L1, k1, n1⟩, -, X1, ⟨Lc, hQ, l1, y1, z1⟩, st⟩ := Jvm.LawKit.callS X K.1 (y := y) K.2.2.1 (mvT K.2.1 w1) (mvT K.2.1 w2) (mvT K.2.1 w3) (mvT K.2.1 w4) hy (backOf (W := W) (rm := { frames := f, cells := 0, slots := 0, locals := n }) (Q := fun v' g L => v' = some u ∧ L = [] ∧ g = h) M K.2.1 w4 w3 hf hl) (g := mkF m pc Ls stk) rfl (by rw [K.2.2.2.2.2.2]; exact hsz) (argsL := argsL) (rest := rest) (lenOf hdesc hlen) hs (by show 2 * 0 + _ ≤ _; omega) (hb K.2.2.2.1 hd) (fun _ _ => ⟨rfl, eT, Nat.zero_le _, Nat.zero_le _⟩)
  dsimp only [Pt.U, Pt.locs, Pt.cells, Pt.slots] at X1 l1 y1 z1 st hQ
  obtain ⟨rfl, rfl, e1⟩ := hQ
  subst l1 y1 z1
  obtain ⟨s₂, st', q⟩ := r T1 X1 e1
  exact ⟨s₂, st _ st', q⟩
theorem own_callV (K : own_C p s m meth c Z bytes own rt ml) {i : Nat} {y : MethodName} {bs : ByteArray} {mx f n W : Nat} {ry : FieldType} {ps : List FieldType} {argsL : List Value} {u : Value} {a : Addr} {D : String}
    (M : own_M l y bs mx ry [] { frames := f, cells := 0, slots := 0, locals := n } Z h (.ref a :: argsL).toArray u) (E : Exa Z h a D)
    (w1 : (Jvm.Cond.methodLink own i y).before a0 Z = true) (w2 : (Jvm.Cond.declares y).before a0 Z = true) (w3 : (Jvm.Cond.selects D y y).before a0 Z = true) (w4 : (Jvm.Cond.instanceMethod y).before a0 Z = true) (w5 : (Jvm.Cond.code y bs mx (some ry)).before a0 Z = true) (w6 : (Jvm.Cond.initialized y.cls).before a0 Z = true)
    (hy : y.cls ≠ "java/lang/invoke/MethodHandle" ∧ y.cls ≠ "java/lang/invoke/VarHandle") (hd : decode bytes pc = .ok (.invokevirtual i, 3)) (hdesc : parseMethodDescriptor y.desc = some ⟨ps, some ry⟩) (hlen : argsL.length = ps.length)
    (hs : stk = argsL.reverse ++ .ref a :: rest) (hsz : Ls.size = ml) (hW : (rest.map fun v => v.category).sum ≤ W) (hf : f + 1 ≤ R.frames) (hl : W + (mx + 11) + n ≤ R.locals)
    (r : own_E p l e R s m args below meth c h (pc + 3) Ls (u :: rest) v) : own_E p l e R s m args below meth c h pc Ls stk v := fun T X eT => by
  obtain ⟨cq, kq, qa, qb, qc⟩ := isOf (T := T) K.2.1 eT E
  obtain ⟨_, _, ⟨T1, L1, k1, n1⟩, -, X1, ⟨Lc, hQ, l1, y1, z1⟩, st⟩ := X.virtualBack K.1 (y := y) (z := y) K.2.2.1 (mvT K.2.1 w1) (mvT K.2.1 w2) (notFace_of_selects (args := #[]) (mvT K.2.1 w3)) (mvT K.2.1 w3) (mvT K.2.1 w4) hy (backOf (W := W) (rm := { frames := f, cells := 0, slots := 0, locals := n }) (Q := fun v' g L => v' = some u ∧ L = [] ∧ g = h) M K.2.1 w5 w6 hf hl) qa qc (g := mkF m pc Ls stk) rfl (by rw [K.2.2.2.2.2.2]; exact hsz) (Steps.refl _) (argsL := argsL) (rest := rest) (lenOf hdesc hlen) hs (by show 2 * 0 + _ ≤ _; omega) (hb K.2.2.2.1 hd) (fun _ _ => ⟨rfl, eT, Nat.zero_le _, Nat.zero_le _⟩)
  dsimp only [Pt.U, Pt.locs, Pt.cells, Pt.slots] at X1 l1 y1 z1 st hQ
  obtain ⟨rfl, rfl, e1⟩ := hQ
  subst l1 y1 z1
  obtain ⟨s₂, st', q⟩ := r T1 X1 e1
  exact ⟨s₂, st.trans st', q⟩
end Own
theorem d1_0 : decode method_2_code 0 = .ok (.iload_n 0, 1) := by decide +kernel
theorem d1_1 : decode method_2_code 1 = .ok (.ifCond .ne 7, 3) := by decide +kernel
theorem d1_4 : decode method_2_code 4 = .ok (.getstatic 7, 3) := by decide +kernel
theorem d1_7 : decode method_2_code 7 = .ok (.areturn, 1) := by decide +kernel
theorem d1_8 : decode method_2_code 8 = .ok (.iload_n 0, 1) := by decide +kernel
theorem d1_9 : decode method_2_code 9 = .ok (.iconst 1, 1) := by decide +kernel
theorem d1_10 : decode method_2_code 10 = .ok (.if_icmp .ne 7, 3) := by decide +kernel
theorem d1_13 : decode method_2_code 13 = .ok (.getstatic 13, 3) := by decide +kernel
theorem d1_16 : decode method_2_code 16 = .ok (.areturn, 1) := by decide +kernel
theorem d1_17 : decode method_2_code 17 = .ok (.iload_n 0, 1) := by decide +kernel
theorem d1_18 : decode method_2_code 18 = .ok (.iconst 2, 1) := by decide +kernel
theorem d1_19 : decode method_2_code 19 = .ok (.if_icmp .ne 7, 3) := by decide +kernel
theorem d1_22 : decode method_2_code 22 = .ok (.getstatic 16, 3) := by decide +kernel
theorem d1_25 : decode method_2_code 25 = .ok (.areturn, 1) := by decide +kernel
theorem d1_26 : decode method_2_code 26 = .ok (.iload_n 0, 1) := by decide +kernel
theorem d1_27 : decode method_2_code 27 = .ok (.iconst 3, 1) := by decide +kernel
theorem d1_28 : decode method_2_code 28 = .ok (.if_icmp .ne 7, 3) := by decide +kernel
theorem d1_31 : decode method_2_code 31 = .ok (.getstatic 19, 3) := by decide +kernel
theorem d1_34 : decode method_2_code 34 = .ok (.areturn, 1) := by decide +kernel
theorem d1_35 : decode method_2_code 35 = .ok (.getstatic 22, 3) := by decide +kernel
theorem d1_38 : decode method_2_code 38 = .ok (.areturn, 1) := by decide +kernel
theorem d2_0 : decode prog_52_method_5_code 0 = .ok (.aload_n 0, 1) := by decide +kernel
theorem d2_1 : decode prog_52_method_5_code 1 = .ok (.getstatic 16, 3) := by decide +kernel
theorem d2_4 : decode prog_52_method_5_code 4 = .ok (.if_acmp .eq 10, 3) := by decide +kernel
theorem d2_7 : decode prog_52_method_5_code 7 = .ok (.aload_n 1, 1) := by decide +kernel
theorem d2_8 : decode prog_52_method_5_code 8 = .ok (.getstatic 16, 3) := by decide +kernel
theorem d2_11 : decode prog_52_method_5_code 11 = .ok (.if_acmp .ne 14, 3) := by decide +kernel
theorem d2_14 : decode prog_52_method_5_code 14 = .ok (.aload_n 0, 1) := by decide +kernel
theorem d2_15 : decode prog_52_method_5_code 15 = .ok (.aload_n 1, 1) := by decide +kernel
theorem d2_16 : decode prog_52_method_5_code 16 = .ok (.if_acmp .ne 7, 3) := by decide +kernel
theorem d2_19 : decode prog_52_method_5_code 19 = .ok (.iconst 1, 1) := by decide +kernel
theorem d2_20 : decode prog_52_method_5_code 20 = .ok (.goto 4, 3) := by decide +kernel
theorem d2_23 : decode prog_52_method_5_code 23 = .ok (.iconst 0, 1) := by decide +kernel
theorem d2_24 : decode prog_52_method_5_code 24 = .ok (.ireturn, 1) := by decide +kernel
theorem d2_25 : decode prog_52_method_5_code 25 = .ok (.aload_n 0, 1) := by decide +kernel
theorem d2_26 : decode prog_52_method_5_code 26 = .ok (.getfield 38, 3) := by decide +kernel
theorem d2_29 : decode prog_52_method_5_code 29 = .ok (.ifCond .eq 10, 3) := by decide +kernel
theorem d2_32 : decode prog_52_method_5_code 32 = .ok (.aload_n 1, 1) := by decide +kernel
theorem d2_33 : decode prog_52_method_5_code 33 = .ok (.getfield 38, 3) := by decide +kernel
theorem d2_36 : decode prog_52_method_5_code 36 = .ok (.ifCond .ne 17, 3) := by decide +kernel
theorem d2_39 : decode prog_52_method_5_code 39 = .ok (.aload_n 0, 1) := by decide +kernel
theorem d2_40 : decode prog_52_method_5_code 40 = .ok (.getstatic 13, 3) := by decide +kernel
theorem d2_43 : decode prog_52_method_5_code 43 = .ok (.if_acmp .ne 14, 3) := by decide +kernel
theorem d2_46 : decode prog_52_method_5_code 46 = .ok (.aload_n 1, 1) := by decide +kernel
theorem d2_47 : decode prog_52_method_5_code 47 = .ok (.getfield 42, 3) := by decide +kernel
theorem d2_50 : decode prog_52_method_5_code 50 = .ok (.ifCond .eq 7, 3) := by decide +kernel
theorem d2_53 : decode prog_52_method_5_code 53 = .ok (.iconst 1, 1) := by decide +kernel
theorem d2_54 : decode prog_52_method_5_code 54 = .ok (.goto 4, 3) := by decide +kernel
theorem d2_57 : decode prog_52_method_5_code 57 = .ok (.iconst 0, 1) := by decide +kernel
theorem d2_58 : decode prog_52_method_5_code 58 = .ok (.ireturn, 1) := by decide +kernel
theorem d3_0 : decode method_3_code 0 = .ok (.iload_n 0, 1) := by decide +kernel
theorem d3_1 : decode method_3_code 1 = .ok (.iconst 4, 1) := by decide +kernel
theorem d3_2 : decode method_3_code 2 = .ok (.if_icmp .eq 8, 3) := by decide +kernel
theorem d3_5 : decode method_3_code 5 = .ok (.iload_n 1, 1) := by decide +kernel
theorem d3_6 : decode method_3_code 6 = .ok (.iconst 4, 1) := by decide +kernel
theorem d3_7 : decode method_3_code 7 = .ok (.if_icmp .ne 14, 3) := by decide +kernel
theorem d3_10 : decode method_3_code 10 = .ok (.iload_n 0, 1) := by decide +kernel
theorem d3_11 : decode method_3_code 11 = .ok (.iload_n 1, 1) := by decide +kernel
theorem d3_12 : decode method_3_code 12 = .ok (.if_icmp .ne 7, 3) := by decide +kernel
theorem d3_15 : decode method_3_code 15 = .ok (.iconst 1, 1) := by decide +kernel
theorem d3_16 : decode method_3_code 16 = .ok (.goto 4, 3) := by decide +kernel
theorem d3_19 : decode method_3_code 19 = .ok (.iconst 0, 1) := by decide +kernel
theorem d3_20 : decode method_3_code 20 = .ok (.ireturn, 1) := by decide +kernel
theorem d3_21 : decode method_3_code 21 = .ok (.iload_n 0, 1) := by decide +kernel
theorem d3_22 : decode method_3_code 22 = .ok (.iconst 1, 1) := by decide +kernel
theorem d3_23 : decode method_3_code 23 = .ok (.if_icmp .ne 5, 3) := by decide +kernel
theorem d3_26 : decode method_3_code 26 = .ok (.iconst 0, 1) := by decide +kernel
theorem d3_27 : decode method_3_code 27 = .ok (.ireturn, 1) := by decide +kernel
theorem d3_28 : decode method_3_code 28 = .ok (.iload_n 0, 1) := by decide +kernel
theorem d3_29 : decode method_3_code 29 = .ok (.iconst 3, 1) := by decide +kernel
theorem d3_30 : decode method_3_code 30 = .ok (.if_icmp .ne 19, 3) := by decide +kernel
theorem d3_33 : decode method_3_code 33 = .ok (.iload_n 1, 1) := by decide +kernel
theorem d3_34 : decode method_3_code 34 = .ok (.iconst 1, 1) := by decide +kernel
theorem d3_35 : decode method_3_code 35 = .ok (.if_icmp .eq 8, 3) := by decide +kernel
theorem d3_38 : decode method_3_code 38 = .ok (.iload_n 1, 1) := by decide +kernel
theorem d3_39 : decode method_3_code 39 = .ok (.iconst 2, 1) := by decide +kernel
theorem d3_40 : decode method_3_code 40 = .ok (.if_icmp .ne 7, 3) := by decide +kernel
theorem d3_43 : decode method_3_code 43 = .ok (.iconst 1, 1) := by decide +kernel
theorem d3_44 : decode method_3_code 44 = .ok (.goto 4, 3) := by decide +kernel
theorem d3_47 : decode method_3_code 47 = .ok (.iconst 0, 1) := by decide +kernel
theorem d3_48 : decode method_3_code 48 = .ok (.ireturn, 1) := by decide +kernel
theorem d3_49 : decode method_3_code 49 = .ok (.iload_n 1, 1) := by decide +kernel
theorem d3_50 : decode method_3_code 50 = .ok (.ifCond .eq 8, 3) := by decide +kernel
theorem d3_53 : decode method_3_code 53 = .ok (.iload_n 1, 1) := by decide +kernel
theorem d3_54 : decode method_3_code 54 = .ok (.iconst 2, 1) := by decide +kernel
theorem d3_55 : decode method_3_code 55 = .ok (.if_icmp .ne 7, 3) := by decide +kernel
theorem d3_58 : decode method_3_code 58 = .ok (.iconst 1, 1) := by decide +kernel
theorem d3_59 : decode method_3_code 59 = .ok (.goto 4, 3) := by decide +kernel
theorem d3_62 : decode method_3_code 62 = .ok (.iconst 0, 1) := by decide +kernel
theorem d3_63 : decode method_3_code 63 = .ok (.ireturn, 1) := by decide +kernel
theorem pn_0 : plainName "com/example/row_lock_engine/rowlockengine/engine/LockKindWaitsForPinLaw" = true := by first | (simp [plainName, overriddenIn]; done) | decide +kernel
theorem pn_1 : plainName "com/example/row_lock_engine/rowlockengine/engine/LockKindWaitsForPinLaw" = true := by first | (simp [plainName, overriddenIn]; done) | decide +kernel
theorem pd_1 : parseMethodDescriptor "(I)Lcom/example/row_lock_engine/rowlockengine/engine/LockKind;" = some ⟨[.int], some (.object "com/example/row_lock_engine/rowlockengine/engine/LockKind")⟩ := by decide +kernel
theorem pn_2 : plainName "com/example/row_lock_engine/rowlockengine/engine/LockKind" = true := by first | (simp [plainName, overriddenIn]; done) | decide +kernel
theorem pd_2 : parseMethodDescriptor "(Lcom/example/row_lock_engine/rowlockengine/engine/LockKind;)Z" = some ⟨[.object "com/example/row_lock_engine/rowlockengine/engine/LockKind"], some .boolean⟩ := by decide +kernel
theorem pn_3 : plainName "com/example/row_lock_engine/rowlockengine/engine/LockKindWaitsForPinLaw" = true := by first | (simp [plainName, overriddenIn]; done) | decide +kernel
theorem pd_3 : parseMethodDescriptor "(II)Z" = some ⟨[.int, .int], some .boolean⟩ := by decide +kernel
theorem own_mask (k : Int32) : 0 ≤ (k &&& 2147483647).toInt := by
  have h : (k &&& 2147483647).toInt = (k.toBitVec &&& 2147483647#32).toInt := rfl
  rw [h, BitVec.toInt_eq_toNat_of_msb (by rw [BitVec.msb_and, show (2147483647#32).msb = false from by decide, Bool.and_false])]
  exact Int.natCast_nonneg _
theorem own_rem (k : Int32) : (k &&& 2147483647) % 5 = 0 ∨ (k &&& 2147483647) % 5 = 1 ∨ (k &&& 2147483647) % 5 = 2 ∨ (k &&& 2147483647) % 5 = 3 ∨ (k &&& 2147483647) % 5 = 4 := by
  have h1 := own_mask k
  generalize (k &&& 2147483647) = y at h1 ⊢
  have h2 : (y % 5).toInt = y.toInt.tmod 5 := by rw [Int32.toInt_mod]; rfl
  rw [Int.tmod_eq_emod_of_nonneg h1] at h2
  have h3 : (y % 5).toInt = 0 ∨ (y % 5).toInt = 1 ∨ (y % 5).toInt = 2 ∨ (y % 5).toInt = 3 ∨ (y % 5).toInt = 4 := by omega
  rcases h3 with h | h | h | h | h
  · exact Or.inl (Int32.toInt_inj.mp (by rw [h]; rfl))
  · exact Or.inr (Or.inl (Int32.toInt_inj.mp (by rw [h]; rfl)))
  · exact Or.inr (Or.inr (Or.inl (Int32.toInt_inj.mp (by rw [h]; rfl))))
  · exact Or.inr (Or.inr (Or.inr (Or.inl (Int32.toInt_inj.mp (by rw [h]; rfl)))))
  · exact Or.inr (Or.inr (Or.inr (Or.inr ((Int32.toInt_inj.mp (by rw [h]; rfl))))))
theorem own_eqi {args : Array Value} {s : State} {a : Term} {k : Int32} (h : (Jvm.Cond.eq a (.int k)).value args s none s [] = some true) : a.eval args s none [] s = some (.int k) := by
  simp only [Cond.value, Term.eval] at h
  cases ha : a.eval args s none [] s with
  | none => simp [ha] at h
  | some x => cases x <;> simp [ha] at h ⊢ <;> exact h
theorem own_eqr {args : Array Value} {s : State} {a b : Term} {w : Addr} (hb : b.eval args s none [] s = some (.ref w)) (h : (Jvm.Cond.eq a b).value args s none s [] = some true) : a.eval args s none [] s = some (.ref w) := by
  simp only [Cond.value, hb] at h
  cases ha : a.eval args s none [] s with
  | none => simp [ha] at h
  | some x => cases x <;> simp [ha] at h ⊢ <;> exact h
def own_F0 (Z : State) (h : Heap) (A : Nat → Addr) : Prop := (Sta Z h "com/example/row_lock_engine/rowlockengine/engine/LockKind" "RECORD" "Lcom/example/row_lock_engine/rowlockengine/engine/LockKind;" (.ref (A 0))) ∧ (Exa Z h (A 0) "com/example/row_lock_engine/rowlockengine/engine/LockKind") ∧ (Sta Z h "com/example/row_lock_engine/rowlockengine/engine/LockKind" "GAP" "Lcom/example/row_lock_engine/rowlockengine/engine/LockKind;" (.ref (A 1))) ∧ (Exa Z h (A 1) "com/example/row_lock_engine/rowlockengine/engine/LockKind") ∧ (Sta Z h "com/example/row_lock_engine/rowlockengine/engine/LockKind" "NEXT_KEY" "Lcom/example/row_lock_engine/rowlockengine/engine/LockKind;" (.ref (A 2))) ∧ (Exa Z h (A 2) "com/example/row_lock_engine/rowlockengine/engine/LockKind") ∧ (Sta Z h "com/example/row_lock_engine/rowlockengine/engine/LockKind" "INSERT_INTENTION" "Lcom/example/row_lock_engine/rowlockengine/engine/LockKind;" (.ref (A 3))) ∧ (Exa Z h (A 3) "com/example/row_lock_engine/rowlockengine/engine/LockKind") ∧ (Sta Z h "com/example/row_lock_engine/rowlockengine/engine/LockKind" "TABLE" "Lcom/example/row_lock_engine/rowlockengine/engine/LockKind;" (.ref (A 4))) ∧ (Exa Z h (A 4) "com/example/row_lock_engine/rowlockengine/engine/LockKind") ∧ (Fld Z h (A 0) "java/lang/Enum" "ordinal" "I" (.int 0)) ∧ (Fld Z h (A 4) "java/lang/Enum" "ordinal" "I" (.int 4)) ∧ (Fld Z h (A 3) "java/lang/Enum" "ordinal" "I" (.int 3)) ∧ (Fld Z h (A 0) "com/example/row_lock_engine/rowlockengine/engine/LockKind" "record" "Z" (.int 1)) ∧ (Fld Z h (A 3) "com/example/row_lock_engine/rowlockengine/engine/LockKind" "record" "Z" (.int 0)) ∧ (Fld Z h (A 1) "java/lang/Enum" "ordinal" "I" (.int 1)) ∧ (Fld Z h (A 1) "com/example/row_lock_engine/rowlockengine/engine/LockKind" "gap" "Z" (.int 1)) ∧ (Fld Z h (A 1) "com/example/row_lock_engine/rowlockengine/engine/LockKind" "record" "Z" (.int 0)) ∧ (Fld Z h (A 2) "java/lang/Enum" "ordinal" "I" (.int 2)) ∧ (Fld Z h (A 2) "com/example/row_lock_engine/rowlockengine/engine/LockKind" "gap" "Z" (.int 1)) ∧ (Fld Z h (A 2) "com/example/row_lock_engine/rowlockengine/engine/LockKind" "record" "Z" (.int 1)) ∧ (Fld Z h (A 0) "com/example/row_lock_engine/rowlockengine/engine/LockKind" "gap" "Z" (.int 0)) ∧ (Fld Z h (A 3) "com/example/row_lock_engine/rowlockengine/engine/LockKind" "gap" "Z" (.int 0)) ∧ (Fld Z h (A 4) "com/example/row_lock_engine/rowlockengine/engine/LockKind" "record" "Z" (.int 0))
def own_F1 (Z : State) (h : Heap) (A : Nat → Addr) : Prop := (Fld Z h (A 4) "com/example/row_lock_engine/rowlockengine/engine/LockKind" "gap" "Z" (.int 0))
def own_F (Z : State) (h : Heap) (A : Nat → Addr) : Prop := own_F0 Z h A ∧ own_F1 Z h A
set_option maxRecDepth 65536 in
theorem kb_0 (p : Program) (l : Launch) (e : Env) (R : Room) (s : State) (m : MethodId) (args : Array Value) (below : List Frame) (meth : Method) (c : Code) (Z : State) (a0 : Array Value) (h : Heap) (hw : ∀ d ∈ tables_1, d.before a0 Z = true) (A : Nat → Addr) (F : own_F Z h A) (K : own_C p s m meth c Z method_2_code "com/example/row_lock_engine/rowlockengine/engine/LockKindWaitsForPinLaw" (.object "com/example/row_lock_engine/rowlockengine/engine/LockKind") 1) :
    own_E p l e R s m args below meth c h 0 #[.val (.int (0 : Int32))] [] (.ref (A 0)) := by
  refine own_iloadN K (pc := 0) d1_0 rfl ?_
  refine own_ifN K (pc := 1) d1_1 (by decide) ?_
  refine own_getS K (pc := 4) (hw _ (List.mem_of_getElem? (i := 5) rfl)) F.1.1 d1_4 ?_
  exact own_retA K (pc := 7) d1_7 rfl rfl rfl
theorem kd_0 (l : Launch) (Z : State) (a0 : Array Value) (h : Heap) (hw : ∀ d ∈ tables_1, d.before a0 Z = true) (A : Nat → Addr) (F : own_F Z h A)  : own_M l (⟨"com/example/row_lock_engine/rowlockengine/engine/LockKindWaitsForPinLaw", "kind", "(I)Lcom/example/row_lock_engine/rowlockengine/engine/LockKind;"⟩ : MethodName) method_2_code 1 (.object "com/example/row_lock_engine/rowlockengine/engine/LockKind") [] { frames := 0, cells := 0, slots := 0, locals := 0 } Z h #[(.int (0 : Int32))] (.ref (A 0)) := by
  refine own_met pn_1 (Ls := #[.val (.int (0 : Int32))]) (fun m => by first | (simp [entryFrame, mkF, argsToLocals, Value.category, maxLocals]; done) | rfl) ?_
  intro p e s m below meth c K
  exact kb_0 p l e _ s m _ below meth c Z a0 h hw A F K
set_option maxRecDepth 65536 in
theorem kb_1 (p : Program) (l : Launch) (e : Env) (R : Room) (s : State) (m : MethodId) (args : Array Value) (below : List Frame) (meth : Method) (c : Code) (Z : State) (a0 : Array Value) (h : Heap) (hw : ∀ d ∈ tables_1, d.before a0 Z = true) (A : Nat → Addr) (F : own_F Z h A) (K : own_C p s m meth c Z method_2_code "com/example/row_lock_engine/rowlockengine/engine/LockKindWaitsForPinLaw" (.object "com/example/row_lock_engine/rowlockengine/engine/LockKind") 1) :
    own_E p l e R s m args below meth c h 0 #[.val (.int (1 : Int32))] [] (.ref (A 1)) := by
  refine own_iloadN K (pc := 0) d1_0 rfl ?_
  refine own_ifY K (pc := 1) (pc' := 8) d1_1 (by decide) (by decide) (by decide) ?_
  refine own_iloadN K (pc := 8) d1_8 rfl ?_
  refine own_iconst K (pc := 9) d1_9 (x := (1 : Int32)) (by decide) ?_
  refine own_icmpN K (pc := 10) d1_10 (by decide) ?_
  refine own_getS K (pc := 13) (hw _ (List.mem_of_getElem? (i := 24) rfl)) F.1.2.2.1 d1_13 ?_
  exact own_retA K (pc := 16) d1_16 rfl rfl rfl
theorem kd_1 (l : Launch) (Z : State) (a0 : Array Value) (h : Heap) (hw : ∀ d ∈ tables_1, d.before a0 Z = true) (A : Nat → Addr) (F : own_F Z h A)  : own_M l (⟨"com/example/row_lock_engine/rowlockengine/engine/LockKindWaitsForPinLaw", "kind", "(I)Lcom/example/row_lock_engine/rowlockengine/engine/LockKind;"⟩ : MethodName) method_2_code 1 (.object "com/example/row_lock_engine/rowlockengine/engine/LockKind") [] { frames := 0, cells := 0, slots := 0, locals := 0 } Z h #[(.int (1 : Int32))] (.ref (A 1)) := by
  refine own_met pn_1 (Ls := #[.val (.int (1 : Int32))]) (fun m => by first | (simp [entryFrame, mkF, argsToLocals, Value.category, maxLocals]; done) | rfl) ?_
  intro p e s m below meth c K
  exact kb_1 p l e _ s m _ below meth c Z a0 h hw A F K
set_option maxRecDepth 65536 in
theorem kb_2 (p : Program) (l : Launch) (e : Env) (R : Room) (s : State) (m : MethodId) (args : Array Value) (below : List Frame) (meth : Method) (c : Code) (Z : State) (a0 : Array Value) (h : Heap) (hw : ∀ d ∈ tables_1, d.before a0 Z = true) (A : Nat → Addr) (F : own_F Z h A) (K : own_C p s m meth c Z method_2_code "com/example/row_lock_engine/rowlockengine/engine/LockKindWaitsForPinLaw" (.object "com/example/row_lock_engine/rowlockengine/engine/LockKind") 1) :
    own_E p l e R s m args below meth c h 0 #[.val (.int (2 : Int32))] [] (.ref (A 2)) := by
  refine own_iloadN K (pc := 0) d1_0 rfl ?_
  refine own_ifY K (pc := 1) (pc' := 8) d1_1 (by decide) (by decide) (by decide) ?_
  refine own_iloadN K (pc := 8) d1_8 rfl ?_
  refine own_iconst K (pc := 9) d1_9 (x := (1 : Int32)) (by decide) ?_
  refine own_icmpY K (pc := 10) (pc' := 17) d1_10 (by decide) (by decide) (by decide) ?_
  refine own_iloadN K (pc := 17) d1_17 rfl ?_
  refine own_iconst K (pc := 18) d1_18 (x := (2 : Int32)) (by decide) ?_
  refine own_icmpN K (pc := 19) d1_19 (by decide) ?_
  refine own_getS K (pc := 22) (hw _ (List.mem_of_getElem? (i := 28) rfl)) F.1.2.2.2.2.1 d1_22 ?_
  exact own_retA K (pc := 25) d1_25 rfl rfl rfl
theorem kd_2 (l : Launch) (Z : State) (a0 : Array Value) (h : Heap) (hw : ∀ d ∈ tables_1, d.before a0 Z = true) (A : Nat → Addr) (F : own_F Z h A)  : own_M l (⟨"com/example/row_lock_engine/rowlockengine/engine/LockKindWaitsForPinLaw", "kind", "(I)Lcom/example/row_lock_engine/rowlockengine/engine/LockKind;"⟩ : MethodName) method_2_code 1 (.object "com/example/row_lock_engine/rowlockengine/engine/LockKind") [] { frames := 0, cells := 0, slots := 0, locals := 0 } Z h #[(.int (2 : Int32))] (.ref (A 2)) := by
  refine own_met pn_1 (Ls := #[.val (.int (2 : Int32))]) (fun m => by first | (simp [entryFrame, mkF, argsToLocals, Value.category, maxLocals]; done) | rfl) ?_
  intro p e s m below meth c K
  exact kb_2 p l e _ s m _ below meth c Z a0 h hw A F K
set_option maxRecDepth 65536 in
theorem kb_3 (p : Program) (l : Launch) (e : Env) (R : Room) (s : State) (m : MethodId) (args : Array Value) (below : List Frame) (meth : Method) (c : Code) (Z : State) (a0 : Array Value) (h : Heap) (hw : ∀ d ∈ tables_1, d.before a0 Z = true) (A : Nat → Addr) (F : own_F Z h A) (K : own_C p s m meth c Z method_2_code "com/example/row_lock_engine/rowlockengine/engine/LockKindWaitsForPinLaw" (.object "com/example/row_lock_engine/rowlockengine/engine/LockKind") 1) :
    own_E p l e R s m args below meth c h 0 #[.val (.int (3 : Int32))] [] (.ref (A 3)) := by
  refine own_iloadN K (pc := 0) d1_0 rfl ?_
  refine own_ifY K (pc := 1) (pc' := 8) d1_1 (by decide) (by decide) (by decide) ?_
  refine own_iloadN K (pc := 8) d1_8 rfl ?_
  refine own_iconst K (pc := 9) d1_9 (x := (1 : Int32)) (by decide) ?_
  refine own_icmpY K (pc := 10) (pc' := 17) d1_10 (by decide) (by decide) (by decide) ?_
  refine own_iloadN K (pc := 17) d1_17 rfl ?_
  refine own_iconst K (pc := 18) d1_18 (x := (2 : Int32)) (by decide) ?_
  refine own_icmpY K (pc := 19) (pc' := 26) d1_19 (by decide) (by decide) (by decide) ?_
  refine own_iloadN K (pc := 26) d1_26 rfl ?_
  refine own_iconst K (pc := 27) d1_27 (x := (3 : Int32)) (by decide) ?_
  refine own_icmpN K (pc := 28) d1_28 (by decide) ?_
  refine own_getS K (pc := 31) (hw _ (List.mem_of_getElem? (i := 8) rfl)) F.1.2.2.2.2.2.2.1 d1_31 ?_
  exact own_retA K (pc := 34) d1_34 rfl rfl rfl
theorem kd_3 (l : Launch) (Z : State) (a0 : Array Value) (h : Heap) (hw : ∀ d ∈ tables_1, d.before a0 Z = true) (A : Nat → Addr) (F : own_F Z h A)  : own_M l (⟨"com/example/row_lock_engine/rowlockengine/engine/LockKindWaitsForPinLaw", "kind", "(I)Lcom/example/row_lock_engine/rowlockengine/engine/LockKind;"⟩ : MethodName) method_2_code 1 (.object "com/example/row_lock_engine/rowlockengine/engine/LockKind") [] { frames := 0, cells := 0, slots := 0, locals := 0 } Z h #[(.int (3 : Int32))] (.ref (A 3)) := by
  refine own_met pn_1 (Ls := #[.val (.int (3 : Int32))]) (fun m => by first | (simp [entryFrame, mkF, argsToLocals, Value.category, maxLocals]; done) | rfl) ?_
  intro p e s m below meth c K
  exact kb_3 p l e _ s m _ below meth c Z a0 h hw A F K
set_option maxRecDepth 65536 in
theorem kb_4 (p : Program) (l : Launch) (e : Env) (R : Room) (s : State) (m : MethodId) (args : Array Value) (below : List Frame) (meth : Method) (c : Code) (Z : State) (a0 : Array Value) (h : Heap) (hw : ∀ d ∈ tables_1, d.before a0 Z = true) (A : Nat → Addr) (F : own_F Z h A) (K : own_C p s m meth c Z method_2_code "com/example/row_lock_engine/rowlockengine/engine/LockKindWaitsForPinLaw" (.object "com/example/row_lock_engine/rowlockengine/engine/LockKind") 1) :
    own_E p l e R s m args below meth c h 0 #[.val (.int (4 : Int32))] [] (.ref (A 4)) := by
  refine own_iloadN K (pc := 0) d1_0 rfl ?_
  refine own_ifY K (pc := 1) (pc' := 8) d1_1 (by decide) (by decide) (by decide) ?_
  refine own_iloadN K (pc := 8) d1_8 rfl ?_
  refine own_iconst K (pc := 9) d1_9 (x := (1 : Int32)) (by decide) ?_
  refine own_icmpY K (pc := 10) (pc' := 17) d1_10 (by decide) (by decide) (by decide) ?_
  refine own_iloadN K (pc := 17) d1_17 rfl ?_
  refine own_iconst K (pc := 18) d1_18 (x := (2 : Int32)) (by decide) ?_
  refine own_icmpY K (pc := 19) (pc' := 26) d1_19 (by decide) (by decide) (by decide) ?_
  refine own_iloadN K (pc := 26) d1_26 rfl ?_
  refine own_iconst K (pc := 27) d1_27 (x := (3 : Int32)) (by decide) ?_
  refine own_icmpY K (pc := 28) (pc' := 35) d1_28 (by decide) (by decide) (by decide) ?_
  refine own_getS K (pc := 35) (hw _ (List.mem_of_getElem? (i := 23) rfl)) F.1.2.2.2.2.2.2.2.2.1 d1_35 ?_
  exact own_retA K (pc := 38) d1_38 rfl rfl rfl
theorem kd_4 (l : Launch) (Z : State) (a0 : Array Value) (h : Heap) (hw : ∀ d ∈ tables_1, d.before a0 Z = true) (A : Nat → Addr) (F : own_F Z h A)  : own_M l (⟨"com/example/row_lock_engine/rowlockengine/engine/LockKindWaitsForPinLaw", "kind", "(I)Lcom/example/row_lock_engine/rowlockengine/engine/LockKind;"⟩ : MethodName) method_2_code 1 (.object "com/example/row_lock_engine/rowlockengine/engine/LockKind") [] { frames := 0, cells := 0, slots := 0, locals := 0 } Z h #[(.int (4 : Int32))] (.ref (A 4)) := by
  refine own_met pn_1 (Ls := #[.val (.int (4 : Int32))]) (fun m => by first | (simp [entryFrame, mkF, argsToLocals, Value.category, maxLocals]; done) | rfl) ?_
  intro p e s m below meth c K
  exact kb_4 p l e _ s m _ below meth c Z a0 h hw A F K
set_option maxRecDepth 65536 in
theorem cb_0_0 (p : Program) (l : Launch) (e : Env) (R : Room) (s : State) (m : MethodId) (args : Array Value) (below : List Frame) (meth : Method) (c : Code) (Z : State) (a0 : Array Value) (h : Heap) (hw : ∀ d ∈ tables_1, d.before a0 Z = true) (A : Nat → Addr) (F : own_F Z h A) (K : own_C p s m meth c Z prog_52_method_5_code "com/example/row_lock_engine/rowlockengine/engine/LockKind" .boolean 2) :
    own_E p l e R s m args below meth c h 0 #[.val (.ref (A 0)), .val (.ref (A 0))] [] (.int 1) := by
  refine own_aloadN K (pc := 0) d2_0 rfl rfl ?_
  refine own_getS K (pc := 1) (hw _ (List.mem_of_getElem? (i := 15) rfl)) F.1.2.2.2.2.2.2.2.2.1 d2_1 ?_
  refine own_acmp K (pc := 4) (pc' := 7) (same := false) d2_4 (decide_eq_false (Fld.ne F.1.2.2.2.2.2.2.2.2.2.2.1 F.1.2.2.2.2.2.2.2.2.2.2.2.1 (by decide))) (by decide) (by decide) ?_
  refine own_aloadN K (pc := 7) d2_7 rfl rfl ?_
  refine own_getS K (pc := 8) (hw _ (List.mem_of_getElem? (i := 15) rfl)) F.1.2.2.2.2.2.2.2.2.1 d2_8 ?_
  refine own_acmp K (pc := 11) (pc' := 25) (same := false) d2_11 (decide_eq_false (Fld.ne F.1.2.2.2.2.2.2.2.2.2.2.1 F.1.2.2.2.2.2.2.2.2.2.2.2.1 (by decide))) (by decide) (by decide) ?_
  refine own_aloadN K (pc := 25) d2_25 rfl rfl ?_
  refine own_getF K (pc := 26) (hw _ (List.mem_of_getElem? (i := 17) rfl)) F.1.2.2.2.2.2.2.2.2.2.2.2.2.2.1 d2_26 ?_
  refine own_ifN K (pc := 29) d2_29 (by decide) ?_
  refine own_aloadN K (pc := 32) d2_32 rfl rfl ?_
  refine own_getF K (pc := 33) (hw _ (List.mem_of_getElem? (i := 17) rfl)) F.1.2.2.2.2.2.2.2.2.2.2.2.2.2.1 d2_33 ?_
  refine own_ifY K (pc := 36) (pc' := 53) d2_36 (by decide) (by decide) (by decide) ?_
  refine own_iconst K (pc := 53) d2_53 (x := (1 : Int32)) (by decide) ?_
  refine own_goto K (pc := 54) (pc' := 58) d2_54 (by decide) (by decide) ?_
  exact own_retZ K (pc := 58) d2_58 (by decide)
theorem cv_0_0 (l : Launch) (Z : State) (a0 : Array Value) (h : Heap) (hw : ∀ d ∈ tables_1, d.before a0 Z = true) (A : Nat → Addr) (F : own_F Z h A)  : own_M l (⟨"com/example/row_lock_engine/rowlockengine/engine/LockKind", "waitsFor", "(Lcom/example/row_lock_engine/rowlockengine/engine/LockKind;)Z"⟩ : MethodName) prog_52_method_5_code 2 .boolean [] { frames := 0, cells := 0, slots := 0, locals := 0 } Z h #[(.ref (A 0)), (.ref (A 0))] (.int (1 : Int32)) := by
  refine own_met pn_2 (Ls := #[.val (.ref (A 0)), .val (.ref (A 0))]) (fun m => by first | (simp [entryFrame, mkF, argsToLocals, Value.category, maxLocals]; done) | rfl) ?_
  intro p e s m below meth c K
  exact cb_0_0 p l e _ s m _ below meth c Z a0 h hw A F K
set_option maxRecDepth 65536 in
theorem xb_0_0 (p : Program) (l : Launch) (e : Env) (R : Room) (s : State) (m : MethodId) (args : Array Value) (below : List Frame) (meth : Method) (c : Code) (Z : State) (a0 : Array Value) (h : Heap) (hw : ∀ d ∈ tables_1, d.before a0 Z = true) (K : own_C p s m meth c Z method_3_code "com/example/row_lock_engine/rowlockengine/engine/LockKindWaitsForPinLaw" .boolean 2) :
    own_E p l e R s m args below meth c h 0 #[.val (.int (0 : Int32)), .val (.int (0 : Int32))] [] (.int 1) := by
  refine own_iloadN K (pc := 0) d3_0 rfl ?_
  refine own_iconst K (pc := 1) d3_1 (x := (4 : Int32)) (by decide) ?_
  refine own_icmpN K (pc := 2) d3_2 (by decide) ?_
  refine own_iloadN K (pc := 5) d3_5 rfl ?_
  refine own_iconst K (pc := 6) d3_6 (x := (4 : Int32)) (by decide) ?_
  refine own_icmpY K (pc := 7) (pc' := 21) d3_7 (by decide) (by decide) (by decide) ?_
  refine own_iloadN K (pc := 21) d3_21 rfl ?_
  refine own_iconst K (pc := 22) d3_22 (x := (1 : Int32)) (by decide) ?_
  refine own_icmpY K (pc := 23) (pc' := 28) d3_23 (by decide) (by decide) (by decide) ?_
  refine own_iloadN K (pc := 28) d3_28 rfl ?_
  refine own_iconst K (pc := 29) d3_29 (x := (3 : Int32)) (by decide) ?_
  refine own_icmpY K (pc := 30) (pc' := 49) d3_30 (by decide) (by decide) (by decide) ?_
  refine own_iloadN K (pc := 49) d3_49 rfl ?_
  refine own_ifY K (pc := 50) (pc' := 58) d3_50 (by decide) (by decide) (by decide) ?_
  refine own_iconst K (pc := 58) d3_58 (x := (1 : Int32)) (by decide) ?_
  refine own_goto K (pc := 59) (pc' := 63) d3_59 (by decide) (by decide) ?_
  exact own_retZ K (pc := 63) d3_63 (by decide)
theorem xp_0_0 (l : Launch) (Z : State) (a0 : Array Value) (h : Heap) (hw : ∀ d ∈ tables_1, d.before a0 Z = true)  : own_M l (⟨"com/example/row_lock_engine/rowlockengine/engine/LockKindWaitsForPinLaw", "expected", "(II)Z"⟩ : MethodName) method_3_code 2 .boolean [] { frames := 0, cells := 0, slots := 0, locals := 0 } Z h #[(.int (0 : Int32)), (.int (0 : Int32))] (.int (1 : Int32)) := by
  refine own_met pn_3 (Ls := #[.val (.int (0 : Int32)), .val (.int (0 : Int32))]) (fun m => by first | (simp [entryFrame, mkF, argsToLocals, Value.category, maxLocals]; done) | rfl) ?_
  intro p e s m below meth c K
  exact xb_0_0 p l e _ s m _ below meth c Z a0 h hw K
set_option maxRecDepth 65536 in
theorem cb_0_1 (p : Program) (l : Launch) (e : Env) (R : Room) (s : State) (m : MethodId) (args : Array Value) (below : List Frame) (meth : Method) (c : Code) (Z : State) (a0 : Array Value) (h : Heap) (hw : ∀ d ∈ tables_1, d.before a0 Z = true) (A : Nat → Addr) (F : own_F Z h A) (K : own_C p s m meth c Z prog_52_method_5_code "com/example/row_lock_engine/rowlockengine/engine/LockKind" .boolean 2) :
    own_E p l e R s m args below meth c h 0 #[.val (.ref (A 0)), .val (.ref (A 1))] [] (.int 0) := by
  refine own_aloadN K (pc := 0) d2_0 rfl rfl ?_
  refine own_getS K (pc := 1) (hw _ (List.mem_of_getElem? (i := 15) rfl)) F.1.2.2.2.2.2.2.2.2.1 d2_1 ?_
  refine own_acmp K (pc := 4) (pc' := 7) (same := false) d2_4 (decide_eq_false (Fld.ne F.1.2.2.2.2.2.2.2.2.2.2.1 F.1.2.2.2.2.2.2.2.2.2.2.2.1 (by decide))) (by decide) (by decide) ?_
  refine own_aloadN K (pc := 7) d2_7 rfl rfl ?_
  refine own_getS K (pc := 8) (hw _ (List.mem_of_getElem? (i := 15) rfl)) F.1.2.2.2.2.2.2.2.2.1 d2_8 ?_
  refine own_acmp K (pc := 11) (pc' := 25) (same := false) d2_11 (decide_eq_false (Fld.ne F.1.2.2.2.2.2.2.2.2.2.2.2.2.2.2.2.1 F.1.2.2.2.2.2.2.2.2.2.2.2.1 (by decide))) (by decide) (by decide) ?_
  refine own_aloadN K (pc := 25) d2_25 rfl rfl ?_
  refine own_getF K (pc := 26) (hw _ (List.mem_of_getElem? (i := 17) rfl)) F.1.2.2.2.2.2.2.2.2.2.2.2.2.2.1 d2_26 ?_
  refine own_ifN K (pc := 29) d2_29 (by decide) ?_
  refine own_aloadN K (pc := 32) d2_32 rfl rfl ?_
  refine own_getF K (pc := 33) (hw _ (List.mem_of_getElem? (i := 17) rfl)) F.1.2.2.2.2.2.2.2.2.2.2.2.2.2.2.2.2.2.1 d2_33 ?_
  refine own_ifN K (pc := 36) d2_36 (by decide) ?_
  refine own_aloadN K (pc := 39) d2_39 rfl rfl ?_
  refine own_getS K (pc := 40) (hw _ (List.mem_of_getElem? (i := 19) rfl)) F.1.2.2.2.2.2.2.1 d2_40 ?_
  refine own_acmp K (pc := 43) (pc' := 57) (same := false) d2_43 (decide_eq_false (Fld.ne F.1.2.2.2.2.2.2.2.2.2.2.1 F.1.2.2.2.2.2.2.2.2.2.2.2.2.1 (by decide))) (by decide) (by decide) ?_
  refine own_iconst K (pc := 57) d2_57 (x := (0 : Int32)) (by decide) ?_
  exact own_retZ K (pc := 58) d2_58 (by decide)
theorem cv_0_1 (l : Launch) (Z : State) (a0 : Array Value) (h : Heap) (hw : ∀ d ∈ tables_1, d.before a0 Z = true) (A : Nat → Addr) (F : own_F Z h A)  : own_M l (⟨"com/example/row_lock_engine/rowlockengine/engine/LockKind", "waitsFor", "(Lcom/example/row_lock_engine/rowlockengine/engine/LockKind;)Z"⟩ : MethodName) prog_52_method_5_code 2 .boolean [] { frames := 0, cells := 0, slots := 0, locals := 0 } Z h #[(.ref (A 0)), (.ref (A 1))] (.int (0 : Int32)) := by
  refine own_met pn_2 (Ls := #[.val (.ref (A 0)), .val (.ref (A 1))]) (fun m => by first | (simp [entryFrame, mkF, argsToLocals, Value.category, maxLocals]; done) | rfl) ?_
  intro p e s m below meth c K
  exact cb_0_1 p l e _ s m _ below meth c Z a0 h hw A F K
set_option maxRecDepth 65536 in
theorem xb_0_1 (p : Program) (l : Launch) (e : Env) (R : Room) (s : State) (m : MethodId) (args : Array Value) (below : List Frame) (meth : Method) (c : Code) (Z : State) (a0 : Array Value) (h : Heap) (hw : ∀ d ∈ tables_1, d.before a0 Z = true) (K : own_C p s m meth c Z method_3_code "com/example/row_lock_engine/rowlockengine/engine/LockKindWaitsForPinLaw" .boolean 2) :
    own_E p l e R s m args below meth c h 0 #[.val (.int (0 : Int32)), .val (.int (1 : Int32))] [] (.int 0) := by
  refine own_iloadN K (pc := 0) d3_0 rfl ?_
  refine own_iconst K (pc := 1) d3_1 (x := (4 : Int32)) (by decide) ?_
  refine own_icmpN K (pc := 2) d3_2 (by decide) ?_
  refine own_iloadN K (pc := 5) d3_5 rfl ?_
  refine own_iconst K (pc := 6) d3_6 (x := (4 : Int32)) (by decide) ?_
  refine own_icmpY K (pc := 7) (pc' := 21) d3_7 (by decide) (by decide) (by decide) ?_
  refine own_iloadN K (pc := 21) d3_21 rfl ?_
  refine own_iconst K (pc := 22) d3_22 (x := (1 : Int32)) (by decide) ?_
  refine own_icmpY K (pc := 23) (pc' := 28) d3_23 (by decide) (by decide) (by decide) ?_
  refine own_iloadN K (pc := 28) d3_28 rfl ?_
  refine own_iconst K (pc := 29) d3_29 (x := (3 : Int32)) (by decide) ?_
  refine own_icmpY K (pc := 30) (pc' := 49) d3_30 (by decide) (by decide) (by decide) ?_
  refine own_iloadN K (pc := 49) d3_49 rfl ?_
  refine own_ifN K (pc := 50) d3_50 (by decide) ?_
  refine own_iloadN K (pc := 53) d3_53 rfl ?_
  refine own_iconst K (pc := 54) d3_54 (x := (2 : Int32)) (by decide) ?_
  refine own_icmpY K (pc := 55) (pc' := 62) d3_55 (by decide) (by decide) (by decide) ?_
  refine own_iconst K (pc := 62) d3_62 (x := (0 : Int32)) (by decide) ?_
  exact own_retZ K (pc := 63) d3_63 (by decide)
theorem xp_0_1 (l : Launch) (Z : State) (a0 : Array Value) (h : Heap) (hw : ∀ d ∈ tables_1, d.before a0 Z = true)  : own_M l (⟨"com/example/row_lock_engine/rowlockengine/engine/LockKindWaitsForPinLaw", "expected", "(II)Z"⟩ : MethodName) method_3_code 2 .boolean [] { frames := 0, cells := 0, slots := 0, locals := 0 } Z h #[(.int (0 : Int32)), (.int (1 : Int32))] (.int (0 : Int32)) := by
  refine own_met pn_3 (Ls := #[.val (.int (0 : Int32)), .val (.int (1 : Int32))]) (fun m => by first | (simp [entryFrame, mkF, argsToLocals, Value.category, maxLocals]; done) | rfl) ?_
  intro p e s m below meth c K
  exact xb_0_1 p l e _ s m _ below meth c Z a0 h hw K
set_option maxRecDepth 65536 in
theorem cb_0_2 (p : Program) (l : Launch) (e : Env) (R : Room) (s : State) (m : MethodId) (args : Array Value) (below : List Frame) (meth : Method) (c : Code) (Z : State) (a0 : Array Value) (h : Heap) (hw : ∀ d ∈ tables_1, d.before a0 Z = true) (A : Nat → Addr) (F : own_F Z h A) (K : own_C p s m meth c Z prog_52_method_5_code "com/example/row_lock_engine/rowlockengine/engine/LockKind" .boolean 2) :
    own_E p l e R s m args below meth c h 0 #[.val (.ref (A 0)), .val (.ref (A 2))] [] (.int 1) := by
  refine own_aloadN K (pc := 0) d2_0 rfl rfl ?_
  refine own_getS K (pc := 1) (hw _ (List.mem_of_getElem? (i := 15) rfl)) F.1.2.2.2.2.2.2.2.2.1 d2_1 ?_
  refine own_acmp K (pc := 4) (pc' := 7) (same := false) d2_4 (decide_eq_false (Fld.ne F.1.2.2.2.2.2.2.2.2.2.2.1 F.1.2.2.2.2.2.2.2.2.2.2.2.1 (by decide))) (by decide) (by decide) ?_
  refine own_aloadN K (pc := 7) d2_7 rfl rfl ?_
  refine own_getS K (pc := 8) (hw _ (List.mem_of_getElem? (i := 15) rfl)) F.1.2.2.2.2.2.2.2.2.1 d2_8 ?_
  refine own_acmp K (pc := 11) (pc' := 25) (same := false) d2_11 (decide_eq_false (Fld.ne F.1.2.2.2.2.2.2.2.2.2.2.2.2.2.2.2.2.2.2.1 F.1.2.2.2.2.2.2.2.2.2.2.2.1 (by decide))) (by decide) (by decide) ?_
  refine own_aloadN K (pc := 25) d2_25 rfl rfl ?_
  refine own_getF K (pc := 26) (hw _ (List.mem_of_getElem? (i := 17) rfl)) F.1.2.2.2.2.2.2.2.2.2.2.2.2.2.1 d2_26 ?_
  refine own_ifN K (pc := 29) d2_29 (by decide) ?_
  refine own_aloadN K (pc := 32) d2_32 rfl rfl ?_
  refine own_getF K (pc := 33) (hw _ (List.mem_of_getElem? (i := 17) rfl)) F.1.2.2.2.2.2.2.2.2.2.2.2.2.2.2.2.2.2.2.2.2.1 d2_33 ?_
  refine own_ifY K (pc := 36) (pc' := 53) d2_36 (by decide) (by decide) (by decide) ?_
  refine own_iconst K (pc := 53) d2_53 (x := (1 : Int32)) (by decide) ?_
  refine own_goto K (pc := 54) (pc' := 58) d2_54 (by decide) (by decide) ?_
  exact own_retZ K (pc := 58) d2_58 (by decide)
theorem cv_0_2 (l : Launch) (Z : State) (a0 : Array Value) (h : Heap) (hw : ∀ d ∈ tables_1, d.before a0 Z = true) (A : Nat → Addr) (F : own_F Z h A)  : own_M l (⟨"com/example/row_lock_engine/rowlockengine/engine/LockKind", "waitsFor", "(Lcom/example/row_lock_engine/rowlockengine/engine/LockKind;)Z"⟩ : MethodName) prog_52_method_5_code 2 .boolean [] { frames := 0, cells := 0, slots := 0, locals := 0 } Z h #[(.ref (A 0)), (.ref (A 2))] (.int (1 : Int32)) := by
  refine own_met pn_2 (Ls := #[.val (.ref (A 0)), .val (.ref (A 2))]) (fun m => by first | (simp [entryFrame, mkF, argsToLocals, Value.category, maxLocals]; done) | rfl) ?_
  intro p e s m below meth c K
  exact cb_0_2 p l e _ s m _ below meth c Z a0 h hw A F K
set_option maxRecDepth 65536 in
theorem xb_0_2 (p : Program) (l : Launch) (e : Env) (R : Room) (s : State) (m : MethodId) (args : Array Value) (below : List Frame) (meth : Method) (c : Code) (Z : State) (a0 : Array Value) (h : Heap) (hw : ∀ d ∈ tables_1, d.before a0 Z = true) (K : own_C p s m meth c Z method_3_code "com/example/row_lock_engine/rowlockengine/engine/LockKindWaitsForPinLaw" .boolean 2) :
    own_E p l e R s m args below meth c h 0 #[.val (.int (0 : Int32)), .val (.int (2 : Int32))] [] (.int 1) := by
  refine own_iloadN K (pc := 0) d3_0 rfl ?_
  refine own_iconst K (pc := 1) d3_1 (x := (4 : Int32)) (by decide) ?_
  refine own_icmpN K (pc := 2) d3_2 (by decide) ?_
  refine own_iloadN K (pc := 5) d3_5 rfl ?_
  refine own_iconst K (pc := 6) d3_6 (x := (4 : Int32)) (by decide) ?_
  refine own_icmpY K (pc := 7) (pc' := 21) d3_7 (by decide) (by decide) (by decide) ?_
  refine own_iloadN K (pc := 21) d3_21 rfl ?_
  refine own_iconst K (pc := 22) d3_22 (x := (1 : Int32)) (by decide) ?_
  refine own_icmpY K (pc := 23) (pc' := 28) d3_23 (by decide) (by decide) (by decide) ?_
  refine own_iloadN K (pc := 28) d3_28 rfl ?_
  refine own_iconst K (pc := 29) d3_29 (x := (3 : Int32)) (by decide) ?_
  refine own_icmpY K (pc := 30) (pc' := 49) d3_30 (by decide) (by decide) (by decide) ?_
  refine own_iloadN K (pc := 49) d3_49 rfl ?_
  refine own_ifN K (pc := 50) d3_50 (by decide) ?_
  refine own_iloadN K (pc := 53) d3_53 rfl ?_
  refine own_iconst K (pc := 54) d3_54 (x := (2 : Int32)) (by decide) ?_
  refine own_icmpN K (pc := 55) d3_55 (by decide) ?_
  refine own_iconst K (pc := 58) d3_58 (x := (1 : Int32)) (by decide) ?_
  refine own_goto K (pc := 59) (pc' := 63) d3_59 (by decide) (by decide) ?_
  exact own_retZ K (pc := 63) d3_63 (by decide)
theorem xp_0_2 (l : Launch) (Z : State) (a0 : Array Value) (h : Heap) (hw : ∀ d ∈ tables_1, d.before a0 Z = true)  : own_M l (⟨"com/example/row_lock_engine/rowlockengine/engine/LockKindWaitsForPinLaw", "expected", "(II)Z"⟩ : MethodName) method_3_code 2 .boolean [] { frames := 0, cells := 0, slots := 0, locals := 0 } Z h #[(.int (0 : Int32)), (.int (2 : Int32))] (.int (1 : Int32)) := by
  refine own_met pn_3 (Ls := #[.val (.int (0 : Int32)), .val (.int (2 : Int32))]) (fun m => by first | (simp [entryFrame, mkF, argsToLocals, Value.category, maxLocals]; done) | rfl) ?_
  intro p e s m below meth c K
  exact xb_0_2 p l e _ s m _ below meth c Z a0 h hw K
set_option maxRecDepth 65536 in
theorem cb_0_3 (p : Program) (l : Launch) (e : Env) (R : Room) (s : State) (m : MethodId) (args : Array Value) (below : List Frame) (meth : Method) (c : Code) (Z : State) (a0 : Array Value) (h : Heap) (hw : ∀ d ∈ tables_1, d.before a0 Z = true) (A : Nat → Addr) (F : own_F Z h A) (K : own_C p s m meth c Z prog_52_method_5_code "com/example/row_lock_engine/rowlockengine/engine/LockKind" .boolean 2) :
    own_E p l e R s m args below meth c h 0 #[.val (.ref (A 0)), .val (.ref (A 3))] [] (.int 0) := by
  refine own_aloadN K (pc := 0) d2_0 rfl rfl ?_
  refine own_getS K (pc := 1) (hw _ (List.mem_of_getElem? (i := 15) rfl)) F.1.2.2.2.2.2.2.2.2.1 d2_1 ?_
  refine own_acmp K (pc := 4) (pc' := 7) (same := false) d2_4 (decide_eq_false (Fld.ne F.1.2.2.2.2.2.2.2.2.2.2.1 F.1.2.2.2.2.2.2.2.2.2.2.2.1 (by decide))) (by decide) (by decide) ?_
  refine own_aloadN K (pc := 7) d2_7 rfl rfl ?_
  refine own_getS K (pc := 8) (hw _ (List.mem_of_getElem? (i := 15) rfl)) F.1.2.2.2.2.2.2.2.2.1 d2_8 ?_
  refine own_acmp K (pc := 11) (pc' := 25) (same := false) d2_11 (decide_eq_false (Fld.ne F.1.2.2.2.2.2.2.2.2.2.2.2.2.1 F.1.2.2.2.2.2.2.2.2.2.2.2.1 (by decide))) (by decide) (by decide) ?_
  refine own_aloadN K (pc := 25) d2_25 rfl rfl ?_
  refine own_getF K (pc := 26) (hw _ (List.mem_of_getElem? (i := 17) rfl)) F.1.2.2.2.2.2.2.2.2.2.2.2.2.2.1 d2_26 ?_
  refine own_ifN K (pc := 29) d2_29 (by decide) ?_
  refine own_aloadN K (pc := 32) d2_32 rfl rfl ?_
  refine own_getF K (pc := 33) (hw _ (List.mem_of_getElem? (i := 17) rfl)) F.1.2.2.2.2.2.2.2.2.2.2.2.2.2.2.1 d2_33 ?_
  refine own_ifN K (pc := 36) d2_36 (by decide) ?_
  refine own_aloadN K (pc := 39) d2_39 rfl rfl ?_
  refine own_getS K (pc := 40) (hw _ (List.mem_of_getElem? (i := 19) rfl)) F.1.2.2.2.2.2.2.1 d2_40 ?_
  refine own_acmp K (pc := 43) (pc' := 57) (same := false) d2_43 (decide_eq_false (Fld.ne F.1.2.2.2.2.2.2.2.2.2.2.1 F.1.2.2.2.2.2.2.2.2.2.2.2.2.1 (by decide))) (by decide) (by decide) ?_
  refine own_iconst K (pc := 57) d2_57 (x := (0 : Int32)) (by decide) ?_
  exact own_retZ K (pc := 58) d2_58 (by decide)
theorem cv_0_3 (l : Launch) (Z : State) (a0 : Array Value) (h : Heap) (hw : ∀ d ∈ tables_1, d.before a0 Z = true) (A : Nat → Addr) (F : own_F Z h A)  : own_M l (⟨"com/example/row_lock_engine/rowlockengine/engine/LockKind", "waitsFor", "(Lcom/example/row_lock_engine/rowlockengine/engine/LockKind;)Z"⟩ : MethodName) prog_52_method_5_code 2 .boolean [] { frames := 0, cells := 0, slots := 0, locals := 0 } Z h #[(.ref (A 0)), (.ref (A 3))] (.int (0 : Int32)) := by
  refine own_met pn_2 (Ls := #[.val (.ref (A 0)), .val (.ref (A 3))]) (fun m => by first | (simp [entryFrame, mkF, argsToLocals, Value.category, maxLocals]; done) | rfl) ?_
  intro p e s m below meth c K
  exact cb_0_3 p l e _ s m _ below meth c Z a0 h hw A F K
set_option maxRecDepth 65536 in
theorem xb_0_3 (p : Program) (l : Launch) (e : Env) (R : Room) (s : State) (m : MethodId) (args : Array Value) (below : List Frame) (meth : Method) (c : Code) (Z : State) (a0 : Array Value) (h : Heap) (hw : ∀ d ∈ tables_1, d.before a0 Z = true) (K : own_C p s m meth c Z method_3_code "com/example/row_lock_engine/rowlockengine/engine/LockKindWaitsForPinLaw" .boolean 2) :
    own_E p l e R s m args below meth c h 0 #[.val (.int (0 : Int32)), .val (.int (3 : Int32))] [] (.int 0) := by
  refine own_iloadN K (pc := 0) d3_0 rfl ?_
  refine own_iconst K (pc := 1) d3_1 (x := (4 : Int32)) (by decide) ?_
  refine own_icmpN K (pc := 2) d3_2 (by decide) ?_
  refine own_iloadN K (pc := 5) d3_5 rfl ?_
  refine own_iconst K (pc := 6) d3_6 (x := (4 : Int32)) (by decide) ?_
  refine own_icmpY K (pc := 7) (pc' := 21) d3_7 (by decide) (by decide) (by decide) ?_
  refine own_iloadN K (pc := 21) d3_21 rfl ?_
  refine own_iconst K (pc := 22) d3_22 (x := (1 : Int32)) (by decide) ?_
  refine own_icmpY K (pc := 23) (pc' := 28) d3_23 (by decide) (by decide) (by decide) ?_
  refine own_iloadN K (pc := 28) d3_28 rfl ?_
  refine own_iconst K (pc := 29) d3_29 (x := (3 : Int32)) (by decide) ?_
  refine own_icmpY K (pc := 30) (pc' := 49) d3_30 (by decide) (by decide) (by decide) ?_
  refine own_iloadN K (pc := 49) d3_49 rfl ?_
  refine own_ifN K (pc := 50) d3_50 (by decide) ?_
  refine own_iloadN K (pc := 53) d3_53 rfl ?_
  refine own_iconst K (pc := 54) d3_54 (x := (2 : Int32)) (by decide) ?_
  refine own_icmpY K (pc := 55) (pc' := 62) d3_55 (by decide) (by decide) (by decide) ?_
  refine own_iconst K (pc := 62) d3_62 (x := (0 : Int32)) (by decide) ?_
  exact own_retZ K (pc := 63) d3_63 (by decide)
theorem xp_0_3 (l : Launch) (Z : State) (a0 : Array Value) (h : Heap) (hw : ∀ d ∈ tables_1, d.before a0 Z = true)  : own_M l (⟨"com/example/row_lock_engine/rowlockengine/engine/LockKindWaitsForPinLaw", "expected", "(II)Z"⟩ : MethodName) method_3_code 2 .boolean [] { frames := 0, cells := 0, slots := 0, locals := 0 } Z h #[(.int (0 : Int32)), (.int (3 : Int32))] (.int (0 : Int32)) := by
  refine own_met pn_3 (Ls := #[.val (.int (0 : Int32)), .val (.int (3 : Int32))]) (fun m => by first | (simp [entryFrame, mkF, argsToLocals, Value.category, maxLocals]; done) | rfl) ?_
  intro p e s m below meth c K
  exact xb_0_3 p l e _ s m _ below meth c Z a0 h hw K
set_option maxRecDepth 65536 in
theorem cb_0_4 (p : Program) (l : Launch) (e : Env) (R : Room) (s : State) (m : MethodId) (args : Array Value) (below : List Frame) (meth : Method) (c : Code) (Z : State) (a0 : Array Value) (h : Heap) (hw : ∀ d ∈ tables_1, d.before a0 Z = true) (A : Nat → Addr) (F : own_F Z h A) (K : own_C p s m meth c Z prog_52_method_5_code "com/example/row_lock_engine/rowlockengine/engine/LockKind" .boolean 2) :
    own_E p l e R s m args below meth c h 0 #[.val (.ref (A 0)), .val (.ref (A 4))] [] (.int 0) := by
  refine own_aloadN K (pc := 0) d2_0 rfl rfl ?_
  refine own_getS K (pc := 1) (hw _ (List.mem_of_getElem? (i := 15) rfl)) F.1.2.2.2.2.2.2.2.2.1 d2_1 ?_
  refine own_acmp K (pc := 4) (pc' := 7) (same := false) d2_4 (decide_eq_false (Fld.ne F.1.2.2.2.2.2.2.2.2.2.2.1 F.1.2.2.2.2.2.2.2.2.2.2.2.1 (by decide))) (by decide) (by decide) ?_
  refine own_aloadN K (pc := 7) d2_7 rfl rfl ?_
  refine own_getS K (pc := 8) (hw _ (List.mem_of_getElem? (i := 15) rfl)) F.1.2.2.2.2.2.2.2.2.1 d2_8 ?_
  refine own_acmp K (pc := 11) (pc' := 14) (same := true) d2_11 (decide_eq_true rfl) (by decide) (by decide) ?_
  refine own_aloadN K (pc := 14) d2_14 rfl rfl ?_
  refine own_aloadN K (pc := 15) d2_15 rfl rfl ?_
  refine own_acmp K (pc := 16) (pc' := 23) (same := false) d2_16 (decide_eq_false (Fld.ne F.1.2.2.2.2.2.2.2.2.2.2.1 F.1.2.2.2.2.2.2.2.2.2.2.2.1 (by decide))) (by decide) (by decide) ?_
  refine own_iconst K (pc := 23) d2_23 (x := (0 : Int32)) (by decide) ?_
  exact own_retZ K (pc := 24) d2_24 (by decide)
theorem cv_0_4 (l : Launch) (Z : State) (a0 : Array Value) (h : Heap) (hw : ∀ d ∈ tables_1, d.before a0 Z = true) (A : Nat → Addr) (F : own_F Z h A)  : own_M l (⟨"com/example/row_lock_engine/rowlockengine/engine/LockKind", "waitsFor", "(Lcom/example/row_lock_engine/rowlockengine/engine/LockKind;)Z"⟩ : MethodName) prog_52_method_5_code 2 .boolean [] { frames := 0, cells := 0, slots := 0, locals := 0 } Z h #[(.ref (A 0)), (.ref (A 4))] (.int (0 : Int32)) := by
  refine own_met pn_2 (Ls := #[.val (.ref (A 0)), .val (.ref (A 4))]) (fun m => by first | (simp [entryFrame, mkF, argsToLocals, Value.category, maxLocals]; done) | rfl) ?_
  intro p e s m below meth c K
  exact cb_0_4 p l e _ s m _ below meth c Z a0 h hw A F K
set_option maxRecDepth 65536 in
theorem xb_0_4 (p : Program) (l : Launch) (e : Env) (R : Room) (s : State) (m : MethodId) (args : Array Value) (below : List Frame) (meth : Method) (c : Code) (Z : State) (a0 : Array Value) (h : Heap) (hw : ∀ d ∈ tables_1, d.before a0 Z = true) (K : own_C p s m meth c Z method_3_code "com/example/row_lock_engine/rowlockengine/engine/LockKindWaitsForPinLaw" .boolean 2) :
    own_E p l e R s m args below meth c h 0 #[.val (.int (0 : Int32)), .val (.int (4 : Int32))] [] (.int 0) := by
  refine own_iloadN K (pc := 0) d3_0 rfl ?_
  refine own_iconst K (pc := 1) d3_1 (x := (4 : Int32)) (by decide) ?_
  refine own_icmpN K (pc := 2) d3_2 (by decide) ?_
  refine own_iloadN K (pc := 5) d3_5 rfl ?_
  refine own_iconst K (pc := 6) d3_6 (x := (4 : Int32)) (by decide) ?_
  refine own_icmpN K (pc := 7) d3_7 (by decide) ?_
  refine own_iloadN K (pc := 10) d3_10 rfl ?_
  refine own_iloadN K (pc := 11) d3_11 rfl ?_
  refine own_icmpY K (pc := 12) (pc' := 19) d3_12 (by decide) (by decide) (by decide) ?_
  refine own_iconst K (pc := 19) d3_19 (x := (0 : Int32)) (by decide) ?_
  exact own_retZ K (pc := 20) d3_20 (by decide)
theorem xp_0_4 (l : Launch) (Z : State) (a0 : Array Value) (h : Heap) (hw : ∀ d ∈ tables_1, d.before a0 Z = true)  : own_M l (⟨"com/example/row_lock_engine/rowlockengine/engine/LockKindWaitsForPinLaw", "expected", "(II)Z"⟩ : MethodName) method_3_code 2 .boolean [] { frames := 0, cells := 0, slots := 0, locals := 0 } Z h #[(.int (0 : Int32)), (.int (4 : Int32))] (.int (0 : Int32)) := by
  refine own_met pn_3 (Ls := #[.val (.int (0 : Int32)), .val (.int (4 : Int32))]) (fun m => by first | (simp [entryFrame, mkF, argsToLocals, Value.category, maxLocals]; done) | rfl) ?_
  intro p e s m below meth c K
  exact xb_0_4 p l e _ s m _ below meth c Z a0 h hw K
set_option maxRecDepth 65536 in
theorem cb_1_0 (p : Program) (l : Launch) (e : Env) (R : Room) (s : State) (m : MethodId) (args : Array Value) (below : List Frame) (meth : Method) (c : Code) (Z : State) (a0 : Array Value) (h : Heap) (hw : ∀ d ∈ tables_1, d.before a0 Z = true) (A : Nat → Addr) (F : own_F Z h A) (K : own_C p s m meth c Z prog_52_method_5_code "com/example/row_lock_engine/rowlockengine/engine/LockKind" .boolean 2) :
    own_E p l e R s m args below meth c h 0 #[.val (.ref (A 1)), .val (.ref (A 0))] [] (.int 0) := by
  refine own_aloadN K (pc := 0) d2_0 rfl rfl ?_
  refine own_getS K (pc := 1) (hw _ (List.mem_of_getElem? (i := 15) rfl)) F.1.2.2.2.2.2.2.2.2.1 d2_1 ?_
  refine own_acmp K (pc := 4) (pc' := 7) (same := false) d2_4 (decide_eq_false (Fld.ne F.1.2.2.2.2.2.2.2.2.2.2.2.2.2.2.2.1 F.1.2.2.2.2.2.2.2.2.2.2.2.1 (by decide))) (by decide) (by decide) ?_
  refine own_aloadN K (pc := 7) d2_7 rfl rfl ?_
  refine own_getS K (pc := 8) (hw _ (List.mem_of_getElem? (i := 15) rfl)) F.1.2.2.2.2.2.2.2.2.1 d2_8 ?_
  refine own_acmp K (pc := 11) (pc' := 25) (same := false) d2_11 (decide_eq_false (Fld.ne F.1.2.2.2.2.2.2.2.2.2.2.1 F.1.2.2.2.2.2.2.2.2.2.2.2.1 (by decide))) (by decide) (by decide) ?_
  refine own_aloadN K (pc := 25) d2_25 rfl rfl ?_
  refine own_getF K (pc := 26) (hw _ (List.mem_of_getElem? (i := 17) rfl)) F.1.2.2.2.2.2.2.2.2.2.2.2.2.2.2.2.2.2.1 d2_26 ?_
  refine own_ifY K (pc := 29) (pc' := 39) d2_29 (by decide) (by decide) (by decide) ?_
  refine own_aloadN K (pc := 39) d2_39 rfl rfl ?_
  refine own_getS K (pc := 40) (hw _ (List.mem_of_getElem? (i := 19) rfl)) F.1.2.2.2.2.2.2.1 d2_40 ?_
  refine own_acmp K (pc := 43) (pc' := 57) (same := false) d2_43 (decide_eq_false (Fld.ne F.1.2.2.2.2.2.2.2.2.2.2.2.2.2.2.2.1 F.1.2.2.2.2.2.2.2.2.2.2.2.2.1 (by decide))) (by decide) (by decide) ?_
  refine own_iconst K (pc := 57) d2_57 (x := (0 : Int32)) (by decide) ?_
  exact own_retZ K (pc := 58) d2_58 (by decide)
theorem cv_1_0 (l : Launch) (Z : State) (a0 : Array Value) (h : Heap) (hw : ∀ d ∈ tables_1, d.before a0 Z = true) (A : Nat → Addr) (F : own_F Z h A)  : own_M l (⟨"com/example/row_lock_engine/rowlockengine/engine/LockKind", "waitsFor", "(Lcom/example/row_lock_engine/rowlockengine/engine/LockKind;)Z"⟩ : MethodName) prog_52_method_5_code 2 .boolean [] { frames := 0, cells := 0, slots := 0, locals := 0 } Z h #[(.ref (A 1)), (.ref (A 0))] (.int (0 : Int32)) := by
  refine own_met pn_2 (Ls := #[.val (.ref (A 1)), .val (.ref (A 0))]) (fun m => by first | (simp [entryFrame, mkF, argsToLocals, Value.category, maxLocals]; done) | rfl) ?_
  intro p e s m below meth c K
  exact cb_1_0 p l e _ s m _ below meth c Z a0 h hw A F K
set_option maxRecDepth 65536 in
theorem xb_1_0 (p : Program) (l : Launch) (e : Env) (R : Room) (s : State) (m : MethodId) (args : Array Value) (below : List Frame) (meth : Method) (c : Code) (Z : State) (a0 : Array Value) (h : Heap) (hw : ∀ d ∈ tables_1, d.before a0 Z = true) (K : own_C p s m meth c Z method_3_code "com/example/row_lock_engine/rowlockengine/engine/LockKindWaitsForPinLaw" .boolean 2) :
    own_E p l e R s m args below meth c h 0 #[.val (.int (1 : Int32)), .val (.int (0 : Int32))] [] (.int 0) := by
  refine own_iloadN K (pc := 0) d3_0 rfl ?_
  refine own_iconst K (pc := 1) d3_1 (x := (4 : Int32)) (by decide) ?_
  refine own_icmpN K (pc := 2) d3_2 (by decide) ?_
  refine own_iloadN K (pc := 5) d3_5 rfl ?_
  refine own_iconst K (pc := 6) d3_6 (x := (4 : Int32)) (by decide) ?_
  refine own_icmpY K (pc := 7) (pc' := 21) d3_7 (by decide) (by decide) (by decide) ?_
  refine own_iloadN K (pc := 21) d3_21 rfl ?_
  refine own_iconst K (pc := 22) d3_22 (x := (1 : Int32)) (by decide) ?_
  refine own_icmpN K (pc := 23) d3_23 (by decide) ?_
  refine own_iconst K (pc := 26) d3_26 (x := (0 : Int32)) (by decide) ?_
  exact own_retZ K (pc := 27) d3_27 (by decide)
theorem xp_1_0 (l : Launch) (Z : State) (a0 : Array Value) (h : Heap) (hw : ∀ d ∈ tables_1, d.before a0 Z = true)  : own_M l (⟨"com/example/row_lock_engine/rowlockengine/engine/LockKindWaitsForPinLaw", "expected", "(II)Z"⟩ : MethodName) method_3_code 2 .boolean [] { frames := 0, cells := 0, slots := 0, locals := 0 } Z h #[(.int (1 : Int32)), (.int (0 : Int32))] (.int (0 : Int32)) := by
  refine own_met pn_3 (Ls := #[.val (.int (1 : Int32)), .val (.int (0 : Int32))]) (fun m => by first | (simp [entryFrame, mkF, argsToLocals, Value.category, maxLocals]; done) | rfl) ?_
  intro p e s m below meth c K
  exact xb_1_0 p l e _ s m _ below meth c Z a0 h hw K
set_option maxRecDepth 65536 in
theorem cb_1_1 (p : Program) (l : Launch) (e : Env) (R : Room) (s : State) (m : MethodId) (args : Array Value) (below : List Frame) (meth : Method) (c : Code) (Z : State) (a0 : Array Value) (h : Heap) (hw : ∀ d ∈ tables_1, d.before a0 Z = true) (A : Nat → Addr) (F : own_F Z h A) (K : own_C p s m meth c Z prog_52_method_5_code "com/example/row_lock_engine/rowlockengine/engine/LockKind" .boolean 2) :
    own_E p l e R s m args below meth c h 0 #[.val (.ref (A 1)), .val (.ref (A 1))] [] (.int 0) := by
  refine own_aloadN K (pc := 0) d2_0 rfl rfl ?_
  refine own_getS K (pc := 1) (hw _ (List.mem_of_getElem? (i := 15) rfl)) F.1.2.2.2.2.2.2.2.2.1 d2_1 ?_
  refine own_acmp K (pc := 4) (pc' := 7) (same := false) d2_4 (decide_eq_false (Fld.ne F.1.2.2.2.2.2.2.2.2.2.2.2.2.2.2.2.1 F.1.2.2.2.2.2.2.2.2.2.2.2.1 (by decide))) (by decide) (by decide) ?_
  refine own_aloadN K (pc := 7) d2_7 rfl rfl ?_
  refine own_getS K (pc := 8) (hw _ (List.mem_of_getElem? (i := 15) rfl)) F.1.2.2.2.2.2.2.2.2.1 d2_8 ?_
  refine own_acmp K (pc := 11) (pc' := 25) (same := false) d2_11 (decide_eq_false (Fld.ne F.1.2.2.2.2.2.2.2.2.2.2.2.2.2.2.2.1 F.1.2.2.2.2.2.2.2.2.2.2.2.1 (by decide))) (by decide) (by decide) ?_
  refine own_aloadN K (pc := 25) d2_25 rfl rfl ?_
  refine own_getF K (pc := 26) (hw _ (List.mem_of_getElem? (i := 17) rfl)) F.1.2.2.2.2.2.2.2.2.2.2.2.2.2.2.2.2.2.1 d2_26 ?_
  refine own_ifY K (pc := 29) (pc' := 39) d2_29 (by decide) (by decide) (by decide) ?_
  refine own_aloadN K (pc := 39) d2_39 rfl rfl ?_
  refine own_getS K (pc := 40) (hw _ (List.mem_of_getElem? (i := 19) rfl)) F.1.2.2.2.2.2.2.1 d2_40 ?_
  refine own_acmp K (pc := 43) (pc' := 57) (same := false) d2_43 (decide_eq_false (Fld.ne F.1.2.2.2.2.2.2.2.2.2.2.2.2.2.2.2.1 F.1.2.2.2.2.2.2.2.2.2.2.2.2.1 (by decide))) (by decide) (by decide) ?_
  refine own_iconst K (pc := 57) d2_57 (x := (0 : Int32)) (by decide) ?_
  exact own_retZ K (pc := 58) d2_58 (by decide)
theorem cv_1_1 (l : Launch) (Z : State) (a0 : Array Value) (h : Heap) (hw : ∀ d ∈ tables_1, d.before a0 Z = true) (A : Nat → Addr) (F : own_F Z h A)  : own_M l (⟨"com/example/row_lock_engine/rowlockengine/engine/LockKind", "waitsFor", "(Lcom/example/row_lock_engine/rowlockengine/engine/LockKind;)Z"⟩ : MethodName) prog_52_method_5_code 2 .boolean [] { frames := 0, cells := 0, slots := 0, locals := 0 } Z h #[(.ref (A 1)), (.ref (A 1))] (.int (0 : Int32)) := by
  refine own_met pn_2 (Ls := #[.val (.ref (A 1)), .val (.ref (A 1))]) (fun m => by first | (simp [entryFrame, mkF, argsToLocals, Value.category, maxLocals]; done) | rfl) ?_
  intro p e s m below meth c K
  exact cb_1_1 p l e _ s m _ below meth c Z a0 h hw A F K
set_option maxRecDepth 65536 in
theorem xb_1_1 (p : Program) (l : Launch) (e : Env) (R : Room) (s : State) (m : MethodId) (args : Array Value) (below : List Frame) (meth : Method) (c : Code) (Z : State) (a0 : Array Value) (h : Heap) (hw : ∀ d ∈ tables_1, d.before a0 Z = true) (K : own_C p s m meth c Z method_3_code "com/example/row_lock_engine/rowlockengine/engine/LockKindWaitsForPinLaw" .boolean 2) :
    own_E p l e R s m args below meth c h 0 #[.val (.int (1 : Int32)), .val (.int (1 : Int32))] [] (.int 0) := by
  refine own_iloadN K (pc := 0) d3_0 rfl ?_
  refine own_iconst K (pc := 1) d3_1 (x := (4 : Int32)) (by decide) ?_
  refine own_icmpN K (pc := 2) d3_2 (by decide) ?_
  refine own_iloadN K (pc := 5) d3_5 rfl ?_
  refine own_iconst K (pc := 6) d3_6 (x := (4 : Int32)) (by decide) ?_
  refine own_icmpY K (pc := 7) (pc' := 21) d3_7 (by decide) (by decide) (by decide) ?_
  refine own_iloadN K (pc := 21) d3_21 rfl ?_
  refine own_iconst K (pc := 22) d3_22 (x := (1 : Int32)) (by decide) ?_
  refine own_icmpN K (pc := 23) d3_23 (by decide) ?_
  refine own_iconst K (pc := 26) d3_26 (x := (0 : Int32)) (by decide) ?_
  exact own_retZ K (pc := 27) d3_27 (by decide)
theorem xp_1_1 (l : Launch) (Z : State) (a0 : Array Value) (h : Heap) (hw : ∀ d ∈ tables_1, d.before a0 Z = true)  : own_M l (⟨"com/example/row_lock_engine/rowlockengine/engine/LockKindWaitsForPinLaw", "expected", "(II)Z"⟩ : MethodName) method_3_code 2 .boolean [] { frames := 0, cells := 0, slots := 0, locals := 0 } Z h #[(.int (1 : Int32)), (.int (1 : Int32))] (.int (0 : Int32)) := by
  refine own_met pn_3 (Ls := #[.val (.int (1 : Int32)), .val (.int (1 : Int32))]) (fun m => by first | (simp [entryFrame, mkF, argsToLocals, Value.category, maxLocals]; done) | rfl) ?_
  intro p e s m below meth c K
  exact xb_1_1 p l e _ s m _ below meth c Z a0 h hw K
set_option maxRecDepth 65536 in
theorem cb_1_2 (p : Program) (l : Launch) (e : Env) (R : Room) (s : State) (m : MethodId) (args : Array Value) (below : List Frame) (meth : Method) (c : Code) (Z : State) (a0 : Array Value) (h : Heap) (hw : ∀ d ∈ tables_1, d.before a0 Z = true) (A : Nat → Addr) (F : own_F Z h A) (K : own_C p s m meth c Z prog_52_method_5_code "com/example/row_lock_engine/rowlockengine/engine/LockKind" .boolean 2) :
    own_E p l e R s m args below meth c h 0 #[.val (.ref (A 1)), .val (.ref (A 2))] [] (.int 0) := by
  refine own_aloadN K (pc := 0) d2_0 rfl rfl ?_
  refine own_getS K (pc := 1) (hw _ (List.mem_of_getElem? (i := 15) rfl)) F.1.2.2.2.2.2.2.2.2.1 d2_1 ?_
  refine own_acmp K (pc := 4) (pc' := 7) (same := false) d2_4 (decide_eq_false (Fld.ne F.1.2.2.2.2.2.2.2.2.2.2.2.2.2.2.2.1 F.1.2.2.2.2.2.2.2.2.2.2.2.1 (by decide))) (by decide) (by decide) ?_
  refine own_aloadN K (pc := 7) d2_7 rfl rfl ?_
  refine own_getS K (pc := 8) (hw _ (List.mem_of_getElem? (i := 15) rfl)) F.1.2.2.2.2.2.2.2.2.1 d2_8 ?_
  refine own_acmp K (pc := 11) (pc' := 25) (same := false) d2_11 (decide_eq_false (Fld.ne F.1.2.2.2.2.2.2.2.2.2.2.2.2.2.2.2.2.2.2.1 F.1.2.2.2.2.2.2.2.2.2.2.2.1 (by decide))) (by decide) (by decide) ?_
  refine own_aloadN K (pc := 25) d2_25 rfl rfl ?_
  refine own_getF K (pc := 26) (hw _ (List.mem_of_getElem? (i := 17) rfl)) F.1.2.2.2.2.2.2.2.2.2.2.2.2.2.2.2.2.2.1 d2_26 ?_
  refine own_ifY K (pc := 29) (pc' := 39) d2_29 (by decide) (by decide) (by decide) ?_
  refine own_aloadN K (pc := 39) d2_39 rfl rfl ?_
  refine own_getS K (pc := 40) (hw _ (List.mem_of_getElem? (i := 19) rfl)) F.1.2.2.2.2.2.2.1 d2_40 ?_
  refine own_acmp K (pc := 43) (pc' := 57) (same := false) d2_43 (decide_eq_false (Fld.ne F.1.2.2.2.2.2.2.2.2.2.2.2.2.2.2.2.1 F.1.2.2.2.2.2.2.2.2.2.2.2.2.1 (by decide))) (by decide) (by decide) ?_
  refine own_iconst K (pc := 57) d2_57 (x := (0 : Int32)) (by decide) ?_
  exact own_retZ K (pc := 58) d2_58 (by decide)
theorem cv_1_2 (l : Launch) (Z : State) (a0 : Array Value) (h : Heap) (hw : ∀ d ∈ tables_1, d.before a0 Z = true) (A : Nat → Addr) (F : own_F Z h A)  : own_M l (⟨"com/example/row_lock_engine/rowlockengine/engine/LockKind", "waitsFor", "(Lcom/example/row_lock_engine/rowlockengine/engine/LockKind;)Z"⟩ : MethodName) prog_52_method_5_code 2 .boolean [] { frames := 0, cells := 0, slots := 0, locals := 0 } Z h #[(.ref (A 1)), (.ref (A 2))] (.int (0 : Int32)) := by
  refine own_met pn_2 (Ls := #[.val (.ref (A 1)), .val (.ref (A 2))]) (fun m => by first | (simp [entryFrame, mkF, argsToLocals, Value.category, maxLocals]; done) | rfl) ?_
  intro p e s m below meth c K
  exact cb_1_2 p l e _ s m _ below meth c Z a0 h hw A F K
set_option maxRecDepth 65536 in
theorem xb_1_2 (p : Program) (l : Launch) (e : Env) (R : Room) (s : State) (m : MethodId) (args : Array Value) (below : List Frame) (meth : Method) (c : Code) (Z : State) (a0 : Array Value) (h : Heap) (hw : ∀ d ∈ tables_1, d.before a0 Z = true) (K : own_C p s m meth c Z method_3_code "com/example/row_lock_engine/rowlockengine/engine/LockKindWaitsForPinLaw" .boolean 2) :
    own_E p l e R s m args below meth c h 0 #[.val (.int (1 : Int32)), .val (.int (2 : Int32))] [] (.int 0) := by
  refine own_iloadN K (pc := 0) d3_0 rfl ?_
  refine own_iconst K (pc := 1) d3_1 (x := (4 : Int32)) (by decide) ?_
  refine own_icmpN K (pc := 2) d3_2 (by decide) ?_
  refine own_iloadN K (pc := 5) d3_5 rfl ?_
  refine own_iconst K (pc := 6) d3_6 (x := (4 : Int32)) (by decide) ?_
  refine own_icmpY K (pc := 7) (pc' := 21) d3_7 (by decide) (by decide) (by decide) ?_
  refine own_iloadN K (pc := 21) d3_21 rfl ?_
  refine own_iconst K (pc := 22) d3_22 (x := (1 : Int32)) (by decide) ?_
  refine own_icmpN K (pc := 23) d3_23 (by decide) ?_
  refine own_iconst K (pc := 26) d3_26 (x := (0 : Int32)) (by decide) ?_
  exact own_retZ K (pc := 27) d3_27 (by decide)
theorem xp_1_2 (l : Launch) (Z : State) (a0 : Array Value) (h : Heap) (hw : ∀ d ∈ tables_1, d.before a0 Z = true)  : own_M l (⟨"com/example/row_lock_engine/rowlockengine/engine/LockKindWaitsForPinLaw", "expected", "(II)Z"⟩ : MethodName) method_3_code 2 .boolean [] { frames := 0, cells := 0, slots := 0, locals := 0 } Z h #[(.int (1 : Int32)), (.int (2 : Int32))] (.int (0 : Int32)) := by
  refine own_met pn_3 (Ls := #[.val (.int (1 : Int32)), .val (.int (2 : Int32))]) (fun m => by first | (simp [entryFrame, mkF, argsToLocals, Value.category, maxLocals]; done) | rfl) ?_
  intro p e s m below meth c K
  exact xb_1_2 p l e _ s m _ below meth c Z a0 h hw K
set_option maxRecDepth 65536 in
theorem cb_1_3 (p : Program) (l : Launch) (e : Env) (R : Room) (s : State) (m : MethodId) (args : Array Value) (below : List Frame) (meth : Method) (c : Code) (Z : State) (a0 : Array Value) (h : Heap) (hw : ∀ d ∈ tables_1, d.before a0 Z = true) (A : Nat → Addr) (F : own_F Z h A) (K : own_C p s m meth c Z prog_52_method_5_code "com/example/row_lock_engine/rowlockengine/engine/LockKind" .boolean 2) :
    own_E p l e R s m args below meth c h 0 #[.val (.ref (A 1)), .val (.ref (A 3))] [] (.int 0) := by
  refine own_aloadN K (pc := 0) d2_0 rfl rfl ?_
  refine own_getS K (pc := 1) (hw _ (List.mem_of_getElem? (i := 15) rfl)) F.1.2.2.2.2.2.2.2.2.1 d2_1 ?_
  refine own_acmp K (pc := 4) (pc' := 7) (same := false) d2_4 (decide_eq_false (Fld.ne F.1.2.2.2.2.2.2.2.2.2.2.2.2.2.2.2.1 F.1.2.2.2.2.2.2.2.2.2.2.2.1 (by decide))) (by decide) (by decide) ?_
  refine own_aloadN K (pc := 7) d2_7 rfl rfl ?_
  refine own_getS K (pc := 8) (hw _ (List.mem_of_getElem? (i := 15) rfl)) F.1.2.2.2.2.2.2.2.2.1 d2_8 ?_
  refine own_acmp K (pc := 11) (pc' := 25) (same := false) d2_11 (decide_eq_false (Fld.ne F.1.2.2.2.2.2.2.2.2.2.2.2.2.1 F.1.2.2.2.2.2.2.2.2.2.2.2.1 (by decide))) (by decide) (by decide) ?_
  refine own_aloadN K (pc := 25) d2_25 rfl rfl ?_
  refine own_getF K (pc := 26) (hw _ (List.mem_of_getElem? (i := 17) rfl)) F.1.2.2.2.2.2.2.2.2.2.2.2.2.2.2.2.2.2.1 d2_26 ?_
  refine own_ifY K (pc := 29) (pc' := 39) d2_29 (by decide) (by decide) (by decide) ?_
  refine own_aloadN K (pc := 39) d2_39 rfl rfl ?_
  refine own_getS K (pc := 40) (hw _ (List.mem_of_getElem? (i := 19) rfl)) F.1.2.2.2.2.2.2.1 d2_40 ?_
  refine own_acmp K (pc := 43) (pc' := 57) (same := false) d2_43 (decide_eq_false (Fld.ne F.1.2.2.2.2.2.2.2.2.2.2.2.2.2.2.2.1 F.1.2.2.2.2.2.2.2.2.2.2.2.2.1 (by decide))) (by decide) (by decide) ?_
  refine own_iconst K (pc := 57) d2_57 (x := (0 : Int32)) (by decide) ?_
  exact own_retZ K (pc := 58) d2_58 (by decide)
theorem cv_1_3 (l : Launch) (Z : State) (a0 : Array Value) (h : Heap) (hw : ∀ d ∈ tables_1, d.before a0 Z = true) (A : Nat → Addr) (F : own_F Z h A)  : own_M l (⟨"com/example/row_lock_engine/rowlockengine/engine/LockKind", "waitsFor", "(Lcom/example/row_lock_engine/rowlockengine/engine/LockKind;)Z"⟩ : MethodName) prog_52_method_5_code 2 .boolean [] { frames := 0, cells := 0, slots := 0, locals := 0 } Z h #[(.ref (A 1)), (.ref (A 3))] (.int (0 : Int32)) := by
  refine own_met pn_2 (Ls := #[.val (.ref (A 1)), .val (.ref (A 3))]) (fun m => by first | (simp [entryFrame, mkF, argsToLocals, Value.category, maxLocals]; done) | rfl) ?_
  intro p e s m below meth c K
  exact cb_1_3 p l e _ s m _ below meth c Z a0 h hw A F K
set_option maxRecDepth 65536 in
theorem xb_1_3 (p : Program) (l : Launch) (e : Env) (R : Room) (s : State) (m : MethodId) (args : Array Value) (below : List Frame) (meth : Method) (c : Code) (Z : State) (a0 : Array Value) (h : Heap) (hw : ∀ d ∈ tables_1, d.before a0 Z = true) (K : own_C p s m meth c Z method_3_code "com/example/row_lock_engine/rowlockengine/engine/LockKindWaitsForPinLaw" .boolean 2) :
    own_E p l e R s m args below meth c h 0 #[.val (.int (1 : Int32)), .val (.int (3 : Int32))] [] (.int 0) := by
  refine own_iloadN K (pc := 0) d3_0 rfl ?_
  refine own_iconst K (pc := 1) d3_1 (x := (4 : Int32)) (by decide) ?_
  refine own_icmpN K (pc := 2) d3_2 (by decide) ?_
  refine own_iloadN K (pc := 5) d3_5 rfl ?_
  refine own_iconst K (pc := 6) d3_6 (x := (4 : Int32)) (by decide) ?_
  refine own_icmpY K (pc := 7) (pc' := 21) d3_7 (by decide) (by decide) (by decide) ?_
  refine own_iloadN K (pc := 21) d3_21 rfl ?_
  refine own_iconst K (pc := 22) d3_22 (x := (1 : Int32)) (by decide) ?_
  refine own_icmpN K (pc := 23) d3_23 (by decide) ?_
  refine own_iconst K (pc := 26) d3_26 (x := (0 : Int32)) (by decide) ?_
  exact own_retZ K (pc := 27) d3_27 (by decide)
theorem xp_1_3 (l : Launch) (Z : State) (a0 : Array Value) (h : Heap) (hw : ∀ d ∈ tables_1, d.before a0 Z = true)  : own_M l (⟨"com/example/row_lock_engine/rowlockengine/engine/LockKindWaitsForPinLaw", "expected", "(II)Z"⟩ : MethodName) method_3_code 2 .boolean [] { frames := 0, cells := 0, slots := 0, locals := 0 } Z h #[(.int (1 : Int32)), (.int (3 : Int32))] (.int (0 : Int32)) := by
  refine own_met pn_3 (Ls := #[.val (.int (1 : Int32)), .val (.int (3 : Int32))]) (fun m => by first | (simp [entryFrame, mkF, argsToLocals, Value.category, maxLocals]; done) | rfl) ?_
  intro p e s m below meth c K
  exact xb_1_3 p l e _ s m _ below meth c Z a0 h hw K
set_option maxRecDepth 65536 in
theorem cb_1_4 (p : Program) (l : Launch) (e : Env) (R : Room) (s : State) (m : MethodId) (args : Array Value) (below : List Frame) (meth : Method) (c : Code) (Z : State) (a0 : Array Value) (h : Heap) (hw : ∀ d ∈ tables_1, d.before a0 Z = true) (A : Nat → Addr) (F : own_F Z h A) (K : own_C p s m meth c Z prog_52_method_5_code "com/example/row_lock_engine/rowlockengine/engine/LockKind" .boolean 2) :
    own_E p l e R s m args below meth c h 0 #[.val (.ref (A 1)), .val (.ref (A 4))] [] (.int 0) := by
  refine own_aloadN K (pc := 0) d2_0 rfl rfl ?_
  refine own_getS K (pc := 1) (hw _ (List.mem_of_getElem? (i := 15) rfl)) F.1.2.2.2.2.2.2.2.2.1 d2_1 ?_
  refine own_acmp K (pc := 4) (pc' := 7) (same := false) d2_4 (decide_eq_false (Fld.ne F.1.2.2.2.2.2.2.2.2.2.2.2.2.2.2.2.1 F.1.2.2.2.2.2.2.2.2.2.2.2.1 (by decide))) (by decide) (by decide) ?_
  refine own_aloadN K (pc := 7) d2_7 rfl rfl ?_
  refine own_getS K (pc := 8) (hw _ (List.mem_of_getElem? (i := 15) rfl)) F.1.2.2.2.2.2.2.2.2.1 d2_8 ?_
  refine own_acmp K (pc := 11) (pc' := 14) (same := true) d2_11 (decide_eq_true rfl) (by decide) (by decide) ?_
  refine own_aloadN K (pc := 14) d2_14 rfl rfl ?_
  refine own_aloadN K (pc := 15) d2_15 rfl rfl ?_
  refine own_acmp K (pc := 16) (pc' := 23) (same := false) d2_16 (decide_eq_false (Fld.ne F.1.2.2.2.2.2.2.2.2.2.2.2.2.2.2.2.1 F.1.2.2.2.2.2.2.2.2.2.2.2.1 (by decide))) (by decide) (by decide) ?_
  refine own_iconst K (pc := 23) d2_23 (x := (0 : Int32)) (by decide) ?_
  exact own_retZ K (pc := 24) d2_24 (by decide)
theorem cv_1_4 (l : Launch) (Z : State) (a0 : Array Value) (h : Heap) (hw : ∀ d ∈ tables_1, d.before a0 Z = true) (A : Nat → Addr) (F : own_F Z h A)  : own_M l (⟨"com/example/row_lock_engine/rowlockengine/engine/LockKind", "waitsFor", "(Lcom/example/row_lock_engine/rowlockengine/engine/LockKind;)Z"⟩ : MethodName) prog_52_method_5_code 2 .boolean [] { frames := 0, cells := 0, slots := 0, locals := 0 } Z h #[(.ref (A 1)), (.ref (A 4))] (.int (0 : Int32)) := by
  refine own_met pn_2 (Ls := #[.val (.ref (A 1)), .val (.ref (A 4))]) (fun m => by first | (simp [entryFrame, mkF, argsToLocals, Value.category, maxLocals]; done) | rfl) ?_
  intro p e s m below meth c K
  exact cb_1_4 p l e _ s m _ below meth c Z a0 h hw A F K
set_option maxRecDepth 65536 in
theorem xb_1_4 (p : Program) (l : Launch) (e : Env) (R : Room) (s : State) (m : MethodId) (args : Array Value) (below : List Frame) (meth : Method) (c : Code) (Z : State) (a0 : Array Value) (h : Heap) (hw : ∀ d ∈ tables_1, d.before a0 Z = true) (K : own_C p s m meth c Z method_3_code "com/example/row_lock_engine/rowlockengine/engine/LockKindWaitsForPinLaw" .boolean 2) :
    own_E p l e R s m args below meth c h 0 #[.val (.int (1 : Int32)), .val (.int (4 : Int32))] [] (.int 0) := by
  refine own_iloadN K (pc := 0) d3_0 rfl ?_
  refine own_iconst K (pc := 1) d3_1 (x := (4 : Int32)) (by decide) ?_
  refine own_icmpN K (pc := 2) d3_2 (by decide) ?_
  refine own_iloadN K (pc := 5) d3_5 rfl ?_
  refine own_iconst K (pc := 6) d3_6 (x := (4 : Int32)) (by decide) ?_
  refine own_icmpN K (pc := 7) d3_7 (by decide) ?_
  refine own_iloadN K (pc := 10) d3_10 rfl ?_
  refine own_iloadN K (pc := 11) d3_11 rfl ?_
  refine own_icmpY K (pc := 12) (pc' := 19) d3_12 (by decide) (by decide) (by decide) ?_
  refine own_iconst K (pc := 19) d3_19 (x := (0 : Int32)) (by decide) ?_
  exact own_retZ K (pc := 20) d3_20 (by decide)
theorem xp_1_4 (l : Launch) (Z : State) (a0 : Array Value) (h : Heap) (hw : ∀ d ∈ tables_1, d.before a0 Z = true)  : own_M l (⟨"com/example/row_lock_engine/rowlockengine/engine/LockKindWaitsForPinLaw", "expected", "(II)Z"⟩ : MethodName) method_3_code 2 .boolean [] { frames := 0, cells := 0, slots := 0, locals := 0 } Z h #[(.int (1 : Int32)), (.int (4 : Int32))] (.int (0 : Int32)) := by
  refine own_met pn_3 (Ls := #[.val (.int (1 : Int32)), .val (.int (4 : Int32))]) (fun m => by first | (simp [entryFrame, mkF, argsToLocals, Value.category, maxLocals]; done) | rfl) ?_
  intro p e s m below meth c K
  exact xb_1_4 p l e _ s m _ below meth c Z a0 h hw K
set_option maxRecDepth 65536 in
theorem cb_2_0 (p : Program) (l : Launch) (e : Env) (R : Room) (s : State) (m : MethodId) (args : Array Value) (below : List Frame) (meth : Method) (c : Code) (Z : State) (a0 : Array Value) (h : Heap) (hw : ∀ d ∈ tables_1, d.before a0 Z = true) (A : Nat → Addr) (F : own_F Z h A) (K : own_C p s m meth c Z prog_52_method_5_code "com/example/row_lock_engine/rowlockengine/engine/LockKind" .boolean 2) :
    own_E p l e R s m args below meth c h 0 #[.val (.ref (A 2)), .val (.ref (A 0))] [] (.int 1) := by
  refine own_aloadN K (pc := 0) d2_0 rfl rfl ?_
  refine own_getS K (pc := 1) (hw _ (List.mem_of_getElem? (i := 15) rfl)) F.1.2.2.2.2.2.2.2.2.1 d2_1 ?_
  refine own_acmp K (pc := 4) (pc' := 7) (same := false) d2_4 (decide_eq_false (Fld.ne F.1.2.2.2.2.2.2.2.2.2.2.2.2.2.2.2.2.2.2.1 F.1.2.2.2.2.2.2.2.2.2.2.2.1 (by decide))) (by decide) (by decide) ?_
  refine own_aloadN K (pc := 7) d2_7 rfl rfl ?_
  refine own_getS K (pc := 8) (hw _ (List.mem_of_getElem? (i := 15) rfl)) F.1.2.2.2.2.2.2.2.2.1 d2_8 ?_
  refine own_acmp K (pc := 11) (pc' := 25) (same := false) d2_11 (decide_eq_false (Fld.ne F.1.2.2.2.2.2.2.2.2.2.2.1 F.1.2.2.2.2.2.2.2.2.2.2.2.1 (by decide))) (by decide) (by decide) ?_
  refine own_aloadN K (pc := 25) d2_25 rfl rfl ?_
  refine own_getF K (pc := 26) (hw _ (List.mem_of_getElem? (i := 17) rfl)) F.1.2.2.2.2.2.2.2.2.2.2.2.2.2.2.2.2.2.2.2.2.1 d2_26 ?_
  refine own_ifN K (pc := 29) d2_29 (by decide) ?_
  refine own_aloadN K (pc := 32) d2_32 rfl rfl ?_
  refine own_getF K (pc := 33) (hw _ (List.mem_of_getElem? (i := 17) rfl)) F.1.2.2.2.2.2.2.2.2.2.2.2.2.2.1 d2_33 ?_
  refine own_ifY K (pc := 36) (pc' := 53) d2_36 (by decide) (by decide) (by decide) ?_
  refine own_iconst K (pc := 53) d2_53 (x := (1 : Int32)) (by decide) ?_
  refine own_goto K (pc := 54) (pc' := 58) d2_54 (by decide) (by decide) ?_
  exact own_retZ K (pc := 58) d2_58 (by decide)
theorem cv_2_0 (l : Launch) (Z : State) (a0 : Array Value) (h : Heap) (hw : ∀ d ∈ tables_1, d.before a0 Z = true) (A : Nat → Addr) (F : own_F Z h A)  : own_M l (⟨"com/example/row_lock_engine/rowlockengine/engine/LockKind", "waitsFor", "(Lcom/example/row_lock_engine/rowlockengine/engine/LockKind;)Z"⟩ : MethodName) prog_52_method_5_code 2 .boolean [] { frames := 0, cells := 0, slots := 0, locals := 0 } Z h #[(.ref (A 2)), (.ref (A 0))] (.int (1 : Int32)) := by
  refine own_met pn_2 (Ls := #[.val (.ref (A 2)), .val (.ref (A 0))]) (fun m => by first | (simp [entryFrame, mkF, argsToLocals, Value.category, maxLocals]; done) | rfl) ?_
  intro p e s m below meth c K
  exact cb_2_0 p l e _ s m _ below meth c Z a0 h hw A F K
set_option maxRecDepth 65536 in
theorem xb_2_0 (p : Program) (l : Launch) (e : Env) (R : Room) (s : State) (m : MethodId) (args : Array Value) (below : List Frame) (meth : Method) (c : Code) (Z : State) (a0 : Array Value) (h : Heap) (hw : ∀ d ∈ tables_1, d.before a0 Z = true) (K : own_C p s m meth c Z method_3_code "com/example/row_lock_engine/rowlockengine/engine/LockKindWaitsForPinLaw" .boolean 2) :
    own_E p l e R s m args below meth c h 0 #[.val (.int (2 : Int32)), .val (.int (0 : Int32))] [] (.int 1) := by
  refine own_iloadN K (pc := 0) d3_0 rfl ?_
  refine own_iconst K (pc := 1) d3_1 (x := (4 : Int32)) (by decide) ?_
  refine own_icmpN K (pc := 2) d3_2 (by decide) ?_
  refine own_iloadN K (pc := 5) d3_5 rfl ?_
  refine own_iconst K (pc := 6) d3_6 (x := (4 : Int32)) (by decide) ?_
  refine own_icmpY K (pc := 7) (pc' := 21) d3_7 (by decide) (by decide) (by decide) ?_
  refine own_iloadN K (pc := 21) d3_21 rfl ?_
  refine own_iconst K (pc := 22) d3_22 (x := (1 : Int32)) (by decide) ?_
  refine own_icmpY K (pc := 23) (pc' := 28) d3_23 (by decide) (by decide) (by decide) ?_
  refine own_iloadN K (pc := 28) d3_28 rfl ?_
  refine own_iconst K (pc := 29) d3_29 (x := (3 : Int32)) (by decide) ?_
  refine own_icmpY K (pc := 30) (pc' := 49) d3_30 (by decide) (by decide) (by decide) ?_
  refine own_iloadN K (pc := 49) d3_49 rfl ?_
  refine own_ifY K (pc := 50) (pc' := 58) d3_50 (by decide) (by decide) (by decide) ?_
  refine own_iconst K (pc := 58) d3_58 (x := (1 : Int32)) (by decide) ?_
  refine own_goto K (pc := 59) (pc' := 63) d3_59 (by decide) (by decide) ?_
  exact own_retZ K (pc := 63) d3_63 (by decide)
theorem xp_2_0 (l : Launch) (Z : State) (a0 : Array Value) (h : Heap) (hw : ∀ d ∈ tables_1, d.before a0 Z = true)  : own_M l (⟨"com/example/row_lock_engine/rowlockengine/engine/LockKindWaitsForPinLaw", "expected", "(II)Z"⟩ : MethodName) method_3_code 2 .boolean [] { frames := 0, cells := 0, slots := 0, locals := 0 } Z h #[(.int (2 : Int32)), (.int (0 : Int32))] (.int (1 : Int32)) := by
  refine own_met pn_3 (Ls := #[.val (.int (2 : Int32)), .val (.int (0 : Int32))]) (fun m => by first | (simp [entryFrame, mkF, argsToLocals, Value.category, maxLocals]; done) | rfl) ?_
  intro p e s m below meth c K
  exact xb_2_0 p l e _ s m _ below meth c Z a0 h hw K
set_option maxRecDepth 65536 in
theorem cb_2_1 (p : Program) (l : Launch) (e : Env) (R : Room) (s : State) (m : MethodId) (args : Array Value) (below : List Frame) (meth : Method) (c : Code) (Z : State) (a0 : Array Value) (h : Heap) (hw : ∀ d ∈ tables_1, d.before a0 Z = true) (A : Nat → Addr) (F : own_F Z h A) (K : own_C p s m meth c Z prog_52_method_5_code "com/example/row_lock_engine/rowlockengine/engine/LockKind" .boolean 2) :
    own_E p l e R s m args below meth c h 0 #[.val (.ref (A 2)), .val (.ref (A 1))] [] (.int 0) := by
  refine own_aloadN K (pc := 0) d2_0 rfl rfl ?_
  refine own_getS K (pc := 1) (hw _ (List.mem_of_getElem? (i := 15) rfl)) F.1.2.2.2.2.2.2.2.2.1 d2_1 ?_
  refine own_acmp K (pc := 4) (pc' := 7) (same := false) d2_4 (decide_eq_false (Fld.ne F.1.2.2.2.2.2.2.2.2.2.2.2.2.2.2.2.2.2.2.1 F.1.2.2.2.2.2.2.2.2.2.2.2.1 (by decide))) (by decide) (by decide) ?_
  refine own_aloadN K (pc := 7) d2_7 rfl rfl ?_
  refine own_getS K (pc := 8) (hw _ (List.mem_of_getElem? (i := 15) rfl)) F.1.2.2.2.2.2.2.2.2.1 d2_8 ?_
  refine own_acmp K (pc := 11) (pc' := 25) (same := false) d2_11 (decide_eq_false (Fld.ne F.1.2.2.2.2.2.2.2.2.2.2.2.2.2.2.2.1 F.1.2.2.2.2.2.2.2.2.2.2.2.1 (by decide))) (by decide) (by decide) ?_
  refine own_aloadN K (pc := 25) d2_25 rfl rfl ?_
  refine own_getF K (pc := 26) (hw _ (List.mem_of_getElem? (i := 17) rfl)) F.1.2.2.2.2.2.2.2.2.2.2.2.2.2.2.2.2.2.2.2.2.1 d2_26 ?_
  refine own_ifN K (pc := 29) d2_29 (by decide) ?_
  refine own_aloadN K (pc := 32) d2_32 rfl rfl ?_
  refine own_getF K (pc := 33) (hw _ (List.mem_of_getElem? (i := 17) rfl)) F.1.2.2.2.2.2.2.2.2.2.2.2.2.2.2.2.2.2.1 d2_33 ?_
  refine own_ifN K (pc := 36) d2_36 (by decide) ?_
  refine own_aloadN K (pc := 39) d2_39 rfl rfl ?_
  refine own_getS K (pc := 40) (hw _ (List.mem_of_getElem? (i := 19) rfl)) F.1.2.2.2.2.2.2.1 d2_40 ?_
  refine own_acmp K (pc := 43) (pc' := 57) (same := false) d2_43 (decide_eq_false (Fld.ne F.1.2.2.2.2.2.2.2.2.2.2.2.2.2.2.2.2.2.2.1 F.1.2.2.2.2.2.2.2.2.2.2.2.2.1 (by decide))) (by decide) (by decide) ?_
  refine own_iconst K (pc := 57) d2_57 (x := (0 : Int32)) (by decide) ?_
  exact own_retZ K (pc := 58) d2_58 (by decide)
theorem cv_2_1 (l : Launch) (Z : State) (a0 : Array Value) (h : Heap) (hw : ∀ d ∈ tables_1, d.before a0 Z = true) (A : Nat → Addr) (F : own_F Z h A)  : own_M l (⟨"com/example/row_lock_engine/rowlockengine/engine/LockKind", "waitsFor", "(Lcom/example/row_lock_engine/rowlockengine/engine/LockKind;)Z"⟩ : MethodName) prog_52_method_5_code 2 .boolean [] { frames := 0, cells := 0, slots := 0, locals := 0 } Z h #[(.ref (A 2)), (.ref (A 1))] (.int (0 : Int32)) := by
  refine own_met pn_2 (Ls := #[.val (.ref (A 2)), .val (.ref (A 1))]) (fun m => by first | (simp [entryFrame, mkF, argsToLocals, Value.category, maxLocals]; done) | rfl) ?_
  intro p e s m below meth c K
  exact cb_2_1 p l e _ s m _ below meth c Z a0 h hw A F K
set_option maxRecDepth 65536 in
theorem xb_2_1 (p : Program) (l : Launch) (e : Env) (R : Room) (s : State) (m : MethodId) (args : Array Value) (below : List Frame) (meth : Method) (c : Code) (Z : State) (a0 : Array Value) (h : Heap) (hw : ∀ d ∈ tables_1, d.before a0 Z = true) (K : own_C p s m meth c Z method_3_code "com/example/row_lock_engine/rowlockengine/engine/LockKindWaitsForPinLaw" .boolean 2) :
    own_E p l e R s m args below meth c h 0 #[.val (.int (2 : Int32)), .val (.int (1 : Int32))] [] (.int 0) := by
  refine own_iloadN K (pc := 0) d3_0 rfl ?_
  refine own_iconst K (pc := 1) d3_1 (x := (4 : Int32)) (by decide) ?_
  refine own_icmpN K (pc := 2) d3_2 (by decide) ?_
  refine own_iloadN K (pc := 5) d3_5 rfl ?_
  refine own_iconst K (pc := 6) d3_6 (x := (4 : Int32)) (by decide) ?_
  refine own_icmpY K (pc := 7) (pc' := 21) d3_7 (by decide) (by decide) (by decide) ?_
  refine own_iloadN K (pc := 21) d3_21 rfl ?_
  refine own_iconst K (pc := 22) d3_22 (x := (1 : Int32)) (by decide) ?_
  refine own_icmpY K (pc := 23) (pc' := 28) d3_23 (by decide) (by decide) (by decide) ?_
  refine own_iloadN K (pc := 28) d3_28 rfl ?_
  refine own_iconst K (pc := 29) d3_29 (x := (3 : Int32)) (by decide) ?_
  refine own_icmpY K (pc := 30) (pc' := 49) d3_30 (by decide) (by decide) (by decide) ?_
  refine own_iloadN K (pc := 49) d3_49 rfl ?_
  refine own_ifN K (pc := 50) d3_50 (by decide) ?_
  refine own_iloadN K (pc := 53) d3_53 rfl ?_
  refine own_iconst K (pc := 54) d3_54 (x := (2 : Int32)) (by decide) ?_
  refine own_icmpY K (pc := 55) (pc' := 62) d3_55 (by decide) (by decide) (by decide) ?_
  refine own_iconst K (pc := 62) d3_62 (x := (0 : Int32)) (by decide) ?_
  exact own_retZ K (pc := 63) d3_63 (by decide)
theorem xp_2_1 (l : Launch) (Z : State) (a0 : Array Value) (h : Heap) (hw : ∀ d ∈ tables_1, d.before a0 Z = true)  : own_M l (⟨"com/example/row_lock_engine/rowlockengine/engine/LockKindWaitsForPinLaw", "expected", "(II)Z"⟩ : MethodName) method_3_code 2 .boolean [] { frames := 0, cells := 0, slots := 0, locals := 0 } Z h #[(.int (2 : Int32)), (.int (1 : Int32))] (.int (0 : Int32)) := by
  refine own_met pn_3 (Ls := #[.val (.int (2 : Int32)), .val (.int (1 : Int32))]) (fun m => by first | (simp [entryFrame, mkF, argsToLocals, Value.category, maxLocals]; done) | rfl) ?_
  intro p e s m below meth c K
  exact xb_2_1 p l e _ s m _ below meth c Z a0 h hw K
set_option maxRecDepth 65536 in
theorem cb_2_2 (p : Program) (l : Launch) (e : Env) (R : Room) (s : State) (m : MethodId) (args : Array Value) (below : List Frame) (meth : Method) (c : Code) (Z : State) (a0 : Array Value) (h : Heap) (hw : ∀ d ∈ tables_1, d.before a0 Z = true) (A : Nat → Addr) (F : own_F Z h A) (K : own_C p s m meth c Z prog_52_method_5_code "com/example/row_lock_engine/rowlockengine/engine/LockKind" .boolean 2) :
    own_E p l e R s m args below meth c h 0 #[.val (.ref (A 2)), .val (.ref (A 2))] [] (.int 1) := by
  refine own_aloadN K (pc := 0) d2_0 rfl rfl ?_
  refine own_getS K (pc := 1) (hw _ (List.mem_of_getElem? (i := 15) rfl)) F.1.2.2.2.2.2.2.2.2.1 d2_1 ?_
  refine own_acmp K (pc := 4) (pc' := 7) (same := false) d2_4 (decide_eq_false (Fld.ne F.1.2.2.2.2.2.2.2.2.2.2.2.2.2.2.2.2.2.2.1 F.1.2.2.2.2.2.2.2.2.2.2.2.1 (by decide))) (by decide) (by decide) ?_
  refine own_aloadN K (pc := 7) d2_7 rfl rfl ?_
  refine own_getS K (pc := 8) (hw _ (List.mem_of_getElem? (i := 15) rfl)) F.1.2.2.2.2.2.2.2.2.1 d2_8 ?_
  refine own_acmp K (pc := 11) (pc' := 25) (same := false) d2_11 (decide_eq_false (Fld.ne F.1.2.2.2.2.2.2.2.2.2.2.2.2.2.2.2.2.2.2.1 F.1.2.2.2.2.2.2.2.2.2.2.2.1 (by decide))) (by decide) (by decide) ?_
  refine own_aloadN K (pc := 25) d2_25 rfl rfl ?_
  refine own_getF K (pc := 26) (hw _ (List.mem_of_getElem? (i := 17) rfl)) F.1.2.2.2.2.2.2.2.2.2.2.2.2.2.2.2.2.2.2.2.2.1 d2_26 ?_
  refine own_ifN K (pc := 29) d2_29 (by decide) ?_
  refine own_aloadN K (pc := 32) d2_32 rfl rfl ?_
  refine own_getF K (pc := 33) (hw _ (List.mem_of_getElem? (i := 17) rfl)) F.1.2.2.2.2.2.2.2.2.2.2.2.2.2.2.2.2.2.2.2.2.1 d2_33 ?_
  refine own_ifY K (pc := 36) (pc' := 53) d2_36 (by decide) (by decide) (by decide) ?_
  refine own_iconst K (pc := 53) d2_53 (x := (1 : Int32)) (by decide) ?_
  refine own_goto K (pc := 54) (pc' := 58) d2_54 (by decide) (by decide) ?_
  exact own_retZ K (pc := 58) d2_58 (by decide)
theorem cv_2_2 (l : Launch) (Z : State) (a0 : Array Value) (h : Heap) (hw : ∀ d ∈ tables_1, d.before a0 Z = true) (A : Nat → Addr) (F : own_F Z h A)  : own_M l (⟨"com/example/row_lock_engine/rowlockengine/engine/LockKind", "waitsFor", "(Lcom/example/row_lock_engine/rowlockengine/engine/LockKind;)Z"⟩ : MethodName) prog_52_method_5_code 2 .boolean [] { frames := 0, cells := 0, slots := 0, locals := 0 } Z h #[(.ref (A 2)), (.ref (A 2))] (.int (1 : Int32)) := by
  refine own_met pn_2 (Ls := #[.val (.ref (A 2)), .val (.ref (A 2))]) (fun m => by first | (simp [entryFrame, mkF, argsToLocals, Value.category, maxLocals]; done) | rfl) ?_
  intro p e s m below meth c K
  exact cb_2_2 p l e _ s m _ below meth c Z a0 h hw A F K
set_option maxRecDepth 65536 in
theorem xb_2_2 (p : Program) (l : Launch) (e : Env) (R : Room) (s : State) (m : MethodId) (args : Array Value) (below : List Frame) (meth : Method) (c : Code) (Z : State) (a0 : Array Value) (h : Heap) (hw : ∀ d ∈ tables_1, d.before a0 Z = true) (K : own_C p s m meth c Z method_3_code "com/example/row_lock_engine/rowlockengine/engine/LockKindWaitsForPinLaw" .boolean 2) :
    own_E p l e R s m args below meth c h 0 #[.val (.int (2 : Int32)), .val (.int (2 : Int32))] [] (.int 1) := by
  refine own_iloadN K (pc := 0) d3_0 rfl ?_
  refine own_iconst K (pc := 1) d3_1 (x := (4 : Int32)) (by decide) ?_
  refine own_icmpN K (pc := 2) d3_2 (by decide) ?_
  refine own_iloadN K (pc := 5) d3_5 rfl ?_
  refine own_iconst K (pc := 6) d3_6 (x := (4 : Int32)) (by decide) ?_
  refine own_icmpY K (pc := 7) (pc' := 21) d3_7 (by decide) (by decide) (by decide) ?_
  refine own_iloadN K (pc := 21) d3_21 rfl ?_
  refine own_iconst K (pc := 22) d3_22 (x := (1 : Int32)) (by decide) ?_
  refine own_icmpY K (pc := 23) (pc' := 28) d3_23 (by decide) (by decide) (by decide) ?_
  refine own_iloadN K (pc := 28) d3_28 rfl ?_
  refine own_iconst K (pc := 29) d3_29 (x := (3 : Int32)) (by decide) ?_
  refine own_icmpY K (pc := 30) (pc' := 49) d3_30 (by decide) (by decide) (by decide) ?_
  refine own_iloadN K (pc := 49) d3_49 rfl ?_
  refine own_ifN K (pc := 50) d3_50 (by decide) ?_
  refine own_iloadN K (pc := 53) d3_53 rfl ?_
  refine own_iconst K (pc := 54) d3_54 (x := (2 : Int32)) (by decide) ?_
  refine own_icmpN K (pc := 55) d3_55 (by decide) ?_
  refine own_iconst K (pc := 58) d3_58 (x := (1 : Int32)) (by decide) ?_
  refine own_goto K (pc := 59) (pc' := 63) d3_59 (by decide) (by decide) ?_
  exact own_retZ K (pc := 63) d3_63 (by decide)
theorem xp_2_2 (l : Launch) (Z : State) (a0 : Array Value) (h : Heap) (hw : ∀ d ∈ tables_1, d.before a0 Z = true)  : own_M l (⟨"com/example/row_lock_engine/rowlockengine/engine/LockKindWaitsForPinLaw", "expected", "(II)Z"⟩ : MethodName) method_3_code 2 .boolean [] { frames := 0, cells := 0, slots := 0, locals := 0 } Z h #[(.int (2 : Int32)), (.int (2 : Int32))] (.int (1 : Int32)) := by
  refine own_met pn_3 (Ls := #[.val (.int (2 : Int32)), .val (.int (2 : Int32))]) (fun m => by first | (simp [entryFrame, mkF, argsToLocals, Value.category, maxLocals]; done) | rfl) ?_
  intro p e s m below meth c K
  exact xb_2_2 p l e _ s m _ below meth c Z a0 h hw K
set_option maxRecDepth 65536 in
theorem cb_2_3 (p : Program) (l : Launch) (e : Env) (R : Room) (s : State) (m : MethodId) (args : Array Value) (below : List Frame) (meth : Method) (c : Code) (Z : State) (a0 : Array Value) (h : Heap) (hw : ∀ d ∈ tables_1, d.before a0 Z = true) (A : Nat → Addr) (F : own_F Z h A) (K : own_C p s m meth c Z prog_52_method_5_code "com/example/row_lock_engine/rowlockengine/engine/LockKind" .boolean 2) :
    own_E p l e R s m args below meth c h 0 #[.val (.ref (A 2)), .val (.ref (A 3))] [] (.int 0) := by
  refine own_aloadN K (pc := 0) d2_0 rfl rfl ?_
  refine own_getS K (pc := 1) (hw _ (List.mem_of_getElem? (i := 15) rfl)) F.1.2.2.2.2.2.2.2.2.1 d2_1 ?_
  refine own_acmp K (pc := 4) (pc' := 7) (same := false) d2_4 (decide_eq_false (Fld.ne F.1.2.2.2.2.2.2.2.2.2.2.2.2.2.2.2.2.2.2.1 F.1.2.2.2.2.2.2.2.2.2.2.2.1 (by decide))) (by decide) (by decide) ?_
  refine own_aloadN K (pc := 7) d2_7 rfl rfl ?_
  refine own_getS K (pc := 8) (hw _ (List.mem_of_getElem? (i := 15) rfl)) F.1.2.2.2.2.2.2.2.2.1 d2_8 ?_
  refine own_acmp K (pc := 11) (pc' := 25) (same := false) d2_11 (decide_eq_false (Fld.ne F.1.2.2.2.2.2.2.2.2.2.2.2.2.1 F.1.2.2.2.2.2.2.2.2.2.2.2.1 (by decide))) (by decide) (by decide) ?_
  refine own_aloadN K (pc := 25) d2_25 rfl rfl ?_
  refine own_getF K (pc := 26) (hw _ (List.mem_of_getElem? (i := 17) rfl)) F.1.2.2.2.2.2.2.2.2.2.2.2.2.2.2.2.2.2.2.2.2.1 d2_26 ?_
  refine own_ifN K (pc := 29) d2_29 (by decide) ?_
  refine own_aloadN K (pc := 32) d2_32 rfl rfl ?_
  refine own_getF K (pc := 33) (hw _ (List.mem_of_getElem? (i := 17) rfl)) F.1.2.2.2.2.2.2.2.2.2.2.2.2.2.2.1 d2_33 ?_
  refine own_ifN K (pc := 36) d2_36 (by decide) ?_
  refine own_aloadN K (pc := 39) d2_39 rfl rfl ?_
  refine own_getS K (pc := 40) (hw _ (List.mem_of_getElem? (i := 19) rfl)) F.1.2.2.2.2.2.2.1 d2_40 ?_
  refine own_acmp K (pc := 43) (pc' := 57) (same := false) d2_43 (decide_eq_false (Fld.ne F.1.2.2.2.2.2.2.2.2.2.2.2.2.2.2.2.2.2.2.1 F.1.2.2.2.2.2.2.2.2.2.2.2.2.1 (by decide))) (by decide) (by decide) ?_
  refine own_iconst K (pc := 57) d2_57 (x := (0 : Int32)) (by decide) ?_
  exact own_retZ K (pc := 58) d2_58 (by decide)
theorem cv_2_3 (l : Launch) (Z : State) (a0 : Array Value) (h : Heap) (hw : ∀ d ∈ tables_1, d.before a0 Z = true) (A : Nat → Addr) (F : own_F Z h A)  : own_M l (⟨"com/example/row_lock_engine/rowlockengine/engine/LockKind", "waitsFor", "(Lcom/example/row_lock_engine/rowlockengine/engine/LockKind;)Z"⟩ : MethodName) prog_52_method_5_code 2 .boolean [] { frames := 0, cells := 0, slots := 0, locals := 0 } Z h #[(.ref (A 2)), (.ref (A 3))] (.int (0 : Int32)) := by
  refine own_met pn_2 (Ls := #[.val (.ref (A 2)), .val (.ref (A 3))]) (fun m => by first | (simp [entryFrame, mkF, argsToLocals, Value.category, maxLocals]; done) | rfl) ?_
  intro p e s m below meth c K
  exact cb_2_3 p l e _ s m _ below meth c Z a0 h hw A F K
set_option maxRecDepth 65536 in
theorem xb_2_3 (p : Program) (l : Launch) (e : Env) (R : Room) (s : State) (m : MethodId) (args : Array Value) (below : List Frame) (meth : Method) (c : Code) (Z : State) (a0 : Array Value) (h : Heap) (hw : ∀ d ∈ tables_1, d.before a0 Z = true) (K : own_C p s m meth c Z method_3_code "com/example/row_lock_engine/rowlockengine/engine/LockKindWaitsForPinLaw" .boolean 2) :
    own_E p l e R s m args below meth c h 0 #[.val (.int (2 : Int32)), .val (.int (3 : Int32))] [] (.int 0) := by
  refine own_iloadN K (pc := 0) d3_0 rfl ?_
  refine own_iconst K (pc := 1) d3_1 (x := (4 : Int32)) (by decide) ?_
  refine own_icmpN K (pc := 2) d3_2 (by decide) ?_
  refine own_iloadN K (pc := 5) d3_5 rfl ?_
  refine own_iconst K (pc := 6) d3_6 (x := (4 : Int32)) (by decide) ?_
  refine own_icmpY K (pc := 7) (pc' := 21) d3_7 (by decide) (by decide) (by decide) ?_
  refine own_iloadN K (pc := 21) d3_21 rfl ?_
  refine own_iconst K (pc := 22) d3_22 (x := (1 : Int32)) (by decide) ?_
  refine own_icmpY K (pc := 23) (pc' := 28) d3_23 (by decide) (by decide) (by decide) ?_
  refine own_iloadN K (pc := 28) d3_28 rfl ?_
  refine own_iconst K (pc := 29) d3_29 (x := (3 : Int32)) (by decide) ?_
  refine own_icmpY K (pc := 30) (pc' := 49) d3_30 (by decide) (by decide) (by decide) ?_
  refine own_iloadN K (pc := 49) d3_49 rfl ?_
  refine own_ifN K (pc := 50) d3_50 (by decide) ?_
  refine own_iloadN K (pc := 53) d3_53 rfl ?_
  refine own_iconst K (pc := 54) d3_54 (x := (2 : Int32)) (by decide) ?_
  refine own_icmpY K (pc := 55) (pc' := 62) d3_55 (by decide) (by decide) (by decide) ?_
  refine own_iconst K (pc := 62) d3_62 (x := (0 : Int32)) (by decide) ?_
  exact own_retZ K (pc := 63) d3_63 (by decide)
theorem xp_2_3 (l : Launch) (Z : State) (a0 : Array Value) (h : Heap) (hw : ∀ d ∈ tables_1, d.before a0 Z = true)  : own_M l (⟨"com/example/row_lock_engine/rowlockengine/engine/LockKindWaitsForPinLaw", "expected", "(II)Z"⟩ : MethodName) method_3_code 2 .boolean [] { frames := 0, cells := 0, slots := 0, locals := 0 } Z h #[(.int (2 : Int32)), (.int (3 : Int32))] (.int (0 : Int32)) := by
  refine own_met pn_3 (Ls := #[.val (.int (2 : Int32)), .val (.int (3 : Int32))]) (fun m => by first | (simp [entryFrame, mkF, argsToLocals, Value.category, maxLocals]; done) | rfl) ?_
  intro p e s m below meth c K
  exact xb_2_3 p l e _ s m _ below meth c Z a0 h hw K
set_option maxRecDepth 65536 in
theorem cb_2_4 (p : Program) (l : Launch) (e : Env) (R : Room) (s : State) (m : MethodId) (args : Array Value) (below : List Frame) (meth : Method) (c : Code) (Z : State) (a0 : Array Value) (h : Heap) (hw : ∀ d ∈ tables_1, d.before a0 Z = true) (A : Nat → Addr) (F : own_F Z h A) (K : own_C p s m meth c Z prog_52_method_5_code "com/example/row_lock_engine/rowlockengine/engine/LockKind" .boolean 2) :
    own_E p l e R s m args below meth c h 0 #[.val (.ref (A 2)), .val (.ref (A 4))] [] (.int 0) := by
  refine own_aloadN K (pc := 0) d2_0 rfl rfl ?_
  refine own_getS K (pc := 1) (hw _ (List.mem_of_getElem? (i := 15) rfl)) F.1.2.2.2.2.2.2.2.2.1 d2_1 ?_
  refine own_acmp K (pc := 4) (pc' := 7) (same := false) d2_4 (decide_eq_false (Fld.ne F.1.2.2.2.2.2.2.2.2.2.2.2.2.2.2.2.2.2.2.1 F.1.2.2.2.2.2.2.2.2.2.2.2.1 (by decide))) (by decide) (by decide) ?_
  refine own_aloadN K (pc := 7) d2_7 rfl rfl ?_
  refine own_getS K (pc := 8) (hw _ (List.mem_of_getElem? (i := 15) rfl)) F.1.2.2.2.2.2.2.2.2.1 d2_8 ?_
  refine own_acmp K (pc := 11) (pc' := 14) (same := true) d2_11 (decide_eq_true rfl) (by decide) (by decide) ?_
  refine own_aloadN K (pc := 14) d2_14 rfl rfl ?_
  refine own_aloadN K (pc := 15) d2_15 rfl rfl ?_
  refine own_acmp K (pc := 16) (pc' := 23) (same := false) d2_16 (decide_eq_false (Fld.ne F.1.2.2.2.2.2.2.2.2.2.2.2.2.2.2.2.2.2.2.1 F.1.2.2.2.2.2.2.2.2.2.2.2.1 (by decide))) (by decide) (by decide) ?_
  refine own_iconst K (pc := 23) d2_23 (x := (0 : Int32)) (by decide) ?_
  exact own_retZ K (pc := 24) d2_24 (by decide)
theorem cv_2_4 (l : Launch) (Z : State) (a0 : Array Value) (h : Heap) (hw : ∀ d ∈ tables_1, d.before a0 Z = true) (A : Nat → Addr) (F : own_F Z h A)  : own_M l (⟨"com/example/row_lock_engine/rowlockengine/engine/LockKind", "waitsFor", "(Lcom/example/row_lock_engine/rowlockengine/engine/LockKind;)Z"⟩ : MethodName) prog_52_method_5_code 2 .boolean [] { frames := 0, cells := 0, slots := 0, locals := 0 } Z h #[(.ref (A 2)), (.ref (A 4))] (.int (0 : Int32)) := by
  refine own_met pn_2 (Ls := #[.val (.ref (A 2)), .val (.ref (A 4))]) (fun m => by first | (simp [entryFrame, mkF, argsToLocals, Value.category, maxLocals]; done) | rfl) ?_
  intro p e s m below meth c K
  exact cb_2_4 p l e _ s m _ below meth c Z a0 h hw A F K
set_option maxRecDepth 65536 in
theorem xb_2_4 (p : Program) (l : Launch) (e : Env) (R : Room) (s : State) (m : MethodId) (args : Array Value) (below : List Frame) (meth : Method) (c : Code) (Z : State) (a0 : Array Value) (h : Heap) (hw : ∀ d ∈ tables_1, d.before a0 Z = true) (K : own_C p s m meth c Z method_3_code "com/example/row_lock_engine/rowlockengine/engine/LockKindWaitsForPinLaw" .boolean 2) :
    own_E p l e R s m args below meth c h 0 #[.val (.int (2 : Int32)), .val (.int (4 : Int32))] [] (.int 0) := by
  refine own_iloadN K (pc := 0) d3_0 rfl ?_
  refine own_iconst K (pc := 1) d3_1 (x := (4 : Int32)) (by decide) ?_
  refine own_icmpN K (pc := 2) d3_2 (by decide) ?_
  refine own_iloadN K (pc := 5) d3_5 rfl ?_
  refine own_iconst K (pc := 6) d3_6 (x := (4 : Int32)) (by decide) ?_
  refine own_icmpN K (pc := 7) d3_7 (by decide) ?_
  refine own_iloadN K (pc := 10) d3_10 rfl ?_
  refine own_iloadN K (pc := 11) d3_11 rfl ?_
  refine own_icmpY K (pc := 12) (pc' := 19) d3_12 (by decide) (by decide) (by decide) ?_
  refine own_iconst K (pc := 19) d3_19 (x := (0 : Int32)) (by decide) ?_
  exact own_retZ K (pc := 20) d3_20 (by decide)
theorem xp_2_4 (l : Launch) (Z : State) (a0 : Array Value) (h : Heap) (hw : ∀ d ∈ tables_1, d.before a0 Z = true)  : own_M l (⟨"com/example/row_lock_engine/rowlockengine/engine/LockKindWaitsForPinLaw", "expected", "(II)Z"⟩ : MethodName) method_3_code 2 .boolean [] { frames := 0, cells := 0, slots := 0, locals := 0 } Z h #[(.int (2 : Int32)), (.int (4 : Int32))] (.int (0 : Int32)) := by
  refine own_met pn_3 (Ls := #[.val (.int (2 : Int32)), .val (.int (4 : Int32))]) (fun m => by first | (simp [entryFrame, mkF, argsToLocals, Value.category, maxLocals]; done) | rfl) ?_
  intro p e s m below meth c K
  exact xb_2_4 p l e _ s m _ below meth c Z a0 h hw K
set_option maxRecDepth 65536 in
theorem cb_3_0 (p : Program) (l : Launch) (e : Env) (R : Room) (s : State) (m : MethodId) (args : Array Value) (below : List Frame) (meth : Method) (c : Code) (Z : State) (a0 : Array Value) (h : Heap) (hw : ∀ d ∈ tables_1, d.before a0 Z = true) (A : Nat → Addr) (F : own_F Z h A) (K : own_C p s m meth c Z prog_52_method_5_code "com/example/row_lock_engine/rowlockengine/engine/LockKind" .boolean 2) :
    own_E p l e R s m args below meth c h 0 #[.val (.ref (A 3)), .val (.ref (A 0))] [] (.int 0) := by
  refine own_aloadN K (pc := 0) d2_0 rfl rfl ?_
  refine own_getS K (pc := 1) (hw _ (List.mem_of_getElem? (i := 15) rfl)) F.1.2.2.2.2.2.2.2.2.1 d2_1 ?_
  refine own_acmp K (pc := 4) (pc' := 7) (same := false) d2_4 (decide_eq_false (Fld.ne F.1.2.2.2.2.2.2.2.2.2.2.2.2.1 F.1.2.2.2.2.2.2.2.2.2.2.2.1 (by decide))) (by decide) (by decide) ?_
  refine own_aloadN K (pc := 7) d2_7 rfl rfl ?_
  refine own_getS K (pc := 8) (hw _ (List.mem_of_getElem? (i := 15) rfl)) F.1.2.2.2.2.2.2.2.2.1 d2_8 ?_
  refine own_acmp K (pc := 11) (pc' := 25) (same := false) d2_11 (decide_eq_false (Fld.ne F.1.2.2.2.2.2.2.2.2.2.2.1 F.1.2.2.2.2.2.2.2.2.2.2.2.1 (by decide))) (by decide) (by decide) ?_
  refine own_aloadN K (pc := 25) d2_25 rfl rfl ?_
  refine own_getF K (pc := 26) (hw _ (List.mem_of_getElem? (i := 17) rfl)) F.1.2.2.2.2.2.2.2.2.2.2.2.2.2.2.1 d2_26 ?_
  refine own_ifY K (pc := 29) (pc' := 39) d2_29 (by decide) (by decide) (by decide) ?_
  refine own_aloadN K (pc := 39) d2_39 rfl rfl ?_
  refine own_getS K (pc := 40) (hw _ (List.mem_of_getElem? (i := 19) rfl)) F.1.2.2.2.2.2.2.1 d2_40 ?_
  refine own_acmp K (pc := 43) (pc' := 46) (same := true) d2_43 (decide_eq_true rfl) (by decide) (by decide) ?_
  refine own_aloadN K (pc := 46) d2_46 rfl rfl ?_
  refine own_getF K (pc := 47) (hw _ (List.mem_of_getElem? (i := 26) rfl)) F.1.2.2.2.2.2.2.2.2.2.2.2.2.2.2.2.2.2.2.2.2.2.1 d2_47 ?_
  refine own_ifY K (pc := 50) (pc' := 57) d2_50 (by decide) (by decide) (by decide) ?_
  refine own_iconst K (pc := 57) d2_57 (x := (0 : Int32)) (by decide) ?_
  exact own_retZ K (pc := 58) d2_58 (by decide)
theorem cv_3_0 (l : Launch) (Z : State) (a0 : Array Value) (h : Heap) (hw : ∀ d ∈ tables_1, d.before a0 Z = true) (A : Nat → Addr) (F : own_F Z h A)  : own_M l (⟨"com/example/row_lock_engine/rowlockengine/engine/LockKind", "waitsFor", "(Lcom/example/row_lock_engine/rowlockengine/engine/LockKind;)Z"⟩ : MethodName) prog_52_method_5_code 2 .boolean [] { frames := 0, cells := 0, slots := 0, locals := 0 } Z h #[(.ref (A 3)), (.ref (A 0))] (.int (0 : Int32)) := by
  refine own_met pn_2 (Ls := #[.val (.ref (A 3)), .val (.ref (A 0))]) (fun m => by first | (simp [entryFrame, mkF, argsToLocals, Value.category, maxLocals]; done) | rfl) ?_
  intro p e s m below meth c K
  exact cb_3_0 p l e _ s m _ below meth c Z a0 h hw A F K
set_option maxRecDepth 65536 in
theorem xb_3_0 (p : Program) (l : Launch) (e : Env) (R : Room) (s : State) (m : MethodId) (args : Array Value) (below : List Frame) (meth : Method) (c : Code) (Z : State) (a0 : Array Value) (h : Heap) (hw : ∀ d ∈ tables_1, d.before a0 Z = true) (K : own_C p s m meth c Z method_3_code "com/example/row_lock_engine/rowlockengine/engine/LockKindWaitsForPinLaw" .boolean 2) :
    own_E p l e R s m args below meth c h 0 #[.val (.int (3 : Int32)), .val (.int (0 : Int32))] [] (.int 0) := by
  refine own_iloadN K (pc := 0) d3_0 rfl ?_
  refine own_iconst K (pc := 1) d3_1 (x := (4 : Int32)) (by decide) ?_
  refine own_icmpN K (pc := 2) d3_2 (by decide) ?_
  refine own_iloadN K (pc := 5) d3_5 rfl ?_
  refine own_iconst K (pc := 6) d3_6 (x := (4 : Int32)) (by decide) ?_
  refine own_icmpY K (pc := 7) (pc' := 21) d3_7 (by decide) (by decide) (by decide) ?_
  refine own_iloadN K (pc := 21) d3_21 rfl ?_
  refine own_iconst K (pc := 22) d3_22 (x := (1 : Int32)) (by decide) ?_
  refine own_icmpY K (pc := 23) (pc' := 28) d3_23 (by decide) (by decide) (by decide) ?_
  refine own_iloadN K (pc := 28) d3_28 rfl ?_
  refine own_iconst K (pc := 29) d3_29 (x := (3 : Int32)) (by decide) ?_
  refine own_icmpN K (pc := 30) d3_30 (by decide) ?_
  refine own_iloadN K (pc := 33) d3_33 rfl ?_
  refine own_iconst K (pc := 34) d3_34 (x := (1 : Int32)) (by decide) ?_
  refine own_icmpN K (pc := 35) d3_35 (by decide) ?_
  refine own_iloadN K (pc := 38) d3_38 rfl ?_
  refine own_iconst K (pc := 39) d3_39 (x := (2 : Int32)) (by decide) ?_
  refine own_icmpY K (pc := 40) (pc' := 47) d3_40 (by decide) (by decide) (by decide) ?_
  refine own_iconst K (pc := 47) d3_47 (x := (0 : Int32)) (by decide) ?_
  exact own_retZ K (pc := 48) d3_48 (by decide)
theorem xp_3_0 (l : Launch) (Z : State) (a0 : Array Value) (h : Heap) (hw : ∀ d ∈ tables_1, d.before a0 Z = true)  : own_M l (⟨"com/example/row_lock_engine/rowlockengine/engine/LockKindWaitsForPinLaw", "expected", "(II)Z"⟩ : MethodName) method_3_code 2 .boolean [] { frames := 0, cells := 0, slots := 0, locals := 0 } Z h #[(.int (3 : Int32)), (.int (0 : Int32))] (.int (0 : Int32)) := by
  refine own_met pn_3 (Ls := #[.val (.int (3 : Int32)), .val (.int (0 : Int32))]) (fun m => by first | (simp [entryFrame, mkF, argsToLocals, Value.category, maxLocals]; done) | rfl) ?_
  intro p e s m below meth c K
  exact xb_3_0 p l e _ s m _ below meth c Z a0 h hw K
set_option maxRecDepth 65536 in
theorem cb_3_1 (p : Program) (l : Launch) (e : Env) (R : Room) (s : State) (m : MethodId) (args : Array Value) (below : List Frame) (meth : Method) (c : Code) (Z : State) (a0 : Array Value) (h : Heap) (hw : ∀ d ∈ tables_1, d.before a0 Z = true) (A : Nat → Addr) (F : own_F Z h A) (K : own_C p s m meth c Z prog_52_method_5_code "com/example/row_lock_engine/rowlockengine/engine/LockKind" .boolean 2) :
    own_E p l e R s m args below meth c h 0 #[.val (.ref (A 3)), .val (.ref (A 1))] [] (.int 1) := by
  refine own_aloadN K (pc := 0) d2_0 rfl rfl ?_
  refine own_getS K (pc := 1) (hw _ (List.mem_of_getElem? (i := 15) rfl)) F.1.2.2.2.2.2.2.2.2.1 d2_1 ?_
  refine own_acmp K (pc := 4) (pc' := 7) (same := false) d2_4 (decide_eq_false (Fld.ne F.1.2.2.2.2.2.2.2.2.2.2.2.2.1 F.1.2.2.2.2.2.2.2.2.2.2.2.1 (by decide))) (by decide) (by decide) ?_
  refine own_aloadN K (pc := 7) d2_7 rfl rfl ?_
  refine own_getS K (pc := 8) (hw _ (List.mem_of_getElem? (i := 15) rfl)) F.1.2.2.2.2.2.2.2.2.1 d2_8 ?_
  refine own_acmp K (pc := 11) (pc' := 25) (same := false) d2_11 (decide_eq_false (Fld.ne F.1.2.2.2.2.2.2.2.2.2.2.2.2.2.2.2.1 F.1.2.2.2.2.2.2.2.2.2.2.2.1 (by decide))) (by decide) (by decide) ?_
  refine own_aloadN K (pc := 25) d2_25 rfl rfl ?_
  refine own_getF K (pc := 26) (hw _ (List.mem_of_getElem? (i := 17) rfl)) F.1.2.2.2.2.2.2.2.2.2.2.2.2.2.2.1 d2_26 ?_
  refine own_ifY K (pc := 29) (pc' := 39) d2_29 (by decide) (by decide) (by decide) ?_
  refine own_aloadN K (pc := 39) d2_39 rfl rfl ?_
  refine own_getS K (pc := 40) (hw _ (List.mem_of_getElem? (i := 19) rfl)) F.1.2.2.2.2.2.2.1 d2_40 ?_
  refine own_acmp K (pc := 43) (pc' := 46) (same := true) d2_43 (decide_eq_true rfl) (by decide) (by decide) ?_
  refine own_aloadN K (pc := 46) d2_46 rfl rfl ?_
  refine own_getF K (pc := 47) (hw _ (List.mem_of_getElem? (i := 26) rfl)) F.1.2.2.2.2.2.2.2.2.2.2.2.2.2.2.2.2.1 d2_47 ?_
  refine own_ifN K (pc := 50) d2_50 (by decide) ?_
  refine own_iconst K (pc := 53) d2_53 (x := (1 : Int32)) (by decide) ?_
  refine own_goto K (pc := 54) (pc' := 58) d2_54 (by decide) (by decide) ?_
  exact own_retZ K (pc := 58) d2_58 (by decide)
theorem cv_3_1 (l : Launch) (Z : State) (a0 : Array Value) (h : Heap) (hw : ∀ d ∈ tables_1, d.before a0 Z = true) (A : Nat → Addr) (F : own_F Z h A)  : own_M l (⟨"com/example/row_lock_engine/rowlockengine/engine/LockKind", "waitsFor", "(Lcom/example/row_lock_engine/rowlockengine/engine/LockKind;)Z"⟩ : MethodName) prog_52_method_5_code 2 .boolean [] { frames := 0, cells := 0, slots := 0, locals := 0 } Z h #[(.ref (A 3)), (.ref (A 1))] (.int (1 : Int32)) := by
  refine own_met pn_2 (Ls := #[.val (.ref (A 3)), .val (.ref (A 1))]) (fun m => by first | (simp [entryFrame, mkF, argsToLocals, Value.category, maxLocals]; done) | rfl) ?_
  intro p e s m below meth c K
  exact cb_3_1 p l e _ s m _ below meth c Z a0 h hw A F K
set_option maxRecDepth 65536 in
theorem xb_3_1 (p : Program) (l : Launch) (e : Env) (R : Room) (s : State) (m : MethodId) (args : Array Value) (below : List Frame) (meth : Method) (c : Code) (Z : State) (a0 : Array Value) (h : Heap) (hw : ∀ d ∈ tables_1, d.before a0 Z = true) (K : own_C p s m meth c Z method_3_code "com/example/row_lock_engine/rowlockengine/engine/LockKindWaitsForPinLaw" .boolean 2) :
    own_E p l e R s m args below meth c h 0 #[.val (.int (3 : Int32)), .val (.int (1 : Int32))] [] (.int 1) := by
  refine own_iloadN K (pc := 0) d3_0 rfl ?_
  refine own_iconst K (pc := 1) d3_1 (x := (4 : Int32)) (by decide) ?_
  refine own_icmpN K (pc := 2) d3_2 (by decide) ?_
  refine own_iloadN K (pc := 5) d3_5 rfl ?_
  refine own_iconst K (pc := 6) d3_6 (x := (4 : Int32)) (by decide) ?_
  refine own_icmpY K (pc := 7) (pc' := 21) d3_7 (by decide) (by decide) (by decide) ?_
  refine own_iloadN K (pc := 21) d3_21 rfl ?_
  refine own_iconst K (pc := 22) d3_22 (x := (1 : Int32)) (by decide) ?_
  refine own_icmpY K (pc := 23) (pc' := 28) d3_23 (by decide) (by decide) (by decide) ?_
  refine own_iloadN K (pc := 28) d3_28 rfl ?_
  refine own_iconst K (pc := 29) d3_29 (x := (3 : Int32)) (by decide) ?_
  refine own_icmpN K (pc := 30) d3_30 (by decide) ?_
  refine own_iloadN K (pc := 33) d3_33 rfl ?_
  refine own_iconst K (pc := 34) d3_34 (x := (1 : Int32)) (by decide) ?_
  refine own_icmpY K (pc := 35) (pc' := 43) d3_35 (by decide) (by decide) (by decide) ?_
  refine own_iconst K (pc := 43) d3_43 (x := (1 : Int32)) (by decide) ?_
  refine own_goto K (pc := 44) (pc' := 48) d3_44 (by decide) (by decide) ?_
  exact own_retZ K (pc := 48) d3_48 (by decide)
theorem xp_3_1 (l : Launch) (Z : State) (a0 : Array Value) (h : Heap) (hw : ∀ d ∈ tables_1, d.before a0 Z = true)  : own_M l (⟨"com/example/row_lock_engine/rowlockengine/engine/LockKindWaitsForPinLaw", "expected", "(II)Z"⟩ : MethodName) method_3_code 2 .boolean [] { frames := 0, cells := 0, slots := 0, locals := 0 } Z h #[(.int (3 : Int32)), (.int (1 : Int32))] (.int (1 : Int32)) := by
  refine own_met pn_3 (Ls := #[.val (.int (3 : Int32)), .val (.int (1 : Int32))]) (fun m => by first | (simp [entryFrame, mkF, argsToLocals, Value.category, maxLocals]; done) | rfl) ?_
  intro p e s m below meth c K
  exact xb_3_1 p l e _ s m _ below meth c Z a0 h hw K
set_option maxRecDepth 65536 in
theorem cb_3_2 (p : Program) (l : Launch) (e : Env) (R : Room) (s : State) (m : MethodId) (args : Array Value) (below : List Frame) (meth : Method) (c : Code) (Z : State) (a0 : Array Value) (h : Heap) (hw : ∀ d ∈ tables_1, d.before a0 Z = true) (A : Nat → Addr) (F : own_F Z h A) (K : own_C p s m meth c Z prog_52_method_5_code "com/example/row_lock_engine/rowlockengine/engine/LockKind" .boolean 2) :
    own_E p l e R s m args below meth c h 0 #[.val (.ref (A 3)), .val (.ref (A 2))] [] (.int 1) := by
  refine own_aloadN K (pc := 0) d2_0 rfl rfl ?_
  refine own_getS K (pc := 1) (hw _ (List.mem_of_getElem? (i := 15) rfl)) F.1.2.2.2.2.2.2.2.2.1 d2_1 ?_
  refine own_acmp K (pc := 4) (pc' := 7) (same := false) d2_4 (decide_eq_false (Fld.ne F.1.2.2.2.2.2.2.2.2.2.2.2.2.1 F.1.2.2.2.2.2.2.2.2.2.2.2.1 (by decide))) (by decide) (by decide) ?_
  refine own_aloadN K (pc := 7) d2_7 rfl rfl ?_
  refine own_getS K (pc := 8) (hw _ (List.mem_of_getElem? (i := 15) rfl)) F.1.2.2.2.2.2.2.2.2.1 d2_8 ?_
  refine own_acmp K (pc := 11) (pc' := 25) (same := false) d2_11 (decide_eq_false (Fld.ne F.1.2.2.2.2.2.2.2.2.2.2.2.2.2.2.2.2.2.2.1 F.1.2.2.2.2.2.2.2.2.2.2.2.1 (by decide))) (by decide) (by decide) ?_
  refine own_aloadN K (pc := 25) d2_25 rfl rfl ?_
  refine own_getF K (pc := 26) (hw _ (List.mem_of_getElem? (i := 17) rfl)) F.1.2.2.2.2.2.2.2.2.2.2.2.2.2.2.1 d2_26 ?_
  refine own_ifY K (pc := 29) (pc' := 39) d2_29 (by decide) (by decide) (by decide) ?_
  refine own_aloadN K (pc := 39) d2_39 rfl rfl ?_
  refine own_getS K (pc := 40) (hw _ (List.mem_of_getElem? (i := 19) rfl)) F.1.2.2.2.2.2.2.1 d2_40 ?_
  refine own_acmp K (pc := 43) (pc' := 46) (same := true) d2_43 (decide_eq_true rfl) (by decide) (by decide) ?_
  refine own_aloadN K (pc := 46) d2_46 rfl rfl ?_
  refine own_getF K (pc := 47) (hw _ (List.mem_of_getElem? (i := 26) rfl)) F.1.2.2.2.2.2.2.2.2.2.2.2.2.2.2.2.2.2.2.2.1 d2_47 ?_
  refine own_ifN K (pc := 50) d2_50 (by decide) ?_
  refine own_iconst K (pc := 53) d2_53 (x := (1 : Int32)) (by decide) ?_
  refine own_goto K (pc := 54) (pc' := 58) d2_54 (by decide) (by decide) ?_
  exact own_retZ K (pc := 58) d2_58 (by decide)
theorem cv_3_2 (l : Launch) (Z : State) (a0 : Array Value) (h : Heap) (hw : ∀ d ∈ tables_1, d.before a0 Z = true) (A : Nat → Addr) (F : own_F Z h A)  : own_M l (⟨"com/example/row_lock_engine/rowlockengine/engine/LockKind", "waitsFor", "(Lcom/example/row_lock_engine/rowlockengine/engine/LockKind;)Z"⟩ : MethodName) prog_52_method_5_code 2 .boolean [] { frames := 0, cells := 0, slots := 0, locals := 0 } Z h #[(.ref (A 3)), (.ref (A 2))] (.int (1 : Int32)) := by
  refine own_met pn_2 (Ls := #[.val (.ref (A 3)), .val (.ref (A 2))]) (fun m => by first | (simp [entryFrame, mkF, argsToLocals, Value.category, maxLocals]; done) | rfl) ?_
  intro p e s m below meth c K
  exact cb_3_2 p l e _ s m _ below meth c Z a0 h hw A F K
set_option maxRecDepth 65536 in
theorem xb_3_2 (p : Program) (l : Launch) (e : Env) (R : Room) (s : State) (m : MethodId) (args : Array Value) (below : List Frame) (meth : Method) (c : Code) (Z : State) (a0 : Array Value) (h : Heap) (hw : ∀ d ∈ tables_1, d.before a0 Z = true) (K : own_C p s m meth c Z method_3_code "com/example/row_lock_engine/rowlockengine/engine/LockKindWaitsForPinLaw" .boolean 2) :
    own_E p l e R s m args below meth c h 0 #[.val (.int (3 : Int32)), .val (.int (2 : Int32))] [] (.int 1) := by
  refine own_iloadN K (pc := 0) d3_0 rfl ?_
  refine own_iconst K (pc := 1) d3_1 (x := (4 : Int32)) (by decide) ?_
  refine own_icmpN K (pc := 2) d3_2 (by decide) ?_
  refine own_iloadN K (pc := 5) d3_5 rfl ?_
  refine own_iconst K (pc := 6) d3_6 (x := (4 : Int32)) (by decide) ?_
  refine own_icmpY K (pc := 7) (pc' := 21) d3_7 (by decide) (by decide) (by decide) ?_
  refine own_iloadN K (pc := 21) d3_21 rfl ?_
  refine own_iconst K (pc := 22) d3_22 (x := (1 : Int32)) (by decide) ?_
  refine own_icmpY K (pc := 23) (pc' := 28) d3_23 (by decide) (by decide) (by decide) ?_
  refine own_iloadN K (pc := 28) d3_28 rfl ?_
  refine own_iconst K (pc := 29) d3_29 (x := (3 : Int32)) (by decide) ?_
  refine own_icmpN K (pc := 30) d3_30 (by decide) ?_
  refine own_iloadN K (pc := 33) d3_33 rfl ?_
  refine own_iconst K (pc := 34) d3_34 (x := (1 : Int32)) (by decide) ?_
  refine own_icmpN K (pc := 35) d3_35 (by decide) ?_
  refine own_iloadN K (pc := 38) d3_38 rfl ?_
  refine own_iconst K (pc := 39) d3_39 (x := (2 : Int32)) (by decide) ?_
  refine own_icmpN K (pc := 40) d3_40 (by decide) ?_
  refine own_iconst K (pc := 43) d3_43 (x := (1 : Int32)) (by decide) ?_
  refine own_goto K (pc := 44) (pc' := 48) d3_44 (by decide) (by decide) ?_
  exact own_retZ K (pc := 48) d3_48 (by decide)
theorem xp_3_2 (l : Launch) (Z : State) (a0 : Array Value) (h : Heap) (hw : ∀ d ∈ tables_1, d.before a0 Z = true)  : own_M l (⟨"com/example/row_lock_engine/rowlockengine/engine/LockKindWaitsForPinLaw", "expected", "(II)Z"⟩ : MethodName) method_3_code 2 .boolean [] { frames := 0, cells := 0, slots := 0, locals := 0 } Z h #[(.int (3 : Int32)), (.int (2 : Int32))] (.int (1 : Int32)) := by
  refine own_met pn_3 (Ls := #[.val (.int (3 : Int32)), .val (.int (2 : Int32))]) (fun m => by first | (simp [entryFrame, mkF, argsToLocals, Value.category, maxLocals]; done) | rfl) ?_
  intro p e s m below meth c K
  exact xb_3_2 p l e _ s m _ below meth c Z a0 h hw K
set_option maxRecDepth 65536 in
theorem cb_3_3 (p : Program) (l : Launch) (e : Env) (R : Room) (s : State) (m : MethodId) (args : Array Value) (below : List Frame) (meth : Method) (c : Code) (Z : State) (a0 : Array Value) (h : Heap) (hw : ∀ d ∈ tables_1, d.before a0 Z = true) (A : Nat → Addr) (F : own_F Z h A) (K : own_C p s m meth c Z prog_52_method_5_code "com/example/row_lock_engine/rowlockengine/engine/LockKind" .boolean 2) :
    own_E p l e R s m args below meth c h 0 #[.val (.ref (A 3)), .val (.ref (A 3))] [] (.int 0) := by
  refine own_aloadN K (pc := 0) d2_0 rfl rfl ?_
  refine own_getS K (pc := 1) (hw _ (List.mem_of_getElem? (i := 15) rfl)) F.1.2.2.2.2.2.2.2.2.1 d2_1 ?_
  refine own_acmp K (pc := 4) (pc' := 7) (same := false) d2_4 (decide_eq_false (Fld.ne F.1.2.2.2.2.2.2.2.2.2.2.2.2.1 F.1.2.2.2.2.2.2.2.2.2.2.2.1 (by decide))) (by decide) (by decide) ?_
  refine own_aloadN K (pc := 7) d2_7 rfl rfl ?_
  refine own_getS K (pc := 8) (hw _ (List.mem_of_getElem? (i := 15) rfl)) F.1.2.2.2.2.2.2.2.2.1 d2_8 ?_
  refine own_acmp K (pc := 11) (pc' := 25) (same := false) d2_11 (decide_eq_false (Fld.ne F.1.2.2.2.2.2.2.2.2.2.2.2.2.1 F.1.2.2.2.2.2.2.2.2.2.2.2.1 (by decide))) (by decide) (by decide) ?_
  refine own_aloadN K (pc := 25) d2_25 rfl rfl ?_
  refine own_getF K (pc := 26) (hw _ (List.mem_of_getElem? (i := 17) rfl)) F.1.2.2.2.2.2.2.2.2.2.2.2.2.2.2.1 d2_26 ?_
  refine own_ifY K (pc := 29) (pc' := 39) d2_29 (by decide) (by decide) (by decide) ?_
  refine own_aloadN K (pc := 39) d2_39 rfl rfl ?_
  refine own_getS K (pc := 40) (hw _ (List.mem_of_getElem? (i := 19) rfl)) F.1.2.2.2.2.2.2.1 d2_40 ?_
  refine own_acmp K (pc := 43) (pc' := 46) (same := true) d2_43 (decide_eq_true rfl) (by decide) (by decide) ?_
  refine own_aloadN K (pc := 46) d2_46 rfl rfl ?_
  refine own_getF K (pc := 47) (hw _ (List.mem_of_getElem? (i := 26) rfl)) F.1.2.2.2.2.2.2.2.2.2.2.2.2.2.2.2.2.2.2.2.2.2.2.1 d2_47 ?_
  refine own_ifY K (pc := 50) (pc' := 57) d2_50 (by decide) (by decide) (by decide) ?_
  refine own_iconst K (pc := 57) d2_57 (x := (0 : Int32)) (by decide) ?_
  exact own_retZ K (pc := 58) d2_58 (by decide)
theorem cv_3_3 (l : Launch) (Z : State) (a0 : Array Value) (h : Heap) (hw : ∀ d ∈ tables_1, d.before a0 Z = true) (A : Nat → Addr) (F : own_F Z h A)  : own_M l (⟨"com/example/row_lock_engine/rowlockengine/engine/LockKind", "waitsFor", "(Lcom/example/row_lock_engine/rowlockengine/engine/LockKind;)Z"⟩ : MethodName) prog_52_method_5_code 2 .boolean [] { frames := 0, cells := 0, slots := 0, locals := 0 } Z h #[(.ref (A 3)), (.ref (A 3))] (.int (0 : Int32)) := by
  refine own_met pn_2 (Ls := #[.val (.ref (A 3)), .val (.ref (A 3))]) (fun m => by first | (simp [entryFrame, mkF, argsToLocals, Value.category, maxLocals]; done) | rfl) ?_
  intro p e s m below meth c K
  exact cb_3_3 p l e _ s m _ below meth c Z a0 h hw A F K
set_option maxRecDepth 65536 in
theorem xb_3_3 (p : Program) (l : Launch) (e : Env) (R : Room) (s : State) (m : MethodId) (args : Array Value) (below : List Frame) (meth : Method) (c : Code) (Z : State) (a0 : Array Value) (h : Heap) (hw : ∀ d ∈ tables_1, d.before a0 Z = true) (K : own_C p s m meth c Z method_3_code "com/example/row_lock_engine/rowlockengine/engine/LockKindWaitsForPinLaw" .boolean 2) :
    own_E p l e R s m args below meth c h 0 #[.val (.int (3 : Int32)), .val (.int (3 : Int32))] [] (.int 0) := by
  refine own_iloadN K (pc := 0) d3_0 rfl ?_
  refine own_iconst K (pc := 1) d3_1 (x := (4 : Int32)) (by decide) ?_
  refine own_icmpN K (pc := 2) d3_2 (by decide) ?_
  refine own_iloadN K (pc := 5) d3_5 rfl ?_
  refine own_iconst K (pc := 6) d3_6 (x := (4 : Int32)) (by decide) ?_
  refine own_icmpY K (pc := 7) (pc' := 21) d3_7 (by decide) (by decide) (by decide) ?_
  refine own_iloadN K (pc := 21) d3_21 rfl ?_
  refine own_iconst K (pc := 22) d3_22 (x := (1 : Int32)) (by decide) ?_
  refine own_icmpY K (pc := 23) (pc' := 28) d3_23 (by decide) (by decide) (by decide) ?_
  refine own_iloadN K (pc := 28) d3_28 rfl ?_
  refine own_iconst K (pc := 29) d3_29 (x := (3 : Int32)) (by decide) ?_
  refine own_icmpN K (pc := 30) d3_30 (by decide) ?_
  refine own_iloadN K (pc := 33) d3_33 rfl ?_
  refine own_iconst K (pc := 34) d3_34 (x := (1 : Int32)) (by decide) ?_
  refine own_icmpN K (pc := 35) d3_35 (by decide) ?_
  refine own_iloadN K (pc := 38) d3_38 rfl ?_
  refine own_iconst K (pc := 39) d3_39 (x := (2 : Int32)) (by decide) ?_
  refine own_icmpY K (pc := 40) (pc' := 47) d3_40 (by decide) (by decide) (by decide) ?_
  refine own_iconst K (pc := 47) d3_47 (x := (0 : Int32)) (by decide) ?_
  exact own_retZ K (pc := 48) d3_48 (by decide)
theorem xp_3_3 (l : Launch) (Z : State) (a0 : Array Value) (h : Heap) (hw : ∀ d ∈ tables_1, d.before a0 Z = true)  : own_M l (⟨"com/example/row_lock_engine/rowlockengine/engine/LockKindWaitsForPinLaw", "expected", "(II)Z"⟩ : MethodName) method_3_code 2 .boolean [] { frames := 0, cells := 0, slots := 0, locals := 0 } Z h #[(.int (3 : Int32)), (.int (3 : Int32))] (.int (0 : Int32)) := by
  refine own_met pn_3 (Ls := #[.val (.int (3 : Int32)), .val (.int (3 : Int32))]) (fun m => by first | (simp [entryFrame, mkF, argsToLocals, Value.category, maxLocals]; done) | rfl) ?_
  intro p e s m below meth c K
  exact xb_3_3 p l e _ s m _ below meth c Z a0 h hw K
set_option maxRecDepth 65536 in
theorem cb_3_4 (p : Program) (l : Launch) (e : Env) (R : Room) (s : State) (m : MethodId) (args : Array Value) (below : List Frame) (meth : Method) (c : Code) (Z : State) (a0 : Array Value) (h : Heap) (hw : ∀ d ∈ tables_1, d.before a0 Z = true) (A : Nat → Addr) (F : own_F Z h A) (K : own_C p s m meth c Z prog_52_method_5_code "com/example/row_lock_engine/rowlockengine/engine/LockKind" .boolean 2) :
    own_E p l e R s m args below meth c h 0 #[.val (.ref (A 3)), .val (.ref (A 4))] [] (.int 0) := by
  refine own_aloadN K (pc := 0) d2_0 rfl rfl ?_
  refine own_getS K (pc := 1) (hw _ (List.mem_of_getElem? (i := 15) rfl)) F.1.2.2.2.2.2.2.2.2.1 d2_1 ?_
  refine own_acmp K (pc := 4) (pc' := 7) (same := false) d2_4 (decide_eq_false (Fld.ne F.1.2.2.2.2.2.2.2.2.2.2.2.2.1 F.1.2.2.2.2.2.2.2.2.2.2.2.1 (by decide))) (by decide) (by decide) ?_
  refine own_aloadN K (pc := 7) d2_7 rfl rfl ?_
  refine own_getS K (pc := 8) (hw _ (List.mem_of_getElem? (i := 15) rfl)) F.1.2.2.2.2.2.2.2.2.1 d2_8 ?_
  refine own_acmp K (pc := 11) (pc' := 14) (same := true) d2_11 (decide_eq_true rfl) (by decide) (by decide) ?_
  refine own_aloadN K (pc := 14) d2_14 rfl rfl ?_
  refine own_aloadN K (pc := 15) d2_15 rfl rfl ?_
  refine own_acmp K (pc := 16) (pc' := 23) (same := false) d2_16 (decide_eq_false (Fld.ne F.1.2.2.2.2.2.2.2.2.2.2.2.2.1 F.1.2.2.2.2.2.2.2.2.2.2.2.1 (by decide))) (by decide) (by decide) ?_
  refine own_iconst K (pc := 23) d2_23 (x := (0 : Int32)) (by decide) ?_
  exact own_retZ K (pc := 24) d2_24 (by decide)
theorem cv_3_4 (l : Launch) (Z : State) (a0 : Array Value) (h : Heap) (hw : ∀ d ∈ tables_1, d.before a0 Z = true) (A : Nat → Addr) (F : own_F Z h A)  : own_M l (⟨"com/example/row_lock_engine/rowlockengine/engine/LockKind", "waitsFor", "(Lcom/example/row_lock_engine/rowlockengine/engine/LockKind;)Z"⟩ : MethodName) prog_52_method_5_code 2 .boolean [] { frames := 0, cells := 0, slots := 0, locals := 0 } Z h #[(.ref (A 3)), (.ref (A 4))] (.int (0 : Int32)) := by
  refine own_met pn_2 (Ls := #[.val (.ref (A 3)), .val (.ref (A 4))]) (fun m => by first | (simp [entryFrame, mkF, argsToLocals, Value.category, maxLocals]; done) | rfl) ?_
  intro p e s m below meth c K
  exact cb_3_4 p l e _ s m _ below meth c Z a0 h hw A F K
set_option maxRecDepth 65536 in
theorem xb_3_4 (p : Program) (l : Launch) (e : Env) (R : Room) (s : State) (m : MethodId) (args : Array Value) (below : List Frame) (meth : Method) (c : Code) (Z : State) (a0 : Array Value) (h : Heap) (hw : ∀ d ∈ tables_1, d.before a0 Z = true) (K : own_C p s m meth c Z method_3_code "com/example/row_lock_engine/rowlockengine/engine/LockKindWaitsForPinLaw" .boolean 2) :
    own_E p l e R s m args below meth c h 0 #[.val (.int (3 : Int32)), .val (.int (4 : Int32))] [] (.int 0) := by
  refine own_iloadN K (pc := 0) d3_0 rfl ?_
  refine own_iconst K (pc := 1) d3_1 (x := (4 : Int32)) (by decide) ?_
  refine own_icmpN K (pc := 2) d3_2 (by decide) ?_
  refine own_iloadN K (pc := 5) d3_5 rfl ?_
  refine own_iconst K (pc := 6) d3_6 (x := (4 : Int32)) (by decide) ?_
  refine own_icmpN K (pc := 7) d3_7 (by decide) ?_
  refine own_iloadN K (pc := 10) d3_10 rfl ?_
  refine own_iloadN K (pc := 11) d3_11 rfl ?_
  refine own_icmpY K (pc := 12) (pc' := 19) d3_12 (by decide) (by decide) (by decide) ?_
  refine own_iconst K (pc := 19) d3_19 (x := (0 : Int32)) (by decide) ?_
  exact own_retZ K (pc := 20) d3_20 (by decide)
theorem xp_3_4 (l : Launch) (Z : State) (a0 : Array Value) (h : Heap) (hw : ∀ d ∈ tables_1, d.before a0 Z = true)  : own_M l (⟨"com/example/row_lock_engine/rowlockengine/engine/LockKindWaitsForPinLaw", "expected", "(II)Z"⟩ : MethodName) method_3_code 2 .boolean [] { frames := 0, cells := 0, slots := 0, locals := 0 } Z h #[(.int (3 : Int32)), (.int (4 : Int32))] (.int (0 : Int32)) := by
  refine own_met pn_3 (Ls := #[.val (.int (3 : Int32)), .val (.int (4 : Int32))]) (fun m => by first | (simp [entryFrame, mkF, argsToLocals, Value.category, maxLocals]; done) | rfl) ?_
  intro p e s m below meth c K
  exact xb_3_4 p l e _ s m _ below meth c Z a0 h hw K
set_option maxRecDepth 65536 in
theorem cb_4_0 (p : Program) (l : Launch) (e : Env) (R : Room) (s : State) (m : MethodId) (args : Array Value) (below : List Frame) (meth : Method) (c : Code) (Z : State) (a0 : Array Value) (h : Heap) (hw : ∀ d ∈ tables_1, d.before a0 Z = true) (A : Nat → Addr) (F : own_F Z h A) (K : own_C p s m meth c Z prog_52_method_5_code "com/example/row_lock_engine/rowlockengine/engine/LockKind" .boolean 2) :
    own_E p l e R s m args below meth c h 0 #[.val (.ref (A 4)), .val (.ref (A 0))] [] (.int 0) := by
  refine own_aloadN K (pc := 0) d2_0 rfl rfl ?_
  refine own_getS K (pc := 1) (hw _ (List.mem_of_getElem? (i := 15) rfl)) F.1.2.2.2.2.2.2.2.2.1 d2_1 ?_
  refine own_acmp K (pc := 4) (pc' := 14) (same := true) d2_4 (decide_eq_true rfl) (by decide) (by decide) ?_
  refine own_aloadN K (pc := 14) d2_14 rfl rfl ?_
  refine own_aloadN K (pc := 15) d2_15 rfl rfl ?_
  refine own_acmp K (pc := 16) (pc' := 23) (same := false) d2_16 (decide_eq_false (Fld.ne F.1.2.2.2.2.2.2.2.2.2.2.2.1 F.1.2.2.2.2.2.2.2.2.2.2.1 (by decide))) (by decide) (by decide) ?_
  refine own_iconst K (pc := 23) d2_23 (x := (0 : Int32)) (by decide) ?_
  exact own_retZ K (pc := 24) d2_24 (by decide)
theorem cv_4_0 (l : Launch) (Z : State) (a0 : Array Value) (h : Heap) (hw : ∀ d ∈ tables_1, d.before a0 Z = true) (A : Nat → Addr) (F : own_F Z h A)  : own_M l (⟨"com/example/row_lock_engine/rowlockengine/engine/LockKind", "waitsFor", "(Lcom/example/row_lock_engine/rowlockengine/engine/LockKind;)Z"⟩ : MethodName) prog_52_method_5_code 2 .boolean [] { frames := 0, cells := 0, slots := 0, locals := 0 } Z h #[(.ref (A 4)), (.ref (A 0))] (.int (0 : Int32)) := by
  refine own_met pn_2 (Ls := #[.val (.ref (A 4)), .val (.ref (A 0))]) (fun m => by first | (simp [entryFrame, mkF, argsToLocals, Value.category, maxLocals]; done) | rfl) ?_
  intro p e s m below meth c K
  exact cb_4_0 p l e _ s m _ below meth c Z a0 h hw A F K
set_option maxRecDepth 65536 in
theorem xb_4_0 (p : Program) (l : Launch) (e : Env) (R : Room) (s : State) (m : MethodId) (args : Array Value) (below : List Frame) (meth : Method) (c : Code) (Z : State) (a0 : Array Value) (h : Heap) (hw : ∀ d ∈ tables_1, d.before a0 Z = true) (K : own_C p s m meth c Z method_3_code "com/example/row_lock_engine/rowlockengine/engine/LockKindWaitsForPinLaw" .boolean 2) :
    own_E p l e R s m args below meth c h 0 #[.val (.int (4 : Int32)), .val (.int (0 : Int32))] [] (.int 0) := by
  refine own_iloadN K (pc := 0) d3_0 rfl ?_
  refine own_iconst K (pc := 1) d3_1 (x := (4 : Int32)) (by decide) ?_
  refine own_icmpY K (pc := 2) (pc' := 10) d3_2 (by decide) (by decide) (by decide) ?_
  refine own_iloadN K (pc := 10) d3_10 rfl ?_
  refine own_iloadN K (pc := 11) d3_11 rfl ?_
  refine own_icmpY K (pc := 12) (pc' := 19) d3_12 (by decide) (by decide) (by decide) ?_
  refine own_iconst K (pc := 19) d3_19 (x := (0 : Int32)) (by decide) ?_
  exact own_retZ K (pc := 20) d3_20 (by decide)
theorem xp_4_0 (l : Launch) (Z : State) (a0 : Array Value) (h : Heap) (hw : ∀ d ∈ tables_1, d.before a0 Z = true)  : own_M l (⟨"com/example/row_lock_engine/rowlockengine/engine/LockKindWaitsForPinLaw", "expected", "(II)Z"⟩ : MethodName) method_3_code 2 .boolean [] { frames := 0, cells := 0, slots := 0, locals := 0 } Z h #[(.int (4 : Int32)), (.int (0 : Int32))] (.int (0 : Int32)) := by
  refine own_met pn_3 (Ls := #[.val (.int (4 : Int32)), .val (.int (0 : Int32))]) (fun m => by first | (simp [entryFrame, mkF, argsToLocals, Value.category, maxLocals]; done) | rfl) ?_
  intro p e s m below meth c K
  exact xb_4_0 p l e _ s m _ below meth c Z a0 h hw K
set_option maxRecDepth 65536 in
theorem cb_4_1 (p : Program) (l : Launch) (e : Env) (R : Room) (s : State) (m : MethodId) (args : Array Value) (below : List Frame) (meth : Method) (c : Code) (Z : State) (a0 : Array Value) (h : Heap) (hw : ∀ d ∈ tables_1, d.before a0 Z = true) (A : Nat → Addr) (F : own_F Z h A) (K : own_C p s m meth c Z prog_52_method_5_code "com/example/row_lock_engine/rowlockengine/engine/LockKind" .boolean 2) :
    own_E p l e R s m args below meth c h 0 #[.val (.ref (A 4)), .val (.ref (A 1))] [] (.int 0) := by
  refine own_aloadN K (pc := 0) d2_0 rfl rfl ?_
  refine own_getS K (pc := 1) (hw _ (List.mem_of_getElem? (i := 15) rfl)) F.1.2.2.2.2.2.2.2.2.1 d2_1 ?_
  refine own_acmp K (pc := 4) (pc' := 14) (same := true) d2_4 (decide_eq_true rfl) (by decide) (by decide) ?_
  refine own_aloadN K (pc := 14) d2_14 rfl rfl ?_
  refine own_aloadN K (pc := 15) d2_15 rfl rfl ?_
  refine own_acmp K (pc := 16) (pc' := 23) (same := false) d2_16 (decide_eq_false (Fld.ne F.1.2.2.2.2.2.2.2.2.2.2.2.1 F.1.2.2.2.2.2.2.2.2.2.2.2.2.2.2.2.1 (by decide))) (by decide) (by decide) ?_
  refine own_iconst K (pc := 23) d2_23 (x := (0 : Int32)) (by decide) ?_
  exact own_retZ K (pc := 24) d2_24 (by decide)
theorem cv_4_1 (l : Launch) (Z : State) (a0 : Array Value) (h : Heap) (hw : ∀ d ∈ tables_1, d.before a0 Z = true) (A : Nat → Addr) (F : own_F Z h A)  : own_M l (⟨"com/example/row_lock_engine/rowlockengine/engine/LockKind", "waitsFor", "(Lcom/example/row_lock_engine/rowlockengine/engine/LockKind;)Z"⟩ : MethodName) prog_52_method_5_code 2 .boolean [] { frames := 0, cells := 0, slots := 0, locals := 0 } Z h #[(.ref (A 4)), (.ref (A 1))] (.int (0 : Int32)) := by
  refine own_met pn_2 (Ls := #[.val (.ref (A 4)), .val (.ref (A 1))]) (fun m => by first | (simp [entryFrame, mkF, argsToLocals, Value.category, maxLocals]; done) | rfl) ?_
  intro p e s m below meth c K
  exact cb_4_1 p l e _ s m _ below meth c Z a0 h hw A F K
set_option maxRecDepth 65536 in
theorem xb_4_1 (p : Program) (l : Launch) (e : Env) (R : Room) (s : State) (m : MethodId) (args : Array Value) (below : List Frame) (meth : Method) (c : Code) (Z : State) (a0 : Array Value) (h : Heap) (hw : ∀ d ∈ tables_1, d.before a0 Z = true) (K : own_C p s m meth c Z method_3_code "com/example/row_lock_engine/rowlockengine/engine/LockKindWaitsForPinLaw" .boolean 2) :
    own_E p l e R s m args below meth c h 0 #[.val (.int (4 : Int32)), .val (.int (1 : Int32))] [] (.int 0) := by
  refine own_iloadN K (pc := 0) d3_0 rfl ?_
  refine own_iconst K (pc := 1) d3_1 (x := (4 : Int32)) (by decide) ?_
  refine own_icmpY K (pc := 2) (pc' := 10) d3_2 (by decide) (by decide) (by decide) ?_
  refine own_iloadN K (pc := 10) d3_10 rfl ?_
  refine own_iloadN K (pc := 11) d3_11 rfl ?_
  refine own_icmpY K (pc := 12) (pc' := 19) d3_12 (by decide) (by decide) (by decide) ?_
  refine own_iconst K (pc := 19) d3_19 (x := (0 : Int32)) (by decide) ?_
  exact own_retZ K (pc := 20) d3_20 (by decide)
theorem xp_4_1 (l : Launch) (Z : State) (a0 : Array Value) (h : Heap) (hw : ∀ d ∈ tables_1, d.before a0 Z = true)  : own_M l (⟨"com/example/row_lock_engine/rowlockengine/engine/LockKindWaitsForPinLaw", "expected", "(II)Z"⟩ : MethodName) method_3_code 2 .boolean [] { frames := 0, cells := 0, slots := 0, locals := 0 } Z h #[(.int (4 : Int32)), (.int (1 : Int32))] (.int (0 : Int32)) := by
  refine own_met pn_3 (Ls := #[.val (.int (4 : Int32)), .val (.int (1 : Int32))]) (fun m => by first | (simp [entryFrame, mkF, argsToLocals, Value.category, maxLocals]; done) | rfl) ?_
  intro p e s m below meth c K
  exact xb_4_1 p l e _ s m _ below meth c Z a0 h hw K
set_option maxRecDepth 65536 in
theorem cb_4_2 (p : Program) (l : Launch) (e : Env) (R : Room) (s : State) (m : MethodId) (args : Array Value) (below : List Frame) (meth : Method) (c : Code) (Z : State) (a0 : Array Value) (h : Heap) (hw : ∀ d ∈ tables_1, d.before a0 Z = true) (A : Nat → Addr) (F : own_F Z h A) (K : own_C p s m meth c Z prog_52_method_5_code "com/example/row_lock_engine/rowlockengine/engine/LockKind" .boolean 2) :
    own_E p l e R s m args below meth c h 0 #[.val (.ref (A 4)), .val (.ref (A 2))] [] (.int 0) := by
  refine own_aloadN K (pc := 0) d2_0 rfl rfl ?_
  refine own_getS K (pc := 1) (hw _ (List.mem_of_getElem? (i := 15) rfl)) F.1.2.2.2.2.2.2.2.2.1 d2_1 ?_
  refine own_acmp K (pc := 4) (pc' := 14) (same := true) d2_4 (decide_eq_true rfl) (by decide) (by decide) ?_
  refine own_aloadN K (pc := 14) d2_14 rfl rfl ?_
  refine own_aloadN K (pc := 15) d2_15 rfl rfl ?_
  refine own_acmp K (pc := 16) (pc' := 23) (same := false) d2_16 (decide_eq_false (Fld.ne F.1.2.2.2.2.2.2.2.2.2.2.2.1 F.1.2.2.2.2.2.2.2.2.2.2.2.2.2.2.2.2.2.2.1 (by decide))) (by decide) (by decide) ?_
  refine own_iconst K (pc := 23) d2_23 (x := (0 : Int32)) (by decide) ?_
  exact own_retZ K (pc := 24) d2_24 (by decide)
theorem cv_4_2 (l : Launch) (Z : State) (a0 : Array Value) (h : Heap) (hw : ∀ d ∈ tables_1, d.before a0 Z = true) (A : Nat → Addr) (F : own_F Z h A)  : own_M l (⟨"com/example/row_lock_engine/rowlockengine/engine/LockKind", "waitsFor", "(Lcom/example/row_lock_engine/rowlockengine/engine/LockKind;)Z"⟩ : MethodName) prog_52_method_5_code 2 .boolean [] { frames := 0, cells := 0, slots := 0, locals := 0 } Z h #[(.ref (A 4)), (.ref (A 2))] (.int (0 : Int32)) := by
  refine own_met pn_2 (Ls := #[.val (.ref (A 4)), .val (.ref (A 2))]) (fun m => by first | (simp [entryFrame, mkF, argsToLocals, Value.category, maxLocals]; done) | rfl) ?_
  intro p e s m below meth c K
  exact cb_4_2 p l e _ s m _ below meth c Z a0 h hw A F K
set_option maxRecDepth 65536 in
theorem xb_4_2 (p : Program) (l : Launch) (e : Env) (R : Room) (s : State) (m : MethodId) (args : Array Value) (below : List Frame) (meth : Method) (c : Code) (Z : State) (a0 : Array Value) (h : Heap) (hw : ∀ d ∈ tables_1, d.before a0 Z = true) (K : own_C p s m meth c Z method_3_code "com/example/row_lock_engine/rowlockengine/engine/LockKindWaitsForPinLaw" .boolean 2) :
    own_E p l e R s m args below meth c h 0 #[.val (.int (4 : Int32)), .val (.int (2 : Int32))] [] (.int 0) := by
  refine own_iloadN K (pc := 0) d3_0 rfl ?_
  refine own_iconst K (pc := 1) d3_1 (x := (4 : Int32)) (by decide) ?_
  refine own_icmpY K (pc := 2) (pc' := 10) d3_2 (by decide) (by decide) (by decide) ?_
  refine own_iloadN K (pc := 10) d3_10 rfl ?_
  refine own_iloadN K (pc := 11) d3_11 rfl ?_
  refine own_icmpY K (pc := 12) (pc' := 19) d3_12 (by decide) (by decide) (by decide) ?_
  refine own_iconst K (pc := 19) d3_19 (x := (0 : Int32)) (by decide) ?_
  exact own_retZ K (pc := 20) d3_20 (by decide)
theorem xp_4_2 (l : Launch) (Z : State) (a0 : Array Value) (h : Heap) (hw : ∀ d ∈ tables_1, d.before a0 Z = true)  : own_M l (⟨"com/example/row_lock_engine/rowlockengine/engine/LockKindWaitsForPinLaw", "expected", "(II)Z"⟩ : MethodName) method_3_code 2 .boolean [] { frames := 0, cells := 0, slots := 0, locals := 0 } Z h #[(.int (4 : Int32)), (.int (2 : Int32))] (.int (0 : Int32)) := by
  refine own_met pn_3 (Ls := #[.val (.int (4 : Int32)), .val (.int (2 : Int32))]) (fun m => by first | (simp [entryFrame, mkF, argsToLocals, Value.category, maxLocals]; done) | rfl) ?_
  intro p e s m below meth c K
  exact xb_4_2 p l e _ s m _ below meth c Z a0 h hw K
set_option maxRecDepth 65536 in
theorem cb_4_3 (p : Program) (l : Launch) (e : Env) (R : Room) (s : State) (m : MethodId) (args : Array Value) (below : List Frame) (meth : Method) (c : Code) (Z : State) (a0 : Array Value) (h : Heap) (hw : ∀ d ∈ tables_1, d.before a0 Z = true) (A : Nat → Addr) (F : own_F Z h A) (K : own_C p s m meth c Z prog_52_method_5_code "com/example/row_lock_engine/rowlockengine/engine/LockKind" .boolean 2) :
    own_E p l e R s m args below meth c h 0 #[.val (.ref (A 4)), .val (.ref (A 3))] [] (.int 0) := by
  refine own_aloadN K (pc := 0) d2_0 rfl rfl ?_
  refine own_getS K (pc := 1) (hw _ (List.mem_of_getElem? (i := 15) rfl)) F.1.2.2.2.2.2.2.2.2.1 d2_1 ?_
  refine own_acmp K (pc := 4) (pc' := 14) (same := true) d2_4 (decide_eq_true rfl) (by decide) (by decide) ?_
  refine own_aloadN K (pc := 14) d2_14 rfl rfl ?_
  refine own_aloadN K (pc := 15) d2_15 rfl rfl ?_
  refine own_acmp K (pc := 16) (pc' := 23) (same := false) d2_16 (decide_eq_false (Fld.ne F.1.2.2.2.2.2.2.2.2.2.2.2.1 F.1.2.2.2.2.2.2.2.2.2.2.2.2.1 (by decide))) (by decide) (by decide) ?_
  refine own_iconst K (pc := 23) d2_23 (x := (0 : Int32)) (by decide) ?_
  exact own_retZ K (pc := 24) d2_24 (by decide)
theorem cv_4_3 (l : Launch) (Z : State) (a0 : Array Value) (h : Heap) (hw : ∀ d ∈ tables_1, d.before a0 Z = true) (A : Nat → Addr) (F : own_F Z h A)  : own_M l (⟨"com/example/row_lock_engine/rowlockengine/engine/LockKind", "waitsFor", "(Lcom/example/row_lock_engine/rowlockengine/engine/LockKind;)Z"⟩ : MethodName) prog_52_method_5_code 2 .boolean [] { frames := 0, cells := 0, slots := 0, locals := 0 } Z h #[(.ref (A 4)), (.ref (A 3))] (.int (0 : Int32)) := by
  refine own_met pn_2 (Ls := #[.val (.ref (A 4)), .val (.ref (A 3))]) (fun m => by first | (simp [entryFrame, mkF, argsToLocals, Value.category, maxLocals]; done) | rfl) ?_
  intro p e s m below meth c K
  exact cb_4_3 p l e _ s m _ below meth c Z a0 h hw A F K
set_option maxRecDepth 65536 in
theorem xb_4_3 (p : Program) (l : Launch) (e : Env) (R : Room) (s : State) (m : MethodId) (args : Array Value) (below : List Frame) (meth : Method) (c : Code) (Z : State) (a0 : Array Value) (h : Heap) (hw : ∀ d ∈ tables_1, d.before a0 Z = true) (K : own_C p s m meth c Z method_3_code "com/example/row_lock_engine/rowlockengine/engine/LockKindWaitsForPinLaw" .boolean 2) :
    own_E p l e R s m args below meth c h 0 #[.val (.int (4 : Int32)), .val (.int (3 : Int32))] [] (.int 0) := by
  refine own_iloadN K (pc := 0) d3_0 rfl ?_
  refine own_iconst K (pc := 1) d3_1 (x := (4 : Int32)) (by decide) ?_
  refine own_icmpY K (pc := 2) (pc' := 10) d3_2 (by decide) (by decide) (by decide) ?_
  refine own_iloadN K (pc := 10) d3_10 rfl ?_
  refine own_iloadN K (pc := 11) d3_11 rfl ?_
  refine own_icmpY K (pc := 12) (pc' := 19) d3_12 (by decide) (by decide) (by decide) ?_
  refine own_iconst K (pc := 19) d3_19 (x := (0 : Int32)) (by decide) ?_
  exact own_retZ K (pc := 20) d3_20 (by decide)
theorem xp_4_3 (l : Launch) (Z : State) (a0 : Array Value) (h : Heap) (hw : ∀ d ∈ tables_1, d.before a0 Z = true)  : own_M l (⟨"com/example/row_lock_engine/rowlockengine/engine/LockKindWaitsForPinLaw", "expected", "(II)Z"⟩ : MethodName) method_3_code 2 .boolean [] { frames := 0, cells := 0, slots := 0, locals := 0 } Z h #[(.int (4 : Int32)), (.int (3 : Int32))] (.int (0 : Int32)) := by
  refine own_met pn_3 (Ls := #[.val (.int (4 : Int32)), .val (.int (3 : Int32))]) (fun m => by first | (simp [entryFrame, mkF, argsToLocals, Value.category, maxLocals]; done) | rfl) ?_
  intro p e s m below meth c K
  exact xb_4_3 p l e _ s m _ below meth c Z a0 h hw K
set_option maxRecDepth 65536 in
theorem cb_4_4 (p : Program) (l : Launch) (e : Env) (R : Room) (s : State) (m : MethodId) (args : Array Value) (below : List Frame) (meth : Method) (c : Code) (Z : State) (a0 : Array Value) (h : Heap) (hw : ∀ d ∈ tables_1, d.before a0 Z = true) (A : Nat → Addr) (F : own_F Z h A) (K : own_C p s m meth c Z prog_52_method_5_code "com/example/row_lock_engine/rowlockengine/engine/LockKind" .boolean 2) :
    own_E p l e R s m args below meth c h 0 #[.val (.ref (A 4)), .val (.ref (A 4))] [] (.int 1) := by
  refine own_aloadN K (pc := 0) d2_0 rfl rfl ?_
  refine own_getS K (pc := 1) (hw _ (List.mem_of_getElem? (i := 15) rfl)) F.1.2.2.2.2.2.2.2.2.1 d2_1 ?_
  refine own_acmp K (pc := 4) (pc' := 14) (same := true) d2_4 (decide_eq_true rfl) (by decide) (by decide) ?_
  refine own_aloadN K (pc := 14) d2_14 rfl rfl ?_
  refine own_aloadN K (pc := 15) d2_15 rfl rfl ?_
  refine own_acmp K (pc := 16) (pc' := 19) (same := true) d2_16 (decide_eq_true rfl) (by decide) (by decide) ?_
  refine own_iconst K (pc := 19) d2_19 (x := (1 : Int32)) (by decide) ?_
  refine own_goto K (pc := 20) (pc' := 24) d2_20 (by decide) (by decide) ?_
  exact own_retZ K (pc := 24) d2_24 (by decide)
theorem cv_4_4 (l : Launch) (Z : State) (a0 : Array Value) (h : Heap) (hw : ∀ d ∈ tables_1, d.before a0 Z = true) (A : Nat → Addr) (F : own_F Z h A)  : own_M l (⟨"com/example/row_lock_engine/rowlockengine/engine/LockKind", "waitsFor", "(Lcom/example/row_lock_engine/rowlockengine/engine/LockKind;)Z"⟩ : MethodName) prog_52_method_5_code 2 .boolean [] { frames := 0, cells := 0, slots := 0, locals := 0 } Z h #[(.ref (A 4)), (.ref (A 4))] (.int (1 : Int32)) := by
  refine own_met pn_2 (Ls := #[.val (.ref (A 4)), .val (.ref (A 4))]) (fun m => by first | (simp [entryFrame, mkF, argsToLocals, Value.category, maxLocals]; done) | rfl) ?_
  intro p e s m below meth c K
  exact cb_4_4 p l e _ s m _ below meth c Z a0 h hw A F K
set_option maxRecDepth 65536 in
theorem xb_4_4 (p : Program) (l : Launch) (e : Env) (R : Room) (s : State) (m : MethodId) (args : Array Value) (below : List Frame) (meth : Method) (c : Code) (Z : State) (a0 : Array Value) (h : Heap) (hw : ∀ d ∈ tables_1, d.before a0 Z = true) (K : own_C p s m meth c Z method_3_code "com/example/row_lock_engine/rowlockengine/engine/LockKindWaitsForPinLaw" .boolean 2) :
    own_E p l e R s m args below meth c h 0 #[.val (.int (4 : Int32)), .val (.int (4 : Int32))] [] (.int 1) := by
  refine own_iloadN K (pc := 0) d3_0 rfl ?_
  refine own_iconst K (pc := 1) d3_1 (x := (4 : Int32)) (by decide) ?_
  refine own_icmpY K (pc := 2) (pc' := 10) d3_2 (by decide) (by decide) (by decide) ?_
  refine own_iloadN K (pc := 10) d3_10 rfl ?_
  refine own_iloadN K (pc := 11) d3_11 rfl ?_
  refine own_icmpN K (pc := 12) d3_12 (by decide) ?_
  refine own_iconst K (pc := 15) d3_15 (x := (1 : Int32)) (by decide) ?_
  refine own_goto K (pc := 16) (pc' := 20) d3_16 (by decide) (by decide) ?_
  exact own_retZ K (pc := 20) d3_20 (by decide)
theorem xp_4_4 (l : Launch) (Z : State) (a0 : Array Value) (h : Heap) (hw : ∀ d ∈ tables_1, d.before a0 Z = true)  : own_M l (⟨"com/example/row_lock_engine/rowlockengine/engine/LockKindWaitsForPinLaw", "expected", "(II)Z"⟩ : MethodName) method_3_code 2 .boolean [] { frames := 0, cells := 0, slots := 0, locals := 0 } Z h #[(.int (4 : Int32)), (.int (4 : Int32))] (.int (1 : Int32)) := by
  refine own_met pn_3 (Ls := #[.val (.int (4 : Int32)), .val (.int (4 : Int32))]) (fun m => by first | (simp [entryFrame, mkF, argsToLocals, Value.category, maxLocals]; done) | rfl) ?_
  intro p e s m below meth c K
  exact xb_4_4 p l e _ s m _ below meth c Z a0 h hw K
set_option maxRecDepth 65536 in
theorem lt_0_0 (p : Program) (l : Launch) (e : Env) (s : State) (m : MethodId) (args : Array Value) (below : List Frame) (meth : Method) (c : Code) (Z : State) (a0 : Array Value) (h : Heap) (hw : ∀ d ∈ tables_1, d.before a0 Z = true) (k y : Int32) (A : Nat → Addr) (F : own_F Z h A) (K : own_C p s m meth c Z code "com/example/row_lock_engine/rowlockengine/engine/LockKindWaitsForPinLaw" .boolean 6) :
    own_E p l e room_1 s m args below meth c h 14 #[.val (.int k), .val (.int y), .val (.int (0 : Int32)), .val (.int (0 : Int32)), .unset, .unset] [] (.int 1) := by
  refine own_iloadN K (pc := 14) at_14 rfl ?_
  refine own_callS K (pc := 15) (W := 0) (rest := []) (argsL := [(.int (0 : Int32))]) (u := (.ref (A 0))) (kd_0 l Z a0 h hw A F) (hw _ (List.mem_of_getElem? (i := 1) rfl)) (hw _ (List.mem_of_getElem? (i := 2) rfl)) (hw _ (List.mem_of_getElem? (i := 3) rfl)) (hw _ (List.mem_of_getElem? (i := 4) rfl)) (by decide) at_15 pd_1 rfl rfl rfl (Nat.le_of_eq rfl) (by decide) (by decide) ?_
  refine own_astore K (pc := 18) (Ls' := #[.val (.int k), .val (.int y), .val (.int (0 : Int32)), .val (.int (0 : Int32)), .val (.ref (A 0)), .unset]) at_18 rfl rfl ?_
  refine own_iloadN K (pc := 20) at_20 rfl ?_
  refine own_callS K (pc := 21) (W := 0) (rest := []) (argsL := [(.int (0 : Int32))]) (u := (.ref (A 0))) (kd_0 l Z a0 h hw A F) (hw _ (List.mem_of_getElem? (i := 1) rfl)) (hw _ (List.mem_of_getElem? (i := 2) rfl)) (hw _ (List.mem_of_getElem? (i := 3) rfl)) (hw _ (List.mem_of_getElem? (i := 4) rfl)) (by decide) at_21 pd_1 rfl rfl rfl (Nat.le_of_eq rfl) (by decide) (by decide) ?_
  refine own_astore K (pc := 24) (Ls' := #[.val (.int k), .val (.int y), .val (.int (0 : Int32)), .val (.int (0 : Int32)), .val (.ref (A 0)), .val (.ref (A 0))]) at_24 rfl rfl ?_
  refine own_aload K (pc := 26) at_26 rfl rfl ?_
  refine own_aload K (pc := 28) at_28 rfl rfl ?_
  refine own_callV K (pc := 30) (W := 0) (rest := []) (argsL := [(.ref (A 0))]) (u := (.int (1 : Int32))) (cv_0_0 l Z a0 h hw A F) F.1.2.1 (hw _ (List.mem_of_getElem? (i := 10) rfl)) (hw _ (List.mem_of_getElem? (i := 11) rfl)) (hw _ (List.mem_of_getElem? (i := 13) rfl)) (hw _ (List.mem_of_getElem? (i := 12) rfl)) (hw _ (List.mem_of_getElem? (i := 14) rfl)) (hw _ (List.mem_of_getElem? (i := 6) rfl)) (by decide) at_30 pd_2 rfl rfl rfl (Nat.le_of_eq rfl) (by decide) (by decide) ?_
  refine own_iloadN K (pc := 33) at_33 rfl ?_
  refine own_iloadN K (pc := 34) at_34 rfl ?_
  refine own_callS K (pc := 35) (W := 1) (rest := [(.int (1 : Int32))]) (argsL := [(.int (0 : Int32)), (.int (0 : Int32))]) (u := (.int (1 : Int32))) (xp_0_0 l Z a0 h hw) (hw _ (List.mem_of_getElem? (i := 20) rfl)) (hw _ (List.mem_of_getElem? (i := 21) rfl)) (hw _ (List.mem_of_getElem? (i := 3) rfl)) (hw _ (List.mem_of_getElem? (i := 22) rfl)) (by decide) at_35 pd_3 rfl rfl rfl (Nat.le_of_eq rfl) (by decide) (by decide) ?_
  refine own_icmpN K (pc := 38) at_38 (by decide) ?_
  refine own_iconst K (pc := 41) at_41 (x := (1 : Int32)) (by decide) ?_
  refine own_goto K (pc := 42) (pc' := 46) at_42 (by decide) (by decide) ?_
  exact own_retZ K (pc := 46) at_46 (by decide)
set_option maxRecDepth 65536 in
theorem lt_0_1 (p : Program) (l : Launch) (e : Env) (s : State) (m : MethodId) (args : Array Value) (below : List Frame) (meth : Method) (c : Code) (Z : State) (a0 : Array Value) (h : Heap) (hw : ∀ d ∈ tables_1, d.before a0 Z = true) (k y : Int32) (A : Nat → Addr) (F : own_F Z h A) (K : own_C p s m meth c Z code "com/example/row_lock_engine/rowlockengine/engine/LockKindWaitsForPinLaw" .boolean 6) :
    own_E p l e room_1 s m args below meth c h 14 #[.val (.int k), .val (.int y), .val (.int (0 : Int32)), .val (.int (1 : Int32)), .unset, .unset] [] (.int 1) := by
  refine own_iloadN K (pc := 14) at_14 rfl ?_
  refine own_callS K (pc := 15) (W := 0) (rest := []) (argsL := [(.int (0 : Int32))]) (u := (.ref (A 0))) (kd_0 l Z a0 h hw A F) (hw _ (List.mem_of_getElem? (i := 1) rfl)) (hw _ (List.mem_of_getElem? (i := 2) rfl)) (hw _ (List.mem_of_getElem? (i := 3) rfl)) (hw _ (List.mem_of_getElem? (i := 4) rfl)) (by decide) at_15 pd_1 rfl rfl rfl (Nat.le_of_eq rfl) (by decide) (by decide) ?_
  refine own_astore K (pc := 18) (Ls' := #[.val (.int k), .val (.int y), .val (.int (0 : Int32)), .val (.int (1 : Int32)), .val (.ref (A 0)), .unset]) at_18 rfl rfl ?_
  refine own_iloadN K (pc := 20) at_20 rfl ?_
  refine own_callS K (pc := 21) (W := 0) (rest := []) (argsL := [(.int (1 : Int32))]) (u := (.ref (A 1))) (kd_1 l Z a0 h hw A F) (hw _ (List.mem_of_getElem? (i := 1) rfl)) (hw _ (List.mem_of_getElem? (i := 2) rfl)) (hw _ (List.mem_of_getElem? (i := 3) rfl)) (hw _ (List.mem_of_getElem? (i := 4) rfl)) (by decide) at_21 pd_1 rfl rfl rfl (Nat.le_of_eq rfl) (by decide) (by decide) ?_
  refine own_astore K (pc := 24) (Ls' := #[.val (.int k), .val (.int y), .val (.int (0 : Int32)), .val (.int (1 : Int32)), .val (.ref (A 0)), .val (.ref (A 1))]) at_24 rfl rfl ?_
  refine own_aload K (pc := 26) at_26 rfl rfl ?_
  refine own_aload K (pc := 28) at_28 rfl rfl ?_
  refine own_callV K (pc := 30) (W := 0) (rest := []) (argsL := [(.ref (A 1))]) (u := (.int (0 : Int32))) (cv_0_1 l Z a0 h hw A F) F.1.2.1 (hw _ (List.mem_of_getElem? (i := 10) rfl)) (hw _ (List.mem_of_getElem? (i := 11) rfl)) (hw _ (List.mem_of_getElem? (i := 13) rfl)) (hw _ (List.mem_of_getElem? (i := 12) rfl)) (hw _ (List.mem_of_getElem? (i := 14) rfl)) (hw _ (List.mem_of_getElem? (i := 6) rfl)) (by decide) at_30 pd_2 rfl rfl rfl (Nat.le_of_eq rfl) (by decide) (by decide) ?_
  refine own_iloadN K (pc := 33) at_33 rfl ?_
  refine own_iloadN K (pc := 34) at_34 rfl ?_
  refine own_callS K (pc := 35) (W := 1) (rest := [(.int (0 : Int32))]) (argsL := [(.int (0 : Int32)), (.int (1 : Int32))]) (u := (.int (0 : Int32))) (xp_0_1 l Z a0 h hw) (hw _ (List.mem_of_getElem? (i := 20) rfl)) (hw _ (List.mem_of_getElem? (i := 21) rfl)) (hw _ (List.mem_of_getElem? (i := 3) rfl)) (hw _ (List.mem_of_getElem? (i := 22) rfl)) (by decide) at_35 pd_3 rfl rfl rfl (Nat.le_of_eq rfl) (by decide) (by decide) ?_
  refine own_icmpN K (pc := 38) at_38 (by decide) ?_
  refine own_iconst K (pc := 41) at_41 (x := (1 : Int32)) (by decide) ?_
  refine own_goto K (pc := 42) (pc' := 46) at_42 (by decide) (by decide) ?_
  exact own_retZ K (pc := 46) at_46 (by decide)
set_option maxRecDepth 65536 in
theorem lt_0_2 (p : Program) (l : Launch) (e : Env) (s : State) (m : MethodId) (args : Array Value) (below : List Frame) (meth : Method) (c : Code) (Z : State) (a0 : Array Value) (h : Heap) (hw : ∀ d ∈ tables_1, d.before a0 Z = true) (k y : Int32) (A : Nat → Addr) (F : own_F Z h A) (K : own_C p s m meth c Z code "com/example/row_lock_engine/rowlockengine/engine/LockKindWaitsForPinLaw" .boolean 6) :
    own_E p l e room_1 s m args below meth c h 14 #[.val (.int k), .val (.int y), .val (.int (0 : Int32)), .val (.int (2 : Int32)), .unset, .unset] [] (.int 1) := by
  refine own_iloadN K (pc := 14) at_14 rfl ?_
  refine own_callS K (pc := 15) (W := 0) (rest := []) (argsL := [(.int (0 : Int32))]) (u := (.ref (A 0))) (kd_0 l Z a0 h hw A F) (hw _ (List.mem_of_getElem? (i := 1) rfl)) (hw _ (List.mem_of_getElem? (i := 2) rfl)) (hw _ (List.mem_of_getElem? (i := 3) rfl)) (hw _ (List.mem_of_getElem? (i := 4) rfl)) (by decide) at_15 pd_1 rfl rfl rfl (Nat.le_of_eq rfl) (by decide) (by decide) ?_
  refine own_astore K (pc := 18) (Ls' := #[.val (.int k), .val (.int y), .val (.int (0 : Int32)), .val (.int (2 : Int32)), .val (.ref (A 0)), .unset]) at_18 rfl rfl ?_
  refine own_iloadN K (pc := 20) at_20 rfl ?_
  refine own_callS K (pc := 21) (W := 0) (rest := []) (argsL := [(.int (2 : Int32))]) (u := (.ref (A 2))) (kd_2 l Z a0 h hw A F) (hw _ (List.mem_of_getElem? (i := 1) rfl)) (hw _ (List.mem_of_getElem? (i := 2) rfl)) (hw _ (List.mem_of_getElem? (i := 3) rfl)) (hw _ (List.mem_of_getElem? (i := 4) rfl)) (by decide) at_21 pd_1 rfl rfl rfl (Nat.le_of_eq rfl) (by decide) (by decide) ?_
  refine own_astore K (pc := 24) (Ls' := #[.val (.int k), .val (.int y), .val (.int (0 : Int32)), .val (.int (2 : Int32)), .val (.ref (A 0)), .val (.ref (A 2))]) at_24 rfl rfl ?_
  refine own_aload K (pc := 26) at_26 rfl rfl ?_
  refine own_aload K (pc := 28) at_28 rfl rfl ?_
  refine own_callV K (pc := 30) (W := 0) (rest := []) (argsL := [(.ref (A 2))]) (u := (.int (1 : Int32))) (cv_0_2 l Z a0 h hw A F) F.1.2.1 (hw _ (List.mem_of_getElem? (i := 10) rfl)) (hw _ (List.mem_of_getElem? (i := 11) rfl)) (hw _ (List.mem_of_getElem? (i := 13) rfl)) (hw _ (List.mem_of_getElem? (i := 12) rfl)) (hw _ (List.mem_of_getElem? (i := 14) rfl)) (hw _ (List.mem_of_getElem? (i := 6) rfl)) (by decide) at_30 pd_2 rfl rfl rfl (Nat.le_of_eq rfl) (by decide) (by decide) ?_
  refine own_iloadN K (pc := 33) at_33 rfl ?_
  refine own_iloadN K (pc := 34) at_34 rfl ?_
  refine own_callS K (pc := 35) (W := 1) (rest := [(.int (1 : Int32))]) (argsL := [(.int (0 : Int32)), (.int (2 : Int32))]) (u := (.int (1 : Int32))) (xp_0_2 l Z a0 h hw) (hw _ (List.mem_of_getElem? (i := 20) rfl)) (hw _ (List.mem_of_getElem? (i := 21) rfl)) (hw _ (List.mem_of_getElem? (i := 3) rfl)) (hw _ (List.mem_of_getElem? (i := 22) rfl)) (by decide) at_35 pd_3 rfl rfl rfl (Nat.le_of_eq rfl) (by decide) (by decide) ?_
  refine own_icmpN K (pc := 38) at_38 (by decide) ?_
  refine own_iconst K (pc := 41) at_41 (x := (1 : Int32)) (by decide) ?_
  refine own_goto K (pc := 42) (pc' := 46) at_42 (by decide) (by decide) ?_
  exact own_retZ K (pc := 46) at_46 (by decide)
set_option maxRecDepth 65536 in
theorem lt_0_3 (p : Program) (l : Launch) (e : Env) (s : State) (m : MethodId) (args : Array Value) (below : List Frame) (meth : Method) (c : Code) (Z : State) (a0 : Array Value) (h : Heap) (hw : ∀ d ∈ tables_1, d.before a0 Z = true) (k y : Int32) (A : Nat → Addr) (F : own_F Z h A) (K : own_C p s m meth c Z code "com/example/row_lock_engine/rowlockengine/engine/LockKindWaitsForPinLaw" .boolean 6) :
    own_E p l e room_1 s m args below meth c h 14 #[.val (.int k), .val (.int y), .val (.int (0 : Int32)), .val (.int (3 : Int32)), .unset, .unset] [] (.int 1) := by
  refine own_iloadN K (pc := 14) at_14 rfl ?_
  refine own_callS K (pc := 15) (W := 0) (rest := []) (argsL := [(.int (0 : Int32))]) (u := (.ref (A 0))) (kd_0 l Z a0 h hw A F) (hw _ (List.mem_of_getElem? (i := 1) rfl)) (hw _ (List.mem_of_getElem? (i := 2) rfl)) (hw _ (List.mem_of_getElem? (i := 3) rfl)) (hw _ (List.mem_of_getElem? (i := 4) rfl)) (by decide) at_15 pd_1 rfl rfl rfl (Nat.le_of_eq rfl) (by decide) (by decide) ?_
  refine own_astore K (pc := 18) (Ls' := #[.val (.int k), .val (.int y), .val (.int (0 : Int32)), .val (.int (3 : Int32)), .val (.ref (A 0)), .unset]) at_18 rfl rfl ?_
  refine own_iloadN K (pc := 20) at_20 rfl ?_
  refine own_callS K (pc := 21) (W := 0) (rest := []) (argsL := [(.int (3 : Int32))]) (u := (.ref (A 3))) (kd_3 l Z a0 h hw A F) (hw _ (List.mem_of_getElem? (i := 1) rfl)) (hw _ (List.mem_of_getElem? (i := 2) rfl)) (hw _ (List.mem_of_getElem? (i := 3) rfl)) (hw _ (List.mem_of_getElem? (i := 4) rfl)) (by decide) at_21 pd_1 rfl rfl rfl (Nat.le_of_eq rfl) (by decide) (by decide) ?_
  refine own_astore K (pc := 24) (Ls' := #[.val (.int k), .val (.int y), .val (.int (0 : Int32)), .val (.int (3 : Int32)), .val (.ref (A 0)), .val (.ref (A 3))]) at_24 rfl rfl ?_
  refine own_aload K (pc := 26) at_26 rfl rfl ?_
  refine own_aload K (pc := 28) at_28 rfl rfl ?_
  refine own_callV K (pc := 30) (W := 0) (rest := []) (argsL := [(.ref (A 3))]) (u := (.int (0 : Int32))) (cv_0_3 l Z a0 h hw A F) F.1.2.1 (hw _ (List.mem_of_getElem? (i := 10) rfl)) (hw _ (List.mem_of_getElem? (i := 11) rfl)) (hw _ (List.mem_of_getElem? (i := 13) rfl)) (hw _ (List.mem_of_getElem? (i := 12) rfl)) (hw _ (List.mem_of_getElem? (i := 14) rfl)) (hw _ (List.mem_of_getElem? (i := 6) rfl)) (by decide) at_30 pd_2 rfl rfl rfl (Nat.le_of_eq rfl) (by decide) (by decide) ?_
  refine own_iloadN K (pc := 33) at_33 rfl ?_
  refine own_iloadN K (pc := 34) at_34 rfl ?_
  refine own_callS K (pc := 35) (W := 1) (rest := [(.int (0 : Int32))]) (argsL := [(.int (0 : Int32)), (.int (3 : Int32))]) (u := (.int (0 : Int32))) (xp_0_3 l Z a0 h hw) (hw _ (List.mem_of_getElem? (i := 20) rfl)) (hw _ (List.mem_of_getElem? (i := 21) rfl)) (hw _ (List.mem_of_getElem? (i := 3) rfl)) (hw _ (List.mem_of_getElem? (i := 22) rfl)) (by decide) at_35 pd_3 rfl rfl rfl (Nat.le_of_eq rfl) (by decide) (by decide) ?_
  refine own_icmpN K (pc := 38) at_38 (by decide) ?_
  refine own_iconst K (pc := 41) at_41 (x := (1 : Int32)) (by decide) ?_
  refine own_goto K (pc := 42) (pc' := 46) at_42 (by decide) (by decide) ?_
  exact own_retZ K (pc := 46) at_46 (by decide)
set_option maxRecDepth 65536 in
theorem lt_0_4 (p : Program) (l : Launch) (e : Env) (s : State) (m : MethodId) (args : Array Value) (below : List Frame) (meth : Method) (c : Code) (Z : State) (a0 : Array Value) (h : Heap) (hw : ∀ d ∈ tables_1, d.before a0 Z = true) (k y : Int32) (A : Nat → Addr) (F : own_F Z h A) (K : own_C p s m meth c Z code "com/example/row_lock_engine/rowlockengine/engine/LockKindWaitsForPinLaw" .boolean 6) :
    own_E p l e room_1 s m args below meth c h 14 #[.val (.int k), .val (.int y), .val (.int (0 : Int32)), .val (.int (4 : Int32)), .unset, .unset] [] (.int 1) := by
  refine own_iloadN K (pc := 14) at_14 rfl ?_
  refine own_callS K (pc := 15) (W := 0) (rest := []) (argsL := [(.int (0 : Int32))]) (u := (.ref (A 0))) (kd_0 l Z a0 h hw A F) (hw _ (List.mem_of_getElem? (i := 1) rfl)) (hw _ (List.mem_of_getElem? (i := 2) rfl)) (hw _ (List.mem_of_getElem? (i := 3) rfl)) (hw _ (List.mem_of_getElem? (i := 4) rfl)) (by decide) at_15 pd_1 rfl rfl rfl (Nat.le_of_eq rfl) (by decide) (by decide) ?_
  refine own_astore K (pc := 18) (Ls' := #[.val (.int k), .val (.int y), .val (.int (0 : Int32)), .val (.int (4 : Int32)), .val (.ref (A 0)), .unset]) at_18 rfl rfl ?_
  refine own_iloadN K (pc := 20) at_20 rfl ?_
  refine own_callS K (pc := 21) (W := 0) (rest := []) (argsL := [(.int (4 : Int32))]) (u := (.ref (A 4))) (kd_4 l Z a0 h hw A F) (hw _ (List.mem_of_getElem? (i := 1) rfl)) (hw _ (List.mem_of_getElem? (i := 2) rfl)) (hw _ (List.mem_of_getElem? (i := 3) rfl)) (hw _ (List.mem_of_getElem? (i := 4) rfl)) (by decide) at_21 pd_1 rfl rfl rfl (Nat.le_of_eq rfl) (by decide) (by decide) ?_
  refine own_astore K (pc := 24) (Ls' := #[.val (.int k), .val (.int y), .val (.int (0 : Int32)), .val (.int (4 : Int32)), .val (.ref (A 0)), .val (.ref (A 4))]) at_24 rfl rfl ?_
  refine own_aload K (pc := 26) at_26 rfl rfl ?_
  refine own_aload K (pc := 28) at_28 rfl rfl ?_
  refine own_callV K (pc := 30) (W := 0) (rest := []) (argsL := [(.ref (A 4))]) (u := (.int (0 : Int32))) (cv_0_4 l Z a0 h hw A F) F.1.2.1 (hw _ (List.mem_of_getElem? (i := 10) rfl)) (hw _ (List.mem_of_getElem? (i := 11) rfl)) (hw _ (List.mem_of_getElem? (i := 13) rfl)) (hw _ (List.mem_of_getElem? (i := 12) rfl)) (hw _ (List.mem_of_getElem? (i := 14) rfl)) (hw _ (List.mem_of_getElem? (i := 6) rfl)) (by decide) at_30 pd_2 rfl rfl rfl (Nat.le_of_eq rfl) (by decide) (by decide) ?_
  refine own_iloadN K (pc := 33) at_33 rfl ?_
  refine own_iloadN K (pc := 34) at_34 rfl ?_
  refine own_callS K (pc := 35) (W := 1) (rest := [(.int (0 : Int32))]) (argsL := [(.int (0 : Int32)), (.int (4 : Int32))]) (u := (.int (0 : Int32))) (xp_0_4 l Z a0 h hw) (hw _ (List.mem_of_getElem? (i := 20) rfl)) (hw _ (List.mem_of_getElem? (i := 21) rfl)) (hw _ (List.mem_of_getElem? (i := 3) rfl)) (hw _ (List.mem_of_getElem? (i := 22) rfl)) (by decide) at_35 pd_3 rfl rfl rfl (Nat.le_of_eq rfl) (by decide) (by decide) ?_
  refine own_icmpN K (pc := 38) at_38 (by decide) ?_
  refine own_iconst K (pc := 41) at_41 (x := (1 : Int32)) (by decide) ?_
  refine own_goto K (pc := 42) (pc' := 46) at_42 (by decide) (by decide) ?_
  exact own_retZ K (pc := 46) at_46 (by decide)
set_option maxRecDepth 65536 in
theorem lt_1_0 (p : Program) (l : Launch) (e : Env) (s : State) (m : MethodId) (args : Array Value) (below : List Frame) (meth : Method) (c : Code) (Z : State) (a0 : Array Value) (h : Heap) (hw : ∀ d ∈ tables_1, d.before a0 Z = true) (k y : Int32) (A : Nat → Addr) (F : own_F Z h A) (K : own_C p s m meth c Z code "com/example/row_lock_engine/rowlockengine/engine/LockKindWaitsForPinLaw" .boolean 6) :
    own_E p l e room_1 s m args below meth c h 14 #[.val (.int k), .val (.int y), .val (.int (1 : Int32)), .val (.int (0 : Int32)), .unset, .unset] [] (.int 1) := by
  refine own_iloadN K (pc := 14) at_14 rfl ?_
  refine own_callS K (pc := 15) (W := 0) (rest := []) (argsL := [(.int (1 : Int32))]) (u := (.ref (A 1))) (kd_1 l Z a0 h hw A F) (hw _ (List.mem_of_getElem? (i := 1) rfl)) (hw _ (List.mem_of_getElem? (i := 2) rfl)) (hw _ (List.mem_of_getElem? (i := 3) rfl)) (hw _ (List.mem_of_getElem? (i := 4) rfl)) (by decide) at_15 pd_1 rfl rfl rfl (Nat.le_of_eq rfl) (by decide) (by decide) ?_
  refine own_astore K (pc := 18) (Ls' := #[.val (.int k), .val (.int y), .val (.int (1 : Int32)), .val (.int (0 : Int32)), .val (.ref (A 1)), .unset]) at_18 rfl rfl ?_
  refine own_iloadN K (pc := 20) at_20 rfl ?_
  refine own_callS K (pc := 21) (W := 0) (rest := []) (argsL := [(.int (0 : Int32))]) (u := (.ref (A 0))) (kd_0 l Z a0 h hw A F) (hw _ (List.mem_of_getElem? (i := 1) rfl)) (hw _ (List.mem_of_getElem? (i := 2) rfl)) (hw _ (List.mem_of_getElem? (i := 3) rfl)) (hw _ (List.mem_of_getElem? (i := 4) rfl)) (by decide) at_21 pd_1 rfl rfl rfl (Nat.le_of_eq rfl) (by decide) (by decide) ?_
  refine own_astore K (pc := 24) (Ls' := #[.val (.int k), .val (.int y), .val (.int (1 : Int32)), .val (.int (0 : Int32)), .val (.ref (A 1)), .val (.ref (A 0))]) at_24 rfl rfl ?_
  refine own_aload K (pc := 26) at_26 rfl rfl ?_
  refine own_aload K (pc := 28) at_28 rfl rfl ?_
  refine own_callV K (pc := 30) (W := 0) (rest := []) (argsL := [(.ref (A 0))]) (u := (.int (0 : Int32))) (cv_1_0 l Z a0 h hw A F) F.1.2.2.2.1 (hw _ (List.mem_of_getElem? (i := 10) rfl)) (hw _ (List.mem_of_getElem? (i := 11) rfl)) (hw _ (List.mem_of_getElem? (i := 13) rfl)) (hw _ (List.mem_of_getElem? (i := 12) rfl)) (hw _ (List.mem_of_getElem? (i := 14) rfl)) (hw _ (List.mem_of_getElem? (i := 6) rfl)) (by decide) at_30 pd_2 rfl rfl rfl (Nat.le_of_eq rfl) (by decide) (by decide) ?_
  refine own_iloadN K (pc := 33) at_33 rfl ?_
  refine own_iloadN K (pc := 34) at_34 rfl ?_
  refine own_callS K (pc := 35) (W := 1) (rest := [(.int (0 : Int32))]) (argsL := [(.int (1 : Int32)), (.int (0 : Int32))]) (u := (.int (0 : Int32))) (xp_1_0 l Z a0 h hw) (hw _ (List.mem_of_getElem? (i := 20) rfl)) (hw _ (List.mem_of_getElem? (i := 21) rfl)) (hw _ (List.mem_of_getElem? (i := 3) rfl)) (hw _ (List.mem_of_getElem? (i := 22) rfl)) (by decide) at_35 pd_3 rfl rfl rfl (Nat.le_of_eq rfl) (by decide) (by decide) ?_
  refine own_icmpN K (pc := 38) at_38 (by decide) ?_
  refine own_iconst K (pc := 41) at_41 (x := (1 : Int32)) (by decide) ?_
  refine own_goto K (pc := 42) (pc' := 46) at_42 (by decide) (by decide) ?_
  exact own_retZ K (pc := 46) at_46 (by decide)
set_option maxRecDepth 65536 in
theorem lt_1_1 (p : Program) (l : Launch) (e : Env) (s : State) (m : MethodId) (args : Array Value) (below : List Frame) (meth : Method) (c : Code) (Z : State) (a0 : Array Value) (h : Heap) (hw : ∀ d ∈ tables_1, d.before a0 Z = true) (k y : Int32) (A : Nat → Addr) (F : own_F Z h A) (K : own_C p s m meth c Z code "com/example/row_lock_engine/rowlockengine/engine/LockKindWaitsForPinLaw" .boolean 6) :
    own_E p l e room_1 s m args below meth c h 14 #[.val (.int k), .val (.int y), .val (.int (1 : Int32)), .val (.int (1 : Int32)), .unset, .unset] [] (.int 1) := by
  refine own_iloadN K (pc := 14) at_14 rfl ?_
  refine own_callS K (pc := 15) (W := 0) (rest := []) (argsL := [(.int (1 : Int32))]) (u := (.ref (A 1))) (kd_1 l Z a0 h hw A F) (hw _ (List.mem_of_getElem? (i := 1) rfl)) (hw _ (List.mem_of_getElem? (i := 2) rfl)) (hw _ (List.mem_of_getElem? (i := 3) rfl)) (hw _ (List.mem_of_getElem? (i := 4) rfl)) (by decide) at_15 pd_1 rfl rfl rfl (Nat.le_of_eq rfl) (by decide) (by decide) ?_
  refine own_astore K (pc := 18) (Ls' := #[.val (.int k), .val (.int y), .val (.int (1 : Int32)), .val (.int (1 : Int32)), .val (.ref (A 1)), .unset]) at_18 rfl rfl ?_
  refine own_iloadN K (pc := 20) at_20 rfl ?_
  refine own_callS K (pc := 21) (W := 0) (rest := []) (argsL := [(.int (1 : Int32))]) (u := (.ref (A 1))) (kd_1 l Z a0 h hw A F) (hw _ (List.mem_of_getElem? (i := 1) rfl)) (hw _ (List.mem_of_getElem? (i := 2) rfl)) (hw _ (List.mem_of_getElem? (i := 3) rfl)) (hw _ (List.mem_of_getElem? (i := 4) rfl)) (by decide) at_21 pd_1 rfl rfl rfl (Nat.le_of_eq rfl) (by decide) (by decide) ?_
  refine own_astore K (pc := 24) (Ls' := #[.val (.int k), .val (.int y), .val (.int (1 : Int32)), .val (.int (1 : Int32)), .val (.ref (A 1)), .val (.ref (A 1))]) at_24 rfl rfl ?_
  refine own_aload K (pc := 26) at_26 rfl rfl ?_
  refine own_aload K (pc := 28) at_28 rfl rfl ?_
  refine own_callV K (pc := 30) (W := 0) (rest := []) (argsL := [(.ref (A 1))]) (u := (.int (0 : Int32))) (cv_1_1 l Z a0 h hw A F) F.1.2.2.2.1 (hw _ (List.mem_of_getElem? (i := 10) rfl)) (hw _ (List.mem_of_getElem? (i := 11) rfl)) (hw _ (List.mem_of_getElem? (i := 13) rfl)) (hw _ (List.mem_of_getElem? (i := 12) rfl)) (hw _ (List.mem_of_getElem? (i := 14) rfl)) (hw _ (List.mem_of_getElem? (i := 6) rfl)) (by decide) at_30 pd_2 rfl rfl rfl (Nat.le_of_eq rfl) (by decide) (by decide) ?_
  refine own_iloadN K (pc := 33) at_33 rfl ?_
  refine own_iloadN K (pc := 34) at_34 rfl ?_
  refine own_callS K (pc := 35) (W := 1) (rest := [(.int (0 : Int32))]) (argsL := [(.int (1 : Int32)), (.int (1 : Int32))]) (u := (.int (0 : Int32))) (xp_1_1 l Z a0 h hw) (hw _ (List.mem_of_getElem? (i := 20) rfl)) (hw _ (List.mem_of_getElem? (i := 21) rfl)) (hw _ (List.mem_of_getElem? (i := 3) rfl)) (hw _ (List.mem_of_getElem? (i := 22) rfl)) (by decide) at_35 pd_3 rfl rfl rfl (Nat.le_of_eq rfl) (by decide) (by decide) ?_
  refine own_icmpN K (pc := 38) at_38 (by decide) ?_
  refine own_iconst K (pc := 41) at_41 (x := (1 : Int32)) (by decide) ?_
  refine own_goto K (pc := 42) (pc' := 46) at_42 (by decide) (by decide) ?_
  exact own_retZ K (pc := 46) at_46 (by decide)
set_option maxRecDepth 65536 in
theorem lt_1_2 (p : Program) (l : Launch) (e : Env) (s : State) (m : MethodId) (args : Array Value) (below : List Frame) (meth : Method) (c : Code) (Z : State) (a0 : Array Value) (h : Heap) (hw : ∀ d ∈ tables_1, d.before a0 Z = true) (k y : Int32) (A : Nat → Addr) (F : own_F Z h A) (K : own_C p s m meth c Z code "com/example/row_lock_engine/rowlockengine/engine/LockKindWaitsForPinLaw" .boolean 6) :
    own_E p l e room_1 s m args below meth c h 14 #[.val (.int k), .val (.int y), .val (.int (1 : Int32)), .val (.int (2 : Int32)), .unset, .unset] [] (.int 1) := by
  refine own_iloadN K (pc := 14) at_14 rfl ?_
  refine own_callS K (pc := 15) (W := 0) (rest := []) (argsL := [(.int (1 : Int32))]) (u := (.ref (A 1))) (kd_1 l Z a0 h hw A F) (hw _ (List.mem_of_getElem? (i := 1) rfl)) (hw _ (List.mem_of_getElem? (i := 2) rfl)) (hw _ (List.mem_of_getElem? (i := 3) rfl)) (hw _ (List.mem_of_getElem? (i := 4) rfl)) (by decide) at_15 pd_1 rfl rfl rfl (Nat.le_of_eq rfl) (by decide) (by decide) ?_
  refine own_astore K (pc := 18) (Ls' := #[.val (.int k), .val (.int y), .val (.int (1 : Int32)), .val (.int (2 : Int32)), .val (.ref (A 1)), .unset]) at_18 rfl rfl ?_
  refine own_iloadN K (pc := 20) at_20 rfl ?_
  refine own_callS K (pc := 21) (W := 0) (rest := []) (argsL := [(.int (2 : Int32))]) (u := (.ref (A 2))) (kd_2 l Z a0 h hw A F) (hw _ (List.mem_of_getElem? (i := 1) rfl)) (hw _ (List.mem_of_getElem? (i := 2) rfl)) (hw _ (List.mem_of_getElem? (i := 3) rfl)) (hw _ (List.mem_of_getElem? (i := 4) rfl)) (by decide) at_21 pd_1 rfl rfl rfl (Nat.le_of_eq rfl) (by decide) (by decide) ?_
  refine own_astore K (pc := 24) (Ls' := #[.val (.int k), .val (.int y), .val (.int (1 : Int32)), .val (.int (2 : Int32)), .val (.ref (A 1)), .val (.ref (A 2))]) at_24 rfl rfl ?_
  refine own_aload K (pc := 26) at_26 rfl rfl ?_
  refine own_aload K (pc := 28) at_28 rfl rfl ?_
  refine own_callV K (pc := 30) (W := 0) (rest := []) (argsL := [(.ref (A 2))]) (u := (.int (0 : Int32))) (cv_1_2 l Z a0 h hw A F) F.1.2.2.2.1 (hw _ (List.mem_of_getElem? (i := 10) rfl)) (hw _ (List.mem_of_getElem? (i := 11) rfl)) (hw _ (List.mem_of_getElem? (i := 13) rfl)) (hw _ (List.mem_of_getElem? (i := 12) rfl)) (hw _ (List.mem_of_getElem? (i := 14) rfl)) (hw _ (List.mem_of_getElem? (i := 6) rfl)) (by decide) at_30 pd_2 rfl rfl rfl (Nat.le_of_eq rfl) (by decide) (by decide) ?_
  refine own_iloadN K (pc := 33) at_33 rfl ?_
  refine own_iloadN K (pc := 34) at_34 rfl ?_
  refine own_callS K (pc := 35) (W := 1) (rest := [(.int (0 : Int32))]) (argsL := [(.int (1 : Int32)), (.int (2 : Int32))]) (u := (.int (0 : Int32))) (xp_1_2 l Z a0 h hw) (hw _ (List.mem_of_getElem? (i := 20) rfl)) (hw _ (List.mem_of_getElem? (i := 21) rfl)) (hw _ (List.mem_of_getElem? (i := 3) rfl)) (hw _ (List.mem_of_getElem? (i := 22) rfl)) (by decide) at_35 pd_3 rfl rfl rfl (Nat.le_of_eq rfl) (by decide) (by decide) ?_
  refine own_icmpN K (pc := 38) at_38 (by decide) ?_
  refine own_iconst K (pc := 41) at_41 (x := (1 : Int32)) (by decide) ?_
  refine own_goto K (pc := 42) (pc' := 46) at_42 (by decide) (by decide) ?_
  exact own_retZ K (pc := 46) at_46 (by decide)
set_option maxRecDepth 65536 in
theorem lt_1_3 (p : Program) (l : Launch) (e : Env) (s : State) (m : MethodId) (args : Array Value) (below : List Frame) (meth : Method) (c : Code) (Z : State) (a0 : Array Value) (h : Heap) (hw : ∀ d ∈ tables_1, d.before a0 Z = true) (k y : Int32) (A : Nat → Addr) (F : own_F Z h A) (K : own_C p s m meth c Z code "com/example/row_lock_engine/rowlockengine/engine/LockKindWaitsForPinLaw" .boolean 6) :
    own_E p l e room_1 s m args below meth c h 14 #[.val (.int k), .val (.int y), .val (.int (1 : Int32)), .val (.int (3 : Int32)), .unset, .unset] [] (.int 1) := by
  refine own_iloadN K (pc := 14) at_14 rfl ?_
  refine own_callS K (pc := 15) (W := 0) (rest := []) (argsL := [(.int (1 : Int32))]) (u := (.ref (A 1))) (kd_1 l Z a0 h hw A F) (hw _ (List.mem_of_getElem? (i := 1) rfl)) (hw _ (List.mem_of_getElem? (i := 2) rfl)) (hw _ (List.mem_of_getElem? (i := 3) rfl)) (hw _ (List.mem_of_getElem? (i := 4) rfl)) (by decide) at_15 pd_1 rfl rfl rfl (Nat.le_of_eq rfl) (by decide) (by decide) ?_
  refine own_astore K (pc := 18) (Ls' := #[.val (.int k), .val (.int y), .val (.int (1 : Int32)), .val (.int (3 : Int32)), .val (.ref (A 1)), .unset]) at_18 rfl rfl ?_
  refine own_iloadN K (pc := 20) at_20 rfl ?_
  refine own_callS K (pc := 21) (W := 0) (rest := []) (argsL := [(.int (3 : Int32))]) (u := (.ref (A 3))) (kd_3 l Z a0 h hw A F) (hw _ (List.mem_of_getElem? (i := 1) rfl)) (hw _ (List.mem_of_getElem? (i := 2) rfl)) (hw _ (List.mem_of_getElem? (i := 3) rfl)) (hw _ (List.mem_of_getElem? (i := 4) rfl)) (by decide) at_21 pd_1 rfl rfl rfl (Nat.le_of_eq rfl) (by decide) (by decide) ?_
  refine own_astore K (pc := 24) (Ls' := #[.val (.int k), .val (.int y), .val (.int (1 : Int32)), .val (.int (3 : Int32)), .val (.ref (A 1)), .val (.ref (A 3))]) at_24 rfl rfl ?_
  refine own_aload K (pc := 26) at_26 rfl rfl ?_
  refine own_aload K (pc := 28) at_28 rfl rfl ?_
  refine own_callV K (pc := 30) (W := 0) (rest := []) (argsL := [(.ref (A 3))]) (u := (.int (0 : Int32))) (cv_1_3 l Z a0 h hw A F) F.1.2.2.2.1 (hw _ (List.mem_of_getElem? (i := 10) rfl)) (hw _ (List.mem_of_getElem? (i := 11) rfl)) (hw _ (List.mem_of_getElem? (i := 13) rfl)) (hw _ (List.mem_of_getElem? (i := 12) rfl)) (hw _ (List.mem_of_getElem? (i := 14) rfl)) (hw _ (List.mem_of_getElem? (i := 6) rfl)) (by decide) at_30 pd_2 rfl rfl rfl (Nat.le_of_eq rfl) (by decide) (by decide) ?_
  refine own_iloadN K (pc := 33) at_33 rfl ?_
  refine own_iloadN K (pc := 34) at_34 rfl ?_
  refine own_callS K (pc := 35) (W := 1) (rest := [(.int (0 : Int32))]) (argsL := [(.int (1 : Int32)), (.int (3 : Int32))]) (u := (.int (0 : Int32))) (xp_1_3 l Z a0 h hw) (hw _ (List.mem_of_getElem? (i := 20) rfl)) (hw _ (List.mem_of_getElem? (i := 21) rfl)) (hw _ (List.mem_of_getElem? (i := 3) rfl)) (hw _ (List.mem_of_getElem? (i := 22) rfl)) (by decide) at_35 pd_3 rfl rfl rfl (Nat.le_of_eq rfl) (by decide) (by decide) ?_
  refine own_icmpN K (pc := 38) at_38 (by decide) ?_
  refine own_iconst K (pc := 41) at_41 (x := (1 : Int32)) (by decide) ?_
  refine own_goto K (pc := 42) (pc' := 46) at_42 (by decide) (by decide) ?_
  exact own_retZ K (pc := 46) at_46 (by decide)
set_option maxRecDepth 65536 in
theorem lt_1_4 (p : Program) (l : Launch) (e : Env) (s : State) (m : MethodId) (args : Array Value) (below : List Frame) (meth : Method) (c : Code) (Z : State) (a0 : Array Value) (h : Heap) (hw : ∀ d ∈ tables_1, d.before a0 Z = true) (k y : Int32) (A : Nat → Addr) (F : own_F Z h A) (K : own_C p s m meth c Z code "com/example/row_lock_engine/rowlockengine/engine/LockKindWaitsForPinLaw" .boolean 6) :
    own_E p l e room_1 s m args below meth c h 14 #[.val (.int k), .val (.int y), .val (.int (1 : Int32)), .val (.int (4 : Int32)), .unset, .unset] [] (.int 1) := by
  refine own_iloadN K (pc := 14) at_14 rfl ?_
  refine own_callS K (pc := 15) (W := 0) (rest := []) (argsL := [(.int (1 : Int32))]) (u := (.ref (A 1))) (kd_1 l Z a0 h hw A F) (hw _ (List.mem_of_getElem? (i := 1) rfl)) (hw _ (List.mem_of_getElem? (i := 2) rfl)) (hw _ (List.mem_of_getElem? (i := 3) rfl)) (hw _ (List.mem_of_getElem? (i := 4) rfl)) (by decide) at_15 pd_1 rfl rfl rfl (Nat.le_of_eq rfl) (by decide) (by decide) ?_
  refine own_astore K (pc := 18) (Ls' := #[.val (.int k), .val (.int y), .val (.int (1 : Int32)), .val (.int (4 : Int32)), .val (.ref (A 1)), .unset]) at_18 rfl rfl ?_
  refine own_iloadN K (pc := 20) at_20 rfl ?_
  refine own_callS K (pc := 21) (W := 0) (rest := []) (argsL := [(.int (4 : Int32))]) (u := (.ref (A 4))) (kd_4 l Z a0 h hw A F) (hw _ (List.mem_of_getElem? (i := 1) rfl)) (hw _ (List.mem_of_getElem? (i := 2) rfl)) (hw _ (List.mem_of_getElem? (i := 3) rfl)) (hw _ (List.mem_of_getElem? (i := 4) rfl)) (by decide) at_21 pd_1 rfl rfl rfl (Nat.le_of_eq rfl) (by decide) (by decide) ?_
  refine own_astore K (pc := 24) (Ls' := #[.val (.int k), .val (.int y), .val (.int (1 : Int32)), .val (.int (4 : Int32)), .val (.ref (A 1)), .val (.ref (A 4))]) at_24 rfl rfl ?_
  refine own_aload K (pc := 26) at_26 rfl rfl ?_
  refine own_aload K (pc := 28) at_28 rfl rfl ?_
  refine own_callV K (pc := 30) (W := 0) (rest := []) (argsL := [(.ref (A 4))]) (u := (.int (0 : Int32))) (cv_1_4 l Z a0 h hw A F) F.1.2.2.2.1 (hw _ (List.mem_of_getElem? (i := 10) rfl)) (hw _ (List.mem_of_getElem? (i := 11) rfl)) (hw _ (List.mem_of_getElem? (i := 13) rfl)) (hw _ (List.mem_of_getElem? (i := 12) rfl)) (hw _ (List.mem_of_getElem? (i := 14) rfl)) (hw _ (List.mem_of_getElem? (i := 6) rfl)) (by decide) at_30 pd_2 rfl rfl rfl (Nat.le_of_eq rfl) (by decide) (by decide) ?_
  refine own_iloadN K (pc := 33) at_33 rfl ?_
  refine own_iloadN K (pc := 34) at_34 rfl ?_
  refine own_callS K (pc := 35) (W := 1) (rest := [(.int (0 : Int32))]) (argsL := [(.int (1 : Int32)), (.int (4 : Int32))]) (u := (.int (0 : Int32))) (xp_1_4 l Z a0 h hw) (hw _ (List.mem_of_getElem? (i := 20) rfl)) (hw _ (List.mem_of_getElem? (i := 21) rfl)) (hw _ (List.mem_of_getElem? (i := 3) rfl)) (hw _ (List.mem_of_getElem? (i := 22) rfl)) (by decide) at_35 pd_3 rfl rfl rfl (Nat.le_of_eq rfl) (by decide) (by decide) ?_
  refine own_icmpN K (pc := 38) at_38 (by decide) ?_
  refine own_iconst K (pc := 41) at_41 (x := (1 : Int32)) (by decide) ?_
  refine own_goto K (pc := 42) (pc' := 46) at_42 (by decide) (by decide) ?_
  exact own_retZ K (pc := 46) at_46 (by decide)
set_option maxRecDepth 65536 in
theorem lt_2_0 (p : Program) (l : Launch) (e : Env) (s : State) (m : MethodId) (args : Array Value) (below : List Frame) (meth : Method) (c : Code) (Z : State) (a0 : Array Value) (h : Heap) (hw : ∀ d ∈ tables_1, d.before a0 Z = true) (k y : Int32) (A : Nat → Addr) (F : own_F Z h A) (K : own_C p s m meth c Z code "com/example/row_lock_engine/rowlockengine/engine/LockKindWaitsForPinLaw" .boolean 6) :
    own_E p l e room_1 s m args below meth c h 14 #[.val (.int k), .val (.int y), .val (.int (2 : Int32)), .val (.int (0 : Int32)), .unset, .unset] [] (.int 1) := by
  refine own_iloadN K (pc := 14) at_14 rfl ?_
  refine own_callS K (pc := 15) (W := 0) (rest := []) (argsL := [(.int (2 : Int32))]) (u := (.ref (A 2))) (kd_2 l Z a0 h hw A F) (hw _ (List.mem_of_getElem? (i := 1) rfl)) (hw _ (List.mem_of_getElem? (i := 2) rfl)) (hw _ (List.mem_of_getElem? (i := 3) rfl)) (hw _ (List.mem_of_getElem? (i := 4) rfl)) (by decide) at_15 pd_1 rfl rfl rfl (Nat.le_of_eq rfl) (by decide) (by decide) ?_
  refine own_astore K (pc := 18) (Ls' := #[.val (.int k), .val (.int y), .val (.int (2 : Int32)), .val (.int (0 : Int32)), .val (.ref (A 2)), .unset]) at_18 rfl rfl ?_
  refine own_iloadN K (pc := 20) at_20 rfl ?_
  refine own_callS K (pc := 21) (W := 0) (rest := []) (argsL := [(.int (0 : Int32))]) (u := (.ref (A 0))) (kd_0 l Z a0 h hw A F) (hw _ (List.mem_of_getElem? (i := 1) rfl)) (hw _ (List.mem_of_getElem? (i := 2) rfl)) (hw _ (List.mem_of_getElem? (i := 3) rfl)) (hw _ (List.mem_of_getElem? (i := 4) rfl)) (by decide) at_21 pd_1 rfl rfl rfl (Nat.le_of_eq rfl) (by decide) (by decide) ?_
  refine own_astore K (pc := 24) (Ls' := #[.val (.int k), .val (.int y), .val (.int (2 : Int32)), .val (.int (0 : Int32)), .val (.ref (A 2)), .val (.ref (A 0))]) at_24 rfl rfl ?_
  refine own_aload K (pc := 26) at_26 rfl rfl ?_
  refine own_aload K (pc := 28) at_28 rfl rfl ?_
  refine own_callV K (pc := 30) (W := 0) (rest := []) (argsL := [(.ref (A 0))]) (u := (.int (1 : Int32))) (cv_2_0 l Z a0 h hw A F) F.1.2.2.2.2.2.1 (hw _ (List.mem_of_getElem? (i := 10) rfl)) (hw _ (List.mem_of_getElem? (i := 11) rfl)) (hw _ (List.mem_of_getElem? (i := 13) rfl)) (hw _ (List.mem_of_getElem? (i := 12) rfl)) (hw _ (List.mem_of_getElem? (i := 14) rfl)) (hw _ (List.mem_of_getElem? (i := 6) rfl)) (by decide) at_30 pd_2 rfl rfl rfl (Nat.le_of_eq rfl) (by decide) (by decide) ?_
  refine own_iloadN K (pc := 33) at_33 rfl ?_
  refine own_iloadN K (pc := 34) at_34 rfl ?_
  refine own_callS K (pc := 35) (W := 1) (rest := [(.int (1 : Int32))]) (argsL := [(.int (2 : Int32)), (.int (0 : Int32))]) (u := (.int (1 : Int32))) (xp_2_0 l Z a0 h hw) (hw _ (List.mem_of_getElem? (i := 20) rfl)) (hw _ (List.mem_of_getElem? (i := 21) rfl)) (hw _ (List.mem_of_getElem? (i := 3) rfl)) (hw _ (List.mem_of_getElem? (i := 22) rfl)) (by decide) at_35 pd_3 rfl rfl rfl (Nat.le_of_eq rfl) (by decide) (by decide) ?_
  refine own_icmpN K (pc := 38) at_38 (by decide) ?_
  refine own_iconst K (pc := 41) at_41 (x := (1 : Int32)) (by decide) ?_
  refine own_goto K (pc := 42) (pc' := 46) at_42 (by decide) (by decide) ?_
  exact own_retZ K (pc := 46) at_46 (by decide)
set_option maxRecDepth 65536 in
theorem lt_2_1 (p : Program) (l : Launch) (e : Env) (s : State) (m : MethodId) (args : Array Value) (below : List Frame) (meth : Method) (c : Code) (Z : State) (a0 : Array Value) (h : Heap) (hw : ∀ d ∈ tables_1, d.before a0 Z = true) (k y : Int32) (A : Nat → Addr) (F : own_F Z h A) (K : own_C p s m meth c Z code "com/example/row_lock_engine/rowlockengine/engine/LockKindWaitsForPinLaw" .boolean 6) :
    own_E p l e room_1 s m args below meth c h 14 #[.val (.int k), .val (.int y), .val (.int (2 : Int32)), .val (.int (1 : Int32)), .unset, .unset] [] (.int 1) := by
  refine own_iloadN K (pc := 14) at_14 rfl ?_
  refine own_callS K (pc := 15) (W := 0) (rest := []) (argsL := [(.int (2 : Int32))]) (u := (.ref (A 2))) (kd_2 l Z a0 h hw A F) (hw _ (List.mem_of_getElem? (i := 1) rfl)) (hw _ (List.mem_of_getElem? (i := 2) rfl)) (hw _ (List.mem_of_getElem? (i := 3) rfl)) (hw _ (List.mem_of_getElem? (i := 4) rfl)) (by decide) at_15 pd_1 rfl rfl rfl (Nat.le_of_eq rfl) (by decide) (by decide) ?_
  refine own_astore K (pc := 18) (Ls' := #[.val (.int k), .val (.int y), .val (.int (2 : Int32)), .val (.int (1 : Int32)), .val (.ref (A 2)), .unset]) at_18 rfl rfl ?_
  refine own_iloadN K (pc := 20) at_20 rfl ?_
  refine own_callS K (pc := 21) (W := 0) (rest := []) (argsL := [(.int (1 : Int32))]) (u := (.ref (A 1))) (kd_1 l Z a0 h hw A F) (hw _ (List.mem_of_getElem? (i := 1) rfl)) (hw _ (List.mem_of_getElem? (i := 2) rfl)) (hw _ (List.mem_of_getElem? (i := 3) rfl)) (hw _ (List.mem_of_getElem? (i := 4) rfl)) (by decide) at_21 pd_1 rfl rfl rfl (Nat.le_of_eq rfl) (by decide) (by decide) ?_
  refine own_astore K (pc := 24) (Ls' := #[.val (.int k), .val (.int y), .val (.int (2 : Int32)), .val (.int (1 : Int32)), .val (.ref (A 2)), .val (.ref (A 1))]) at_24 rfl rfl ?_
  refine own_aload K (pc := 26) at_26 rfl rfl ?_
  refine own_aload K (pc := 28) at_28 rfl rfl ?_
  refine own_callV K (pc := 30) (W := 0) (rest := []) (argsL := [(.ref (A 1))]) (u := (.int (0 : Int32))) (cv_2_1 l Z a0 h hw A F) F.1.2.2.2.2.2.1 (hw _ (List.mem_of_getElem? (i := 10) rfl)) (hw _ (List.mem_of_getElem? (i := 11) rfl)) (hw _ (List.mem_of_getElem? (i := 13) rfl)) (hw _ (List.mem_of_getElem? (i := 12) rfl)) (hw _ (List.mem_of_getElem? (i := 14) rfl)) (hw _ (List.mem_of_getElem? (i := 6) rfl)) (by decide) at_30 pd_2 rfl rfl rfl (Nat.le_of_eq rfl) (by decide) (by decide) ?_
  refine own_iloadN K (pc := 33) at_33 rfl ?_
  refine own_iloadN K (pc := 34) at_34 rfl ?_
  refine own_callS K (pc := 35) (W := 1) (rest := [(.int (0 : Int32))]) (argsL := [(.int (2 : Int32)), (.int (1 : Int32))]) (u := (.int (0 : Int32))) (xp_2_1 l Z a0 h hw) (hw _ (List.mem_of_getElem? (i := 20) rfl)) (hw _ (List.mem_of_getElem? (i := 21) rfl)) (hw _ (List.mem_of_getElem? (i := 3) rfl)) (hw _ (List.mem_of_getElem? (i := 22) rfl)) (by decide) at_35 pd_3 rfl rfl rfl (Nat.le_of_eq rfl) (by decide) (by decide) ?_
  refine own_icmpN K (pc := 38) at_38 (by decide) ?_
  refine own_iconst K (pc := 41) at_41 (x := (1 : Int32)) (by decide) ?_
  refine own_goto K (pc := 42) (pc' := 46) at_42 (by decide) (by decide) ?_
  exact own_retZ K (pc := 46) at_46 (by decide)
set_option maxRecDepth 65536 in
theorem lt_2_2 (p : Program) (l : Launch) (e : Env) (s : State) (m : MethodId) (args : Array Value) (below : List Frame) (meth : Method) (c : Code) (Z : State) (a0 : Array Value) (h : Heap) (hw : ∀ d ∈ tables_1, d.before a0 Z = true) (k y : Int32) (A : Nat → Addr) (F : own_F Z h A) (K : own_C p s m meth c Z code "com/example/row_lock_engine/rowlockengine/engine/LockKindWaitsForPinLaw" .boolean 6) :
    own_E p l e room_1 s m args below meth c h 14 #[.val (.int k), .val (.int y), .val (.int (2 : Int32)), .val (.int (2 : Int32)), .unset, .unset] [] (.int 1) := by
  refine own_iloadN K (pc := 14) at_14 rfl ?_
  refine own_callS K (pc := 15) (W := 0) (rest := []) (argsL := [(.int (2 : Int32))]) (u := (.ref (A 2))) (kd_2 l Z a0 h hw A F) (hw _ (List.mem_of_getElem? (i := 1) rfl)) (hw _ (List.mem_of_getElem? (i := 2) rfl)) (hw _ (List.mem_of_getElem? (i := 3) rfl)) (hw _ (List.mem_of_getElem? (i := 4) rfl)) (by decide) at_15 pd_1 rfl rfl rfl (Nat.le_of_eq rfl) (by decide) (by decide) ?_
  refine own_astore K (pc := 18) (Ls' := #[.val (.int k), .val (.int y), .val (.int (2 : Int32)), .val (.int (2 : Int32)), .val (.ref (A 2)), .unset]) at_18 rfl rfl ?_
  refine own_iloadN K (pc := 20) at_20 rfl ?_
  refine own_callS K (pc := 21) (W := 0) (rest := []) (argsL := [(.int (2 : Int32))]) (u := (.ref (A 2))) (kd_2 l Z a0 h hw A F) (hw _ (List.mem_of_getElem? (i := 1) rfl)) (hw _ (List.mem_of_getElem? (i := 2) rfl)) (hw _ (List.mem_of_getElem? (i := 3) rfl)) (hw _ (List.mem_of_getElem? (i := 4) rfl)) (by decide) at_21 pd_1 rfl rfl rfl (Nat.le_of_eq rfl) (by decide) (by decide) ?_
  refine own_astore K (pc := 24) (Ls' := #[.val (.int k), .val (.int y), .val (.int (2 : Int32)), .val (.int (2 : Int32)), .val (.ref (A 2)), .val (.ref (A 2))]) at_24 rfl rfl ?_
  refine own_aload K (pc := 26) at_26 rfl rfl ?_
  refine own_aload K (pc := 28) at_28 rfl rfl ?_
  refine own_callV K (pc := 30) (W := 0) (rest := []) (argsL := [(.ref (A 2))]) (u := (.int (1 : Int32))) (cv_2_2 l Z a0 h hw A F) F.1.2.2.2.2.2.1 (hw _ (List.mem_of_getElem? (i := 10) rfl)) (hw _ (List.mem_of_getElem? (i := 11) rfl)) (hw _ (List.mem_of_getElem? (i := 13) rfl)) (hw _ (List.mem_of_getElem? (i := 12) rfl)) (hw _ (List.mem_of_getElem? (i := 14) rfl)) (hw _ (List.mem_of_getElem? (i := 6) rfl)) (by decide) at_30 pd_2 rfl rfl rfl (Nat.le_of_eq rfl) (by decide) (by decide) ?_
  refine own_iloadN K (pc := 33) at_33 rfl ?_
  refine own_iloadN K (pc := 34) at_34 rfl ?_
  refine own_callS K (pc := 35) (W := 1) (rest := [(.int (1 : Int32))]) (argsL := [(.int (2 : Int32)), (.int (2 : Int32))]) (u := (.int (1 : Int32))) (xp_2_2 l Z a0 h hw) (hw _ (List.mem_of_getElem? (i := 20) rfl)) (hw _ (List.mem_of_getElem? (i := 21) rfl)) (hw _ (List.mem_of_getElem? (i := 3) rfl)) (hw _ (List.mem_of_getElem? (i := 22) rfl)) (by decide) at_35 pd_3 rfl rfl rfl (Nat.le_of_eq rfl) (by decide) (by decide) ?_
  refine own_icmpN K (pc := 38) at_38 (by decide) ?_
  refine own_iconst K (pc := 41) at_41 (x := (1 : Int32)) (by decide) ?_
  refine own_goto K (pc := 42) (pc' := 46) at_42 (by decide) (by decide) ?_
  exact own_retZ K (pc := 46) at_46 (by decide)
set_option maxRecDepth 65536 in
theorem lt_2_3 (p : Program) (l : Launch) (e : Env) (s : State) (m : MethodId) (args : Array Value) (below : List Frame) (meth : Method) (c : Code) (Z : State) (a0 : Array Value) (h : Heap) (hw : ∀ d ∈ tables_1, d.before a0 Z = true) (k y : Int32) (A : Nat → Addr) (F : own_F Z h A) (K : own_C p s m meth c Z code "com/example/row_lock_engine/rowlockengine/engine/LockKindWaitsForPinLaw" .boolean 6) :
    own_E p l e room_1 s m args below meth c h 14 #[.val (.int k), .val (.int y), .val (.int (2 : Int32)), .val (.int (3 : Int32)), .unset, .unset] [] (.int 1) := by
  refine own_iloadN K (pc := 14) at_14 rfl ?_
  refine own_callS K (pc := 15) (W := 0) (rest := []) (argsL := [(.int (2 : Int32))]) (u := (.ref (A 2))) (kd_2 l Z a0 h hw A F) (hw _ (List.mem_of_getElem? (i := 1) rfl)) (hw _ (List.mem_of_getElem? (i := 2) rfl)) (hw _ (List.mem_of_getElem? (i := 3) rfl)) (hw _ (List.mem_of_getElem? (i := 4) rfl)) (by decide) at_15 pd_1 rfl rfl rfl (Nat.le_of_eq rfl) (by decide) (by decide) ?_
  refine own_astore K (pc := 18) (Ls' := #[.val (.int k), .val (.int y), .val (.int (2 : Int32)), .val (.int (3 : Int32)), .val (.ref (A 2)), .unset]) at_18 rfl rfl ?_
  refine own_iloadN K (pc := 20) at_20 rfl ?_
  refine own_callS K (pc := 21) (W := 0) (rest := []) (argsL := [(.int (3 : Int32))]) (u := (.ref (A 3))) (kd_3 l Z a0 h hw A F) (hw _ (List.mem_of_getElem? (i := 1) rfl)) (hw _ (List.mem_of_getElem? (i := 2) rfl)) (hw _ (List.mem_of_getElem? (i := 3) rfl)) (hw _ (List.mem_of_getElem? (i := 4) rfl)) (by decide) at_21 pd_1 rfl rfl rfl (Nat.le_of_eq rfl) (by decide) (by decide) ?_
  refine own_astore K (pc := 24) (Ls' := #[.val (.int k), .val (.int y), .val (.int (2 : Int32)), .val (.int (3 : Int32)), .val (.ref (A 2)), .val (.ref (A 3))]) at_24 rfl rfl ?_
  refine own_aload K (pc := 26) at_26 rfl rfl ?_
  refine own_aload K (pc := 28) at_28 rfl rfl ?_
  refine own_callV K (pc := 30) (W := 0) (rest := []) (argsL := [(.ref (A 3))]) (u := (.int (0 : Int32))) (cv_2_3 l Z a0 h hw A F) F.1.2.2.2.2.2.1 (hw _ (List.mem_of_getElem? (i := 10) rfl)) (hw _ (List.mem_of_getElem? (i := 11) rfl)) (hw _ (List.mem_of_getElem? (i := 13) rfl)) (hw _ (List.mem_of_getElem? (i := 12) rfl)) (hw _ (List.mem_of_getElem? (i := 14) rfl)) (hw _ (List.mem_of_getElem? (i := 6) rfl)) (by decide) at_30 pd_2 rfl rfl rfl (Nat.le_of_eq rfl) (by decide) (by decide) ?_
  refine own_iloadN K (pc := 33) at_33 rfl ?_
  refine own_iloadN K (pc := 34) at_34 rfl ?_
  refine own_callS K (pc := 35) (W := 1) (rest := [(.int (0 : Int32))]) (argsL := [(.int (2 : Int32)), (.int (3 : Int32))]) (u := (.int (0 : Int32))) (xp_2_3 l Z a0 h hw) (hw _ (List.mem_of_getElem? (i := 20) rfl)) (hw _ (List.mem_of_getElem? (i := 21) rfl)) (hw _ (List.mem_of_getElem? (i := 3) rfl)) (hw _ (List.mem_of_getElem? (i := 22) rfl)) (by decide) at_35 pd_3 rfl rfl rfl (Nat.le_of_eq rfl) (by decide) (by decide) ?_
  refine own_icmpN K (pc := 38) at_38 (by decide) ?_
  refine own_iconst K (pc := 41) at_41 (x := (1 : Int32)) (by decide) ?_
  refine own_goto K (pc := 42) (pc' := 46) at_42 (by decide) (by decide) ?_
  exact own_retZ K (pc := 46) at_46 (by decide)
set_option maxRecDepth 65536 in
theorem lt_2_4 (p : Program) (l : Launch) (e : Env) (s : State) (m : MethodId) (args : Array Value) (below : List Frame) (meth : Method) (c : Code) (Z : State) (a0 : Array Value) (h : Heap) (hw : ∀ d ∈ tables_1, d.before a0 Z = true) (k y : Int32) (A : Nat → Addr) (F : own_F Z h A) (K : own_C p s m meth c Z code "com/example/row_lock_engine/rowlockengine/engine/LockKindWaitsForPinLaw" .boolean 6) :
    own_E p l e room_1 s m args below meth c h 14 #[.val (.int k), .val (.int y), .val (.int (2 : Int32)), .val (.int (4 : Int32)), .unset, .unset] [] (.int 1) := by
  refine own_iloadN K (pc := 14) at_14 rfl ?_
  refine own_callS K (pc := 15) (W := 0) (rest := []) (argsL := [(.int (2 : Int32))]) (u := (.ref (A 2))) (kd_2 l Z a0 h hw A F) (hw _ (List.mem_of_getElem? (i := 1) rfl)) (hw _ (List.mem_of_getElem? (i := 2) rfl)) (hw _ (List.mem_of_getElem? (i := 3) rfl)) (hw _ (List.mem_of_getElem? (i := 4) rfl)) (by decide) at_15 pd_1 rfl rfl rfl (Nat.le_of_eq rfl) (by decide) (by decide) ?_
  refine own_astore K (pc := 18) (Ls' := #[.val (.int k), .val (.int y), .val (.int (2 : Int32)), .val (.int (4 : Int32)), .val (.ref (A 2)), .unset]) at_18 rfl rfl ?_
  refine own_iloadN K (pc := 20) at_20 rfl ?_
  refine own_callS K (pc := 21) (W := 0) (rest := []) (argsL := [(.int (4 : Int32))]) (u := (.ref (A 4))) (kd_4 l Z a0 h hw A F) (hw _ (List.mem_of_getElem? (i := 1) rfl)) (hw _ (List.mem_of_getElem? (i := 2) rfl)) (hw _ (List.mem_of_getElem? (i := 3) rfl)) (hw _ (List.mem_of_getElem? (i := 4) rfl)) (by decide) at_21 pd_1 rfl rfl rfl (Nat.le_of_eq rfl) (by decide) (by decide) ?_
  refine own_astore K (pc := 24) (Ls' := #[.val (.int k), .val (.int y), .val (.int (2 : Int32)), .val (.int (4 : Int32)), .val (.ref (A 2)), .val (.ref (A 4))]) at_24 rfl rfl ?_
  refine own_aload K (pc := 26) at_26 rfl rfl ?_
  refine own_aload K (pc := 28) at_28 rfl rfl ?_
  refine own_callV K (pc := 30) (W := 0) (rest := []) (argsL := [(.ref (A 4))]) (u := (.int (0 : Int32))) (cv_2_4 l Z a0 h hw A F) F.1.2.2.2.2.2.1 (hw _ (List.mem_of_getElem? (i := 10) rfl)) (hw _ (List.mem_of_getElem? (i := 11) rfl)) (hw _ (List.mem_of_getElem? (i := 13) rfl)) (hw _ (List.mem_of_getElem? (i := 12) rfl)) (hw _ (List.mem_of_getElem? (i := 14) rfl)) (hw _ (List.mem_of_getElem? (i := 6) rfl)) (by decide) at_30 pd_2 rfl rfl rfl (Nat.le_of_eq rfl) (by decide) (by decide) ?_
  refine own_iloadN K (pc := 33) at_33 rfl ?_
  refine own_iloadN K (pc := 34) at_34 rfl ?_
  refine own_callS K (pc := 35) (W := 1) (rest := [(.int (0 : Int32))]) (argsL := [(.int (2 : Int32)), (.int (4 : Int32))]) (u := (.int (0 : Int32))) (xp_2_4 l Z a0 h hw) (hw _ (List.mem_of_getElem? (i := 20) rfl)) (hw _ (List.mem_of_getElem? (i := 21) rfl)) (hw _ (List.mem_of_getElem? (i := 3) rfl)) (hw _ (List.mem_of_getElem? (i := 22) rfl)) (by decide) at_35 pd_3 rfl rfl rfl (Nat.le_of_eq rfl) (by decide) (by decide) ?_
  refine own_icmpN K (pc := 38) at_38 (by decide) ?_
  refine own_iconst K (pc := 41) at_41 (x := (1 : Int32)) (by decide) ?_
  refine own_goto K (pc := 42) (pc' := 46) at_42 (by decide) (by decide) ?_
  exact own_retZ K (pc := 46) at_46 (by decide)
set_option maxRecDepth 65536 in
theorem lt_3_0 (p : Program) (l : Launch) (e : Env) (s : State) (m : MethodId) (args : Array Value) (below : List Frame) (meth : Method) (c : Code) (Z : State) (a0 : Array Value) (h : Heap) (hw : ∀ d ∈ tables_1, d.before a0 Z = true) (k y : Int32) (A : Nat → Addr) (F : own_F Z h A) (K : own_C p s m meth c Z code "com/example/row_lock_engine/rowlockengine/engine/LockKindWaitsForPinLaw" .boolean 6) :
    own_E p l e room_1 s m args below meth c h 14 #[.val (.int k), .val (.int y), .val (.int (3 : Int32)), .val (.int (0 : Int32)), .unset, .unset] [] (.int 1) := by
  refine own_iloadN K (pc := 14) at_14 rfl ?_
  refine own_callS K (pc := 15) (W := 0) (rest := []) (argsL := [(.int (3 : Int32))]) (u := (.ref (A 3))) (kd_3 l Z a0 h hw A F) (hw _ (List.mem_of_getElem? (i := 1) rfl)) (hw _ (List.mem_of_getElem? (i := 2) rfl)) (hw _ (List.mem_of_getElem? (i := 3) rfl)) (hw _ (List.mem_of_getElem? (i := 4) rfl)) (by decide) at_15 pd_1 rfl rfl rfl (Nat.le_of_eq rfl) (by decide) (by decide) ?_
  refine own_astore K (pc := 18) (Ls' := #[.val (.int k), .val (.int y), .val (.int (3 : Int32)), .val (.int (0 : Int32)), .val (.ref (A 3)), .unset]) at_18 rfl rfl ?_
  refine own_iloadN K (pc := 20) at_20 rfl ?_
  refine own_callS K (pc := 21) (W := 0) (rest := []) (argsL := [(.int (0 : Int32))]) (u := (.ref (A 0))) (kd_0 l Z a0 h hw A F) (hw _ (List.mem_of_getElem? (i := 1) rfl)) (hw _ (List.mem_of_getElem? (i := 2) rfl)) (hw _ (List.mem_of_getElem? (i := 3) rfl)) (hw _ (List.mem_of_getElem? (i := 4) rfl)) (by decide) at_21 pd_1 rfl rfl rfl (Nat.le_of_eq rfl) (by decide) (by decide) ?_
  refine own_astore K (pc := 24) (Ls' := #[.val (.int k), .val (.int y), .val (.int (3 : Int32)), .val (.int (0 : Int32)), .val (.ref (A 3)), .val (.ref (A 0))]) at_24 rfl rfl ?_
  refine own_aload K (pc := 26) at_26 rfl rfl ?_
  refine own_aload K (pc := 28) at_28 rfl rfl ?_
  refine own_callV K (pc := 30) (W := 0) (rest := []) (argsL := [(.ref (A 0))]) (u := (.int (0 : Int32))) (cv_3_0 l Z a0 h hw A F) F.1.2.2.2.2.2.2.2.1 (hw _ (List.mem_of_getElem? (i := 10) rfl)) (hw _ (List.mem_of_getElem? (i := 11) rfl)) (hw _ (List.mem_of_getElem? (i := 13) rfl)) (hw _ (List.mem_of_getElem? (i := 12) rfl)) (hw _ (List.mem_of_getElem? (i := 14) rfl)) (hw _ (List.mem_of_getElem? (i := 6) rfl)) (by decide) at_30 pd_2 rfl rfl rfl (Nat.le_of_eq rfl) (by decide) (by decide) ?_
  refine own_iloadN K (pc := 33) at_33 rfl ?_
  refine own_iloadN K (pc := 34) at_34 rfl ?_
  refine own_callS K (pc := 35) (W := 1) (rest := [(.int (0 : Int32))]) (argsL := [(.int (3 : Int32)), (.int (0 : Int32))]) (u := (.int (0 : Int32))) (xp_3_0 l Z a0 h hw) (hw _ (List.mem_of_getElem? (i := 20) rfl)) (hw _ (List.mem_of_getElem? (i := 21) rfl)) (hw _ (List.mem_of_getElem? (i := 3) rfl)) (hw _ (List.mem_of_getElem? (i := 22) rfl)) (by decide) at_35 pd_3 rfl rfl rfl (Nat.le_of_eq rfl) (by decide) (by decide) ?_
  refine own_icmpN K (pc := 38) at_38 (by decide) ?_
  refine own_iconst K (pc := 41) at_41 (x := (1 : Int32)) (by decide) ?_
  refine own_goto K (pc := 42) (pc' := 46) at_42 (by decide) (by decide) ?_
  exact own_retZ K (pc := 46) at_46 (by decide)
set_option maxRecDepth 65536 in
theorem lt_3_1 (p : Program) (l : Launch) (e : Env) (s : State) (m : MethodId) (args : Array Value) (below : List Frame) (meth : Method) (c : Code) (Z : State) (a0 : Array Value) (h : Heap) (hw : ∀ d ∈ tables_1, d.before a0 Z = true) (k y : Int32) (A : Nat → Addr) (F : own_F Z h A) (K : own_C p s m meth c Z code "com/example/row_lock_engine/rowlockengine/engine/LockKindWaitsForPinLaw" .boolean 6) :
    own_E p l e room_1 s m args below meth c h 14 #[.val (.int k), .val (.int y), .val (.int (3 : Int32)), .val (.int (1 : Int32)), .unset, .unset] [] (.int 1) := by
  refine own_iloadN K (pc := 14) at_14 rfl ?_
  refine own_callS K (pc := 15) (W := 0) (rest := []) (argsL := [(.int (3 : Int32))]) (u := (.ref (A 3))) (kd_3 l Z a0 h hw A F) (hw _ (List.mem_of_getElem? (i := 1) rfl)) (hw _ (List.mem_of_getElem? (i := 2) rfl)) (hw _ (List.mem_of_getElem? (i := 3) rfl)) (hw _ (List.mem_of_getElem? (i := 4) rfl)) (by decide) at_15 pd_1 rfl rfl rfl (Nat.le_of_eq rfl) (by decide) (by decide) ?_
  refine own_astore K (pc := 18) (Ls' := #[.val (.int k), .val (.int y), .val (.int (3 : Int32)), .val (.int (1 : Int32)), .val (.ref (A 3)), .unset]) at_18 rfl rfl ?_
  refine own_iloadN K (pc := 20) at_20 rfl ?_
  refine own_callS K (pc := 21) (W := 0) (rest := []) (argsL := [(.int (1 : Int32))]) (u := (.ref (A 1))) (kd_1 l Z a0 h hw A F) (hw _ (List.mem_of_getElem? (i := 1) rfl)) (hw _ (List.mem_of_getElem? (i := 2) rfl)) (hw _ (List.mem_of_getElem? (i := 3) rfl)) (hw _ (List.mem_of_getElem? (i := 4) rfl)) (by decide) at_21 pd_1 rfl rfl rfl (Nat.le_of_eq rfl) (by decide) (by decide) ?_
  refine own_astore K (pc := 24) (Ls' := #[.val (.int k), .val (.int y), .val (.int (3 : Int32)), .val (.int (1 : Int32)), .val (.ref (A 3)), .val (.ref (A 1))]) at_24 rfl rfl ?_
  refine own_aload K (pc := 26) at_26 rfl rfl ?_
  refine own_aload K (pc := 28) at_28 rfl rfl ?_
  refine own_callV K (pc := 30) (W := 0) (rest := []) (argsL := [(.ref (A 1))]) (u := (.int (1 : Int32))) (cv_3_1 l Z a0 h hw A F) F.1.2.2.2.2.2.2.2.1 (hw _ (List.mem_of_getElem? (i := 10) rfl)) (hw _ (List.mem_of_getElem? (i := 11) rfl)) (hw _ (List.mem_of_getElem? (i := 13) rfl)) (hw _ (List.mem_of_getElem? (i := 12) rfl)) (hw _ (List.mem_of_getElem? (i := 14) rfl)) (hw _ (List.mem_of_getElem? (i := 6) rfl)) (by decide) at_30 pd_2 rfl rfl rfl (Nat.le_of_eq rfl) (by decide) (by decide) ?_
  refine own_iloadN K (pc := 33) at_33 rfl ?_
  refine own_iloadN K (pc := 34) at_34 rfl ?_
  refine own_callS K (pc := 35) (W := 1) (rest := [(.int (1 : Int32))]) (argsL := [(.int (3 : Int32)), (.int (1 : Int32))]) (u := (.int (1 : Int32))) (xp_3_1 l Z a0 h hw) (hw _ (List.mem_of_getElem? (i := 20) rfl)) (hw _ (List.mem_of_getElem? (i := 21) rfl)) (hw _ (List.mem_of_getElem? (i := 3) rfl)) (hw _ (List.mem_of_getElem? (i := 22) rfl)) (by decide) at_35 pd_3 rfl rfl rfl (Nat.le_of_eq rfl) (by decide) (by decide) ?_
  refine own_icmpN K (pc := 38) at_38 (by decide) ?_
  refine own_iconst K (pc := 41) at_41 (x := (1 : Int32)) (by decide) ?_
  refine own_goto K (pc := 42) (pc' := 46) at_42 (by decide) (by decide) ?_
  exact own_retZ K (pc := 46) at_46 (by decide)
set_option maxRecDepth 65536 in
theorem lt_3_2 (p : Program) (l : Launch) (e : Env) (s : State) (m : MethodId) (args : Array Value) (below : List Frame) (meth : Method) (c : Code) (Z : State) (a0 : Array Value) (h : Heap) (hw : ∀ d ∈ tables_1, d.before a0 Z = true) (k y : Int32) (A : Nat → Addr) (F : own_F Z h A) (K : own_C p s m meth c Z code "com/example/row_lock_engine/rowlockengine/engine/LockKindWaitsForPinLaw" .boolean 6) :
    own_E p l e room_1 s m args below meth c h 14 #[.val (.int k), .val (.int y), .val (.int (3 : Int32)), .val (.int (2 : Int32)), .unset, .unset] [] (.int 1) := by
  refine own_iloadN K (pc := 14) at_14 rfl ?_
  refine own_callS K (pc := 15) (W := 0) (rest := []) (argsL := [(.int (3 : Int32))]) (u := (.ref (A 3))) (kd_3 l Z a0 h hw A F) (hw _ (List.mem_of_getElem? (i := 1) rfl)) (hw _ (List.mem_of_getElem? (i := 2) rfl)) (hw _ (List.mem_of_getElem? (i := 3) rfl)) (hw _ (List.mem_of_getElem? (i := 4) rfl)) (by decide) at_15 pd_1 rfl rfl rfl (Nat.le_of_eq rfl) (by decide) (by decide) ?_
  refine own_astore K (pc := 18) (Ls' := #[.val (.int k), .val (.int y), .val (.int (3 : Int32)), .val (.int (2 : Int32)), .val (.ref (A 3)), .unset]) at_18 rfl rfl ?_
  refine own_iloadN K (pc := 20) at_20 rfl ?_
  refine own_callS K (pc := 21) (W := 0) (rest := []) (argsL := [(.int (2 : Int32))]) (u := (.ref (A 2))) (kd_2 l Z a0 h hw A F) (hw _ (List.mem_of_getElem? (i := 1) rfl)) (hw _ (List.mem_of_getElem? (i := 2) rfl)) (hw _ (List.mem_of_getElem? (i := 3) rfl)) (hw _ (List.mem_of_getElem? (i := 4) rfl)) (by decide) at_21 pd_1 rfl rfl rfl (Nat.le_of_eq rfl) (by decide) (by decide) ?_
  refine own_astore K (pc := 24) (Ls' := #[.val (.int k), .val (.int y), .val (.int (3 : Int32)), .val (.int (2 : Int32)), .val (.ref (A 3)), .val (.ref (A 2))]) at_24 rfl rfl ?_
  refine own_aload K (pc := 26) at_26 rfl rfl ?_
  refine own_aload K (pc := 28) at_28 rfl rfl ?_
  refine own_callV K (pc := 30) (W := 0) (rest := []) (argsL := [(.ref (A 2))]) (u := (.int (1 : Int32))) (cv_3_2 l Z a0 h hw A F) F.1.2.2.2.2.2.2.2.1 (hw _ (List.mem_of_getElem? (i := 10) rfl)) (hw _ (List.mem_of_getElem? (i := 11) rfl)) (hw _ (List.mem_of_getElem? (i := 13) rfl)) (hw _ (List.mem_of_getElem? (i := 12) rfl)) (hw _ (List.mem_of_getElem? (i := 14) rfl)) (hw _ (List.mem_of_getElem? (i := 6) rfl)) (by decide) at_30 pd_2 rfl rfl rfl (Nat.le_of_eq rfl) (by decide) (by decide) ?_
  refine own_iloadN K (pc := 33) at_33 rfl ?_
  refine own_iloadN K (pc := 34) at_34 rfl ?_
  refine own_callS K (pc := 35) (W := 1) (rest := [(.int (1 : Int32))]) (argsL := [(.int (3 : Int32)), (.int (2 : Int32))]) (u := (.int (1 : Int32))) (xp_3_2 l Z a0 h hw) (hw _ (List.mem_of_getElem? (i := 20) rfl)) (hw _ (List.mem_of_getElem? (i := 21) rfl)) (hw _ (List.mem_of_getElem? (i := 3) rfl)) (hw _ (List.mem_of_getElem? (i := 22) rfl)) (by decide) at_35 pd_3 rfl rfl rfl (Nat.le_of_eq rfl) (by decide) (by decide) ?_
  refine own_icmpN K (pc := 38) at_38 (by decide) ?_
  refine own_iconst K (pc := 41) at_41 (x := (1 : Int32)) (by decide) ?_
  refine own_goto K (pc := 42) (pc' := 46) at_42 (by decide) (by decide) ?_
  exact own_retZ K (pc := 46) at_46 (by decide)
set_option maxRecDepth 65536 in
theorem lt_3_3 (p : Program) (l : Launch) (e : Env) (s : State) (m : MethodId) (args : Array Value) (below : List Frame) (meth : Method) (c : Code) (Z : State) (a0 : Array Value) (h : Heap) (hw : ∀ d ∈ tables_1, d.before a0 Z = true) (k y : Int32) (A : Nat → Addr) (F : own_F Z h A) (K : own_C p s m meth c Z code "com/example/row_lock_engine/rowlockengine/engine/LockKindWaitsForPinLaw" .boolean 6) :
    own_E p l e room_1 s m args below meth c h 14 #[.val (.int k), .val (.int y), .val (.int (3 : Int32)), .val (.int (3 : Int32)), .unset, .unset] [] (.int 1) := by
  refine own_iloadN K (pc := 14) at_14 rfl ?_
  refine own_callS K (pc := 15) (W := 0) (rest := []) (argsL := [(.int (3 : Int32))]) (u := (.ref (A 3))) (kd_3 l Z a0 h hw A F) (hw _ (List.mem_of_getElem? (i := 1) rfl)) (hw _ (List.mem_of_getElem? (i := 2) rfl)) (hw _ (List.mem_of_getElem? (i := 3) rfl)) (hw _ (List.mem_of_getElem? (i := 4) rfl)) (by decide) at_15 pd_1 rfl rfl rfl (Nat.le_of_eq rfl) (by decide) (by decide) ?_
  refine own_astore K (pc := 18) (Ls' := #[.val (.int k), .val (.int y), .val (.int (3 : Int32)), .val (.int (3 : Int32)), .val (.ref (A 3)), .unset]) at_18 rfl rfl ?_
  refine own_iloadN K (pc := 20) at_20 rfl ?_
  refine own_callS K (pc := 21) (W := 0) (rest := []) (argsL := [(.int (3 : Int32))]) (u := (.ref (A 3))) (kd_3 l Z a0 h hw A F) (hw _ (List.mem_of_getElem? (i := 1) rfl)) (hw _ (List.mem_of_getElem? (i := 2) rfl)) (hw _ (List.mem_of_getElem? (i := 3) rfl)) (hw _ (List.mem_of_getElem? (i := 4) rfl)) (by decide) at_21 pd_1 rfl rfl rfl (Nat.le_of_eq rfl) (by decide) (by decide) ?_
  refine own_astore K (pc := 24) (Ls' := #[.val (.int k), .val (.int y), .val (.int (3 : Int32)), .val (.int (3 : Int32)), .val (.ref (A 3)), .val (.ref (A 3))]) at_24 rfl rfl ?_
  refine own_aload K (pc := 26) at_26 rfl rfl ?_
  refine own_aload K (pc := 28) at_28 rfl rfl ?_
  refine own_callV K (pc := 30) (W := 0) (rest := []) (argsL := [(.ref (A 3))]) (u := (.int (0 : Int32))) (cv_3_3 l Z a0 h hw A F) F.1.2.2.2.2.2.2.2.1 (hw _ (List.mem_of_getElem? (i := 10) rfl)) (hw _ (List.mem_of_getElem? (i := 11) rfl)) (hw _ (List.mem_of_getElem? (i := 13) rfl)) (hw _ (List.mem_of_getElem? (i := 12) rfl)) (hw _ (List.mem_of_getElem? (i := 14) rfl)) (hw _ (List.mem_of_getElem? (i := 6) rfl)) (by decide) at_30 pd_2 rfl rfl rfl (Nat.le_of_eq rfl) (by decide) (by decide) ?_
  refine own_iloadN K (pc := 33) at_33 rfl ?_
  refine own_iloadN K (pc := 34) at_34 rfl ?_
  refine own_callS K (pc := 35) (W := 1) (rest := [(.int (0 : Int32))]) (argsL := [(.int (3 : Int32)), (.int (3 : Int32))]) (u := (.int (0 : Int32))) (xp_3_3 l Z a0 h hw) (hw _ (List.mem_of_getElem? (i := 20) rfl)) (hw _ (List.mem_of_getElem? (i := 21) rfl)) (hw _ (List.mem_of_getElem? (i := 3) rfl)) (hw _ (List.mem_of_getElem? (i := 22) rfl)) (by decide) at_35 pd_3 rfl rfl rfl (Nat.le_of_eq rfl) (by decide) (by decide) ?_
  refine own_icmpN K (pc := 38) at_38 (by decide) ?_
  refine own_iconst K (pc := 41) at_41 (x := (1 : Int32)) (by decide) ?_
  refine own_goto K (pc := 42) (pc' := 46) at_42 (by decide) (by decide) ?_
  exact own_retZ K (pc := 46) at_46 (by decide)
set_option maxRecDepth 65536 in
theorem lt_3_4 (p : Program) (l : Launch) (e : Env) (s : State) (m : MethodId) (args : Array Value) (below : List Frame) (meth : Method) (c : Code) (Z : State) (a0 : Array Value) (h : Heap) (hw : ∀ d ∈ tables_1, d.before a0 Z = true) (k y : Int32) (A : Nat → Addr) (F : own_F Z h A) (K : own_C p s m meth c Z code "com/example/row_lock_engine/rowlockengine/engine/LockKindWaitsForPinLaw" .boolean 6) :
    own_E p l e room_1 s m args below meth c h 14 #[.val (.int k), .val (.int y), .val (.int (3 : Int32)), .val (.int (4 : Int32)), .unset, .unset] [] (.int 1) := by
  refine own_iloadN K (pc := 14) at_14 rfl ?_
  refine own_callS K (pc := 15) (W := 0) (rest := []) (argsL := [(.int (3 : Int32))]) (u := (.ref (A 3))) (kd_3 l Z a0 h hw A F) (hw _ (List.mem_of_getElem? (i := 1) rfl)) (hw _ (List.mem_of_getElem? (i := 2) rfl)) (hw _ (List.mem_of_getElem? (i := 3) rfl)) (hw _ (List.mem_of_getElem? (i := 4) rfl)) (by decide) at_15 pd_1 rfl rfl rfl (Nat.le_of_eq rfl) (by decide) (by decide) ?_
  refine own_astore K (pc := 18) (Ls' := #[.val (.int k), .val (.int y), .val (.int (3 : Int32)), .val (.int (4 : Int32)), .val (.ref (A 3)), .unset]) at_18 rfl rfl ?_
  refine own_iloadN K (pc := 20) at_20 rfl ?_
  refine own_callS K (pc := 21) (W := 0) (rest := []) (argsL := [(.int (4 : Int32))]) (u := (.ref (A 4))) (kd_4 l Z a0 h hw A F) (hw _ (List.mem_of_getElem? (i := 1) rfl)) (hw _ (List.mem_of_getElem? (i := 2) rfl)) (hw _ (List.mem_of_getElem? (i := 3) rfl)) (hw _ (List.mem_of_getElem? (i := 4) rfl)) (by decide) at_21 pd_1 rfl rfl rfl (Nat.le_of_eq rfl) (by decide) (by decide) ?_
  refine own_astore K (pc := 24) (Ls' := #[.val (.int k), .val (.int y), .val (.int (3 : Int32)), .val (.int (4 : Int32)), .val (.ref (A 3)), .val (.ref (A 4))]) at_24 rfl rfl ?_
  refine own_aload K (pc := 26) at_26 rfl rfl ?_
  refine own_aload K (pc := 28) at_28 rfl rfl ?_
  refine own_callV K (pc := 30) (W := 0) (rest := []) (argsL := [(.ref (A 4))]) (u := (.int (0 : Int32))) (cv_3_4 l Z a0 h hw A F) F.1.2.2.2.2.2.2.2.1 (hw _ (List.mem_of_getElem? (i := 10) rfl)) (hw _ (List.mem_of_getElem? (i := 11) rfl)) (hw _ (List.mem_of_getElem? (i := 13) rfl)) (hw _ (List.mem_of_getElem? (i := 12) rfl)) (hw _ (List.mem_of_getElem? (i := 14) rfl)) (hw _ (List.mem_of_getElem? (i := 6) rfl)) (by decide) at_30 pd_2 rfl rfl rfl (Nat.le_of_eq rfl) (by decide) (by decide) ?_
  refine own_iloadN K (pc := 33) at_33 rfl ?_
  refine own_iloadN K (pc := 34) at_34 rfl ?_
  refine own_callS K (pc := 35) (W := 1) (rest := [(.int (0 : Int32))]) (argsL := [(.int (3 : Int32)), (.int (4 : Int32))]) (u := (.int (0 : Int32))) (xp_3_4 l Z a0 h hw) (hw _ (List.mem_of_getElem? (i := 20) rfl)) (hw _ (List.mem_of_getElem? (i := 21) rfl)) (hw _ (List.mem_of_getElem? (i := 3) rfl)) (hw _ (List.mem_of_getElem? (i := 22) rfl)) (by decide) at_35 pd_3 rfl rfl rfl (Nat.le_of_eq rfl) (by decide) (by decide) ?_
  refine own_icmpN K (pc := 38) at_38 (by decide) ?_
  refine own_iconst K (pc := 41) at_41 (x := (1 : Int32)) (by decide) ?_
  refine own_goto K (pc := 42) (pc' := 46) at_42 (by decide) (by decide) ?_
  exact own_retZ K (pc := 46) at_46 (by decide)
set_option maxRecDepth 65536 in
theorem lt_4_0 (p : Program) (l : Launch) (e : Env) (s : State) (m : MethodId) (args : Array Value) (below : List Frame) (meth : Method) (c : Code) (Z : State) (a0 : Array Value) (h : Heap) (hw : ∀ d ∈ tables_1, d.before a0 Z = true) (k y : Int32) (A : Nat → Addr) (F : own_F Z h A) (K : own_C p s m meth c Z code "com/example/row_lock_engine/rowlockengine/engine/LockKindWaitsForPinLaw" .boolean 6) :
    own_E p l e room_1 s m args below meth c h 14 #[.val (.int k), .val (.int y), .val (.int (4 : Int32)), .val (.int (0 : Int32)), .unset, .unset] [] (.int 1) := by
  refine own_iloadN K (pc := 14) at_14 rfl ?_
  refine own_callS K (pc := 15) (W := 0) (rest := []) (argsL := [(.int (4 : Int32))]) (u := (.ref (A 4))) (kd_4 l Z a0 h hw A F) (hw _ (List.mem_of_getElem? (i := 1) rfl)) (hw _ (List.mem_of_getElem? (i := 2) rfl)) (hw _ (List.mem_of_getElem? (i := 3) rfl)) (hw _ (List.mem_of_getElem? (i := 4) rfl)) (by decide) at_15 pd_1 rfl rfl rfl (Nat.le_of_eq rfl) (by decide) (by decide) ?_
  refine own_astore K (pc := 18) (Ls' := #[.val (.int k), .val (.int y), .val (.int (4 : Int32)), .val (.int (0 : Int32)), .val (.ref (A 4)), .unset]) at_18 rfl rfl ?_
  refine own_iloadN K (pc := 20) at_20 rfl ?_
  refine own_callS K (pc := 21) (W := 0) (rest := []) (argsL := [(.int (0 : Int32))]) (u := (.ref (A 0))) (kd_0 l Z a0 h hw A F) (hw _ (List.mem_of_getElem? (i := 1) rfl)) (hw _ (List.mem_of_getElem? (i := 2) rfl)) (hw _ (List.mem_of_getElem? (i := 3) rfl)) (hw _ (List.mem_of_getElem? (i := 4) rfl)) (by decide) at_21 pd_1 rfl rfl rfl (Nat.le_of_eq rfl) (by decide) (by decide) ?_
  refine own_astore K (pc := 24) (Ls' := #[.val (.int k), .val (.int y), .val (.int (4 : Int32)), .val (.int (0 : Int32)), .val (.ref (A 4)), .val (.ref (A 0))]) at_24 rfl rfl ?_
  refine own_aload K (pc := 26) at_26 rfl rfl ?_
  refine own_aload K (pc := 28) at_28 rfl rfl ?_
  refine own_callV K (pc := 30) (W := 0) (rest := []) (argsL := [(.ref (A 0))]) (u := (.int (0 : Int32))) (cv_4_0 l Z a0 h hw A F) F.1.2.2.2.2.2.2.2.2.2.1 (hw _ (List.mem_of_getElem? (i := 10) rfl)) (hw _ (List.mem_of_getElem? (i := 11) rfl)) (hw _ (List.mem_of_getElem? (i := 13) rfl)) (hw _ (List.mem_of_getElem? (i := 12) rfl)) (hw _ (List.mem_of_getElem? (i := 14) rfl)) (hw _ (List.mem_of_getElem? (i := 6) rfl)) (by decide) at_30 pd_2 rfl rfl rfl (Nat.le_of_eq rfl) (by decide) (by decide) ?_
  refine own_iloadN K (pc := 33) at_33 rfl ?_
  refine own_iloadN K (pc := 34) at_34 rfl ?_
  refine own_callS K (pc := 35) (W := 1) (rest := [(.int (0 : Int32))]) (argsL := [(.int (4 : Int32)), (.int (0 : Int32))]) (u := (.int (0 : Int32))) (xp_4_0 l Z a0 h hw) (hw _ (List.mem_of_getElem? (i := 20) rfl)) (hw _ (List.mem_of_getElem? (i := 21) rfl)) (hw _ (List.mem_of_getElem? (i := 3) rfl)) (hw _ (List.mem_of_getElem? (i := 22) rfl)) (by decide) at_35 pd_3 rfl rfl rfl (Nat.le_of_eq rfl) (by decide) (by decide) ?_
  refine own_icmpN K (pc := 38) at_38 (by decide) ?_
  refine own_iconst K (pc := 41) at_41 (x := (1 : Int32)) (by decide) ?_
  refine own_goto K (pc := 42) (pc' := 46) at_42 (by decide) (by decide) ?_
  exact own_retZ K (pc := 46) at_46 (by decide)
set_option maxRecDepth 65536 in
theorem lt_4_1 (p : Program) (l : Launch) (e : Env) (s : State) (m : MethodId) (args : Array Value) (below : List Frame) (meth : Method) (c : Code) (Z : State) (a0 : Array Value) (h : Heap) (hw : ∀ d ∈ tables_1, d.before a0 Z = true) (k y : Int32) (A : Nat → Addr) (F : own_F Z h A) (K : own_C p s m meth c Z code "com/example/row_lock_engine/rowlockengine/engine/LockKindWaitsForPinLaw" .boolean 6) :
    own_E p l e room_1 s m args below meth c h 14 #[.val (.int k), .val (.int y), .val (.int (4 : Int32)), .val (.int (1 : Int32)), .unset, .unset] [] (.int 1) := by
  refine own_iloadN K (pc := 14) at_14 rfl ?_
  refine own_callS K (pc := 15) (W := 0) (rest := []) (argsL := [(.int (4 : Int32))]) (u := (.ref (A 4))) (kd_4 l Z a0 h hw A F) (hw _ (List.mem_of_getElem? (i := 1) rfl)) (hw _ (List.mem_of_getElem? (i := 2) rfl)) (hw _ (List.mem_of_getElem? (i := 3) rfl)) (hw _ (List.mem_of_getElem? (i := 4) rfl)) (by decide) at_15 pd_1 rfl rfl rfl (Nat.le_of_eq rfl) (by decide) (by decide) ?_
  refine own_astore K (pc := 18) (Ls' := #[.val (.int k), .val (.int y), .val (.int (4 : Int32)), .val (.int (1 : Int32)), .val (.ref (A 4)), .unset]) at_18 rfl rfl ?_
  refine own_iloadN K (pc := 20) at_20 rfl ?_
  refine own_callS K (pc := 21) (W := 0) (rest := []) (argsL := [(.int (1 : Int32))]) (u := (.ref (A 1))) (kd_1 l Z a0 h hw A F) (hw _ (List.mem_of_getElem? (i := 1) rfl)) (hw _ (List.mem_of_getElem? (i := 2) rfl)) (hw _ (List.mem_of_getElem? (i := 3) rfl)) (hw _ (List.mem_of_getElem? (i := 4) rfl)) (by decide) at_21 pd_1 rfl rfl rfl (Nat.le_of_eq rfl) (by decide) (by decide) ?_
  refine own_astore K (pc := 24) (Ls' := #[.val (.int k), .val (.int y), .val (.int (4 : Int32)), .val (.int (1 : Int32)), .val (.ref (A 4)), .val (.ref (A 1))]) at_24 rfl rfl ?_
  refine own_aload K (pc := 26) at_26 rfl rfl ?_
  refine own_aload K (pc := 28) at_28 rfl rfl ?_
  refine own_callV K (pc := 30) (W := 0) (rest := []) (argsL := [(.ref (A 1))]) (u := (.int (0 : Int32))) (cv_4_1 l Z a0 h hw A F) F.1.2.2.2.2.2.2.2.2.2.1 (hw _ (List.mem_of_getElem? (i := 10) rfl)) (hw _ (List.mem_of_getElem? (i := 11) rfl)) (hw _ (List.mem_of_getElem? (i := 13) rfl)) (hw _ (List.mem_of_getElem? (i := 12) rfl)) (hw _ (List.mem_of_getElem? (i := 14) rfl)) (hw _ (List.mem_of_getElem? (i := 6) rfl)) (by decide) at_30 pd_2 rfl rfl rfl (Nat.le_of_eq rfl) (by decide) (by decide) ?_
  refine own_iloadN K (pc := 33) at_33 rfl ?_
  refine own_iloadN K (pc := 34) at_34 rfl ?_
  refine own_callS K (pc := 35) (W := 1) (rest := [(.int (0 : Int32))]) (argsL := [(.int (4 : Int32)), (.int (1 : Int32))]) (u := (.int (0 : Int32))) (xp_4_1 l Z a0 h hw) (hw _ (List.mem_of_getElem? (i := 20) rfl)) (hw _ (List.mem_of_getElem? (i := 21) rfl)) (hw _ (List.mem_of_getElem? (i := 3) rfl)) (hw _ (List.mem_of_getElem? (i := 22) rfl)) (by decide) at_35 pd_3 rfl rfl rfl (Nat.le_of_eq rfl) (by decide) (by decide) ?_
  refine own_icmpN K (pc := 38) at_38 (by decide) ?_
  refine own_iconst K (pc := 41) at_41 (x := (1 : Int32)) (by decide) ?_
  refine own_goto K (pc := 42) (pc' := 46) at_42 (by decide) (by decide) ?_
  exact own_retZ K (pc := 46) at_46 (by decide)
set_option maxRecDepth 65536 in
theorem lt_4_2 (p : Program) (l : Launch) (e : Env) (s : State) (m : MethodId) (args : Array Value) (below : List Frame) (meth : Method) (c : Code) (Z : State) (a0 : Array Value) (h : Heap) (hw : ∀ d ∈ tables_1, d.before a0 Z = true) (k y : Int32) (A : Nat → Addr) (F : own_F Z h A) (K : own_C p s m meth c Z code "com/example/row_lock_engine/rowlockengine/engine/LockKindWaitsForPinLaw" .boolean 6) :
    own_E p l e room_1 s m args below meth c h 14 #[.val (.int k), .val (.int y), .val (.int (4 : Int32)), .val (.int (2 : Int32)), .unset, .unset] [] (.int 1) := by
  refine own_iloadN K (pc := 14) at_14 rfl ?_
  refine own_callS K (pc := 15) (W := 0) (rest := []) (argsL := [(.int (4 : Int32))]) (u := (.ref (A 4))) (kd_4 l Z a0 h hw A F) (hw _ (List.mem_of_getElem? (i := 1) rfl)) (hw _ (List.mem_of_getElem? (i := 2) rfl)) (hw _ (List.mem_of_getElem? (i := 3) rfl)) (hw _ (List.mem_of_getElem? (i := 4) rfl)) (by decide) at_15 pd_1 rfl rfl rfl (Nat.le_of_eq rfl) (by decide) (by decide) ?_
  refine own_astore K (pc := 18) (Ls' := #[.val (.int k), .val (.int y), .val (.int (4 : Int32)), .val (.int (2 : Int32)), .val (.ref (A 4)), .unset]) at_18 rfl rfl ?_
  refine own_iloadN K (pc := 20) at_20 rfl ?_
  refine own_callS K (pc := 21) (W := 0) (rest := []) (argsL := [(.int (2 : Int32))]) (u := (.ref (A 2))) (kd_2 l Z a0 h hw A F) (hw _ (List.mem_of_getElem? (i := 1) rfl)) (hw _ (List.mem_of_getElem? (i := 2) rfl)) (hw _ (List.mem_of_getElem? (i := 3) rfl)) (hw _ (List.mem_of_getElem? (i := 4) rfl)) (by decide) at_21 pd_1 rfl rfl rfl (Nat.le_of_eq rfl) (by decide) (by decide) ?_
  refine own_astore K (pc := 24) (Ls' := #[.val (.int k), .val (.int y), .val (.int (4 : Int32)), .val (.int (2 : Int32)), .val (.ref (A 4)), .val (.ref (A 2))]) at_24 rfl rfl ?_
  refine own_aload K (pc := 26) at_26 rfl rfl ?_
  refine own_aload K (pc := 28) at_28 rfl rfl ?_
  refine own_callV K (pc := 30) (W := 0) (rest := []) (argsL := [(.ref (A 2))]) (u := (.int (0 : Int32))) (cv_4_2 l Z a0 h hw A F) F.1.2.2.2.2.2.2.2.2.2.1 (hw _ (List.mem_of_getElem? (i := 10) rfl)) (hw _ (List.mem_of_getElem? (i := 11) rfl)) (hw _ (List.mem_of_getElem? (i := 13) rfl)) (hw _ (List.mem_of_getElem? (i := 12) rfl)) (hw _ (List.mem_of_getElem? (i := 14) rfl)) (hw _ (List.mem_of_getElem? (i := 6) rfl)) (by decide) at_30 pd_2 rfl rfl rfl (Nat.le_of_eq rfl) (by decide) (by decide) ?_
  refine own_iloadN K (pc := 33) at_33 rfl ?_
  refine own_iloadN K (pc := 34) at_34 rfl ?_
  refine own_callS K (pc := 35) (W := 1) (rest := [(.int (0 : Int32))]) (argsL := [(.int (4 : Int32)), (.int (2 : Int32))]) (u := (.int (0 : Int32))) (xp_4_2 l Z a0 h hw) (hw _ (List.mem_of_getElem? (i := 20) rfl)) (hw _ (List.mem_of_getElem? (i := 21) rfl)) (hw _ (List.mem_of_getElem? (i := 3) rfl)) (hw _ (List.mem_of_getElem? (i := 22) rfl)) (by decide) at_35 pd_3 rfl rfl rfl (Nat.le_of_eq rfl) (by decide) (by decide) ?_
  refine own_icmpN K (pc := 38) at_38 (by decide) ?_
  refine own_iconst K (pc := 41) at_41 (x := (1 : Int32)) (by decide) ?_
  refine own_goto K (pc := 42) (pc' := 46) at_42 (by decide) (by decide) ?_
  exact own_retZ K (pc := 46) at_46 (by decide)
set_option maxRecDepth 65536 in
theorem lt_4_3 (p : Program) (l : Launch) (e : Env) (s : State) (m : MethodId) (args : Array Value) (below : List Frame) (meth : Method) (c : Code) (Z : State) (a0 : Array Value) (h : Heap) (hw : ∀ d ∈ tables_1, d.before a0 Z = true) (k y : Int32) (A : Nat → Addr) (F : own_F Z h A) (K : own_C p s m meth c Z code "com/example/row_lock_engine/rowlockengine/engine/LockKindWaitsForPinLaw" .boolean 6) :
    own_E p l e room_1 s m args below meth c h 14 #[.val (.int k), .val (.int y), .val (.int (4 : Int32)), .val (.int (3 : Int32)), .unset, .unset] [] (.int 1) := by
  refine own_iloadN K (pc := 14) at_14 rfl ?_
  refine own_callS K (pc := 15) (W := 0) (rest := []) (argsL := [(.int (4 : Int32))]) (u := (.ref (A 4))) (kd_4 l Z a0 h hw A F) (hw _ (List.mem_of_getElem? (i := 1) rfl)) (hw _ (List.mem_of_getElem? (i := 2) rfl)) (hw _ (List.mem_of_getElem? (i := 3) rfl)) (hw _ (List.mem_of_getElem? (i := 4) rfl)) (by decide) at_15 pd_1 rfl rfl rfl (Nat.le_of_eq rfl) (by decide) (by decide) ?_
  refine own_astore K (pc := 18) (Ls' := #[.val (.int k), .val (.int y), .val (.int (4 : Int32)), .val (.int (3 : Int32)), .val (.ref (A 4)), .unset]) at_18 rfl rfl ?_
  refine own_iloadN K (pc := 20) at_20 rfl ?_
  refine own_callS K (pc := 21) (W := 0) (rest := []) (argsL := [(.int (3 : Int32))]) (u := (.ref (A 3))) (kd_3 l Z a0 h hw A F) (hw _ (List.mem_of_getElem? (i := 1) rfl)) (hw _ (List.mem_of_getElem? (i := 2) rfl)) (hw _ (List.mem_of_getElem? (i := 3) rfl)) (hw _ (List.mem_of_getElem? (i := 4) rfl)) (by decide) at_21 pd_1 rfl rfl rfl (Nat.le_of_eq rfl) (by decide) (by decide) ?_
  refine own_astore K (pc := 24) (Ls' := #[.val (.int k), .val (.int y), .val (.int (4 : Int32)), .val (.int (3 : Int32)), .val (.ref (A 4)), .val (.ref (A 3))]) at_24 rfl rfl ?_
  refine own_aload K (pc := 26) at_26 rfl rfl ?_
  refine own_aload K (pc := 28) at_28 rfl rfl ?_
  refine own_callV K (pc := 30) (W := 0) (rest := []) (argsL := [(.ref (A 3))]) (u := (.int (0 : Int32))) (cv_4_3 l Z a0 h hw A F) F.1.2.2.2.2.2.2.2.2.2.1 (hw _ (List.mem_of_getElem? (i := 10) rfl)) (hw _ (List.mem_of_getElem? (i := 11) rfl)) (hw _ (List.mem_of_getElem? (i := 13) rfl)) (hw _ (List.mem_of_getElem? (i := 12) rfl)) (hw _ (List.mem_of_getElem? (i := 14) rfl)) (hw _ (List.mem_of_getElem? (i := 6) rfl)) (by decide) at_30 pd_2 rfl rfl rfl (Nat.le_of_eq rfl) (by decide) (by decide) ?_
  refine own_iloadN K (pc := 33) at_33 rfl ?_
  refine own_iloadN K (pc := 34) at_34 rfl ?_
  refine own_callS K (pc := 35) (W := 1) (rest := [(.int (0 : Int32))]) (argsL := [(.int (4 : Int32)), (.int (3 : Int32))]) (u := (.int (0 : Int32))) (xp_4_3 l Z a0 h hw) (hw _ (List.mem_of_getElem? (i := 20) rfl)) (hw _ (List.mem_of_getElem? (i := 21) rfl)) (hw _ (List.mem_of_getElem? (i := 3) rfl)) (hw _ (List.mem_of_getElem? (i := 22) rfl)) (by decide) at_35 pd_3 rfl rfl rfl (Nat.le_of_eq rfl) (by decide) (by decide) ?_
  refine own_icmpN K (pc := 38) at_38 (by decide) ?_
  refine own_iconst K (pc := 41) at_41 (x := (1 : Int32)) (by decide) ?_
  refine own_goto K (pc := 42) (pc' := 46) at_42 (by decide) (by decide) ?_
  exact own_retZ K (pc := 46) at_46 (by decide)
set_option maxRecDepth 65536 in
theorem lt_4_4 (p : Program) (l : Launch) (e : Env) (s : State) (m : MethodId) (args : Array Value) (below : List Frame) (meth : Method) (c : Code) (Z : State) (a0 : Array Value) (h : Heap) (hw : ∀ d ∈ tables_1, d.before a0 Z = true) (k y : Int32) (A : Nat → Addr) (F : own_F Z h A) (K : own_C p s m meth c Z code "com/example/row_lock_engine/rowlockengine/engine/LockKindWaitsForPinLaw" .boolean 6) :
    own_E p l e room_1 s m args below meth c h 14 #[.val (.int k), .val (.int y), .val (.int (4 : Int32)), .val (.int (4 : Int32)), .unset, .unset] [] (.int 1) := by
  refine own_iloadN K (pc := 14) at_14 rfl ?_
  refine own_callS K (pc := 15) (W := 0) (rest := []) (argsL := [(.int (4 : Int32))]) (u := (.ref (A 4))) (kd_4 l Z a0 h hw A F) (hw _ (List.mem_of_getElem? (i := 1) rfl)) (hw _ (List.mem_of_getElem? (i := 2) rfl)) (hw _ (List.mem_of_getElem? (i := 3) rfl)) (hw _ (List.mem_of_getElem? (i := 4) rfl)) (by decide) at_15 pd_1 rfl rfl rfl (Nat.le_of_eq rfl) (by decide) (by decide) ?_
  refine own_astore K (pc := 18) (Ls' := #[.val (.int k), .val (.int y), .val (.int (4 : Int32)), .val (.int (4 : Int32)), .val (.ref (A 4)), .unset]) at_18 rfl rfl ?_
  refine own_iloadN K (pc := 20) at_20 rfl ?_
  refine own_callS K (pc := 21) (W := 0) (rest := []) (argsL := [(.int (4 : Int32))]) (u := (.ref (A 4))) (kd_4 l Z a0 h hw A F) (hw _ (List.mem_of_getElem? (i := 1) rfl)) (hw _ (List.mem_of_getElem? (i := 2) rfl)) (hw _ (List.mem_of_getElem? (i := 3) rfl)) (hw _ (List.mem_of_getElem? (i := 4) rfl)) (by decide) at_21 pd_1 rfl rfl rfl (Nat.le_of_eq rfl) (by decide) (by decide) ?_
  refine own_astore K (pc := 24) (Ls' := #[.val (.int k), .val (.int y), .val (.int (4 : Int32)), .val (.int (4 : Int32)), .val (.ref (A 4)), .val (.ref (A 4))]) at_24 rfl rfl ?_
  refine own_aload K (pc := 26) at_26 rfl rfl ?_
  refine own_aload K (pc := 28) at_28 rfl rfl ?_
  refine own_callV K (pc := 30) (W := 0) (rest := []) (argsL := [(.ref (A 4))]) (u := (.int (1 : Int32))) (cv_4_4 l Z a0 h hw A F) F.1.2.2.2.2.2.2.2.2.2.1 (hw _ (List.mem_of_getElem? (i := 10) rfl)) (hw _ (List.mem_of_getElem? (i := 11) rfl)) (hw _ (List.mem_of_getElem? (i := 13) rfl)) (hw _ (List.mem_of_getElem? (i := 12) rfl)) (hw _ (List.mem_of_getElem? (i := 14) rfl)) (hw _ (List.mem_of_getElem? (i := 6) rfl)) (by decide) at_30 pd_2 rfl rfl rfl (Nat.le_of_eq rfl) (by decide) (by decide) ?_
  refine own_iloadN K (pc := 33) at_33 rfl ?_
  refine own_iloadN K (pc := 34) at_34 rfl ?_
  refine own_callS K (pc := 35) (W := 1) (rest := [(.int (1 : Int32))]) (argsL := [(.int (4 : Int32)), (.int (4 : Int32))]) (u := (.int (1 : Int32))) (xp_4_4 l Z a0 h hw) (hw _ (List.mem_of_getElem? (i := 20) rfl)) (hw _ (List.mem_of_getElem? (i := 21) rfl)) (hw _ (List.mem_of_getElem? (i := 3) rfl)) (hw _ (List.mem_of_getElem? (i := 22) rfl)) (by decide) at_35 pd_3 rfl rfl rfl (Nat.le_of_eq rfl) (by decide) (by decide) ?_
  refine own_icmpN K (pc := 38) at_38 (by decide) ?_
  refine own_iconst K (pc := 41) at_41 (x := (1 : Int32)) (by decide) ?_
  refine own_goto K (pc := 42) (pc' := 46) at_42 (by decide) (by decide) ?_
  exact own_retZ K (pc := 46) at_46 (by decide)
set_option maxRecDepth 65536 in
theorem lh (p : Program) (l : Launch) (e : Env) (s : State) (m : MethodId) (args : Array Value) (below : List Frame) (meth : Method) (c : Code) (Z : State) (a0 : Array Value) (h : Heap) (hw : ∀ d ∈ tables_1, d.before a0 Z = true) (k y : Int32) (A : Nat → Addr) (F : own_F Z h A) (K : own_C p s m meth c Z code "com/example/row_lock_engine/rowlockengine/engine/LockKindWaitsForPinLaw" .boolean 6) (r : own_E p l e room_1 s m args below meth c h 14 #[.val (.int k), .val (.int y), .val (.int ((k &&& (2147483647 : Int32)) % (5 : Int32))), .val (.int ((y &&& (2147483647 : Int32)) % (5 : Int32))), .unset, .unset] [] (.int 1)) :
    own_E p l e room_1 s m args below meth c h 0 #[.val (.int k), .val (.int y), .unset, .unset, .unset, .unset] [] (.int 1) := by
  refine own_iloadN K (pc := 0) at_0 rfl ?_
  refine own_ldc K (pc := 1) (x := (2147483647 : Int32)) (hw _ (List.mem_of_getElem? (i := 0) rfl)) at_1 ?_
  refine own_iand K (pc := 3) at_3 ?_
  refine own_iconst K (pc := 4) at_4 (x := (5 : Int32)) (by decide) ?_
  refine own_irem K (pc := 5) at_5 (by decide) ?_
  refine own_istoreN K (pc := 6) (Ls' := #[.val (.int k), .val (.int y), .val (.int ((k &&& (2147483647 : Int32)) % (5 : Int32))), .unset, .unset, .unset]) at_6 rfl ?_
  refine own_iloadN K (pc := 7) at_7 rfl ?_
  refine own_ldc K (pc := 8) (x := (2147483647 : Int32)) (hw _ (List.mem_of_getElem? (i := 0) rfl)) at_8 ?_
  refine own_iand K (pc := 10) at_10 ?_
  refine own_iconst K (pc := 11) at_11 (x := (5 : Int32)) (by decide) ?_
  refine own_irem K (pc := 12) at_12 (by decide) ?_
  refine own_istoreN K (pc := 13) (Ls' := #[.val (.int k), .val (.int y), .val (.int ((k &&& (2147483647 : Int32)) % (5 : Int32))), .val (.int ((y &&& (2147483647 : Int32)) % (5 : Int32))), .unset, .unset]) at_13 rfl ?_
  exact r
set_option maxRecDepth 65536 in
set_option maxHeartbeats 4000000 in
theorem rm0 (l : Launch) (Z : State) (a0 : Array Value) (h : Heap) (hw : ∀ d ∈ tables_1, d.before a0 Z = true) (k y : Int32) (A : Nat → Addr) (F : own_F Z h A)  : own_M l x code maxLocals .boolean tables_1 room_1 Z h #[(.int k), (.int y)] (.int (1 : Int32)) := by
  refine own_met pn_0 (Ls := #[.val (.int k), .val (.int y), .unset, .unset, .unset, .unset]) (fun m => by first | (simp [entryFrame, mkF, argsToLocals, Value.category, maxLocals]; done) | rfl) ?_
  intro p e s m below meth c K
  refine lh p l e s m _ below meth c Z a0 h hw k y A F K ?_
  rcases own_rem k with q | q | q | q | q
  · rw [q]; rcases own_rem y with q | q | q | q | q
    · rw [q]; exact lt_0_0 p l e s m _ below meth c Z a0 h hw k y A F K
    · rw [q]; exact lt_0_1 p l e s m _ below meth c Z a0 h hw k y A F K
    · rw [q]; exact lt_0_2 p l e s m _ below meth c Z a0 h hw k y A F K
    · rw [q]; exact lt_0_3 p l e s m _ below meth c Z a0 h hw k y A F K
    · rw [q]; exact lt_0_4 p l e s m _ below meth c Z a0 h hw k y A F K
  · rw [q]; rcases own_rem y with q | q | q | q | q
    · rw [q]; exact lt_1_0 p l e s m _ below meth c Z a0 h hw k y A F K
    · rw [q]; exact lt_1_1 p l e s m _ below meth c Z a0 h hw k y A F K
    · rw [q]; exact lt_1_2 p l e s m _ below meth c Z a0 h hw k y A F K
    · rw [q]; exact lt_1_3 p l e s m _ below meth c Z a0 h hw k y A F K
    · rw [q]; exact lt_1_4 p l e s m _ below meth c Z a0 h hw k y A F K
  · rw [q]; rcases own_rem y with q | q | q | q | q
    · rw [q]; exact lt_2_0 p l e s m _ below meth c Z a0 h hw k y A F K
    · rw [q]; exact lt_2_1 p l e s m _ below meth c Z a0 h hw k y A F K
    · rw [q]; exact lt_2_2 p l e s m _ below meth c Z a0 h hw k y A F K
    · rw [q]; exact lt_2_3 p l e s m _ below meth c Z a0 h hw k y A F K
    · rw [q]; exact lt_2_4 p l e s m _ below meth c Z a0 h hw k y A F K
  · rw [q]; rcases own_rem y with q | q | q | q | q
    · rw [q]; exact lt_3_0 p l e s m _ below meth c Z a0 h hw k y A F K
    · rw [q]; exact lt_3_1 p l e s m _ below meth c Z a0 h hw k y A F K
    · rw [q]; exact lt_3_2 p l e s m _ below meth c Z a0 h hw k y A F K
    · rw [q]; exact lt_3_3 p l e s m _ below meth c Z a0 h hw k y A F K
    · rw [q]; exact lt_3_4 p l e s m _ below meth c Z a0 h hw k y A F K
  · rw [q]; rcases own_rem y with q | q | q | q | q
    · rw [q]; exact lt_4_0 p l e s m _ below meth c Z a0 h hw k y A F K
    · rw [q]; exact lt_4_1 p l e s m _ below meth c Z a0 h hw k y A F K
    · rw [q]; exact lt_4_2 p l e s m _ below meth c Z a0 h hw k y A F K
    · rw [q]; exact lt_4_3 p l e s m _ below meth c Z a0 h hw k y A F K
    · rw [q]; exact lt_4_4 p l e s m _ below meth c Z a0 h hw k y A F K
set_option maxRecDepth 65536 in
set_option maxHeartbeats 40000000 in
theorem comes_1 {Post : Tables → Env → Array Value → State → Outcome → State → Prop} (hpost : ∀ tb e args s v u, (limb_1_1.after args s (.returned v) u = true ∧ limb_1_2.after args s (.returned v) u = true ∧ True) → FrameEnd s (.returned v) u (Jvm.fieldLocs frame_1_writes args s ++ Jvm.arrayLocs frame_1_arrays args s ++ Jvm.staticLocs frame_1_statics s) 0 0 → Post tb e args s (.returned v) u) :
    ArmFor flags0 classFile x code maxLocals ret World_1 tables_1 room_1 Calls_1 rest_1 Pre_1 Post := by
  intro l hfl _ _ p e ha hc hk s m args below hf hA hF happ hP
  obtain ⟨hcalls, hrest, hpre⟩ := hP
  obtain ⟨-, -, -, hnamed, -, -, -, hat⟩ := (Spec.applies_iff hf).mp happ
  obtain ⟨hg, hn⟩ := and_e (Cond.before_iff.mp (show (Jvm.Cond.and given_1 narrow_1).before args s = true from hpre))
  obtain ⟨h1, h2⟩ := and_e hg
  obtain ⟨w0, w1, rfl⟩ : ∃ w0 w1 : Value, args = #[w0, w1] := by
    have hs : args.size = 2 := by simpa [Cond.value, given_1] using h1
    obtain ⟨L⟩ := args
    match L, hs with
    | [w0, w1], _ => exact ⟨w0, w1, rfl⟩
  have hw := fun d (hd : d ∈ tables_1) => atoms_spec (ws := Jvm.Cond.code x code maxLocals ret :: tables_1) hat d (List.mem_cons_of_mem _ hd)
  obtain ⟨q0, h2⟩ := and_e h2
  obtain ⟨i0, e0⟩ := is_v q0
  obtain rfl : w0 = (.int i0) := Option.some.inj e0
  obtain ⟨i1, e1⟩ := is_v h2
  obtain rfl : w1 = (.int i1) := Option.some.inj e1
  obtain ⟨c0, hn⟩ := and_e hn
  obtain ⟨c1, hn⟩ := and_e hn
  obtain ⟨c2, hn⟩ := and_e hn
  obtain ⟨c3, hn⟩ := and_e hn
  obtain ⟨c4, hn⟩ := and_e hn
  obtain ⟨c5, hn⟩ := and_e hn
  obtain ⟨c6, hn⟩ := and_e hn
  obtain ⟨c7, hn⟩ := and_e hn
  obtain ⟨c8, hn⟩ := and_e hn
  obtain ⟨c9, hn⟩ := and_e hn
  obtain ⟨c10, hn⟩ := and_e hn
  obtain ⟨c11, hn⟩ := and_e hn
  obtain ⟨c12, hn⟩ := and_e hn
  obtain ⟨c13, hn⟩ := and_e hn
  obtain ⟨c14, hn⟩ := and_e hn
  obtain ⟨c15, hn⟩ := and_e hn
  obtain ⟨c16, hn⟩ := and_e hn
  obtain ⟨c17, hn⟩ := and_e hn
  obtain ⟨c18, c19⟩ := and_e hn
  obtain ⟨x0, v0⟩ := exa_v c0
  have X0 := Exa.start v0 c0
  have S0 := Sta.start v0 (Or.inr ⟨(hw _ (List.mem_of_getElem? (i := 6) rfl)), (hw _ (List.mem_of_getElem? (i := 7) rfl))⟩)
  obtain ⟨x1, v1⟩ := exa_v c8
  have X1 := Exa.start v1 c8
  have S1 := Sta.start v1 (Or.inr ⟨(hw _ (List.mem_of_getElem? (i := 6) rfl)), (hw _ (List.mem_of_getElem? (i := 25) rfl))⟩)
  obtain ⟨x2, v2⟩ := exa_v c12
  have X2 := Exa.start v2 c12
  have S2 := Sta.start v2 (Or.inr ⟨(hw _ (List.mem_of_getElem? (i := 6) rfl)), (hw _ (List.mem_of_getElem? (i := 29) rfl))⟩)
  obtain ⟨x3, v3⟩ := exa_v c1
  have X3 := Exa.start v3 c1
  have S3 := Sta.start v3 (Or.inr ⟨(hw _ (List.mem_of_getElem? (i := 6) rfl)), (hw _ (List.mem_of_getElem? (i := 9) rfl))⟩)
  obtain ⟨x4, v4⟩ := exa_v c2
  have X4 := Exa.start v4 c2
  have S4 := Sta.start v4 (Or.inr ⟨(hw _ (List.mem_of_getElem? (i := 6) rfl)), (hw _ (List.mem_of_getElem? (i := 16) rfl))⟩)
  have G3 := Fld.start ((fld_at v0).symm.trans (own_eqi c3))
  have G4 := Fld.start ((fld_at v4).symm.trans (own_eqi c4))
  have G5 := Fld.start ((fld_at v3).symm.trans (own_eqi c5))
  have G6 := Fld.start ((fld_at v0).symm.trans (own_eqi c6))
  have G7 := Fld.start ((fld_at v3).symm.trans (own_eqi c7))
  have G9 := Fld.start ((fld_at v1).symm.trans (own_eqi c9))
  have G10 := Fld.start ((fld_at v1).symm.trans (own_eqi c10))
  have G11 := Fld.start ((fld_at v1).symm.trans (own_eqi c11))
  have G13 := Fld.start ((fld_at v2).symm.trans (own_eqi c13))
  have G14 := Fld.start ((fld_at v2).symm.trans (own_eqi c14))
  have G15 := Fld.start ((fld_at v2).symm.trans (own_eqi c15))
  have G16 := Fld.start ((fld_at v0).symm.trans (own_eqi c16))
  have G17 := Fld.start ((fld_at v3).symm.trans (own_eqi c17))
  have G18 := Fld.start ((fld_at v4).symm.trans (own_eqi c18))
  have G19 := Fld.start ((fld_at v4).symm.trans (own_eqi c19))
  have F : own_F s s.heap (fun j => [x0, x1, x2, x3, x4].getD j 0) := ⟨⟨S0, X0, S1, X1, S2, X2, S3, X3, S4, X4, G3, G4, G5, G6, G7, G9, G10, G11, G13, G14, G15, G16, G17, G18⟩, G19⟩
  obtain ⟨n, o, h1, h2, h3, _, L, rfl, ⟨rfl, rfl, hh⟩, hq⟩ := rm0 l s _ s.heap hw i0 i1 _ F p e ha hc hk s m _ below hf ((Spec.applies_iff_loose hf).mp happ).1 ⟨rfl, State.Warmed39.refl s, rfl⟩ trivial
  refine ⟨n, _, h1, h2, h3, hpost _ _ _ _ _ _ ⟨Cond.after_iff.mpr rfl, Cond.after_iff.mpr (eq_i res_at (Term.int_eval (1)) rfl), trivial⟩ ⟨hq.1, hq.2.1, (hq.2.2.sift fun y hy => nomatch hy).mono (by decide) (by decide)⟩⟩
theorem main_1_1 : Claimed_1_1 := comes_1 fun _ _ _ _ _ _ h hF => ⟨h.1, hF⟩
theorem main_1_2 : Claimed_1_2 := comes_1 fun _ _ _ _ _ _ h hF => ⟨h.2.1, hF⟩
end Jvm.Pilot.@@N@@
namespace Jvm.Pilot.@@N@@
open Jvm Jvm.ClassFile Sem Op Lib Jvm.Free Jvm.Stand Jvm.Pilot.@@N@@.Jvm.D
/-! MADE BY PROGRAM (witnessworld.py) out of the Statement's table words and the real class files: 12 classes; the members and pool entries that the words name. The judged class is class 1, her method 3. -/
namespace start1
open Jvm.ClassFile
def u (s : String) : CpInfo := .utf8 (stringToUtf16 s)
/-- a pool by its gaps: so many unusable entries, then the entry; so many at the end -/
def gap : Nat → List CpInfo → List CpInfo
  | 0, r => r
  | n + 1, r => .unusable :: gap n r
def poolList (es : List (Nat × CpInfo)) (last : Nat) : List CpInfo := es.foldr (fun e r => gap e.1 (e.2 :: r)) (gap last [])
def pool (es : List (Nat × CpInfo)) (last : Nat) : Array CpInfo := ⟨poolList es last⟩
def fileOf (pool : Array CpInfo) (this : Nat) (attrs : Array Attribute := #[]) (ms : Array MethodInfo := #[]) (fl : Nat := 33) (sup : Nat := 0) (ifs : Array Nat := #[]) (fds : Array FieldInfo := #[]) : ClassFile where
  minorVersion := 0
  majorVersion := 65
  constantPool := pool
  accessFlags := fl
  thisClass := this
  superClass := sup
  interfaces := ifs
  fields := fds
  methods := ms
  attributes := attrs
def plain (name : String) (sup : Option ClassId) : Class where
  name := name
  kind := .ordinary
  loader := none
  accessFlags := 33
  super := sup
  interfaces := #[]
  cf := none
  fields := #[]
  methods := #[]
  instanceTypes := #[]
  staticTypes := #[]
  resolved := #[]
  callSites := []
  init := .initialized
  statics := none
  mirror := none

def pool0 : Array CpInfo := pool [(5, u "<init>"), (0, u "()V"), (1, .class_ 10), (1, u "java/lang/Object")] 113

def k0m0 : Method := { name := "<init>", desc := "()V", sig := { parameters := [], returnType := none }, accessFlags := 1, code := none }
/-- java/lang/Object -/
def k0 : Class := { plain "java/lang/Object" none with
  accessFlags := 33
  interfaces := #[]
  cf := some (fileOf pool0 8 #[] #[{ accessFlags := 1, nameIndex := 5, descriptorIndex := 6, attributes := #[] }] 33 0 #[] #[])
  fields := #[]
  methods := #[k0m0]
  instanceTypes := #[]
  staticTypes := #[]
  resolved := Array.replicate 124 none
  statics := none }

def pool1 : Array CpInfo := pool [(2, .class_ 4), (1, u "java/lang/Object"), (0, u "<init>"), (0, u "()V"), (0, .fieldref 8 9), (0, .class_ 10), (0, .nameAndType 11 12), (0, u "com/example/row_lock_engine/rowlockengine/engine/LockKind"), (0, u "RECORD"), (0, u "Lcom/example/row_lock_engine/rowlockengine/engine/LockKind;"), (0, .fieldref 8 14), (0, .nameAndType 15 12), (0, u "GAP"), (0, .fieldref 8 17), (0, .nameAndType 18 12), (0, u "NEXT_KEY"), (0, .fieldref 8 20), (0, .nameAndType 21 12), (0, u "INSERT_INTENTION"), (0, .fieldref 8 23), (0, .nameAndType 24 12), (0, u "TABLE"), (0, .integer 2147483647), (0, .methodref 27 28), (0, .class_ 29), (0, .nameAndType 30 31), (0, u "com/example/row_lock_engine/rowlockengine/engine/LockKindWaitsForPinLaw"), (0, u "kind"), (0, u "(I)Lcom/example/row_lock_engine/rowlockengine/engine/LockKind;"), (0, .methodref 8 33), (0, .nameAndType 34 35), (0, u "waitsFor"), (0, u "(Lcom/example/row_lock_engine/rowlockengine/engine/LockKind;)Z"), (0, .methodref 27 37), (0, .nameAndType 38 39), (0, u "expected"), (0, u "(II)Z"), (3, u "law")] 2

def k1m0 : Method := { name := "<init>", desc := "()V", sig := { parameters := [], returnType := none }, accessFlags := 2, code := none }
def k1c1 : Code := { maxStack := 2, maxLocals := 1, code := method_2_code, exceptionTable := #[], attributes := #[] }
def k1m1 : Method := { name := "kind", desc := "(I)Lcom/example/row_lock_engine/rowlockengine/engine/LockKind;", sig := { parameters := [.int], returnType := some (.object "com/example/row_lock_engine/rowlockengine/engine/LockKind") }, accessFlags := 10, code := some k1c1 }
def k1c2 : Code := { maxStack := 2, maxLocals := 2, code := method_3_code, exceptionTable := #[], attributes := #[] }
def k1m2 : Method := { name := "expected", desc := "(II)Z", sig := { parameters := [.int, .int], returnType := some .boolean }, accessFlags := 10, code := some k1c2 }
def k1c3 : Code := { maxStack := 3, maxLocals := 6, code := code, exceptionTable := #[], attributes := #[] }
def k1m3 : Method := { name := "law", desc := "(II)Z", sig := { parameters := [.int, .int], returnType := some .boolean }, accessFlags := 9, code := some k1c3 }
/-- com/example/row_lock_engine/rowlockengine/engine/LockKindWaitsForPinLaw -/
def k1 : Class := { plain "com/example/row_lock_engine/rowlockengine/engine/LockKindWaitsForPinLaw" (some 0) with
  accessFlags := 49
  interfaces := #[]
  cf := some (fileOf pool1 27 #[] #[{ accessFlags := 2, nameIndex := 5, descriptorIndex := 6, attributes := #[] }, { accessFlags := 10, nameIndex := 30, descriptorIndex := 31, attributes := #[] }, { accessFlags := 10, nameIndex := 38, descriptorIndex := 39, attributes := #[] }, { accessFlags := 9, nameIndex := 43, descriptorIndex := 39, attributes := #[] }] 49 2 #[] #[])
  fields := #[]
  methods := #[k1m0, k1m1, k1m2, k1m3]
  instanceTypes := #[]
  staticTypes := #[]
  resolved := Array.replicate 46 none
  statics := none }

def pool2 : Array CpInfo := pool [(1, .class_ 2), (0, u "java/lang/constant/Constable"), (0, .class_ 4), (0, u "java/lang/Object")] 6

/-- java/lang/constant/Constable -/
def k2 : Class := { plain "java/lang/constant/Constable" (some 0) with
  accessFlags := 1537
  interfaces := #[]
  cf := some (fileOf pool2 1 #[] #[] 1537 3 #[] #[])
  fields := #[]
  methods := #[]
  instanceTypes := #[]
  staticTypes := #[]
  resolved := Array.replicate 11 none
  statics := none }

def pool3 : Array CpInfo := pool [(1, .class_ 2), (0, u "java/lang/Comparable"), (0, .class_ 4), (0, u "java/lang/Object")] 7

/-- java/lang/Comparable -/
def k3 : Class := { plain "java/lang/Comparable" (some 0) with
  accessFlags := 1537
  interfaces := #[]
  cf := some (fileOf pool3 1 #[] #[] 1537 3 #[] #[])
  fields := #[]
  methods := #[]
  instanceTypes := #[]
  staticTypes := #[]
  resolved := Array.replicate 12 none
  statics := none }

def pool4 : Array CpInfo := pool [(1, .class_ 2), (0, u "java/io/Serializable"), (0, .class_ 4), (0, u "java/lang/Object")] 2

/-- java/io/Serializable -/
def k4 : Class := { plain "java/io/Serializable" (some 0) with
  accessFlags := 1537
  interfaces := #[]
  cf := some (fileOf pool4 1 #[] #[] 1537 3 #[] #[])
  fields := #[]
  methods := #[]
  instanceTypes := #[]
  staticTypes := #[]
  resolved := Array.replicate 7 none
  statics := none }

def pool5 : Array CpInfo := pool [(2, .class_ 4), (1, u "java/lang/Enum"), (0, u "name"), (0, u "Ljava/lang/String;"), (2, u "ordinal"), (0, u "I"), (1, .class_ 14), (1, u "java/lang/Object"), (4, u "hash"), (86, .class_ 108), (1, u "java/lang/Enum$EnumDesc"), (2, .class_ 112), (0, u "java/lang/constant/Constable"), (0, .class_ 114), (0, u "java/lang/Comparable"), (0, .class_ 116), (0, u "java/io/Serializable")] 87

/-- java/lang/Enum -/
def k5 : Class := { plain "java/lang/Enum" (some 0) with
  accessFlags := 1057
  interfaces := #[2, 3, 4]
  cf := some (fileOf pool5 2 #[.nestMembers #[106]] #[] 1057 12 #[111, 113, 115] #[{ accessFlags := 18, nameIndex := 5, descriptorIndex := 6, attributes := #[] }, { accessFlags := 18, nameIndex := 9, descriptorIndex := 10, attributes := #[] }, { accessFlags := 2, nameIndex := 19, descriptorIndex := 10, attributes := #[] }])
  fields := #[{ name := "name", type := (.object "java/lang/String"), accessFlags := 18, slot := 0, constantValue := 0 }, { name := "ordinal", type := .int, accessFlags := 18, slot := 1, constantValue := 0 }, { name := "hash", type := .int, accessFlags := 2, slot := 2, constantValue := 0 }]
  methods := #[]
  instanceTypes := #[(.object "java/lang/String"), .int, .int]
  staticTypes := #[]
  resolved := Array.replicate 204 none
  statics := none }

def pool6 : Array CpInfo := pool [(1, .class_ 2), (0, u "com/example/row_lock_engine/rowlockengine/engine/LockKind"), (2, u "RECORD"), (0, u "Lcom/example/row_lock_engine/rowlockengine/engine/LockKind;"), (2, u "GAP"), (2, u "NEXT_KEY"), (0, .fieldref 1 14), (0, .nameAndType 15 6), (0, u "INSERT_INTENTION"), (0, .fieldref 1 17), (0, .nameAndType 18 6), (0, u "TABLE"), (2, u "$VALUES"), (0, u "[Lcom/example/row_lock_engine/rowlockengine/engine/LockKind;"), (6, .class_ 31), (1, u "java/lang/Enum"), (6, .fieldref 1 39), (0, .nameAndType 40 41), (0, u "record"), (0, u "Z"), (0, .fieldref 1 43), (0, .nameAndType 44 41), (0, u "gap"), (21, u "waitsFor"), (0, u "(Lcom/example/row_lock_engine/rowlockengine/engine/LockKind;)Z")] 7

def k6c0 : Code := { maxStack := 2, maxLocals := 2, code := prog_52_method_5_code, exceptionTable := #[], attributes := #[] }
def k6m0 : Method := { name := "waitsFor", desc := "(Lcom/example/row_lock_engine/rowlockengine/engine/LockKind;)Z", sig := { parameters := [(.object "com/example/row_lock_engine/rowlockengine/engine/LockKind")], returnType := some .boolean }, accessFlags := 0, code := some k6c0 }
/-- com/example/row_lock_engine/rowlockengine/engine/LockKind -/
def k6 : Class := { plain "com/example/row_lock_engine/rowlockengine/engine/LockKind" (some 5) with
  accessFlags := 16432
  interfaces := #[]
  cf := some (fileOf pool6 1 #[] #[{ accessFlags := 0, nameIndex := 66, descriptorIndex := 67, attributes := #[] }] 16432 29 #[] #[{ accessFlags := 16409, nameIndex := 5, descriptorIndex := 6, attributes := #[] }, { accessFlags := 16409, nameIndex := 9, descriptorIndex := 6, attributes := #[] }, { accessFlags := 16409, nameIndex := 12, descriptorIndex := 6, attributes := #[] }, { accessFlags := 16409, nameIndex := 15, descriptorIndex := 6, attributes := #[] }, { accessFlags := 16409, nameIndex := 18, descriptorIndex := 6, attributes := #[] }, { accessFlags := 18, nameIndex := 40, descriptorIndex := 41, attributes := #[] }, { accessFlags := 18, nameIndex := 44, descriptorIndex := 41, attributes := #[] }, { accessFlags := 4122, nameIndex := 21, descriptorIndex := 22, attributes := #[] }])
  fields := #[{ name := "RECORD", type := (.object "com/example/row_lock_engine/rowlockengine/engine/LockKind"), accessFlags := 16409, slot := 0, constantValue := 0 }, { name := "GAP", type := (.object "com/example/row_lock_engine/rowlockengine/engine/LockKind"), accessFlags := 16409, slot := 1, constantValue := 0 }, { name := "NEXT_KEY", type := (.object "com/example/row_lock_engine/rowlockengine/engine/LockKind"), accessFlags := 16409, slot := 2, constantValue := 0 }, { name := "INSERT_INTENTION", type := (.object "com/example/row_lock_engine/rowlockengine/engine/LockKind"), accessFlags := 16409, slot := 3, constantValue := 0 }, { name := "TABLE", type := (.object "com/example/row_lock_engine/rowlockengine/engine/LockKind"), accessFlags := 16409, slot := 4, constantValue := 0 }, { name := "record", type := .boolean, accessFlags := 18, slot := 3, constantValue := 0 }, { name := "gap", type := .boolean, accessFlags := 18, slot := 4, constantValue := 0 }, { name := "$VALUES", type := (.array (.object "com/example/row_lock_engine/rowlockengine/engine/LockKind")), accessFlags := 4122, slot := 5, constantValue := 0 }]
  methods := #[k6m0]
  instanceTypes := #[(.object "java/lang/String"), .int, .int, .boolean, .boolean]
  staticTypes := #[(.object "com/example/row_lock_engine/rowlockengine/engine/LockKind"), (.object "com/example/row_lock_engine/rowlockengine/engine/LockKind"), (.object "com/example/row_lock_engine/rowlockengine/engine/LockKind"), (.object "com/example/row_lock_engine/rowlockengine/engine/LockKind"), (.object "com/example/row_lock_engine/rowlockengine/engine/LockKind"), (.array (.object "com/example/row_lock_engine/rowlockengine/engine/LockKind"))]
  resolved := Array.replicate 75 none
  statics := some 0 }

def pool7 : Array CpInfo := pool [(1, u "java/lang/Cloneable"), (0, .class_ 1), (0, u "java/lang/Object"), (0, .class_ 3)] 3

/-- java/lang/Cloneable -/
def k7 : Class := { plain "java/lang/Cloneable" (some 0) with
  accessFlags := 1537
  interfaces := #[]
  cf := some (fileOf pool7 2 #[] #[] 1537 4 #[] #[])
  fields := #[]
  methods := #[]
  instanceTypes := #[]
  staticTypes := #[]
  resolved := Array.replicate 8 none
  statics := none }

/-- the primitive byte -/
def k8 : Class := { plain "byte" none with kind := .primitive 'B', accessFlags := 0x411 }
/-- [B -/
def k9 : Class := { plain "[B" (some 0) with kind := .array 8 .byte, interfaces := #[7, 4], accessFlags := 1041 }

/-- the primitive int -/
def k10 : Class := { plain "int" none with kind := .primitive 'I', accessFlags := 0x411 }
/-- [I -/
def k11 : Class := { plain "[I" (some 0) with kind := .array 10 .int, interfaces := #[7, 4], accessFlags := 1041 }

def heap : Heap := #[{ cls := 6, slots := #[.ref 1, .ref 4, .ref 5, .ref 2, .ref 3, .null], vm := .statics 6 },
  { cls := 6, slots := #[.null, .int 0, .int 0, .int 1, .int 0], vm := .none },
  { cls := 6, slots := #[.null, .int 3, .int 0, .int 0, .int 0], vm := .none },
  { cls := 6, slots := #[.null, .int 4, .int 0, .int 0, .int 0], vm := .none },
  { cls := 6, slots := #[.null, .int 1, .int 0, .int 0, .int 1], vm := .none },
  { cls := 6, slots := #[.null, .int 2, .int 0, .int 1, .int 1], vm := .none }]
def classes : Array Class := #[k0, k1, k2, k3, k4, k5, k6, k7, k8, k9, k10, k11]
def interned : List (Array UInt16 × Addr) := []
def slotsUsed : Nat := 31
def theMethod : MethodId := ⟨1, 3⟩
def args0 : Array Value := #[.int 5, .int 3]
def aboutOver (below : List Frame) : State where
  vm := { classes := classes, interned := interned.toArray }
  heap := heap
  slotsUsed := slotsUsed
  threads := #[{ frames := .invoking theMethod args0 :: below }]
def below0 : List Frame := [.native { method := ⟨0, 0⟩, args := #[] }]
def about1 : State := aboutOver below0
def p0 : Program := .bare "" "" ""
def e0 : Env := launch0.env 0 0 0
theorem w_frames : about1.frames = Frame.invoking theMethod args0 :: below0 := rfl
set_option maxRecDepth 65536 in
theorem w_args : argsFit about1.vm theMethod args0 = true := by decide +kernel
set_option maxRecDepth 65536 in
theorem w_heap : heapFits about1 = true := by decide +kernel
set_option maxRecDepth 65536 in
theorem w_runnable : about1.curStatus? = some .runnable := by decide +kernel
set_option maxRecDepth 65536 in
theorem w_alone : about1.alone = true := by decide +kernel
set_option maxRecDepth 65536 in
theorem w_named : about1.methodNamed? x = some theMethod := by decide +kernel
set_option maxRecDepth 65536 in
theorem w_hears : about1.hears theMethod below0 = true := by decide +kernel
set_option maxRecDepth 65536 in
theorem w_ripe : about1.ripe theMethod args0 below0 = true := by decide +kernel
theorem w_running : about1.status = .running := rfl
set_option maxRecDepth 65536 in
theorem w_room : about1.hasRoom e0.platform room_1 = true :=
  launch0.hasRoom_least _ room_1 (by decide +kernel) (by decide +kernel) (by decide +kernel) (by decide +kernel) (by decide +kernel) (by decide +kernel)
theorem allAtoms_all (ts : List Jvm.Cond) (a : Array Jvm.Value) (st : Jvm.State) : (allAtoms ts).before a st = ts.all (fun c => c.before a st) := by
  induction ts with
  | nil => rfl
  | cons c t ih =>
    show (Jvm.Cond.and c (allAtoms t)).before a st = _
    rw [Jvm.Cond.before_and, ih, List.all_cons]
def words1 : List Jvm.Cond := Jvm.Cond.code x code maxLocals ret :: tables_1
/-- a 'code' word, met by the world's own term for the bytes: nothing is compared byte by byte -/
theorem code_word {y : MethodName} {bytes : ByteArray} {mx : Nat} {rt : Option FieldType} {a : Array Value} {s : State} {m : MethodId} {meth : Method} {c : Code} (h1 : s.methodNamed? y = some m) (h2 : s.vm.method? m = some meth) (h3 : meth.code = some c) (h4 : c.code = bytes)
    (h5 : (c.maxLocals == mx && c.exceptionTable.isEmpty && decide (c.maxStack ≤ mostOperands) && decide (meth.sig.returnType = rt) && !meth.locks && decide (parseMethodDescriptor y.desc = some meth.sig)) = true) : (Jvm.Cond.code y bytes mx rt).before a s = true := by
  simp only [Bool.and_eq_true, beq_iff_eq, Bool.not_eq_true', decide_eq_true_eq] at h5
  obtain ⟨⟨⟨⟨⟨g1, g2⟩, g3⟩, g4⟩, g5⟩, g6⟩ := h5
  simp [Cond.before, Cond.holds, Cond.value, h1, h2, h3, h4, g1, g2, g3, g4, g5, g6]
def isCode : Jvm.Cond → Bool
  | .code _ _ _ _ => true
  | _ => false
theorem all_split {L : List Jvm.Cond} {P : Jvm.Cond → Bool} (h1 : L.all (fun c => isCode c || P c) = true) (h2 : ∀ c ∈ L.filter isCode, P c = true) : L.all P = true := by
  refine List.all_eq_true.mpr fun c hc => ?_
  have h := List.all_eq_true.mp h1 c hc
  rcases Bool.eq_false_or_eq_true (isCode c) with hi | hi
  · exact h2 c (List.mem_filter.mpr ⟨hc, hi⟩)
  · simpa [hi] using h
set_option maxRecDepth 65536 in
theorem w_c0 : (Jvm.Cond.code x code maxLocals ret).before args0 about1 = true := code_word (m := ⟨1, 3⟩) (meth := k1m3) (c := k1c3) (by decide +kernel) rfl rfl rfl (by decide +kernel)
set_option maxRecDepth 65536 in
theorem w_c1 : (Jvm.Cond.code ({ cls := "com/example/row_lock_engine/rowlockengine/engine/LockKindWaitsForPinLaw", name := "kind", desc := "(I)Lcom/example/row_lock_engine/rowlockengine/engine/LockKind;" } : Jvm.MethodName) method_2_code (1 : Nat) (Option.some (Jvm.ClassFile.FieldType.object "com/example/row_lock_engine/rowlockengine/engine/LockKind"))).before args0 about1 = true := code_word (m := ⟨1, 1⟩) (meth := k1m1) (c := k1c1) (by decide +kernel) rfl rfl rfl (by decide +kernel)
set_option maxRecDepth 65536 in
theorem w_c2 : (Jvm.Cond.code ({ cls := "com/example/row_lock_engine/rowlockengine/engine/LockKind", name := "waitsFor", desc := "(Lcom/example/row_lock_engine/rowlockengine/engine/LockKind;)Z" } : Jvm.MethodName) prog_52_method_5_code (2 : Nat) (Option.some Jvm.ClassFile.FieldType.boolean)).before args0 about1 = true := code_word (m := ⟨6, 0⟩) (meth := k6m0) (c := k6c0) (by decide +kernel) rfl rfl rfl (by decide +kernel)
set_option maxRecDepth 65536 in
theorem w_c3 : (Jvm.Cond.code ({ cls := "com/example/row_lock_engine/rowlockengine/engine/LockKindWaitsForPinLaw", name := "expected", desc := "(II)Z" } : Jvm.MethodName) method_3_code (2 : Nat) (Option.some Jvm.ClassFile.FieldType.boolean)).before args0 about1 = true := code_word (m := ⟨1, 2⟩) (meth := k1m2) (c := k1c2) (by decide +kernel) rfl rfl rfl (by decide +kernel)
def codes1 : List Jvm.Cond := [Jvm.Cond.code x code maxLocals ret, Jvm.Cond.code ({ cls := "com/example/row_lock_engine/rowlockengine/engine/LockKindWaitsForPinLaw", name := "kind", desc := "(I)Lcom/example/row_lock_engine/rowlockengine/engine/LockKind;" } : Jvm.MethodName) method_2_code (1 : Nat) (Option.some (Jvm.ClassFile.FieldType.object "com/example/row_lock_engine/rowlockengine/engine/LockKind")), Jvm.Cond.code ({ cls := "com/example/row_lock_engine/rowlockengine/engine/LockKind", name := "waitsFor", desc := "(Lcom/example/row_lock_engine/rowlockengine/engine/LockKind;)Z" } : Jvm.MethodName) prog_52_method_5_code (2 : Nat) (Option.some Jvm.ClassFile.FieldType.boolean), Jvm.Cond.code ({ cls := "com/example/row_lock_engine/rowlockengine/engine/LockKindWaitsForPinLaw", name := "expected", desc := "(II)Z" } : Jvm.MethodName) method_3_code (2 : Nat) (Option.some Jvm.ClassFile.FieldType.boolean)]
set_option maxRecDepth 65536 in
theorem codes_eq : words1.filter isCode = codes1 := rfl
theorem w_codes : ∀ c ∈ words1.filter isCode, c.before args0 about1 = true := by
  rw [codes_eq]
  intro c hc
  simp only [codes1, List.mem_cons, List.not_mem_nil, or_false] at hc
  rcases hc with rfl | rfl | rfl | rfl
  · exact w_c0
  · exact w_c1
  · exact w_c2
  · exact w_c3
set_option maxRecDepth 65536 in
theorem w_t1 : (words1.take 24).all (fun c => isCode c || c.before args0 about1) = true := by decide +kernel
set_option maxRecDepth 65536 in
theorem w_t2 : (words1.drop 24).all (fun c => isCode c || c.before args0 about1) = true := by decide +kernel
theorem w_tables : (allAtoms (Jvm.Cond.code x code maxLocals ret :: tables_1)).before args0 about1 = true := by
  rw [allAtoms_all]
  show words1.all (fun c => c.before args0 about1) = true
  refine all_split ?_ w_codes
  rw [← List.take_append_drop 24 words1, List.all_append, w_t1, w_t2]
  rfl
set_option maxRecDepth 65536 in
theorem w_case : (Jvm.Cond.and given_1 narrow_1).before args0 about1 = true := by decide +kernel
theorem w_applies : (headSpec (Jvm.Cond.code x code maxLocals ret :: tables_1) room_1).applies x e0.platform about1 = true :=
  (Spec.applies_iff w_frames).mpr ⟨w_running, w_runnable, w_alone, w_named, w_hears, w_ripe, w_room, w_tables⟩
theorem atStart : AtStart classFile x code maxLocals ret World_1 tables_1 room_1 Calls_1 rest_1 Pre_1 launch0 p0 e0 about1 theMethod args0 below0 :=
  ⟨lists_1, trivial, launch0.admits_env _ _ _, launch0.least_env, fairChoices_fair.cas, fairChoices_fair.clock, w_frames, w_args, w_heap, w_applies, trivial, trivial, w_case⟩
end start1
theorem witness_1 : WitnessClaimed_1 := ⟨start1.p0, start1.e0, start1.about1, start1.theMethod, start1.args0, start1.below0, start1.atStart⟩
end Jvm.Pilot.@@N@@
