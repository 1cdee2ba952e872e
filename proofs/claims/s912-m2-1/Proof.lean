import JvmDerived
import JvmDerived.Pilot.@@N@@Statement
import JvmDerived.Pilot.@@N@@Code
set_option linter.unusedVariables false
set_option linter.unusedSimpArgs false
namespace Jvm.Pilot.@@N@@
open Jvm Jvm.ClassFile Sem Op Lib Jvm.Free Jvm.Stand Jvm.LawKit Jvm.RoadKit Bundle Jvm.Pilot.@@N@@.Jvm.D
section Own
variable {p : Program} {l : Launch} {e : Env} {R : Room} {s : State} {m : MethodId} {args : Array Value} {below : List Frame} {meth : Method} {c : Code} {Z : State} {a0 : Array Value} {h : Heap} {bytes : ByteArray} {own : String} {rt : FieldType} {ml : Nat} {pc : Nat} {Ls : Array Slot} {stk rest : List Value} {v : Value}
/-- what every step of a body that writes nothing asks -/
def own_C (p : Program) (s : State) (m : MethodId) (meth : Method) (c : Code) (Z : State) (bytes : ByteArray) (own : String) (rt : FieldType) (ml : Nat) : Prop :=
  p.tables.exec = Jvm.exec ∧ Z.Warmed39 s.vm ∧ s.vm.findClass own = some m.cls ∧ c.code = bytes ∧ meth.sig.returnType = some rt ∧ meth.locks = false ∧ c.maxLocals = ml
/-- from this pc, these locals and this operand stack the body returns v and leaves the heap h as it is -/
def own_E (p : Program) (l : Launch) (e : Env) (R : Room) (s : State) (m : MethodId) (args : Array Value) (below : List Frame) (meth : Method) (c : Code) (h : Heap) (pc : Nat) (Ls : Array Slot) (stk : List Value) (v : Value) : Prop :=
  ∀ T, Stand p l e R s m args below meth c T [] 0 0 → T.heap = h → ∃ s₂, Steps p.tables e below (T.setTop (mkF m pc Ls stk)) s₂ ∧ s₂.status = .running ∧ Ended s₂ below (.returned (some v)) ∧ s₂.heap = h ∧ FrameEnd s (.returned (some v)) s₂ [] 0 0
/-- the contract of such a body -/
def own_M (l : Launch) (y : MethodName) (bytes : ByteArray) (ml : Nat) (rt : FieldType) (ws : List Jvm.Cond) (rm : Room) (Z : State) (h : Heap) (as : Array Value) (v : Value) : Prop :=
  MetFree l y (head1 (Jvm.Cond.code y bytes ml (some rt) :: ws) rm) (fun a U => a = as ∧ Z.Warmed39 U.vm ∧ U.heap = h) (fun _ _ _ _ _ => True) (fun _ U o U' => ∃ v' L, o = .returned v' ∧ (v' = some v ∧ L = [] ∧ U'.heap = h) ∧ FrameEnd U o U' L rm.cells rm.slots)
theorem own_met {l : Launch} {y : MethodName} {bytes : ByteArray} {ml : Nat} {rt : FieldType} {ws : List Jvm.Cond} {f n : Nat} {Z : State} {h : Heap} {as : Array Value} {v : Value} {Ls : Array Slot} (hp : plainName y.cls = true)
    (hef : ∀ m, entryFrame m as ml = mkF m 0 Ls [])
    (body : ∀ (p : Program) (e : Env) (s : State) (m : MethodId) (below : List Frame) (meth : Method) (c : Code), own_C p s m meth c Z bytes y.cls rt ml → own_E p l e { frames := f, cells := 0, slots := 0, locals := n } s m as below meth c h 0 Ls [] v) :
    own_M l y bytes ml rt ws { frames := f, cells := 0, slots := 0, locals := n } Z h as v := by
  refine MetFree.of_bodySF (plainFor_of_name hp) hisR ?_
  intro p e s m args below meth c s₁ Bd hml0 hP hK
  obtain ⟨rfl, hZ, hh⟩ := hP
  have X0 : Stand p l e ({ frames := f, cells := 0, slots := 0, locals := n } : Room) s m args below meth c s₁ [] 0 0 := Stand.of_body Bd
  have e0 : s₁.heap = h := by rw [← hh, Bd.state]; rfl
  obtain ⟨s₂, q1, q2, q3, q4, q5⟩ := body p e s m below meth c ⟨Bd.exec, hZ, findClass_of_methodNamed Bd.named, Bd.bytes, Bd.returns, Bd.notSynchronized, hml0⟩ s₁ X0 e0
  exact ⟨s₂, _, castTop (hef m) q1, q2, q3, _, _, rfl, ⟨rfl, rfl, q4⟩, q5⟩
theorem own_iloadN (K : own_C p s m meth c Z bytes own rt ml) {k : Fin 4} {x : Int32} (hd : decode bytes pc = .ok (.iload_n k, 1)) (hl : Ls[k.val]? = some (.val (.int x)))
    (r : own_E p l e R s m args below meth c h (pc + 1) Ls (.int x :: stk) v) : own_E p l e R s m args below meth c h pc Ls stk v := fun T X eT => by
  obtain ⟨s₂, st, q⟩ := r T X eT
  exact ⟨s₂, XS.iloadN X.here K.1 rfl (hb K.2.2.2.1 hd) hl st, q⟩
theorem own_iload (K : own_C p s m meth c Z bytes own rt ml) {k : Nat} {x : Int32} (hd : decode bytes pc = .ok (.iload k, 2)) (hl : Ls[k]? = some (.val (.int x)))
    (r : own_E p l e R s m args below meth c h (pc + 2) Ls (.int x :: stk) v) : own_E p l e R s m args below meth c h pc Ls stk v := fun T X eT => by
  obtain ⟨s₂, st, q⟩ := r T X eT
  exact ⟨s₂, XS.iload X.here K.1 rfl (hb K.2.2.2.1 hd) hl st, q⟩
theorem own_aloadN (K : own_C p s m meth c Z bytes own rt ml) {k : Fin 4} {x : Value} (hd : decode bytes pc = .ok (.aload_n k, 1)) (hl : Ls[k.val]? = some (.val x)) (hv : x.isRef = true)
    (r : own_E p l e R s m args below meth c h (pc + 1) Ls (x :: stk) v) : own_E p l e R s m args below meth c h pc Ls stk v := fun T X eT => by
  obtain ⟨s₂, st, q⟩ := r T X eT
  exact ⟨s₂, XS.aloadN X.here K.1 rfl (hb K.2.2.2.1 hd) hl hv st, q⟩
theorem own_aload (K : own_C p s m meth c Z bytes own rt ml) {k : Nat} {x : Value} (hd : decode bytes pc = .ok (.aload k, 2)) (hl : Ls[k]? = some (.val x)) (hv : x.isRef = true)
    (r : own_E p l e R s m args below meth c h (pc + 2) Ls (x :: stk) v) : own_E p l e R s m args below meth c h pc Ls stk v := fun T X eT => by
  obtain ⟨s₂, st, q⟩ := r T X eT
  exact ⟨s₂, XS.aload X.here K.1 rfl (hb K.2.2.2.1 hd) hl hv st, q⟩
theorem own_iconst (K : own_C p s m meth c Z bytes own rt ml) {i : Int} (hd : decode bytes pc = .ok (.iconst i, 1)) {x : Int32} (hx : Int32.ofInt i = x)
    (r : own_E p l e R s m args below meth c h (pc + 1) Ls (.int x :: stk) v) : own_E p l e R s m args below meth c h pc Ls stk v := fun T X eT => by
  subst hx
  obtain ⟨s₂, st, q⟩ := r T X eT
  exact ⟨s₂, XS.iconst X.here K.1 rfl (hb K.2.2.2.1 hd) st, q⟩
theorem own_bipush (K : own_C p s m meth c Z bytes own rt ml) {i : Int} (hd : decode bytes pc = .ok (.bipush i, 2)) {x : Int32} (hx : (Int8.ofInt i).toInt32 = x)
    (r : own_E p l e R s m args below meth c h (pc + 2) Ls (.int x :: stk) v) : own_E p l e R s m args below meth c h pc Ls stk v := fun T X eT => by
  subst hx
  obtain ⟨s₂, st, q⟩ := r T X eT
  exact ⟨s₂, XS.bipush X.here K.1 rfl (hb K.2.2.2.1 hd) st, q⟩
theorem own_ldc (K : own_C p s m meth c Z bytes own rt ml) {i : Nat} {x : Int32} (w : (Jvm.Cond.constant own i x).before a0 Z = true) (hd : decode bytes pc = .ok (.ldc i, 2))
    (r : own_E p l e R s m args below meth c h (pc + 2) Ls (.int x :: stk) v) : own_E p l e R s m args below meth c h pc Ls stk v := fun T X eT => by
  obtain ⟨s₂, st, q⟩ := r T X eT
  exact ⟨s₂, X.ldcI K.1 K.2.2.1 (mvT K.2.1 w) rfl (hb K.2.2.2.1 hd) st, q⟩
theorem own_iand (K : own_C p s m meth c Z bytes own rt ml) {x y : Int32} (hd : decode bytes pc = .ok (.iand, 1))
    (r : own_E p l e R s m args below meth c h (pc + 1) Ls (.int (x &&& y) :: rest) v) : own_E p l e R s m args below meth c h pc Ls (.int y :: .int x :: rest) v := fun T X eT => by
  obtain ⟨s₂, st, q⟩ := r T X eT
  exact ⟨s₂, XS.iand X.here K.1 rfl (hb K.2.2.2.1 hd) rfl st, q⟩
theorem own_irem (K : own_C p s m meth c Z bytes own rt ml) {x y : Int32} (hd : decode bytes pc = .ok (.irem, 1)) (hy : y ≠ 0)
    (r : own_E p l e R s m args below meth c h (pc + 1) Ls (.int (x % y) :: rest) v) : own_E p l e R s m args below meth c h pc Ls (.int y :: .int x :: rest) v := fun T X eT => by
  obtain ⟨s₂, st, q⟩ := r T X eT
  exact ⟨s₂, iremM X K.1 rfl (hb K.2.2.2.1 hd) rfl hy st, q⟩
theorem own_istoreN (K : own_C p s m meth c Z bytes own rt ml) {k : Fin 4} {x : Int32} {Ls' : Array Slot} (hd : decode bytes pc = .ok (.istore_n k, 1)) (hl : storeLocals Ls k.val (.int x) = some Ls')
    (r : own_E p l e R s m args below meth c h (pc + 1) Ls' rest v) : own_E p l e R s m args below meth c h pc Ls (.int x :: rest) v := fun T X eT => by
  obtain ⟨s₂, st, q⟩ := r T X eT
  exact ⟨s₂, XS.istoreN X.here K.1 rfl (hb K.2.2.2.1 hd) rfl hl st, q⟩
theorem own_istore (K : own_C p s m meth c Z bytes own rt ml) {k : Nat} {x : Int32} {Ls' : Array Slot} (hd : decode bytes pc = .ok (.istore k, 2)) (hl : storeLocals Ls k (.int x) = some Ls')
    (r : own_E p l e R s m args below meth c h (pc + 2) Ls' rest v) : own_E p l e R s m args below meth c h pc Ls (.int x :: rest) v := fun T X eT => by
  obtain ⟨s₂, st, q⟩ := r T X eT
  exact ⟨s₂, XS.istore X.here K.1 rfl (hb K.2.2.2.1 hd) rfl hl st, q⟩
theorem own_astoreN (K : own_C p s m meth c Z bytes own rt ml) {k : Fin 4} {x : Value} {Ls' : Array Slot} (hd : decode bytes pc = .ok (.astore_n k, 1)) (hv : x.isRef = true) (hl : storeLocals Ls k.val x = some Ls')
    (r : own_E p l e R s m args below meth c h (pc + 1) Ls' rest v) : own_E p l e R s m args below meth c h pc Ls (x :: rest) v := fun T X eT => by
  obtain ⟨s₂, st, q⟩ := r T X eT
  exact ⟨s₂, XS.astoreN X.here K.1 rfl (hb K.2.2.2.1 hd) rfl hv hl st, q⟩
theorem own_astore (K : own_C p s m meth c Z bytes own rt ml) {k : Nat} {x : Value} {Ls' : Array Slot} (hd : decode bytes pc = .ok (.astore k, 2)) (hv : x.isRef = true) (hl : storeLocals Ls k x = some Ls')
    (r : own_E p l e R s m args below meth c h (pc + 2) Ls' rest v) : own_E p l e R s m args below meth c h pc Ls (x :: rest) v := fun T X eT => by
  obtain ⟨s₂, st, q⟩ := r T X eT
  exact ⟨s₂, XS.astore X.here K.1 rfl (hb K.2.2.2.1 hd) rfl hv hl st, q⟩
theorem own_goto (K : own_C p s m meth c Z bytes own rt ml) {o : Int} {pc' : Nat} (hd : decode bytes pc = .ok (.goto o, 3)) (ho : 0 ≤ (pc : Int) + o) (hp : ((pc : Int) + o).toNat = pc')
    (r : own_E p l e R s m args below meth c h pc' Ls stk v) : own_E p l e R s m args below meth c h pc Ls stk v := fun T X eT => by
  obtain ⟨s₂, st, q⟩ := r T X eT
  exact ⟨s₂, XS.goto X.here K.1 rfl (pc0 := pc) (pc' := pc') rfl (hb K.2.2.2.1 hd) ho hp st, q⟩
theorem own_ifY (K : own_C p s m meth c Z bytes own rt ml) {cd : ClassFile.Cond} {x : Int32} {o : Int} {pc' : Nat} (hd : decode bytes pc = .ok (.ifCond cd o, 3)) (hc : ifCond.holds cd x = true) (ho : 0 ≤ (pc : Int) + o) (hp : ((pc : Int) + o).toNat = pc')
    (r : own_E p l e R s m args below meth c h pc' Ls rest v) : own_E p l e R s m args below meth c h pc Ls (.int x :: rest) v := fun T X eT => by
  obtain ⟨s₂, st, q⟩ := r T X eT
  exact ⟨s₂, XS.ifYes X.here K.1 rfl (pc0 := pc) (pc' := pc') rfl (hb K.2.2.2.1 hd) rfl hc ho hp st, q⟩
theorem own_ifN (K : own_C p s m meth c Z bytes own rt ml) {cd : ClassFile.Cond} {x : Int32} {o : Int} (hd : decode bytes pc = .ok (.ifCond cd o, 3)) (hc : ifCond.holds cd x = false)
    (r : own_E p l e R s m args below meth c h (pc + 3) Ls rest v) : own_E p l e R s m args below meth c h pc Ls (.int x :: rest) v := fun T X eT => by
  obtain ⟨s₂, st, q⟩ := r T X eT
  exact ⟨s₂, XS.ifNo X.here K.1 rfl (hb K.2.2.2.1 hd) rfl hc st, q⟩
theorem own_icmpY (K : own_C p s m meth c Z bytes own rt ml) {cd : ClassFile.Cond} {x y : Int32} {o : Int} {pc' : Nat} (hd : decode bytes pc = .ok (.if_icmp cd o, 3)) (hc : if_icmp.holds cd x y = true) (ho : 0 ≤ (pc : Int) + o) (hp : ((pc : Int) + o).toNat = pc')
    (r : own_E p l e R s m args below meth c h pc' Ls rest v) : own_E p l e R s m args below meth c h pc Ls (.int y :: .int x :: rest) v := fun T X eT => by
  obtain ⟨s₂, st, q⟩ := r T X eT
  exact ⟨s₂, XS.icmpYes X.here K.1 rfl (pc0 := pc) (pc' := pc') rfl (hb K.2.2.2.1 hd) rfl hc ho hp st, q⟩
theorem own_icmpN (K : own_C p s m meth c Z bytes own rt ml) {cd : ClassFile.Cond} {x y : Int32} {o : Int} (hd : decode bytes pc = .ok (.if_icmp cd o, 3)) (hc : if_icmp.holds cd x y = false)
    (r : own_E p l e R s m args below meth c h (pc + 3) Ls rest v) : own_E p l e R s m args below meth c h pc Ls (.int y :: .int x :: rest) v := fun T X eT => by
  obtain ⟨s₂, st, q⟩ := r T X eT
  exact ⟨s₂, XS.icmpNo X.here K.1 rfl (hb K.2.2.2.1 hd) rfl hc st, q⟩
theorem own_acmp (K : own_C p s m meth c Z bytes own rt ml) {cd : ACond} {x y : Addr} {o : Int} {pc' : Nat} {same : Bool} (hd : decode bytes pc = .ok (.if_acmp cd o, 3)) (hq : decide (x = y) = same) (ho : 0 ≤ (pc : Int) + o) (hp : pc' = if acV cd same = true then ((pc : Int) + o).toNat else pc + 3)
    (r : own_E p l e R s m args below meth c h pc' Ls rest v) : own_E p l e R s m args below meth c h pc Ls (.ref y :: .ref x :: rest) v := fun T X eT => by
  obtain ⟨s₂, st, q⟩ := r T X eT
  exact ⟨s₂, Jvm.RoadKit.acmp (g := mkF m pc Ls (.ref y :: .ref x :: rest)) X K.1 rfl (x := .ref x) (y := .ref y) rfl rfl (pc0 := pc) (pc' := pc') (same := same) rfl (hb K.2.2.2.1 hd) rfl (by rw [← hq]; simp) ho hp st, q⟩
theorem own_ifnullY (K : own_C p s m meth c Z bytes own rt ml) {o : Int} {pc' : Nat} (hd : decode bytes pc = .ok (.ifnull o, 3)) (ho : 0 ≤ (pc : Int) + o) (hp : ((pc : Int) + o).toNat = pc')
    (r : own_E p l e R s m args below meth c h pc' Ls rest v) : own_E p l e R s m args below meth c h pc Ls (.null :: rest) v := fun T X eT => by
  obtain ⟨s₂, st, q⟩ := r T X eT
  exact ⟨s₂, XS.ifnullYes X.here K.1 rfl (pc0 := pc) (pc' := pc') rfl (hb K.2.2.2.1 hd) rfl ho hp st, q⟩
theorem own_ifnullN (K : own_C p s m meth c Z bytes own rt ml) {o : Int} {b : Addr} (hd : decode bytes pc = .ok (.ifnull o, 3))
    (r : own_E p l e R s m args below meth c h (pc + 3) Ls rest v) : own_E p l e R s m args below meth c h pc Ls (.ref b :: rest) v := fun T X eT => by
  obtain ⟨s₂, st, q⟩ := r T X eT
  exact ⟨s₂, XS.ifnullNo X.here K.1 rfl (hb K.2.2.2.1 hd) rfl st, q⟩
theorem own_getS (K : own_C p s m meth c Z bytes own rt ml) {C f d : String} {i : Nat} {x : Value} (w : (Jvm.Cond.fieldLink own i C f d).before a0 Z = true) (F : Sta Z h C f d x) (hd : decode bytes pc = .ok (.getstatic i, 3))
    (r : own_E p l e R s m args below meth c h (pc + 3) Ls (x :: stk) v) : own_E p l e R s m args below meth c h pc Ls stk v := fun T X eT => by
  obtain ⟨T', X', e', st⟩ := getS2 X K.1 K.2.1 K.2.2.1 (host := "") (Or.inl w) Via.refl eT F (g := mkF m pc Ls stk) rfl (hb K.2.2.2.1 hd)
  obtain ⟨s₂, st', q⟩ := r T' X' e'
  exact ⟨s₂, st _ st', q⟩
theorem own_getF (K : own_C p s m meth c Z bytes own rt ml) {C f d : String} {i : Nat} {x : Value} {a : Addr} (w : (Jvm.Cond.fieldLink own i C f d).before a0 Z = true) (F : Fld Z h a C f d x) (hd : decode bytes pc = .ok (.getfield i, 3))
    (r : own_E p l e R s m args below meth c h (pc + 3) Ls (x :: rest) v) : own_E p l e R s m args below meth c h pc Ls (.ref a :: rest) v := fun T X eT => by
  obtain ⟨T', X', e', st⟩ := getF X K.1 K.2.1 K.2.2.1 (host := "") (Or.inl w) Via.refl eT F (g := mkF m pc Ls (.ref a :: rest)) rfl rfl (hb K.2.2.2.1 hd)
  obtain ⟨s₂, st', q⟩ := r T' X' e'
  exact ⟨s₂, st _ st', q⟩
theorem own_retZ (K : own_C p s m meth c Z bytes own .boolean ml) {x z : Int32} (hd : decode bytes pc = .ok (.ireturn, 1)) (hz : nar .boolean x = z) : own_E p l e R s m args below meth c h pc Ls (.int x :: rest) (.int z) := fun T X eT => by
  subst hz
  obtain ⟨fs, hr, hrun, hended, hW, hsame⟩ := X.leave (v := some (.int (nar .boolean x))) (fun q => by rw [K.2.2.2.2.1] at q; cases q) K.2.2.2.2.2.1
  exact ⟨_, retN X K.1 (t := .boolean) K.2.2.2.2.1 (by simp) (hb K.2.2.2.1 hd) hr, hrun, hended, eT, ⟨_, rfl⟩, hW, hsame⟩
theorem own_retA (K : own_C p s m meth c Z bytes own rt ml) {x : Value} (hd : decode bytes pc = .ok (.areturn, 1)) (ht : rt.isReference = true) (hn : narrow rt x = x) (hx : x.isRef = true) : own_E p l e R s m args below meth c h pc Ls (x :: rest) x := fun T X eT => by
  obtain ⟨fs, hr, hrun, hended, hW, hsame⟩ := X.leave (v := some x) (fun q => by rw [K.2.2.2.2.1] at q; cases q) K.2.2.2.2.2.1
  exact ⟨_, retOut X K.1 K.2.2.2.2.1 hn (Or.inr (Or.inr (Or.inr (Or.inr ⟨rfl, ht, hx⟩)))) (hb K.2.2.2.1 hd) hr, hrun, hended, eT, ⟨_, rfl⟩, hW, hsame⟩
theorem own_callS (K : own_C p s m meth c Z bytes own rt ml) {i : Nat} {y : MethodName} {bs : ByteArray} {mx f n W : Nat} {ry : FieldType} {ps : List FieldType} {argsL : List Value} {u : Value}
    (M : own_M l y bs mx ry [] { frames := f, cells := 0, slots := 0, locals := n } Z h argsL.toArray u)
    (w1 : (Jvm.Cond.methodLink own i y).before a0 Z = true) (w2 : (Jvm.Cond.static y).before a0 Z = true) (w3 : (Jvm.Cond.initialized y.cls).before a0 Z = true) (w4 : (Jvm.Cond.code y bs mx (some ry)).before a0 Z = true)
    (hy : y.cls ≠ "java/lang/invoke/MethodHandle" ∧ y.cls ≠ "java/lang/invoke/VarHandle") (hd : decode bytes pc = .ok (.invokestatic i, 3)) (hdesc : parseMethodDescriptor y.desc = some ⟨ps, some ry⟩) (hlen : argsL.length = ps.length)
    (hs : stk = argsL.reverse ++ rest) (hsz : Ls.size = ml) (hW : (rest.map fun v => v.category).sum ≤ W) (hf : f + 1 ≤ R.frames) (hl : W + (mx + 11) + n ≤ R.locals)
    (r : own_E p l e R s m args below meth c h (pc + 3) Ls (u :: rest) v) : own_E p l e R s m args below meth c h pc Ls stk v := fun T X eT => by
  obtain ⟨_, _, ⟨T1, L1, k1, n1⟩, -, X1, ⟨Lc, hQ, l1, y1, z1⟩, st⟩ := Jvm.LawKit.callS X K.1 (y := y) K.2.2.1 (mvT K.2.1 w1) (mvT K.2.1 w2) (mvT K.2.1 w3) (mvT K.2.1 w4) hy (backOf (W := W) (rm := { frames := f, cells := 0, slots := 0, locals := n }) (Q := fun v' g L => v' = some u ∧ L = [] ∧ g = h) M K.2.1 w4 w3 hf hl) (g := mkF m pc Ls stk) rfl (by rw [K.2.2.2.2.2.2]; exact hsz) (argsL := argsL) (rest := rest) (lenOf hdesc hlen) hs (by show 2 * 0 + _ ≤ _; omega) (hb K.2.2.2.1 hd) (fun _ _ => ⟨rfl, eT, Nat.zero_le _, Nat.zero_le _⟩)
  dsimp only [Pt.U, Pt.locs, Pt.cells, Pt.slots] at X1 l1 y1 z1 st hQ
  obtain ⟨rfl, rfl, e1⟩ := hQ
  subst l1 y1 z1
  obtain ⟨s₂, st', q⟩ := r T1 X1 e1
  exact ⟨s₂, st _ st', q⟩
theorem own_callV (K : own_C p s m meth c Z bytes own rt ml) {i : Nat} {y : MethodName} {bs : ByteArray} {mx f n W : Nat} {ry : FieldType} {ps : List FieldType} {argsL : List Value} {u : Value} {a : Addr} {D : String}
    (M : own_M l y bs mx ry [] { frames := f, cells := 0, slots := 0, locals := n } Z h (.ref a :: argsL).toArray u) (E : Exa Z h a D)
    (w1 : (Jvm.Cond.methodLink own i y).before a0 Z = true) (w2 : (Jvm.Cond.declares y).before a0 Z = true) (w3 : (Jvm.Cond.selects D y y).before a0 Z = true) (w4 : (Jvm.Cond.instanceMethod y).before a0 Z = true) (w5 : (Jvm.Cond.code y bs mx (some ry)).before a0 Z = true) (w6 : (Jvm.Cond.initialized y.cls).before a0 Z = true)
    (hy : y.cls ≠ "java/lang/invoke/MethodHandle" ∧ y.cls ≠ "java/lang/invoke/VarHandle") (hd : decode bytes pc = .ok (.invokevirtual i, 3)) (hdesc : parseMethodDescriptor y.desc = some ⟨ps, some ry⟩) (hlen : argsL.length = ps.length)
    (hs : stk = argsL.reverse ++ .ref a :: rest) (hsz : Ls.size = ml) (hW : (rest.map fun v => v.category).sum ≤ W) (hf : f + 1 ≤ R.frames) (hl : W + (mx + 11) + n ≤ R.locals)
    (r : own_E p l e R s m args below meth c h (pc + 3) Ls (u :: rest) v) : own_E p l e R s m args below meth c h pc Ls stk v := fun T X eT => by
  obtain ⟨cq, kq, qa, qb, qc⟩ := isOf (T := T) K.2.1 eT E
  obtain ⟨_, _, ⟨T1, L1, k1, n1⟩, -, X1, ⟨Lc, hQ, l1, y1, z1⟩, st⟩ := X.virtualBack K.1 (y := y) (z := y) K.2.2.1 (mvT K.2.1 w1) (mvT K.2.1 w2) (notFace_of_selects (args := #[]) (mvT K.2.1 w3)) (mvT K.2.1 w3) (mvT K.2.1 w4) hy (backOf (W := W) (rm := { frames := f, cells := 0, slots := 0, locals := n }) (Q := fun v' g L => v' = some u ∧ L = [] ∧ g = h) M K.2.1 w5 w6 hf hl) qa qc (g := mkF m pc Ls stk) rfl (by rw [K.2.2.2.2.2.2]; exact hsz) (Steps.refl _) (argsL := argsL) (rest := rest) (lenOf hdesc hlen) hs (by show 2 * 0 + _ ≤ _; omega) (hb K.2.2.2.1 hd) (fun _ _ => ⟨rfl, eT, Nat.zero_le _, Nat.zero_le _⟩)
  dsimp only [Pt.U, Pt.locs, Pt.cells, Pt.slots] at X1 l1 y1 z1 st hQ
  obtain ⟨rfl, rfl, e1⟩ := hQ
  subst l1 y1 z1
  obtain ⟨s₂, st', q⟩ := r T1 X1 e1
  exact ⟨s₂, st.trans st', q⟩
end Own
theorem d1_0 : decode prog_6_method_2_code 0 = .ok (.iload_n 0, 1) := by decide +kernel
theorem d1_1 : decode prog_6_method_2_code 1 = .ok (.iconst 1, 1) := by decide +kernel
theorem d1_2 : decode prog_6_method_2_code 2 = .ok (.if_icmp .lt 14, 3) := by decide +kernel
theorem d1_5 : decode prog_6_method_2_code 5 = .ok (.iload_n 0, 1) := by decide +kernel
theorem d1_6 : decode prog_6_method_2_code 6 = .ok (.getstatic 9, 3) := by decide +kernel
theorem d1_9 : decode prog_6_method_2_code 9 = .ok (.if_icmp .gt 7, 3) := by decide +kernel
theorem d1_12 : decode prog_6_method_2_code 12 = .ok (.iconst 1, 1) := by decide +kernel
theorem d1_13 : decode prog_6_method_2_code 13 = .ok (.goto 4, 3) := by decide +kernel
theorem d1_16 : decode prog_6_method_2_code 16 = .ok (.iconst 0, 1) := by decide +kernel
theorem d1_17 : decode prog_6_method_2_code 17 = .ok (.ireturn, 1) := by decide +kernel
theorem d2_0 : decode method_2_code 0 = .ok (.iload_n 0, 1) := by decide +kernel
theorem d2_1 : decode method_2_code 1 = .ok (.iconst 1, 1) := by decide +kernel
theorem d2_2 : decode method_2_code 2 = .ok (.if_icmp .ge 5, 3) := by decide +kernel
theorem d2_5 : decode method_2_code 5 = .ok (.iconst 0, 1) := by decide +kernel
theorem d2_6 : decode method_2_code 6 = .ok (.ireturn, 1) := by decide +kernel
theorem d2_7 : decode method_2_code 7 = .ok (.iload_n 0, 1) := by decide +kernel
theorem d2_8 : decode method_2_code 8 = .ok (.bipush 31, 2) := by decide +kernel
theorem d2_10 : decode method_2_code 10 = .ok (.if_icmp .le 5, 3) := by decide +kernel
theorem d2_13 : decode method_2_code 13 = .ok (.iconst 0, 1) := by decide +kernel
theorem d2_14 : decode method_2_code 14 = .ok (.ireturn, 1) := by decide +kernel
theorem d2_15 : decode method_2_code 15 = .ok (.iconst 1, 1) := by decide +kernel
theorem d2_16 : decode method_2_code 16 = .ok (.ireturn, 1) := by decide +kernel
theorem pn_0 : plainName "com/example/mistletab/mistletab/calendar/EventCalendarIsDayOfDecemberPinLaw" = true := by first | (simp [plainName, overriddenIn]; done) | decide +kernel
theorem pn_1 : plainName "com/example/mistletab/mistletab/calendar/EventCalendar" = true := by first | (simp [plainName, overriddenIn]; done) | decide +kernel
theorem pd_1 : parseMethodDescriptor "(I)Z" = some ⟨[.int], some .boolean⟩ := by decide +kernel
theorem pn_2 : plainName "com/example/mistletab/mistletab/calendar/EventCalendarIsDayOfDecemberPinLaw" = true := by first | (simp [plainName, overriddenIn]; done) | decide +kernel
theorem pd_2 : parseMethodDescriptor "(I)Z" = some ⟨[.int], some .boolean⟩ := by decide +kernel
theorem own_eqi {args : Array Value} {s : State} {a : Term} {k : Int32} (h : (Jvm.Cond.eq a (.int k)).value args s none s [] = some true) : a.eval args s none [] s = some (.int k) := by
  simp only [Cond.value, Term.eval] at h
  cases ha : a.eval args s none [] s with
  | none => simp [ha] at h
  | some x => cases x <;> simp [ha] at h ⊢ <;> exact h
theorem own_eqr {args : Array Value} {s : State} {a b : Term} {w : Addr} (hb : b.eval args s none [] s = some (.ref w)) (h : (Jvm.Cond.eq a b).value args s none s [] = some true) : a.eval args s none [] s = some (.ref w) := by
  simp only [Cond.value, hb] at h
  cases ha : a.eval args s none [] s with
  | none => simp [ha] at h
  | some x => cases x <;> simp [ha] at h ⊢ <;> exact h
def own_F (Z : State) (h : Heap) : Prop := Sta Z h "com/example/mistletab/mistletab/calendar/EventCalendar" "LAST_DAY" "I" (.int 31)
set_option maxRecDepth 65536 in
theorem rA_lo (p : Program) (l : Launch) (e : Env) (R : Room) (s : State) (m : MethodId) (args : Array Value) (below : List Frame) (meth : Method) (c : Code) (Z : State) (a0 : Array Value) (h : Heap) (hw : ∀ d ∈ tables_1, d.before a0 Z = true) (F : own_F Z h) (k : Int32) (h1 : k < 1) (K : own_C p s m meth c Z prog_6_method_2_code "com/example/mistletab/mistletab/calendar/EventCalendar" .boolean 1) :
    own_E p l e R s m args below meth c h 0 #[.val (.int k)] [] (.int 0) := by
  refine own_iloadN K (pc := 0) d1_0 rfl ?_
  refine own_iconst K (pc := 1) d1_1 (x := (1 : Int32)) (by decide) ?_
  refine own_icmpY K (pc := 2) (pc' := 16) d1_2 (tlt h1).1 (by decide) (by decide) ?_
  refine own_iconst K (pc := 16) d1_16 (x := (0 : Int32)) (by decide) ?_
  exact own_retZ K (pc := 17) d1_17 (by decide)
theorem rmA_lo (l : Launch) (Z : State) (a0 : Array Value) (h : Heap) (hw : ∀ d ∈ tables_1, d.before a0 Z = true) (F : own_F Z h) (k : Int32) (h1 : k < 1)  : own_M l (⟨"com/example/mistletab/mistletab/calendar/EventCalendar", "isDayOfDecember", "(I)Z"⟩ : MethodName) prog_6_method_2_code 1 .boolean [] { frames := 0, cells := 0, slots := 0, locals := 0 } Z h #[(.int k)] (.int (0 : Int32)) := by
  refine own_met pn_1 (Ls := #[.val (.int k)]) (fun m => by first | (simp [entryFrame, mkF, argsToLocals, Value.category, maxLocals]; done) | rfl) ?_
  intro p e s m below meth c K
  exact rA_lo p l e _ s m _ below meth c Z a0 h hw F k h1 K
set_option maxRecDepth 65536 in
theorem rB_lo (p : Program) (l : Launch) (e : Env) (R : Room) (s : State) (m : MethodId) (args : Array Value) (below : List Frame) (meth : Method) (c : Code) (Z : State) (a0 : Array Value) (h : Heap) (hw : ∀ d ∈ tables_1, d.before a0 Z = true) (F : own_F Z h) (k : Int32) (h1 : k < 1) (K : own_C p s m meth c Z method_2_code "com/example/mistletab/mistletab/calendar/EventCalendarIsDayOfDecemberPinLaw" .boolean 1) :
    own_E p l e R s m args below meth c h 0 #[.val (.int k)] [] (.int 0) := by
  refine own_iloadN K (pc := 0) d2_0 rfl ?_
  refine own_iconst K (pc := 1) d2_1 (x := (1 : Int32)) (by decide) ?_
  refine own_icmpN K (pc := 2) d2_2 (tlt h1).2.1 ?_
  refine own_iconst K (pc := 5) d2_5 (x := (0 : Int32)) (by decide) ?_
  exact own_retZ K (pc := 6) d2_6 (by decide)
theorem rmB_lo (l : Launch) (Z : State) (a0 : Array Value) (h : Heap) (hw : ∀ d ∈ tables_1, d.before a0 Z = true) (F : own_F Z h) (k : Int32) (h1 : k < 1)  : own_M l (⟨"com/example/mistletab/mistletab/calendar/EventCalendarIsDayOfDecemberPinLaw", "reference", "(I)Z"⟩ : MethodName) method_2_code 1 .boolean [] { frames := 0, cells := 0, slots := 0, locals := 0 } Z h #[(.int k)] (.int (0 : Int32)) := by
  refine own_met pn_2 (Ls := #[.val (.int k)]) (fun m => by first | (simp [entryFrame, mkF, argsToLocals, Value.category, maxLocals]; done) | rfl) ?_
  intro p e s m below meth c K
  exact rB_lo p l e _ s m _ below meth c Z a0 h hw F k h1 K
set_option maxRecDepth 65536 in
theorem rA_hi (p : Program) (l : Launch) (e : Env) (R : Room) (s : State) (m : MethodId) (args : Array Value) (below : List Frame) (meth : Method) (c : Code) (Z : State) (a0 : Array Value) (h : Heap) (hw : ∀ d ∈ tables_1, d.before a0 Z = true) (F : own_F Z h) (k : Int32) (h1 : ¬ k < 1) (h2 : 31 < k) (K : own_C p s m meth c Z prog_6_method_2_code "com/example/mistletab/mistletab/calendar/EventCalendar" .boolean 1) :
    own_E p l e R s m args below meth c h 0 #[.val (.int k)] [] (.int 0) := by
  refine own_iloadN K (pc := 0) d1_0 rfl ?_
  refine own_iconst K (pc := 1) d1_1 (x := (1 : Int32)) (by decide) ?_
  refine own_icmpN K (pc := 2) d1_2 (flt h1).1 ?_
  refine own_iloadN K (pc := 5) d1_5 rfl ?_
  refine own_getS K (pc := 6) (hw _ (List.mem_of_getElem? (i := 8) rfl)) F d1_6 ?_
  refine own_icmpY K (pc := 9) (pc' := 16) d1_9 (tlt h2).2.2.1 (by decide) (by decide) ?_
  refine own_iconst K (pc := 16) d1_16 (x := (0 : Int32)) (by decide) ?_
  exact own_retZ K (pc := 17) d1_17 (by decide)
theorem rmA_hi (l : Launch) (Z : State) (a0 : Array Value) (h : Heap) (hw : ∀ d ∈ tables_1, d.before a0 Z = true) (F : own_F Z h) (k : Int32) (h1 : ¬ k < 1) (h2 : 31 < k)  : own_M l (⟨"com/example/mistletab/mistletab/calendar/EventCalendar", "isDayOfDecember", "(I)Z"⟩ : MethodName) prog_6_method_2_code 1 .boolean [] { frames := 0, cells := 0, slots := 0, locals := 0 } Z h #[(.int k)] (.int (0 : Int32)) := by
  refine own_met pn_1 (Ls := #[.val (.int k)]) (fun m => by first | (simp [entryFrame, mkF, argsToLocals, Value.category, maxLocals]; done) | rfl) ?_
  intro p e s m below meth c K
  exact rA_hi p l e _ s m _ below meth c Z a0 h hw F k h1 h2 K
set_option maxRecDepth 65536 in
theorem rB_hi (p : Program) (l : Launch) (e : Env) (R : Room) (s : State) (m : MethodId) (args : Array Value) (below : List Frame) (meth : Method) (c : Code) (Z : State) (a0 : Array Value) (h : Heap) (hw : ∀ d ∈ tables_1, d.before a0 Z = true) (F : own_F Z h) (k : Int32) (h1 : ¬ k < 1) (h2 : 31 < k) (K : own_C p s m meth c Z method_2_code "com/example/mistletab/mistletab/calendar/EventCalendarIsDayOfDecemberPinLaw" .boolean 1) :
    own_E p l e R s m args below meth c h 0 #[.val (.int k)] [] (.int 0) := by
  refine own_iloadN K (pc := 0) d2_0 rfl ?_
  refine own_iconst K (pc := 1) d2_1 (x := (1 : Int32)) (by decide) ?_
  refine own_icmpY K (pc := 2) (pc' := 7) d2_2 (flt h1).2.1 (by decide) (by decide) ?_
  refine own_iloadN K (pc := 7) d2_7 rfl ?_
  refine own_bipush K (pc := 8) d2_8 (x := (31 : Int32)) (by decide) ?_
  refine own_icmpN K (pc := 10) d2_10 (tlt h2).2.2.2 ?_
  refine own_iconst K (pc := 13) d2_13 (x := (0 : Int32)) (by decide) ?_
  exact own_retZ K (pc := 14) d2_14 (by decide)
theorem rmB_hi (l : Launch) (Z : State) (a0 : Array Value) (h : Heap) (hw : ∀ d ∈ tables_1, d.before a0 Z = true) (F : own_F Z h) (k : Int32) (h1 : ¬ k < 1) (h2 : 31 < k)  : own_M l (⟨"com/example/mistletab/mistletab/calendar/EventCalendarIsDayOfDecemberPinLaw", "reference", "(I)Z"⟩ : MethodName) method_2_code 1 .boolean [] { frames := 0, cells := 0, slots := 0, locals := 0 } Z h #[(.int k)] (.int (0 : Int32)) := by
  refine own_met pn_2 (Ls := #[.val (.int k)]) (fun m => by first | (simp [entryFrame, mkF, argsToLocals, Value.category, maxLocals]; done) | rfl) ?_
  intro p e s m below meth c K
  exact rB_hi p l e _ s m _ below meth c Z a0 h hw F k h1 h2 K
set_option maxRecDepth 65536 in
theorem rA_mi (p : Program) (l : Launch) (e : Env) (R : Room) (s : State) (m : MethodId) (args : Array Value) (below : List Frame) (meth : Method) (c : Code) (Z : State) (a0 : Array Value) (h : Heap) (hw : ∀ d ∈ tables_1, d.before a0 Z = true) (F : own_F Z h) (k : Int32) (h1 : ¬ k < 1) (h2 : ¬ 31 < k) (K : own_C p s m meth c Z prog_6_method_2_code "com/example/mistletab/mistletab/calendar/EventCalendar" .boolean 1) :
    own_E p l e R s m args below meth c h 0 #[.val (.int k)] [] (.int 1) := by
  refine own_iloadN K (pc := 0) d1_0 rfl ?_
  refine own_iconst K (pc := 1) d1_1 (x := (1 : Int32)) (by decide) ?_
  refine own_icmpN K (pc := 2) d1_2 (flt h1).1 ?_
  refine own_iloadN K (pc := 5) d1_5 rfl ?_
  refine own_getS K (pc := 6) (hw _ (List.mem_of_getElem? (i := 8) rfl)) F d1_6 ?_
  refine own_icmpN K (pc := 9) d1_9 (flt h2).2.2.1 ?_
  refine own_iconst K (pc := 12) d1_12 (x := (1 : Int32)) (by decide) ?_
  refine own_goto K (pc := 13) (pc' := 17) d1_13 (by decide) (by decide) ?_
  exact own_retZ K (pc := 17) d1_17 (by decide)
theorem rmA_mi (l : Launch) (Z : State) (a0 : Array Value) (h : Heap) (hw : ∀ d ∈ tables_1, d.before a0 Z = true) (F : own_F Z h) (k : Int32) (h1 : ¬ k < 1) (h2 : ¬ 31 < k)  : own_M l (⟨"com/example/mistletab/mistletab/calendar/EventCalendar", "isDayOfDecember", "(I)Z"⟩ : MethodName) prog_6_method_2_code 1 .boolean [] { frames := 0, cells := 0, slots := 0, locals := 0 } Z h #[(.int k)] (.int (1 : Int32)) := by
  refine own_met pn_1 (Ls := #[.val (.int k)]) (fun m => by first | (simp [entryFrame, mkF, argsToLocals, Value.category, maxLocals]; done) | rfl) ?_
  intro p e s m below meth c K
  exact rA_mi p l e _ s m _ below meth c Z a0 h hw F k h1 h2 K
set_option maxRecDepth 65536 in
theorem rB_mi (p : Program) (l : Launch) (e : Env) (R : Room) (s : State) (m : MethodId) (args : Array Value) (below : List Frame) (meth : Method) (c : Code) (Z : State) (a0 : Array Value) (h : Heap) (hw : ∀ d ∈ tables_1, d.before a0 Z = true) (F : own_F Z h) (k : Int32) (h1 : ¬ k < 1) (h2 : ¬ 31 < k) (K : own_C p s m meth c Z method_2_code "com/example/mistletab/mistletab/calendar/EventCalendarIsDayOfDecemberPinLaw" .boolean 1) :
    own_E p l e R s m args below meth c h 0 #[.val (.int k)] [] (.int 1) := by
  refine own_iloadN K (pc := 0) d2_0 rfl ?_
  refine own_iconst K (pc := 1) d2_1 (x := (1 : Int32)) (by decide) ?_
  refine own_icmpY K (pc := 2) (pc' := 7) d2_2 (flt h1).2.1 (by decide) (by decide) ?_
  refine own_iloadN K (pc := 7) d2_7 rfl ?_
  refine own_bipush K (pc := 8) d2_8 (x := (31 : Int32)) (by decide) ?_
  refine own_icmpY K (pc := 10) (pc' := 15) d2_10 (flt h2).2.2.2 (by decide) (by decide) ?_
  refine own_iconst K (pc := 15) d2_15 (x := (1 : Int32)) (by decide) ?_
  exact own_retZ K (pc := 16) d2_16 (by decide)
theorem rmB_mi (l : Launch) (Z : State) (a0 : Array Value) (h : Heap) (hw : ∀ d ∈ tables_1, d.before a0 Z = true) (F : own_F Z h) (k : Int32) (h1 : ¬ k < 1) (h2 : ¬ 31 < k)  : own_M l (⟨"com/example/mistletab/mistletab/calendar/EventCalendarIsDayOfDecemberPinLaw", "reference", "(I)Z"⟩ : MethodName) method_2_code 1 .boolean [] { frames := 0, cells := 0, slots := 0, locals := 0 } Z h #[(.int k)] (.int (1 : Int32)) := by
  refine own_met pn_2 (Ls := #[.val (.int k)]) (fun m => by first | (simp [entryFrame, mkF, argsToLocals, Value.category, maxLocals]; done) | rfl) ?_
  intro p e s m below meth c K
  exact rB_mi p l e _ s m _ below meth c Z a0 h hw F k h1 h2 K
set_option maxRecDepth 65536 in
theorem l1_lo (p : Program) (l : Launch) (e : Env) (s : State) (m : MethodId) (args : Array Value) (below : List Frame) (meth : Method) (c : Code) (Z : State) (a0 : Array Value) (h : Heap) (hw : ∀ d ∈ tables_1, d.before a0 Z = true) (F : own_F Z h) (k y z : Int32) (h1 : k < 1) (K : own_C p s m meth c Z code "com/example/mistletab/mistletab/calendar/EventCalendarIsDayOfDecemberPinLaw" .boolean 6) (r : own_E p l e room_1 s m args below meth c h 22 #[.val (.int k), .val (.int y), .val (.int z), .val (.int (1 : Int32)), .unset, .unset] [] (.int 1)) :
    own_E p l e room_1 s m args below meth c h 5 #[.val (.int k), .val (.int y), .val (.int z), .unset, .unset, .unset] [] (.int 1) := by
  refine own_iloadN K (pc := 5) at_5 rfl ?_
  refine own_callS K (pc := 6) (W := 0) (rest := []) (argsL := [(.int k)]) (u := (.int (0 : Int32))) (rmA_lo l Z a0 h hw F k h1) (hw _ (List.mem_of_getElem? (i := 0) rfl)) (hw _ (List.mem_of_getElem? (i := 1) rfl)) (hw _ (List.mem_of_getElem? (i := 2) rfl)) (hw _ (List.mem_of_getElem? (i := 3) rfl)) (by decide) at_6 pd_1 rfl rfl rfl (Nat.le_of_eq rfl) (by decide) (by decide) ?_
  refine own_iloadN K (pc := 9) at_9 rfl ?_
  refine own_callS K (pc := 10) (W := 1) (rest := [(.int (0 : Int32))]) (argsL := [(.int k)]) (u := (.int (0 : Int32))) (rmB_lo l Z a0 h hw F k h1) (hw _ (List.mem_of_getElem? (i := 4) rfl)) (hw _ (List.mem_of_getElem? (i := 5) rfl)) (hw _ (List.mem_of_getElem? (i := 6) rfl)) (hw _ (List.mem_of_getElem? (i := 7) rfl)) (by decide) at_10 pd_2 rfl rfl rfl (Nat.le_of_eq rfl) (by decide) (by decide) ?_
  refine own_icmpN K (pc := 13) at_13 (by decide) ?_
  refine own_iconst K (pc := 16) at_16 (x := (1 : Int32)) (by decide) ?_
  refine own_goto K (pc := 17) (pc' := 21) at_17 (by decide) (by decide) ?_
  refine own_istoreN K (pc := 21) (Ls' := #[.val (.int k), .val (.int y), .val (.int z), .val (.int (1 : Int32)), .unset, .unset]) at_21 rfl ?_
  exact r
set_option maxRecDepth 65536 in
theorem l2_lo (p : Program) (l : Launch) (e : Env) (s : State) (m : MethodId) (args : Array Value) (below : List Frame) (meth : Method) (c : Code) (Z : State) (a0 : Array Value) (h : Heap) (hw : ∀ d ∈ tables_1, d.before a0 Z = true) (F : own_F Z h) (k y z : Int32) (h1 : k < 1) (K : own_C p s m meth c Z code "com/example/mistletab/mistletab/calendar/EventCalendarIsDayOfDecemberPinLaw" .boolean 6) (r : own_E p l e room_1 s m args below meth c h 40 #[.val (.int z), .val (.int y), .val (.int k), .val (.int (1 : Int32)), .val (.int (1 : Int32)), .unset] [] (.int 1)) :
    own_E p l e room_1 s m args below meth c h 22 #[.val (.int z), .val (.int y), .val (.int k), .val (.int (1 : Int32)), .unset, .unset] [] (.int 1) := by
  refine own_iloadN K (pc := 22) at_22 rfl ?_
  refine own_callS K (pc := 23) (W := 0) (rest := []) (argsL := [(.int k)]) (u := (.int (0 : Int32))) (rmA_lo l Z a0 h hw F k h1) (hw _ (List.mem_of_getElem? (i := 0) rfl)) (hw _ (List.mem_of_getElem? (i := 1) rfl)) (hw _ (List.mem_of_getElem? (i := 2) rfl)) (hw _ (List.mem_of_getElem? (i := 3) rfl)) (by decide) at_23 pd_1 rfl rfl rfl (Nat.le_of_eq rfl) (by decide) (by decide) ?_
  refine own_iloadN K (pc := 26) at_26 rfl ?_
  refine own_callS K (pc := 27) (W := 1) (rest := [(.int (0 : Int32))]) (argsL := [(.int k)]) (u := (.int (0 : Int32))) (rmB_lo l Z a0 h hw F k h1) (hw _ (List.mem_of_getElem? (i := 4) rfl)) (hw _ (List.mem_of_getElem? (i := 5) rfl)) (hw _ (List.mem_of_getElem? (i := 6) rfl)) (hw _ (List.mem_of_getElem? (i := 7) rfl)) (by decide) at_27 pd_2 rfl rfl rfl (Nat.le_of_eq rfl) (by decide) (by decide) ?_
  refine own_icmpN K (pc := 30) at_30 (by decide) ?_
  refine own_iconst K (pc := 33) at_33 (x := (1 : Int32)) (by decide) ?_
  refine own_goto K (pc := 34) (pc' := 38) at_34 (by decide) (by decide) ?_
  refine own_istore K (pc := 38) (Ls' := #[.val (.int z), .val (.int y), .val (.int k), .val (.int (1 : Int32)), .val (.int (1 : Int32)), .unset]) at_38 rfl ?_
  exact r
set_option maxRecDepth 65536 in
theorem l1_hi (p : Program) (l : Launch) (e : Env) (s : State) (m : MethodId) (args : Array Value) (below : List Frame) (meth : Method) (c : Code) (Z : State) (a0 : Array Value) (h : Heap) (hw : ∀ d ∈ tables_1, d.before a0 Z = true) (F : own_F Z h) (k y z : Int32) (h1 : ¬ k < 1) (h2 : 31 < k) (K : own_C p s m meth c Z code "com/example/mistletab/mistletab/calendar/EventCalendarIsDayOfDecemberPinLaw" .boolean 6) (r : own_E p l e room_1 s m args below meth c h 22 #[.val (.int k), .val (.int y), .val (.int z), .val (.int (1 : Int32)), .unset, .unset] [] (.int 1)) :
    own_E p l e room_1 s m args below meth c h 5 #[.val (.int k), .val (.int y), .val (.int z), .unset, .unset, .unset] [] (.int 1) := by
  refine own_iloadN K (pc := 5) at_5 rfl ?_
  refine own_callS K (pc := 6) (W := 0) (rest := []) (argsL := [(.int k)]) (u := (.int (0 : Int32))) (rmA_hi l Z a0 h hw F k h1 h2) (hw _ (List.mem_of_getElem? (i := 0) rfl)) (hw _ (List.mem_of_getElem? (i := 1) rfl)) (hw _ (List.mem_of_getElem? (i := 2) rfl)) (hw _ (List.mem_of_getElem? (i := 3) rfl)) (by decide) at_6 pd_1 rfl rfl rfl (Nat.le_of_eq rfl) (by decide) (by decide) ?_
  refine own_iloadN K (pc := 9) at_9 rfl ?_
  refine own_callS K (pc := 10) (W := 1) (rest := [(.int (0 : Int32))]) (argsL := [(.int k)]) (u := (.int (0 : Int32))) (rmB_hi l Z a0 h hw F k h1 h2) (hw _ (List.mem_of_getElem? (i := 4) rfl)) (hw _ (List.mem_of_getElem? (i := 5) rfl)) (hw _ (List.mem_of_getElem? (i := 6) rfl)) (hw _ (List.mem_of_getElem? (i := 7) rfl)) (by decide) at_10 pd_2 rfl rfl rfl (Nat.le_of_eq rfl) (by decide) (by decide) ?_
  refine own_icmpN K (pc := 13) at_13 (by decide) ?_
  refine own_iconst K (pc := 16) at_16 (x := (1 : Int32)) (by decide) ?_
  refine own_goto K (pc := 17) (pc' := 21) at_17 (by decide) (by decide) ?_
  refine own_istoreN K (pc := 21) (Ls' := #[.val (.int k), .val (.int y), .val (.int z), .val (.int (1 : Int32)), .unset, .unset]) at_21 rfl ?_
  exact r
set_option maxRecDepth 65536 in
theorem l2_hi (p : Program) (l : Launch) (e : Env) (s : State) (m : MethodId) (args : Array Value) (below : List Frame) (meth : Method) (c : Code) (Z : State) (a0 : Array Value) (h : Heap) (hw : ∀ d ∈ tables_1, d.before a0 Z = true) (F : own_F Z h) (k y z : Int32) (h1 : ¬ k < 1) (h2 : 31 < k) (K : own_C p s m meth c Z code "com/example/mistletab/mistletab/calendar/EventCalendarIsDayOfDecemberPinLaw" .boolean 6) (r : own_E p l e room_1 s m args below meth c h 40 #[.val (.int z), .val (.int y), .val (.int k), .val (.int (1 : Int32)), .val (.int (1 : Int32)), .unset] [] (.int 1)) :
    own_E p l e room_1 s m args below meth c h 22 #[.val (.int z), .val (.int y), .val (.int k), .val (.int (1 : Int32)), .unset, .unset] [] (.int 1) := by
  refine own_iloadN K (pc := 22) at_22 rfl ?_
  refine own_callS K (pc := 23) (W := 0) (rest := []) (argsL := [(.int k)]) (u := (.int (0 : Int32))) (rmA_hi l Z a0 h hw F k h1 h2) (hw _ (List.mem_of_getElem? (i := 0) rfl)) (hw _ (List.mem_of_getElem? (i := 1) rfl)) (hw _ (List.mem_of_getElem? (i := 2) rfl)) (hw _ (List.mem_of_getElem? (i := 3) rfl)) (by decide) at_23 pd_1 rfl rfl rfl (Nat.le_of_eq rfl) (by decide) (by decide) ?_
  refine own_iloadN K (pc := 26) at_26 rfl ?_
  refine own_callS K (pc := 27) (W := 1) (rest := [(.int (0 : Int32))]) (argsL := [(.int k)]) (u := (.int (0 : Int32))) (rmB_hi l Z a0 h hw F k h1 h2) (hw _ (List.mem_of_getElem? (i := 4) rfl)) (hw _ (List.mem_of_getElem? (i := 5) rfl)) (hw _ (List.mem_of_getElem? (i := 6) rfl)) (hw _ (List.mem_of_getElem? (i := 7) rfl)) (by decide) at_27 pd_2 rfl rfl rfl (Nat.le_of_eq rfl) (by decide) (by decide) ?_
  refine own_icmpN K (pc := 30) at_30 (by decide) ?_
  refine own_iconst K (pc := 33) at_33 (x := (1 : Int32)) (by decide) ?_
  refine own_goto K (pc := 34) (pc' := 38) at_34 (by decide) (by decide) ?_
  refine own_istore K (pc := 38) (Ls' := #[.val (.int z), .val (.int y), .val (.int k), .val (.int (1 : Int32)), .val (.int (1 : Int32)), .unset]) at_38 rfl ?_
  exact r
set_option maxRecDepth 65536 in
theorem l1_mi (p : Program) (l : Launch) (e : Env) (s : State) (m : MethodId) (args : Array Value) (below : List Frame) (meth : Method) (c : Code) (Z : State) (a0 : Array Value) (h : Heap) (hw : ∀ d ∈ tables_1, d.before a0 Z = true) (F : own_F Z h) (k y z : Int32) (h1 : ¬ k < 1) (h2 : ¬ 31 < k) (K : own_C p s m meth c Z code "com/example/mistletab/mistletab/calendar/EventCalendarIsDayOfDecemberPinLaw" .boolean 6) (r : own_E p l e room_1 s m args below meth c h 22 #[.val (.int k), .val (.int y), .val (.int z), .val (.int (1 : Int32)), .unset, .unset] [] (.int 1)) :
    own_E p l e room_1 s m args below meth c h 5 #[.val (.int k), .val (.int y), .val (.int z), .unset, .unset, .unset] [] (.int 1) := by
  refine own_iloadN K (pc := 5) at_5 rfl ?_
  refine own_callS K (pc := 6) (W := 0) (rest := []) (argsL := [(.int k)]) (u := (.int (1 : Int32))) (rmA_mi l Z a0 h hw F k h1 h2) (hw _ (List.mem_of_getElem? (i := 0) rfl)) (hw _ (List.mem_of_getElem? (i := 1) rfl)) (hw _ (List.mem_of_getElem? (i := 2) rfl)) (hw _ (List.mem_of_getElem? (i := 3) rfl)) (by decide) at_6 pd_1 rfl rfl rfl (Nat.le_of_eq rfl) (by decide) (by decide) ?_
  refine own_iloadN K (pc := 9) at_9 rfl ?_
  refine own_callS K (pc := 10) (W := 1) (rest := [(.int (1 : Int32))]) (argsL := [(.int k)]) (u := (.int (1 : Int32))) (rmB_mi l Z a0 h hw F k h1 h2) (hw _ (List.mem_of_getElem? (i := 4) rfl)) (hw _ (List.mem_of_getElem? (i := 5) rfl)) (hw _ (List.mem_of_getElem? (i := 6) rfl)) (hw _ (List.mem_of_getElem? (i := 7) rfl)) (by decide) at_10 pd_2 rfl rfl rfl (Nat.le_of_eq rfl) (by decide) (by decide) ?_
  refine own_icmpN K (pc := 13) at_13 (by decide) ?_
  refine own_iconst K (pc := 16) at_16 (x := (1 : Int32)) (by decide) ?_
  refine own_goto K (pc := 17) (pc' := 21) at_17 (by decide) (by decide) ?_
  refine own_istoreN K (pc := 21) (Ls' := #[.val (.int k), .val (.int y), .val (.int z), .val (.int (1 : Int32)), .unset, .unset]) at_21 rfl ?_
  exact r
set_option maxRecDepth 65536 in
theorem l2_mi (p : Program) (l : Launch) (e : Env) (s : State) (m : MethodId) (args : Array Value) (below : List Frame) (meth : Method) (c : Code) (Z : State) (a0 : Array Value) (h : Heap) (hw : ∀ d ∈ tables_1, d.before a0 Z = true) (F : own_F Z h) (k y z : Int32) (h1 : ¬ k < 1) (h2 : ¬ 31 < k) (K : own_C p s m meth c Z code "com/example/mistletab/mistletab/calendar/EventCalendarIsDayOfDecemberPinLaw" .boolean 6) (r : own_E p l e room_1 s m args below meth c h 40 #[.val (.int z), .val (.int y), .val (.int k), .val (.int (1 : Int32)), .val (.int (1 : Int32)), .unset] [] (.int 1)) :
    own_E p l e room_1 s m args below meth c h 22 #[.val (.int z), .val (.int y), .val (.int k), .val (.int (1 : Int32)), .unset, .unset] [] (.int 1) := by
  refine own_iloadN K (pc := 22) at_22 rfl ?_
  refine own_callS K (pc := 23) (W := 0) (rest := []) (argsL := [(.int k)]) (u := (.int (1 : Int32))) (rmA_mi l Z a0 h hw F k h1 h2) (hw _ (List.mem_of_getElem? (i := 0) rfl)) (hw _ (List.mem_of_getElem? (i := 1) rfl)) (hw _ (List.mem_of_getElem? (i := 2) rfl)) (hw _ (List.mem_of_getElem? (i := 3) rfl)) (by decide) at_23 pd_1 rfl rfl rfl (Nat.le_of_eq rfl) (by decide) (by decide) ?_
  refine own_iloadN K (pc := 26) at_26 rfl ?_
  refine own_callS K (pc := 27) (W := 1) (rest := [(.int (1 : Int32))]) (argsL := [(.int k)]) (u := (.int (1 : Int32))) (rmB_mi l Z a0 h hw F k h1 h2) (hw _ (List.mem_of_getElem? (i := 4) rfl)) (hw _ (List.mem_of_getElem? (i := 5) rfl)) (hw _ (List.mem_of_getElem? (i := 6) rfl)) (hw _ (List.mem_of_getElem? (i := 7) rfl)) (by decide) at_27 pd_2 rfl rfl rfl (Nat.le_of_eq rfl) (by decide) (by decide) ?_
  refine own_icmpN K (pc := 30) at_30 (by decide) ?_
  refine own_iconst K (pc := 33) at_33 (x := (1 : Int32)) (by decide) ?_
  refine own_goto K (pc := 34) (pc' := 38) at_34 (by decide) (by decide) ?_
  refine own_istore K (pc := 38) (Ls' := #[.val (.int z), .val (.int y), .val (.int k), .val (.int (1 : Int32)), .val (.int (1 : Int32)), .unset]) at_38 rfl ?_
  exact r
set_option maxRecDepth 65536 in
theorem l3 (p : Program) (l : Launch) (e : Env) (s : State) (m : MethodId) (args : Array Value) (below : List Frame) (meth : Method) (c : Code) (Z : State) (a0 : Array Value) (h : Heap) (hw : ∀ d ∈ tables_1, d.before a0 Z = true) (F : own_F Z h) (k y z : Int32) (K : own_C p s m meth c Z code "com/example/mistletab/mistletab/calendar/EventCalendarIsDayOfDecemberPinLaw" .boolean 6) :
    own_E p l e room_1 s m args below meth c h 40 #[.val (.int z), .val (.int y), .val (.int k), .val (.int (1 : Int32)), .val (.int (1 : Int32)), .unset] [] (.int 1) := by
  refine own_iconst K (pc := 40) at_40 (x := (0 : Int32)) (by decide) ?_
  refine own_callS K (pc := 41) (W := 0) (rest := []) (argsL := [(.int (0 : Int32))]) (u := (.int (0 : Int32))) (rmA_lo l Z a0 h hw F (0 : Int32) (by decide)) (hw _ (List.mem_of_getElem? (i := 0) rfl)) (hw _ (List.mem_of_getElem? (i := 1) rfl)) (hw _ (List.mem_of_getElem? (i := 2) rfl)) (hw _ (List.mem_of_getElem? (i := 3) rfl)) (by decide) at_41 pd_1 rfl rfl rfl (Nat.le_of_eq rfl) (by decide) (by decide) ?_
  refine own_ifN K (pc := 44) at_44 (by decide) ?_
  refine own_iconst K (pc := 47) at_47 (x := (1 : Int32)) (by decide) ?_
  refine own_callS K (pc := 48) (W := 0) (rest := []) (argsL := [(.int (1 : Int32))]) (u := (.int (1 : Int32))) (rmA_mi l Z a0 h hw F (1 : Int32) (by decide) (by decide)) (hw _ (List.mem_of_getElem? (i := 0) rfl)) (hw _ (List.mem_of_getElem? (i := 1) rfl)) (hw _ (List.mem_of_getElem? (i := 2) rfl)) (hw _ (List.mem_of_getElem? (i := 3) rfl)) (by decide) at_48 pd_1 rfl rfl rfl (Nat.le_of_eq rfl) (by decide) (by decide) ?_
  refine own_ifN K (pc := 51) at_51 (by decide) ?_
  refine own_bipush K (pc := 54) at_54 (x := (31 : Int32)) (by decide) ?_
  refine own_callS K (pc := 56) (W := 0) (rest := []) (argsL := [(.int (31 : Int32))]) (u := (.int (1 : Int32))) (rmA_mi l Z a0 h hw F (31 : Int32) (by decide) (by decide)) (hw _ (List.mem_of_getElem? (i := 0) rfl)) (hw _ (List.mem_of_getElem? (i := 1) rfl)) (hw _ (List.mem_of_getElem? (i := 2) rfl)) (hw _ (List.mem_of_getElem? (i := 3) rfl)) (by decide) at_56 pd_1 rfl rfl rfl (Nat.le_of_eq rfl) (by decide) (by decide) ?_
  refine own_ifN K (pc := 59) at_59 (by decide) ?_
  refine own_bipush K (pc := 62) at_62 (x := (32 : Int32)) (by decide) ?_
  refine own_callS K (pc := 64) (W := 0) (rest := []) (argsL := [(.int (32 : Int32))]) (u := (.int (0 : Int32))) (rmA_hi l Z a0 h hw F (32 : Int32) (by decide) (by decide)) (hw _ (List.mem_of_getElem? (i := 0) rfl)) (hw _ (List.mem_of_getElem? (i := 1) rfl)) (hw _ (List.mem_of_getElem? (i := 2) rfl)) (hw _ (List.mem_of_getElem? (i := 3) rfl)) (by decide) at_64 pd_1 rfl rfl rfl (Nat.le_of_eq rfl) (by decide) (by decide) ?_
  refine own_ifN K (pc := 67) at_67 (by decide) ?_
  refine own_iconst K (pc := 70) at_70 (x := (1 : Int32)) (by decide) ?_
  refine own_goto K (pc := 71) (pc' := 75) at_71 (by decide) (by decide) ?_
  refine own_istore K (pc := 75) (Ls' := #[.val (.int z), .val (.int y), .val (.int k), .val (.int (1 : Int32)), .val (.int (1 : Int32)), .val (.int (1 : Int32))]) at_75 rfl ?_
  refine own_iloadN K (pc := 77) at_77 rfl ?_
  refine own_ifN K (pc := 78) at_78 (by decide) ?_
  refine own_iload K (pc := 81) at_81 rfl ?_
  refine own_ifN K (pc := 83) at_83 (by decide) ?_
  refine own_iload K (pc := 86) at_86 rfl ?_
  refine own_ifN K (pc := 88) at_88 (by decide) ?_
  refine own_iconst K (pc := 91) at_91 (x := (1 : Int32)) (by decide) ?_
  refine own_goto K (pc := 92) (pc' := 96) at_92 (by decide) (by decide) ?_
  exact own_retZ K (pc := 96) at_96 (by decide)
set_option maxRecDepth 65536 in
theorem lh (p : Program) (l : Launch) (e : Env) (s : State) (m : MethodId) (args : Array Value) (below : List Frame) (meth : Method) (c : Code) (Z : State) (a0 : Array Value) (h : Heap) (hw : ∀ d ∈ tables_1, d.before a0 Z = true) (F : own_F Z h) (k y : Int32) (K : own_C p s m meth c Z code "com/example/mistletab/mistletab/calendar/EventCalendarIsDayOfDecemberPinLaw" .boolean 6) (r : own_E p l e room_1 s m args below meth c h 5 #[.val (.int k), .val (.int y), .val (.int (y % (40 : Int32))), .unset, .unset, .unset] [] (.int 1)) :
    own_E p l e room_1 s m args below meth c h 0 #[.val (.int k), .val (.int y), .unset, .unset, .unset, .unset] [] (.int 1) := by
  refine own_iloadN K (pc := 0) at_0 rfl ?_
  refine own_bipush K (pc := 1) at_1 (x := (40 : Int32)) (by decide) ?_
  refine own_irem K (pc := 3) at_3 (by decide) ?_
  refine own_istoreN K (pc := 4) (Ls' := #[.val (.int k), .val (.int y), .val (.int (y % (40 : Int32))), .unset, .unset, .unset]) at_4 rfl ?_
  exact r
theorem lb2 (p : Program) (l : Launch) (e : Env) (s : State) (m : MethodId) (args : Array Value) (below : List Frame) (meth : Method) (c : Code) (Z : State) (a0 : Array Value) (h : Heap) (hw : ∀ d ∈ tables_1, d.before a0 Z = true) (F : own_F Z h) (k y z : Int32) (K : own_C p s m meth c Z code "com/example/mistletab/mistletab/calendar/EventCalendarIsDayOfDecemberPinLaw" .boolean 6) : own_E p l e room_1 s m args below meth c h 22 #[.val (.int z), .val (.int y), .val (.int k), .val (.int (1 : Int32)), .unset, .unset] [] (.int 1) := by
  by_cases h1 : k < 1
  · exact l2_lo p l e s m _ below meth c Z a0 h hw F k y z h1 K (l3 p l e s m _ below meth c Z a0 h hw F k y z K)
  by_cases h2 : 31 < k
  · exact l2_hi p l e s m _ below meth c Z a0 h hw F k y z h1 h2 K (l3 p l e s m _ below meth c Z a0 h hw F k y z K)
  · exact l2_mi p l e s m _ below meth c Z a0 h hw F k y z h1 h2 K (l3 p l e s m _ below meth c Z a0 h hw F k y z K)
set_option maxRecDepth 65536 in
set_option maxHeartbeats 4000000 in
theorem rm0 (l : Launch) (Z : State) (a0 : Array Value) (h : Heap) (hw : ∀ d ∈ tables_1, d.before a0 Z = true) (k y : Int32) (F : own_F Z h)  : own_M l x code maxLocals .boolean tables_1 room_1 Z h #[(.int k), (.int y)] (.int (1 : Int32)) := by
  refine own_met pn_0 (Ls := #[.val (.int k), .val (.int y), .unset, .unset, .unset, .unset]) (fun m => by first | (simp [entryFrame, mkF, argsToLocals, Value.category, maxLocals]; done) | rfl) ?_
  intro p e s m below meth c K
  refine lh p l e s m _ below meth c Z a0 h hw F k y K ?_
  by_cases h1 : k < 1
  · exact l1_lo p l e s m _ below meth c Z a0 h hw F k y _ h1 K (lb2 p l e s m _ below meth c Z a0 h hw F _ y k K)
  by_cases h2 : 31 < k
  · exact l1_hi p l e s m _ below meth c Z a0 h hw F k y _ h1 h2 K (lb2 p l e s m _ below meth c Z a0 h hw F _ y k K)
  · exact l1_mi p l e s m _ below meth c Z a0 h hw F k y _ h1 h2 K (lb2 p l e s m _ below meth c Z a0 h hw F _ y k K)
set_option maxRecDepth 65536 in
set_option maxHeartbeats 40000000 in
theorem comes_1 {Post : Tables → Env → Array Value → State → Outcome → State → Prop} (hpost : ∀ tb e args s v u, (limb_1_1.after args s (.returned v) u = true ∧ limb_1_2.after args s (.returned v) u = true ∧ True) → FrameEnd s (.returned v) u (Jvm.fieldLocs frame_1_writes args s ++ Jvm.arrayLocs frame_1_arrays args s ++ Jvm.staticLocs frame_1_statics s) 0 0 → Post tb e args s (.returned v) u) :
    ArmFor flags0 classFile x code maxLocals ret World_1 tables_1 room_1 Calls_1 rest_1 Pre_1 Post := by
  intro l hfl _ _ p e ha hc hk s m args below hf hA hF happ hP
  obtain ⟨hcalls, hrest, hpre⟩ := hP
  obtain ⟨-, -, -, hnamed, -, -, -, hat⟩ := (Spec.applies_iff hf).mp happ
  obtain ⟨hg, hn⟩ := and_e (Cond.before_iff.mp (show (Jvm.Cond.and given_1 narrow_1).before args s = true from hpre))
  obtain ⟨h1, h2⟩ := and_e hg
  obtain ⟨w0, w1, rfl⟩ : ∃ w0 w1 : Value, args = #[w0, w1] := by
    have hs : args.size = 2 := by simpa [Cond.value, given_1] using h1
    obtain ⟨L⟩ := args
    match L, hs with
    | [w0, w1], _ => exact ⟨w0, w1, rfl⟩
  have hw := fun d (hd : d ∈ tables_1) => atoms_spec (ws := Jvm.Cond.code x code maxLocals ret :: tables_1) hat d (List.mem_cons_of_mem _ hd)
  obtain ⟨q0, h2⟩ := and_e h2
  obtain ⟨i0, e0⟩ := is_v q0
  obtain rfl : w0 = (.int i0) := Option.some.inj e0
  obtain ⟨i1, e1⟩ := is_v h2
  obtain rfl : w1 = (.int i1) := Option.some.inj e1
  have F : own_F s s.heap := Sta.start (own_eqi hn) (Or.inr ⟨(hw _ (List.mem_of_getElem? (i := 2) rfl)), (hw _ (List.mem_of_getElem? (i := 9) rfl))⟩)
  obtain ⟨n, o, h1, h2, h3, _, L, rfl, ⟨rfl, rfl, hh⟩, hq⟩ := rm0 l s _ s.heap hw i0 i1 F p e ha hc hk s m _ below hf ((Spec.applies_iff_loose hf).mp happ).1 ⟨rfl, State.Warmed39.refl s, rfl⟩ trivial
  refine ⟨n, _, h1, h2, h3, hpost _ _ _ _ _ _ ⟨Cond.after_iff.mpr rfl, Cond.after_iff.mpr (eq_i res_at (Term.int_eval (1)) rfl), trivial⟩ ⟨hq.1, hq.2.1, (hq.2.2.sift fun y hy => nomatch hy).mono (by decide) (by decide)⟩⟩
theorem main_1_1 : Claimed_1_1 := comes_1 fun _ _ _ _ _ _ h hF => ⟨h.1, hF⟩
theorem main_1_2 : Claimed_1_2 := comes_1 fun _ _ _ _ _ _ h hF => ⟨h.2.1, hF⟩
end Jvm.Pilot.@@N@@
namespace Jvm.Pilot.@@N@@
open Jvm Jvm.ClassFile Sem Op Lib Jvm.Free Jvm.Stand Jvm.Pilot.@@N@@.Jvm.D
/-! MADE BY PROGRAM (witnessworld.py) out of the Statement's table words and the real class files: 9 classes; the members and pool entries that the words name. The judged class is class 1, her method 2. -/
namespace start1
open Jvm.ClassFile
def u (s : String) : CpInfo := .utf8 (stringToUtf16 s)
/-- a pool by its gaps: so many unusable entries, then the entry; so many at the end -/
def gap : Nat → List CpInfo → List CpInfo
  | 0, r => r
  | n + 1, r => .unusable :: gap n r
def poolList (es : List (Nat × CpInfo)) (last : Nat) : List CpInfo := es.foldr (fun e r => gap e.1 (e.2 :: r)) (gap last [])
def pool (es : List (Nat × CpInfo)) (last : Nat) : Array CpInfo := ⟨poolList es last⟩
def fileOf (pool : Array CpInfo) (this : Nat) (attrs : Array Attribute := #[]) (ms : Array MethodInfo := #[]) (fl : Nat := 33) (sup : Nat := 0) (ifs : Array Nat := #[]) (fds : Array FieldInfo := #[]) : ClassFile where
  minorVersion := 0
  majorVersion := 65
  constantPool := pool
  accessFlags := fl
  thisClass := this
  superClass := sup
  interfaces := ifs
  fields := fds
  methods := ms
  attributes := attrs
def plain (name : String) (sup : Option ClassId) : Class where
  name := name
  kind := .ordinary
  loader := none
  accessFlags := 33
  super := sup
  interfaces := #[]
  cf := none
  fields := #[]
  methods := #[]
  instanceTypes := #[]
  staticTypes := #[]
  resolved := #[]
  callSites := []
  init := .initialized
  statics := none
  mirror := none

def pool0 : Array CpInfo := pool [(5, u "<init>"), (0, u "()V"), (1, .class_ 10), (1, u "java/lang/Object")] 113

def k0m0 : Method := { name := "<init>", desc := "()V", sig := { parameters := [], returnType := none }, accessFlags := 1, code := none }
/-- java/lang/Object -/
def k0 : Class := { plain "java/lang/Object" none with
  accessFlags := 33
  interfaces := #[]
  cf := some (fileOf pool0 8 #[] #[{ accessFlags := 1, nameIndex := 5, descriptorIndex := 6, attributes := #[] }] 33 0 #[] #[])
  fields := #[]
  methods := #[k0m0]
  instanceTypes := #[]
  staticTypes := #[]
  resolved := Array.replicate 124 none
  statics := none }

def pool1 : Array CpInfo := pool [(2, .class_ 4), (1, u "java/lang/Object"), (0, u "<init>"), (0, u "()V"), (0, .methodref 8 9), (0, .class_ 10), (0, .nameAndType 11 12), (0, u "com/example/mistletab/mistletab/calendar/EventCalendar"), (0, u "isDayOfDecember"), (0, u "(I)Z"), (0, .methodref 14 15), (0, .class_ 16), (0, .nameAndType 17 12), (0, u "com/example/mistletab/mistletab/calendar/EventCalendarIsDayOfDecemberPinLaw"), (0, u "reference"), (3, u "law"), (0, u "(II)Z")] 2

def k1m0 : Method := { name := "<init>", desc := "()V", sig := { parameters := [], returnType := none }, accessFlags := 2, code := none }
def k1c1 : Code := { maxStack := 2, maxLocals := 1, code := method_2_code, exceptionTable := #[], attributes := #[] }
def k1m1 : Method := { name := "reference", desc := "(I)Z", sig := { parameters := [.int], returnType := some .boolean }, accessFlags := 10, code := some k1c1 }
def k1c2 : Code := { maxStack := 2, maxLocals := 6, code := code, exceptionTable := #[], attributes := #[] }
def k1m2 : Method := { name := "law", desc := "(II)Z", sig := { parameters := [.int, .int], returnType := some .boolean }, accessFlags := 9, code := some k1c2 }
/-- com/example/mistletab/mistletab/calendar/EventCalendarIsDayOfDecemberPinLaw -/
def k1 : Class := { plain "com/example/mistletab/mistletab/calendar/EventCalendarIsDayOfDecemberPinLaw" (some 0) with
  accessFlags := 49
  interfaces := #[]
  cf := some (fileOf pool1 14 #[] #[{ accessFlags := 2, nameIndex := 5, descriptorIndex := 6, attributes := #[] }, { accessFlags := 10, nameIndex := 17, descriptorIndex := 12, attributes := #[] }, { accessFlags := 9, nameIndex := 21, descriptorIndex := 22, attributes := #[] }] 49 2 #[] #[])
  fields := #[]
  methods := #[k1m0, k1m1, k1m2]
  instanceTypes := #[]
  staticTypes := #[]
  resolved := Array.replicate 25 none
  statics := none }

def pool2 : Array CpInfo := pool [(2, .class_ 4), (1, u "java/lang/Object"), (0, u "<init>"), (0, u "()V"), (0, .class_ 8), (0, u "com/example/mistletab/mistletab/calendar/EventCalendar"), (0, .fieldref 7 10), (0, .nameAndType 11 12), (0, u "LAST_DAY"), (0, u "I"), (26, u "WEEKEND"), (0, u "Ljava/util/Set;"), (30, u "FIRST_DAY"), (2, u "CHRISTMAS"), (5, u "isDayOfDecember"), (0, u "(I)Z")] 8

def k2m0 : Method := { name := "<init>", desc := "()V", sig := { parameters := [], returnType := none }, accessFlags := 2, code := none }
def k2c1 : Code := { maxStack := 2, maxLocals := 1, code := prog_6_method_2_code, exceptionTable := #[], attributes := #[] }
def k2m1 : Method := { name := "isDayOfDecember", desc := "(I)Z", sig := { parameters := [.int], returnType := some .boolean }, accessFlags := 9, code := some k2c1 }
/-- com/example/mistletab/mistletab/calendar/EventCalendar -/
def k2 : Class := { plain "com/example/mistletab/mistletab/calendar/EventCalendar" (some 0) with
  accessFlags := 49
  interfaces := #[]
  cf := some (fileOf pool2 7 #[] #[{ accessFlags := 2, nameIndex := 5, descriptorIndex := 6, attributes := #[] }, { accessFlags := 9, nameIndex := 80, descriptorIndex := 81, attributes := #[] }] 49 2 #[] #[{ accessFlags := 25, nameIndex := 71, descriptorIndex := 12, attributes := #[] }, { accessFlags := 25, nameIndex := 11, descriptorIndex := 12, attributes := #[] }, { accessFlags := 25, nameIndex := 74, descriptorIndex := 12, attributes := #[] }, { accessFlags := 26, nameIndex := 39, descriptorIndex := 40, attributes := #[] }])
  fields := #[{ name := "FIRST_DAY", type := .int, accessFlags := 25, slot := 0, constantValue := 0 }, { name := "LAST_DAY", type := .int, accessFlags := 25, slot := 1, constantValue := 0 }, { name := "CHRISTMAS", type := .int, accessFlags := 25, slot := 2, constantValue := 0 }, { name := "WEEKEND", type := (.object "java/util/Set"), accessFlags := 26, slot := 3, constantValue := 0 }]
  methods := #[k2m0, k2m1]
  instanceTypes := #[]
  staticTypes := #[.int, .int, .int, (.object "java/util/Set")]
  resolved := Array.replicate 90 none
  statics := some 0 }

def pool3 : Array CpInfo := pool [(1, u "java/lang/Cloneable"), (0, .class_ 1), (0, u "java/lang/Object"), (0, .class_ 3)] 3

/-- java/lang/Cloneable -/
def k3 : Class := { plain "java/lang/Cloneable" (some 0) with
  accessFlags := 1537
  interfaces := #[]
  cf := some (fileOf pool3 2 #[] #[] 1537 4 #[] #[])
  fields := #[]
  methods := #[]
  instanceTypes := #[]
  staticTypes := #[]
  resolved := Array.replicate 8 none
  statics := none }

def pool4 : Array CpInfo := pool [(1, u "java/io/Serializable"), (0, .class_ 1), (0, u "java/lang/Object"), (0, .class_ 3)] 3

/-- java/io/Serializable -/
def k4 : Class := { plain "java/io/Serializable" (some 0) with
  accessFlags := 1537
  interfaces := #[]
  cf := some (fileOf pool4 2 #[] #[] 1537 4 #[] #[])
  fields := #[]
  methods := #[]
  instanceTypes := #[]
  staticTypes := #[]
  resolved := Array.replicate 8 none
  statics := none }

/-- the primitive byte -/
def k5 : Class := { plain "byte" none with kind := .primitive 'B', accessFlags := 0x411 }
/-- [B -/
def k6 : Class := { plain "[B" (some 0) with kind := .array 5 .byte, interfaces := #[3, 4], accessFlags := 1041 }

/-- the primitive int -/
def k7 : Class := { plain "int" none with kind := .primitive 'I', accessFlags := 0x411 }
/-- [I -/
def k8 : Class := { plain "[I" (some 0) with kind := .array 7 .int, interfaces := #[3, 4], accessFlags := 1041 }

def heap : Heap := #[{ cls := 2, slots := #[.int 0, .int 31, .int 0, .null], vm := .statics 2 }]
def classes : Array Class := #[k0, k1, k2, k3, k4, k5, k6, k7, k8]
def interned : List (Array UInt16 × Addr) := []
def slotsUsed : Nat := 4
def theMethod : MethodId := ⟨1, 2⟩
def args0 : Array Value := #[.int 5, .int 3]
def aboutOver (below : List Frame) : State where
  vm := { classes := classes, interned := interned.toArray }
  heap := heap
  slotsUsed := slotsUsed
  threads := #[{ frames := .invoking theMethod args0 :: below }]
def below0 : List Frame := [.native { method := ⟨0, 0⟩, args := #[] }]
def about1 : State := aboutOver below0
def p0 : Program := .bare "" "" ""
def e0 : Env := launch0.env 0 0 0
theorem w_frames : about1.frames = Frame.invoking theMethod args0 :: below0 := rfl
set_option maxRecDepth 65536 in
theorem w_args : argsFit about1.vm theMethod args0 = true := by decide +kernel
set_option maxRecDepth 65536 in
theorem w_heap : heapFits about1 = true := by decide +kernel
set_option maxRecDepth 65536 in
theorem w_runnable : about1.curStatus? = some .runnable := by decide +kernel
set_option maxRecDepth 65536 in
theorem w_alone : about1.alone = true := by decide +kernel
set_option maxRecDepth 65536 in
theorem w_named : about1.methodNamed? x = some theMethod := by decide +kernel
set_option maxRecDepth 65536 in
theorem w_hears : about1.hears theMethod below0 = true := by decide +kernel
set_option maxRecDepth 65536 in
theorem w_ripe : about1.ripe theMethod args0 below0 = true := by decide +kernel
theorem w_running : about1.status = .running := rfl
set_option maxRecDepth 65536 in
theorem w_room : about1.hasRoom e0.platform room_1 = true :=
  launch0.hasRoom_least _ room_1 (by decide +kernel) (by decide +kernel) (by decide +kernel) (by decide +kernel) (by decide +kernel) (by decide +kernel)
theorem allAtoms_all (ts : List Jvm.Cond) (a : Array Jvm.Value) (st : Jvm.State) : (allAtoms ts).before a st = ts.all (fun c => c.before a st) := by
  induction ts with
  | nil => rfl
  | cons c t ih =>
    show (Jvm.Cond.and c (allAtoms t)).before a st = _
    rw [Jvm.Cond.before_and, ih, List.all_cons]
def words1 : List Jvm.Cond := Jvm.Cond.code x code maxLocals ret :: tables_1
/-- a 'code' word, met by the world's own term for the bytes: nothing is compared byte by byte -/
theorem code_word {y : MethodName} {bytes : ByteArray} {mx : Nat} {rt : Option FieldType} {a : Array Value} {s : State} {m : MethodId} {meth : Method} {c : Code} (h1 : s.methodNamed? y = some m) (h2 : s.vm.method? m = some meth) (h3 : meth.code = some c) (h4 : c.code = bytes)
    (h5 : (c.maxLocals == mx && c.exceptionTable.isEmpty && decide (c.maxStack ≤ mostOperands) && decide (meth.sig.returnType = rt) && !meth.locks && decide (parseMethodDescriptor y.desc = some meth.sig)) = true) : (Jvm.Cond.code y bytes mx rt).before a s = true := by
  simp only [Bool.and_eq_true, beq_iff_eq, Bool.not_eq_true', decide_eq_true_eq] at h5
  obtain ⟨⟨⟨⟨⟨g1, g2⟩, g3⟩, g4⟩, g5⟩, g6⟩ := h5
  simp [Cond.before, Cond.holds, Cond.value, h1, h2, h3, h4, g1, g2, g3, g4, g5, g6]
def isCode : Jvm.Cond → Bool
  | .code _ _ _ _ => true
  | _ => false
theorem all_split {L : List Jvm.Cond} {P : Jvm.Cond → Bool} (h1 : L.all (fun c => isCode c || P c) = true) (h2 : ∀ c ∈ L.filter isCode, P c = true) : L.all P = true := by
  refine List.all_eq_true.mpr fun c hc => ?_
  have h := List.all_eq_true.mp h1 c hc
  rcases Bool.eq_false_or_eq_true (isCode c) with hi | hi
  · exact h2 c (List.mem_filter.mpr ⟨hc, hi⟩)
  · simpa [hi] using h
set_option maxRecDepth 65536 in
theorem w_c0 : (Jvm.Cond.code x code maxLocals ret).before args0 about1 = true := code_word (m := ⟨1, 2⟩) (meth := k1m2) (c := k1c2) (by decide +kernel) rfl rfl rfl (by decide +kernel)
set_option maxRecDepth 65536 in
theorem w_c1 : (Jvm.Cond.code ({ cls := "com/example/mistletab/mistletab/calendar/EventCalendar", name := "isDayOfDecember", desc := "(I)Z" } : Jvm.MethodName) prog_6_method_2_code (1 : Nat) (Option.some Jvm.ClassFile.FieldType.boolean)).before args0 about1 = true := code_word (m := ⟨2, 1⟩) (meth := k2m1) (c := k2c1) (by decide +kernel) rfl rfl rfl (by decide +kernel)
set_option maxRecDepth 65536 in
theorem w_c2 : (Jvm.Cond.code ({ cls := "com/example/mistletab/mistletab/calendar/EventCalendarIsDayOfDecemberPinLaw", name := "reference", desc := "(I)Z" } : Jvm.MethodName) method_2_code (1 : Nat) (Option.some Jvm.ClassFile.FieldType.boolean)).before args0 about1 = true := code_word (m := ⟨1, 1⟩) (meth := k1m1) (c := k1c1) (by decide +kernel) rfl rfl rfl (by decide +kernel)
def codes1 : List Jvm.Cond := [Jvm.Cond.code x code maxLocals ret, Jvm.Cond.code ({ cls := "com/example/mistletab/mistletab/calendar/EventCalendar", name := "isDayOfDecember", desc := "(I)Z" } : Jvm.MethodName) prog_6_method_2_code (1 : Nat) (Option.some Jvm.ClassFile.FieldType.boolean), Jvm.Cond.code ({ cls := "com/example/mistletab/mistletab/calendar/EventCalendarIsDayOfDecemberPinLaw", name := "reference", desc := "(I)Z" } : Jvm.MethodName) method_2_code (1 : Nat) (Option.some Jvm.ClassFile.FieldType.boolean)]
set_option maxRecDepth 65536 in
theorem codes_eq : words1.filter isCode = codes1 := rfl
theorem w_codes : ∀ c ∈ words1.filter isCode, c.before args0 about1 = true := by
  rw [codes_eq]
  intro c hc
  simp only [codes1, List.mem_cons, List.not_mem_nil, or_false] at hc
  rcases hc with rfl | rfl | rfl
  · exact w_c0
  · exact w_c1
  · exact w_c2
set_option maxRecDepth 65536 in
theorem w_t1 : words1.all (fun c => isCode c || c.before args0 about1) = true := by decide +kernel
theorem w_tables : (allAtoms (Jvm.Cond.code x code maxLocals ret :: tables_1)).before args0 about1 = true := by
  rw [allAtoms_all]
  show words1.all (fun c => c.before args0 about1) = true
  refine all_split ?_ w_codes
  rw [w_t1]
set_option maxRecDepth 65536 in
theorem w_case : (Jvm.Cond.and given_1 narrow_1).before args0 about1 = true := by decide +kernel
theorem w_applies : (headSpec (Jvm.Cond.code x code maxLocals ret :: tables_1) room_1).applies x e0.platform about1 = true :=
  (Spec.applies_iff w_frames).mpr ⟨w_running, w_runnable, w_alone, w_named, w_hears, w_ripe, w_room, w_tables⟩
theorem atStart : AtStart classFile x code maxLocals ret World_1 tables_1 room_1 Calls_1 rest_1 Pre_1 launch0 p0 e0 about1 theMethod args0 below0 :=
  ⟨lists_1, trivial, launch0.admits_env _ _ _, launch0.least_env, fairChoices_fair.cas, fairChoices_fair.clock, w_frames, w_args, w_heap, w_applies, trivial, trivial, w_case⟩
end start1
theorem witness_1 : WitnessClaimed_1 := ⟨start1.p0, start1.e0, start1.about1, start1.theMethod, start1.args0, start1.below0, start1.atStart⟩
end Jvm.Pilot.@@N@@
