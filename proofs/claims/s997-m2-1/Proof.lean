import JvmDerived
import JvmDerived.Pilot.@@N@@Statement
import JvmDerived.Pilot.@@N@@Code
set_option linter.unusedVariables false
set_option linter.unusedSimpArgs false
namespace Jvm.Pilot.@@N@@
open Jvm Jvm.ClassFile Sem Op Lib Jvm.Free Jvm.Stand Jvm.LawKit Jvm.RoadKit Bundle Jvm.Pilot.@@N@@.Jvm.D
section Own
variable {p : Program} {l : Launch} {e : Env} {R : Room} {s : State} {m : MethodId} {args : Array Value} {below : List Frame} {meth : Method} {c : Code} {Z : State} {a0 : Array Value} {h : Heap} {bytes : ByteArray} {own : String} {rt : FieldType} {ml : Nat} {pc : Nat} {Ls : Array Slot} {stk rest : List Value} {v : Value}
/-- what every step of a body that writes nothing asks -/
def own_C (p : Program) (s : State) (m : MethodId) (meth : Method) (c : Code) (Z : State) (bytes : ByteArray) (own : String) (rt : FieldType) (ml : Nat) : Prop :=
  p.tables.exec = Jvm.exec ∧ Z.Warmed39 s.vm ∧ s.vm.findClass own = some m.cls ∧ c.code = bytes ∧ meth.sig.returnType = some rt ∧ meth.locks = false ∧ c.maxLocals = ml
/-- from this pc, these locals and this operand stack the body returns v and leaves the heap h as it is -/
def own_E (p : Program) (l : Launch) (e : Env) (R : Room) (s : State) (m : MethodId) (args : Array Value) (below : List Frame) (meth : Method) (c : Code) (h : Heap) (pc : Nat) (Ls : Array Slot) (stk : List Value) (v : Value) : Prop :=
  ∀ T, Stand p l e R s m args below meth c T [] 0 0 → T.heap = h → ∃ s₂, Steps p.tables e below (T.setTop (mkF m pc Ls stk)) s₂ ∧ s₂.status = .running ∧ Ended s₂ below (.returned (some v)) ∧ s₂.heap = h ∧ FrameEnd s (.returned (some v)) s₂ [] 0 0
/-- the contract of such a body -/
def own_M (l : Launch) (y : MethodName) (bytes : ByteArray) (ml : Nat) (rt : FieldType) (ws : List Jvm.Cond) (rm : Room) (Z : State) (h : Heap) (as : Array Value) (v : Value) : Prop :=
  MetFree l y (head1 (Jvm.Cond.code y bytes ml (some rt) :: ws) rm) (fun a U => a = as ∧ Z.Warmed39 U.vm ∧ U.heap = h) (fun _ _ _ _ _ => True) (fun _ U o U' => ∃ v' L, o = .returned v' ∧ (v' = some v ∧ L = [] ∧ U'.heap = h) ∧ FrameEnd U o U' L rm.cells rm.slots)
theorem own_met {l : Launch} {y : MethodName} {bytes : ByteArray} {ml : Nat} {rt : FieldType} {ws : List Jvm.Cond} {f n : Nat} {Z : State} {h : Heap} {as : Array Value} {v : Value} {Ls : Array Slot} (hp : plainName y.cls = true)
    (hef : ∀ m, entryFrame m as ml = mkF m 0 Ls [])
    (body : ∀ (p : Program) (e : Env) (s : State) (m : MethodId) (below : List Frame) (meth : Method) (c : Code), own_C p s m meth c Z bytes y.cls rt ml → own_E p l e { frames := f, cells := 0, slots := 0, locals := n } s m as below meth c h 0 Ls [] v) :
    own_M l y bytes ml rt ws { frames := f, cells := 0, slots := 0, locals := n } Z h as v := by
  refine MetFree.of_bodySF (plainFor_of_name hp) hisR ?_
  intro p e s m args below meth c s₁ Bd hml0 hP hK
  obtain ⟨rfl, hZ, hh⟩ := hP
  have X0 : Stand p l e ({ frames := f, cells := 0, slots := 0, locals := n } : Room) s m args below meth c s₁ [] 0 0 := Stand.of_body Bd
  have e0 : s₁.heap = h := by rw [← hh, Bd.state]; rfl
  obtain ⟨s₂, q1, q2, q3, q4, q5⟩ := body p e s m below meth c ⟨Bd.exec, hZ, findClass_of_methodNamed Bd.named, Bd.bytes, Bd.returns, Bd.notSynchronized, hml0⟩ s₁ X0 e0
  exact ⟨s₂, _, castTop (hef m) q1, q2, q3, _, _, rfl, ⟨rfl, rfl, q4⟩, q5⟩
theorem own_iloadN (K : own_C p s m meth c Z bytes own rt ml) {k : Fin 4} {x : Int32} (hd : decode bytes pc = .ok (.iload_n k, 1)) (hl : Ls[k.val]? = some (.val (.int x)))
    (r : own_E p l e R s m args below meth c h (pc + 1) Ls (.int x :: stk) v) : own_E p l e R s m args below meth c h pc Ls stk v := fun T X eT => by
  obtain ⟨s₂, st, q⟩ := r T X eT
  exact ⟨s₂, XS.iloadN X.here K.1 rfl (hb K.2.2.2.1 hd) hl st, q⟩
theorem own_iload (K : own_C p s m meth c Z bytes own rt ml) {k : Nat} {x : Int32} (hd : decode bytes pc = .ok (.iload k, 2)) (hl : Ls[k]? = some (.val (.int x)))
    (r : own_E p l e R s m args below meth c h (pc + 2) Ls (.int x :: stk) v) : own_E p l e R s m args below meth c h pc Ls stk v := fun T X eT => by
  obtain ⟨s₂, st, q⟩ := r T X eT
  exact ⟨s₂, XS.iload X.here K.1 rfl (hb K.2.2.2.1 hd) hl st, q⟩
theorem own_aloadN (K : own_C p s m meth c Z bytes own rt ml) {k : Fin 4} {x : Value} (hd : decode bytes pc = .ok (.aload_n k, 1)) (hl : Ls[k.val]? = some (.val x)) (hv : x.isRef = true)
    (r : own_E p l e R s m args below meth c h (pc + 1) Ls (x :: stk) v) : own_E p l e R s m args below meth c h pc Ls stk v := fun T X eT => by
  obtain ⟨s₂, st, q⟩ := r T X eT
  exact ⟨s₂, XS.aloadN X.here K.1 rfl (hb K.2.2.2.1 hd) hl hv st, q⟩
theorem own_aload (K : own_C p s m meth c Z bytes own rt ml) {k : Nat} {x : Value} (hd : decode bytes pc = .ok (.aload k, 2)) (hl : Ls[k]? = some (.val x)) (hv : x.isRef = true)
    (r : own_E p l e R s m args below meth c h (pc + 2) Ls (x :: stk) v) : own_E p l e R s m args below meth c h pc Ls stk v := fun T X eT => by
  obtain ⟨s₂, st, q⟩ := r T X eT
  exact ⟨s₂, XS.aload X.here K.1 rfl (hb K.2.2.2.1 hd) hl hv st, q⟩
theorem own_iconst (K : own_C p s m meth c Z bytes own rt ml) {i : Int} (hd : decode bytes pc = .ok (.iconst i, 1)) {x : Int32} (hx : Int32.ofInt i = x)
    (r : own_E p l e R s m args below meth c h (pc + 1) Ls (.int x :: stk) v) : own_E p l e R s m args below meth c h pc Ls stk v := fun T X eT => by
  subst hx
  obtain ⟨s₂, st, q⟩ := r T X eT
  exact ⟨s₂, XS.iconst X.here K.1 rfl (hb K.2.2.2.1 hd) st, q⟩
theorem own_bipush (K : own_C p s m meth c Z bytes own rt ml) {i : Int} (hd : decode bytes pc = .ok (.bipush i, 2)) {x : Int32} (hx : (Int8.ofInt i).toInt32 = x)
    (r : own_E p l e R s m args below meth c h (pc + 2) Ls (.int x :: stk) v) : own_E p l e R s m args below meth c h pc Ls stk v := fun T X eT => by
  subst hx
  obtain ⟨s₂, st, q⟩ := r T X eT
  exact ⟨s₂, XS.bipush X.here K.1 rfl (hb K.2.2.2.1 hd) st, q⟩
theorem own_ldc (K : own_C p s m meth c Z bytes own rt ml) {i : Nat} {x : Int32} (w : (Jvm.Cond.constant own i x).before a0 Z = true) (hd : decode bytes pc = .ok (.ldc i, 2))
    (r : own_E p l e R s m args below meth c h (pc + 2) Ls (.int x :: stk) v) : own_E p l e R s m args below meth c h pc Ls stk v := fun T X eT => by
  obtain ⟨s₂, st, q⟩ := r T X eT
  exact ⟨s₂, X.ldcI K.1 K.2.2.1 (mvT K.2.1 w) rfl (hb K.2.2.2.1 hd) st, q⟩
theorem own_iand (K : own_C p s m meth c Z bytes own rt ml) {x y : Int32} (hd : decode bytes pc = .ok (.iand, 1))
    (r : own_E p l e R s m args below meth c h (pc + 1) Ls (.int (x &&& y) :: rest) v) : own_E p l e R s m args below meth c h pc Ls (.int y :: .int x :: rest) v := fun T X eT => by
  obtain ⟨s₂, st, q⟩ := r T X eT
  exact ⟨s₂, XS.iand X.here K.1 rfl (hb K.2.2.2.1 hd) rfl st, q⟩
theorem own_irem (K : own_C p s m meth c Z bytes own rt ml) {x y : Int32} (hd : decode bytes pc = .ok (.irem, 1)) (hy : y ≠ 0)
    (r : own_E p l e R s m args below meth c h (pc + 1) Ls (.int (x % y) :: rest) v) : own_E p l e R s m args below meth c h pc Ls (.int y :: .int x :: rest) v := fun T X eT => by
  obtain ⟨s₂, st, q⟩ := r T X eT
  exact ⟨s₂, iremM X K.1 rfl (hb K.2.2.2.1 hd) rfl hy st, q⟩
theorem own_istoreN (K : own_C p s m meth c Z bytes own rt ml) {k : Fin 4} {x : Int32} {Ls' : Array Slot} (hd : decode bytes pc = .ok (.istore_n k, 1)) (hl : storeLocals Ls k.val (.int x) = some Ls')
    (r : own_E p l e R s m args below meth c h (pc + 1) Ls' rest v) : own_E p l e R s m args below meth c h pc Ls (.int x :: rest) v := fun T X eT => by
  obtain ⟨s₂, st, q⟩ := r T X eT
  exact ⟨s₂, XS.istoreN X.here K.1 rfl (hb K.2.2.2.1 hd) rfl hl st, q⟩
theorem own_istore (K : own_C p s m meth c Z bytes own rt ml) {k : Nat} {x : Int32} {Ls' : Array Slot} (hd : decode bytes pc = .ok (.istore k, 2)) (hl : storeLocals Ls k (.int x) = some Ls')
    (r : own_E p l e R s m args below meth c h (pc + 2) Ls' rest v) : own_E p l e R s m args below meth c h pc Ls (.int x :: rest) v := fun T X eT => by
  obtain ⟨s₂, st, q⟩ := r T X eT
  exact ⟨s₂, XS.istore X.here K.1 rfl (hb K.2.2.2.1 hd) rfl hl st, q⟩
theorem own_astoreN (K : own_C p s m meth c Z bytes own rt ml) {k : Fin 4} {x : Value} {Ls' : Array Slot} (hd : decode bytes pc = .ok (.astore_n k, 1)) (hv : x.isRef = true) (hl : storeLocals Ls k.val x = some Ls')
    (r : own_E p l e R s m args below meth c h (pc + 1) Ls' rest v) : own_E p l e R s m args below meth c h pc Ls (x :: rest) v := fun T X eT => by
  obtain ⟨s₂, st, q⟩ := r T X eT
  exact ⟨s₂, XS.astoreN X.here K.1 rfl (hb K.2.2.2.1 hd) rfl hv hl st, q⟩
theorem own_astore (K : own_C p s m meth c Z bytes own rt ml) {k : Nat} {x : Value} {Ls' : Array Slot} (hd : decode bytes pc = .ok (.astore k, 2)) (hv : x.isRef = true) (hl : storeLocals Ls k x = some Ls')
    (r : own_E p l e R s m args below meth c h (pc + 2) Ls' rest v) : own_E p l e R s m args below meth c h pc Ls (x :: rest) v := fun T X eT => by
  obtain ⟨s₂, st, q⟩ := r T X eT
  exact ⟨s₂, XS.astore X.here K.1 rfl (hb K.2.2.2.1 hd) rfl hv hl st, q⟩
theorem own_goto (K : own_C p s m meth c Z bytes own rt ml) {o : Int} {pc' : Nat} (hd : decode bytes pc = .ok (.goto o, 3)) (ho : 0 ≤ (pc : Int) + o) (hp : ((pc : Int) + o).toNat = pc')
    (r : own_E p l e R s m args below meth c h pc' Ls stk v) : own_E p l e R s m args below meth c h pc Ls stk v := fun T X eT => by
  obtain ⟨s₂, st, q⟩ := r T X eT
  exact ⟨s₂, XS.goto X.here K.1 rfl (pc0 := pc) (pc' := pc') rfl (hb K.2.2.2.1 hd) ho hp st, q⟩
theorem own_ifY (K : own_C p s m meth c Z bytes own rt ml) {cd : ClassFile.Cond} {x : Int32} {o : Int} {pc' : Nat} (hd : decode bytes pc = .ok (.ifCond cd o, 3)) (hc : ifCond.holds cd x = true) (ho : 0 ≤ (pc : Int) + o) (hp : ((pc : Int) + o).toNat = pc')
    (r : own_E p l e R s m args below meth c h pc' Ls rest v) : own_E p l e R s m args below meth c h pc Ls (.int x :: rest) v := fun T X eT => by
  obtain ⟨s₂, st, q⟩ := r T X eT
  exact ⟨s₂, XS.ifYes X.here K.1 rfl (pc0 := pc) (pc' := pc') rfl (hb K.2.2.2.1 hd) rfl hc ho hp st, q⟩
theorem own_ifN (K : own_C p s m meth c Z bytes own rt ml) {cd : ClassFile.Cond} {x : Int32} {o : Int} (hd : decode bytes pc = .ok (.ifCond cd o, 3)) (hc : ifCond.holds cd x = false)
    (r : own_E p l e R s m args below meth c h (pc + 3) Ls rest v) : own_E p l e R s m args below meth c h pc Ls (.int x :: rest) v := fun T X eT => by
  obtain ⟨s₂, st, q⟩ := r T X eT
  exact ⟨s₂, XS.ifNo X.here K.1 rfl (hb K.2.2.2.1 hd) rfl hc st, q⟩
theorem own_icmpY (K : own_C p s m meth c Z bytes own rt ml) {cd : ClassFile.Cond} {x y : Int32} {o : Int} {pc' : Nat} (hd : decode bytes pc = .ok (.if_icmp cd o, 3)) (hc : if_icmp.holds cd x y = true) (ho : 0 ≤ (pc : Int) + o) (hp : ((pc : Int) + o).toNat = pc')
    (r : own_E p l e R s m args below meth c h pc' Ls rest v) : own_E p l e R s m args below meth c h pc Ls (.int y :: .int x :: rest) v := fun T X eT => by
  obtain ⟨s₂, st, q⟩ := r T X eT
  exact ⟨s₂, XS.icmpYes X.here K.1 rfl (pc0 := pc) (pc' := pc') rfl (hb K.2.2.2.1 hd) rfl hc ho hp st, q⟩
theorem own_icmpN (K : own_C p s m meth c Z bytes own rt ml) {cd : ClassFile.Cond} {x y : Int32} {o : Int} (hd : decode bytes pc = .ok (.if_icmp cd o, 3)) (hc : if_icmp.holds cd x y = false)
    (r : own_E p l e R s m args below meth c h (pc + 3) Ls rest v) : own_E p l e R s m args below meth c h pc Ls (.int y :: .int x :: rest) v := fun T X eT => by
  obtain ⟨s₂, st, q⟩ := r T X eT
  exact ⟨s₂, XS.icmpNo X.here K.1 rfl (hb K.2.2.2.1 hd) rfl hc st, q⟩
theorem own_acmp (K : own_C p s m meth c Z bytes own rt ml) {cd : ACond} {x y : Addr} {o : Int} {pc' : Nat} {same : Bool} (hd : decode bytes pc = .ok (.if_acmp cd o, 3)) (hq : decide (x = y) = same) (ho : 0 ≤ (pc : Int) + o) (hp : pc' = if acV cd same = true then ((pc : Int) + o).toNat else pc + 3)
    (r : own_E p l e R s m args below meth c h pc' Ls rest v) : own_E p l e R s m args below meth c h pc Ls (.ref y :: .ref x :: rest) v := fun T X eT => by
  obtain ⟨s₂, st, q⟩ := r T X eT
  exact ⟨s₂, Jvm.RoadKit.acmp (g := mkF m pc Ls (.ref y :: .ref x :: rest)) X K.1 rfl (x := .ref x) (y := .ref y) rfl rfl (pc0 := pc) (pc' := pc') (same := same) rfl (hb K.2.2.2.1 hd) rfl (by rw [← hq]; simp) ho hp st, q⟩
theorem own_ifnullY (K : own_C p s m meth c Z bytes own rt ml) {o : Int} {pc' : Nat} (hd : decode bytes pc = .ok (.ifnull o, 3)) (ho : 0 ≤ (pc : Int) + o) (hp : ((pc : Int) + o).toNat = pc')
    (r : own_E p l e R s m args below meth c h pc' Ls rest v) : own_E p l e R s m args below meth c h pc Ls (.null :: rest) v := fun T X eT => by
  obtain ⟨s₂, st, q⟩ := r T X eT
  exact ⟨s₂, XS.ifnullYes X.here K.1 rfl (pc0 := pc) (pc' := pc') rfl (hb K.2.2.2.1 hd) rfl ho hp st, q⟩
theorem own_ifnullN (K : own_C p s m meth c Z bytes own rt ml) {o : Int} {b : Addr} (hd : decode bytes pc = .ok (.ifnull o, 3))
    (r : own_E p l e R s m args below meth c h (pc + 3) Ls rest v) : own_E p l e R s m args below meth c h pc Ls (.ref b :: rest) v := fun T X eT => by
  obtain ⟨s₂, st, q⟩ := r T X eT
  exact ⟨s₂, XS.ifnullNo X.here K.1 rfl (hb K.2.2.2.1 hd) rfl st, q⟩
theorem own_getS (K : own_C p s m meth c Z bytes own rt ml) {C f d : String} {i : Nat} {x : Value} (w : (Jvm.Cond.fieldLink own i C f d).before a0 Z = true) (F : Sta Z h C f d x) (hd : decode bytes pc = .ok (.getstatic i, 3))
    (r : own_E p l e R s m args below meth c h (pc + 3) Ls (x :: stk) v) : own_E p l e R s m args below meth c h pc Ls stk v := fun T X eT => by
  obtain ⟨T', X', e', st⟩ := getS2 X K.1 K.2.1 K.2.2.1 (host := "") (Or.inl w) Via.refl eT F (g := mkF m pc Ls stk) rfl (hb K.2.2.2.1 hd)
  obtain ⟨s₂, st', q⟩ := r T' X' e'
  exact ⟨s₂, st _ st', q⟩
theorem own_getF (K : own_C p s m meth c Z bytes own rt ml) {C f d : String} {i : Nat} {x : Value} {a : Addr} (w : (Jvm.Cond.fieldLink own i C f d).before a0 Z = true) (F : Fld Z h a C f d x) (hd : decode bytes pc = .ok (.getfield i, 3))
    (r : own_E p l e R s m args below meth c h (pc + 3) Ls (x :: rest) v) : own_E p l e R s m args below meth c h pc Ls (.ref a :: rest) v := fun T X eT => by
  obtain ⟨T', X', e', st⟩ := getF X K.1 K.2.1 K.2.2.1 (host := "") (Or.inl w) Via.refl eT F (g := mkF m pc Ls (.ref a :: rest)) rfl rfl (hb K.2.2.2.1 hd)
  obtain ⟨s₂, st', q⟩ := r T' X' e'
  exact ⟨s₂, st _ st', q⟩
theorem own_retZ (K : own_C p s m meth c Z bytes own .boolean ml) {x z : Int32} (hd : decode bytes pc = .ok (.ireturn, 1)) (hz : nar .boolean x = z) : own_E p l e R s m args below meth c h pc Ls (.int x :: rest) (.int z) := fun T X eT => by
  subst hz
  obtain ⟨fs, hr, hrun, hended, hW, hsame⟩ := X.leave (v := some (.int (nar .boolean x))) (fun q => by rw [K.2.2.2.2.1] at q; cases q) K.2.2.2.2.2.1
  exact ⟨_, retN X K.1 (t := .boolean) K.2.2.2.2.1 (by simp) (hb K.2.2.2.1 hd) hr, hrun, hended, eT, ⟨_, rfl⟩, hW, hsame⟩
theorem own_retA (K : own_C p s m meth c Z bytes own rt ml) {x : Value} (hd : decode bytes pc = .ok (.areturn, 1)) (ht : rt.isReference = true) (hn : narrow rt x = x) (hx : x.isRef = true) : own_E p l e R s m args below meth c h pc Ls (x :: rest) x := fun T X eT => by
  obtain ⟨fs, hr, hrun, hended, hW, hsame⟩ := X.leave (v := some x) (fun q => by rw [K.2.2.2.2.1] at q; cases q) K.2.2.2.2.2.1
  exact ⟨_, retOut X K.1 K.2.2.2.2.1 hn (Or.inr (Or.inr (Or.inr (Or.inr ⟨rfl, ht, hx⟩)))) (hb K.2.2.2.1 hd) hr, hrun, hended, eT, ⟨_, rfl⟩, hW, hsame⟩
theorem own_callS (K : own_C p s m meth c Z bytes own rt ml) {i : Nat} {y : MethodName} {bs : ByteArray} {mx f n W : Nat} {ry : FieldType} {ps : List FieldType} {argsL : List Value} {u : Value}
    (M : own_M l y bs mx ry [] { frames := f, cells := 0, slots := 0, locals := n } Z h argsL.toArray u)
    (w1 : (Jvm.Cond.methodLink own i y).before a0 Z = true) (w2 : (Jvm.Cond.static y).before a0 Z = true) (w3 : (Jvm.Cond.initialized y.cls).before a0 Z = true) (w4 : (Jvm.Cond.code y bs mx (some ry)).before a0 Z = true)
    (hy : y.cls ≠ "java/lang/invoke/MethodHandle" ∧ y.cls ≠ "java/lang/invoke/VarHandle") (hd : decode bytes pc = .ok (.invokestatic i, 3)) (hdesc : parseMethodDescriptor y.desc = some ⟨ps, some ry⟩) (hlen : argsL.length = ps.length)
    (hs : stk = argsL.reverse ++ rest) (hsz : Ls.size = ml) (hW : (rest.map fun v => v.category).sum ≤ W) (hf : f + 1 ≤ R.frames) (hl : W + (mx + 11) + n ≤ R.locals)
    (r : own_E p l e R s m args below meth c h (pc + 3) Ls (u :: rest) v) : own_E p l e R s m args below meth c h pc Ls stk v := fun T X eT => by
  obtain ⟨_, _, ⟨T1, L1, k1, n1⟩, -, X1, ⟨Lc, hQ, l1, y1, z1⟩, st⟩ := Jvm.LawKit.callS X K.1 (y := y) K.2.2.1 (mvT K.2.1 w1) (mvT K.2.1 w2) (mvT K.2.1 w3) (mvT K.2.1 w4) hy (backOf (W := W) (rm := { frames := f, cells := 0, slots := 0, locals := n }) (Q := fun v' g L => v' = some u ∧ L = [] ∧ g = h) M K.2.1 w4 w3 hf hl) (g := mkF m pc Ls stk) rfl (by rw [K.2.2.2.2.2.2]; exact hsz) (argsL := argsL) (rest := rest) (lenOf hdesc hlen) hs (by show 2 * 0 + _ ≤ _; omega) (hb K.2.2.2.1 hd) (fun _ _ => ⟨rfl, eT, Nat.zero_le _, Nat.zero_le _⟩)
  dsimp only [Pt.U, Pt.locs, Pt.cells, Pt.slots] at X1 l1 y1 z1 st hQ
  obtain ⟨rfl, rfl, e1⟩ := hQ
  subst l1 y1 z1
  obtain ⟨s₂, st', q⟩ := r T1 X1 e1
  exact ⟨s₂, st _ st', q⟩
theorem own_callV (K : own_C p s m meth c Z bytes own rt ml) {i : Nat} {y : MethodName} {bs : ByteArray} {mx f n W : Nat} {ry : FieldType} {ps : List FieldType} {argsL : List Value} {u : Value} {a : Addr} {D : String}
    (M : own_M l y bs mx ry [] { frames := f, cells := 0, slots := 0, locals := n } Z h (.ref a :: argsL).toArray u) (E : Exa Z h a D)
    (w1 : (Jvm.Cond.methodLink own i y).before a0 Z = true) (w2 : (Jvm.Cond.declares y).before a0 Z = true) (w3 : (Jvm.Cond.selects D y y).before a0 Z = true) (w4 : (Jvm.Cond.instanceMethod y).before a0 Z = true) (w5 : (Jvm.Cond.code y bs mx (some ry)).before a0 Z = true) (w6 : (Jvm.Cond.initialized y.cls).before a0 Z = true)
    (hy : y.cls ≠ "java/lang/invoke/MethodHandle" ∧ y.cls ≠ "java/lang/invoke/VarHandle") (hd : decode bytes pc = .ok (.invokevirtual i, 3)) (hdesc : parseMethodDescriptor y.desc = some ⟨ps, some ry⟩) (hlen : argsL.length = ps.length)
    (hs : stk = argsL.reverse ++ .ref a :: rest) (hsz : Ls.size = ml) (hW : (rest.map fun v => v.category).sum ≤ W) (hf : f + 1 ≤ R.frames) (hl : W + (mx + 11) + n ≤ R.locals)
    (r : own_E p l e R s m args below meth c h (pc + 3) Ls (u :: rest) v) : own_E p l e R s m args below meth c h pc Ls stk v := fun T X eT => by
  obtain ⟨cq, kq, qa, qb, qc⟩ := isOf (T := T) K.2.1 eT E
  obtain ⟨_, _, ⟨T1, L1, k1, n1⟩, -, X1, ⟨Lc, hQ, l1, y1, z1⟩, st⟩ := X.virtualBack K.1 (y := y) (z := y) K.2.2.1 (mvT K.2.1 w1) (mvT K.2.1 w2) (notFace_of_selects (args := #[]) (mvT K.2.1 w3)) (mvT K.2.1 w3) (mvT K.2.1 w4) hy (backOf (W := W) (rm := { frames := f, cells := 0, slots := 0, locals := n }) (Q := fun v' g L => v' = some u ∧ L = [] ∧ g = h) M K.2.1 w5 w6 hf hl) qa qc (g := mkF m pc Ls stk) rfl (by rw [K.2.2.2.2.2.2]; exact hsz) (Steps.refl _) (argsL := argsL) (rest := rest) (lenOf hdesc hlen) hs (by show 2 * 0 + _ ≤ _; omega) (hb K.2.2.2.1 hd) (fun _ _ => ⟨rfl, eT, Nat.zero_le _, Nat.zero_le _⟩)
  dsimp only [Pt.U, Pt.locs, Pt.cells, Pt.slots] at X1 l1 y1 z1 st hQ
  obtain ⟨rfl, rfl, e1⟩ := hQ
  subst l1 y1 z1
  obtain ⟨s₂, st', q⟩ := r T1 X1 e1
  exact ⟨s₂, st.trans st', q⟩
end Own
theorem d1_0 : decode method_3_code 0 = .ok (.iload_n 0, 1) := by decide +kernel
theorem d1_1 : decode method_3_code 1 = .ok (.ifCond .ne 7, 3) := by decide +kernel
theorem d1_4 : decode method_3_code 4 = .ok (.getstatic 23, 3) := by decide +kernel
theorem d1_7 : decode method_3_code 7 = .ok (.areturn, 1) := by decide +kernel
theorem d1_8 : decode method_3_code 8 = .ok (.iload_n 0, 1) := by decide +kernel
theorem d1_9 : decode method_3_code 9 = .ok (.iconst 1, 1) := by decide +kernel
theorem d1_10 : decode method_3_code 10 = .ok (.if_icmp .ne 7, 3) := by decide +kernel
theorem d1_13 : decode method_3_code 13 = .ok (.getstatic 27, 3) := by decide +kernel
theorem d1_16 : decode method_3_code 16 = .ok (.areturn, 1) := by decide +kernel
theorem d1_17 : decode method_3_code 17 = .ok (.iload_n 0, 1) := by decide +kernel
theorem d1_18 : decode method_3_code 18 = .ok (.iconst 2, 1) := by decide +kernel
theorem d1_19 : decode method_3_code 19 = .ok (.if_icmp .ne 7, 3) := by decide +kernel
theorem d1_22 : decode method_3_code 22 = .ok (.getstatic 30, 3) := by decide +kernel
theorem d1_25 : decode method_3_code 25 = .ok (.areturn, 1) := by decide +kernel
theorem d1_26 : decode method_3_code 26 = .ok (.iload_n 0, 1) := by decide +kernel
theorem d1_27 : decode method_3_code 27 = .ok (.iconst 3, 1) := by decide +kernel
theorem d1_28 : decode method_3_code 28 = .ok (.if_icmp .ne 7, 3) := by decide +kernel
theorem d1_31 : decode method_3_code 31 = .ok (.getstatic 33, 3) := by decide +kernel
theorem d1_34 : decode method_3_code 34 = .ok (.areturn, 1) := by decide +kernel
theorem d1_35 : decode method_3_code 35 = .ok (.iload_n 0, 1) := by decide +kernel
theorem d1_36 : decode method_3_code 36 = .ok (.iconst 4, 1) := by decide +kernel
theorem d1_37 : decode method_3_code 37 = .ok (.if_icmp .ne 7, 3) := by decide +kernel
theorem d1_40 : decode method_3_code 40 = .ok (.getstatic 36, 3) := by decide +kernel
theorem d1_43 : decode method_3_code 43 = .ok (.areturn, 1) := by decide +kernel
theorem d1_44 : decode method_3_code 44 = .ok (.iload_n 0, 1) := by decide +kernel
theorem d1_45 : decode method_3_code 45 = .ok (.iconst 5, 1) := by decide +kernel
theorem d1_46 : decode method_3_code 46 = .ok (.if_icmp .ne 7, 3) := by decide +kernel
theorem d1_49 : decode method_3_code 49 = .ok (.getstatic 39, 3) := by decide +kernel
theorem d1_52 : decode method_3_code 52 = .ok (.areturn, 1) := by decide +kernel
theorem d1_53 : decode method_3_code 53 = .ok (.iload_n 0, 1) := by decide +kernel
theorem d1_54 : decode method_3_code 54 = .ok (.bipush 6, 2) := by decide +kernel
theorem d1_56 : decode method_3_code 56 = .ok (.if_icmp .ne 7, 3) := by decide +kernel
theorem d1_59 : decode method_3_code 59 = .ok (.getstatic 42, 3) := by decide +kernel
theorem d1_62 : decode method_3_code 62 = .ok (.areturn, 1) := by decide +kernel
theorem d1_63 : decode method_3_code 63 = .ok (.iload_n 0, 1) := by decide +kernel
theorem d1_64 : decode method_3_code 64 = .ok (.bipush 7, 2) := by decide +kernel
theorem d1_66 : decode method_3_code 66 = .ok (.if_icmp .ne 7, 3) := by decide +kernel
theorem d1_69 : decode method_3_code 69 = .ok (.getstatic 45, 3) := by decide +kernel
theorem d1_72 : decode method_3_code 72 = .ok (.areturn, 1) := by decide +kernel
theorem d1_73 : decode method_3_code 73 = .ok (.iload_n 0, 1) := by decide +kernel
theorem d1_74 : decode method_3_code 74 = .ok (.bipush 8, 2) := by decide +kernel
theorem d1_76 : decode method_3_code 76 = .ok (.if_icmp .ne 7, 3) := by decide +kernel
theorem d1_79 : decode method_3_code 79 = .ok (.getstatic 48, 3) := by decide +kernel
theorem d1_82 : decode method_3_code 82 = .ok (.areturn, 1) := by decide +kernel
theorem d1_83 : decode method_3_code 83 = .ok (.iload_n 0, 1) := by decide +kernel
theorem d1_84 : decode method_3_code 84 = .ok (.bipush 9, 2) := by decide +kernel
theorem d1_86 : decode method_3_code 86 = .ok (.if_icmp .ne 7, 3) := by decide +kernel
theorem d1_89 : decode method_3_code 89 = .ok (.getstatic 51, 3) := by decide +kernel
theorem d1_92 : decode method_3_code 92 = .ok (.areturn, 1) := by decide +kernel
theorem d1_93 : decode method_3_code 93 = .ok (.iload_n 0, 1) := by decide +kernel
theorem d1_94 : decode method_3_code 94 = .ok (.bipush 10, 2) := by decide +kernel
theorem d1_96 : decode method_3_code 96 = .ok (.if_icmp .ne 7, 3) := by decide +kernel
theorem d1_99 : decode method_3_code 99 = .ok (.getstatic 54, 3) := by decide +kernel
theorem d1_102 : decode method_3_code 102 = .ok (.areturn, 1) := by decide +kernel
theorem d1_103 : decode method_3_code 103 = .ok (.iload_n 0, 1) := by decide +kernel
theorem d1_104 : decode method_3_code 104 = .ok (.bipush 11, 2) := by decide +kernel
theorem d1_106 : decode method_3_code 106 = .ok (.if_icmp .ne 7, 3) := by decide +kernel
theorem d1_109 : decode method_3_code 109 = .ok (.getstatic 57, 3) := by decide +kernel
theorem d1_112 : decode method_3_code 112 = .ok (.areturn, 1) := by decide +kernel
theorem d1_113 : decode method_3_code 113 = .ok (.iload_n 0, 1) := by decide +kernel
theorem d1_114 : decode method_3_code 114 = .ok (.bipush 12, 2) := by decide +kernel
theorem d1_116 : decode method_3_code 116 = .ok (.if_icmp .ne 7, 3) := by decide +kernel
theorem d1_119 : decode method_3_code 119 = .ok (.getstatic 60, 3) := by decide +kernel
theorem d1_122 : decode method_3_code 122 = .ok (.areturn, 1) := by decide +kernel
theorem d1_123 : decode method_3_code 123 = .ok (.iload_n 0, 1) := by decide +kernel
theorem d1_124 : decode method_3_code 124 = .ok (.bipush 13, 2) := by decide +kernel
theorem d1_126 : decode method_3_code 126 = .ok (.if_icmp .ne 7, 3) := by decide +kernel
theorem d1_129 : decode method_3_code 129 = .ok (.getstatic 63, 3) := by decide +kernel
theorem d1_132 : decode method_3_code 132 = .ok (.areturn, 1) := by decide +kernel
theorem d1_133 : decode method_3_code 133 = .ok (.iload_n 0, 1) := by decide +kernel
theorem d1_134 : decode method_3_code 134 = .ok (.bipush 14, 2) := by decide +kernel
theorem d1_136 : decode method_3_code 136 = .ok (.if_icmp .ne 7, 3) := by decide +kernel
theorem d1_139 : decode method_3_code 139 = .ok (.getstatic 66, 3) := by decide +kernel
theorem d1_142 : decode method_3_code 142 = .ok (.areturn, 1) := by decide +kernel
theorem d1_143 : decode method_3_code 143 = .ok (.iload_n 0, 1) := by decide +kernel
theorem d1_144 : decode method_3_code 144 = .ok (.bipush 15, 2) := by decide +kernel
theorem d1_146 : decode method_3_code 146 = .ok (.if_icmp .ne 7, 3) := by decide +kernel
theorem d1_149 : decode method_3_code 149 = .ok (.getstatic 69, 3) := by decide +kernel
theorem d1_152 : decode method_3_code 152 = .ok (.areturn, 1) := by decide +kernel
theorem d1_153 : decode method_3_code 153 = .ok (.getstatic 72, 3) := by decide +kernel
theorem d1_156 : decode method_3_code 156 = .ok (.areturn, 1) := by decide +kernel
theorem d2_0 : decode prog_14_method_6_code 0 = .ok (.aload_n 0, 1) := by decide +kernel
theorem d2_1 : decode prog_14_method_6_code 1 = .ok (.getstatic 3, 3) := by decide +kernel
theorem d2_4 : decode prog_14_method_6_code 4 = .ok (.if_acmp .eq 24, 3) := by decide +kernel
theorem d2_7 : decode prog_14_method_6_code 7 = .ok (.aload_n 0, 1) := by decide +kernel
theorem d2_8 : decode prog_14_method_6_code 8 = .ok (.getstatic 10, 3) := by decide +kernel
theorem d2_11 : decode prog_14_method_6_code 11 = .ok (.if_acmp .eq 17, 3) := by decide +kernel
theorem d2_14 : decode prog_14_method_6_code 14 = .ok (.aload_n 0, 1) := by decide +kernel
theorem d2_15 : decode prog_14_method_6_code 15 = .ok (.getstatic 13, 3) := by decide +kernel
theorem d2_18 : decode prog_14_method_6_code 18 = .ok (.if_acmp .eq 10, 3) := by decide +kernel
theorem d2_21 : decode prog_14_method_6_code 21 = .ok (.aload_n 0, 1) := by decide +kernel
theorem d2_22 : decode prog_14_method_6_code 22 = .ok (.getstatic 16, 3) := by decide +kernel
theorem d2_25 : decode prog_14_method_6_code 25 = .ok (.if_acmp .ne 7, 3) := by decide +kernel
theorem d2_28 : decode prog_14_method_6_code 28 = .ok (.iconst 1, 1) := by decide +kernel
theorem d2_29 : decode prog_14_method_6_code 29 = .ok (.goto 4, 3) := by decide +kernel
theorem d2_32 : decode prog_14_method_6_code 32 = .ok (.iconst 0, 1) := by decide +kernel
theorem d2_33 : decode prog_14_method_6_code 33 = .ok (.ireturn, 1) := by decide +kernel
theorem d3_0 : decode prog_14_method_7_code 0 = .ok (.aload_n 0, 1) := by decide +kernel
theorem d3_1 : decode prog_14_method_7_code 1 = .ok (.getfield 83, 3) := by decide +kernel
theorem d3_4 : decode prog_14_method_7_code 4 = .ok (.getstatic 108, 3) := by decide +kernel
theorem d3_7 : decode prog_14_method_7_code 7 = .ok (.if_acmp .ne 7, 3) := by decide +kernel
theorem d3_10 : decode prog_14_method_7_code 10 = .ok (.iconst 1, 1) := by decide +kernel
theorem d3_11 : decode prog_14_method_7_code 11 = .ok (.goto 4, 3) := by decide +kernel
theorem d3_14 : decode prog_14_method_7_code 14 = .ok (.iconst 0, 1) := by decide +kernel
theorem d3_15 : decode prog_14_method_7_code 15 = .ok (.ireturn, 1) := by decide +kernel
theorem pn_0 : plainName "com/example/locant/locant/AxisIsDisjointPinLaw" = true := by first | (simp [plainName, overriddenIn]; done) | decide +kernel
theorem pn_1 : plainName "com/example/locant/locant/AxisIsDisjointPinLaw" = true := by first | (simp [plainName, overriddenIn]; done) | decide +kernel
theorem pd_1 : parseMethodDescriptor "(I)Lcom/example/locant/locant/Axis;" = some ⟨[.int], some (.object "com/example/locant/locant/Axis")⟩ := by decide +kernel
theorem pn_2 : plainName "com/example/locant/locant/Axis" = true := by first | (simp [plainName, overriddenIn]; done) | decide +kernel
theorem pd_2 : parseMethodDescriptor "()Z" = some ⟨[], some .boolean⟩ := by decide +kernel
theorem pn_3 : plainName "com/example/locant/locant/Axis" = true := by first | (simp [plainName, overriddenIn]; done) | decide +kernel
theorem pd_3 : parseMethodDescriptor "()Z" = some ⟨[], some .boolean⟩ := by decide +kernel
theorem own_mask (k : Int32) : 0 ≤ (k &&& 2147483647).toInt := by
  have h : (k &&& 2147483647).toInt = (k.toBitVec &&& 2147483647#32).toInt := rfl
  rw [h, BitVec.toInt_eq_toNat_of_msb (by rw [BitVec.msb_and, show (2147483647#32).msb = false from by decide, Bool.and_false])]
  exact Int.natCast_nonneg _
theorem own_rem (k : Int32) : (k &&& 2147483647) % 17 = 0 ∨ (k &&& 2147483647) % 17 = 1 ∨ (k &&& 2147483647) % 17 = 2 ∨ (k &&& 2147483647) % 17 = 3 ∨ (k &&& 2147483647) % 17 = 4 ∨ (k &&& 2147483647) % 17 = 5 ∨ (k &&& 2147483647) % 17 = 6 ∨ (k &&& 2147483647) % 17 = 7 ∨ (k &&& 2147483647) % 17 = 8 ∨ (k &&& 2147483647) % 17 = 9 ∨ (k &&& 2147483647) % 17 = 10 ∨ (k &&& 2147483647) % 17 = 11 ∨ (k &&& 2147483647) % 17 = 12 ∨ (k &&& 2147483647) % 17 = 13 ∨ (k &&& 2147483647) % 17 = 14 ∨ (k &&& 2147483647) % 17 = 15 ∨ (k &&& 2147483647) % 17 = 16 := by
  have h1 := own_mask k
  generalize (k &&& 2147483647) = y at h1 ⊢
  have h2 : (y % 17).toInt = y.toInt.tmod 17 := by rw [Int32.toInt_mod]; rfl
  rw [Int.tmod_eq_emod_of_nonneg h1] at h2
  have h3 : (y % 17).toInt = 0 ∨ (y % 17).toInt = 1 ∨ (y % 17).toInt = 2 ∨ (y % 17).toInt = 3 ∨ (y % 17).toInt = 4 ∨ (y % 17).toInt = 5 ∨ (y % 17).toInt = 6 ∨ (y % 17).toInt = 7 ∨ (y % 17).toInt = 8 ∨ (y % 17).toInt = 9 ∨ (y % 17).toInt = 10 ∨ (y % 17).toInt = 11 ∨ (y % 17).toInt = 12 ∨ (y % 17).toInt = 13 ∨ (y % 17).toInt = 14 ∨ (y % 17).toInt = 15 ∨ (y % 17).toInt = 16 := by omega
  rcases h3 with h | h | h | h | h | h | h | h | h | h | h | h | h | h | h | h | h
  · exact Or.inl (Int32.toInt_inj.mp (by rw [h]; rfl))
  · exact Or.inr (Or.inl (Int32.toInt_inj.mp (by rw [h]; rfl)))
  · exact Or.inr (Or.inr (Or.inl (Int32.toInt_inj.mp (by rw [h]; rfl))))
  · exact Or.inr (Or.inr (Or.inr (Or.inl (Int32.toInt_inj.mp (by rw [h]; rfl)))))
  · exact Or.inr (Or.inr (Or.inr (Or.inr (Or.inl (Int32.toInt_inj.mp (by rw [h]; rfl))))))
  · exact Or.inr (Or.inr (Or.inr (Or.inr (Or.inr (Or.inl (Int32.toInt_inj.mp (by rw [h]; rfl)))))))
  · exact Or.inr (Or.inr (Or.inr (Or.inr (Or.inr (Or.inr (Or.inl (Int32.toInt_inj.mp (by rw [h]; rfl))))))))
  · exact Or.inr (Or.inr (Or.inr (Or.inr (Or.inr (Or.inr (Or.inr (Or.inl (Int32.toInt_inj.mp (by rw [h]; rfl)))))))))
  · exact Or.inr (Or.inr (Or.inr (Or.inr (Or.inr (Or.inr (Or.inr (Or.inr (Or.inl (Int32.toInt_inj.mp (by rw [h]; rfl))))))))))
  · exact Or.inr (Or.inr (Or.inr (Or.inr (Or.inr (Or.inr (Or.inr (Or.inr (Or.inr (Or.inl (Int32.toInt_inj.mp (by rw [h]; rfl)))))))))))
  · exact Or.inr (Or.inr (Or.inr (Or.inr (Or.inr (Or.inr (Or.inr (Or.inr (Or.inr (Or.inr (Or.inl (Int32.toInt_inj.mp (by rw [h]; rfl))))))))))))
  · exact Or.inr (Or.inr (Or.inr (Or.inr (Or.inr (Or.inr (Or.inr (Or.inr (Or.inr (Or.inr (Or.inr (Or.inl (Int32.toInt_inj.mp (by rw [h]; rfl)))))))))))))
  · exact Or.inr (Or.inr (Or.inr (Or.inr (Or.inr (Or.inr (Or.inr (Or.inr (Or.inr (Or.inr (Or.inr (Or.inr (Or.inl (Int32.toInt_inj.mp (by rw [h]; rfl))))))))))))))
  · exact Or.inr (Or.inr (Or.inr (Or.inr (Or.inr (Or.inr (Or.inr (Or.inr (Or.inr (Or.inr (Or.inr (Or.inr (Or.inr (Or.inl (Int32.toInt_inj.mp (by rw [h]; rfl)))))))))))))))
  · exact Or.inr (Or.inr (Or.inr (Or.inr (Or.inr (Or.inr (Or.inr (Or.inr (Or.inr (Or.inr (Or.inr (Or.inr (Or.inr (Or.inr (Or.inl (Int32.toInt_inj.mp (by rw [h]; rfl))))))))))))))))
  · exact Or.inr (Or.inr (Or.inr (Or.inr (Or.inr (Or.inr (Or.inr (Or.inr (Or.inr (Or.inr (Or.inr (Or.inr (Or.inr (Or.inr (Or.inr (Or.inl (Int32.toInt_inj.mp (by rw [h]; rfl)))))))))))))))))
  · exact Or.inr (Or.inr (Or.inr (Or.inr (Or.inr (Or.inr (Or.inr (Or.inr (Or.inr (Or.inr (Or.inr (Or.inr (Or.inr (Or.inr (Or.inr (Or.inr ((Int32.toInt_inj.mp (by rw [h]; rfl))))))))))))))))))
theorem own_eqi {args : Array Value} {s : State} {a : Term} {k : Int32} (h : (Jvm.Cond.eq a (.int k)).value args s none s [] = some true) : a.eval args s none [] s = some (.int k) := by
  simp only [Cond.value, Term.eval] at h
  cases ha : a.eval args s none [] s with
  | none => simp [ha] at h
  | some x => cases x <;> simp [ha] at h ⊢ <;> exact h
theorem own_eqr {args : Array Value} {s : State} {a b : Term} {w : Addr} (hb : b.eval args s none [] s = some (.ref w)) (h : (Jvm.Cond.eq a b).value args s none s [] = some true) : a.eval args s none [] s = some (.ref w) := by
  simp only [Cond.value, hb] at h
  cases ha : a.eval args s none [] s with
  | none => simp [ha] at h
  | some x => cases x <;> simp [ha] at h ⊢ <;> exact h
def own_F0 (Z : State) (h : Heap) (A : Nat → Addr) : Prop := (Sta Z h "com/example/locant/locant/Axis" "CHILD" "Lcom/example/locant/locant/Axis;" (.ref (A 0))) ∧ (Exa Z h (A 0) "com/example/locant/locant/Axis$1") ∧ (Sta Z h "com/example/locant/locant/Axis" "DESCENDANT" "Lcom/example/locant/locant/Axis;" (.ref (A 1))) ∧ (Exa Z h (A 1) "com/example/locant/locant/Axis$2") ∧ (Sta Z h "com/example/locant/locant/Axis" "ATTRIBUTE" "Lcom/example/locant/locant/Axis;" (.ref (A 2))) ∧ (Exa Z h (A 2) "com/example/locant/locant/Axis$3") ∧ (Sta Z h "com/example/locant/locant/Axis" "NAMESPACE" "Lcom/example/locant/locant/Axis;" (.ref (A 3))) ∧ (Exa Z h (A 3) "com/example/locant/locant/Axis$4") ∧ (Sta Z h "com/example/locant/locant/Axis" "SELF" "Lcom/example/locant/locant/Axis;" (.ref (A 4))) ∧ (Exa Z h (A 4) "com/example/locant/locant/Axis$5") ∧ (Sta Z h "com/example/locant/locant/Axis" "DESCENDANT_OR_SELF" "Lcom/example/locant/locant/Axis;" (.ref (A 5))) ∧ (Exa Z h (A 5) "com/example/locant/locant/Axis$6") ∧ (Sta Z h "com/example/locant/locant/Axis" "FOLLOWING_SIBLING" "Lcom/example/locant/locant/Axis;" (.ref (A 6))) ∧ (Exa Z h (A 6) "com/example/locant/locant/Axis$7") ∧ (Sta Z h "com/example/locant/locant/Axis" "FOLLOWING_SIBLING_OR_SELF" "Lcom/example/locant/locant/Axis;" (.ref (A 7))) ∧ (Exa Z h (A 7) "com/example/locant/locant/Axis$8") ∧ (Sta Z h "com/example/locant/locant/Axis" "FOLLOWING" "Lcom/example/locant/locant/Axis;" (.ref (A 8))) ∧ (Exa Z h (A 8) "com/example/locant/locant/Axis$9") ∧ (Sta Z h "com/example/locant/locant/Axis" "FOLLOWING_OR_SELF" "Lcom/example/locant/locant/Axis;" (.ref (A 9))) ∧ (Exa Z h (A 9) "com/example/locant/locant/Axis$10") ∧ (Sta Z h "com/example/locant/locant/Axis" "PARENT" "Lcom/example/locant/locant/Axis;" (.ref (A 10))) ∧ (Exa Z h (A 10) "com/example/locant/locant/Axis$11") ∧ (Sta Z h "com/example/locant/locant/Axis" "ANCESTOR" "Lcom/example/locant/locant/Axis;" (.ref (A 11))) ∧ (Exa Z h (A 11) "com/example/locant/locant/Axis$12")
def own_F1 (Z : State) (h : Heap) (A : Nat → Addr) : Prop := (Sta Z h "com/example/locant/locant/Axis" "ANCESTOR_OR_SELF" "Lcom/example/locant/locant/Axis;" (.ref (A 12))) ∧ (Exa Z h (A 12) "com/example/locant/locant/Axis$13") ∧ (Sta Z h "com/example/locant/locant/Axis" "PRECEDING_SIBLING" "Lcom/example/locant/locant/Axis;" (.ref (A 13))) ∧ (Exa Z h (A 13) "com/example/locant/locant/Axis$14") ∧ (Sta Z h "com/example/locant/locant/Axis" "PRECEDING_SIBLING_OR_SELF" "Lcom/example/locant/locant/Axis;" (.ref (A 14))) ∧ (Exa Z h (A 14) "com/example/locant/locant/Axis$15") ∧ (Sta Z h "com/example/locant/locant/Axis" "PRECEDING" "Lcom/example/locant/locant/Axis;" (.ref (A 15))) ∧ (Exa Z h (A 15) "com/example/locant/locant/Axis$16") ∧ (Sta Z h "com/example/locant/locant/Axis" "PRECEDING_OR_SELF" "Lcom/example/locant/locant/Axis;" (.ref (A 16))) ∧ (Exa Z h (A 16) "com/example/locant/locant/Axis$17") ∧ (Sta Z h "com/example/locant/locant/Axis$Direction" "FORWARD" "Lcom/example/locant/locant/Axis$Direction;" (.ref (A 17))) ∧ (Exa Z h (A 17) "com/example/locant/locant/Axis$Direction") ∧ (Sta Z h "com/example/locant/locant/Axis$Direction" "REVERSE" "Lcom/example/locant/locant/Axis$Direction;" (.ref (A 18))) ∧ (Exa Z h (A 18) "com/example/locant/locant/Axis$Direction") ∧ (Fld Z h (A 0) "com/example/locant/locant/Axis" "mDirection" "Lcom/example/locant/locant/Axis$Direction;" (.ref (A 17))) ∧ (Fld Z h (A 17) "java/lang/Enum" "ordinal" "I" (.int 0)) ∧ (Fld Z h (A 18) "java/lang/Enum" "ordinal" "I" (.int 1)) ∧ (Fld Z h (A 3) "com/example/locant/locant/Axis" "mDirection" "Lcom/example/locant/locant/Axis$Direction;" (.ref (A 17))) ∧ (Fld Z h (A 2) "com/example/locant/locant/Axis" "mDirection" "Lcom/example/locant/locant/Axis$Direction;" (.ref (A 17))) ∧ (Fld Z h (A 4) "com/example/locant/locant/Axis" "mDirection" "Lcom/example/locant/locant/Axis$Direction;" (.ref (A 17))) ∧ (Fld Z h (A 8) "com/example/locant/locant/Axis" "mDirection" "Lcom/example/locant/locant/Axis$Direction;" (.ref (A 17))) ∧ (Fld Z h (A 9) "com/example/locant/locant/Axis" "mDirection" "Lcom/example/locant/locant/Axis$Direction;" (.ref (A 17))) ∧ (Fld Z h (A 6) "com/example/locant/locant/Axis" "mDirection" "Lcom/example/locant/locant/Axis$Direction;" (.ref (A 17))) ∧ (Fld Z h (A 7) "com/example/locant/locant/Axis" "mDirection" "Lcom/example/locant/locant/Axis$Direction;" (.ref (A 17)))
def own_F2 (Z : State) (h : Heap) (A : Nat → Addr) : Prop := (Fld Z h (A 11) "com/example/locant/locant/Axis" "mDirection" "Lcom/example/locant/locant/Axis$Direction;" (.ref (A 18))) ∧ (Fld Z h (A 1) "com/example/locant/locant/Axis" "mDirection" "Lcom/example/locant/locant/Axis$Direction;" (.ref (A 17))) ∧ (Fld Z h (A 13) "com/example/locant/locant/Axis" "mDirection" "Lcom/example/locant/locant/Axis$Direction;" (.ref (A 18))) ∧ (Fld Z h (A 10) "com/example/locant/locant/Axis" "mDirection" "Lcom/example/locant/locant/Axis$Direction;" (.ref (A 18))) ∧ (Fld Z h (A 16) "com/example/locant/locant/Axis" "mDirection" "Lcom/example/locant/locant/Axis$Direction;" (.ref (A 18))) ∧ (Fld Z h (A 15) "com/example/locant/locant/Axis" "mDirection" "Lcom/example/locant/locant/Axis$Direction;" (.ref (A 18))) ∧ (Fld Z h (A 5) "com/example/locant/locant/Axis" "mDirection" "Lcom/example/locant/locant/Axis$Direction;" (.ref (A 17))) ∧ (Fld Z h (A 14) "com/example/locant/locant/Axis" "mDirection" "Lcom/example/locant/locant/Axis$Direction;" (.ref (A 18))) ∧ (Fld Z h (A 12) "com/example/locant/locant/Axis" "mDirection" "Lcom/example/locant/locant/Axis$Direction;" (.ref (A 18)))
def own_F (Z : State) (h : Heap) (A : Nat → Addr) : Prop := own_F0 Z h A ∧ own_F1 Z h A ∧ own_F2 Z h A
set_option maxRecDepth 65536 in
theorem sk_0 (p : Program) (l : Launch) (e : Env) (R : Room) (s : State) (m : MethodId) (args : Array Value) (below : List Frame) (meth : Method) (c : Code) (Z : State) (a0 : Array Value) (h : Heap) (hw : ∀ d ∈ tables_1, d.before a0 Z = true) (k : Int32) (u : Value) (q : ¬ k = 0) (K : own_C p s m meth c Z method_3_code "com/example/locant/locant/AxisIsDisjointPinLaw" (.object "com/example/locant/locant/Axis") 1) (r : own_E p l e R s m args below meth c h 8 #[.val (.int k)] [] u) :
    own_E p l e R s m args below meth c h 0 #[.val (.int k)] [] u := by
  refine own_iloadN K (pc := 0) d1_0 rfl ?_
  refine own_ifY K (pc := 1) (pc' := 8) d1_1 (by rw [if0]; exact (feq q).2) (by decide) (by decide) ?_
  exact r
set_option maxRecDepth 65536 in
theorem hi_0 (p : Program) (l : Launch) (e : Env) (R : Room) (s : State) (m : MethodId) (args : Array Value) (below : List Frame) (meth : Method) (c : Code) (Z : State) (a0 : Array Value) (h : Heap) (hw : ∀ d ∈ tables_1, d.before a0 Z = true) (A : Nat → Addr) (F : own_F Z h A) (K : own_C p s m meth c Z method_3_code "com/example/locant/locant/AxisIsDisjointPinLaw" (.object "com/example/locant/locant/Axis") 1) :
    own_E p l e R s m args below meth c h 0 #[.val (.int (0 : Int32))] [] (.ref (A 0)) := by
  refine own_iloadN K (pc := 0) d1_0 rfl ?_
  refine own_ifN K (pc := 1) d1_1 (by decide) ?_
  refine own_getS K (pc := 4) (hw _ (List.mem_of_getElem? (i := 5) rfl)) F.1.1 d1_4 ?_
  exact own_retA K (pc := 7) d1_7 rfl rfl rfl
set_option maxRecDepth 65536 in
theorem sk_1 (p : Program) (l : Launch) (e : Env) (R : Room) (s : State) (m : MethodId) (args : Array Value) (below : List Frame) (meth : Method) (c : Code) (Z : State) (a0 : Array Value) (h : Heap) (hw : ∀ d ∈ tables_1, d.before a0 Z = true) (k : Int32) (u : Value) (q : ¬ k = 1) (K : own_C p s m meth c Z method_3_code "com/example/locant/locant/AxisIsDisjointPinLaw" (.object "com/example/locant/locant/Axis") 1) (r : own_E p l e R s m args below meth c h 17 #[.val (.int k)] [] u) :
    own_E p l e R s m args below meth c h 8 #[.val (.int k)] [] u := by
  refine own_iloadN K (pc := 8) d1_8 rfl ?_
  refine own_iconst K (pc := 9) d1_9 (x := (1 : Int32)) (by decide) ?_
  refine own_icmpY K (pc := 10) (pc' := 17) d1_10 (feq q).2 (by decide) (by decide) ?_
  exact r
set_option maxRecDepth 65536 in
theorem hi_1 (p : Program) (l : Launch) (e : Env) (R : Room) (s : State) (m : MethodId) (args : Array Value) (below : List Frame) (meth : Method) (c : Code) (Z : State) (a0 : Array Value) (h : Heap) (hw : ∀ d ∈ tables_1, d.before a0 Z = true) (A : Nat → Addr) (F : own_F Z h A) (K : own_C p s m meth c Z method_3_code "com/example/locant/locant/AxisIsDisjointPinLaw" (.object "com/example/locant/locant/Axis") 1) :
    own_E p l e R s m args below meth c h 8 #[.val (.int (1 : Int32))] [] (.ref (A 1)) := by
  refine own_iloadN K (pc := 8) d1_8 rfl ?_
  refine own_iconst K (pc := 9) d1_9 (x := (1 : Int32)) (by decide) ?_
  refine own_icmpN K (pc := 10) d1_10 (by decide) ?_
  refine own_getS K (pc := 13) (hw _ (List.mem_of_getElem? (i := 54) rfl)) F.1.2.2.1 d1_13 ?_
  exact own_retA K (pc := 16) d1_16 rfl rfl rfl
set_option maxRecDepth 65536 in
theorem sk_2 (p : Program) (l : Launch) (e : Env) (R : Room) (s : State) (m : MethodId) (args : Array Value) (below : List Frame) (meth : Method) (c : Code) (Z : State) (a0 : Array Value) (h : Heap) (hw : ∀ d ∈ tables_1, d.before a0 Z = true) (k : Int32) (u : Value) (q : ¬ k = 2) (K : own_C p s m meth c Z method_3_code "com/example/locant/locant/AxisIsDisjointPinLaw" (.object "com/example/locant/locant/Axis") 1) (r : own_E p l e R s m args below meth c h 26 #[.val (.int k)] [] u) :
    own_E p l e R s m args below meth c h 17 #[.val (.int k)] [] u := by
  refine own_iloadN K (pc := 17) d1_17 rfl ?_
  refine own_iconst K (pc := 18) d1_18 (x := (2 : Int32)) (by decide) ?_
  refine own_icmpY K (pc := 19) (pc' := 26) d1_19 (feq q).2 (by decide) (by decide) ?_
  exact r
set_option maxRecDepth 65536 in
theorem hi_2 (p : Program) (l : Launch) (e : Env) (R : Room) (s : State) (m : MethodId) (args : Array Value) (below : List Frame) (meth : Method) (c : Code) (Z : State) (a0 : Array Value) (h : Heap) (hw : ∀ d ∈ tables_1, d.before a0 Z = true) (A : Nat → Addr) (F : own_F Z h A) (K : own_C p s m meth c Z method_3_code "com/example/locant/locant/AxisIsDisjointPinLaw" (.object "com/example/locant/locant/Axis") 1) :
    own_E p l e R s m args below meth c h 17 #[.val (.int (2 : Int32))] [] (.ref (A 2)) := by
  refine own_iloadN K (pc := 17) d1_17 rfl ?_
  refine own_iconst K (pc := 18) d1_18 (x := (2 : Int32)) (by decide) ?_
  refine own_icmpN K (pc := 19) d1_19 (by decide) ?_
  refine own_getS K (pc := 22) (hw _ (List.mem_of_getElem? (i := 47) rfl)) F.1.2.2.2.2.1 d1_22 ?_
  exact own_retA K (pc := 25) d1_25 rfl rfl rfl
set_option maxRecDepth 65536 in
theorem sk_3 (p : Program) (l : Launch) (e : Env) (R : Room) (s : State) (m : MethodId) (args : Array Value) (below : List Frame) (meth : Method) (c : Code) (Z : State) (a0 : Array Value) (h : Heap) (hw : ∀ d ∈ tables_1, d.before a0 Z = true) (k : Int32) (u : Value) (q : ¬ k = 3) (K : own_C p s m meth c Z method_3_code "com/example/locant/locant/AxisIsDisjointPinLaw" (.object "com/example/locant/locant/Axis") 1) (r : own_E p l e R s m args below meth c h 35 #[.val (.int k)] [] u) :
    own_E p l e R s m args below meth c h 26 #[.val (.int k)] [] u := by
  refine own_iloadN K (pc := 26) d1_26 rfl ?_
  refine own_iconst K (pc := 27) d1_27 (x := (3 : Int32)) (by decide) ?_
  refine own_icmpY K (pc := 28) (pc' := 35) d1_28 (feq q).2 (by decide) (by decide) ?_
  exact r
set_option maxRecDepth 65536 in
theorem hi_3 (p : Program) (l : Launch) (e : Env) (R : Room) (s : State) (m : MethodId) (args : Array Value) (below : List Frame) (meth : Method) (c : Code) (Z : State) (a0 : Array Value) (h : Heap) (hw : ∀ d ∈ tables_1, d.before a0 Z = true) (A : Nat → Addr) (F : own_F Z h A) (K : own_C p s m meth c Z method_3_code "com/example/locant/locant/AxisIsDisjointPinLaw" (.object "com/example/locant/locant/Axis") 1) :
    own_E p l e R s m args below meth c h 26 #[.val (.int (3 : Int32))] [] (.ref (A 3)) := by
  refine own_iloadN K (pc := 26) d1_26 rfl ?_
  refine own_iconst K (pc := 27) d1_27 (x := (3 : Int32)) (by decide) ?_
  refine own_icmpN K (pc := 28) d1_28 (by decide) ?_
  refine own_getS K (pc := 31) (hw _ (List.mem_of_getElem? (i := 25) rfl)) F.1.2.2.2.2.2.2.1 d1_31 ?_
  exact own_retA K (pc := 34) d1_34 rfl rfl rfl
set_option maxRecDepth 65536 in
theorem sk_4 (p : Program) (l : Launch) (e : Env) (R : Room) (s : State) (m : MethodId) (args : Array Value) (below : List Frame) (meth : Method) (c : Code) (Z : State) (a0 : Array Value) (h : Heap) (hw : ∀ d ∈ tables_1, d.before a0 Z = true) (k : Int32) (u : Value) (q : ¬ k = 4) (K : own_C p s m meth c Z method_3_code "com/example/locant/locant/AxisIsDisjointPinLaw" (.object "com/example/locant/locant/Axis") 1) (r : own_E p l e R s m args below meth c h 44 #[.val (.int k)] [] u) :
    own_E p l e R s m args below meth c h 35 #[.val (.int k)] [] u := by
  refine own_iloadN K (pc := 35) d1_35 rfl ?_
  refine own_iconst K (pc := 36) d1_36 (x := (4 : Int32)) (by decide) ?_
  refine own_icmpY K (pc := 37) (pc' := 44) d1_37 (feq q).2 (by decide) (by decide) ?_
  exact r
set_option maxRecDepth 65536 in
theorem hi_4 (p : Program) (l : Launch) (e : Env) (R : Room) (s : State) (m : MethodId) (args : Array Value) (below : List Frame) (meth : Method) (c : Code) (Z : State) (a0 : Array Value) (h : Heap) (hw : ∀ d ∈ tables_1, d.before a0 Z = true) (A : Nat → Addr) (F : own_F Z h A) (K : own_C p s m meth c Z method_3_code "com/example/locant/locant/AxisIsDisjointPinLaw" (.object "com/example/locant/locant/Axis") 1) :
    own_E p l e R s m args below meth c h 35 #[.val (.int (4 : Int32))] [] (.ref (A 4)) := by
  refine own_iloadN K (pc := 35) d1_35 rfl ?_
  refine own_iconst K (pc := 36) d1_36 (x := (4 : Int32)) (by decide) ?_
  refine own_icmpN K (pc := 37) d1_37 (by decide) ?_
  refine own_getS K (pc := 40) (hw _ (List.mem_of_getElem? (i := 60) rfl)) F.1.2.2.2.2.2.2.2.2.1 d1_40 ?_
  exact own_retA K (pc := 43) d1_43 rfl rfl rfl
set_option maxRecDepth 65536 in
theorem sk_5 (p : Program) (l : Launch) (e : Env) (R : Room) (s : State) (m : MethodId) (args : Array Value) (below : List Frame) (meth : Method) (c : Code) (Z : State) (a0 : Array Value) (h : Heap) (hw : ∀ d ∈ tables_1, d.before a0 Z = true) (k : Int32) (u : Value) (q : ¬ k = 5) (K : own_C p s m meth c Z method_3_code "com/example/locant/locant/AxisIsDisjointPinLaw" (.object "com/example/locant/locant/Axis") 1) (r : own_E p l e R s m args below meth c h 53 #[.val (.int k)] [] u) :
    own_E p l e R s m args below meth c h 44 #[.val (.int k)] [] u := by
  refine own_iloadN K (pc := 44) d1_44 rfl ?_
  refine own_iconst K (pc := 45) d1_45 (x := (5 : Int32)) (by decide) ?_
  refine own_icmpY K (pc := 46) (pc' := 53) d1_46 (feq q).2 (by decide) (by decide) ?_
  exact r
set_option maxRecDepth 65536 in
theorem hi_5 (p : Program) (l : Launch) (e : Env) (R : Room) (s : State) (m : MethodId) (args : Array Value) (below : List Frame) (meth : Method) (c : Code) (Z : State) (a0 : Array Value) (h : Heap) (hw : ∀ d ∈ tables_1, d.before a0 Z = true) (A : Nat → Addr) (F : own_F Z h A) (K : own_C p s m meth c Z method_3_code "com/example/locant/locant/AxisIsDisjointPinLaw" (.object "com/example/locant/locant/Axis") 1) :
    own_E p l e R s m args below meth c h 44 #[.val (.int (5 : Int32))] [] (.ref (A 5)) := by
  refine own_iloadN K (pc := 44) d1_44 rfl ?_
  refine own_iconst K (pc := 45) d1_45 (x := (5 : Int32)) (by decide) ?_
  refine own_icmpN K (pc := 46) d1_46 (by decide) ?_
  refine own_getS K (pc := 49) (hw _ (List.mem_of_getElem? (i := 73) rfl)) F.1.2.2.2.2.2.2.2.2.2.2.1 d1_49 ?_
  exact own_retA K (pc := 52) d1_52 rfl rfl rfl
set_option maxRecDepth 65536 in
theorem sk_6 (p : Program) (l : Launch) (e : Env) (R : Room) (s : State) (m : MethodId) (args : Array Value) (below : List Frame) (meth : Method) (c : Code) (Z : State) (a0 : Array Value) (h : Heap) (hw : ∀ d ∈ tables_1, d.before a0 Z = true) (k : Int32) (u : Value) (q : ¬ k = 6) (K : own_C p s m meth c Z method_3_code "com/example/locant/locant/AxisIsDisjointPinLaw" (.object "com/example/locant/locant/Axis") 1) (r : own_E p l e R s m args below meth c h 63 #[.val (.int k)] [] u) :
    own_E p l e R s m args below meth c h 53 #[.val (.int k)] [] u := by
  refine own_iloadN K (pc := 53) d1_53 rfl ?_
  refine own_bipush K (pc := 54) d1_54 (x := (6 : Int32)) (by decide) ?_
  refine own_icmpY K (pc := 56) (pc' := 63) d1_56 (feq q).2 (by decide) (by decide) ?_
  exact r
set_option maxRecDepth 65536 in
theorem hi_6 (p : Program) (l : Launch) (e : Env) (R : Room) (s : State) (m : MethodId) (args : Array Value) (below : List Frame) (meth : Method) (c : Code) (Z : State) (a0 : Array Value) (h : Heap) (hw : ∀ d ∈ tables_1, d.before a0 Z = true) (A : Nat → Addr) (F : own_F Z h A) (K : own_C p s m meth c Z method_3_code "com/example/locant/locant/AxisIsDisjointPinLaw" (.object "com/example/locant/locant/Axis") 1) :
    own_E p l e R s m args below meth c h 53 #[.val (.int (6 : Int32))] [] (.ref (A 6)) := by
  refine own_iloadN K (pc := 53) d1_53 rfl ?_
  refine own_bipush K (pc := 54) d1_54 (x := (6 : Int32)) (by decide) ?_
  refine own_icmpN K (pc := 56) d1_56 (by decide) ?_
  refine own_getS K (pc := 59) (hw _ (List.mem_of_getElem? (i := 41) rfl)) F.1.2.2.2.2.2.2.2.2.2.2.2.2.1 d1_59 ?_
  exact own_retA K (pc := 62) d1_62 rfl rfl rfl
set_option maxRecDepth 65536 in
theorem sk_7 (p : Program) (l : Launch) (e : Env) (R : Room) (s : State) (m : MethodId) (args : Array Value) (below : List Frame) (meth : Method) (c : Code) (Z : State) (a0 : Array Value) (h : Heap) (hw : ∀ d ∈ tables_1, d.before a0 Z = true) (k : Int32) (u : Value) (q : ¬ k = 7) (K : own_C p s m meth c Z method_3_code "com/example/locant/locant/AxisIsDisjointPinLaw" (.object "com/example/locant/locant/Axis") 1) (r : own_E p l e R s m args below meth c h 73 #[.val (.int k)] [] u) :
    own_E p l e R s m args below meth c h 63 #[.val (.int k)] [] u := by
  refine own_iloadN K (pc := 63) d1_63 rfl ?_
  refine own_bipush K (pc := 64) d1_64 (x := (7 : Int32)) (by decide) ?_
  refine own_icmpY K (pc := 66) (pc' := 73) d1_66 (feq q).2 (by decide) (by decide) ?_
  exact r
set_option maxRecDepth 65536 in
theorem hi_7 (p : Program) (l : Launch) (e : Env) (R : Room) (s : State) (m : MethodId) (args : Array Value) (below : List Frame) (meth : Method) (c : Code) (Z : State) (a0 : Array Value) (h : Heap) (hw : ∀ d ∈ tables_1, d.before a0 Z = true) (A : Nat → Addr) (F : own_F Z h A) (K : own_C p s m meth c Z method_3_code "com/example/locant/locant/AxisIsDisjointPinLaw" (.object "com/example/locant/locant/Axis") 1) :
    own_E p l e R s m args below meth c h 63 #[.val (.int (7 : Int32))] [] (.ref (A 7)) := by
  refine own_iloadN K (pc := 63) d1_63 rfl ?_
  refine own_bipush K (pc := 64) d1_64 (x := (7 : Int32)) (by decide) ?_
  refine own_icmpN K (pc := 66) d1_66 (by decide) ?_
  refine own_getS K (pc := 69) (hw _ (List.mem_of_getElem? (i := 44) rfl)) F.1.2.2.2.2.2.2.2.2.2.2.2.2.2.2.1 d1_69 ?_
  exact own_retA K (pc := 72) d1_72 rfl rfl rfl
set_option maxRecDepth 65536 in
theorem sk_8 (p : Program) (l : Launch) (e : Env) (R : Room) (s : State) (m : MethodId) (args : Array Value) (below : List Frame) (meth : Method) (c : Code) (Z : State) (a0 : Array Value) (h : Heap) (hw : ∀ d ∈ tables_1, d.before a0 Z = true) (k : Int32) (u : Value) (q : ¬ k = 8) (K : own_C p s m meth c Z method_3_code "com/example/locant/locant/AxisIsDisjointPinLaw" (.object "com/example/locant/locant/Axis") 1) (r : own_E p l e R s m args below meth c h 83 #[.val (.int k)] [] u) :
    own_E p l e R s m args below meth c h 73 #[.val (.int k)] [] u := by
  refine own_iloadN K (pc := 73) d1_73 rfl ?_
  refine own_bipush K (pc := 74) d1_74 (x := (8 : Int32)) (by decide) ?_
  refine own_icmpY K (pc := 76) (pc' := 83) d1_76 (feq q).2 (by decide) (by decide) ?_
  exact r
set_option maxRecDepth 65536 in
theorem hi_8 (p : Program) (l : Launch) (e : Env) (R : Room) (s : State) (m : MethodId) (args : Array Value) (below : List Frame) (meth : Method) (c : Code) (Z : State) (a0 : Array Value) (h : Heap) (hw : ∀ d ∈ tables_1, d.before a0 Z = true) (A : Nat → Addr) (F : own_F Z h A) (K : own_C p s m meth c Z method_3_code "com/example/locant/locant/AxisIsDisjointPinLaw" (.object "com/example/locant/locant/Axis") 1) :
    own_E p l e R s m args below meth c h 73 #[.val (.int (8 : Int32))] [] (.ref (A 8)) := by
  refine own_iloadN K (pc := 73) d1_73 rfl ?_
  refine own_bipush K (pc := 74) d1_74 (x := (8 : Int32)) (by decide) ?_
  refine own_icmpN K (pc := 76) d1_76 (by decide) ?_
  refine own_getS K (pc := 79) (hw _ (List.mem_of_getElem? (i := 33) rfl)) F.1.2.2.2.2.2.2.2.2.2.2.2.2.2.2.2.2.1 d1_79 ?_
  exact own_retA K (pc := 82) d1_82 rfl rfl rfl
set_option maxRecDepth 65536 in
theorem sk_9 (p : Program) (l : Launch) (e : Env) (R : Room) (s : State) (m : MethodId) (args : Array Value) (below : List Frame) (meth : Method) (c : Code) (Z : State) (a0 : Array Value) (h : Heap) (hw : ∀ d ∈ tables_1, d.before a0 Z = true) (k : Int32) (u : Value) (q : ¬ k = 9) (K : own_C p s m meth c Z method_3_code "com/example/locant/locant/AxisIsDisjointPinLaw" (.object "com/example/locant/locant/Axis") 1) (r : own_E p l e R s m args below meth c h 93 #[.val (.int k)] [] u) :
    own_E p l e R s m args below meth c h 83 #[.val (.int k)] [] u := by
  refine own_iloadN K (pc := 83) d1_83 rfl ?_
  refine own_bipush K (pc := 84) d1_84 (x := (9 : Int32)) (by decide) ?_
  refine own_icmpY K (pc := 86) (pc' := 93) d1_86 (feq q).2 (by decide) (by decide) ?_
  exact r
set_option maxRecDepth 65536 in
theorem hi_9 (p : Program) (l : Launch) (e : Env) (R : Room) (s : State) (m : MethodId) (args : Array Value) (below : List Frame) (meth : Method) (c : Code) (Z : State) (a0 : Array Value) (h : Heap) (hw : ∀ d ∈ tables_1, d.before a0 Z = true) (A : Nat → Addr) (F : own_F Z h A) (K : own_C p s m meth c Z method_3_code "com/example/locant/locant/AxisIsDisjointPinLaw" (.object "com/example/locant/locant/Axis") 1) :
    own_E p l e R s m args below meth c h 83 #[.val (.int (9 : Int32))] [] (.ref (A 9)) := by
  refine own_iloadN K (pc := 83) d1_83 rfl ?_
  refine own_bipush K (pc := 84) d1_84 (x := (9 : Int32)) (by decide) ?_
  refine own_icmpN K (pc := 86) d1_86 (by decide) ?_
  refine own_getS K (pc := 89) (hw _ (List.mem_of_getElem? (i := 38) rfl)) F.1.2.2.2.2.2.2.2.2.2.2.2.2.2.2.2.2.2.2.1 d1_89 ?_
  exact own_retA K (pc := 92) d1_92 rfl rfl rfl
set_option maxRecDepth 65536 in
theorem sk_10 (p : Program) (l : Launch) (e : Env) (R : Room) (s : State) (m : MethodId) (args : Array Value) (below : List Frame) (meth : Method) (c : Code) (Z : State) (a0 : Array Value) (h : Heap) (hw : ∀ d ∈ tables_1, d.before a0 Z = true) (k : Int32) (u : Value) (q : ¬ k = 10) (K : own_C p s m meth c Z method_3_code "com/example/locant/locant/AxisIsDisjointPinLaw" (.object "com/example/locant/locant/Axis") 1) (r : own_E p l e R s m args below meth c h 103 #[.val (.int k)] [] u) :
    own_E p l e R s m args below meth c h 93 #[.val (.int k)] [] u := by
  refine own_iloadN K (pc := 93) d1_93 rfl ?_
  refine own_bipush K (pc := 94) d1_94 (x := (10 : Int32)) (by decide) ?_
  refine own_icmpY K (pc := 96) (pc' := 103) d1_96 (feq q).2 (by decide) (by decide) ?_
  exact r
set_option maxRecDepth 65536 in
theorem hi_10 (p : Program) (l : Launch) (e : Env) (R : Room) (s : State) (m : MethodId) (args : Array Value) (below : List Frame) (meth : Method) (c : Code) (Z : State) (a0 : Array Value) (h : Heap) (hw : ∀ d ∈ tables_1, d.before a0 Z = true) (A : Nat → Addr) (F : own_F Z h A) (K : own_C p s m meth c Z method_3_code "com/example/locant/locant/AxisIsDisjointPinLaw" (.object "com/example/locant/locant/Axis") 1) :
    own_E p l e R s m args below meth c h 93 #[.val (.int (10 : Int32))] [] (.ref (A 10)) := by
  refine own_iloadN K (pc := 93) d1_93 rfl ?_
  refine own_bipush K (pc := 94) d1_94 (x := (10 : Int32)) (by decide) ?_
  refine own_icmpN K (pc := 96) d1_96 (by decide) ?_
  refine own_getS K (pc := 99) (hw _ (List.mem_of_getElem? (i := 64) rfl)) F.1.2.2.2.2.2.2.2.2.2.2.2.2.2.2.2.2.2.2.2.2.1 d1_99 ?_
  exact own_retA K (pc := 102) d1_102 rfl rfl rfl
set_option maxRecDepth 65536 in
theorem sk_11 (p : Program) (l : Launch) (e : Env) (R : Room) (s : State) (m : MethodId) (args : Array Value) (below : List Frame) (meth : Method) (c : Code) (Z : State) (a0 : Array Value) (h : Heap) (hw : ∀ d ∈ tables_1, d.before a0 Z = true) (k : Int32) (u : Value) (q : ¬ k = 11) (K : own_C p s m meth c Z method_3_code "com/example/locant/locant/AxisIsDisjointPinLaw" (.object "com/example/locant/locant/Axis") 1) (r : own_E p l e R s m args below meth c h 113 #[.val (.int k)] [] u) :
    own_E p l e R s m args below meth c h 103 #[.val (.int k)] [] u := by
  refine own_iloadN K (pc := 103) d1_103 rfl ?_
  refine own_bipush K (pc := 104) d1_104 (x := (11 : Int32)) (by decide) ?_
  refine own_icmpY K (pc := 106) (pc' := 113) d1_106 (feq q).2 (by decide) (by decide) ?_
  exact r
set_option maxRecDepth 65536 in
theorem hi_11 (p : Program) (l : Launch) (e : Env) (R : Room) (s : State) (m : MethodId) (args : Array Value) (below : List Frame) (meth : Method) (c : Code) (Z : State) (a0 : Array Value) (h : Heap) (hw : ∀ d ∈ tables_1, d.before a0 Z = true) (A : Nat → Addr) (F : own_F Z h A) (K : own_C p s m meth c Z method_3_code "com/example/locant/locant/AxisIsDisjointPinLaw" (.object "com/example/locant/locant/Axis") 1) :
    own_E p l e R s m args below meth c h 103 #[.val (.int (11 : Int32))] [] (.ref (A 11)) := by
  refine own_iloadN K (pc := 103) d1_103 rfl ?_
  refine own_bipush K (pc := 104) d1_104 (x := (11 : Int32)) (by decide) ?_
  refine own_icmpN K (pc := 106) d1_106 (by decide) ?_
  refine own_getS K (pc := 109) (hw _ (List.mem_of_getElem? (i := 51) rfl)) F.1.2.2.2.2.2.2.2.2.2.2.2.2.2.2.2.2.2.2.2.2.2.2.1 d1_109 ?_
  exact own_retA K (pc := 112) d1_112 rfl rfl rfl
set_option maxRecDepth 65536 in
theorem sk_12 (p : Program) (l : Launch) (e : Env) (R : Room) (s : State) (m : MethodId) (args : Array Value) (below : List Frame) (meth : Method) (c : Code) (Z : State) (a0 : Array Value) (h : Heap) (hw : ∀ d ∈ tables_1, d.before a0 Z = true) (k : Int32) (u : Value) (q : ¬ k = 12) (K : own_C p s m meth c Z method_3_code "com/example/locant/locant/AxisIsDisjointPinLaw" (.object "com/example/locant/locant/Axis") 1) (r : own_E p l e R s m args below meth c h 123 #[.val (.int k)] [] u) :
    own_E p l e R s m args below meth c h 113 #[.val (.int k)] [] u := by
  refine own_iloadN K (pc := 113) d1_113 rfl ?_
  refine own_bipush K (pc := 114) d1_114 (x := (12 : Int32)) (by decide) ?_
  refine own_icmpY K (pc := 116) (pc' := 123) d1_116 (feq q).2 (by decide) (by decide) ?_
  exact r
set_option maxRecDepth 65536 in
theorem hi_12 (p : Program) (l : Launch) (e : Env) (R : Room) (s : State) (m : MethodId) (args : Array Value) (below : List Frame) (meth : Method) (c : Code) (Z : State) (a0 : Array Value) (h : Heap) (hw : ∀ d ∈ tables_1, d.before a0 Z = true) (A : Nat → Addr) (F : own_F Z h A) (K : own_C p s m meth c Z method_3_code "com/example/locant/locant/AxisIsDisjointPinLaw" (.object "com/example/locant/locant/Axis") 1) :
    own_E p l e R s m args below meth c h 113 #[.val (.int (12 : Int32))] [] (.ref (A 12)) := by
  refine own_iloadN K (pc := 113) d1_113 rfl ?_
  refine own_bipush K (pc := 114) d1_114 (x := (12 : Int32)) (by decide) ?_
  refine own_icmpN K (pc := 116) d1_116 (by decide) ?_
  refine own_getS K (pc := 119) (hw _ (List.mem_of_getElem? (i := 79) rfl)) F.2.1.1 d1_119 ?_
  exact own_retA K (pc := 122) d1_122 rfl rfl rfl
set_option maxRecDepth 65536 in
theorem sk_13 (p : Program) (l : Launch) (e : Env) (R : Room) (s : State) (m : MethodId) (args : Array Value) (below : List Frame) (meth : Method) (c : Code) (Z : State) (a0 : Array Value) (h : Heap) (hw : ∀ d ∈ tables_1, d.before a0 Z = true) (k : Int32) (u : Value) (q : ¬ k = 13) (K : own_C p s m meth c Z method_3_code "com/example/locant/locant/AxisIsDisjointPinLaw" (.object "com/example/locant/locant/Axis") 1) (r : own_E p l e R s m args below meth c h 133 #[.val (.int k)] [] u) :
    own_E p l e R s m args below meth c h 123 #[.val (.int k)] [] u := by
  refine own_iloadN K (pc := 123) d1_123 rfl ?_
  refine own_bipush K (pc := 124) d1_124 (x := (13 : Int32)) (by decide) ?_
  refine own_icmpY K (pc := 126) (pc' := 133) d1_126 (feq q).2 (by decide) (by decide) ?_
  exact r
set_option maxRecDepth 65536 in
theorem hi_13 (p : Program) (l : Launch) (e : Env) (R : Room) (s : State) (m : MethodId) (args : Array Value) (below : List Frame) (meth : Method) (c : Code) (Z : State) (a0 : Array Value) (h : Heap) (hw : ∀ d ∈ tables_1, d.before a0 Z = true) (A : Nat → Addr) (F : own_F Z h A) (K : own_C p s m meth c Z method_3_code "com/example/locant/locant/AxisIsDisjointPinLaw" (.object "com/example/locant/locant/Axis") 1) :
    own_E p l e R s m args below meth c h 123 #[.val (.int (13 : Int32))] [] (.ref (A 13)) := by
  refine own_iloadN K (pc := 123) d1_123 rfl ?_
  refine own_bipush K (pc := 124) d1_124 (x := (13 : Int32)) (by decide) ?_
  refine own_icmpN K (pc := 126) d1_126 (by decide) ?_
  refine own_getS K (pc := 129) (hw _ (List.mem_of_getElem? (i := 57) rfl)) F.2.1.2.2.1 d1_129 ?_
  exact own_retA K (pc := 132) d1_132 rfl rfl rfl
set_option maxRecDepth 65536 in
theorem sk_14 (p : Program) (l : Launch) (e : Env) (R : Room) (s : State) (m : MethodId) (args : Array Value) (below : List Frame) (meth : Method) (c : Code) (Z : State) (a0 : Array Value) (h : Heap) (hw : ∀ d ∈ tables_1, d.before a0 Z = true) (k : Int32) (u : Value) (q : ¬ k = 14) (K : own_C p s m meth c Z method_3_code "com/example/locant/locant/AxisIsDisjointPinLaw" (.object "com/example/locant/locant/Axis") 1) (r : own_E p l e R s m args below meth c h 143 #[.val (.int k)] [] u) :
    own_E p l e R s m args below meth c h 133 #[.val (.int k)] [] u := by
  refine own_iloadN K (pc := 133) d1_133 rfl ?_
  refine own_bipush K (pc := 134) d1_134 (x := (14 : Int32)) (by decide) ?_
  refine own_icmpY K (pc := 136) (pc' := 143) d1_136 (feq q).2 (by decide) (by decide) ?_
  exact r
set_option maxRecDepth 65536 in
theorem hi_14 (p : Program) (l : Launch) (e : Env) (R : Room) (s : State) (m : MethodId) (args : Array Value) (below : List Frame) (meth : Method) (c : Code) (Z : State) (a0 : Array Value) (h : Heap) (hw : ∀ d ∈ tables_1, d.before a0 Z = true) (A : Nat → Addr) (F : own_F Z h A) (K : own_C p s m meth c Z method_3_code "com/example/locant/locant/AxisIsDisjointPinLaw" (.object "com/example/locant/locant/Axis") 1) :
    own_E p l e R s m args below meth c h 133 #[.val (.int (14 : Int32))] [] (.ref (A 14)) := by
  refine own_iloadN K (pc := 133) d1_133 rfl ?_
  refine own_bipush K (pc := 134) d1_134 (x := (14 : Int32)) (by decide) ?_
  refine own_icmpN K (pc := 136) d1_136 (by decide) ?_
  refine own_getS K (pc := 139) (hw _ (List.mem_of_getElem? (i := 76) rfl)) F.2.1.2.2.2.2.1 d1_139 ?_
  exact own_retA K (pc := 142) d1_142 rfl rfl rfl
set_option maxRecDepth 65536 in
theorem sk_15 (p : Program) (l : Launch) (e : Env) (R : Room) (s : State) (m : MethodId) (args : Array Value) (below : List Frame) (meth : Method) (c : Code) (Z : State) (a0 : Array Value) (h : Heap) (hw : ∀ d ∈ tables_1, d.before a0 Z = true) (k : Int32) (u : Value) (q : ¬ k = 15) (K : own_C p s m meth c Z method_3_code "com/example/locant/locant/AxisIsDisjointPinLaw" (.object "com/example/locant/locant/Axis") 1) (r : own_E p l e R s m args below meth c h 153 #[.val (.int k)] [] u) :
    own_E p l e R s m args below meth c h 143 #[.val (.int k)] [] u := by
  refine own_iloadN K (pc := 143) d1_143 rfl ?_
  refine own_bipush K (pc := 144) d1_144 (x := (15 : Int32)) (by decide) ?_
  refine own_icmpY K (pc := 146) (pc' := 153) d1_146 (feq q).2 (by decide) (by decide) ?_
  exact r
set_option maxRecDepth 65536 in
theorem hi_15 (p : Program) (l : Launch) (e : Env) (R : Room) (s : State) (m : MethodId) (args : Array Value) (below : List Frame) (meth : Method) (c : Code) (Z : State) (a0 : Array Value) (h : Heap) (hw : ∀ d ∈ tables_1, d.before a0 Z = true) (A : Nat → Addr) (F : own_F Z h A) (K : own_C p s m meth c Z method_3_code "com/example/locant/locant/AxisIsDisjointPinLaw" (.object "com/example/locant/locant/Axis") 1) :
    own_E p l e R s m args below meth c h 143 #[.val (.int (15 : Int32))] [] (.ref (A 15)) := by
  refine own_iloadN K (pc := 143) d1_143 rfl ?_
  refine own_bipush K (pc := 144) d1_144 (x := (15 : Int32)) (by decide) ?_
  refine own_icmpN K (pc := 146) d1_146 (by decide) ?_
  refine own_getS K (pc := 149) (hw _ (List.mem_of_getElem? (i := 70) rfl)) F.2.1.2.2.2.2.2.2.1 d1_149 ?_
  exact own_retA K (pc := 152) d1_152 rfl rfl rfl
set_option maxRecDepth 65536 in
theorem hi_16 (p : Program) (l : Launch) (e : Env) (R : Room) (s : State) (m : MethodId) (args : Array Value) (below : List Frame) (meth : Method) (c : Code) (Z : State) (a0 : Array Value) (h : Heap) (hw : ∀ d ∈ tables_1, d.before a0 Z = true) (A : Nat → Addr) (F : own_F Z h A) (K : own_C p s m meth c Z method_3_code "com/example/locant/locant/AxisIsDisjointPinLaw" (.object "com/example/locant/locant/Axis") 1) :
    own_E p l e R s m args below meth c h 153 #[.val (.int (16 : Int32))] [] (.ref (A 16)) := by
  refine own_getS K (pc := 153) (hw _ (List.mem_of_getElem? (i := 67) rfl)) F.2.1.2.2.2.2.2.2.2.2.1 d1_153 ?_
  exact own_retA K (pc := 156) d1_156 rfl rfl rfl
set_option maxRecDepth 65536 in
theorem pk_0 (l : Launch) (Z : State) (a0 : Array Value) (h : Heap) (hw : ∀ d ∈ tables_1, d.before a0 Z = true) (A : Nat → Addr) (F : own_F Z h A)  : own_M l (⟨"com/example/locant/locant/AxisIsDisjointPinLaw", "pick", "(I)Lcom/example/locant/locant/Axis;"⟩ : MethodName) method_3_code 1 (.object "com/example/locant/locant/Axis") [] { frames := 0, cells := 0, slots := 0, locals := 0 } Z h #[(.int (0 : Int32))] (.ref (A 0)) := by
  refine own_met pn_1 (Ls := #[.val (.int (0 : Int32))]) (fun m => by first | (simp [entryFrame, mkF, argsToLocals, Value.category, maxLocals]; done) | rfl) ?_
  intro p e s m below meth c K
  exact hi_0 p l e _ s m _ below meth c Z a0 h hw A F K
set_option maxRecDepth 65536 in
theorem pk_1 (l : Launch) (Z : State) (a0 : Array Value) (h : Heap) (hw : ∀ d ∈ tables_1, d.before a0 Z = true) (A : Nat → Addr) (F : own_F Z h A)  : own_M l (⟨"com/example/locant/locant/AxisIsDisjointPinLaw", "pick", "(I)Lcom/example/locant/locant/Axis;"⟩ : MethodName) method_3_code 1 (.object "com/example/locant/locant/Axis") [] { frames := 0, cells := 0, slots := 0, locals := 0 } Z h #[(.int (1 : Int32))] (.ref (A 1)) := by
  refine own_met pn_1 (Ls := #[.val (.int (1 : Int32))]) (fun m => by first | (simp [entryFrame, mkF, argsToLocals, Value.category, maxLocals]; done) | rfl) ?_
  intro p e s m below meth c K
  exact sk_0 p l e _ s m _ below meth c Z a0 h hw _ _ (by decide) K (hi_1 p l e _ s m _ below meth c Z a0 h hw A F K)
set_option maxRecDepth 65536 in
theorem pk_2 (l : Launch) (Z : State) (a0 : Array Value) (h : Heap) (hw : ∀ d ∈ tables_1, d.before a0 Z = true) (A : Nat → Addr) (F : own_F Z h A)  : own_M l (⟨"com/example/locant/locant/AxisIsDisjointPinLaw", "pick", "(I)Lcom/example/locant/locant/Axis;"⟩ : MethodName) method_3_code 1 (.object "com/example/locant/locant/Axis") [] { frames := 0, cells := 0, slots := 0, locals := 0 } Z h #[(.int (2 : Int32))] (.ref (A 2)) := by
  refine own_met pn_1 (Ls := #[.val (.int (2 : Int32))]) (fun m => by first | (simp [entryFrame, mkF, argsToLocals, Value.category, maxLocals]; done) | rfl) ?_
  intro p e s m below meth c K
  exact sk_0 p l e _ s m _ below meth c Z a0 h hw _ _ (by decide) K (sk_1 p l e _ s m _ below meth c Z a0 h hw _ _ (by decide) K (hi_2 p l e _ s m _ below meth c Z a0 h hw A F K))
set_option maxRecDepth 65536 in
theorem pk_3 (l : Launch) (Z : State) (a0 : Array Value) (h : Heap) (hw : ∀ d ∈ tables_1, d.before a0 Z = true) (A : Nat → Addr) (F : own_F Z h A)  : own_M l (⟨"com/example/locant/locant/AxisIsDisjointPinLaw", "pick", "(I)Lcom/example/locant/locant/Axis;"⟩ : MethodName) method_3_code 1 (.object "com/example/locant/locant/Axis") [] { frames := 0, cells := 0, slots := 0, locals := 0 } Z h #[(.int (3 : Int32))] (.ref (A 3)) := by
  refine own_met pn_1 (Ls := #[.val (.int (3 : Int32))]) (fun m => by first | (simp [entryFrame, mkF, argsToLocals, Value.category, maxLocals]; done) | rfl) ?_
  intro p e s m below meth c K
  exact sk_0 p l e _ s m _ below meth c Z a0 h hw _ _ (by decide) K (sk_1 p l e _ s m _ below meth c Z a0 h hw _ _ (by decide) K (sk_2 p l e _ s m _ below meth c Z a0 h hw _ _ (by decide) K (hi_3 p l e _ s m _ below meth c Z a0 h hw A F K)))
set_option maxRecDepth 65536 in
theorem pk_4 (l : Launch) (Z : State) (a0 : Array Value) (h : Heap) (hw : ∀ d ∈ tables_1, d.before a0 Z = true) (A : Nat → Addr) (F : own_F Z h A)  : own_M l (⟨"com/example/locant/locant/AxisIsDisjointPinLaw", "pick", "(I)Lcom/example/locant/locant/Axis;"⟩ : MethodName) method_3_code 1 (.object "com/example/locant/locant/Axis") [] { frames := 0, cells := 0, slots := 0, locals := 0 } Z h #[(.int (4 : Int32))] (.ref (A 4)) := by
  refine own_met pn_1 (Ls := #[.val (.int (4 : Int32))]) (fun m => by first | (simp [entryFrame, mkF, argsToLocals, Value.category, maxLocals]; done) | rfl) ?_
  intro p e s m below meth c K
  exact sk_0 p l e _ s m _ below meth c Z a0 h hw _ _ (by decide) K (sk_1 p l e _ s m _ below meth c Z a0 h hw _ _ (by decide) K (sk_2 p l e _ s m _ below meth c Z a0 h hw _ _ (by decide) K (sk_3 p l e _ s m _ below meth c Z a0 h hw _ _ (by decide) K (hi_4 p l e _ s m _ below meth c Z a0 h hw A F K))))
set_option maxRecDepth 65536 in
theorem pk_5 (l : Launch) (Z : State) (a0 : Array Value) (h : Heap) (hw : ∀ d ∈ tables_1, d.before a0 Z = true) (A : Nat → Addr) (F : own_F Z h A)  : own_M l (⟨"com/example/locant/locant/AxisIsDisjointPinLaw", "pick", "(I)Lcom/example/locant/locant/Axis;"⟩ : MethodName) method_3_code 1 (.object "com/example/locant/locant/Axis") [] { frames := 0, cells := 0, slots := 0, locals := 0 } Z h #[(.int (5 : Int32))] (.ref (A 5)) := by
  refine own_met pn_1 (Ls := #[.val (.int (5 : Int32))]) (fun m => by first | (simp [entryFrame, mkF, argsToLocals, Value.category, maxLocals]; done) | rfl) ?_
  intro p e s m below meth c K
  exact sk_0 p l e _ s m _ below meth c Z a0 h hw _ _ (by decide) K (sk_1 p l e _ s m _ below meth c Z a0 h hw _ _ (by decide) K (sk_2 p l e _ s m _ below meth c Z a0 h hw _ _ (by decide) K (sk_3 p l e _ s m _ below meth c Z a0 h hw _ _ (by decide) K (sk_4 p l e _ s m _ below meth c Z a0 h hw _ _ (by decide) K (hi_5 p l e _ s m _ below meth c Z a0 h hw A F K)))))
set_option maxRecDepth 65536 in
theorem pk_6 (l : Launch) (Z : State) (a0 : Array Value) (h : Heap) (hw : ∀ d ∈ tables_1, d.before a0 Z = true) (A : Nat → Addr) (F : own_F Z h A)  : own_M l (⟨"com/example/locant/locant/AxisIsDisjointPinLaw", "pick", "(I)Lcom/example/locant/locant/Axis;"⟩ : MethodName) method_3_code 1 (.object "com/example/locant/locant/Axis") [] { frames := 0, cells := 0, slots := 0, locals := 0 } Z h #[(.int (6 : Int32))] (.ref (A 6)) := by
  refine own_met pn_1 (Ls := #[.val (.int (6 : Int32))]) (fun m => by first | (simp [entryFrame, mkF, argsToLocals, Value.category, maxLocals]; done) | rfl) ?_
  intro p e s m below meth c K
  exact sk_0 p l e _ s m _ below meth c Z a0 h hw _ _ (by decide) K (sk_1 p l e _ s m _ below meth c Z a0 h hw _ _ (by decide) K (sk_2 p l e _ s m _ below meth c Z a0 h hw _ _ (by decide) K (sk_3 p l e _ s m _ below meth c Z a0 h hw _ _ (by decide) K (sk_4 p l e _ s m _ below meth c Z a0 h hw _ _ (by decide) K (sk_5 p l e _ s m _ below meth c Z a0 h hw _ _ (by decide) K (hi_6 p l e _ s m _ below meth c Z a0 h hw A F K))))))
set_option maxRecDepth 65536 in
theorem pk_7 (l : Launch) (Z : State) (a0 : Array Value) (h : Heap) (hw : ∀ d ∈ tables_1, d.before a0 Z = true) (A : Nat → Addr) (F : own_F Z h A)  : own_M l (⟨"com/example/locant/locant/AxisIsDisjointPinLaw", "pick", "(I)Lcom/example/locant/locant/Axis;"⟩ : MethodName) method_3_code 1 (.object "com/example/locant/locant/Axis") [] { frames := 0, cells := 0, slots := 0, locals := 0 } Z h #[(.int (7 : Int32))] (.ref (A 7)) := by
  refine own_met pn_1 (Ls := #[.val (.int (7 : Int32))]) (fun m => by first | (simp [entryFrame, mkF, argsToLocals, Value.category, maxLocals]; done) | rfl) ?_
  intro p e s m below meth c K
  exact sk_0 p l e _ s m _ below meth c Z a0 h hw _ _ (by decide) K (sk_1 p l e _ s m _ below meth c Z a0 h hw _ _ (by decide) K (sk_2 p l e _ s m _ below meth c Z a0 h hw _ _ (by decide) K (sk_3 p l e _ s m _ below meth c Z a0 h hw _ _ (by decide) K (sk_4 p l e _ s m _ below meth c Z a0 h hw _ _ (by decide) K (sk_5 p l e _ s m _ below meth c Z a0 h hw _ _ (by decide) K (sk_6 p l e _ s m _ below meth c Z a0 h hw _ _ (by decide) K (hi_7 p l e _ s m _ below meth c Z a0 h hw A F K)))))))
set_option maxRecDepth 65536 in
theorem pk_8 (l : Launch) (Z : State) (a0 : Array Value) (h : Heap) (hw : ∀ d ∈ tables_1, d.before a0 Z = true) (A : Nat → Addr) (F : own_F Z h A)  : own_M l (⟨"com/example/locant/locant/AxisIsDisjointPinLaw", "pick", "(I)Lcom/example/locant/locant/Axis;"⟩ : MethodName) method_3_code 1 (.object "com/example/locant/locant/Axis") [] { frames := 0, cells := 0, slots := 0, locals := 0 } Z h #[(.int (8 : Int32))] (.ref (A 8)) := by
  refine own_met pn_1 (Ls := #[.val (.int (8 : Int32))]) (fun m => by first | (simp [entryFrame, mkF, argsToLocals, Value.category, maxLocals]; done) | rfl) ?_
  intro p e s m below meth c K
  exact sk_0 p l e _ s m _ below meth c Z a0 h hw _ _ (by decide) K (sk_1 p l e _ s m _ below meth c Z a0 h hw _ _ (by decide) K (sk_2 p l e _ s m _ below meth c Z a0 h hw _ _ (by decide) K (sk_3 p l e _ s m _ below meth c Z a0 h hw _ _ (by decide) K (sk_4 p l e _ s m _ below meth c Z a0 h hw _ _ (by decide) K (sk_5 p l e _ s m _ below meth c Z a0 h hw _ _ (by decide) K (sk_6 p l e _ s m _ below meth c Z a0 h hw _ _ (by decide) K (sk_7 p l e _ s m _ below meth c Z a0 h hw _ _ (by decide) K (hi_8 p l e _ s m _ below meth c Z a0 h hw A F K))))))))
set_option maxRecDepth 65536 in
theorem pk_9 (l : Launch) (Z : State) (a0 : Array Value) (h : Heap) (hw : ∀ d ∈ tables_1, d.before a0 Z = true) (A : Nat → Addr) (F : own_F Z h A)  : own_M l (⟨"com/example/locant/locant/AxisIsDisjointPinLaw", "pick", "(I)Lcom/example/locant/locant/Axis;"⟩ : MethodName) method_3_code 1 (.object "com/example/locant/locant/Axis") [] { frames := 0, cells := 0, slots := 0, locals := 0 } Z h #[(.int (9 : Int32))] (.ref (A 9)) := by
  refine own_met pn_1 (Ls := #[.val (.int (9 : Int32))]) (fun m => by first | (simp [entryFrame, mkF, argsToLocals, Value.category, maxLocals]; done) | rfl) ?_
  intro p e s m below meth c K
  exact sk_0 p l e _ s m _ below meth c Z a0 h hw _ _ (by decide) K (sk_1 p l e _ s m _ below meth c Z a0 h hw _ _ (by decide) K (sk_2 p l e _ s m _ below meth c Z a0 h hw _ _ (by decide) K (sk_3 p l e _ s m _ below meth c Z a0 h hw _ _ (by decide) K (sk_4 p l e _ s m _ below meth c Z a0 h hw _ _ (by decide) K (sk_5 p l e _ s m _ below meth c Z a0 h hw _ _ (by decide) K (sk_6 p l e _ s m _ below meth c Z a0 h hw _ _ (by decide) K (sk_7 p l e _ s m _ below meth c Z a0 h hw _ _ (by decide) K (sk_8 p l e _ s m _ below meth c Z a0 h hw _ _ (by decide) K (hi_9 p l e _ s m _ below meth c Z a0 h hw A F K)))))))))
set_option maxRecDepth 65536 in
theorem pk_10 (l : Launch) (Z : State) (a0 : Array Value) (h : Heap) (hw : ∀ d ∈ tables_1, d.before a0 Z = true) (A : Nat → Addr) (F : own_F Z h A)  : own_M l (⟨"com/example/locant/locant/AxisIsDisjointPinLaw", "pick", "(I)Lcom/example/locant/locant/Axis;"⟩ : MethodName) method_3_code 1 (.object "com/example/locant/locant/Axis") [] { frames := 0, cells := 0, slots := 0, locals := 0 } Z h #[(.int (10 : Int32))] (.ref (A 10)) := by
  refine own_met pn_1 (Ls := #[.val (.int (10 : Int32))]) (fun m => by first | (simp [entryFrame, mkF, argsToLocals, Value.category, maxLocals]; done) | rfl) ?_
  intro p e s m below meth c K
  exact sk_0 p l e _ s m _ below meth c Z a0 h hw _ _ (by decide) K (sk_1 p l e _ s m _ below meth c Z a0 h hw _ _ (by decide) K (sk_2 p l e _ s m _ below meth c Z a0 h hw _ _ (by decide) K (sk_3 p l e _ s m _ below meth c Z a0 h hw _ _ (by decide) K (sk_4 p l e _ s m _ below meth c Z a0 h hw _ _ (by decide) K (sk_5 p l e _ s m _ below meth c Z a0 h hw _ _ (by decide) K (sk_6 p l e _ s m _ below meth c Z a0 h hw _ _ (by decide) K (sk_7 p l e _ s m _ below meth c Z a0 h hw _ _ (by decide) K (sk_8 p l e _ s m _ below meth c Z a0 h hw _ _ (by decide) K (sk_9 p l e _ s m _ below meth c Z a0 h hw _ _ (by decide) K (hi_10 p l e _ s m _ below meth c Z a0 h hw A F K))))))))))
set_option maxRecDepth 65536 in
theorem pk_11 (l : Launch) (Z : State) (a0 : Array Value) (h : Heap) (hw : ∀ d ∈ tables_1, d.before a0 Z = true) (A : Nat → Addr) (F : own_F Z h A)  : own_M l (⟨"com/example/locant/locant/AxisIsDisjointPinLaw", "pick", "(I)Lcom/example/locant/locant/Axis;"⟩ : MethodName) method_3_code 1 (.object "com/example/locant/locant/Axis") [] { frames := 0, cells := 0, slots := 0, locals := 0 } Z h #[(.int (11 : Int32))] (.ref (A 11)) := by
  refine own_met pn_1 (Ls := #[.val (.int (11 : Int32))]) (fun m => by first | (simp [entryFrame, mkF, argsToLocals, Value.category, maxLocals]; done) | rfl) ?_
  intro p e s m below meth c K
  exact sk_0 p l e _ s m _ below meth c Z a0 h hw _ _ (by decide) K (sk_1 p l e _ s m _ below meth c Z a0 h hw _ _ (by decide) K (sk_2 p l e _ s m _ below meth c Z a0 h hw _ _ (by decide) K (sk_3 p l e _ s m _ below meth c Z a0 h hw _ _ (by decide) K (sk_4 p l e _ s m _ below meth c Z a0 h hw _ _ (by decide) K (sk_5 p l e _ s m _ below meth c Z a0 h hw _ _ (by decide) K (sk_6 p l e _ s m _ below meth c Z a0 h hw _ _ (by decide) K (sk_7 p l e _ s m _ below meth c Z a0 h hw _ _ (by decide) K (sk_8 p l e _ s m _ below meth c Z a0 h hw _ _ (by decide) K (sk_9 p l e _ s m _ below meth c Z a0 h hw _ _ (by decide) K (sk_10 p l e _ s m _ below meth c Z a0 h hw _ _ (by decide) K (hi_11 p l e _ s m _ below meth c Z a0 h hw A F K)))))))))))
set_option maxRecDepth 65536 in
theorem pk_12 (l : Launch) (Z : State) (a0 : Array Value) (h : Heap) (hw : ∀ d ∈ tables_1, d.before a0 Z = true) (A : Nat → Addr) (F : own_F Z h A)  : own_M l (⟨"com/example/locant/locant/AxisIsDisjointPinLaw", "pick", "(I)Lcom/example/locant/locant/Axis;"⟩ : MethodName) method_3_code 1 (.object "com/example/locant/locant/Axis") [] { frames := 0, cells := 0, slots := 0, locals := 0 } Z h #[(.int (12 : Int32))] (.ref (A 12)) := by
  refine own_met pn_1 (Ls := #[.val (.int (12 : Int32))]) (fun m => by first | (simp [entryFrame, mkF, argsToLocals, Value.category, maxLocals]; done) | rfl) ?_
  intro p e s m below meth c K
  exact sk_0 p l e _ s m _ below meth c Z a0 h hw _ _ (by decide) K (sk_1 p l e _ s m _ below meth c Z a0 h hw _ _ (by decide) K (sk_2 p l e _ s m _ below meth c Z a0 h hw _ _ (by decide) K (sk_3 p l e _ s m _ below meth c Z a0 h hw _ _ (by decide) K (sk_4 p l e _ s m _ below meth c Z a0 h hw _ _ (by decide) K (sk_5 p l e _ s m _ below meth c Z a0 h hw _ _ (by decide) K (sk_6 p l e _ s m _ below meth c Z a0 h hw _ _ (by decide) K (sk_7 p l e _ s m _ below meth c Z a0 h hw _ _ (by decide) K (sk_8 p l e _ s m _ below meth c Z a0 h hw _ _ (by decide) K (sk_9 p l e _ s m _ below meth c Z a0 h hw _ _ (by decide) K (sk_10 p l e _ s m _ below meth c Z a0 h hw _ _ (by decide) K (sk_11 p l e _ s m _ below meth c Z a0 h hw _ _ (by decide) K (hi_12 p l e _ s m _ below meth c Z a0 h hw A F K))))))))))))
set_option maxRecDepth 65536 in
theorem pk_13 (l : Launch) (Z : State) (a0 : Array Value) (h : Heap) (hw : ∀ d ∈ tables_1, d.before a0 Z = true) (A : Nat → Addr) (F : own_F Z h A)  : own_M l (⟨"com/example/locant/locant/AxisIsDisjointPinLaw", "pick", "(I)Lcom/example/locant/locant/Axis;"⟩ : MethodName) method_3_code 1 (.object "com/example/locant/locant/Axis") [] { frames := 0, cells := 0, slots := 0, locals := 0 } Z h #[(.int (13 : Int32))] (.ref (A 13)) := by
  refine own_met pn_1 (Ls := #[.val (.int (13 : Int32))]) (fun m => by first | (simp [entryFrame, mkF, argsToLocals, Value.category, maxLocals]; done) | rfl) ?_
  intro p e s m below meth c K
  exact sk_0 p l e _ s m _ below meth c Z a0 h hw _ _ (by decide) K (sk_1 p l e _ s m _ below meth c Z a0 h hw _ _ (by decide) K (sk_2 p l e _ s m _ below meth c Z a0 h hw _ _ (by decide) K (sk_3 p l e _ s m _ below meth c Z a0 h hw _ _ (by decide) K (sk_4 p l e _ s m _ below meth c Z a0 h hw _ _ (by decide) K (sk_5 p l e _ s m _ below meth c Z a0 h hw _ _ (by decide) K (sk_6 p l e _ s m _ below meth c Z a0 h hw _ _ (by decide) K (sk_7 p l e _ s m _ below meth c Z a0 h hw _ _ (by decide) K (sk_8 p l e _ s m _ below meth c Z a0 h hw _ _ (by decide) K (sk_9 p l e _ s m _ below meth c Z a0 h hw _ _ (by decide) K (sk_10 p l e _ s m _ below meth c Z a0 h hw _ _ (by decide) K (sk_11 p l e _ s m _ below meth c Z a0 h hw _ _ (by decide) K (sk_12 p l e _ s m _ below meth c Z a0 h hw _ _ (by decide) K (hi_13 p l e _ s m _ below meth c Z a0 h hw A F K)))))))))))))
set_option maxRecDepth 65536 in
theorem pk_14 (l : Launch) (Z : State) (a0 : Array Value) (h : Heap) (hw : ∀ d ∈ tables_1, d.before a0 Z = true) (A : Nat → Addr) (F : own_F Z h A)  : own_M l (⟨"com/example/locant/locant/AxisIsDisjointPinLaw", "pick", "(I)Lcom/example/locant/locant/Axis;"⟩ : MethodName) method_3_code 1 (.object "com/example/locant/locant/Axis") [] { frames := 0, cells := 0, slots := 0, locals := 0 } Z h #[(.int (14 : Int32))] (.ref (A 14)) := by
  refine own_met pn_1 (Ls := #[.val (.int (14 : Int32))]) (fun m => by first | (simp [entryFrame, mkF, argsToLocals, Value.category, maxLocals]; done) | rfl) ?_
  intro p e s m below meth c K
  exact sk_0 p l e _ s m _ below meth c Z a0 h hw _ _ (by decide) K (sk_1 p l e _ s m _ below meth c Z a0 h hw _ _ (by decide) K (sk_2 p l e _ s m _ below meth c Z a0 h hw _ _ (by decide) K (sk_3 p l e _ s m _ below meth c Z a0 h hw _ _ (by decide) K (sk_4 p l e _ s m _ below meth c Z a0 h hw _ _ (by decide) K (sk_5 p l e _ s m _ below meth c Z a0 h hw _ _ (by decide) K (sk_6 p l e _ s m _ below meth c Z a0 h hw _ _ (by decide) K (sk_7 p l e _ s m _ below meth c Z a0 h hw _ _ (by decide) K (sk_8 p l e _ s m _ below meth c Z a0 h hw _ _ (by decide) K (sk_9 p l e _ s m _ below meth c Z a0 h hw _ _ (by decide) K (sk_10 p l e _ s m _ below meth c Z a0 h hw _ _ (by decide) K (sk_11 p l e _ s m _ below meth c Z a0 h hw _ _ (by decide) K (sk_12 p l e _ s m _ below meth c Z a0 h hw _ _ (by decide) K (sk_13 p l e _ s m _ below meth c Z a0 h hw _ _ (by decide) K (hi_14 p l e _ s m _ below meth c Z a0 h hw A F K))))))))))))))
set_option maxRecDepth 65536 in
theorem pk_15 (l : Launch) (Z : State) (a0 : Array Value) (h : Heap) (hw : ∀ d ∈ tables_1, d.before a0 Z = true) (A : Nat → Addr) (F : own_F Z h A)  : own_M l (⟨"com/example/locant/locant/AxisIsDisjointPinLaw", "pick", "(I)Lcom/example/locant/locant/Axis;"⟩ : MethodName) method_3_code 1 (.object "com/example/locant/locant/Axis") [] { frames := 0, cells := 0, slots := 0, locals := 0 } Z h #[(.int (15 : Int32))] (.ref (A 15)) := by
  refine own_met pn_1 (Ls := #[.val (.int (15 : Int32))]) (fun m => by first | (simp [entryFrame, mkF, argsToLocals, Value.category, maxLocals]; done) | rfl) ?_
  intro p e s m below meth c K
  exact sk_0 p l e _ s m _ below meth c Z a0 h hw _ _ (by decide) K (sk_1 p l e _ s m _ below meth c Z a0 h hw _ _ (by decide) K (sk_2 p l e _ s m _ below meth c Z a0 h hw _ _ (by decide) K (sk_3 p l e _ s m _ below meth c Z a0 h hw _ _ (by decide) K (sk_4 p l e _ s m _ below meth c Z a0 h hw _ _ (by decide) K (sk_5 p l e _ s m _ below meth c Z a0 h hw _ _ (by decide) K (sk_6 p l e _ s m _ below meth c Z a0 h hw _ _ (by decide) K (sk_7 p l e _ s m _ below meth c Z a0 h hw _ _ (by decide) K (sk_8 p l e _ s m _ below meth c Z a0 h hw _ _ (by decide) K (sk_9 p l e _ s m _ below meth c Z a0 h hw _ _ (by decide) K (sk_10 p l e _ s m _ below meth c Z a0 h hw _ _ (by decide) K (sk_11 p l e _ s m _ below meth c Z a0 h hw _ _ (by decide) K (sk_12 p l e _ s m _ below meth c Z a0 h hw _ _ (by decide) K (sk_13 p l e _ s m _ below meth c Z a0 h hw _ _ (by decide) K (sk_14 p l e _ s m _ below meth c Z a0 h hw _ _ (by decide) K (hi_15 p l e _ s m _ below meth c Z a0 h hw A F K)))))))))))))))
set_option maxRecDepth 65536 in
theorem pk_16 (l : Launch) (Z : State) (a0 : Array Value) (h : Heap) (hw : ∀ d ∈ tables_1, d.before a0 Z = true) (A : Nat → Addr) (F : own_F Z h A)  : own_M l (⟨"com/example/locant/locant/AxisIsDisjointPinLaw", "pick", "(I)Lcom/example/locant/locant/Axis;"⟩ : MethodName) method_3_code 1 (.object "com/example/locant/locant/Axis") [] { frames := 0, cells := 0, slots := 0, locals := 0 } Z h #[(.int (16 : Int32))] (.ref (A 16)) := by
  refine own_met pn_1 (Ls := #[.val (.int (16 : Int32))]) (fun m => by first | (simp [entryFrame, mkF, argsToLocals, Value.category, maxLocals]; done) | rfl) ?_
  intro p e s m below meth c K
  exact sk_0 p l e _ s m _ below meth c Z a0 h hw _ _ (by decide) K (sk_1 p l e _ s m _ below meth c Z a0 h hw _ _ (by decide) K (sk_2 p l e _ s m _ below meth c Z a0 h hw _ _ (by decide) K (sk_3 p l e _ s m _ below meth c Z a0 h hw _ _ (by decide) K (sk_4 p l e _ s m _ below meth c Z a0 h hw _ _ (by decide) K (sk_5 p l e _ s m _ below meth c Z a0 h hw _ _ (by decide) K (sk_6 p l e _ s m _ below meth c Z a0 h hw _ _ (by decide) K (sk_7 p l e _ s m _ below meth c Z a0 h hw _ _ (by decide) K (sk_8 p l e _ s m _ below meth c Z a0 h hw _ _ (by decide) K (sk_9 p l e _ s m _ below meth c Z a0 h hw _ _ (by decide) K (sk_10 p l e _ s m _ below meth c Z a0 h hw _ _ (by decide) K (sk_11 p l e _ s m _ below meth c Z a0 h hw _ _ (by decide) K (sk_12 p l e _ s m _ below meth c Z a0 h hw _ _ (by decide) K (sk_13 p l e _ s m _ below meth c Z a0 h hw _ _ (by decide) K (sk_14 p l e _ s m _ below meth c Z a0 h hw _ _ (by decide) K (sk_15 p l e _ s m _ below meth c Z a0 h hw _ _ (by decide) K (hi_16 p l e _ s m _ below meth c Z a0 h hw A F K))))))))))))))))
set_option maxRecDepth 65536 in
theorem djb_0 (p : Program) (l : Launch) (e : Env) (R : Room) (s : State) (m : MethodId) (args : Array Value) (below : List Frame) (meth : Method) (c : Code) (Z : State) (a0 : Array Value) (h : Heap) (hw : ∀ d ∈ tables_1, d.before a0 Z = true) (A : Nat → Addr) (F : own_F Z h A) (K : own_C p s m meth c Z prog_14_method_6_code "com/example/locant/locant/Axis" .boolean 1) :
    own_E p l e R s m args below meth c h 0 #[.val (.ref (A 0))] [] (.int 1) := by
  refine own_aloadN K (pc := 0) d2_0 rfl rfl ?_
  refine own_getS K (pc := 1) (hw _ (List.mem_of_getElem? (i := 13) rfl)) F.1.1 d2_1 ?_
  refine own_acmp K (pc := 4) (pc' := 28) (same := true) d2_4 (decide_eq_true rfl) (by decide) (by decide) ?_
  refine own_iconst K (pc := 28) d2_28 (x := (1 : Int32)) (by decide) ?_
  refine own_goto K (pc := 29) (pc' := 33) d2_29 (by decide) (by decide) ?_
  exact own_retZ K (pc := 33) d2_33 (by decide)
theorem dj_0 (l : Launch) (Z : State) (a0 : Array Value) (h : Heap) (hw : ∀ d ∈ tables_1, d.before a0 Z = true) (A : Nat → Addr) (F : own_F Z h A)  : own_M l (⟨"com/example/locant/locant/Axis", "isDisjoint", "()Z"⟩ : MethodName) prog_14_method_6_code 1 .boolean [] { frames := 0, cells := 0, slots := 0, locals := 0 } Z h #[(.ref (A 0))] (.int (1 : Int32)) := by
  refine own_met pn_2 (Ls := #[.val (.ref (A 0))]) (fun m => by first | (simp [entryFrame, mkF, argsToLocals, Value.category, maxLocals]; done) | rfl) ?_
  intro p e s m below meth c K
  exact djb_0 p l e _ s m _ below meth c Z a0 h hw A F K
set_option maxRecDepth 65536 in
theorem rvb_0 (p : Program) (l : Launch) (e : Env) (R : Room) (s : State) (m : MethodId) (args : Array Value) (below : List Frame) (meth : Method) (c : Code) (Z : State) (a0 : Array Value) (h : Heap) (hw : ∀ d ∈ tables_1, d.before a0 Z = true) (A : Nat → Addr) (F : own_F Z h A) (K : own_C p s m meth c Z prog_14_method_7_code "com/example/locant/locant/Axis" .boolean 1) :
    own_E p l e R s m args below meth c h 0 #[.val (.ref (A 0))] [] (.int 0) := by
  refine own_aloadN K (pc := 0) d3_0 rfl rfl ?_
  refine own_getF K (pc := 1) (hw _ (List.mem_of_getElem? (i := 19) rfl)) F.2.1.2.2.2.2.2.2.2.2.2.2.2.2.2.2.1 d3_1 ?_
  refine own_getS K (pc := 4) (hw _ (List.mem_of_getElem? (i := 23) rfl)) F.2.1.2.2.2.2.2.2.2.2.2.2.2.2.1 d3_4 ?_
  refine own_acmp K (pc := 7) (pc' := 14) (same := false) d3_7 (decide_eq_false (Fld.ne F.2.1.2.2.2.2.2.2.2.2.2.2.2.2.2.2.2.1 F.2.1.2.2.2.2.2.2.2.2.2.2.2.2.2.2.2.2.1 (by decide))) (by decide) (by decide) ?_
  refine own_iconst K (pc := 14) d3_14 (x := (0 : Int32)) (by decide) ?_
  exact own_retZ K (pc := 15) d3_15 (by decide)
theorem rv_0 (l : Launch) (Z : State) (a0 : Array Value) (h : Heap) (hw : ∀ d ∈ tables_1, d.before a0 Z = true) (A : Nat → Addr) (F : own_F Z h A)  : own_M l (⟨"com/example/locant/locant/Axis", "isReverse", "()Z"⟩ : MethodName) prog_14_method_7_code 1 .boolean [] { frames := 0, cells := 0, slots := 0, locals := 0 } Z h #[(.ref (A 0))] (.int (0 : Int32)) := by
  refine own_met pn_3 (Ls := #[.val (.ref (A 0))]) (fun m => by first | (simp [entryFrame, mkF, argsToLocals, Value.category, maxLocals]; done) | rfl) ?_
  intro p e s m below meth c K
  exact rvb_0 p l e _ s m _ below meth c Z a0 h hw A F K
set_option maxRecDepth 65536 in
theorem djb_1 (p : Program) (l : Launch) (e : Env) (R : Room) (s : State) (m : MethodId) (args : Array Value) (below : List Frame) (meth : Method) (c : Code) (Z : State) (a0 : Array Value) (h : Heap) (hw : ∀ d ∈ tables_1, d.before a0 Z = true) (A : Nat → Addr) (F : own_F Z h A) (K : own_C p s m meth c Z prog_14_method_6_code "com/example/locant/locant/Axis" .boolean 1) :
    own_E p l e R s m args below meth c h 0 #[.val (.ref (A 1))] [] (.int 0) := by
  refine own_aloadN K (pc := 0) d2_0 rfl rfl ?_
  refine own_getS K (pc := 1) (hw _ (List.mem_of_getElem? (i := 13) rfl)) F.1.1 d2_1 ?_
  refine own_acmp K (pc := 4) (pc' := 7) (same := false) d2_4 (decide_eq_false (ne_exa F.1.2.2.2.1 F.1.2.1 (by decide))) (by decide) (by decide) ?_
  refine own_aloadN K (pc := 7) d2_7 rfl rfl ?_
  refine own_getS K (pc := 8) (hw _ (List.mem_of_getElem? (i := 28) rfl)) F.1.2.2.2.2.1 d2_8 ?_
  refine own_acmp K (pc := 11) (pc' := 14) (same := false) d2_11 (decide_eq_false (ne_exa F.1.2.2.2.1 F.1.2.2.2.2.2.1 (by decide))) (by decide) (by decide) ?_
  refine own_aloadN K (pc := 14) d2_14 rfl rfl ?_
  refine own_getS K (pc := 15) (hw _ (List.mem_of_getElem? (i := 30) rfl)) F.1.2.2.2.2.2.2.1 d2_15 ?_
  refine own_acmp K (pc := 18) (pc' := 21) (same := false) d2_18 (decide_eq_false (ne_exa F.1.2.2.2.1 F.1.2.2.2.2.2.2.2.1 (by decide))) (by decide) (by decide) ?_
  refine own_aloadN K (pc := 21) d2_21 rfl rfl ?_
  refine own_getS K (pc := 22) (hw _ (List.mem_of_getElem? (i := 36) rfl)) F.1.2.2.2.2.2.2.2.2.1 d2_22 ?_
  refine own_acmp K (pc := 25) (pc' := 32) (same := false) d2_25 (decide_eq_false (ne_exa F.1.2.2.2.1 F.1.2.2.2.2.2.2.2.2.2.1 (by decide))) (by decide) (by decide) ?_
  refine own_iconst K (pc := 32) d2_32 (x := (0 : Int32)) (by decide) ?_
  exact own_retZ K (pc := 33) d2_33 (by decide)
theorem dj_1 (l : Launch) (Z : State) (a0 : Array Value) (h : Heap) (hw : ∀ d ∈ tables_1, d.before a0 Z = true) (A : Nat → Addr) (F : own_F Z h A)  : own_M l (⟨"com/example/locant/locant/Axis", "isDisjoint", "()Z"⟩ : MethodName) prog_14_method_6_code 1 .boolean [] { frames := 0, cells := 0, slots := 0, locals := 0 } Z h #[(.ref (A 1))] (.int (0 : Int32)) := by
  refine own_met pn_2 (Ls := #[.val (.ref (A 1))]) (fun m => by first | (simp [entryFrame, mkF, argsToLocals, Value.category, maxLocals]; done) | rfl) ?_
  intro p e s m below meth c K
  exact djb_1 p l e _ s m _ below meth c Z a0 h hw A F K
set_option maxRecDepth 65536 in
theorem djb_2 (p : Program) (l : Launch) (e : Env) (R : Room) (s : State) (m : MethodId) (args : Array Value) (below : List Frame) (meth : Method) (c : Code) (Z : State) (a0 : Array Value) (h : Heap) (hw : ∀ d ∈ tables_1, d.before a0 Z = true) (A : Nat → Addr) (F : own_F Z h A) (K : own_C p s m meth c Z prog_14_method_6_code "com/example/locant/locant/Axis" .boolean 1) :
    own_E p l e R s m args below meth c h 0 #[.val (.ref (A 2))] [] (.int 1) := by
  refine own_aloadN K (pc := 0) d2_0 rfl rfl ?_
  refine own_getS K (pc := 1) (hw _ (List.mem_of_getElem? (i := 13) rfl)) F.1.1 d2_1 ?_
  refine own_acmp K (pc := 4) (pc' := 7) (same := false) d2_4 (decide_eq_false (ne_exa F.1.2.2.2.2.2.1 F.1.2.1 (by decide))) (by decide) (by decide) ?_
  refine own_aloadN K (pc := 7) d2_7 rfl rfl ?_
  refine own_getS K (pc := 8) (hw _ (List.mem_of_getElem? (i := 28) rfl)) F.1.2.2.2.2.1 d2_8 ?_
  refine own_acmp K (pc := 11) (pc' := 28) (same := true) d2_11 (decide_eq_true rfl) (by decide) (by decide) ?_
  refine own_iconst K (pc := 28) d2_28 (x := (1 : Int32)) (by decide) ?_
  refine own_goto K (pc := 29) (pc' := 33) d2_29 (by decide) (by decide) ?_
  exact own_retZ K (pc := 33) d2_33 (by decide)
theorem dj_2 (l : Launch) (Z : State) (a0 : Array Value) (h : Heap) (hw : ∀ d ∈ tables_1, d.before a0 Z = true) (A : Nat → Addr) (F : own_F Z h A)  : own_M l (⟨"com/example/locant/locant/Axis", "isDisjoint", "()Z"⟩ : MethodName) prog_14_method_6_code 1 .boolean [] { frames := 0, cells := 0, slots := 0, locals := 0 } Z h #[(.ref (A 2))] (.int (1 : Int32)) := by
  refine own_met pn_2 (Ls := #[.val (.ref (A 2))]) (fun m => by first | (simp [entryFrame, mkF, argsToLocals, Value.category, maxLocals]; done) | rfl) ?_
  intro p e s m below meth c K
  exact djb_2 p l e _ s m _ below meth c Z a0 h hw A F K
set_option maxRecDepth 65536 in
theorem rvb_2 (p : Program) (l : Launch) (e : Env) (R : Room) (s : State) (m : MethodId) (args : Array Value) (below : List Frame) (meth : Method) (c : Code) (Z : State) (a0 : Array Value) (h : Heap) (hw : ∀ d ∈ tables_1, d.before a0 Z = true) (A : Nat → Addr) (F : own_F Z h A) (K : own_C p s m meth c Z prog_14_method_7_code "com/example/locant/locant/Axis" .boolean 1) :
    own_E p l e R s m args below meth c h 0 #[.val (.ref (A 2))] [] (.int 0) := by
  refine own_aloadN K (pc := 0) d3_0 rfl rfl ?_
  refine own_getF K (pc := 1) (hw _ (List.mem_of_getElem? (i := 19) rfl)) F.2.1.2.2.2.2.2.2.2.2.2.2.2.2.2.2.2.2.2.2.1 d3_1 ?_
  refine own_getS K (pc := 4) (hw _ (List.mem_of_getElem? (i := 23) rfl)) F.2.1.2.2.2.2.2.2.2.2.2.2.2.2.1 d3_4 ?_
  refine own_acmp K (pc := 7) (pc' := 14) (same := false) d3_7 (decide_eq_false (Fld.ne F.2.1.2.2.2.2.2.2.2.2.2.2.2.2.2.2.2.1 F.2.1.2.2.2.2.2.2.2.2.2.2.2.2.2.2.2.2.1 (by decide))) (by decide) (by decide) ?_
  refine own_iconst K (pc := 14) d3_14 (x := (0 : Int32)) (by decide) ?_
  exact own_retZ K (pc := 15) d3_15 (by decide)
theorem rv_2 (l : Launch) (Z : State) (a0 : Array Value) (h : Heap) (hw : ∀ d ∈ tables_1, d.before a0 Z = true) (A : Nat → Addr) (F : own_F Z h A)  : own_M l (⟨"com/example/locant/locant/Axis", "isReverse", "()Z"⟩ : MethodName) prog_14_method_7_code 1 .boolean [] { frames := 0, cells := 0, slots := 0, locals := 0 } Z h #[(.ref (A 2))] (.int (0 : Int32)) := by
  refine own_met pn_3 (Ls := #[.val (.ref (A 2))]) (fun m => by first | (simp [entryFrame, mkF, argsToLocals, Value.category, maxLocals]; done) | rfl) ?_
  intro p e s m below meth c K
  exact rvb_2 p l e _ s m _ below meth c Z a0 h hw A F K
set_option maxRecDepth 65536 in
theorem djb_3 (p : Program) (l : Launch) (e : Env) (R : Room) (s : State) (m : MethodId) (args : Array Value) (below : List Frame) (meth : Method) (c : Code) (Z : State) (a0 : Array Value) (h : Heap) (hw : ∀ d ∈ tables_1, d.before a0 Z = true) (A : Nat → Addr) (F : own_F Z h A) (K : own_C p s m meth c Z prog_14_method_6_code "com/example/locant/locant/Axis" .boolean 1) :
    own_E p l e R s m args below meth c h 0 #[.val (.ref (A 3))] [] (.int 1) := by
  refine own_aloadN K (pc := 0) d2_0 rfl rfl ?_
  refine own_getS K (pc := 1) (hw _ (List.mem_of_getElem? (i := 13) rfl)) F.1.1 d2_1 ?_
  refine own_acmp K (pc := 4) (pc' := 7) (same := false) d2_4 (decide_eq_false (ne_exa F.1.2.2.2.2.2.2.2.1 F.1.2.1 (by decide))) (by decide) (by decide) ?_
  refine own_aloadN K (pc := 7) d2_7 rfl rfl ?_
  refine own_getS K (pc := 8) (hw _ (List.mem_of_getElem? (i := 28) rfl)) F.1.2.2.2.2.1 d2_8 ?_
  refine own_acmp K (pc := 11) (pc' := 14) (same := false) d2_11 (decide_eq_false (ne_exa F.1.2.2.2.2.2.2.2.1 F.1.2.2.2.2.2.1 (by decide))) (by decide) (by decide) ?_
  refine own_aloadN K (pc := 14) d2_14 rfl rfl ?_
  refine own_getS K (pc := 15) (hw _ (List.mem_of_getElem? (i := 30) rfl)) F.1.2.2.2.2.2.2.1 d2_15 ?_
  refine own_acmp K (pc := 18) (pc' := 28) (same := true) d2_18 (decide_eq_true rfl) (by decide) (by decide) ?_
  refine own_iconst K (pc := 28) d2_28 (x := (1 : Int32)) (by decide) ?_
  refine own_goto K (pc := 29) (pc' := 33) d2_29 (by decide) (by decide) ?_
  exact own_retZ K (pc := 33) d2_33 (by decide)
theorem dj_3 (l : Launch) (Z : State) (a0 : Array Value) (h : Heap) (hw : ∀ d ∈ tables_1, d.before a0 Z = true) (A : Nat → Addr) (F : own_F Z h A)  : own_M l (⟨"com/example/locant/locant/Axis", "isDisjoint", "()Z"⟩ : MethodName) prog_14_method_6_code 1 .boolean [] { frames := 0, cells := 0, slots := 0, locals := 0 } Z h #[(.ref (A 3))] (.int (1 : Int32)) := by
  refine own_met pn_2 (Ls := #[.val (.ref (A 3))]) (fun m => by first | (simp [entryFrame, mkF, argsToLocals, Value.category, maxLocals]; done) | rfl) ?_
  intro p e s m below meth c K
  exact djb_3 p l e _ s m _ below meth c Z a0 h hw A F K
set_option maxRecDepth 65536 in
theorem rvb_3 (p : Program) (l : Launch) (e : Env) (R : Room) (s : State) (m : MethodId) (args : Array Value) (below : List Frame) (meth : Method) (c : Code) (Z : State) (a0 : Array Value) (h : Heap) (hw : ∀ d ∈ tables_1, d.before a0 Z = true) (A : Nat → Addr) (F : own_F Z h A) (K : own_C p s m meth c Z prog_14_method_7_code "com/example/locant/locant/Axis" .boolean 1) :
    own_E p l e R s m args below meth c h 0 #[.val (.ref (A 3))] [] (.int 0) := by
  refine own_aloadN K (pc := 0) d3_0 rfl rfl ?_
  refine own_getF K (pc := 1) (hw _ (List.mem_of_getElem? (i := 19) rfl)) F.2.1.2.2.2.2.2.2.2.2.2.2.2.2.2.2.2.2.2.1 d3_1 ?_
  refine own_getS K (pc := 4) (hw _ (List.mem_of_getElem? (i := 23) rfl)) F.2.1.2.2.2.2.2.2.2.2.2.2.2.2.1 d3_4 ?_
  refine own_acmp K (pc := 7) (pc' := 14) (same := false) d3_7 (decide_eq_false (Fld.ne F.2.1.2.2.2.2.2.2.2.2.2.2.2.2.2.2.2.1 F.2.1.2.2.2.2.2.2.2.2.2.2.2.2.2.2.2.2.1 (by decide))) (by decide) (by decide) ?_
  refine own_iconst K (pc := 14) d3_14 (x := (0 : Int32)) (by decide) ?_
  exact own_retZ K (pc := 15) d3_15 (by decide)
theorem rv_3 (l : Launch) (Z : State) (a0 : Array Value) (h : Heap) (hw : ∀ d ∈ tables_1, d.before a0 Z = true) (A : Nat → Addr) (F : own_F Z h A)  : own_M l (⟨"com/example/locant/locant/Axis", "isReverse", "()Z"⟩ : MethodName) prog_14_method_7_code 1 .boolean [] { frames := 0, cells := 0, slots := 0, locals := 0 } Z h #[(.ref (A 3))] (.int (0 : Int32)) := by
  refine own_met pn_3 (Ls := #[.val (.ref (A 3))]) (fun m => by first | (simp [entryFrame, mkF, argsToLocals, Value.category, maxLocals]; done) | rfl) ?_
  intro p e s m below meth c K
  exact rvb_3 p l e _ s m _ below meth c Z a0 h hw A F K
set_option maxRecDepth 65536 in
theorem djb_4 (p : Program) (l : Launch) (e : Env) (R : Room) (s : State) (m : MethodId) (args : Array Value) (below : List Frame) (meth : Method) (c : Code) (Z : State) (a0 : Array Value) (h : Heap) (hw : ∀ d ∈ tables_1, d.before a0 Z = true) (A : Nat → Addr) (F : own_F Z h A) (K : own_C p s m meth c Z prog_14_method_6_code "com/example/locant/locant/Axis" .boolean 1) :
    own_E p l e R s m args below meth c h 0 #[.val (.ref (A 4))] [] (.int 1) := by
  refine own_aloadN K (pc := 0) d2_0 rfl rfl ?_
  refine own_getS K (pc := 1) (hw _ (List.mem_of_getElem? (i := 13) rfl)) F.1.1 d2_1 ?_
  refine own_acmp K (pc := 4) (pc' := 7) (same := false) d2_4 (decide_eq_false (ne_exa F.1.2.2.2.2.2.2.2.2.2.1 F.1.2.1 (by decide))) (by decide) (by decide) ?_
  refine own_aloadN K (pc := 7) d2_7 rfl rfl ?_
  refine own_getS K (pc := 8) (hw _ (List.mem_of_getElem? (i := 28) rfl)) F.1.2.2.2.2.1 d2_8 ?_
  refine own_acmp K (pc := 11) (pc' := 14) (same := false) d2_11 (decide_eq_false (ne_exa F.1.2.2.2.2.2.2.2.2.2.1 F.1.2.2.2.2.2.1 (by decide))) (by decide) (by decide) ?_
  refine own_aloadN K (pc := 14) d2_14 rfl rfl ?_
  refine own_getS K (pc := 15) (hw _ (List.mem_of_getElem? (i := 30) rfl)) F.1.2.2.2.2.2.2.1 d2_15 ?_
  refine own_acmp K (pc := 18) (pc' := 21) (same := false) d2_18 (decide_eq_false (ne_exa F.1.2.2.2.2.2.2.2.2.2.1 F.1.2.2.2.2.2.2.2.1 (by decide))) (by decide) (by decide) ?_
  refine own_aloadN K (pc := 21) d2_21 rfl rfl ?_
  refine own_getS K (pc := 22) (hw _ (List.mem_of_getElem? (i := 36) rfl)) F.1.2.2.2.2.2.2.2.2.1 d2_22 ?_
  refine own_acmp K (pc := 25) (pc' := 28) (same := true) d2_25 (decide_eq_true rfl) (by decide) (by decide) ?_
  refine own_iconst K (pc := 28) d2_28 (x := (1 : Int32)) (by decide) ?_
  refine own_goto K (pc := 29) (pc' := 33) d2_29 (by decide) (by decide) ?_
  exact own_retZ K (pc := 33) d2_33 (by decide)
theorem dj_4 (l : Launch) (Z : State) (a0 : Array Value) (h : Heap) (hw : ∀ d ∈ tables_1, d.before a0 Z = true) (A : Nat → Addr) (F : own_F Z h A)  : own_M l (⟨"com/example/locant/locant/Axis", "isDisjoint", "()Z"⟩ : MethodName) prog_14_method_6_code 1 .boolean [] { frames := 0, cells := 0, slots := 0, locals := 0 } Z h #[(.ref (A 4))] (.int (1 : Int32)) := by
  refine own_met pn_2 (Ls := #[.val (.ref (A 4))]) (fun m => by first | (simp [entryFrame, mkF, argsToLocals, Value.category, maxLocals]; done) | rfl) ?_
  intro p e s m below meth c K
  exact djb_4 p l e _ s m _ below meth c Z a0 h hw A F K
set_option maxRecDepth 65536 in
theorem rvb_4 (p : Program) (l : Launch) (e : Env) (R : Room) (s : State) (m : MethodId) (args : Array Value) (below : List Frame) (meth : Method) (c : Code) (Z : State) (a0 : Array Value) (h : Heap) (hw : ∀ d ∈ tables_1, d.before a0 Z = true) (A : Nat → Addr) (F : own_F Z h A) (K : own_C p s m meth c Z prog_14_method_7_code "com/example/locant/locant/Axis" .boolean 1) :
    own_E p l e R s m args below meth c h 0 #[.val (.ref (A 4))] [] (.int 0) := by
  refine own_aloadN K (pc := 0) d3_0 rfl rfl ?_
  refine own_getF K (pc := 1) (hw _ (List.mem_of_getElem? (i := 19) rfl)) F.2.1.2.2.2.2.2.2.2.2.2.2.2.2.2.2.2.2.2.2.2.1 d3_1 ?_
  refine own_getS K (pc := 4) (hw _ (List.mem_of_getElem? (i := 23) rfl)) F.2.1.2.2.2.2.2.2.2.2.2.2.2.2.1 d3_4 ?_
  refine own_acmp K (pc := 7) (pc' := 14) (same := false) d3_7 (decide_eq_false (Fld.ne F.2.1.2.2.2.2.2.2.2.2.2.2.2.2.2.2.2.1 F.2.1.2.2.2.2.2.2.2.2.2.2.2.2.2.2.2.2.1 (by decide))) (by decide) (by decide) ?_
  refine own_iconst K (pc := 14) d3_14 (x := (0 : Int32)) (by decide) ?_
  exact own_retZ K (pc := 15) d3_15 (by decide)
theorem rv_4 (l : Launch) (Z : State) (a0 : Array Value) (h : Heap) (hw : ∀ d ∈ tables_1, d.before a0 Z = true) (A : Nat → Addr) (F : own_F Z h A)  : own_M l (⟨"com/example/locant/locant/Axis", "isReverse", "()Z"⟩ : MethodName) prog_14_method_7_code 1 .boolean [] { frames := 0, cells := 0, slots := 0, locals := 0 } Z h #[(.ref (A 4))] (.int (0 : Int32)) := by
  refine own_met pn_3 (Ls := #[.val (.ref (A 4))]) (fun m => by first | (simp [entryFrame, mkF, argsToLocals, Value.category, maxLocals]; done) | rfl) ?_
  intro p e s m below meth c K
  exact rvb_4 p l e _ s m _ below meth c Z a0 h hw A F K
set_option maxRecDepth 65536 in
theorem djb_5 (p : Program) (l : Launch) (e : Env) (R : Room) (s : State) (m : MethodId) (args : Array Value) (below : List Frame) (meth : Method) (c : Code) (Z : State) (a0 : Array Value) (h : Heap) (hw : ∀ d ∈ tables_1, d.before a0 Z = true) (A : Nat → Addr) (F : own_F Z h A) (K : own_C p s m meth c Z prog_14_method_6_code "com/example/locant/locant/Axis" .boolean 1) :
    own_E p l e R s m args below meth c h 0 #[.val (.ref (A 5))] [] (.int 0) := by
  refine own_aloadN K (pc := 0) d2_0 rfl rfl ?_
  refine own_getS K (pc := 1) (hw _ (List.mem_of_getElem? (i := 13) rfl)) F.1.1 d2_1 ?_
  refine own_acmp K (pc := 4) (pc' := 7) (same := false) d2_4 (decide_eq_false (ne_exa F.1.2.2.2.2.2.2.2.2.2.2.2.1 F.1.2.1 (by decide))) (by decide) (by decide) ?_
  refine own_aloadN K (pc := 7) d2_7 rfl rfl ?_
  refine own_getS K (pc := 8) (hw _ (List.mem_of_getElem? (i := 28) rfl)) F.1.2.2.2.2.1 d2_8 ?_
  refine own_acmp K (pc := 11) (pc' := 14) (same := false) d2_11 (decide_eq_false (ne_exa F.1.2.2.2.2.2.2.2.2.2.2.2.1 F.1.2.2.2.2.2.1 (by decide))) (by decide) (by decide) ?_
  refine own_aloadN K (pc := 14) d2_14 rfl rfl ?_
  refine own_getS K (pc := 15) (hw _ (List.mem_of_getElem? (i := 30) rfl)) F.1.2.2.2.2.2.2.1 d2_15 ?_
  refine own_acmp K (pc := 18) (pc' := 21) (same := false) d2_18 (decide_eq_false (ne_exa F.1.2.2.2.2.2.2.2.2.2.2.2.1 F.1.2.2.2.2.2.2.2.1 (by decide))) (by decide) (by decide) ?_
  refine own_aloadN K (pc := 21) d2_21 rfl rfl ?_
  refine own_getS K (pc := 22) (hw _ (List.mem_of_getElem? (i := 36) rfl)) F.1.2.2.2.2.2.2.2.2.1 d2_22 ?_
  refine own_acmp K (pc := 25) (pc' := 32) (same := false) d2_25 (decide_eq_false (ne_exa F.1.2.2.2.2.2.2.2.2.2.2.2.1 F.1.2.2.2.2.2.2.2.2.2.1 (by decide))) (by decide) (by decide) ?_
  refine own_iconst K (pc := 32) d2_32 (x := (0 : Int32)) (by decide) ?_
  exact own_retZ K (pc := 33) d2_33 (by decide)
theorem dj_5 (l : Launch) (Z : State) (a0 : Array Value) (h : Heap) (hw : ∀ d ∈ tables_1, d.before a0 Z = true) (A : Nat → Addr) (F : own_F Z h A)  : own_M l (⟨"com/example/locant/locant/Axis", "isDisjoint", "()Z"⟩ : MethodName) prog_14_method_6_code 1 .boolean [] { frames := 0, cells := 0, slots := 0, locals := 0 } Z h #[(.ref (A 5))] (.int (0 : Int32)) := by
  refine own_met pn_2 (Ls := #[.val (.ref (A 5))]) (fun m => by first | (simp [entryFrame, mkF, argsToLocals, Value.category, maxLocals]; done) | rfl) ?_
  intro p e s m below meth c K
  exact djb_5 p l e _ s m _ below meth c Z a0 h hw A F K
set_option maxRecDepth 65536 in
theorem djb_6 (p : Program) (l : Launch) (e : Env) (R : Room) (s : State) (m : MethodId) (args : Array Value) (below : List Frame) (meth : Method) (c : Code) (Z : State) (a0 : Array Value) (h : Heap) (hw : ∀ d ∈ tables_1, d.before a0 Z = true) (A : Nat → Addr) (F : own_F Z h A) (K : own_C p s m meth c Z prog_14_method_6_code "com/example/locant/locant/Axis" .boolean 1) :
    own_E p l e R s m args below meth c h 0 #[.val (.ref (A 6))] [] (.int 0) := by
  refine own_aloadN K (pc := 0) d2_0 rfl rfl ?_
  refine own_getS K (pc := 1) (hw _ (List.mem_of_getElem? (i := 13) rfl)) F.1.1 d2_1 ?_
  refine own_acmp K (pc := 4) (pc' := 7) (same := false) d2_4 (decide_eq_false (ne_exa F.1.2.2.2.2.2.2.2.2.2.2.2.2.2.1 F.1.2.1 (by decide))) (by decide) (by decide) ?_
  refine own_aloadN K (pc := 7) d2_7 rfl rfl ?_
  refine own_getS K (pc := 8) (hw _ (List.mem_of_getElem? (i := 28) rfl)) F.1.2.2.2.2.1 d2_8 ?_
  refine own_acmp K (pc := 11) (pc' := 14) (same := false) d2_11 (decide_eq_false (ne_exa F.1.2.2.2.2.2.2.2.2.2.2.2.2.2.1 F.1.2.2.2.2.2.1 (by decide))) (by decide) (by decide) ?_
  refine own_aloadN K (pc := 14) d2_14 rfl rfl ?_
  refine own_getS K (pc := 15) (hw _ (List.mem_of_getElem? (i := 30) rfl)) F.1.2.2.2.2.2.2.1 d2_15 ?_
  refine own_acmp K (pc := 18) (pc' := 21) (same := false) d2_18 (decide_eq_false (ne_exa F.1.2.2.2.2.2.2.2.2.2.2.2.2.2.1 F.1.2.2.2.2.2.2.2.1 (by decide))) (by decide) (by decide) ?_
  refine own_aloadN K (pc := 21) d2_21 rfl rfl ?_
  refine own_getS K (pc := 22) (hw _ (List.mem_of_getElem? (i := 36) rfl)) F.1.2.2.2.2.2.2.2.2.1 d2_22 ?_
  refine own_acmp K (pc := 25) (pc' := 32) (same := false) d2_25 (decide_eq_false (ne_exa F.1.2.2.2.2.2.2.2.2.2.2.2.2.2.1 F.1.2.2.2.2.2.2.2.2.2.1 (by decide))) (by decide) (by decide) ?_
  refine own_iconst K (pc := 32) d2_32 (x := (0 : Int32)) (by decide) ?_
  exact own_retZ K (pc := 33) d2_33 (by decide)
theorem dj_6 (l : Launch) (Z : State) (a0 : Array Value) (h : Heap) (hw : ∀ d ∈ tables_1, d.before a0 Z = true) (A : Nat → Addr) (F : own_F Z h A)  : own_M l (⟨"com/example/locant/locant/Axis", "isDisjoint", "()Z"⟩ : MethodName) prog_14_method_6_code 1 .boolean [] { frames := 0, cells := 0, slots := 0, locals := 0 } Z h #[(.ref (A 6))] (.int (0 : Int32)) := by
  refine own_met pn_2 (Ls := #[.val (.ref (A 6))]) (fun m => by first | (simp [entryFrame, mkF, argsToLocals, Value.category, maxLocals]; done) | rfl) ?_
  intro p e s m below meth c K
  exact djb_6 p l e _ s m _ below meth c Z a0 h hw A F K
set_option maxRecDepth 65536 in
theorem djb_7 (p : Program) (l : Launch) (e : Env) (R : Room) (s : State) (m : MethodId) (args : Array Value) (below : List Frame) (meth : Method) (c : Code) (Z : State) (a0 : Array Value) (h : Heap) (hw : ∀ d ∈ tables_1, d.before a0 Z = true) (A : Nat → Addr) (F : own_F Z h A) (K : own_C p s m meth c Z prog_14_method_6_code "com/example/locant/locant/Axis" .boolean 1) :
    own_E p l e R s m args below meth c h 0 #[.val (.ref (A 7))] [] (.int 0) := by
  refine own_aloadN K (pc := 0) d2_0 rfl rfl ?_
  refine own_getS K (pc := 1) (hw _ (List.mem_of_getElem? (i := 13) rfl)) F.1.1 d2_1 ?_
  refine own_acmp K (pc := 4) (pc' := 7) (same := false) d2_4 (decide_eq_false (ne_exa F.1.2.2.2.2.2.2.2.2.2.2.2.2.2.2.2.1 F.1.2.1 (by decide))) (by decide) (by decide) ?_
  refine own_aloadN K (pc := 7) d2_7 rfl rfl ?_
  refine own_getS K (pc := 8) (hw _ (List.mem_of_getElem? (i := 28) rfl)) F.1.2.2.2.2.1 d2_8 ?_
  refine own_acmp K (pc := 11) (pc' := 14) (same := false) d2_11 (decide_eq_false (ne_exa F.1.2.2.2.2.2.2.2.2.2.2.2.2.2.2.2.1 F.1.2.2.2.2.2.1 (by decide))) (by decide) (by decide) ?_
  refine own_aloadN K (pc := 14) d2_14 rfl rfl ?_
  refine own_getS K (pc := 15) (hw _ (List.mem_of_getElem? (i := 30) rfl)) F.1.2.2.2.2.2.2.1 d2_15 ?_
  refine own_acmp K (pc := 18) (pc' := 21) (same := false) d2_18 (decide_eq_false (ne_exa F.1.2.2.2.2.2.2.2.2.2.2.2.2.2.2.2.1 F.1.2.2.2.2.2.2.2.1 (by decide))) (by decide) (by decide) ?_
  refine own_aloadN K (pc := 21) d2_21 rfl rfl ?_
  refine own_getS K (pc := 22) (hw _ (List.mem_of_getElem? (i := 36) rfl)) F.1.2.2.2.2.2.2.2.2.1 d2_22 ?_
  refine own_acmp K (pc := 25) (pc' := 32) (same := false) d2_25 (decide_eq_false (ne_exa F.1.2.2.2.2.2.2.2.2.2.2.2.2.2.2.2.1 F.1.2.2.2.2.2.2.2.2.2.1 (by decide))) (by decide) (by decide) ?_
  refine own_iconst K (pc := 32) d2_32 (x := (0 : Int32)) (by decide) ?_
  exact own_retZ K (pc := 33) d2_33 (by decide)
theorem dj_7 (l : Launch) (Z : State) (a0 : Array Value) (h : Heap) (hw : ∀ d ∈ tables_1, d.before a0 Z = true) (A : Nat → Addr) (F : own_F Z h A)  : own_M l (⟨"com/example/locant/locant/Axis", "isDisjoint", "()Z"⟩ : MethodName) prog_14_method_6_code 1 .boolean [] { frames := 0, cells := 0, slots := 0, locals := 0 } Z h #[(.ref (A 7))] (.int (0 : Int32)) := by
  refine own_met pn_2 (Ls := #[.val (.ref (A 7))]) (fun m => by first | (simp [entryFrame, mkF, argsToLocals, Value.category, maxLocals]; done) | rfl) ?_
  intro p e s m below meth c K
  exact djb_7 p l e _ s m _ below meth c Z a0 h hw A F K
set_option maxRecDepth 65536 in
theorem djb_8 (p : Program) (l : Launch) (e : Env) (R : Room) (s : State) (m : MethodId) (args : Array Value) (below : List Frame) (meth : Method) (c : Code) (Z : State) (a0 : Array Value) (h : Heap) (hw : ∀ d ∈ tables_1, d.before a0 Z = true) (A : Nat → Addr) (F : own_F Z h A) (K : own_C p s m meth c Z prog_14_method_6_code "com/example/locant/locant/Axis" .boolean 1) :
    own_E p l e R s m args below meth c h 0 #[.val (.ref (A 8))] [] (.int 0) := by
  refine own_aloadN K (pc := 0) d2_0 rfl rfl ?_
  refine own_getS K (pc := 1) (hw _ (List.mem_of_getElem? (i := 13) rfl)) F.1.1 d2_1 ?_
  refine own_acmp K (pc := 4) (pc' := 7) (same := false) d2_4 (decide_eq_false (ne_exa F.1.2.2.2.2.2.2.2.2.2.2.2.2.2.2.2.2.2.1 F.1.2.1 (by decide))) (by decide) (by decide) ?_
  refine own_aloadN K (pc := 7) d2_7 rfl rfl ?_
  refine own_getS K (pc := 8) (hw _ (List.mem_of_getElem? (i := 28) rfl)) F.1.2.2.2.2.1 d2_8 ?_
  refine own_acmp K (pc := 11) (pc' := 14) (same := false) d2_11 (decide_eq_false (ne_exa F.1.2.2.2.2.2.2.2.2.2.2.2.2.2.2.2.2.2.1 F.1.2.2.2.2.2.1 (by decide))) (by decide) (by decide) ?_
  refine own_aloadN K (pc := 14) d2_14 rfl rfl ?_
  refine own_getS K (pc := 15) (hw _ (List.mem_of_getElem? (i := 30) rfl)) F.1.2.2.2.2.2.2.1 d2_15 ?_
  refine own_acmp K (pc := 18) (pc' := 21) (same := false) d2_18 (decide_eq_false (ne_exa F.1.2.2.2.2.2.2.2.2.2.2.2.2.2.2.2.2.2.1 F.1.2.2.2.2.2.2.2.1 (by decide))) (by decide) (by decide) ?_
  refine own_aloadN K (pc := 21) d2_21 rfl rfl ?_
  refine own_getS K (pc := 22) (hw _ (List.mem_of_getElem? (i := 36) rfl)) F.1.2.2.2.2.2.2.2.2.1 d2_22 ?_
  refine own_acmp K (pc := 25) (pc' := 32) (same := false) d2_25 (decide_eq_false (ne_exa F.1.2.2.2.2.2.2.2.2.2.2.2.2.2.2.2.2.2.1 F.1.2.2.2.2.2.2.2.2.2.1 (by decide))) (by decide) (by decide) ?_
  refine own_iconst K (pc := 32) d2_32 (x := (0 : Int32)) (by decide) ?_
  exact own_retZ K (pc := 33) d2_33 (by decide)
theorem dj_8 (l : Launch) (Z : State) (a0 : Array Value) (h : Heap) (hw : ∀ d ∈ tables_1, d.before a0 Z = true) (A : Nat → Addr) (F : own_F Z h A)  : own_M l (⟨"com/example/locant/locant/Axis", "isDisjoint", "()Z"⟩ : MethodName) prog_14_method_6_code 1 .boolean [] { frames := 0, cells := 0, slots := 0, locals := 0 } Z h #[(.ref (A 8))] (.int (0 : Int32)) := by
  refine own_met pn_2 (Ls := #[.val (.ref (A 8))]) (fun m => by first | (simp [entryFrame, mkF, argsToLocals, Value.category, maxLocals]; done) | rfl) ?_
  intro p e s m below meth c K
  exact djb_8 p l e _ s m _ below meth c Z a0 h hw A F K
set_option maxRecDepth 65536 in
theorem djb_9 (p : Program) (l : Launch) (e : Env) (R : Room) (s : State) (m : MethodId) (args : Array Value) (below : List Frame) (meth : Method) (c : Code) (Z : State) (a0 : Array Value) (h : Heap) (hw : ∀ d ∈ tables_1, d.before a0 Z = true) (A : Nat → Addr) (F : own_F Z h A) (K : own_C p s m meth c Z prog_14_method_6_code "com/example/locant/locant/Axis" .boolean 1) :
    own_E p l e R s m args below meth c h 0 #[.val (.ref (A 9))] [] (.int 0) := by
  refine own_aloadN K (pc := 0) d2_0 rfl rfl ?_
  refine own_getS K (pc := 1) (hw _ (List.mem_of_getElem? (i := 13) rfl)) F.1.1 d2_1 ?_
  refine own_acmp K (pc := 4) (pc' := 7) (same := false) d2_4 (decide_eq_false (ne_exa F.1.2.2.2.2.2.2.2.2.2.2.2.2.2.2.2.2.2.2.2.1 F.1.2.1 (by decide))) (by decide) (by decide) ?_
  refine own_aloadN K (pc := 7) d2_7 rfl rfl ?_
  refine own_getS K (pc := 8) (hw _ (List.mem_of_getElem? (i := 28) rfl)) F.1.2.2.2.2.1 d2_8 ?_
  refine own_acmp K (pc := 11) (pc' := 14) (same := false) d2_11 (decide_eq_false (ne_exa F.1.2.2.2.2.2.2.2.2.2.2.2.2.2.2.2.2.2.2.2.1 F.1.2.2.2.2.2.1 (by decide))) (by decide) (by decide) ?_
  refine own_aloadN K (pc := 14) d2_14 rfl rfl ?_
  refine own_getS K (pc := 15) (hw _ (List.mem_of_getElem? (i := 30) rfl)) F.1.2.2.2.2.2.2.1 d2_15 ?_
  refine own_acmp K (pc := 18) (pc' := 21) (same := false) d2_18 (decide_eq_false (ne_exa F.1.2.2.2.2.2.2.2.2.2.2.2.2.2.2.2.2.2.2.2.1 F.1.2.2.2.2.2.2.2.1 (by decide))) (by decide) (by decide) ?_
  refine own_aloadN K (pc := 21) d2_21 rfl rfl ?_
  refine own_getS K (pc := 22) (hw _ (List.mem_of_getElem? (i := 36) rfl)) F.1.2.2.2.2.2.2.2.2.1 d2_22 ?_
  refine own_acmp K (pc := 25) (pc' := 32) (same := false) d2_25 (decide_eq_false (ne_exa F.1.2.2.2.2.2.2.2.2.2.2.2.2.2.2.2.2.2.2.2.1 F.1.2.2.2.2.2.2.2.2.2.1 (by decide))) (by decide) (by decide) ?_
  refine own_iconst K (pc := 32) d2_32 (x := (0 : Int32)) (by decide) ?_
  exact own_retZ K (pc := 33) d2_33 (by decide)
theorem dj_9 (l : Launch) (Z : State) (a0 : Array Value) (h : Heap) (hw : ∀ d ∈ tables_1, d.before a0 Z = true) (A : Nat → Addr) (F : own_F Z h A)  : own_M l (⟨"com/example/locant/locant/Axis", "isDisjoint", "()Z"⟩ : MethodName) prog_14_method_6_code 1 .boolean [] { frames := 0, cells := 0, slots := 0, locals := 0 } Z h #[(.ref (A 9))] (.int (0 : Int32)) := by
  refine own_met pn_2 (Ls := #[.val (.ref (A 9))]) (fun m => by first | (simp [entryFrame, mkF, argsToLocals, Value.category, maxLocals]; done) | rfl) ?_
  intro p e s m below meth c K
  exact djb_9 p l e _ s m _ below meth c Z a0 h hw A F K
set_option maxRecDepth 65536 in
theorem djb_10 (p : Program) (l : Launch) (e : Env) (R : Room) (s : State) (m : MethodId) (args : Array Value) (below : List Frame) (meth : Method) (c : Code) (Z : State) (a0 : Array Value) (h : Heap) (hw : ∀ d ∈ tables_1, d.before a0 Z = true) (A : Nat → Addr) (F : own_F Z h A) (K : own_C p s m meth c Z prog_14_method_6_code "com/example/locant/locant/Axis" .boolean 1) :
    own_E p l e R s m args below meth c h 0 #[.val (.ref (A 10))] [] (.int 0) := by
  refine own_aloadN K (pc := 0) d2_0 rfl rfl ?_
  refine own_getS K (pc := 1) (hw _ (List.mem_of_getElem? (i := 13) rfl)) F.1.1 d2_1 ?_
  refine own_acmp K (pc := 4) (pc' := 7) (same := false) d2_4 (decide_eq_false (ne_exa F.1.2.2.2.2.2.2.2.2.2.2.2.2.2.2.2.2.2.2.2.2.2.1 F.1.2.1 (by decide))) (by decide) (by decide) ?_
  refine own_aloadN K (pc := 7) d2_7 rfl rfl ?_
  refine own_getS K (pc := 8) (hw _ (List.mem_of_getElem? (i := 28) rfl)) F.1.2.2.2.2.1 d2_8 ?_
  refine own_acmp K (pc := 11) (pc' := 14) (same := false) d2_11 (decide_eq_false (ne_exa F.1.2.2.2.2.2.2.2.2.2.2.2.2.2.2.2.2.2.2.2.2.2.1 F.1.2.2.2.2.2.1 (by decide))) (by decide) (by decide) ?_
  refine own_aloadN K (pc := 14) d2_14 rfl rfl ?_
  refine own_getS K (pc := 15) (hw _ (List.mem_of_getElem? (i := 30) rfl)) F.1.2.2.2.2.2.2.1 d2_15 ?_
  refine own_acmp K (pc := 18) (pc' := 21) (same := false) d2_18 (decide_eq_false (ne_exa F.1.2.2.2.2.2.2.2.2.2.2.2.2.2.2.2.2.2.2.2.2.2.1 F.1.2.2.2.2.2.2.2.1 (by decide))) (by decide) (by decide) ?_
  refine own_aloadN K (pc := 21) d2_21 rfl rfl ?_
  refine own_getS K (pc := 22) (hw _ (List.mem_of_getElem? (i := 36) rfl)) F.1.2.2.2.2.2.2.2.2.1 d2_22 ?_
  refine own_acmp K (pc := 25) (pc' := 32) (same := false) d2_25 (decide_eq_false (ne_exa F.1.2.2.2.2.2.2.2.2.2.2.2.2.2.2.2.2.2.2.2.2.2.1 F.1.2.2.2.2.2.2.2.2.2.1 (by decide))) (by decide) (by decide) ?_
  refine own_iconst K (pc := 32) d2_32 (x := (0 : Int32)) (by decide) ?_
  exact own_retZ K (pc := 33) d2_33 (by decide)
theorem dj_10 (l : Launch) (Z : State) (a0 : Array Value) (h : Heap) (hw : ∀ d ∈ tables_1, d.before a0 Z = true) (A : Nat → Addr) (F : own_F Z h A)  : own_M l (⟨"com/example/locant/locant/Axis", "isDisjoint", "()Z"⟩ : MethodName) prog_14_method_6_code 1 .boolean [] { frames := 0, cells := 0, slots := 0, locals := 0 } Z h #[(.ref (A 10))] (.int (0 : Int32)) := by
  refine own_met pn_2 (Ls := #[.val (.ref (A 10))]) (fun m => by first | (simp [entryFrame, mkF, argsToLocals, Value.category, maxLocals]; done) | rfl) ?_
  intro p e s m below meth c K
  exact djb_10 p l e _ s m _ below meth c Z a0 h hw A F K
set_option maxRecDepth 65536 in
theorem djb_11 (p : Program) (l : Launch) (e : Env) (R : Room) (s : State) (m : MethodId) (args : Array Value) (below : List Frame) (meth : Method) (c : Code) (Z : State) (a0 : Array Value) (h : Heap) (hw : ∀ d ∈ tables_1, d.before a0 Z = true) (A : Nat → Addr) (F : own_F Z h A) (K : own_C p s m meth c Z prog_14_method_6_code "com/example/locant/locant/Axis" .boolean 1) :
    own_E p l e R s m args below meth c h 0 #[.val (.ref (A 11))] [] (.int 0) := by
  refine own_aloadN K (pc := 0) d2_0 rfl rfl ?_
  refine own_getS K (pc := 1) (hw _ (List.mem_of_getElem? (i := 13) rfl)) F.1.1 d2_1 ?_
  refine own_acmp K (pc := 4) (pc' := 7) (same := false) d2_4 (decide_eq_false (ne_exa F.1.2.2.2.2.2.2.2.2.2.2.2.2.2.2.2.2.2.2.2.2.2.2.2 F.1.2.1 (by decide))) (by decide) (by decide) ?_
  refine own_aloadN K (pc := 7) d2_7 rfl rfl ?_
  refine own_getS K (pc := 8) (hw _ (List.mem_of_getElem? (i := 28) rfl)) F.1.2.2.2.2.1 d2_8 ?_
  refine own_acmp K (pc := 11) (pc' := 14) (same := false) d2_11 (decide_eq_false (ne_exa F.1.2.2.2.2.2.2.2.2.2.2.2.2.2.2.2.2.2.2.2.2.2.2.2 F.1.2.2.2.2.2.1 (by decide))) (by decide) (by decide) ?_
  refine own_aloadN K (pc := 14) d2_14 rfl rfl ?_
  refine own_getS K (pc := 15) (hw _ (List.mem_of_getElem? (i := 30) rfl)) F.1.2.2.2.2.2.2.1 d2_15 ?_
  refine own_acmp K (pc := 18) (pc' := 21) (same := false) d2_18 (decide_eq_false (ne_exa F.1.2.2.2.2.2.2.2.2.2.2.2.2.2.2.2.2.2.2.2.2.2.2.2 F.1.2.2.2.2.2.2.2.1 (by decide))) (by decide) (by decide) ?_
  refine own_aloadN K (pc := 21) d2_21 rfl rfl ?_
  refine own_getS K (pc := 22) (hw _ (List.mem_of_getElem? (i := 36) rfl)) F.1.2.2.2.2.2.2.2.2.1 d2_22 ?_
  refine own_acmp K (pc := 25) (pc' := 32) (same := false) d2_25 (decide_eq_false (ne_exa F.1.2.2.2.2.2.2.2.2.2.2.2.2.2.2.2.2.2.2.2.2.2.2.2 F.1.2.2.2.2.2.2.2.2.2.1 (by decide))) (by decide) (by decide) ?_
  refine own_iconst K (pc := 32) d2_32 (x := (0 : Int32)) (by decide) ?_
  exact own_retZ K (pc := 33) d2_33 (by decide)
theorem dj_11 (l : Launch) (Z : State) (a0 : Array Value) (h : Heap) (hw : ∀ d ∈ tables_1, d.before a0 Z = true) (A : Nat → Addr) (F : own_F Z h A)  : own_M l (⟨"com/example/locant/locant/Axis", "isDisjoint", "()Z"⟩ : MethodName) prog_14_method_6_code 1 .boolean [] { frames := 0, cells := 0, slots := 0, locals := 0 } Z h #[(.ref (A 11))] (.int (0 : Int32)) := by
  refine own_met pn_2 (Ls := #[.val (.ref (A 11))]) (fun m => by first | (simp [entryFrame, mkF, argsToLocals, Value.category, maxLocals]; done) | rfl) ?_
  intro p e s m below meth c K
  exact djb_11 p l e _ s m _ below meth c Z a0 h hw A F K
set_option maxRecDepth 65536 in
theorem djb_12 (p : Program) (l : Launch) (e : Env) (R : Room) (s : State) (m : MethodId) (args : Array Value) (below : List Frame) (meth : Method) (c : Code) (Z : State) (a0 : Array Value) (h : Heap) (hw : ∀ d ∈ tables_1, d.before a0 Z = true) (A : Nat → Addr) (F : own_F Z h A) (K : own_C p s m meth c Z prog_14_method_6_code "com/example/locant/locant/Axis" .boolean 1) :
    own_E p l e R s m args below meth c h 0 #[.val (.ref (A 12))] [] (.int 0) := by
  refine own_aloadN K (pc := 0) d2_0 rfl rfl ?_
  refine own_getS K (pc := 1) (hw _ (List.mem_of_getElem? (i := 13) rfl)) F.1.1 d2_1 ?_
  refine own_acmp K (pc := 4) (pc' := 7) (same := false) d2_4 (decide_eq_false (ne_exa F.2.1.2.1 F.1.2.1 (by decide))) (by decide) (by decide) ?_
  refine own_aloadN K (pc := 7) d2_7 rfl rfl ?_
  refine own_getS K (pc := 8) (hw _ (List.mem_of_getElem? (i := 28) rfl)) F.1.2.2.2.2.1 d2_8 ?_
  refine own_acmp K (pc := 11) (pc' := 14) (same := false) d2_11 (decide_eq_false (ne_exa F.2.1.2.1 F.1.2.2.2.2.2.1 (by decide))) (by decide) (by decide) ?_
  refine own_aloadN K (pc := 14) d2_14 rfl rfl ?_
  refine own_getS K (pc := 15) (hw _ (List.mem_of_getElem? (i := 30) rfl)) F.1.2.2.2.2.2.2.1 d2_15 ?_
  refine own_acmp K (pc := 18) (pc' := 21) (same := false) d2_18 (decide_eq_false (ne_exa F.2.1.2.1 F.1.2.2.2.2.2.2.2.1 (by decide))) (by decide) (by decide) ?_
  refine own_aloadN K (pc := 21) d2_21 rfl rfl ?_
  refine own_getS K (pc := 22) (hw _ (List.mem_of_getElem? (i := 36) rfl)) F.1.2.2.2.2.2.2.2.2.1 d2_22 ?_
  refine own_acmp K (pc := 25) (pc' := 32) (same := false) d2_25 (decide_eq_false (ne_exa F.2.1.2.1 F.1.2.2.2.2.2.2.2.2.2.1 (by decide))) (by decide) (by decide) ?_
  refine own_iconst K (pc := 32) d2_32 (x := (0 : Int32)) (by decide) ?_
  exact own_retZ K (pc := 33) d2_33 (by decide)
theorem dj_12 (l : Launch) (Z : State) (a0 : Array Value) (h : Heap) (hw : ∀ d ∈ tables_1, d.before a0 Z = true) (A : Nat → Addr) (F : own_F Z h A)  : own_M l (⟨"com/example/locant/locant/Axis", "isDisjoint", "()Z"⟩ : MethodName) prog_14_method_6_code 1 .boolean [] { frames := 0, cells := 0, slots := 0, locals := 0 } Z h #[(.ref (A 12))] (.int (0 : Int32)) := by
  refine own_met pn_2 (Ls := #[.val (.ref (A 12))]) (fun m => by first | (simp [entryFrame, mkF, argsToLocals, Value.category, maxLocals]; done) | rfl) ?_
  intro p e s m below meth c K
  exact djb_12 p l e _ s m _ below meth c Z a0 h hw A F K
set_option maxRecDepth 65536 in
theorem djb_13 (p : Program) (l : Launch) (e : Env) (R : Room) (s : State) (m : MethodId) (args : Array Value) (below : List Frame) (meth : Method) (c : Code) (Z : State) (a0 : Array Value) (h : Heap) (hw : ∀ d ∈ tables_1, d.before a0 Z = true) (A : Nat → Addr) (F : own_F Z h A) (K : own_C p s m meth c Z prog_14_method_6_code "com/example/locant/locant/Axis" .boolean 1) :
    own_E p l e R s m args below meth c h 0 #[.val (.ref (A 13))] [] (.int 0) := by
  refine own_aloadN K (pc := 0) d2_0 rfl rfl ?_
  refine own_getS K (pc := 1) (hw _ (List.mem_of_getElem? (i := 13) rfl)) F.1.1 d2_1 ?_
  refine own_acmp K (pc := 4) (pc' := 7) (same := false) d2_4 (decide_eq_false (ne_exa F.2.1.2.2.2.1 F.1.2.1 (by decide))) (by decide) (by decide) ?_
  refine own_aloadN K (pc := 7) d2_7 rfl rfl ?_
  refine own_getS K (pc := 8) (hw _ (List.mem_of_getElem? (i := 28) rfl)) F.1.2.2.2.2.1 d2_8 ?_
  refine own_acmp K (pc := 11) (pc' := 14) (same := false) d2_11 (decide_eq_false (ne_exa F.2.1.2.2.2.1 F.1.2.2.2.2.2.1 (by decide))) (by decide) (by decide) ?_
  refine own_aloadN K (pc := 14) d2_14 rfl rfl ?_
  refine own_getS K (pc := 15) (hw _ (List.mem_of_getElem? (i := 30) rfl)) F.1.2.2.2.2.2.2.1 d2_15 ?_
  refine own_acmp K (pc := 18) (pc' := 21) (same := false) d2_18 (decide_eq_false (ne_exa F.2.1.2.2.2.1 F.1.2.2.2.2.2.2.2.1 (by decide))) (by decide) (by decide) ?_
  refine own_aloadN K (pc := 21) d2_21 rfl rfl ?_
  refine own_getS K (pc := 22) (hw _ (List.mem_of_getElem? (i := 36) rfl)) F.1.2.2.2.2.2.2.2.2.1 d2_22 ?_
  refine own_acmp K (pc := 25) (pc' := 32) (same := false) d2_25 (decide_eq_false (ne_exa F.2.1.2.2.2.1 F.1.2.2.2.2.2.2.2.2.2.1 (by decide))) (by decide) (by decide) ?_
  refine own_iconst K (pc := 32) d2_32 (x := (0 : Int32)) (by decide) ?_
  exact own_retZ K (pc := 33) d2_33 (by decide)
theorem dj_13 (l : Launch) (Z : State) (a0 : Array Value) (h : Heap) (hw : ∀ d ∈ tables_1, d.before a0 Z = true) (A : Nat → Addr) (F : own_F Z h A)  : own_M l (⟨"com/example/locant/locant/Axis", "isDisjoint", "()Z"⟩ : MethodName) prog_14_method_6_code 1 .boolean [] { frames := 0, cells := 0, slots := 0, locals := 0 } Z h #[(.ref (A 13))] (.int (0 : Int32)) := by
  refine own_met pn_2 (Ls := #[.val (.ref (A 13))]) (fun m => by first | (simp [entryFrame, mkF, argsToLocals, Value.category, maxLocals]; done) | rfl) ?_
  intro p e s m below meth c K
  exact djb_13 p l e _ s m _ below meth c Z a0 h hw A F K
set_option maxRecDepth 65536 in
theorem djb_14 (p : Program) (l : Launch) (e : Env) (R : Room) (s : State) (m : MethodId) (args : Array Value) (below : List Frame) (meth : Method) (c : Code) (Z : State) (a0 : Array Value) (h : Heap) (hw : ∀ d ∈ tables_1, d.before a0 Z = true) (A : Nat → Addr) (F : own_F Z h A) (K : own_C p s m meth c Z prog_14_method_6_code "com/example/locant/locant/Axis" .boolean 1) :
    own_E p l e R s m args below meth c h 0 #[.val (.ref (A 14))] [] (.int 0) := by
  refine own_aloadN K (pc := 0) d2_0 rfl rfl ?_
  refine own_getS K (pc := 1) (hw _ (List.mem_of_getElem? (i := 13) rfl)) F.1.1 d2_1 ?_
  refine own_acmp K (pc := 4) (pc' := 7) (same := false) d2_4 (decide_eq_false (ne_exa F.2.1.2.2.2.2.2.1 F.1.2.1 (by decide))) (by decide) (by decide) ?_
  refine own_aloadN K (pc := 7) d2_7 rfl rfl ?_
  refine own_getS K (pc := 8) (hw _ (List.mem_of_getElem? (i := 28) rfl)) F.1.2.2.2.2.1 d2_8 ?_
  refine own_acmp K (pc := 11) (pc' := 14) (same := false) d2_11 (decide_eq_false (ne_exa F.2.1.2.2.2.2.2.1 F.1.2.2.2.2.2.1 (by decide))) (by decide) (by decide) ?_
  refine own_aloadN K (pc := 14) d2_14 rfl rfl ?_
  refine own_getS K (pc := 15) (hw _ (List.mem_of_getElem? (i := 30) rfl)) F.1.2.2.2.2.2.2.1 d2_15 ?_
  refine own_acmp K (pc := 18) (pc' := 21) (same := false) d2_18 (decide_eq_false (ne_exa F.2.1.2.2.2.2.2.1 F.1.2.2.2.2.2.2.2.1 (by decide))) (by decide) (by decide) ?_
  refine own_aloadN K (pc := 21) d2_21 rfl rfl ?_
  refine own_getS K (pc := 22) (hw _ (List.mem_of_getElem? (i := 36) rfl)) F.1.2.2.2.2.2.2.2.2.1 d2_22 ?_
  refine own_acmp K (pc := 25) (pc' := 32) (same := false) d2_25 (decide_eq_false (ne_exa F.2.1.2.2.2.2.2.1 F.1.2.2.2.2.2.2.2.2.2.1 (by decide))) (by decide) (by decide) ?_
  refine own_iconst K (pc := 32) d2_32 (x := (0 : Int32)) (by decide) ?_
  exact own_retZ K (pc := 33) d2_33 (by decide)
theorem dj_14 (l : Launch) (Z : State) (a0 : Array Value) (h : Heap) (hw : ∀ d ∈ tables_1, d.before a0 Z = true) (A : Nat → Addr) (F : own_F Z h A)  : own_M l (⟨"com/example/locant/locant/Axis", "isDisjoint", "()Z"⟩ : MethodName) prog_14_method_6_code 1 .boolean [] { frames := 0, cells := 0, slots := 0, locals := 0 } Z h #[(.ref (A 14))] (.int (0 : Int32)) := by
  refine own_met pn_2 (Ls := #[.val (.ref (A 14))]) (fun m => by first | (simp [entryFrame, mkF, argsToLocals, Value.category, maxLocals]; done) | rfl) ?_
  intro p e s m below meth c K
  exact djb_14 p l e _ s m _ below meth c Z a0 h hw A F K
set_option maxRecDepth 65536 in
theorem djb_15 (p : Program) (l : Launch) (e : Env) (R : Room) (s : State) (m : MethodId) (args : Array Value) (below : List Frame) (meth : Method) (c : Code) (Z : State) (a0 : Array Value) (h : Heap) (hw : ∀ d ∈ tables_1, d.before a0 Z = true) (A : Nat → Addr) (F : own_F Z h A) (K : own_C p s m meth c Z prog_14_method_6_code "com/example/locant/locant/Axis" .boolean 1) :
    own_E p l e R s m args below meth c h 0 #[.val (.ref (A 15))] [] (.int 0) := by
  refine own_aloadN K (pc := 0) d2_0 rfl rfl ?_
  refine own_getS K (pc := 1) (hw _ (List.mem_of_getElem? (i := 13) rfl)) F.1.1 d2_1 ?_
  refine own_acmp K (pc := 4) (pc' := 7) (same := false) d2_4 (decide_eq_false (ne_exa F.2.1.2.2.2.2.2.2.2.1 F.1.2.1 (by decide))) (by decide) (by decide) ?_
  refine own_aloadN K (pc := 7) d2_7 rfl rfl ?_
  refine own_getS K (pc := 8) (hw _ (List.mem_of_getElem? (i := 28) rfl)) F.1.2.2.2.2.1 d2_8 ?_
  refine own_acmp K (pc := 11) (pc' := 14) (same := false) d2_11 (decide_eq_false (ne_exa F.2.1.2.2.2.2.2.2.2.1 F.1.2.2.2.2.2.1 (by decide))) (by decide) (by decide) ?_
  refine own_aloadN K (pc := 14) d2_14 rfl rfl ?_
  refine own_getS K (pc := 15) (hw _ (List.mem_of_getElem? (i := 30) rfl)) F.1.2.2.2.2.2.2.1 d2_15 ?_
  refine own_acmp K (pc := 18) (pc' := 21) (same := false) d2_18 (decide_eq_false (ne_exa F.2.1.2.2.2.2.2.2.2.1 F.1.2.2.2.2.2.2.2.1 (by decide))) (by decide) (by decide) ?_
  refine own_aloadN K (pc := 21) d2_21 rfl rfl ?_
  refine own_getS K (pc := 22) (hw _ (List.mem_of_getElem? (i := 36) rfl)) F.1.2.2.2.2.2.2.2.2.1 d2_22 ?_
  refine own_acmp K (pc := 25) (pc' := 32) (same := false) d2_25 (decide_eq_false (ne_exa F.2.1.2.2.2.2.2.2.2.1 F.1.2.2.2.2.2.2.2.2.2.1 (by decide))) (by decide) (by decide) ?_
  refine own_iconst K (pc := 32) d2_32 (x := (0 : Int32)) (by decide) ?_
  exact own_retZ K (pc := 33) d2_33 (by decide)
theorem dj_15 (l : Launch) (Z : State) (a0 : Array Value) (h : Heap) (hw : ∀ d ∈ tables_1, d.before a0 Z = true) (A : Nat → Addr) (F : own_F Z h A)  : own_M l (⟨"com/example/locant/locant/Axis", "isDisjoint", "()Z"⟩ : MethodName) prog_14_method_6_code 1 .boolean [] { frames := 0, cells := 0, slots := 0, locals := 0 } Z h #[(.ref (A 15))] (.int (0 : Int32)) := by
  refine own_met pn_2 (Ls := #[.val (.ref (A 15))]) (fun m => by first | (simp [entryFrame, mkF, argsToLocals, Value.category, maxLocals]; done) | rfl) ?_
  intro p e s m below meth c K
  exact djb_15 p l e _ s m _ below meth c Z a0 h hw A F K
set_option maxRecDepth 65536 in
theorem djb_16 (p : Program) (l : Launch) (e : Env) (R : Room) (s : State) (m : MethodId) (args : Array Value) (below : List Frame) (meth : Method) (c : Code) (Z : State) (a0 : Array Value) (h : Heap) (hw : ∀ d ∈ tables_1, d.before a0 Z = true) (A : Nat → Addr) (F : own_F Z h A) (K : own_C p s m meth c Z prog_14_method_6_code "com/example/locant/locant/Axis" .boolean 1) :
    own_E p l e R s m args below meth c h 0 #[.val (.ref (A 16))] [] (.int 0) := by
  refine own_aloadN K (pc := 0) d2_0 rfl rfl ?_
  refine own_getS K (pc := 1) (hw _ (List.mem_of_getElem? (i := 13) rfl)) F.1.1 d2_1 ?_
  refine own_acmp K (pc := 4) (pc' := 7) (same := false) d2_4 (decide_eq_false (ne_exa F.2.1.2.2.2.2.2.2.2.2.2.1 F.1.2.1 (by decide))) (by decide) (by decide) ?_
  refine own_aloadN K (pc := 7) d2_7 rfl rfl ?_
  refine own_getS K (pc := 8) (hw _ (List.mem_of_getElem? (i := 28) rfl)) F.1.2.2.2.2.1 d2_8 ?_
  refine own_acmp K (pc := 11) (pc' := 14) (same := false) d2_11 (decide_eq_false (ne_exa F.2.1.2.2.2.2.2.2.2.2.2.1 F.1.2.2.2.2.2.1 (by decide))) (by decide) (by decide) ?_
  refine own_aloadN K (pc := 14) d2_14 rfl rfl ?_
  refine own_getS K (pc := 15) (hw _ (List.mem_of_getElem? (i := 30) rfl)) F.1.2.2.2.2.2.2.1 d2_15 ?_
  refine own_acmp K (pc := 18) (pc' := 21) (same := false) d2_18 (decide_eq_false (ne_exa F.2.1.2.2.2.2.2.2.2.2.2.1 F.1.2.2.2.2.2.2.2.1 (by decide))) (by decide) (by decide) ?_
  refine own_aloadN K (pc := 21) d2_21 rfl rfl ?_
  refine own_getS K (pc := 22) (hw _ (List.mem_of_getElem? (i := 36) rfl)) F.1.2.2.2.2.2.2.2.2.1 d2_22 ?_
  refine own_acmp K (pc := 25) (pc' := 32) (same := false) d2_25 (decide_eq_false (ne_exa F.2.1.2.2.2.2.2.2.2.2.2.1 F.1.2.2.2.2.2.2.2.2.2.1 (by decide))) (by decide) (by decide) ?_
  refine own_iconst K (pc := 32) d2_32 (x := (0 : Int32)) (by decide) ?_
  exact own_retZ K (pc := 33) d2_33 (by decide)
theorem dj_16 (l : Launch) (Z : State) (a0 : Array Value) (h : Heap) (hw : ∀ d ∈ tables_1, d.before a0 Z = true) (A : Nat → Addr) (F : own_F Z h A)  : own_M l (⟨"com/example/locant/locant/Axis", "isDisjoint", "()Z"⟩ : MethodName) prog_14_method_6_code 1 .boolean [] { frames := 0, cells := 0, slots := 0, locals := 0 } Z h #[(.ref (A 16))] (.int (0 : Int32)) := by
  refine own_met pn_2 (Ls := #[.val (.ref (A 16))]) (fun m => by first | (simp [entryFrame, mkF, argsToLocals, Value.category, maxLocals]; done) | rfl) ?_
  intro p e s m below meth c K
  exact djb_16 p l e _ s m _ below meth c Z a0 h hw A F K
set_option maxRecDepth 65536 in
theorem lt_0 (p : Program) (l : Launch) (e : Env) (s : State) (m : MethodId) (args : Array Value) (below : List Frame) (meth : Method) (c : Code) (Z : State) (a0 : Array Value) (h : Heap) (hw : ∀ d ∈ tables_1, d.before a0 Z = true) (k : Int32) (A : Nat → Addr) (F : own_F Z h A) (K : own_C p s m meth c Z code "com/example/locant/locant/AxisIsDisjointPinLaw" .boolean 5) :
    own_E p l e room_1 s m args below meth c h 8 #[.val (.int k), .val (.int (0 : Int32)), .unset, .unset, .unset] [] (.int 1) := by
  refine own_iloadN K (pc := 8) at_8 rfl ?_
  refine own_callS K (pc := 9) (W := 0) (rest := []) (argsL := [(.int (0 : Int32))]) (u := (.ref (A 0))) (pk_0 l Z a0 h hw A F) (hw _ (List.mem_of_getElem? (i := 1) rfl)) (hw _ (List.mem_of_getElem? (i := 2) rfl)) (hw _ (List.mem_of_getElem? (i := 3) rfl)) (hw _ (List.mem_of_getElem? (i := 4) rfl)) (by decide) at_9 pd_1 rfl rfl rfl (Nat.le_of_eq rfl) (by decide) (by decide) ?_
  refine own_astoreN K (pc := 12) (Ls' := #[.val (.int k), .val (.int (0 : Int32)), .val (.ref (A 0)), .unset, .unset]) at_12 rfl rfl ?_
  refine own_iloadN K (pc := 13) at_13 rfl ?_
  refine own_ifY K (pc := 14) (pc' := 32) at_14 (by decide) (by decide) (by decide) ?_
  refine own_iconst K (pc := 32) at_32 (x := (1 : Int32)) (by decide) ?_
  refine own_goto K (pc := 33) (pc' := 37) at_33 (by decide) (by decide) ?_
  refine own_istoreN K (pc := 37) (Ls' := #[.val (.int k), .val (.int (0 : Int32)), .val (.ref (A 0)), .val (.int (1 : Int32)), .unset]) at_37 rfl ?_
  refine own_aloadN K (pc := 38) at_38 rfl rfl ?_
  refine own_callV K (pc := 39) (W := 0) (rest := []) (argsL := []) (u := (.int (1 : Int32))) (dj_0 l Z a0 h hw A F) F.1.2.1 (hw _ (List.mem_of_getElem? (i := 8) rfl)) (hw _ (List.mem_of_getElem? (i := 9) rfl)) (hw _ (List.mem_of_getElem? (i := 11) rfl)) (hw _ (List.mem_of_getElem? (i := 10) rfl)) (hw _ (List.mem_of_getElem? (i := 12) rfl)) (hw _ (List.mem_of_getElem? (i := 6) rfl)) (by decide) at_39 pd_2 rfl rfl rfl (Nat.le_of_eq rfl) (by decide) (by decide) ?_
  refine own_istore K (pc := 42) (Ls' := #[.val (.int k), .val (.int (0 : Int32)), .val (.ref (A 0)), .val (.int (1 : Int32)), .val (.int (1 : Int32))]) at_42 rfl ?_
  refine own_iload K (pc := 44) at_44 rfl ?_
  refine own_iloadN K (pc := 46) at_46 rfl ?_
  refine own_icmpY K (pc := 47) (pc' := 52) at_47 (by decide) (by decide) (by decide) ?_
  refine own_iload K (pc := 52) at_52 rfl ?_
  refine own_ifN K (pc := 54) at_54 (by decide) ?_
  refine own_aloadN K (pc := 57) at_57 rfl rfl ?_
  refine own_callV K (pc := 58) (W := 0) (rest := []) (argsL := []) (u := (.int (0 : Int32))) (rv_0 l Z a0 h hw A F) F.1.2.1 (hw _ (List.mem_of_getElem? (i := 14) rfl)) (hw _ (List.mem_of_getElem? (i := 15) rfl)) (hw _ (List.mem_of_getElem? (i := 17) rfl)) (hw _ (List.mem_of_getElem? (i := 16) rfl)) (hw _ (List.mem_of_getElem? (i := 18) rfl)) (hw _ (List.mem_of_getElem? (i := 6) rfl)) (by decide) at_58 pd_3 rfl rfl rfl (Nat.le_of_eq rfl) (by decide) (by decide) ?_
  refine own_ifN K (pc := 61) at_61 (by decide) ?_
  refine own_iconst K (pc := 64) at_64 (x := (1 : Int32)) (by decide) ?_
  refine own_goto K (pc := 65) (pc' := 69) at_65 (by decide) (by decide) ?_
  exact own_retZ K (pc := 69) at_69 (by decide)
set_option maxRecDepth 65536 in
theorem lt_1 (p : Program) (l : Launch) (e : Env) (s : State) (m : MethodId) (args : Array Value) (below : List Frame) (meth : Method) (c : Code) (Z : State) (a0 : Array Value) (h : Heap) (hw : ∀ d ∈ tables_1, d.before a0 Z = true) (k : Int32) (A : Nat → Addr) (F : own_F Z h A) (K : own_C p s m meth c Z code "com/example/locant/locant/AxisIsDisjointPinLaw" .boolean 5) :
    own_E p l e room_1 s m args below meth c h 8 #[.val (.int k), .val (.int (1 : Int32)), .unset, .unset, .unset] [] (.int 1) := by
  refine own_iloadN K (pc := 8) at_8 rfl ?_
  refine own_callS K (pc := 9) (W := 0) (rest := []) (argsL := [(.int (1 : Int32))]) (u := (.ref (A 1))) (pk_1 l Z a0 h hw A F) (hw _ (List.mem_of_getElem? (i := 1) rfl)) (hw _ (List.mem_of_getElem? (i := 2) rfl)) (hw _ (List.mem_of_getElem? (i := 3) rfl)) (hw _ (List.mem_of_getElem? (i := 4) rfl)) (by decide) at_9 pd_1 rfl rfl rfl (Nat.le_of_eq rfl) (by decide) (by decide) ?_
  refine own_astoreN K (pc := 12) (Ls' := #[.val (.int k), .val (.int (1 : Int32)), .val (.ref (A 1)), .unset, .unset]) at_12 rfl rfl ?_
  refine own_iloadN K (pc := 13) at_13 rfl ?_
  refine own_ifN K (pc := 14) at_14 (by decide) ?_
  refine own_iloadN K (pc := 17) at_17 rfl ?_
  refine own_iconst K (pc := 18) at_18 (x := (2 : Int32)) (by decide) ?_
  refine own_icmpN K (pc := 19) at_19 (by decide) ?_
  refine own_iloadN K (pc := 22) at_22 rfl ?_
  refine own_iconst K (pc := 23) at_23 (x := (3 : Int32)) (by decide) ?_
  refine own_icmpN K (pc := 24) at_24 (by decide) ?_
  refine own_iloadN K (pc := 27) at_27 rfl ?_
  refine own_iconst K (pc := 28) at_28 (x := (4 : Int32)) (by decide) ?_
  refine own_icmpY K (pc := 29) (pc' := 36) at_29 (by decide) (by decide) (by decide) ?_
  refine own_iconst K (pc := 36) at_36 (x := (0 : Int32)) (by decide) ?_
  refine own_istoreN K (pc := 37) (Ls' := #[.val (.int k), .val (.int (1 : Int32)), .val (.ref (A 1)), .val (.int (0 : Int32)), .unset]) at_37 rfl ?_
  refine own_aloadN K (pc := 38) at_38 rfl rfl ?_
  refine own_callV K (pc := 39) (W := 0) (rest := []) (argsL := []) (u := (.int (0 : Int32))) (dj_1 l Z a0 h hw A F) F.1.2.2.2.1 (hw _ (List.mem_of_getElem? (i := 8) rfl)) (hw _ (List.mem_of_getElem? (i := 9) rfl)) (hw _ (List.mem_of_getElem? (i := 56) rfl)) (hw _ (List.mem_of_getElem? (i := 10) rfl)) (hw _ (List.mem_of_getElem? (i := 12) rfl)) (hw _ (List.mem_of_getElem? (i := 6) rfl)) (by decide) at_39 pd_2 rfl rfl rfl (Nat.le_of_eq rfl) (by decide) (by decide) ?_
  refine own_istore K (pc := 42) (Ls' := #[.val (.int k), .val (.int (1 : Int32)), .val (.ref (A 1)), .val (.int (0 : Int32)), .val (.int (0 : Int32))]) at_42 rfl ?_
  refine own_iload K (pc := 44) at_44 rfl ?_
  refine own_iloadN K (pc := 46) at_46 rfl ?_
  refine own_icmpY K (pc := 47) (pc' := 52) at_47 (by decide) (by decide) (by decide) ?_
  refine own_iload K (pc := 52) at_52 rfl ?_
  refine own_ifY K (pc := 54) (pc' := 64) at_54 (by decide) (by decide) (by decide) ?_
  refine own_iconst K (pc := 64) at_64 (x := (1 : Int32)) (by decide) ?_
  refine own_goto K (pc := 65) (pc' := 69) at_65 (by decide) (by decide) ?_
  exact own_retZ K (pc := 69) at_69 (by decide)
set_option maxRecDepth 65536 in
theorem lt_2 (p : Program) (l : Launch) (e : Env) (s : State) (m : MethodId) (args : Array Value) (below : List Frame) (meth : Method) (c : Code) (Z : State) (a0 : Array Value) (h : Heap) (hw : ∀ d ∈ tables_1, d.before a0 Z = true) (k : Int32) (A : Nat → Addr) (F : own_F Z h A) (K : own_C p s m meth c Z code "com/example/locant/locant/AxisIsDisjointPinLaw" .boolean 5) :
    own_E p l e room_1 s m args below meth c h 8 #[.val (.int k), .val (.int (2 : Int32)), .unset, .unset, .unset] [] (.int 1) := by
  refine own_iloadN K (pc := 8) at_8 rfl ?_
  refine own_callS K (pc := 9) (W := 0) (rest := []) (argsL := [(.int (2 : Int32))]) (u := (.ref (A 2))) (pk_2 l Z a0 h hw A F) (hw _ (List.mem_of_getElem? (i := 1) rfl)) (hw _ (List.mem_of_getElem? (i := 2) rfl)) (hw _ (List.mem_of_getElem? (i := 3) rfl)) (hw _ (List.mem_of_getElem? (i := 4) rfl)) (by decide) at_9 pd_1 rfl rfl rfl (Nat.le_of_eq rfl) (by decide) (by decide) ?_
  refine own_astoreN K (pc := 12) (Ls' := #[.val (.int k), .val (.int (2 : Int32)), .val (.ref (A 2)), .unset, .unset]) at_12 rfl rfl ?_
  refine own_iloadN K (pc := 13) at_13 rfl ?_
  refine own_ifN K (pc := 14) at_14 (by decide) ?_
  refine own_iloadN K (pc := 17) at_17 rfl ?_
  refine own_iconst K (pc := 18) at_18 (x := (2 : Int32)) (by decide) ?_
  refine own_icmpY K (pc := 19) (pc' := 32) at_19 (by decide) (by decide) (by decide) ?_
  refine own_iconst K (pc := 32) at_32 (x := (1 : Int32)) (by decide) ?_
  refine own_goto K (pc := 33) (pc' := 37) at_33 (by decide) (by decide) ?_
  refine own_istoreN K (pc := 37) (Ls' := #[.val (.int k), .val (.int (2 : Int32)), .val (.ref (A 2)), .val (.int (1 : Int32)), .unset]) at_37 rfl ?_
  refine own_aloadN K (pc := 38) at_38 rfl rfl ?_
  refine own_callV K (pc := 39) (W := 0) (rest := []) (argsL := []) (u := (.int (1 : Int32))) (dj_2 l Z a0 h hw A F) F.1.2.2.2.2.2.1 (hw _ (List.mem_of_getElem? (i := 8) rfl)) (hw _ (List.mem_of_getElem? (i := 9) rfl)) (hw _ (List.mem_of_getElem? (i := 48) rfl)) (hw _ (List.mem_of_getElem? (i := 10) rfl)) (hw _ (List.mem_of_getElem? (i := 12) rfl)) (hw _ (List.mem_of_getElem? (i := 6) rfl)) (by decide) at_39 pd_2 rfl rfl rfl (Nat.le_of_eq rfl) (by decide) (by decide) ?_
  refine own_istore K (pc := 42) (Ls' := #[.val (.int k), .val (.int (2 : Int32)), .val (.ref (A 2)), .val (.int (1 : Int32)), .val (.int (1 : Int32))]) at_42 rfl ?_
  refine own_iload K (pc := 44) at_44 rfl ?_
  refine own_iloadN K (pc := 46) at_46 rfl ?_
  refine own_icmpY K (pc := 47) (pc' := 52) at_47 (by decide) (by decide) (by decide) ?_
  refine own_iload K (pc := 52) at_52 rfl ?_
  refine own_ifN K (pc := 54) at_54 (by decide) ?_
  refine own_aloadN K (pc := 57) at_57 rfl rfl ?_
  refine own_callV K (pc := 58) (W := 0) (rest := []) (argsL := []) (u := (.int (0 : Int32))) (rv_2 l Z a0 h hw A F) F.1.2.2.2.2.2.1 (hw _ (List.mem_of_getElem? (i := 14) rfl)) (hw _ (List.mem_of_getElem? (i := 15) rfl)) (hw _ (List.mem_of_getElem? (i := 49) rfl)) (hw _ (List.mem_of_getElem? (i := 16) rfl)) (hw _ (List.mem_of_getElem? (i := 18) rfl)) (hw _ (List.mem_of_getElem? (i := 6) rfl)) (by decide) at_58 pd_3 rfl rfl rfl (Nat.le_of_eq rfl) (by decide) (by decide) ?_
  refine own_ifN K (pc := 61) at_61 (by decide) ?_
  refine own_iconst K (pc := 64) at_64 (x := (1 : Int32)) (by decide) ?_
  refine own_goto K (pc := 65) (pc' := 69) at_65 (by decide) (by decide) ?_
  exact own_retZ K (pc := 69) at_69 (by decide)
set_option maxRecDepth 65536 in
theorem lt_3 (p : Program) (l : Launch) (e : Env) (s : State) (m : MethodId) (args : Array Value) (below : List Frame) (meth : Method) (c : Code) (Z : State) (a0 : Array Value) (h : Heap) (hw : ∀ d ∈ tables_1, d.before a0 Z = true) (k : Int32) (A : Nat → Addr) (F : own_F Z h A) (K : own_C p s m meth c Z code "com/example/locant/locant/AxisIsDisjointPinLaw" .boolean 5) :
    own_E p l e room_1 s m args below meth c h 8 #[.val (.int k), .val (.int (3 : Int32)), .unset, .unset, .unset] [] (.int 1) := by
  refine own_iloadN K (pc := 8) at_8 rfl ?_
  refine own_callS K (pc := 9) (W := 0) (rest := []) (argsL := [(.int (3 : Int32))]) (u := (.ref (A 3))) (pk_3 l Z a0 h hw A F) (hw _ (List.mem_of_getElem? (i := 1) rfl)) (hw _ (List.mem_of_getElem? (i := 2) rfl)) (hw _ (List.mem_of_getElem? (i := 3) rfl)) (hw _ (List.mem_of_getElem? (i := 4) rfl)) (by decide) at_9 pd_1 rfl rfl rfl (Nat.le_of_eq rfl) (by decide) (by decide) ?_
  refine own_astoreN K (pc := 12) (Ls' := #[.val (.int k), .val (.int (3 : Int32)), .val (.ref (A 3)), .unset, .unset]) at_12 rfl rfl ?_
  refine own_iloadN K (pc := 13) at_13 rfl ?_
  refine own_ifN K (pc := 14) at_14 (by decide) ?_
  refine own_iloadN K (pc := 17) at_17 rfl ?_
  refine own_iconst K (pc := 18) at_18 (x := (2 : Int32)) (by decide) ?_
  refine own_icmpN K (pc := 19) at_19 (by decide) ?_
  refine own_iloadN K (pc := 22) at_22 rfl ?_
  refine own_iconst K (pc := 23) at_23 (x := (3 : Int32)) (by decide) ?_
  refine own_icmpY K (pc := 24) (pc' := 32) at_24 (by decide) (by decide) (by decide) ?_
  refine own_iconst K (pc := 32) at_32 (x := (1 : Int32)) (by decide) ?_
  refine own_goto K (pc := 33) (pc' := 37) at_33 (by decide) (by decide) ?_
  refine own_istoreN K (pc := 37) (Ls' := #[.val (.int k), .val (.int (3 : Int32)), .val (.ref (A 3)), .val (.int (1 : Int32)), .unset]) at_37 rfl ?_
  refine own_aloadN K (pc := 38) at_38 rfl rfl ?_
  refine own_callV K (pc := 39) (W := 0) (rest := []) (argsL := []) (u := (.int (1 : Int32))) (dj_3 l Z a0 h hw A F) F.1.2.2.2.2.2.2.2.1 (hw _ (List.mem_of_getElem? (i := 8) rfl)) (hw _ (List.mem_of_getElem? (i := 9) rfl)) (hw _ (List.mem_of_getElem? (i := 27) rfl)) (hw _ (List.mem_of_getElem? (i := 10) rfl)) (hw _ (List.mem_of_getElem? (i := 12) rfl)) (hw _ (List.mem_of_getElem? (i := 6) rfl)) (by decide) at_39 pd_2 rfl rfl rfl (Nat.le_of_eq rfl) (by decide) (by decide) ?_
  refine own_istore K (pc := 42) (Ls' := #[.val (.int k), .val (.int (3 : Int32)), .val (.ref (A 3)), .val (.int (1 : Int32)), .val (.int (1 : Int32))]) at_42 rfl ?_
  refine own_iload K (pc := 44) at_44 rfl ?_
  refine own_iloadN K (pc := 46) at_46 rfl ?_
  refine own_icmpY K (pc := 47) (pc' := 52) at_47 (by decide) (by decide) (by decide) ?_
  refine own_iload K (pc := 52) at_52 rfl ?_
  refine own_ifN K (pc := 54) at_54 (by decide) ?_
  refine own_aloadN K (pc := 57) at_57 rfl rfl ?_
  refine own_callV K (pc := 58) (W := 0) (rest := []) (argsL := []) (u := (.int (0 : Int32))) (rv_3 l Z a0 h hw A F) F.1.2.2.2.2.2.2.2.1 (hw _ (List.mem_of_getElem? (i := 14) rfl)) (hw _ (List.mem_of_getElem? (i := 15) rfl)) (hw _ (List.mem_of_getElem? (i := 31) rfl)) (hw _ (List.mem_of_getElem? (i := 16) rfl)) (hw _ (List.mem_of_getElem? (i := 18) rfl)) (hw _ (List.mem_of_getElem? (i := 6) rfl)) (by decide) at_58 pd_3 rfl rfl rfl (Nat.le_of_eq rfl) (by decide) (by decide) ?_
  refine own_ifN K (pc := 61) at_61 (by decide) ?_
  refine own_iconst K (pc := 64) at_64 (x := (1 : Int32)) (by decide) ?_
  refine own_goto K (pc := 65) (pc' := 69) at_65 (by decide) (by decide) ?_
  exact own_retZ K (pc := 69) at_69 (by decide)
set_option maxRecDepth 65536 in
theorem lt_4 (p : Program) (l : Launch) (e : Env) (s : State) (m : MethodId) (args : Array Value) (below : List Frame) (meth : Method) (c : Code) (Z : State) (a0 : Array Value) (h : Heap) (hw : ∀ d ∈ tables_1, d.before a0 Z = true) (k : Int32) (A : Nat → Addr) (F : own_F Z h A) (K : own_C p s m meth c Z code "com/example/locant/locant/AxisIsDisjointPinLaw" .boolean 5) :
    own_E p l e room_1 s m args below meth c h 8 #[.val (.int k), .val (.int (4 : Int32)), .unset, .unset, .unset] [] (.int 1) := by
  refine own_iloadN K (pc := 8) at_8 rfl ?_
  refine own_callS K (pc := 9) (W := 0) (rest := []) (argsL := [(.int (4 : Int32))]) (u := (.ref (A 4))) (pk_4 l Z a0 h hw A F) (hw _ (List.mem_of_getElem? (i := 1) rfl)) (hw _ (List.mem_of_getElem? (i := 2) rfl)) (hw _ (List.mem_of_getElem? (i := 3) rfl)) (hw _ (List.mem_of_getElem? (i := 4) rfl)) (by decide) at_9 pd_1 rfl rfl rfl (Nat.le_of_eq rfl) (by decide) (by decide) ?_
  refine own_astoreN K (pc := 12) (Ls' := #[.val (.int k), .val (.int (4 : Int32)), .val (.ref (A 4)), .unset, .unset]) at_12 rfl rfl ?_
  refine own_iloadN K (pc := 13) at_13 rfl ?_
  refine own_ifN K (pc := 14) at_14 (by decide) ?_
  refine own_iloadN K (pc := 17) at_17 rfl ?_
  refine own_iconst K (pc := 18) at_18 (x := (2 : Int32)) (by decide) ?_
  refine own_icmpN K (pc := 19) at_19 (by decide) ?_
  refine own_iloadN K (pc := 22) at_22 rfl ?_
  refine own_iconst K (pc := 23) at_23 (x := (3 : Int32)) (by decide) ?_
  refine own_icmpN K (pc := 24) at_24 (by decide) ?_
  refine own_iloadN K (pc := 27) at_27 rfl ?_
  refine own_iconst K (pc := 28) at_28 (x := (4 : Int32)) (by decide) ?_
  refine own_icmpN K (pc := 29) at_29 (by decide) ?_
  refine own_iconst K (pc := 32) at_32 (x := (1 : Int32)) (by decide) ?_
  refine own_goto K (pc := 33) (pc' := 37) at_33 (by decide) (by decide) ?_
  refine own_istoreN K (pc := 37) (Ls' := #[.val (.int k), .val (.int (4 : Int32)), .val (.ref (A 4)), .val (.int (1 : Int32)), .unset]) at_37 rfl ?_
  refine own_aloadN K (pc := 38) at_38 rfl rfl ?_
  refine own_callV K (pc := 39) (W := 0) (rest := []) (argsL := []) (u := (.int (1 : Int32))) (dj_4 l Z a0 h hw A F) F.1.2.2.2.2.2.2.2.2.2.1 (hw _ (List.mem_of_getElem? (i := 8) rfl)) (hw _ (List.mem_of_getElem? (i := 9) rfl)) (hw _ (List.mem_of_getElem? (i := 61) rfl)) (hw _ (List.mem_of_getElem? (i := 10) rfl)) (hw _ (List.mem_of_getElem? (i := 12) rfl)) (hw _ (List.mem_of_getElem? (i := 6) rfl)) (by decide) at_39 pd_2 rfl rfl rfl (Nat.le_of_eq rfl) (by decide) (by decide) ?_
  refine own_istore K (pc := 42) (Ls' := #[.val (.int k), .val (.int (4 : Int32)), .val (.ref (A 4)), .val (.int (1 : Int32)), .val (.int (1 : Int32))]) at_42 rfl ?_
  refine own_iload K (pc := 44) at_44 rfl ?_
  refine own_iloadN K (pc := 46) at_46 rfl ?_
  refine own_icmpY K (pc := 47) (pc' := 52) at_47 (by decide) (by decide) (by decide) ?_
  refine own_iload K (pc := 52) at_52 rfl ?_
  refine own_ifN K (pc := 54) at_54 (by decide) ?_
  refine own_aloadN K (pc := 57) at_57 rfl rfl ?_
  refine own_callV K (pc := 58) (W := 0) (rest := []) (argsL := []) (u := (.int (0 : Int32))) (rv_4 l Z a0 h hw A F) F.1.2.2.2.2.2.2.2.2.2.1 (hw _ (List.mem_of_getElem? (i := 14) rfl)) (hw _ (List.mem_of_getElem? (i := 15) rfl)) (hw _ (List.mem_of_getElem? (i := 62) rfl)) (hw _ (List.mem_of_getElem? (i := 16) rfl)) (hw _ (List.mem_of_getElem? (i := 18) rfl)) (hw _ (List.mem_of_getElem? (i := 6) rfl)) (by decide) at_58 pd_3 rfl rfl rfl (Nat.le_of_eq rfl) (by decide) (by decide) ?_
  refine own_ifN K (pc := 61) at_61 (by decide) ?_
  refine own_iconst K (pc := 64) at_64 (x := (1 : Int32)) (by decide) ?_
  refine own_goto K (pc := 65) (pc' := 69) at_65 (by decide) (by decide) ?_
  exact own_retZ K (pc := 69) at_69 (by decide)
set_option maxRecDepth 65536 in
theorem lt_5 (p : Program) (l : Launch) (e : Env) (s : State) (m : MethodId) (args : Array Value) (below : List Frame) (meth : Method) (c : Code) (Z : State) (a0 : Array Value) (h : Heap) (hw : ∀ d ∈ tables_1, d.before a0 Z = true) (k : Int32) (A : Nat → Addr) (F : own_F Z h A) (K : own_C p s m meth c Z code "com/example/locant/locant/AxisIsDisjointPinLaw" .boolean 5) :
    own_E p l e room_1 s m args below meth c h 8 #[.val (.int k), .val (.int (5 : Int32)), .unset, .unset, .unset] [] (.int 1) := by
  refine own_iloadN K (pc := 8) at_8 rfl ?_
  refine own_callS K (pc := 9) (W := 0) (rest := []) (argsL := [(.int (5 : Int32))]) (u := (.ref (A 5))) (pk_5 l Z a0 h hw A F) (hw _ (List.mem_of_getElem? (i := 1) rfl)) (hw _ (List.mem_of_getElem? (i := 2) rfl)) (hw _ (List.mem_of_getElem? (i := 3) rfl)) (hw _ (List.mem_of_getElem? (i := 4) rfl)) (by decide) at_9 pd_1 rfl rfl rfl (Nat.le_of_eq rfl) (by decide) (by decide) ?_
  refine own_astoreN K (pc := 12) (Ls' := #[.val (.int k), .val (.int (5 : Int32)), .val (.ref (A 5)), .unset, .unset]) at_12 rfl rfl ?_
  refine own_iloadN K (pc := 13) at_13 rfl ?_
  refine own_ifN K (pc := 14) at_14 (by decide) ?_
  refine own_iloadN K (pc := 17) at_17 rfl ?_
  refine own_iconst K (pc := 18) at_18 (x := (2 : Int32)) (by decide) ?_
  refine own_icmpN K (pc := 19) at_19 (by decide) ?_
  refine own_iloadN K (pc := 22) at_22 rfl ?_
  refine own_iconst K (pc := 23) at_23 (x := (3 : Int32)) (by decide) ?_
  refine own_icmpN K (pc := 24) at_24 (by decide) ?_
  refine own_iloadN K (pc := 27) at_27 rfl ?_
  refine own_iconst K (pc := 28) at_28 (x := (4 : Int32)) (by decide) ?_
  refine own_icmpY K (pc := 29) (pc' := 36) at_29 (by decide) (by decide) (by decide) ?_
  refine own_iconst K (pc := 36) at_36 (x := (0 : Int32)) (by decide) ?_
  refine own_istoreN K (pc := 37) (Ls' := #[.val (.int k), .val (.int (5 : Int32)), .val (.ref (A 5)), .val (.int (0 : Int32)), .unset]) at_37 rfl ?_
  refine own_aloadN K (pc := 38) at_38 rfl rfl ?_
  refine own_callV K (pc := 39) (W := 0) (rest := []) (argsL := []) (u := (.int (0 : Int32))) (dj_5 l Z a0 h hw A F) F.1.2.2.2.2.2.2.2.2.2.2.2.1 (hw _ (List.mem_of_getElem? (i := 8) rfl)) (hw _ (List.mem_of_getElem? (i := 9) rfl)) (hw _ (List.mem_of_getElem? (i := 75) rfl)) (hw _ (List.mem_of_getElem? (i := 10) rfl)) (hw _ (List.mem_of_getElem? (i := 12) rfl)) (hw _ (List.mem_of_getElem? (i := 6) rfl)) (by decide) at_39 pd_2 rfl rfl rfl (Nat.le_of_eq rfl) (by decide) (by decide) ?_
  refine own_istore K (pc := 42) (Ls' := #[.val (.int k), .val (.int (5 : Int32)), .val (.ref (A 5)), .val (.int (0 : Int32)), .val (.int (0 : Int32))]) at_42 rfl ?_
  refine own_iload K (pc := 44) at_44 rfl ?_
  refine own_iloadN K (pc := 46) at_46 rfl ?_
  refine own_icmpY K (pc := 47) (pc' := 52) at_47 (by decide) (by decide) (by decide) ?_
  refine own_iload K (pc := 52) at_52 rfl ?_
  refine own_ifY K (pc := 54) (pc' := 64) at_54 (by decide) (by decide) (by decide) ?_
  refine own_iconst K (pc := 64) at_64 (x := (1 : Int32)) (by decide) ?_
  refine own_goto K (pc := 65) (pc' := 69) at_65 (by decide) (by decide) ?_
  exact own_retZ K (pc := 69) at_69 (by decide)
set_option maxRecDepth 65536 in
theorem lt_6 (p : Program) (l : Launch) (e : Env) (s : State) (m : MethodId) (args : Array Value) (below : List Frame) (meth : Method) (c : Code) (Z : State) (a0 : Array Value) (h : Heap) (hw : ∀ d ∈ tables_1, d.before a0 Z = true) (k : Int32) (A : Nat → Addr) (F : own_F Z h A) (K : own_C p s m meth c Z code "com/example/locant/locant/AxisIsDisjointPinLaw" .boolean 5) :
    own_E p l e room_1 s m args below meth c h 8 #[.val (.int k), .val (.int (6 : Int32)), .unset, .unset, .unset] [] (.int 1) := by
  refine own_iloadN K (pc := 8) at_8 rfl ?_
  refine own_callS K (pc := 9) (W := 0) (rest := []) (argsL := [(.int (6 : Int32))]) (u := (.ref (A 6))) (pk_6 l Z a0 h hw A F) (hw _ (List.mem_of_getElem? (i := 1) rfl)) (hw _ (List.mem_of_getElem? (i := 2) rfl)) (hw _ (List.mem_of_getElem? (i := 3) rfl)) (hw _ (List.mem_of_getElem? (i := 4) rfl)) (by decide) at_9 pd_1 rfl rfl rfl (Nat.le_of_eq rfl) (by decide) (by decide) ?_
  refine own_astoreN K (pc := 12) (Ls' := #[.val (.int k), .val (.int (6 : Int32)), .val (.ref (A 6)), .unset, .unset]) at_12 rfl rfl ?_
  refine own_iloadN K (pc := 13) at_13 rfl ?_
  refine own_ifN K (pc := 14) at_14 (by decide) ?_
  refine own_iloadN K (pc := 17) at_17 rfl ?_
  refine own_iconst K (pc := 18) at_18 (x := (2 : Int32)) (by decide) ?_
  refine own_icmpN K (pc := 19) at_19 (by decide) ?_
  refine own_iloadN K (pc := 22) at_22 rfl ?_
  refine own_iconst K (pc := 23) at_23 (x := (3 : Int32)) (by decide) ?_
  refine own_icmpN K (pc := 24) at_24 (by decide) ?_
  refine own_iloadN K (pc := 27) at_27 rfl ?_
  refine own_iconst K (pc := 28) at_28 (x := (4 : Int32)) (by decide) ?_
  refine own_icmpY K (pc := 29) (pc' := 36) at_29 (by decide) (by decide) (by decide) ?_
  refine own_iconst K (pc := 36) at_36 (x := (0 : Int32)) (by decide) ?_
  refine own_istoreN K (pc := 37) (Ls' := #[.val (.int k), .val (.int (6 : Int32)), .val (.ref (A 6)), .val (.int (0 : Int32)), .unset]) at_37 rfl ?_
  refine own_aloadN K (pc := 38) at_38 rfl rfl ?_
  refine own_callV K (pc := 39) (W := 0) (rest := []) (argsL := []) (u := (.int (0 : Int32))) (dj_6 l Z a0 h hw A F) F.1.2.2.2.2.2.2.2.2.2.2.2.2.2.1 (hw _ (List.mem_of_getElem? (i := 8) rfl)) (hw _ (List.mem_of_getElem? (i := 9) rfl)) (hw _ (List.mem_of_getElem? (i := 43) rfl)) (hw _ (List.mem_of_getElem? (i := 10) rfl)) (hw _ (List.mem_of_getElem? (i := 12) rfl)) (hw _ (List.mem_of_getElem? (i := 6) rfl)) (by decide) at_39 pd_2 rfl rfl rfl (Nat.le_of_eq rfl) (by decide) (by decide) ?_
  refine own_istore K (pc := 42) (Ls' := #[.val (.int k), .val (.int (6 : Int32)), .val (.ref (A 6)), .val (.int (0 : Int32)), .val (.int (0 : Int32))]) at_42 rfl ?_
  refine own_iload K (pc := 44) at_44 rfl ?_
  refine own_iloadN K (pc := 46) at_46 rfl ?_
  refine own_icmpY K (pc := 47) (pc' := 52) at_47 (by decide) (by decide) (by decide) ?_
  refine own_iload K (pc := 52) at_52 rfl ?_
  refine own_ifY K (pc := 54) (pc' := 64) at_54 (by decide) (by decide) (by decide) ?_
  refine own_iconst K (pc := 64) at_64 (x := (1 : Int32)) (by decide) ?_
  refine own_goto K (pc := 65) (pc' := 69) at_65 (by decide) (by decide) ?_
  exact own_retZ K (pc := 69) at_69 (by decide)
set_option maxRecDepth 65536 in
theorem lt_7 (p : Program) (l : Launch) (e : Env) (s : State) (m : MethodId) (args : Array Value) (below : List Frame) (meth : Method) (c : Code) (Z : State) (a0 : Array Value) (h : Heap) (hw : ∀ d ∈ tables_1, d.before a0 Z = true) (k : Int32) (A : Nat → Addr) (F : own_F Z h A) (K : own_C p s m meth c Z code "com/example/locant/locant/AxisIsDisjointPinLaw" .boolean 5) :
    own_E p l e room_1 s m args below meth c h 8 #[.val (.int k), .val (.int (7 : Int32)), .unset, .unset, .unset] [] (.int 1) := by
  refine own_iloadN K (pc := 8) at_8 rfl ?_
  refine own_callS K (pc := 9) (W := 0) (rest := []) (argsL := [(.int (7 : Int32))]) (u := (.ref (A 7))) (pk_7 l Z a0 h hw A F) (hw _ (List.mem_of_getElem? (i := 1) rfl)) (hw _ (List.mem_of_getElem? (i := 2) rfl)) (hw _ (List.mem_of_getElem? (i := 3) rfl)) (hw _ (List.mem_of_getElem? (i := 4) rfl)) (by decide) at_9 pd_1 rfl rfl rfl (Nat.le_of_eq rfl) (by decide) (by decide) ?_
  refine own_astoreN K (pc := 12) (Ls' := #[.val (.int k), .val (.int (7 : Int32)), .val (.ref (A 7)), .unset, .unset]) at_12 rfl rfl ?_
  refine own_iloadN K (pc := 13) at_13 rfl ?_
  refine own_ifN K (pc := 14) at_14 (by decide) ?_
  refine own_iloadN K (pc := 17) at_17 rfl ?_
  refine own_iconst K (pc := 18) at_18 (x := (2 : Int32)) (by decide) ?_
  refine own_icmpN K (pc := 19) at_19 (by decide) ?_
  refine own_iloadN K (pc := 22) at_22 rfl ?_
  refine own_iconst K (pc := 23) at_23 (x := (3 : Int32)) (by decide) ?_
  refine own_icmpN K (pc := 24) at_24 (by decide) ?_
  refine own_iloadN K (pc := 27) at_27 rfl ?_
  refine own_iconst K (pc := 28) at_28 (x := (4 : Int32)) (by decide) ?_
  refine own_icmpY K (pc := 29) (pc' := 36) at_29 (by decide) (by decide) (by decide) ?_
  refine own_iconst K (pc := 36) at_36 (x := (0 : Int32)) (by decide) ?_
  refine own_istoreN K (pc := 37) (Ls' := #[.val (.int k), .val (.int (7 : Int32)), .val (.ref (A 7)), .val (.int (0 : Int32)), .unset]) at_37 rfl ?_
  refine own_aloadN K (pc := 38) at_38 rfl rfl ?_
  refine own_callV K (pc := 39) (W := 0) (rest := []) (argsL := []) (u := (.int (0 : Int32))) (dj_7 l Z a0 h hw A F) F.1.2.2.2.2.2.2.2.2.2.2.2.2.2.2.2.1 (hw _ (List.mem_of_getElem? (i := 8) rfl)) (hw _ (List.mem_of_getElem? (i := 9) rfl)) (hw _ (List.mem_of_getElem? (i := 46) rfl)) (hw _ (List.mem_of_getElem? (i := 10) rfl)) (hw _ (List.mem_of_getElem? (i := 12) rfl)) (hw _ (List.mem_of_getElem? (i := 6) rfl)) (by decide) at_39 pd_2 rfl rfl rfl (Nat.le_of_eq rfl) (by decide) (by decide) ?_
  refine own_istore K (pc := 42) (Ls' := #[.val (.int k), .val (.int (7 : Int32)), .val (.ref (A 7)), .val (.int (0 : Int32)), .val (.int (0 : Int32))]) at_42 rfl ?_
  refine own_iload K (pc := 44) at_44 rfl ?_
  refine own_iloadN K (pc := 46) at_46 rfl ?_
  refine own_icmpY K (pc := 47) (pc' := 52) at_47 (by decide) (by decide) (by decide) ?_
  refine own_iload K (pc := 52) at_52 rfl ?_
  refine own_ifY K (pc := 54) (pc' := 64) at_54 (by decide) (by decide) (by decide) ?_
  refine own_iconst K (pc := 64) at_64 (x := (1 : Int32)) (by decide) ?_
  refine own_goto K (pc := 65) (pc' := 69) at_65 (by decide) (by decide) ?_
  exact own_retZ K (pc := 69) at_69 (by decide)
set_option maxRecDepth 65536 in
theorem lt_8 (p : Program) (l : Launch) (e : Env) (s : State) (m : MethodId) (args : Array Value) (below : List Frame) (meth : Method) (c : Code) (Z : State) (a0 : Array Value) (h : Heap) (hw : ∀ d ∈ tables_1, d.before a0 Z = true) (k : Int32) (A : Nat → Addr) (F : own_F Z h A) (K : own_C p s m meth c Z code "com/example/locant/locant/AxisIsDisjointPinLaw" .boolean 5) :
    own_E p l e room_1 s m args below meth c h 8 #[.val (.int k), .val (.int (8 : Int32)), .unset, .unset, .unset] [] (.int 1) := by
  refine own_iloadN K (pc := 8) at_8 rfl ?_
  refine own_callS K (pc := 9) (W := 0) (rest := []) (argsL := [(.int (8 : Int32))]) (u := (.ref (A 8))) (pk_8 l Z a0 h hw A F) (hw _ (List.mem_of_getElem? (i := 1) rfl)) (hw _ (List.mem_of_getElem? (i := 2) rfl)) (hw _ (List.mem_of_getElem? (i := 3) rfl)) (hw _ (List.mem_of_getElem? (i := 4) rfl)) (by decide) at_9 pd_1 rfl rfl rfl (Nat.le_of_eq rfl) (by decide) (by decide) ?_
  refine own_astoreN K (pc := 12) (Ls' := #[.val (.int k), .val (.int (8 : Int32)), .val (.ref (A 8)), .unset, .unset]) at_12 rfl rfl ?_
  refine own_iloadN K (pc := 13) at_13 rfl ?_
  refine own_ifN K (pc := 14) at_14 (by decide) ?_
  refine own_iloadN K (pc := 17) at_17 rfl ?_
  refine own_iconst K (pc := 18) at_18 (x := (2 : Int32)) (by decide) ?_
  refine own_icmpN K (pc := 19) at_19 (by decide) ?_
  refine own_iloadN K (pc := 22) at_22 rfl ?_
  refine own_iconst K (pc := 23) at_23 (x := (3 : Int32)) (by decide) ?_
  refine own_icmpN K (pc := 24) at_24 (by decide) ?_
  refine own_iloadN K (pc := 27) at_27 rfl ?_
  refine own_iconst K (pc := 28) at_28 (x := (4 : Int32)) (by decide) ?_
  refine own_icmpY K (pc := 29) (pc' := 36) at_29 (by decide) (by decide) (by decide) ?_
  refine own_iconst K (pc := 36) at_36 (x := (0 : Int32)) (by decide) ?_
  refine own_istoreN K (pc := 37) (Ls' := #[.val (.int k), .val (.int (8 : Int32)), .val (.ref (A 8)), .val (.int (0 : Int32)), .unset]) at_37 rfl ?_
  refine own_aloadN K (pc := 38) at_38 rfl rfl ?_
  refine own_callV K (pc := 39) (W := 0) (rest := []) (argsL := []) (u := (.int (0 : Int32))) (dj_8 l Z a0 h hw A F) F.1.2.2.2.2.2.2.2.2.2.2.2.2.2.2.2.2.2.1 (hw _ (List.mem_of_getElem? (i := 8) rfl)) (hw _ (List.mem_of_getElem? (i := 9) rfl)) (hw _ (List.mem_of_getElem? (i := 35) rfl)) (hw _ (List.mem_of_getElem? (i := 10) rfl)) (hw _ (List.mem_of_getElem? (i := 12) rfl)) (hw _ (List.mem_of_getElem? (i := 6) rfl)) (by decide) at_39 pd_2 rfl rfl rfl (Nat.le_of_eq rfl) (by decide) (by decide) ?_
  refine own_istore K (pc := 42) (Ls' := #[.val (.int k), .val (.int (8 : Int32)), .val (.ref (A 8)), .val (.int (0 : Int32)), .val (.int (0 : Int32))]) at_42 rfl ?_
  refine own_iload K (pc := 44) at_44 rfl ?_
  refine own_iloadN K (pc := 46) at_46 rfl ?_
  refine own_icmpY K (pc := 47) (pc' := 52) at_47 (by decide) (by decide) (by decide) ?_
  refine own_iload K (pc := 52) at_52 rfl ?_
  refine own_ifY K (pc := 54) (pc' := 64) at_54 (by decide) (by decide) (by decide) ?_
  refine own_iconst K (pc := 64) at_64 (x := (1 : Int32)) (by decide) ?_
  refine own_goto K (pc := 65) (pc' := 69) at_65 (by decide) (by decide) ?_
  exact own_retZ K (pc := 69) at_69 (by decide)
set_option maxRecDepth 65536 in
theorem lt_9 (p : Program) (l : Launch) (e : Env) (s : State) (m : MethodId) (args : Array Value) (below : List Frame) (meth : Method) (c : Code) (Z : State) (a0 : Array Value) (h : Heap) (hw : ∀ d ∈ tables_1, d.before a0 Z = true) (k : Int32) (A : Nat → Addr) (F : own_F Z h A) (K : own_C p s m meth c Z code "com/example/locant/locant/AxisIsDisjointPinLaw" .boolean 5) :
    own_E p l e room_1 s m args below meth c h 8 #[.val (.int k), .val (.int (9 : Int32)), .unset, .unset, .unset] [] (.int 1) := by
  refine own_iloadN K (pc := 8) at_8 rfl ?_
  refine own_callS K (pc := 9) (W := 0) (rest := []) (argsL := [(.int (9 : Int32))]) (u := (.ref (A 9))) (pk_9 l Z a0 h hw A F) (hw _ (List.mem_of_getElem? (i := 1) rfl)) (hw _ (List.mem_of_getElem? (i := 2) rfl)) (hw _ (List.mem_of_getElem? (i := 3) rfl)) (hw _ (List.mem_of_getElem? (i := 4) rfl)) (by decide) at_9 pd_1 rfl rfl rfl (Nat.le_of_eq rfl) (by decide) (by decide) ?_
  refine own_astoreN K (pc := 12) (Ls' := #[.val (.int k), .val (.int (9 : Int32)), .val (.ref (A 9)), .unset, .unset]) at_12 rfl rfl ?_
  refine own_iloadN K (pc := 13) at_13 rfl ?_
  refine own_ifN K (pc := 14) at_14 (by decide) ?_
  refine own_iloadN K (pc := 17) at_17 rfl ?_
  refine own_iconst K (pc := 18) at_18 (x := (2 : Int32)) (by decide) ?_
  refine own_icmpN K (pc := 19) at_19 (by decide) ?_
  refine own_iloadN K (pc := 22) at_22 rfl ?_
  refine own_iconst K (pc := 23) at_23 (x := (3 : Int32)) (by decide) ?_
  refine own_icmpN K (pc := 24) at_24 (by decide) ?_
  refine own_iloadN K (pc := 27) at_27 rfl ?_
  refine own_iconst K (pc := 28) at_28 (x := (4 : Int32)) (by decide) ?_
  refine own_icmpY K (pc := 29) (pc' := 36) at_29 (by decide) (by decide) (by decide) ?_
  refine own_iconst K (pc := 36) at_36 (x := (0 : Int32)) (by decide) ?_
  refine own_istoreN K (pc := 37) (Ls' := #[.val (.int k), .val (.int (9 : Int32)), .val (.ref (A 9)), .val (.int (0 : Int32)), .unset]) at_37 rfl ?_
  refine own_aloadN K (pc := 38) at_38 rfl rfl ?_
  refine own_callV K (pc := 39) (W := 0) (rest := []) (argsL := []) (u := (.int (0 : Int32))) (dj_9 l Z a0 h hw A F) F.1.2.2.2.2.2.2.2.2.2.2.2.2.2.2.2.2.2.2.2.1 (hw _ (List.mem_of_getElem? (i := 8) rfl)) (hw _ (List.mem_of_getElem? (i := 9) rfl)) (hw _ (List.mem_of_getElem? (i := 40) rfl)) (hw _ (List.mem_of_getElem? (i := 10) rfl)) (hw _ (List.mem_of_getElem? (i := 12) rfl)) (hw _ (List.mem_of_getElem? (i := 6) rfl)) (by decide) at_39 pd_2 rfl rfl rfl (Nat.le_of_eq rfl) (by decide) (by decide) ?_
  refine own_istore K (pc := 42) (Ls' := #[.val (.int k), .val (.int (9 : Int32)), .val (.ref (A 9)), .val (.int (0 : Int32)), .val (.int (0 : Int32))]) at_42 rfl ?_
  refine own_iload K (pc := 44) at_44 rfl ?_
  refine own_iloadN K (pc := 46) at_46 rfl ?_
  refine own_icmpY K (pc := 47) (pc' := 52) at_47 (by decide) (by decide) (by decide) ?_
  refine own_iload K (pc := 52) at_52 rfl ?_
  refine own_ifY K (pc := 54) (pc' := 64) at_54 (by decide) (by decide) (by decide) ?_
  refine own_iconst K (pc := 64) at_64 (x := (1 : Int32)) (by decide) ?_
  refine own_goto K (pc := 65) (pc' := 69) at_65 (by decide) (by decide) ?_
  exact own_retZ K (pc := 69) at_69 (by decide)
set_option maxRecDepth 65536 in
theorem lt_10 (p : Program) (l : Launch) (e : Env) (s : State) (m : MethodId) (args : Array Value) (below : List Frame) (meth : Method) (c : Code) (Z : State) (a0 : Array Value) (h : Heap) (hw : ∀ d ∈ tables_1, d.before a0 Z = true) (k : Int32) (A : Nat → Addr) (F : own_F Z h A) (K : own_C p s m meth c Z code "com/example/locant/locant/AxisIsDisjointPinLaw" .boolean 5) :
    own_E p l e room_1 s m args below meth c h 8 #[.val (.int k), .val (.int (10 : Int32)), .unset, .unset, .unset] [] (.int 1) := by
  refine own_iloadN K (pc := 8) at_8 rfl ?_
  refine own_callS K (pc := 9) (W := 0) (rest := []) (argsL := [(.int (10 : Int32))]) (u := (.ref (A 10))) (pk_10 l Z a0 h hw A F) (hw _ (List.mem_of_getElem? (i := 1) rfl)) (hw _ (List.mem_of_getElem? (i := 2) rfl)) (hw _ (List.mem_of_getElem? (i := 3) rfl)) (hw _ (List.mem_of_getElem? (i := 4) rfl)) (by decide) at_9 pd_1 rfl rfl rfl (Nat.le_of_eq rfl) (by decide) (by decide) ?_
  refine own_astoreN K (pc := 12) (Ls' := #[.val (.int k), .val (.int (10 : Int32)), .val (.ref (A 10)), .unset, .unset]) at_12 rfl rfl ?_
  refine own_iloadN K (pc := 13) at_13 rfl ?_
  refine own_ifN K (pc := 14) at_14 (by decide) ?_
  refine own_iloadN K (pc := 17) at_17 rfl ?_
  refine own_iconst K (pc := 18) at_18 (x := (2 : Int32)) (by decide) ?_
  refine own_icmpN K (pc := 19) at_19 (by decide) ?_
  refine own_iloadN K (pc := 22) at_22 rfl ?_
  refine own_iconst K (pc := 23) at_23 (x := (3 : Int32)) (by decide) ?_
  refine own_icmpN K (pc := 24) at_24 (by decide) ?_
  refine own_iloadN K (pc := 27) at_27 rfl ?_
  refine own_iconst K (pc := 28) at_28 (x := (4 : Int32)) (by decide) ?_
  refine own_icmpY K (pc := 29) (pc' := 36) at_29 (by decide) (by decide) (by decide) ?_
  refine own_iconst K (pc := 36) at_36 (x := (0 : Int32)) (by decide) ?_
  refine own_istoreN K (pc := 37) (Ls' := #[.val (.int k), .val (.int (10 : Int32)), .val (.ref (A 10)), .val (.int (0 : Int32)), .unset]) at_37 rfl ?_
  refine own_aloadN K (pc := 38) at_38 rfl rfl ?_
  refine own_callV K (pc := 39) (W := 0) (rest := []) (argsL := []) (u := (.int (0 : Int32))) (dj_10 l Z a0 h hw A F) F.1.2.2.2.2.2.2.2.2.2.2.2.2.2.2.2.2.2.2.2.2.2.1 (hw _ (List.mem_of_getElem? (i := 8) rfl)) (hw _ (List.mem_of_getElem? (i := 9) rfl)) (hw _ (List.mem_of_getElem? (i := 66) rfl)) (hw _ (List.mem_of_getElem? (i := 10) rfl)) (hw _ (List.mem_of_getElem? (i := 12) rfl)) (hw _ (List.mem_of_getElem? (i := 6) rfl)) (by decide) at_39 pd_2 rfl rfl rfl (Nat.le_of_eq rfl) (by decide) (by decide) ?_
  refine own_istore K (pc := 42) (Ls' := #[.val (.int k), .val (.int (10 : Int32)), .val (.ref (A 10)), .val (.int (0 : Int32)), .val (.int (0 : Int32))]) at_42 rfl ?_
  refine own_iload K (pc := 44) at_44 rfl ?_
  refine own_iloadN K (pc := 46) at_46 rfl ?_
  refine own_icmpY K (pc := 47) (pc' := 52) at_47 (by decide) (by decide) (by decide) ?_
  refine own_iload K (pc := 52) at_52 rfl ?_
  refine own_ifY K (pc := 54) (pc' := 64) at_54 (by decide) (by decide) (by decide) ?_
  refine own_iconst K (pc := 64) at_64 (x := (1 : Int32)) (by decide) ?_
  refine own_goto K (pc := 65) (pc' := 69) at_65 (by decide) (by decide) ?_
  exact own_retZ K (pc := 69) at_69 (by decide)
set_option maxRecDepth 65536 in
theorem lt_11 (p : Program) (l : Launch) (e : Env) (s : State) (m : MethodId) (args : Array Value) (below : List Frame) (meth : Method) (c : Code) (Z : State) (a0 : Array Value) (h : Heap) (hw : ∀ d ∈ tables_1, d.before a0 Z = true) (k : Int32) (A : Nat → Addr) (F : own_F Z h A) (K : own_C p s m meth c Z code "com/example/locant/locant/AxisIsDisjointPinLaw" .boolean 5) :
    own_E p l e room_1 s m args below meth c h 8 #[.val (.int k), .val (.int (11 : Int32)), .unset, .unset, .unset] [] (.int 1) := by
  refine own_iloadN K (pc := 8) at_8 rfl ?_
  refine own_callS K (pc := 9) (W := 0) (rest := []) (argsL := [(.int (11 : Int32))]) (u := (.ref (A 11))) (pk_11 l Z a0 h hw A F) (hw _ (List.mem_of_getElem? (i := 1) rfl)) (hw _ (List.mem_of_getElem? (i := 2) rfl)) (hw _ (List.mem_of_getElem? (i := 3) rfl)) (hw _ (List.mem_of_getElem? (i := 4) rfl)) (by decide) at_9 pd_1 rfl rfl rfl (Nat.le_of_eq rfl) (by decide) (by decide) ?_
  refine own_astoreN K (pc := 12) (Ls' := #[.val (.int k), .val (.int (11 : Int32)), .val (.ref (A 11)), .unset, .unset]) at_12 rfl rfl ?_
  refine own_iloadN K (pc := 13) at_13 rfl ?_
  refine own_ifN K (pc := 14) at_14 (by decide) ?_
  refine own_iloadN K (pc := 17) at_17 rfl ?_
  refine own_iconst K (pc := 18) at_18 (x := (2 : Int32)) (by decide) ?_
  refine own_icmpN K (pc := 19) at_19 (by decide) ?_
  refine own_iloadN K (pc := 22) at_22 rfl ?_
  refine own_iconst K (pc := 23) at_23 (x := (3 : Int32)) (by decide) ?_
  refine own_icmpN K (pc := 24) at_24 (by decide) ?_
  refine own_iloadN K (pc := 27) at_27 rfl ?_
  refine own_iconst K (pc := 28) at_28 (x := (4 : Int32)) (by decide) ?_
  refine own_icmpY K (pc := 29) (pc' := 36) at_29 (by decide) (by decide) (by decide) ?_
  refine own_iconst K (pc := 36) at_36 (x := (0 : Int32)) (by decide) ?_
  refine own_istoreN K (pc := 37) (Ls' := #[.val (.int k), .val (.int (11 : Int32)), .val (.ref (A 11)), .val (.int (0 : Int32)), .unset]) at_37 rfl ?_
  refine own_aloadN K (pc := 38) at_38 rfl rfl ?_
  refine own_callV K (pc := 39) (W := 0) (rest := []) (argsL := []) (u := (.int (0 : Int32))) (dj_11 l Z a0 h hw A F) F.1.2.2.2.2.2.2.2.2.2.2.2.2.2.2.2.2.2.2.2.2.2.2.2 (hw _ (List.mem_of_getElem? (i := 8) rfl)) (hw _ (List.mem_of_getElem? (i := 9) rfl)) (hw _ (List.mem_of_getElem? (i := 53) rfl)) (hw _ (List.mem_of_getElem? (i := 10) rfl)) (hw _ (List.mem_of_getElem? (i := 12) rfl)) (hw _ (List.mem_of_getElem? (i := 6) rfl)) (by decide) at_39 pd_2 rfl rfl rfl (Nat.le_of_eq rfl) (by decide) (by decide) ?_
  refine own_istore K (pc := 42) (Ls' := #[.val (.int k), .val (.int (11 : Int32)), .val (.ref (A 11)), .val (.int (0 : Int32)), .val (.int (0 : Int32))]) at_42 rfl ?_
  refine own_iload K (pc := 44) at_44 rfl ?_
  refine own_iloadN K (pc := 46) at_46 rfl ?_
  refine own_icmpY K (pc := 47) (pc' := 52) at_47 (by decide) (by decide) (by decide) ?_
  refine own_iload K (pc := 52) at_52 rfl ?_
  refine own_ifY K (pc := 54) (pc' := 64) at_54 (by decide) (by decide) (by decide) ?_
  refine own_iconst K (pc := 64) at_64 (x := (1 : Int32)) (by decide) ?_
  refine own_goto K (pc := 65) (pc' := 69) at_65 (by decide) (by decide) ?_
  exact own_retZ K (pc := 69) at_69 (by decide)
set_option maxRecDepth 65536 in
theorem lt_12 (p : Program) (l : Launch) (e : Env) (s : State) (m : MethodId) (args : Array Value) (below : List Frame) (meth : Method) (c : Code) (Z : State) (a0 : Array Value) (h : Heap) (hw : ∀ d ∈ tables_1, d.before a0 Z = true) (k : Int32) (A : Nat → Addr) (F : own_F Z h A) (K : own_C p s m meth c Z code "com/example/locant/locant/AxisIsDisjointPinLaw" .boolean 5) :
    own_E p l e room_1 s m args below meth c h 8 #[.val (.int k), .val (.int (12 : Int32)), .unset, .unset, .unset] [] (.int 1) := by
  refine own_iloadN K (pc := 8) at_8 rfl ?_
  refine own_callS K (pc := 9) (W := 0) (rest := []) (argsL := [(.int (12 : Int32))]) (u := (.ref (A 12))) (pk_12 l Z a0 h hw A F) (hw _ (List.mem_of_getElem? (i := 1) rfl)) (hw _ (List.mem_of_getElem? (i := 2) rfl)) (hw _ (List.mem_of_getElem? (i := 3) rfl)) (hw _ (List.mem_of_getElem? (i := 4) rfl)) (by decide) at_9 pd_1 rfl rfl rfl (Nat.le_of_eq rfl) (by decide) (by decide) ?_
  refine own_astoreN K (pc := 12) (Ls' := #[.val (.int k), .val (.int (12 : Int32)), .val (.ref (A 12)), .unset, .unset]) at_12 rfl rfl ?_
  refine own_iloadN K (pc := 13) at_13 rfl ?_
  refine own_ifN K (pc := 14) at_14 (by decide) ?_
  refine own_iloadN K (pc := 17) at_17 rfl ?_
  refine own_iconst K (pc := 18) at_18 (x := (2 : Int32)) (by decide) ?_
  refine own_icmpN K (pc := 19) at_19 (by decide) ?_
  refine own_iloadN K (pc := 22) at_22 rfl ?_
  refine own_iconst K (pc := 23) at_23 (x := (3 : Int32)) (by decide) ?_
  refine own_icmpN K (pc := 24) at_24 (by decide) ?_
  refine own_iloadN K (pc := 27) at_27 rfl ?_
  refine own_iconst K (pc := 28) at_28 (x := (4 : Int32)) (by decide) ?_
  refine own_icmpY K (pc := 29) (pc' := 36) at_29 (by decide) (by decide) (by decide) ?_
  refine own_iconst K (pc := 36) at_36 (x := (0 : Int32)) (by decide) ?_
  refine own_istoreN K (pc := 37) (Ls' := #[.val (.int k), .val (.int (12 : Int32)), .val (.ref (A 12)), .val (.int (0 : Int32)), .unset]) at_37 rfl ?_
  refine own_aloadN K (pc := 38) at_38 rfl rfl ?_
  refine own_callV K (pc := 39) (W := 0) (rest := []) (argsL := []) (u := (.int (0 : Int32))) (dj_12 l Z a0 h hw A F) F.2.1.2.1 (hw _ (List.mem_of_getElem? (i := 8) rfl)) (hw _ (List.mem_of_getElem? (i := 9) rfl)) (hw _ (List.mem_of_getElem? (i := 81) rfl)) (hw _ (List.mem_of_getElem? (i := 10) rfl)) (hw _ (List.mem_of_getElem? (i := 12) rfl)) (hw _ (List.mem_of_getElem? (i := 6) rfl)) (by decide) at_39 pd_2 rfl rfl rfl (Nat.le_of_eq rfl) (by decide) (by decide) ?_
  refine own_istore K (pc := 42) (Ls' := #[.val (.int k), .val (.int (12 : Int32)), .val (.ref (A 12)), .val (.int (0 : Int32)), .val (.int (0 : Int32))]) at_42 rfl ?_
  refine own_iload K (pc := 44) at_44 rfl ?_
  refine own_iloadN K (pc := 46) at_46 rfl ?_
  refine own_icmpY K (pc := 47) (pc' := 52) at_47 (by decide) (by decide) (by decide) ?_
  refine own_iload K (pc := 52) at_52 rfl ?_
  refine own_ifY K (pc := 54) (pc' := 64) at_54 (by decide) (by decide) (by decide) ?_
  refine own_iconst K (pc := 64) at_64 (x := (1 : Int32)) (by decide) ?_
  refine own_goto K (pc := 65) (pc' := 69) at_65 (by decide) (by decide) ?_
  exact own_retZ K (pc := 69) at_69 (by decide)
set_option maxRecDepth 65536 in
theorem lt_13 (p : Program) (l : Launch) (e : Env) (s : State) (m : MethodId) (args : Array Value) (below : List Frame) (meth : Method) (c : Code) (Z : State) (a0 : Array Value) (h : Heap) (hw : ∀ d ∈ tables_1, d.before a0 Z = true) (k : Int32) (A : Nat → Addr) (F : own_F Z h A) (K : own_C p s m meth c Z code "com/example/locant/locant/AxisIsDisjointPinLaw" .boolean 5) :
    own_E p l e room_1 s m args below meth c h 8 #[.val (.int k), .val (.int (13 : Int32)), .unset, .unset, .unset] [] (.int 1) := by
  refine own_iloadN K (pc := 8) at_8 rfl ?_
  refine own_callS K (pc := 9) (W := 0) (rest := []) (argsL := [(.int (13 : Int32))]) (u := (.ref (A 13))) (pk_13 l Z a0 h hw A F) (hw _ (List.mem_of_getElem? (i := 1) rfl)) (hw _ (List.mem_of_getElem? (i := 2) rfl)) (hw _ (List.mem_of_getElem? (i := 3) rfl)) (hw _ (List.mem_of_getElem? (i := 4) rfl)) (by decide) at_9 pd_1 rfl rfl rfl (Nat.le_of_eq rfl) (by decide) (by decide) ?_
  refine own_astoreN K (pc := 12) (Ls' := #[.val (.int k), .val (.int (13 : Int32)), .val (.ref (A 13)), .unset, .unset]) at_12 rfl rfl ?_
  refine own_iloadN K (pc := 13) at_13 rfl ?_
  refine own_ifN K (pc := 14) at_14 (by decide) ?_
  refine own_iloadN K (pc := 17) at_17 rfl ?_
  refine own_iconst K (pc := 18) at_18 (x := (2 : Int32)) (by decide) ?_
  refine own_icmpN K (pc := 19) at_19 (by decide) ?_
  refine own_iloadN K (pc := 22) at_22 rfl ?_
  refine own_iconst K (pc := 23) at_23 (x := (3 : Int32)) (by decide) ?_
  refine own_icmpN K (pc := 24) at_24 (by decide) ?_
  refine own_iloadN K (pc := 27) at_27 rfl ?_
  refine own_iconst K (pc := 28) at_28 (x := (4 : Int32)) (by decide) ?_
  refine own_icmpY K (pc := 29) (pc' := 36) at_29 (by decide) (by decide) (by decide) ?_
  refine own_iconst K (pc := 36) at_36 (x := (0 : Int32)) (by decide) ?_
  refine own_istoreN K (pc := 37) (Ls' := #[.val (.int k), .val (.int (13 : Int32)), .val (.ref (A 13)), .val (.int (0 : Int32)), .unset]) at_37 rfl ?_
  refine own_aloadN K (pc := 38) at_38 rfl rfl ?_
  refine own_callV K (pc := 39) (W := 0) (rest := []) (argsL := []) (u := (.int (0 : Int32))) (dj_13 l Z a0 h hw A F) F.2.1.2.2.2.1 (hw _ (List.mem_of_getElem? (i := 8) rfl)) (hw _ (List.mem_of_getElem? (i := 9) rfl)) (hw _ (List.mem_of_getElem? (i := 59) rfl)) (hw _ (List.mem_of_getElem? (i := 10) rfl)) (hw _ (List.mem_of_getElem? (i := 12) rfl)) (hw _ (List.mem_of_getElem? (i := 6) rfl)) (by decide) at_39 pd_2 rfl rfl rfl (Nat.le_of_eq rfl) (by decide) (by decide) ?_
  refine own_istore K (pc := 42) (Ls' := #[.val (.int k), .val (.int (13 : Int32)), .val (.ref (A 13)), .val (.int (0 : Int32)), .val (.int (0 : Int32))]) at_42 rfl ?_
  refine own_iload K (pc := 44) at_44 rfl ?_
  refine own_iloadN K (pc := 46) at_46 rfl ?_
  refine own_icmpY K (pc := 47) (pc' := 52) at_47 (by decide) (by decide) (by decide) ?_
  refine own_iload K (pc := 52) at_52 rfl ?_
  refine own_ifY K (pc := 54) (pc' := 64) at_54 (by decide) (by decide) (by decide) ?_
  refine own_iconst K (pc := 64) at_64 (x := (1 : Int32)) (by decide) ?_
  refine own_goto K (pc := 65) (pc' := 69) at_65 (by decide) (by decide) ?_
  exact own_retZ K (pc := 69) at_69 (by decide)
set_option maxRecDepth 65536 in
theorem lt_14 (p : Program) (l : Launch) (e : Env) (s : State) (m : MethodId) (args : Array Value) (below : List Frame) (meth : Method) (c : Code) (Z : State) (a0 : Array Value) (h : Heap) (hw : ∀ d ∈ tables_1, d.before a0 Z = true) (k : Int32) (A : Nat → Addr) (F : own_F Z h A) (K : own_C p s m meth c Z code "com/example/locant/locant/AxisIsDisjointPinLaw" .boolean 5) :
    own_E p l e room_1 s m args below meth c h 8 #[.val (.int k), .val (.int (14 : Int32)), .unset, .unset, .unset] [] (.int 1) := by
  refine own_iloadN K (pc := 8) at_8 rfl ?_
  refine own_callS K (pc := 9) (W := 0) (rest := []) (argsL := [(.int (14 : Int32))]) (u := (.ref (A 14))) (pk_14 l Z a0 h hw A F) (hw _ (List.mem_of_getElem? (i := 1) rfl)) (hw _ (List.mem_of_getElem? (i := 2) rfl)) (hw _ (List.mem_of_getElem? (i := 3) rfl)) (hw _ (List.mem_of_getElem? (i := 4) rfl)) (by decide) at_9 pd_1 rfl rfl rfl (Nat.le_of_eq rfl) (by decide) (by decide) ?_
  refine own_astoreN K (pc := 12) (Ls' := #[.val (.int k), .val (.int (14 : Int32)), .val (.ref (A 14)), .unset, .unset]) at_12 rfl rfl ?_
  refine own_iloadN K (pc := 13) at_13 rfl ?_
  refine own_ifN K (pc := 14) at_14 (by decide) ?_
  refine own_iloadN K (pc := 17) at_17 rfl ?_
  refine own_iconst K (pc := 18) at_18 (x := (2 : Int32)) (by decide) ?_
  refine own_icmpN K (pc := 19) at_19 (by decide) ?_
  refine own_iloadN K (pc := 22) at_22 rfl ?_
  refine own_iconst K (pc := 23) at_23 (x := (3 : Int32)) (by decide) ?_
  refine own_icmpN K (pc := 24) at_24 (by decide) ?_
  refine own_iloadN K (pc := 27) at_27 rfl ?_
  refine own_iconst K (pc := 28) at_28 (x := (4 : Int32)) (by decide) ?_
  refine own_icmpY K (pc := 29) (pc' := 36) at_29 (by decide) (by decide) (by decide) ?_
  refine own_iconst K (pc := 36) at_36 (x := (0 : Int32)) (by decide) ?_
  refine own_istoreN K (pc := 37) (Ls' := #[.val (.int k), .val (.int (14 : Int32)), .val (.ref (A 14)), .val (.int (0 : Int32)), .unset]) at_37 rfl ?_
  refine own_aloadN K (pc := 38) at_38 rfl rfl ?_
  refine own_callV K (pc := 39) (W := 0) (rest := []) (argsL := []) (u := (.int (0 : Int32))) (dj_14 l Z a0 h hw A F) F.2.1.2.2.2.2.2.1 (hw _ (List.mem_of_getElem? (i := 8) rfl)) (hw _ (List.mem_of_getElem? (i := 9) rfl)) (hw _ (List.mem_of_getElem? (i := 78) rfl)) (hw _ (List.mem_of_getElem? (i := 10) rfl)) (hw _ (List.mem_of_getElem? (i := 12) rfl)) (hw _ (List.mem_of_getElem? (i := 6) rfl)) (by decide) at_39 pd_2 rfl rfl rfl (Nat.le_of_eq rfl) (by decide) (by decide) ?_
  refine own_istore K (pc := 42) (Ls' := #[.val (.int k), .val (.int (14 : Int32)), .val (.ref (A 14)), .val (.int (0 : Int32)), .val (.int (0 : Int32))]) at_42 rfl ?_
  refine own_iload K (pc := 44) at_44 rfl ?_
  refine own_iloadN K (pc := 46) at_46 rfl ?_
  refine own_icmpY K (pc := 47) (pc' := 52) at_47 (by decide) (by decide) (by decide) ?_
  refine own_iload K (pc := 52) at_52 rfl ?_
  refine own_ifY K (pc := 54) (pc' := 64) at_54 (by decide) (by decide) (by decide) ?_
  refine own_iconst K (pc := 64) at_64 (x := (1 : Int32)) (by decide) ?_
  refine own_goto K (pc := 65) (pc' := 69) at_65 (by decide) (by decide) ?_
  exact own_retZ K (pc := 69) at_69 (by decide)
set_option maxRecDepth 65536 in
theorem lt_15 (p : Program) (l : Launch) (e : Env) (s : State) (m : MethodId) (args : Array Value) (below : List Frame) (meth : Method) (c : Code) (Z : State) (a0 : Array Value) (h : Heap) (hw : ∀ d ∈ tables_1, d.before a0 Z = true) (k : Int32) (A : Nat → Addr) (F : own_F Z h A) (K : own_C p s m meth c Z code "com/example/locant/locant/AxisIsDisjointPinLaw" .boolean 5) :
    own_E p l e room_1 s m args below meth c h 8 #[.val (.int k), .val (.int (15 : Int32)), .unset, .unset, .unset] [] (.int 1) := by
  refine own_iloadN K (pc := 8) at_8 rfl ?_
  refine own_callS K (pc := 9) (W := 0) (rest := []) (argsL := [(.int (15 : Int32))]) (u := (.ref (A 15))) (pk_15 l Z a0 h hw A F) (hw _ (List.mem_of_getElem? (i := 1) rfl)) (hw _ (List.mem_of_getElem? (i := 2) rfl)) (hw _ (List.mem_of_getElem? (i := 3) rfl)) (hw _ (List.mem_of_getElem? (i := 4) rfl)) (by decide) at_9 pd_1 rfl rfl rfl (Nat.le_of_eq rfl) (by decide) (by decide) ?_
  refine own_astoreN K (pc := 12) (Ls' := #[.val (.int k), .val (.int (15 : Int32)), .val (.ref (A 15)), .unset, .unset]) at_12 rfl rfl ?_
  refine own_iloadN K (pc := 13) at_13 rfl ?_
  refine own_ifN K (pc := 14) at_14 (by decide) ?_
  refine own_iloadN K (pc := 17) at_17 rfl ?_
  refine own_iconst K (pc := 18) at_18 (x := (2 : Int32)) (by decide) ?_
  refine own_icmpN K (pc := 19) at_19 (by decide) ?_
  refine own_iloadN K (pc := 22) at_22 rfl ?_
  refine own_iconst K (pc := 23) at_23 (x := (3 : Int32)) (by decide) ?_
  refine own_icmpN K (pc := 24) at_24 (by decide) ?_
  refine own_iloadN K (pc := 27) at_27 rfl ?_
  refine own_iconst K (pc := 28) at_28 (x := (4 : Int32)) (by decide) ?_
  refine own_icmpY K (pc := 29) (pc' := 36) at_29 (by decide) (by decide) (by decide) ?_
  refine own_iconst K (pc := 36) at_36 (x := (0 : Int32)) (by decide) ?_
  refine own_istoreN K (pc := 37) (Ls' := #[.val (.int k), .val (.int (15 : Int32)), .val (.ref (A 15)), .val (.int (0 : Int32)), .unset]) at_37 rfl ?_
  refine own_aloadN K (pc := 38) at_38 rfl rfl ?_
  refine own_callV K (pc := 39) (W := 0) (rest := []) (argsL := []) (u := (.int (0 : Int32))) (dj_15 l Z a0 h hw A F) F.2.1.2.2.2.2.2.2.2.1 (hw _ (List.mem_of_getElem? (i := 8) rfl)) (hw _ (List.mem_of_getElem? (i := 9) rfl)) (hw _ (List.mem_of_getElem? (i := 72) rfl)) (hw _ (List.mem_of_getElem? (i := 10) rfl)) (hw _ (List.mem_of_getElem? (i := 12) rfl)) (hw _ (List.mem_of_getElem? (i := 6) rfl)) (by decide) at_39 pd_2 rfl rfl rfl (Nat.le_of_eq rfl) (by decide) (by decide) ?_
  refine own_istore K (pc := 42) (Ls' := #[.val (.int k), .val (.int (15 : Int32)), .val (.ref (A 15)), .val (.int (0 : Int32)), .val (.int (0 : Int32))]) at_42 rfl ?_
  refine own_iload K (pc := 44) at_44 rfl ?_
  refine own_iloadN K (pc := 46) at_46 rfl ?_
  refine own_icmpY K (pc := 47) (pc' := 52) at_47 (by decide) (by decide) (by decide) ?_
  refine own_iload K (pc := 52) at_52 rfl ?_
  refine own_ifY K (pc := 54) (pc' := 64) at_54 (by decide) (by decide) (by decide) ?_
  refine own_iconst K (pc := 64) at_64 (x := (1 : Int32)) (by decide) ?_
  refine own_goto K (pc := 65) (pc' := 69) at_65 (by decide) (by decide) ?_
  exact own_retZ K (pc := 69) at_69 (by decide)
set_option maxRecDepth 65536 in
theorem lt_16 (p : Program) (l : Launch) (e : Env) (s : State) (m : MethodId) (args : Array Value) (below : List Frame) (meth : Method) (c : Code) (Z : State) (a0 : Array Value) (h : Heap) (hw : ∀ d ∈ tables_1, d.before a0 Z = true) (k : Int32) (A : Nat → Addr) (F : own_F Z h A) (K : own_C p s m meth c Z code "com/example/locant/locant/AxisIsDisjointPinLaw" .boolean 5) :
    own_E p l e room_1 s m args below meth c h 8 #[.val (.int k), .val (.int (16 : Int32)), .unset, .unset, .unset] [] (.int 1) := by
  refine own_iloadN K (pc := 8) at_8 rfl ?_
  refine own_callS K (pc := 9) (W := 0) (rest := []) (argsL := [(.int (16 : Int32))]) (u := (.ref (A 16))) (pk_16 l Z a0 h hw A F) (hw _ (List.mem_of_getElem? (i := 1) rfl)) (hw _ (List.mem_of_getElem? (i := 2) rfl)) (hw _ (List.mem_of_getElem? (i := 3) rfl)) (hw _ (List.mem_of_getElem? (i := 4) rfl)) (by decide) at_9 pd_1 rfl rfl rfl (Nat.le_of_eq rfl) (by decide) (by decide) ?_
  refine own_astoreN K (pc := 12) (Ls' := #[.val (.int k), .val (.int (16 : Int32)), .val (.ref (A 16)), .unset, .unset]) at_12 rfl rfl ?_
  refine own_iloadN K (pc := 13) at_13 rfl ?_
  refine own_ifN K (pc := 14) at_14 (by decide) ?_
  refine own_iloadN K (pc := 17) at_17 rfl ?_
  refine own_iconst K (pc := 18) at_18 (x := (2 : Int32)) (by decide) ?_
  refine own_icmpN K (pc := 19) at_19 (by decide) ?_
  refine own_iloadN K (pc := 22) at_22 rfl ?_
  refine own_iconst K (pc := 23) at_23 (x := (3 : Int32)) (by decide) ?_
  refine own_icmpN K (pc := 24) at_24 (by decide) ?_
  refine own_iloadN K (pc := 27) at_27 rfl ?_
  refine own_iconst K (pc := 28) at_28 (x := (4 : Int32)) (by decide) ?_
  refine own_icmpY K (pc := 29) (pc' := 36) at_29 (by decide) (by decide) (by decide) ?_
  refine own_iconst K (pc := 36) at_36 (x := (0 : Int32)) (by decide) ?_
  refine own_istoreN K (pc := 37) (Ls' := #[.val (.int k), .val (.int (16 : Int32)), .val (.ref (A 16)), .val (.int (0 : Int32)), .unset]) at_37 rfl ?_
  refine own_aloadN K (pc := 38) at_38 rfl rfl ?_
  refine own_callV K (pc := 39) (W := 0) (rest := []) (argsL := []) (u := (.int (0 : Int32))) (dj_16 l Z a0 h hw A F) F.2.1.2.2.2.2.2.2.2.2.2.1 (hw _ (List.mem_of_getElem? (i := 8) rfl)) (hw _ (List.mem_of_getElem? (i := 9) rfl)) (hw _ (List.mem_of_getElem? (i := 69) rfl)) (hw _ (List.mem_of_getElem? (i := 10) rfl)) (hw _ (List.mem_of_getElem? (i := 12) rfl)) (hw _ (List.mem_of_getElem? (i := 6) rfl)) (by decide) at_39 pd_2 rfl rfl rfl (Nat.le_of_eq rfl) (by decide) (by decide) ?_
  refine own_istore K (pc := 42) (Ls' := #[.val (.int k), .val (.int (16 : Int32)), .val (.ref (A 16)), .val (.int (0 : Int32)), .val (.int (0 : Int32))]) at_42 rfl ?_
  refine own_iload K (pc := 44) at_44 rfl ?_
  refine own_iloadN K (pc := 46) at_46 rfl ?_
  refine own_icmpY K (pc := 47) (pc' := 52) at_47 (by decide) (by decide) (by decide) ?_
  refine own_iload K (pc := 52) at_52 rfl ?_
  refine own_ifY K (pc := 54) (pc' := 64) at_54 (by decide) (by decide) (by decide) ?_
  refine own_iconst K (pc := 64) at_64 (x := (1 : Int32)) (by decide) ?_
  refine own_goto K (pc := 65) (pc' := 69) at_65 (by decide) (by decide) ?_
  exact own_retZ K (pc := 69) at_69 (by decide)
set_option maxRecDepth 65536 in
theorem lh (p : Program) (l : Launch) (e : Env) (s : State) (m : MethodId) (args : Array Value) (below : List Frame) (meth : Method) (c : Code) (Z : State) (a0 : Array Value) (h : Heap) (hw : ∀ d ∈ tables_1, d.before a0 Z = true) (k : Int32) (A : Nat → Addr) (F : own_F Z h A) (K : own_C p s m meth c Z code "com/example/locant/locant/AxisIsDisjointPinLaw" .boolean 5) (r : own_E p l e room_1 s m args below meth c h 8 #[.val (.int k), .val (.int ((k &&& (2147483647 : Int32)) % (17 : Int32))), .unset, .unset, .unset] [] (.int 1)) :
    own_E p l e room_1 s m args below meth c h 0 #[.val (.int k), .unset, .unset, .unset, .unset] [] (.int 1) := by
  refine own_iloadN K (pc := 0) at_0 rfl ?_
  refine own_ldc K (pc := 1) (x := (2147483647 : Int32)) (hw _ (List.mem_of_getElem? (i := 0) rfl)) at_1 ?_
  refine own_iand K (pc := 3) at_3 ?_
  refine own_bipush K (pc := 4) at_4 (x := (17 : Int32)) (by decide) ?_
  refine own_irem K (pc := 6) at_6 (by decide) ?_
  refine own_istoreN K (pc := 7) (Ls' := #[.val (.int k), .val (.int ((k &&& (2147483647 : Int32)) % (17 : Int32))), .unset, .unset, .unset]) at_7 rfl ?_
  exact r
set_option maxRecDepth 65536 in
set_option maxHeartbeats 4000000 in
theorem rm0 (l : Launch) (Z : State) (a0 : Array Value) (h : Heap) (hw : ∀ d ∈ tables_1, d.before a0 Z = true) (k : Int32) (A : Nat → Addr) (F : own_F Z h A)  : own_M l x code maxLocals .boolean tables_1 room_1 Z h #[(.int k)] (.int (1 : Int32)) := by
  refine own_met pn_0 (Ls := #[.val (.int k), .unset, .unset, .unset, .unset]) (fun m => by first | (simp [entryFrame, mkF, argsToLocals, Value.category, maxLocals]; done) | rfl) ?_
  intro p e s m below meth c K
  refine lh p l e s m _ below meth c Z a0 h hw k A F K ?_
  rcases own_rem k with q | q | q | q | q | q | q | q | q | q | q | q | q | q | q | q | q
  · rw [q]; exact lt_0 p l e s m _ below meth c Z a0 h hw k A F K
  · rw [q]; exact lt_1 p l e s m _ below meth c Z a0 h hw k A F K
  · rw [q]; exact lt_2 p l e s m _ below meth c Z a0 h hw k A F K
  · rw [q]; exact lt_3 p l e s m _ below meth c Z a0 h hw k A F K
  · rw [q]; exact lt_4 p l e s m _ below meth c Z a0 h hw k A F K
  · rw [q]; exact lt_5 p l e s m _ below meth c Z a0 h hw k A F K
  · rw [q]; exact lt_6 p l e s m _ below meth c Z a0 h hw k A F K
  · rw [q]; exact lt_7 p l e s m _ below meth c Z a0 h hw k A F K
  · rw [q]; exact lt_8 p l e s m _ below meth c Z a0 h hw k A F K
  · rw [q]; exact lt_9 p l e s m _ below meth c Z a0 h hw k A F K
  · rw [q]; exact lt_10 p l e s m _ below meth c Z a0 h hw k A F K
  · rw [q]; exact lt_11 p l e s m _ below meth c Z a0 h hw k A F K
  · rw [q]; exact lt_12 p l e s m _ below meth c Z a0 h hw k A F K
  · rw [q]; exact lt_13 p l e s m _ below meth c Z a0 h hw k A F K
  · rw [q]; exact lt_14 p l e s m _ below meth c Z a0 h hw k A F K
  · rw [q]; exact lt_15 p l e s m _ below meth c Z a0 h hw k A F K
  · rw [q]; exact lt_16 p l e s m _ below meth c Z a0 h hw k A F K
set_option maxRecDepth 65536 in
set_option maxHeartbeats 40000000 in
theorem comes_1 {Post : Tables → Env → Array Value → State → Outcome → State → Prop} (hpost : ∀ tb e args s v u, (limb_1_1.after args s (.returned v) u = true ∧ limb_1_2.after args s (.returned v) u = true ∧ True) → FrameEnd s (.returned v) u (Jvm.fieldLocs frame_1_writes args s ++ Jvm.arrayLocs frame_1_arrays args s ++ Jvm.staticLocs frame_1_statics s) 0 0 → Post tb e args s (.returned v) u) :
    ArmFor flags0 classFile x code maxLocals ret World_1 tables_1 room_1 Calls_1 rest_1 Pre_1 Post := by
  intro l hfl _ _ p e ha hc hk s m args below hf hA hF happ hP
  obtain ⟨hcalls, hrest, hpre⟩ := hP
  obtain ⟨-, -, -, hnamed, -, -, -, hat⟩ := (Spec.applies_iff hf).mp happ
  obtain ⟨hg, hn⟩ := and_e (Cond.before_iff.mp (show (Jvm.Cond.and given_1 narrow_1).before args s = true from hpre))
  obtain ⟨h1, h2⟩ := and_e hg
  obtain ⟨w0, rfl⟩ : ∃ w0 : Value, args = #[w0] := by
    have hs : args.size = 1 := by simpa [Cond.value, given_1] using h1
    obtain ⟨L⟩ := args
    match L, hs with
    | [w0], _ => exact ⟨w0, rfl⟩
  have hw := fun d (hd : d ∈ tables_1) => atoms_spec (ws := Jvm.Cond.code x code maxLocals ret :: tables_1) hat d (List.mem_cons_of_mem _ hd)
  obtain ⟨i0, e0⟩ := is_v h2
  obtain rfl : w0 = (.int i0) := Option.some.inj e0
  obtain ⟨c0, hn⟩ := and_e hn
  obtain ⟨c1, hn⟩ := and_e hn
  obtain ⟨c2, hn⟩ := and_e hn
  obtain ⟨c3, hn⟩ := and_e hn
  obtain ⟨c4, hn⟩ := and_e hn
  obtain ⟨c5, hn⟩ := and_e hn
  obtain ⟨c6, hn⟩ := and_e hn
  obtain ⟨c7, hn⟩ := and_e hn
  obtain ⟨c8, hn⟩ := and_e hn
  obtain ⟨c9, hn⟩ := and_e hn
  obtain ⟨c10, hn⟩ := and_e hn
  obtain ⟨c11, hn⟩ := and_e hn
  obtain ⟨c12, hn⟩ := and_e hn
  obtain ⟨c13, hn⟩ := and_e hn
  obtain ⟨c14, hn⟩ := and_e hn
  obtain ⟨c15, hn⟩ := and_e hn
  obtain ⟨c16, hn⟩ := and_e hn
  obtain ⟨c17, hn⟩ := and_e hn
  obtain ⟨c18, hn⟩ := and_e hn
  obtain ⟨c19, hn⟩ := and_e hn
  obtain ⟨c20, hn⟩ := and_e hn
  obtain ⟨c21, hn⟩ := and_e hn
  obtain ⟨c22, hn⟩ := and_e hn
  obtain ⟨c23, hn⟩ := and_e hn
  obtain ⟨c24, hn⟩ := and_e hn
  obtain ⟨c25, hn⟩ := and_e hn
  obtain ⟨c26, hn⟩ := and_e hn
  obtain ⟨c27, hn⟩ := and_e hn
  obtain ⟨c28, hn⟩ := and_e hn
  obtain ⟨c29, hn⟩ := and_e hn
  obtain ⟨c30, hn⟩ := and_e hn
  obtain ⟨c31, hn⟩ := and_e hn
  obtain ⟨c32, hn⟩ := and_e hn
  obtain ⟨c33, hn⟩ := and_e hn
  obtain ⟨c34, hn⟩ := and_e hn
  obtain ⟨c35, hn⟩ := and_e hn
  obtain ⟨c36, c37⟩ := and_e hn
  obtain ⟨x0, v0⟩ := exa_v c0
  have X0 := Exa.start v0 c0
  have S0 := Sta.start v0 (Or.inr ⟨(hw _ (List.mem_of_getElem? (i := 6) rfl)), (hw _ (List.mem_of_getElem? (i := 7) rfl))⟩)
  obtain ⟨x1, v1⟩ := exa_v c16
  have X1 := Exa.start v1 c16
  have S1 := Sta.start v1 (Or.inr ⟨(hw _ (List.mem_of_getElem? (i := 6) rfl)), (hw _ (List.mem_of_getElem? (i := 55) rfl))⟩)
  obtain ⟨x2, v2⟩ := exa_v c7
  have X2 := Exa.start v2 c7
  have S2 := Sta.start v2 (Or.inr ⟨(hw _ (List.mem_of_getElem? (i := 6) rfl)), (hw _ (List.mem_of_getElem? (i := 29) rfl))⟩)
  obtain ⟨x3, v3⟩ := exa_v c6
  have X3 := Exa.start v3 c6
  have S3 := Sta.start v3 (Or.inr ⟨(hw _ (List.mem_of_getElem? (i := 6) rfl)), (hw _ (List.mem_of_getElem? (i := 26) rfl))⟩)
  obtain ⟨x4, v4⟩ := exa_v c10
  have X4 := Exa.start v4 c10
  have S4 := Sta.start v4 (Or.inr ⟨(hw _ (List.mem_of_getElem? (i := 6) rfl)), (hw _ (List.mem_of_getElem? (i := 37) rfl))⟩)
  obtain ⟨x5, v5⟩ := exa_v c22
  have X5 := Exa.start v5 c22
  have S5 := Sta.start v5 (Or.inr ⟨(hw _ (List.mem_of_getElem? (i := 6) rfl)), (hw _ (List.mem_of_getElem? (i := 74) rfl))⟩)
  obtain ⟨x6, v6⟩ := exa_v c12
  have X6 := Exa.start v6 c12
  have S6 := Sta.start v6 (Or.inr ⟨(hw _ (List.mem_of_getElem? (i := 6) rfl)), (hw _ (List.mem_of_getElem? (i := 42) rfl))⟩)
  obtain ⟨x7, v7⟩ := exa_v c13
  have X7 := Exa.start v7 c13
  have S7 := Sta.start v7 (Or.inr ⟨(hw _ (List.mem_of_getElem? (i := 6) rfl)), (hw _ (List.mem_of_getElem? (i := 45) rfl))⟩)
  obtain ⟨x8, v8⟩ := exa_v c9
  have X8 := Exa.start v8 c9
  have S8 := Sta.start v8 (Or.inr ⟨(hw _ (List.mem_of_getElem? (i := 6) rfl)), (hw _ (List.mem_of_getElem? (i := 34) rfl))⟩)
  obtain ⟨x9, v9⟩ := exa_v c11
  have X9 := Exa.start v9 c11
  have S9 := Sta.start v9 (Or.inr ⟨(hw _ (List.mem_of_getElem? (i := 6) rfl)), (hw _ (List.mem_of_getElem? (i := 39) rfl))⟩)
  obtain ⟨x10, v10⟩ := exa_v c19
  have X10 := Exa.start v10 c19
  have S10 := Sta.start v10 (Or.inr ⟨(hw _ (List.mem_of_getElem? (i := 6) rfl)), (hw _ (List.mem_of_getElem? (i := 65) rfl))⟩)
  obtain ⟨x11, v11⟩ := exa_v c15
  have X11 := Exa.start v11 c15
  have S11 := Sta.start v11 (Or.inr ⟨(hw _ (List.mem_of_getElem? (i := 6) rfl)), (hw _ (List.mem_of_getElem? (i := 52) rfl))⟩)
  obtain ⟨x12, v12⟩ := exa_v c24
  have X12 := Exa.start v12 c24
  have S12 := Sta.start v12 (Or.inr ⟨(hw _ (List.mem_of_getElem? (i := 6) rfl)), (hw _ (List.mem_of_getElem? (i := 80) rfl))⟩)
  obtain ⟨x13, v13⟩ := exa_v c17
  have X13 := Exa.start v13 c17
  have S13 := Sta.start v13 (Or.inr ⟨(hw _ (List.mem_of_getElem? (i := 6) rfl)), (hw _ (List.mem_of_getElem? (i := 58) rfl))⟩)
  obtain ⟨x14, v14⟩ := exa_v c23
  have X14 := Exa.start v14 c23
  have S14 := Sta.start v14 (Or.inr ⟨(hw _ (List.mem_of_getElem? (i := 6) rfl)), (hw _ (List.mem_of_getElem? (i := 77) rfl))⟩)
  obtain ⟨x15, v15⟩ := exa_v c21
  have X15 := Exa.start v15 c21
  have S15 := Sta.start v15 (Or.inr ⟨(hw _ (List.mem_of_getElem? (i := 6) rfl)), (hw _ (List.mem_of_getElem? (i := 71) rfl))⟩)
  obtain ⟨x16, v16⟩ := exa_v c20
  have X16 := Exa.start v16 c20
  have S16 := Sta.start v16 (Or.inr ⟨(hw _ (List.mem_of_getElem? (i := 6) rfl)), (hw _ (List.mem_of_getElem? (i := 68) rfl))⟩)
  obtain ⟨x17, v17⟩ := exa_v c1
  have X17 := Exa.start v17 c1
  have S17 := Sta.start v17 (Or.inr ⟨(hw _ (List.mem_of_getElem? (i := 21) rfl)), (hw _ (List.mem_of_getElem? (i := 22) rfl))⟩)
  obtain ⟨x18, v18⟩ := exa_v c3
  have X18 := Exa.start v18 c3
  have S18 := Sta.start v18 (Or.inr ⟨(hw _ (List.mem_of_getElem? (i := 21) rfl)), (hw _ (List.mem_of_getElem? (i := 24) rfl))⟩)
  have G2 := Fld.start ((fld_at v0).symm.trans (own_eqr v17 c2))
  have G4 := Fld.start ((fld_at v17).symm.trans (own_eqi c4))
  have G5 := Fld.start ((fld_at v18).symm.trans (own_eqi c5))
  have G8 := Fld.start ((fld_at v3).symm.trans (own_eqr v17 c8))
  have G14 := Fld.start ((fld_at v2).symm.trans (own_eqr v17 c14))
  have G18 := Fld.start ((fld_at v4).symm.trans (own_eqr v17 c18))
  have G25 := Fld.start ((fld_at v8).symm.trans (own_eqr v17 c25))
  have G26 := Fld.start ((fld_at v9).symm.trans (own_eqr v17 c26))
  have G27 := Fld.start ((fld_at v6).symm.trans (own_eqr v17 c27))
  have G28 := Fld.start ((fld_at v7).symm.trans (own_eqr v17 c28))
  have G29 := Fld.start ((fld_at v11).symm.trans (own_eqr v18 c29))
  have G30 := Fld.start ((fld_at v1).symm.trans (own_eqr v17 c30))
  have G31 := Fld.start ((fld_at v13).symm.trans (own_eqr v18 c31))
  have G32 := Fld.start ((fld_at v10).symm.trans (own_eqr v18 c32))
  have G33 := Fld.start ((fld_at v16).symm.trans (own_eqr v18 c33))
  have G34 := Fld.start ((fld_at v15).symm.trans (own_eqr v18 c34))
  have G35 := Fld.start ((fld_at v5).symm.trans (own_eqr v17 c35))
  have G36 := Fld.start ((fld_at v14).symm.trans (own_eqr v18 c36))
  have G37 := Fld.start ((fld_at v12).symm.trans (own_eqr v18 c37))
  have F : own_F s s.heap (fun j => [x0, x1, x2, x3, x4, x5, x6, x7, x8, x9, x10, x11, x12, x13, x14, x15, x16, x17, x18].getD j 0) := ⟨⟨S0, X0, S1, X1, S2, X2, S3, X3, S4, X4, S5, X5, S6, X6, S7, X7, S8, X8, S9, X9, S10, X10, S11, X11⟩, ⟨S12, X12, S13, X13, S14, X14, S15, X15, S16, X16, S17, X17, S18, X18, G2, G4, G5, G8, G14, G18, G25, G26, G27, G28⟩, ⟨G29, G30, G31, G32, G33, G34, G35, G36, G37⟩⟩
  obtain ⟨n, o, h1, h2, h3, _, L, rfl, ⟨rfl, rfl, hh⟩, hq⟩ := rm0 l s _ s.heap hw i0 _ F p e ha hc hk s m _ below hf ((Spec.applies_iff_loose hf).mp happ).1 ⟨rfl, State.Warmed39.refl s, rfl⟩ trivial
  refine ⟨n, _, h1, h2, h3, hpost _ _ _ _ _ _ ⟨Cond.after_iff.mpr rfl, Cond.after_iff.mpr (eq_i res_at (Term.int_eval (1)) rfl), trivial⟩ ⟨hq.1, hq.2.1, (hq.2.2.sift fun y hy => nomatch hy).mono (by decide) (by decide)⟩⟩
theorem main_1_1 : Claimed_1_1 := comes_1 fun _ _ _ _ _ _ h hF => ⟨h.1, hF⟩
theorem main_1_2 : Claimed_1_2 := comes_1 fun _ _ _ _ _ _ h hF => ⟨h.2.1, hF⟩
end Jvm.Pilot.@@N@@
namespace Jvm.Pilot.@@N@@
open Jvm Jvm.ClassFile Sem Op Lib Jvm.Free Jvm.Stand Jvm.Pilot.@@N@@.Jvm.D
/-! MADE BY PROGRAM (witnessworld.py) out of the Statement's table words and the real class files: 30 classes; the members and pool entries that the words name. The judged class is class 1, her method 1. -/
namespace start1
open Jvm.ClassFile
def u (s : String) : CpInfo := .utf8 (stringToUtf16 s)
/-- a pool by its gaps: so many unusable entries, then the entry; so many at the end -/
def gap : Nat → List CpInfo → List CpInfo
  | 0, r => r
  | n + 1, r => .unusable :: gap n r
def poolList (es : List (Nat × CpInfo)) (last : Nat) : List CpInfo := es.foldr (fun e r => gap e.1 (e.2 :: r)) (gap last [])
def pool (es : List (Nat × CpInfo)) (last : Nat) : Array CpInfo := ⟨poolList es last⟩
def fileOf (pool : Array CpInfo) (this : Nat) (attrs : Array Attribute := #[]) (ms : Array MethodInfo := #[]) (fl : Nat := 33) (sup : Nat := 0) (ifs : Array Nat := #[]) (fds : Array FieldInfo := #[]) : ClassFile where
  minorVersion := 0
  majorVersion := 65
  constantPool := pool
  accessFlags := fl
  thisClass := this
  superClass := sup
  interfaces := ifs
  fields := fds
  methods := ms
  attributes := attrs
def plain (name : String) (sup : Option ClassId) : Class where
  name := name
  kind := .ordinary
  loader := none
  accessFlags := 33
  super := sup
  interfaces := #[]
  cf := none
  fields := #[]
  methods := #[]
  instanceTypes := #[]
  staticTypes := #[]
  resolved := #[]
  callSites := []
  init := .initialized
  statics := none
  mirror := none

def pool0 : Array CpInfo := pool [(5, u "<init>"), (0, u "()V"), (1, .class_ 10), (1, u "java/lang/Object")] 113

def k0m0 : Method := { name := "<init>", desc := "()V", sig := { parameters := [], returnType := none }, accessFlags := 1, code := none }
/-- java/lang/Object -/
def k0 : Class := { plain "java/lang/Object" none with
  accessFlags := 33
  interfaces := #[]
  cf := some (fileOf pool0 8 #[] #[{ accessFlags := 1, nameIndex := 5, descriptorIndex := 6, attributes := #[] }] 33 0 #[] #[])
  fields := #[]
  methods := #[k0m0]
  instanceTypes := #[]
  staticTypes := #[]
  resolved := Array.replicate 124 none
  statics := none }

def pool1 : Array CpInfo := pool [(2, .class_ 4), (1, u "java/lang/Object"), (0, u "<init>"), (0, u "()V"), (0, .integer 2147483647), (0, .methodref 9 10), (0, .class_ 11), (0, .nameAndType 12 13), (0, u "com/example/locant/locant/AxisIsDisjointPinLaw"), (0, u "pick"), (0, u "(I)Lcom/example/locant/locant/Axis;"), (0, .methodref 15 16), (0, .class_ 17), (0, .nameAndType 18 19), (0, u "com/example/locant/locant/Axis"), (0, u "isDisjoint"), (0, u "()Z"), (0, .methodref 15 21), (0, .nameAndType 22 19), (0, u "isReverse"), (0, .fieldref 15 24), (0, .nameAndType 25 26), (0, u "CHILD"), (0, u "Lcom/example/locant/locant/Axis;"), (0, .fieldref 15 28), (0, .nameAndType 29 26), (0, u "DESCENDANT"), (0, .fieldref 15 31), (0, .nameAndType 32 26), (0, u "ATTRIBUTE"), (0, .fieldref 15 34), (0, .nameAndType 35 26), (0, u "NAMESPACE"), (0, .fieldref 15 37), (0, .nameAndType 38 26), (0, u "SELF"), (0, .fieldref 15 40), (0, .nameAndType 41 26), (0, u "DESCENDANT_OR_SELF"), (0, .fieldref 15 43), (0, .nameAndType 44 26), (0, u "FOLLOWING_SIBLING"), (0, .fieldref 15 46), (0, .nameAndType 47 26), (0, u "FOLLOWING_SIBLING_OR_SELF"), (0, .fieldref 15 49), (0, .nameAndType 50 26), (0, u "FOLLOWING"), (0, .fieldref 15 52), (0, .nameAndType 53 26), (0, u "FOLLOWING_OR_SELF"), (0, .fieldref 15 55), (0, .nameAndType 56 26), (0, u "PARENT"), (0, .fieldref 15 58), (0, .nameAndType 59 26), (0, u "ANCESTOR"), (0, .fieldref 15 61), (0, .nameAndType 62 26), (0, u "ANCESTOR_OR_SELF"), (0, .fieldref 15 64), (0, .nameAndType 65 26), (0, u "PRECEDING_SIBLING"), (0, .fieldref 15 67), (0, .nameAndType 68 26), (0, u "PRECEDING_SIBLING_OR_SELF"), (0, .fieldref 15 70), (0, .nameAndType 71 26), (0, u "PRECEDING"), (0, .fieldref 15 73), (0, .nameAndType 74 26), (0, u "PRECEDING_OR_SELF"), (2, u "law"), (0, u "(I)Z")] 3

def k1m0 : Method := { name := "<init>", desc := "()V", sig := { parameters := [], returnType := none }, accessFlags := 2, code := none }
def k1c1 : Code := { maxStack := 2, maxLocals := 5, code := code, exceptionTable := #[], attributes := #[] }
def k1m1 : Method := { name := "law", desc := "(I)Z", sig := { parameters := [.int], returnType := some .boolean }, accessFlags := 9, code := some k1c1 }
def k1c2 : Code := { maxStack := 2, maxLocals := 1, code := method_3_code, exceptionTable := #[], attributes := #[] }
def k1m2 : Method := { name := "pick", desc := "(I)Lcom/example/locant/locant/Axis;", sig := { parameters := [.int], returnType := some (.object "com/example/locant/locant/Axis") }, accessFlags := 10, code := some k1c2 }
/-- com/example/locant/locant/AxisIsDisjointPinLaw -/
def k1 : Class := { plain "com/example/locant/locant/AxisIsDisjointPinLaw" (some 0) with
  accessFlags := 49
  interfaces := #[]
  cf := some (fileOf pool1 9 #[] #[{ accessFlags := 2, nameIndex := 5, descriptorIndex := 6, attributes := #[] }, { accessFlags := 9, nameIndex := 77, descriptorIndex := 78, attributes := #[] }, { accessFlags := 10, nameIndex := 12, descriptorIndex := 13, attributes := #[] }] 49 2 #[] #[])
  fields := #[]
  methods := #[k1m0, k1m1, k1m2]
  instanceTypes := #[]
  staticTypes := #[]
  resolved := Array.replicate 82 none
  statics := none }

def pool2 : Array CpInfo := pool [(1, .class_ 2), (0, u "java/lang/constant/Constable"), (0, .class_ 4), (0, u "java/lang/Object")] 6

/-- java/lang/constant/Constable -/
def k2 : Class := { plain "java/lang/constant/Constable" (some 0) with
  accessFlags := 1537
  interfaces := #[]
  cf := some (fileOf pool2 1 #[] #[] 1537 3 #[] #[])
  fields := #[]
  methods := #[]
  instanceTypes := #[]
  staticTypes := #[]
  resolved := Array.replicate 11 none
  statics := none }

def pool3 : Array CpInfo := pool [(1, .class_ 2), (0, u "java/lang/Comparable"), (0, .class_ 4), (0, u "java/lang/Object")] 7

/-- java/lang/Comparable -/
def k3 : Class := { plain "java/lang/Comparable" (some 0) with
  accessFlags := 1537
  interfaces := #[]
  cf := some (fileOf pool3 1 #[] #[] 1537 3 #[] #[])
  fields := #[]
  methods := #[]
  instanceTypes := #[]
  staticTypes := #[]
  resolved := Array.replicate 12 none
  statics := none }

def pool4 : Array CpInfo := pool [(1, .class_ 2), (0, u "java/io/Serializable"), (0, .class_ 4), (0, u "java/lang/Object")] 2

/-- java/io/Serializable -/
def k4 : Class := { plain "java/io/Serializable" (some 0) with
  accessFlags := 1537
  interfaces := #[]
  cf := some (fileOf pool4 1 #[] #[] 1537 3 #[] #[])
  fields := #[]
  methods := #[]
  instanceTypes := #[]
  staticTypes := #[]
  resolved := Array.replicate 7 none
  statics := none }

def pool5 : Array CpInfo := pool [(2, .class_ 4), (1, u "java/lang/Enum"), (0, u "name"), (0, u "Ljava/lang/String;"), (2, u "ordinal"), (0, u "I"), (1, .class_ 14), (1, u "java/lang/Object"), (4, u "hash"), (86, .class_ 108), (1, u "java/lang/Enum$EnumDesc"), (2, .class_ 112), (0, u "java/lang/constant/Constable"), (0, .class_ 114), (0, u "java/lang/Comparable"), (0, .class_ 116), (0, u "java/io/Serializable")] 87

/-- java/lang/Enum -/
def k5 : Class := { plain "java/lang/Enum" (some 0) with
  accessFlags := 1057
  interfaces := #[2, 3, 4]
  cf := some (fileOf pool5 2 #[.nestMembers #[106]] #[] 1057 12 #[111, 113, 115] #[{ accessFlags := 18, nameIndex := 5, descriptorIndex := 6, attributes := #[] }, { accessFlags := 18, nameIndex := 9, descriptorIndex := 10, attributes := #[] }, { accessFlags := 2, nameIndex := 19, descriptorIndex := 10, attributes := #[] }])
  fields := #[{ name := "name", type := (.object "java/lang/String"), accessFlags := 18, slot := 0, constantValue := 0 }, { name := "ordinal", type := .int, accessFlags := 18, slot := 1, constantValue := 0 }, { name := "hash", type := .int, accessFlags := 2, slot := 2, constantValue := 0 }]
  methods := #[]
  instanceTypes := #[(.object "java/lang/String"), .int, .int]
  staticTypes := #[]
  resolved := Array.replicate 204 none
  statics := none }

def pool6 : Array CpInfo := pool [(1, .class_ 2), (0, u "com/example/locant/locant/Axis"), (0, .fieldref 1 4), (0, .nameAndType 5 6), (0, u "CHILD"), (0, u "Lcom/example/locant/locant/Axis;"), (2, u "DESCENDANT"), (0, .fieldref 1 11), (0, .nameAndType 12 6), (0, u "ATTRIBUTE"), (0, .fieldref 1 14), (0, .nameAndType 15 6), (0, u "NAMESPACE"), (0, .fieldref 1 17), (0, .nameAndType 18 6), (0, u "SELF"), (2, u "DESCENDANT_OR_SELF"), (2, u "FOLLOWING_SIBLING"), (2, u "FOLLOWING_SIBLING_OR_SELF"), (2, u "FOLLOWING"), (2, u "FOLLOWING_OR_SELF"), (2, u "PARENT"), (2, u "ANCESTOR"), (2, u "ANCESTOR_OR_SELF"), (2, u "PRECEDING_SIBLING"), (2, u "PRECEDING_SIBLING_OR_SELF"), (2, u "PRECEDING"), (2, u "PRECEDING_OR_SELF"), (2, u "$VALUES"), (0, u "[Lcom/example/locant/locant/Axis;"), (6, .class_ 67), (1, u "java/lang/Enum"), (7, u "Lcom/example/locant/locant/LanguageLevel;"), (7, .fieldref 1 84), (0, .nameAndType 85 86), (0, u "mDirection"), (0, u "Lcom/example/locant/locant/Axis$Direction;"), (2, u "mPrincipalKind"), (0, u "Lcom/example/locant/locant/NodeKind;"), (2, u "mSince"), (2, u "BY_NAME"), (0, u "Ljava/util/Map;"), (10, .fieldref 109 110), (0, .class_ 111), (0, .nameAndType 112 86), (0, u "com/example/locant/locant/Axis$Direction"), (0, u "REVERSE"), (24, .class_ 138), (0, u "com/example/locant/locant/Axis$1"), (12, .class_ 152), (0, u "com/example/locant/locant/Axis$2"), (2, .class_ 156), (0, u "com/example/locant/locant/Axis$3"), (4, .class_ 162), (0, u "com/example/locant/locant/Axis$4"), (4, .class_ 168), (0, u "com/example/locant/locant/Axis$5"), (2, .class_ 172), (0, u "com/example/locant/locant/Axis$6"), (2, .class_ 176), (0, u "com/example/locant/locant/Axis$7"), (2, .class_ 180), (0, u "com/example/locant/locant/Axis$8"), (5, .class_ 187), (0, u "com/example/locant/locant/Axis$9"), (2, .class_ 191), (0, u "com/example/locant/locant/Axis$10"), (2, .class_ 195), (0, u "com/example/locant/locant/Axis$11"), (2, .class_ 199), (0, u "com/example/locant/locant/Axis$12"), (2, .class_ 203), (0, u "com/example/locant/locant/Axis$13"), (2, .class_ 207), (0, u "com/example/locant/locant/Axis$14"), (2, .class_ 211), (0, u "com/example/locant/locant/Axis$15"), (2, .class_ 215), (0, u "com/example/locant/locant/Axis$16"), (2, .class_ 219), (0, u "com/example/locant/locant/Axis$17"), (47, u "isDisjoint"), (0, u "()Z"), (0, u "isReverse")] 14

def k6c0 : Code := { maxStack := 2, maxLocals := 1, code := prog_14_method_6_code, exceptionTable := #[], attributes := #[] }
def k6m0 : Method := { name := "isDisjoint", desc := "()Z", sig := { parameters := [], returnType := some .boolean }, accessFlags := 0, code := some k6c0 }
def k6c1 : Code := { maxStack := 2, maxLocals := 1, code := prog_14_method_7_code, exceptionTable := #[], attributes := #[] }
def k6m1 : Method := { name := "isReverse", desc := "()Z", sig := { parameters := [], returnType := some .boolean }, accessFlags := 0, code := some k6c1 }
/-- com/example/locant/locant/Axis -/
def k6 : Class := { plain "com/example/locant/locant/Axis" (some 5) with
  accessFlags := 17440
  interfaces := #[]
  cf := some (fileOf pool6 1 #[.nestMembers #[109, 218, 214, 210, 206, 202, 198, 194, 190, 186, 179, 175, 171, 167, 161, 155, 151, 137]] #[{ accessFlags := 0, nameIndex := 267, descriptorIndex := 268, attributes := #[] }, { accessFlags := 0, nameIndex := 269, descriptorIndex := 268, attributes := #[] }] 17440 65 #[] #[{ accessFlags := 16409, nameIndex := 5, descriptorIndex := 6, attributes := #[] }, { accessFlags := 16409, nameIndex := 9, descriptorIndex := 6, attributes := #[] }, { accessFlags := 16409, nameIndex := 12, descriptorIndex := 6, attributes := #[] }, { accessFlags := 16409, nameIndex := 15, descriptorIndex := 6, attributes := #[] }, { accessFlags := 16409, nameIndex := 18, descriptorIndex := 6, attributes := #[] }, { accessFlags := 16409, nameIndex := 21, descriptorIndex := 6, attributes := #[] }, { accessFlags := 16409, nameIndex := 24, descriptorIndex := 6, attributes := #[] }, { accessFlags := 16409, nameIndex := 27, descriptorIndex := 6, attributes := #[] }, { accessFlags := 16409, nameIndex := 30, descriptorIndex := 6, attributes := #[] }, { accessFlags := 16409, nameIndex := 33, descriptorIndex := 6, attributes := #[] }, { accessFlags := 16409, nameIndex := 36, descriptorIndex := 6, attributes := #[] }, { accessFlags := 16409, nameIndex := 39, descriptorIndex := 6, attributes := #[] }, { accessFlags := 16409, nameIndex := 42, descriptorIndex := 6, attributes := #[] }, { accessFlags := 16409, nameIndex := 45, descriptorIndex := 6, attributes := #[] }, { accessFlags := 16409, nameIndex := 48, descriptorIndex := 6, attributes := #[] }, { accessFlags := 16409, nameIndex := 51, descriptorIndex := 6, attributes := #[] }, { accessFlags := 16409, nameIndex := 54, descriptorIndex := 6, attributes := #[] }, { accessFlags := 26, nameIndex := 96, descriptorIndex := 97, attributes := #[] }, { accessFlags := 18, nameIndex := 85, descriptorIndex := 86, attributes := #[] }, { accessFlags := 18, nameIndex := 89, descriptorIndex := 90, attributes := #[] }, { accessFlags := 18, nameIndex := 93, descriptorIndex := 75, attributes := #[] }, { accessFlags := 4122, nameIndex := 57, descriptorIndex := 58, attributes := #[] }])
  fields := #[{ name := "CHILD", type := (.object "com/example/locant/locant/Axis"), accessFlags := 16409, slot := 0, constantValue := 0 }, { name := "DESCENDANT", type := (.object "com/example/locant/locant/Axis"), accessFlags := 16409, slot := 1, constantValue := 0 }, { name := "ATTRIBUTE", type := (.object "com/example/locant/locant/Axis"), accessFlags := 16409, slot := 2, constantValue := 0 }, { name := "NAMESPACE", type := (.object "com/example/locant/locant/Axis"), accessFlags := 16409, slot := 3, constantValue := 0 }, { name := "SELF", type := (.object "com/example/locant/locant/Axis"), accessFlags := 16409, slot := 4, constantValue := 0 }, { name := "DESCENDANT_OR_SELF", type := (.object "com/example/locant/locant/Axis"), accessFlags := 16409, slot := 5, constantValue := 0 }, { name := "FOLLOWING_SIBLING", type := (.object "com/example/locant/locant/Axis"), accessFlags := 16409, slot := 6, constantValue := 0 }, { name := "FOLLOWING_SIBLING_OR_SELF", type := (.object "com/example/locant/locant/Axis"), accessFlags := 16409, slot := 7, constantValue := 0 }, { name := "FOLLOWING", type := (.object "com/example/locant/locant/Axis"), accessFlags := 16409, slot := 8, constantValue := 0 }, { name := "FOLLOWING_OR_SELF", type := (.object "com/example/locant/locant/Axis"), accessFlags := 16409, slot := 9, constantValue := 0 }, { name := "PARENT", type := (.object "com/example/locant/locant/Axis"), accessFlags := 16409, slot := 10, constantValue := 0 }, { name := "ANCESTOR", type := (.object "com/example/locant/locant/Axis"), accessFlags := 16409, slot := 11, constantValue := 0 }, { name := "ANCESTOR_OR_SELF", type := (.object "com/example/locant/locant/Axis"), accessFlags := 16409, slot := 12, constantValue := 0 }, { name := "PRECEDING_SIBLING", type := (.object "com/example/locant/locant/Axis"), accessFlags := 16409, slot := 13, constantValue := 0 }, { name := "PRECEDING_SIBLING_OR_SELF", type := (.object "com/example/locant/locant/Axis"), accessFlags := 16409, slot := 14, constantValue := 0 }, { name := "PRECEDING", type := (.object "com/example/locant/locant/Axis"), accessFlags := 16409, slot := 15, constantValue := 0 }, { name := "PRECEDING_OR_SELF", type := (.object "com/example/locant/locant/Axis"), accessFlags := 16409, slot := 16, constantValue := 0 }, { name := "BY_NAME", type := (.object "java/util/Map"), accessFlags := 26, slot := 17, constantValue := 0 }, { name := "mDirection", type := (.object "com/example/locant/locant/Axis$Direction"), accessFlags := 18, slot := 3, constantValue := 0 }, { name := "mPrincipalKind", type := (.object "com/example/locant/locant/NodeKind"), accessFlags := 18, slot := 4, constantValue := 0 }, { name := "mSince", type := (.object "com/example/locant/locant/LanguageLevel"), accessFlags := 18, slot := 5, constantValue := 0 }, { name := "$VALUES", type := (.array (.object "com/example/locant/locant/Axis")), accessFlags := 4122, slot := 18, constantValue := 0 }]
  methods := #[k6m0, k6m1]
  instanceTypes := #[(.object "java/lang/String"), .int, .int, (.object "com/example/locant/locant/Axis$Direction"), (.object "com/example/locant/locant/NodeKind"), (.object "com/example/locant/locant/LanguageLevel")]
  staticTypes := #[(.object "com/example/locant/locant/Axis"), (.object "com/example/locant/locant/Axis"), (.object "com/example/locant/locant/Axis"), (.object "com/example/locant/locant/Axis"), (.object "com/example/locant/locant/Axis"), (.object "com/example/locant/locant/Axis"), (.object "com/example/locant/locant/Axis"), (.object "com/example/locant/locant/Axis"), (.object "com/example/locant/locant/Axis"), (.object "com/example/locant/locant/Axis"), (.object "com/example/locant/locant/Axis"), (.object "com/example/locant/locant/Axis"), (.object "com/example/locant/locant/Axis"), (.object "com/example/locant/locant/Axis"), (.object "com/example/locant/locant/Axis"), (.object "com/example/locant/locant/Axis"), (.object "com/example/locant/locant/Axis"), (.object "java/util/Map"), (.array (.object "com/example/locant/locant/Axis"))]
  resolved := Array.replicate 284 none
  statics := some 0 }

def pool7 : Array CpInfo := pool [(2, .class_ 4), (1, u "com/example/locant/locant/Axis"), (11, .class_ 17), (0, u "com/example/locant/locant/Axis$1")] 17

/-- com/example/locant/locant/Axis$1 -/
def k7 : Class := { plain "com/example/locant/locant/Axis$1" (some 6) with
  accessFlags := 16432
  interfaces := #[]
  cf := some (fileOf pool7 16 #[.nestHost 2] #[] 16432 2 #[] #[])
  fields := #[]
  methods := #[]
  instanceTypes := #[(.object "java/lang/String"), .int, .int, (.object "com/example/locant/locant/Axis$Direction"), (.object "com/example/locant/locant/NodeKind"), (.object "com/example/locant/locant/LanguageLevel")]
  staticTypes := #[]
  resolved := Array.replicate 35 none
  statics := none }

def pool8 : Array CpInfo := pool [(1, .class_ 2), (0, u "com/example/locant/locant/Axis$Direction"), (2, u "FORWARD"), (0, u "Lcom/example/locant/locant/Axis$Direction;"), (2, u "REVERSE"), (2, u "$VALUES"), (0, u "[Lcom/example/locant/locant/Axis$Direction;"), (6, .class_ 22), (1, u "java/lang/Enum"), (25, .class_ 49), (0, u "com/example/locant/locant/Axis")] 2

/-- com/example/locant/locant/Axis$Direction -/
def k8 : Class := { plain "com/example/locant/locant/Axis$Direction" (some 5) with
  accessFlags := 16432
  interfaces := #[]
  cf := some (fileOf pool8 1 #[.nestHost 48] #[] 16432 20 #[] #[{ accessFlags := 16409, nameIndex := 5, descriptorIndex := 6, attributes := #[] }, { accessFlags := 16409, nameIndex := 9, descriptorIndex := 6, attributes := #[] }, { accessFlags := 4122, nameIndex := 12, descriptorIndex := 13, attributes := #[] }])
  fields := #[{ name := "FORWARD", type := (.object "com/example/locant/locant/Axis$Direction"), accessFlags := 16409, slot := 0, constantValue := 0 }, { name := "REVERSE", type := (.object "com/example/locant/locant/Axis$Direction"), accessFlags := 16409, slot := 1, constantValue := 0 }, { name := "$VALUES", type := (.array (.object "com/example/locant/locant/Axis$Direction")), accessFlags := 4122, slot := 2, constantValue := 0 }]
  methods := #[]
  instanceTypes := #[(.object "java/lang/String"), .int, .int]
  staticTypes := #[(.object "com/example/locant/locant/Axis$Direction"), (.object "com/example/locant/locant/Axis$Direction"), (.array (.object "com/example/locant/locant/Axis$Direction"))]
  resolved := Array.replicate 52 none
  statics := some 1 }

def pool9 : Array CpInfo := pool [(2, .class_ 4), (1, u "com/example/locant/locant/Axis"), (27, .class_ 33), (0, u "com/example/locant/locant/Axis$4")] 15

/-- com/example/locant/locant/Axis$4 -/
def k9 : Class := { plain "com/example/locant/locant/Axis$4" (some 6) with
  accessFlags := 16432
  interfaces := #[]
  cf := some (fileOf pool9 32 #[.nestHost 2] #[] 16432 2 #[] #[])
  fields := #[]
  methods := #[]
  instanceTypes := #[(.object "java/lang/String"), .int, .int, (.object "com/example/locant/locant/Axis$Direction"), (.object "com/example/locant/locant/NodeKind"), (.object "com/example/locant/locant/LanguageLevel")]
  staticTypes := #[]
  resolved := Array.replicate 49 none
  statics := none }

def pool10 : Array CpInfo := pool [(2, .class_ 4), (1, u "com/example/locant/locant/Axis"), (42, .class_ 48), (0, u "com/example/locant/locant/Axis$9")] 35

/-- com/example/locant/locant/Axis$9 -/
def k10 : Class := { plain "com/example/locant/locant/Axis$9" (some 6) with
  accessFlags := 16432
  interfaces := #[]
  cf := some (fileOf pool10 47 #[.nestHost 2] #[] 16432 2 #[] #[])
  fields := #[]
  methods := #[]
  instanceTypes := #[(.object "java/lang/String"), .int, .int, (.object "com/example/locant/locant/Axis$Direction"), (.object "com/example/locant/locant/NodeKind"), (.object "com/example/locant/locant/LanguageLevel")]
  staticTypes := #[]
  resolved := Array.replicate 84 none
  statics := none }

def pool11 : Array CpInfo := pool [(2, .class_ 4), (1, u "com/example/locant/locant/Axis"), (3, .class_ 10), (1, u "com/example/locant/locant/Axis$10")] 21

/-- com/example/locant/locant/Axis$10 -/
def k11 : Class := { plain "com/example/locant/locant/Axis$10" (some 6) with
  accessFlags := 16432
  interfaces := #[]
  cf := some (fileOf pool11 8 #[.nestHost 2] #[] 16432 2 #[] #[])
  fields := #[]
  methods := #[]
  instanceTypes := #[(.object "java/lang/String"), .int, .int, (.object "com/example/locant/locant/Axis$Direction"), (.object "com/example/locant/locant/NodeKind"), (.object "com/example/locant/locant/LanguageLevel")]
  staticTypes := #[]
  resolved := Array.replicate 32 none
  statics := none }

def pool12 : Array CpInfo := pool [(2, .class_ 4), (1, u "com/example/locant/locant/Axis"), (8, .class_ 14), (0, u "com/example/locant/locant/Axis$7")] 13

/-- com/example/locant/locant/Axis$7 -/
def k12 : Class := { plain "com/example/locant/locant/Axis$7" (some 6) with
  accessFlags := 16432
  interfaces := #[]
  cf := some (fileOf pool12 13 #[.nestHost 2] #[] 16432 2 #[] #[])
  fields := #[]
  methods := #[]
  instanceTypes := #[(.object "java/lang/String"), .int, .int, (.object "com/example/locant/locant/Axis$Direction"), (.object "com/example/locant/locant/NodeKind"), (.object "com/example/locant/locant/LanguageLevel")]
  staticTypes := #[]
  resolved := Array.replicate 28 none
  statics := none }

def pool13 : Array CpInfo := pool [(2, .class_ 4), (1, u "com/example/locant/locant/Axis"), (3, .class_ 10), (1, u "com/example/locant/locant/Axis$8")] 21

/-- com/example/locant/locant/Axis$8 -/
def k13 : Class := { plain "com/example/locant/locant/Axis$8" (some 6) with
  accessFlags := 16432
  interfaces := #[]
  cf := some (fileOf pool13 8 #[.nestHost 2] #[] 16432 2 #[] #[])
  fields := #[]
  methods := #[]
  instanceTypes := #[(.object "java/lang/String"), .int, .int, (.object "com/example/locant/locant/Axis$Direction"), (.object "com/example/locant/locant/NodeKind"), (.object "com/example/locant/locant/LanguageLevel")]
  staticTypes := #[]
  resolved := Array.replicate 32 none
  statics := none }

def pool14 : Array CpInfo := pool [(2, .class_ 4), (1, u "com/example/locant/locant/Axis"), (11, .class_ 17), (0, u "com/example/locant/locant/Axis$3")] 17

/-- com/example/locant/locant/Axis$3 -/
def k14 : Class := { plain "com/example/locant/locant/Axis$3" (some 6) with
  accessFlags := 16432
  interfaces := #[]
  cf := some (fileOf pool14 16 #[.nestHost 2] #[] 16432 2 #[] #[])
  fields := #[]
  methods := #[]
  instanceTypes := #[(.object "java/lang/String"), .int, .int, (.object "com/example/locant/locant/Axis$Direction"), (.object "com/example/locant/locant/NodeKind"), (.object "com/example/locant/locant/LanguageLevel")]
  staticTypes := #[]
  resolved := Array.replicate 35 none
  statics := none }

def pool15 : Array CpInfo := pool [(2, .class_ 4), (1, u "com/example/locant/locant/Axis"), (12, .class_ 18), (0, u "com/example/locant/locant/Axis$12")] 13

/-- com/example/locant/locant/Axis$12 -/
def k15 : Class := { plain "com/example/locant/locant/Axis$12" (some 6) with
  accessFlags := 16432
  interfaces := #[]
  cf := some (fileOf pool15 17 #[.nestHost 2] #[] 16432 2 #[] #[])
  fields := #[]
  methods := #[]
  instanceTypes := #[(.object "java/lang/String"), .int, .int, (.object "com/example/locant/locant/Axis$Direction"), (.object "com/example/locant/locant/NodeKind"), (.object "com/example/locant/locant/LanguageLevel")]
  staticTypes := #[]
  resolved := Array.replicate 32 none
  statics := none }

def pool16 : Array CpInfo := pool [(2, .class_ 4), (1, u "com/example/locant/locant/Axis"), (11, .class_ 17), (0, u "com/example/locant/locant/Axis$2")] 17

/-- com/example/locant/locant/Axis$2 -/
def k16 : Class := { plain "com/example/locant/locant/Axis$2" (some 6) with
  accessFlags := 16432
  interfaces := #[]
  cf := some (fileOf pool16 16 #[.nestHost 2] #[] 16432 2 #[] #[])
  fields := #[]
  methods := #[]
  instanceTypes := #[(.object "java/lang/String"), .int, .int, (.object "com/example/locant/locant/Axis$Direction"), (.object "com/example/locant/locant/NodeKind"), (.object "com/example/locant/locant/LanguageLevel")]
  staticTypes := #[]
  resolved := Array.replicate 35 none
  statics := none }

def pool17 : Array CpInfo := pool [(2, .class_ 4), (1, u "com/example/locant/locant/Axis"), (8, .class_ 14), (0, u "com/example/locant/locant/Axis$14")] 13

/-- com/example/locant/locant/Axis$14 -/
def k17 : Class := { plain "com/example/locant/locant/Axis$14" (some 6) with
  accessFlags := 16432
  interfaces := #[]
  cf := some (fileOf pool17 13 #[.nestHost 2] #[] 16432 2 #[] #[])
  fields := #[]
  methods := #[]
  instanceTypes := #[(.object "java/lang/String"), .int, .int, (.object "com/example/locant/locant/Axis$Direction"), (.object "com/example/locant/locant/NodeKind"), (.object "com/example/locant/locant/LanguageLevel")]
  staticTypes := #[]
  resolved := Array.replicate 28 none
  statics := none }

def pool18 : Array CpInfo := pool [(2, .class_ 4), (1, u "com/example/locant/locant/Axis"), (6, .class_ 12), (0, u "com/example/locant/locant/Axis$5")] 12

/-- com/example/locant/locant/Axis$5 -/
def k18 : Class := { plain "com/example/locant/locant/Axis$5" (some 6) with
  accessFlags := 16432
  interfaces := #[]
  cf := some (fileOf pool18 11 #[.nestHost 2] #[] 16432 2 #[] #[])
  fields := #[]
  methods := #[]
  instanceTypes := #[(.object "java/lang/String"), .int, .int, (.object "com/example/locant/locant/Axis$Direction"), (.object "com/example/locant/locant/NodeKind"), (.object "com/example/locant/locant/LanguageLevel")]
  staticTypes := #[]
  resolved := Array.replicate 25 none
  statics := none }

def pool19 : Array CpInfo := pool [(2, .class_ 4), (1, u "com/example/locant/locant/Axis"), (12, .class_ 18), (0, u "com/example/locant/locant/Axis$11")] 13

/-- com/example/locant/locant/Axis$11 -/
def k19 : Class := { plain "com/example/locant/locant/Axis$11" (some 6) with
  accessFlags := 16432
  interfaces := #[]
  cf := some (fileOf pool19 17 #[.nestHost 2] #[] 16432 2 #[] #[])
  fields := #[]
  methods := #[]
  instanceTypes := #[(.object "java/lang/String"), .int, .int, (.object "com/example/locant/locant/Axis$Direction"), (.object "com/example/locant/locant/NodeKind"), (.object "com/example/locant/locant/LanguageLevel")]
  staticTypes := #[]
  resolved := Array.replicate 32 none
  statics := none }

def pool20 : Array CpInfo := pool [(2, .class_ 4), (1, u "com/example/locant/locant/Axis"), (3, .class_ 10), (1, u "com/example/locant/locant/Axis$17")] 21

/-- com/example/locant/locant/Axis$17 -/
def k20 : Class := { plain "com/example/locant/locant/Axis$17" (some 6) with
  accessFlags := 16432
  interfaces := #[]
  cf := some (fileOf pool20 8 #[.nestHost 2] #[] 16432 2 #[] #[])
  fields := #[]
  methods := #[]
  instanceTypes := #[(.object "java/lang/String"), .int, .int, (.object "com/example/locant/locant/Axis$Direction"), (.object "com/example/locant/locant/NodeKind"), (.object "com/example/locant/locant/LanguageLevel")]
  staticTypes := #[]
  resolved := Array.replicate 32 none
  statics := none }

def pool21 : Array CpInfo := pool [(2, .class_ 4), (1, u "com/example/locant/locant/Axis"), (59, .class_ 65), (0, u "com/example/locant/locant/Axis$16")] 37

/-- com/example/locant/locant/Axis$16 -/
def k21 : Class := { plain "com/example/locant/locant/Axis$16" (some 6) with
  accessFlags := 16432
  interfaces := #[]
  cf := some (fileOf pool21 64 #[.nestHost 2] #[] 16432 2 #[] #[])
  fields := #[]
  methods := #[]
  instanceTypes := #[(.object "java/lang/String"), .int, .int, (.object "com/example/locant/locant/Axis$Direction"), (.object "com/example/locant/locant/NodeKind"), (.object "com/example/locant/locant/LanguageLevel")]
  staticTypes := #[]
  resolved := Array.replicate 103 none
  statics := none }

def pool22 : Array CpInfo := pool [(2, .class_ 4), (1, u "com/example/locant/locant/Axis"), (3, .class_ 10), (1, u "com/example/locant/locant/Axis$6")] 31

/-- com/example/locant/locant/Axis$6 -/
def k22 : Class := { plain "com/example/locant/locant/Axis$6" (some 6) with
  accessFlags := 16432
  interfaces := #[]
  cf := some (fileOf pool22 8 #[.nestHost 2] #[] 16432 2 #[] #[])
  fields := #[]
  methods := #[]
  instanceTypes := #[(.object "java/lang/String"), .int, .int, (.object "com/example/locant/locant/Axis$Direction"), (.object "com/example/locant/locant/NodeKind"), (.object "com/example/locant/locant/LanguageLevel")]
  staticTypes := #[]
  resolved := Array.replicate 42 none
  statics := none }

def pool23 : Array CpInfo := pool [(2, .class_ 4), (1, u "com/example/locant/locant/Axis"), (3, .class_ 10), (1, u "com/example/locant/locant/Axis$15")] 21

/-- com/example/locant/locant/Axis$15 -/
def k23 : Class := { plain "com/example/locant/locant/Axis$15" (some 6) with
  accessFlags := 16432
  interfaces := #[]
  cf := some (fileOf pool23 8 #[.nestHost 2] #[] 16432 2 #[] #[])
  fields := #[]
  methods := #[]
  instanceTypes := #[(.object "java/lang/String"), .int, .int, (.object "com/example/locant/locant/Axis$Direction"), (.object "com/example/locant/locant/NodeKind"), (.object "com/example/locant/locant/LanguageLevel")]
  staticTypes := #[]
  resolved := Array.replicate 32 none
  statics := none }

def pool24 : Array CpInfo := pool [(2, .class_ 4), (1, u "com/example/locant/locant/Axis"), (3, .class_ 10), (1, u "com/example/locant/locant/Axis$13")] 21

/-- com/example/locant/locant/Axis$13 -/
def k24 : Class := { plain "com/example/locant/locant/Axis$13" (some 6) with
  accessFlags := 16432
  interfaces := #[]
  cf := some (fileOf pool24 8 #[.nestHost 2] #[] 16432 2 #[] #[])
  fields := #[]
  methods := #[]
  instanceTypes := #[(.object "java/lang/String"), .int, .int, (.object "com/example/locant/locant/Axis$Direction"), (.object "com/example/locant/locant/NodeKind"), (.object "com/example/locant/locant/LanguageLevel")]
  staticTypes := #[]
  resolved := Array.replicate 32 none
  statics := none }

def pool25 : Array CpInfo := pool [(1, u "java/lang/Cloneable"), (0, .class_ 1), (0, u "java/lang/Object"), (0, .class_ 3)] 3

/-- java/lang/Cloneable -/
def k25 : Class := { plain "java/lang/Cloneable" (some 0) with
  accessFlags := 1537
  interfaces := #[]
  cf := some (fileOf pool25 2 #[] #[] 1537 4 #[] #[])
  fields := #[]
  methods := #[]
  instanceTypes := #[]
  staticTypes := #[]
  resolved := Array.replicate 8 none
  statics := none }

/-- the primitive byte -/
def k26 : Class := { plain "byte" none with kind := .primitive 'B', accessFlags := 0x411 }
/-- [B -/
def k27 : Class := { plain "[B" (some 0) with kind := .array 26 .byte, interfaces := #[25, 4], accessFlags := 1041 }

/-- the primitive int -/
def k28 : Class := { plain "int" none with kind := .primitive 'I', accessFlags := 0x411 }
/-- [I -/
def k29 : Class := { plain "[I" (some 0) with kind := .array 28 .int, interfaces := #[25, 4], accessFlags := 1041 }

def heap : Heap := #[{ cls := 6, slots := #[.ref 2, .ref 13, .ref 6, .ref 5, .ref 8, .ref 18, .ref 10, .ref 11, .ref 7, .ref 9, .ref 15, .ref 12, .ref 20, .ref 14, .ref 19, .ref 17, .ref 16, .null, .null], vm := .statics 6 },
  { cls := 8, slots := #[.ref 3, .ref 4, .null], vm := .statics 8 },
  { cls := 7, slots := #[.null, .int 0, .int 0, .ref 3, .null, .null], vm := .none },
  { cls := 8, slots := #[.null, .int 0, .int 0], vm := .none },
  { cls := 8, slots := #[.null, .int 1, .int 0], vm := .none },
  { cls := 9, slots := #[.null, .int 0, .int 0, .ref 3, .null, .null], vm := .none },
  { cls := 14, slots := #[.null, .int 0, .int 0, .ref 3, .null, .null], vm := .none },
  { cls := 10, slots := #[.null, .int 0, .int 0, .ref 3, .null, .null], vm := .none },
  { cls := 18, slots := #[.null, .int 0, .int 0, .ref 3, .null, .null], vm := .none },
  { cls := 11, slots := #[.null, .int 0, .int 0, .ref 3, .null, .null], vm := .none },
  { cls := 12, slots := #[.null, .int 0, .int 0, .ref 3, .null, .null], vm := .none },
  { cls := 13, slots := #[.null, .int 0, .int 0, .ref 3, .null, .null], vm := .none },
  { cls := 15, slots := #[.null, .int 0, .int 0, .ref 4, .null, .null], vm := .none },
  { cls := 16, slots := #[.null, .int 0, .int 0, .ref 3, .null, .null], vm := .none },
  { cls := 17, slots := #[.null, .int 0, .int 0, .ref 4, .null, .null], vm := .none },
  { cls := 19, slots := #[.null, .int 0, .int 0, .ref 4, .null, .null], vm := .none },
  { cls := 20, slots := #[.null, .int 0, .int 0, .ref 4, .null, .null], vm := .none },
  { cls := 21, slots := #[.null, .int 0, .int 0, .ref 4, .null, .null], vm := .none },
  { cls := 22, slots := #[.null, .int 0, .int 0, .ref 3, .null, .null], vm := .none },
  { cls := 23, slots := #[.null, .int 0, .int 0, .ref 4, .null, .null], vm := .none },
  { cls := 24, slots := #[.null, .int 0, .int 0, .ref 4, .null, .null], vm := .none }]
def classes : Array Class := #[k0, k1, k2, k3, k4, k5, k6, k7, k8, k9, k10, k11, k12, k13, k14, k15, k16, k17, k18, k19, k20, k21, k22, k23, k24, k25, k26, k27, k28, k29]
def interned : List (Array UInt16 × Addr) := []
def slotsUsed : Nat := 130
def theMethod : MethodId := ⟨1, 1⟩
def args0 : Array Value := #[.int 5]
def aboutOver (below : List Frame) : State where
  vm := { classes := classes, interned := interned.toArray }
  heap := heap
  slotsUsed := slotsUsed
  threads := #[{ frames := .invoking theMethod args0 :: below }]
def below0 : List Frame := [.native { method := ⟨0, 0⟩, args := #[] }]
def about1 : State := aboutOver below0
def p0 : Program := .bare "" "" ""
def e0 : Env := launch0.env 0 0 0
theorem w_frames : about1.frames = Frame.invoking theMethod args0 :: below0 := rfl
set_option maxRecDepth 65536 in
theorem w_args : argsFit about1.vm theMethod args0 = true := by decide +kernel
set_option maxRecDepth 65536 in
theorem w_heap : heapFits about1 = true := by decide +kernel
set_option maxRecDepth 65536 in
theorem w_runnable : about1.curStatus? = some .runnable := by decide +kernel
set_option maxRecDepth 65536 in
theorem w_alone : about1.alone = true := by decide +kernel
set_option maxRecDepth 65536 in
theorem w_named : about1.methodNamed? x = some theMethod := by decide +kernel
set_option maxRecDepth 65536 in
theorem w_hears : about1.hears theMethod below0 = true := by decide +kernel
set_option maxRecDepth 65536 in
theorem w_ripe : about1.ripe theMethod args0 below0 = true := by decide +kernel
theorem w_running : about1.status = .running := rfl
set_option maxRecDepth 65536 in
theorem w_room : about1.hasRoom e0.platform room_1 = true :=
  launch0.hasRoom_least _ room_1 (by decide +kernel) (by decide +kernel) (by decide +kernel) (by decide +kernel) (by decide +kernel) (by decide +kernel)
theorem allAtoms_all (ts : List Jvm.Cond) (a : Array Jvm.Value) (st : Jvm.State) : (allAtoms ts).before a st = ts.all (fun c => c.before a st) := by
  induction ts with
  | nil => rfl
  | cons c t ih =>
    show (Jvm.Cond.and c (allAtoms t)).before a st = _
    rw [Jvm.Cond.before_and, ih, List.all_cons]
def words1 : List Jvm.Cond := Jvm.Cond.code x code maxLocals ret :: tables_1
/-- a 'code' word, met by the world's own term for the bytes: nothing is compared byte by byte -/
theorem code_word {y : MethodName} {bytes : ByteArray} {mx : Nat} {rt : Option FieldType} {a : Array Value} {s : State} {m : MethodId} {meth : Method} {c : Code} (h1 : s.methodNamed? y = some m) (h2 : s.vm.method? m = some meth) (h3 : meth.code = some c) (h4 : c.code = bytes)
    (h5 : (c.maxLocals == mx && c.exceptionTable.isEmpty && decide (c.maxStack ≤ mostOperands) && decide (meth.sig.returnType = rt) && !meth.locks && decide (parseMethodDescriptor y.desc = some meth.sig)) = true) : (Jvm.Cond.code y bytes mx rt).before a s = true := by
  simp only [Bool.and_eq_true, beq_iff_eq, Bool.not_eq_true', decide_eq_true_eq] at h5
  obtain ⟨⟨⟨⟨⟨g1, g2⟩, g3⟩, g4⟩, g5⟩, g6⟩ := h5
  simp [Cond.before, Cond.holds, Cond.value, h1, h2, h3, h4, g1, g2, g3, g4, g5, g6]
def isCode : Jvm.Cond → Bool
  | .code _ _ _ _ => true
  | _ => false
theorem all_split {L : List Jvm.Cond} {P : Jvm.Cond → Bool} (h1 : L.all (fun c => isCode c || P c) = true) (h2 : ∀ c ∈ L.filter isCode, P c = true) : L.all P = true := by
  refine List.all_eq_true.mpr fun c hc => ?_
  have h := List.all_eq_true.mp h1 c hc
  rcases Bool.eq_false_or_eq_true (isCode c) with hi | hi
  · exact h2 c (List.mem_filter.mpr ⟨hc, hi⟩)
  · simpa [hi] using h
set_option maxRecDepth 65536 in
theorem w_c0 : (Jvm.Cond.code x code maxLocals ret).before args0 about1 = true := code_word (m := ⟨1, 1⟩) (meth := k1m1) (c := k1c1) (by decide +kernel) rfl rfl rfl (by decide +kernel)
set_option maxRecDepth 65536 in
theorem w_c1 : (Jvm.Cond.code ({ cls := "com/example/locant/locant/AxisIsDisjointPinLaw", name := "pick", desc := "(I)Lcom/example/locant/locant/Axis;" } : Jvm.MethodName) method_3_code (1 : Nat) (Option.some (Jvm.ClassFile.FieldType.object "com/example/locant/locant/Axis"))).before args0 about1 = true := code_word (m := ⟨1, 2⟩) (meth := k1m2) (c := k1c2) (by decide +kernel) rfl rfl rfl (by decide +kernel)
set_option maxRecDepth 65536 in
theorem w_c2 : (Jvm.Cond.code ({ cls := "com/example/locant/locant/Axis", name := "isDisjoint", desc := "()Z" } : Jvm.MethodName) prog_14_method_6_code (1 : Nat) (Option.some Jvm.ClassFile.FieldType.boolean)).before args0 about1 = true := code_word (m := ⟨6, 0⟩) (meth := k6m0) (c := k6c0) (by decide +kernel) rfl rfl rfl (by decide +kernel)
set_option maxRecDepth 65536 in
theorem w_c3 : (Jvm.Cond.code ({ cls := "com/example/locant/locant/Axis", name := "isReverse", desc := "()Z" } : Jvm.MethodName) prog_14_method_7_code (1 : Nat) (Option.some Jvm.ClassFile.FieldType.boolean)).before args0 about1 = true := code_word (m := ⟨6, 1⟩) (meth := k6m1) (c := k6c1) (by decide +kernel) rfl rfl rfl (by decide +kernel)
def codes1 : List Jvm.Cond := [Jvm.Cond.code x code maxLocals ret, Jvm.Cond.code ({ cls := "com/example/locant/locant/AxisIsDisjointPinLaw", name := "pick", desc := "(I)Lcom/example/locant/locant/Axis;" } : Jvm.MethodName) method_3_code (1 : Nat) (Option.some (Jvm.ClassFile.FieldType.object "com/example/locant/locant/Axis")), Jvm.Cond.code ({ cls := "com/example/locant/locant/Axis", name := "isDisjoint", desc := "()Z" } : Jvm.MethodName) prog_14_method_6_code (1 : Nat) (Option.some Jvm.ClassFile.FieldType.boolean), Jvm.Cond.code ({ cls := "com/example/locant/locant/Axis", name := "isReverse", desc := "()Z" } : Jvm.MethodName) prog_14_method_7_code (1 : Nat) (Option.some Jvm.ClassFile.FieldType.boolean)]
set_option maxRecDepth 65536 in
theorem codes_eq : words1.filter isCode = codes1 := rfl
theorem w_codes : ∀ c ∈ words1.filter isCode, c.before args0 about1 = true := by
  rw [codes_eq]
  intro c hc
  simp only [codes1, List.mem_cons, List.not_mem_nil, or_false] at hc
  rcases hc with rfl | rfl | rfl | rfl
  · exact w_c0
  · exact w_c1
  · exact w_c2
  · exact w_c3
set_option maxRecDepth 65536 in
theorem w_t1 : (words1.take 24).all (fun c => isCode c || c.before args0 about1) = true := by decide +kernel
set_option maxRecDepth 65536 in
theorem w_t2 : ((words1.drop 24).take 24).all (fun c => isCode c || c.before args0 about1) = true := by decide +kernel
set_option maxRecDepth 65536 in
theorem w_t3 : (((words1.drop 24).drop 24).take 24).all (fun c => isCode c || c.before args0 about1) = true := by decide +kernel
set_option maxRecDepth 65536 in
theorem w_t4 : (((words1.drop 24).drop 24).drop 24).all (fun c => isCode c || c.before args0 about1) = true := by decide +kernel
theorem w_tables : (allAtoms (Jvm.Cond.code x code maxLocals ret :: tables_1)).before args0 about1 = true := by
  rw [allAtoms_all]
  show words1.all (fun c => c.before args0 about1) = true
  refine all_split ?_ w_codes
  rw [← List.take_append_drop 24 words1, List.all_append, w_t1, ← List.take_append_drop 24 (words1.drop 24), List.all_append, w_t2, ← List.take_append_drop 24 ((words1.drop 24).drop 24), List.all_append, w_t3, w_t4]
  rfl
set_option maxRecDepth 65536 in
theorem w_case : (Jvm.Cond.and given_1 narrow_1).before args0 about1 = true := by decide +kernel
theorem w_applies : (headSpec (Jvm.Cond.code x code maxLocals ret :: tables_1) room_1).applies x e0.platform about1 = true :=
  (Spec.applies_iff w_frames).mpr ⟨w_running, w_runnable, w_alone, w_named, w_hears, w_ripe, w_room, w_tables⟩
theorem atStart : AtStart classFile x code maxLocals ret World_1 tables_1 room_1 Calls_1 rest_1 Pre_1 launch0 p0 e0 about1 theMethod args0 below0 :=
  ⟨lists_1, trivial, launch0.admits_env _ _ _, launch0.least_env, fairChoices_fair.cas, fairChoices_fair.clock, w_frames, w_args, w_heap, w_applies, trivial, trivial, w_case⟩
end start1
theorem witness_1 : WitnessClaimed_1 := ⟨start1.p0, start1.e0, start1.about1, start1.theMethod, start1.args0, start1.below0, start1.atStart⟩
end Jvm.Pilot.@@N@@
