import JvmDerived
import JvmDerived.Pilot.@@N@@Statement
import JvmDerived.Pilot.@@N@@Code
set_option linter.unusedVariables false
set_option linter.unusedSimpArgs false
namespace Jvm.Pilot.@@N@@
open Jvm Jvm.ClassFile Sem Op Lib Jvm.Free Jvm.Stand Jvm.LawKit Jvm.RoadKit Bundle Jvm.Pilot.@@N@@.Jvm.D
section Own
variable {p : Program} {l : Launch} {e : Env} {R : Room} {s : State} {m : MethodId} {args : Array Value} {below : List Frame} {meth : Method} {c : Code} {Z : State} {a0 : Array Value} {h : Heap} {bytes : ByteArray} {own : String} {rt : FieldType} {ml : Nat} {pc : Nat} {Ls : Array Slot} {stk rest : List Value} {v : Value}
/-- what every step of a body that writes nothing asks -/
def own_C (p : Program) (s : State) (m : MethodId) (meth : Method) (c : Code) (Z : State) (bytes : ByteArray) (own : String) (rt : FieldType) (ml : Nat) : Prop :=
  p.tables.exec = Jvm.exec ∧ Z.Warmed39 s.vm ∧ s.vm.findClass own = some m.cls ∧ c.code = bytes ∧ meth.sig.returnType = some rt ∧ meth.locks = false ∧ c.maxLocals = ml
/-- from this pc, these locals and this operand stack the body returns v and leaves the heap h as it is -/
def own_E (p : Program) (l : Launch) (e : Env) (R : Room) (s : State) (m : MethodId) (args : Array Value) (below : List Frame) (meth : Method) (c : Code) (h : Heap) (pc : Nat) (Ls : Array Slot) (stk : List Value) (v : Value) : Prop :=
  ∀ T, Stand p l e R s m args below meth c T [] 0 0 → T.heap = h → ∃ s₂, Steps p.tables e below (T.setTop (mkF m pc Ls stk)) s₂ ∧ s₂.status = .running ∧ Ended s₂ below (.returned (some v)) ∧ s₂.heap = h ∧ FrameEnd s (.returned (some v)) s₂ [] 0 0
/-- the contract of such a body -/
def own_M (l : Launch) (y : MethodName) (bytes : ByteArray) (ml : Nat) (rt : FieldType) (ws : List Jvm.Cond) (rm : Room) (Z : State) (h : Heap) (as : Array Value) (v : Value) : Prop :=
  MetFree l y (head1 (Jvm.Cond.code y bytes ml (some rt) :: ws) rm) (fun a U => a = as ∧ Z.Warmed39 U.vm ∧ U.heap = h) (fun _ _ _ _ _ => True) (fun _ U o U' => ∃ v' L, o = .returned v' ∧ (v' = some v ∧ L = [] ∧ U'.heap = h) ∧ FrameEnd U o U' L rm.cells rm.slots)
theorem own_met {l : Launch} {y : MethodName} {bytes : ByteArray} {ml : Nat} {rt : FieldType} {ws : List Jvm.Cond} {f n : Nat} {Z : State} {h : Heap} {as : Array Value} {v : Value} {Ls : Array Slot} (hp : plainName y.cls = true)
    (hef : ∀ m, entryFrame m as ml = mkF m 0 Ls [])
    (body : ∀ (p : Program) (e : Env) (s : State) (m : MethodId) (below : List Frame) (meth : Method) (c : Code), own_C p s m meth c Z bytes y.cls rt ml → own_E p l e { frames := f, cells := 0, slots := 0, locals := n } s m as below meth c h 0 Ls [] v) :
    own_M l y bytes ml rt ws { frames := f, cells := 0, slots := 0, locals := n } Z h as v := by
  refine MetFree.of_bodySF (plainFor_of_name hp) hisR ?_
  intro p e s m args below meth c s₁ Bd hml0 hP hK
  obtain ⟨rfl, hZ, hh⟩ := hP
  have X0 : Stand p l e ({ frames := f, cells := 0, slots := 0, locals := n } : Room) s m args below meth c s₁ [] 0 0 := Stand.of_body Bd
  have e0 : s₁.heap = h := by rw [← hh, Bd.state]; rfl
  obtain ⟨s₂, q1, q2, q3, q4, q5⟩ := body p e s m below meth c ⟨Bd.exec, hZ, findClass_of_methodNamed Bd.named, Bd.bytes, Bd.returns, Bd.notSynchronized, hml0⟩ s₁ X0 e0
  exact ⟨s₂, _, castTop (hef m) q1, q2, q3, _, _, rfl, ⟨rfl, rfl, q4⟩, q5⟩
theorem own_iloadN (K : own_C p s m meth c Z bytes own rt ml) {k : Fin 4} {x : Int32} (hd : decode bytes pc = .ok (.iload_n k, 1)) (hl : Ls[k.val]? = some (.val (.int x)))
    (r : own_E p l e R s m args below meth c h (pc + 1) Ls (.int x :: stk) v) : own_E p l e R s m args below meth c h pc Ls stk v := fun T X eT => by
  obtain ⟨s₂, st, q⟩ := r T X eT
  exact ⟨s₂, XS.iloadN X.here K.1 rfl (hb K.2.2.2.1 hd) hl st, q⟩
theorem own_iload (K : own_C p s m meth c Z bytes own rt ml) {k : Nat} {x : Int32} (hd : decode bytes pc = .ok (.iload k, 2)) (hl : Ls[k]? = some (.val (.int x)))
    (r : own_E p l e R s m args below meth c h (pc + 2) Ls (.int x :: stk) v) : own_E p l e R s m args below meth c h pc Ls stk v := fun T X eT => by
  obtain ⟨s₂, st, q⟩ := r T X eT
  exact ⟨s₂, XS.iload X.here K.1 rfl (hb K.2.2.2.1 hd) hl st, q⟩
theorem own_aloadN (K : own_C p s m meth c Z bytes own rt ml) {k : Fin 4} {x : Value} (hd : decode bytes pc = .ok (.aload_n k, 1)) (hl : Ls[k.val]? = some (.val x)) (hv : x.isRef = true)
    (r : own_E p l e R s m args below meth c h (pc + 1) Ls (x :: stk) v) : own_E p l e R s m args below meth c h pc Ls stk v := fun T X eT => by
  obtain ⟨s₂, st, q⟩ := r T X eT
  exact ⟨s₂, XS.aloadN X.here K.1 rfl (hb K.2.2.2.1 hd) hl hv st, q⟩
theorem own_aload (K : own_C p s m meth c Z bytes own rt ml) {k : Nat} {x : Value} (hd : decode bytes pc = .ok (.aload k, 2)) (hl : Ls[k]? = some (.val x)) (hv : x.isRef = true)
    (r : own_E p l e R s m args below meth c h (pc + 2) Ls (x :: stk) v) : own_E p l e R s m args below meth c h pc Ls stk v := fun T X eT => by
  obtain ⟨s₂, st, q⟩ := r T X eT
  exact ⟨s₂, XS.aload X.here K.1 rfl (hb K.2.2.2.1 hd) hl hv st, q⟩
theorem own_iconst (K : own_C p s m meth c Z bytes own rt ml) {i : Int} (hd : decode bytes pc = .ok (.iconst i, 1)) {x : Int32} (hx : Int32.ofInt i = x)
    (r : own_E p l e R s m args below meth c h (pc + 1) Ls (.int x :: stk) v) : own_E p l e R s m args below meth c h pc Ls stk v := fun T X eT => by
  subst hx
  obtain ⟨s₂, st, q⟩ := r T X eT
  exact ⟨s₂, XS.iconst X.here K.1 rfl (hb K.2.2.2.1 hd) st, q⟩
theorem own_bipush (K : own_C p s m meth c Z bytes own rt ml) {i : Int} (hd : decode bytes pc = .ok (.bipush i, 2)) {x : Int32} (hx : (Int8.ofInt i).toInt32 = x)
    (r : own_E p l e R s m args below meth c h (pc + 2) Ls (.int x :: stk) v) : own_E p l e R s m args below meth c h pc Ls stk v := fun T X eT => by
  subst hx
  obtain ⟨s₂, st, q⟩ := r T X eT
  exact ⟨s₂, XS.bipush X.here K.1 rfl (hb K.2.2.2.1 hd) st, q⟩
theorem own_ldc (K : own_C p s m meth c Z bytes own rt ml) {i : Nat} {x : Int32} (w : (Jvm.Cond.constant own i x).before a0 Z = true) (hd : decode bytes pc = .ok (.ldc i, 2))
    (r : own_E p l e R s m args below meth c h (pc + 2) Ls (.int x :: stk) v) : own_E p l e R s m args below meth c h pc Ls stk v := fun T X eT => by
  obtain ⟨s₂, st, q⟩ := r T X eT
  exact ⟨s₂, X.ldcI K.1 K.2.2.1 (mvT K.2.1 w) rfl (hb K.2.2.2.1 hd) st, q⟩
theorem own_iand (K : own_C p s m meth c Z bytes own rt ml) {x y : Int32} (hd : decode bytes pc = .ok (.iand, 1))
    (r : own_E p l e R s m args below meth c h (pc + 1) Ls (.int (x &&& y) :: rest) v) : own_E p l e R s m args below meth c h pc Ls (.int y :: .int x :: rest) v := fun T X eT => by
  obtain ⟨s₂, st, q⟩ := r T X eT
  exact ⟨s₂, XS.iand X.here K.1 rfl (hb K.2.2.2.1 hd) rfl st, q⟩
theorem own_irem (K : own_C p s m meth c Z bytes own rt ml) {x y : Int32} (hd : decode bytes pc = .ok (.irem, 1)) (hy : y ≠ 0)
    (r : own_E p l e R s m args below meth c h (pc + 1) Ls (.int (x % y) :: rest) v) : own_E p l e R s m args below meth c h pc Ls (.int y :: .int x :: rest) v := fun T X eT => by
  obtain ⟨s₂, st, q⟩ := r T X eT
  exact ⟨s₂, iremM X K.1 rfl (hb K.2.2.2.1 hd) rfl hy st, q⟩
theorem own_istoreN (K : own_C p s m meth c Z bytes own rt ml) {k : Fin 4} {x : Int32} {Ls' : Array Slot} (hd : decode bytes pc = .ok (.istore_n k, 1)) (hl : storeLocals Ls k.val (.int x) = some Ls')
    (r : own_E p l e R s m args below meth c h (pc + 1) Ls' rest v) : own_E p l e R s m args below meth c h pc Ls (.int x :: rest) v := fun T X eT => by
  obtain ⟨s₂, st, q⟩ := r T X eT
  exact ⟨s₂, XS.istoreN X.here K.1 rfl (hb K.2.2.2.1 hd) rfl hl st, q⟩
theorem own_istore (K : own_C p s m meth c Z bytes own rt ml) {k : Nat} {x : Int32} {Ls' : Array Slot} (hd : decode bytes pc = .ok (.istore k, 2)) (hl : storeLocals Ls k (.int x) = some Ls')
    (r : own_E p l e R s m args below meth c h (pc + 2) Ls' rest v) : own_E p l e R s m args below meth c h pc Ls (.int x :: rest) v := fun T X eT => by
  obtain ⟨s₂, st, q⟩ := r T X eT
  exact ⟨s₂, XS.istore X.here K.1 rfl (hb K.2.2.2.1 hd) rfl hl st, q⟩
theorem own_astoreN (K : own_C p s m meth c Z bytes own rt ml) {k : Fin 4} {x : Value} {Ls' : Array Slot} (hd : decode bytes pc = .ok (.astore_n k, 1)) (hv : x.isRef = true) (hl : storeLocals Ls k.val x = some Ls')
    (r : own_E p l e R s m args below meth c h (pc + 1) Ls' rest v) : own_E p l e R s m args below meth c h pc Ls (x :: rest) v := fun T X eT => by
  obtain ⟨s₂, st, q⟩ := r T X eT
  exact ⟨s₂, XS.astoreN X.here K.1 rfl (hb K.2.2.2.1 hd) rfl hv hl st, q⟩
theorem own_astore (K : own_C p s m meth c Z bytes own rt ml) {k : Nat} {x : Value} {Ls' : Array Slot} (hd : decode bytes pc = .ok (.astore k, 2)) (hv : x.isRef = true) (hl : storeLocals Ls k x = some Ls')
    (r : own_E p l e R s m args below meth c h (pc + 2) Ls' rest v) : own_E p l e R s m args below meth c h pc Ls (x :: rest) v := fun T X eT => by
  obtain ⟨s₂, st, q⟩ := r T X eT
  exact ⟨s₂, XS.astore X.here K.1 rfl (hb K.2.2.2.1 hd) rfl hv hl st, q⟩
theorem own_goto (K : own_C p s m meth c Z bytes own rt ml) {o : Int} {pc' : Nat} (hd : decode bytes pc = .ok (.goto o, 3)) (ho : 0 ≤ (pc : Int) + o) (hp : ((pc : Int) + o).toNat = pc')
    (r : own_E p l e R s m args below meth c h pc' Ls stk v) : own_E p l e R s m args below meth c h pc Ls stk v := fun T X eT => by
  obtain ⟨s₂, st, q⟩ := r T X eT
  exact ⟨s₂, XS.goto X.here K.1 rfl (pc0 := pc) (pc' := pc') rfl (hb K.2.2.2.1 hd) ho hp st, q⟩
theorem own_ifY (K : own_C p s m meth c Z bytes own rt ml) {cd : ClassFile.Cond} {x : Int32} {o : Int} {pc' : Nat} (hd : decode bytes pc = .ok (.ifCond cd o, 3)) (hc : ifCond.holds cd x = true) (ho : 0 ≤ (pc : Int) + o) (hp : ((pc : Int) + o).toNat = pc')
    (r : own_E p l e R s m args below meth c h pc' Ls rest v) : own_E p l e R s m args below meth c h pc Ls (.int x :: rest) v := fun T X eT => by
  obtain ⟨s₂, st, q⟩ := r T X eT
  exact ⟨s₂, XS.ifYes X.here K.1 rfl (pc0 := pc) (pc' := pc') rfl (hb K.2.2.2.1 hd) rfl hc ho hp st, q⟩
theorem own_ifN (K : own_C p s m meth c Z bytes own rt ml) {cd : ClassFile.Cond} {x : Int32} {o : Int} (hd : decode bytes pc = .ok (.ifCond cd o, 3)) (hc : ifCond.holds cd x = false)
    (r : own_E p l e R s m args below meth c h (pc + 3) Ls rest v) : own_E p l e R s m args below meth c h pc Ls (.int x :: rest) v := fun T X eT => by
  obtain ⟨s₂, st, q⟩ := r T X eT
  exact ⟨s₂, XS.ifNo X.here K.1 rfl (hb K.2.2.2.1 hd) rfl hc st, q⟩
theorem own_icmpY (K : own_C p s m meth c Z bytes own rt ml) {cd : ClassFile.Cond} {x y : Int32} {o : Int} {pc' : Nat} (hd : decode bytes pc = .ok (.if_icmp cd o, 3)) (hc : if_icmp.holds cd x y = true) (ho : 0 ≤ (pc : Int) + o) (hp : ((pc : Int) + o).toNat = pc')
    (r : own_E p l e R s m args below meth c h pc' Ls rest v) : own_E p l e R s m args below meth c h pc Ls (.int y :: .int x :: rest) v := fun T X eT => by
  obtain ⟨s₂, st, q⟩ := r T X eT
  exact ⟨s₂, XS.icmpYes X.here K.1 rfl (pc0 := pc) (pc' := pc') rfl (hb K.2.2.2.1 hd) rfl hc ho hp st, q⟩
theorem own_icmpN (K : own_C p s m meth c Z bytes own rt ml) {cd : ClassFile.Cond} {x y : Int32} {o : Int} (hd : decode bytes pc = .ok (.if_icmp cd o, 3)) (hc : if_icmp.holds cd x y = false)
    (r : own_E p l e R s m args below meth c h (pc + 3) Ls rest v) : own_E p l e R s m args below meth c h pc Ls (.int y :: .int x :: rest) v := fun T X eT => by
  obtain ⟨s₂, st, q⟩ := r T X eT
  exact ⟨s₂, XS.icmpNo X.here K.1 rfl (hb K.2.2.2.1 hd) rfl hc st, q⟩
theorem own_acmp (K : own_C p s m meth c Z bytes own rt ml) {cd : ACond} {x y : Addr} {o : Int} {pc' : Nat} {same : Bool} (hd : decode bytes pc = .ok (.if_acmp cd o, 3)) (hq : decide (x = y) = same) (ho : 0 ≤ (pc : Int) + o) (hp : pc' = if acV cd same = true then ((pc : Int) + o).toNat else pc + 3)
    (r : own_E p l e R s m args below meth c h pc' Ls rest v) : own_E p l e R s m args below meth c h pc Ls (.ref y :: .ref x :: rest) v := fun T X eT => by
  obtain ⟨s₂, st, q⟩ := r T X eT
  exact ⟨s₂, Jvm.RoadKit.acmp (g := mkF m pc Ls (.ref y :: .ref x :: rest)) X K.1 rfl (x := .ref x) (y := .ref y) rfl rfl (pc0 := pc) (pc' := pc') (same := same) rfl (hb K.2.2.2.1 hd) rfl (by rw [← hq]; simp) ho hp st, q⟩
theorem own_ifnullY (K : own_C p s m meth c Z bytes own rt ml) {o : Int} {pc' : Nat} (hd : decode bytes pc = .ok (.ifnull o, 3)) (ho : 0 ≤ (pc : Int) + o) (hp : ((pc : Int) + o).toNat = pc')
    (r : own_E p l e R s m args below meth c h pc' Ls rest v) : own_E p l e R s m args below meth c h pc Ls (.null :: rest) v := fun T X eT => by
  obtain ⟨s₂, st, q⟩ := r T X eT
  exact ⟨s₂, XS.ifnullYes X.here K.1 rfl (pc0 := pc) (pc' := pc') rfl (hb K.2.2.2.1 hd) rfl ho hp st, q⟩
theorem own_ifnullN (K : own_C p s m meth c Z bytes own rt ml) {o : Int} {b : Addr} (hd : decode bytes pc = .ok (.ifnull o, 3))
    (r : own_E p l e R s m args below meth c h (pc + 3) Ls rest v) : own_E p l e R s m args below meth c h pc Ls (.ref b :: rest) v := fun T X eT => by
  obtain ⟨s₂, st, q⟩ := r T X eT
  exact ⟨s₂, XS.ifnullNo X.here K.1 rfl (hb K.2.2.2.1 hd) rfl st, q⟩
theorem own_getS (K : own_C p s m meth c Z bytes own rt ml) {C f d : String} {i : Nat} {x : Value} (w : (Jvm.Cond.fieldLink own i C f d).before a0 Z = true) (F : Sta Z h C f d x) (hd : decode bytes pc = .ok (.getstatic i, 3))
    (r : own_E p l e R s m args below meth c h (pc + 3) Ls (x :: stk) v) : own_E p l e R s m args below meth c h pc Ls stk v := fun T X eT => by
  obtain ⟨T', X', e', st⟩ := getS2 X K.1 K.2.1 K.2.2.1 (host := "") (Or.inl w) Via.refl eT F (g := mkF m pc Ls stk) rfl (hb K.2.2.2.1 hd)
  obtain ⟨s₂, st', q⟩ := r T' X' e'
  exact ⟨s₂, st _ st', q⟩
theorem own_getF (K : own_C p s m meth c Z bytes own rt ml) {C f d : String} {i : Nat} {x : Value} {a : Addr} (w : (Jvm.Cond.fieldLink own i C f d).before a0 Z = true) (F : Fld Z h a C f d x) (hd : decode bytes pc = .ok (.getfield i, 3))
    (r : own_E p l e R s m args below meth c h (pc + 3) Ls (x :: rest) v) : own_E p l e R s m args below meth c h pc Ls (.ref a :: rest) v := fun T X eT => by
  obtain ⟨T', X', e', st⟩ := getF X K.1 K.2.1 K.2.2.1 (host := "") (Or.inl w) Via.refl eT F (g := mkF m pc Ls (.ref a :: rest)) rfl rfl (hb K.2.2.2.1 hd)
  obtain ⟨s₂, st', q⟩ := r T' X' e'
  exact ⟨s₂, st _ st', q⟩
theorem own_retZ (K : own_C p s m meth c Z bytes own .boolean ml) {x z : Int32} (hd : decode bytes pc = .ok (.ireturn, 1)) (hz : nar .boolean x = z) : own_E p l e R s m args below meth c h pc Ls (.int x :: rest) (.int z) := fun T X eT => by
  subst hz
  obtain ⟨fs, hr, hrun, hended, hW, hsame⟩ := X.leave (v := some (.int (nar .boolean x))) (fun q => by rw [K.2.2.2.2.1] at q; cases q) K.2.2.2.2.2.1
  exact ⟨_, retN X K.1 (t := .boolean) K.2.2.2.2.1 (by simp) (hb K.2.2.2.1 hd) hr, hrun, hended, eT, ⟨_, rfl⟩, hW, hsame⟩
theorem own_retA (K : own_C p s m meth c Z bytes own rt ml) {x : Value} (hd : decode bytes pc = .ok (.areturn, 1)) (ht : rt.isReference = true) (hn : narrow rt x = x) (hx : x.isRef = true) : own_E p l e R s m args below meth c h pc Ls (x :: rest) x := fun T X eT => by
  obtain ⟨fs, hr, hrun, hended, hW, hsame⟩ := X.leave (v := some x) (fun q => by rw [K.2.2.2.2.1] at q; cases q) K.2.2.2.2.2.1
  exact ⟨_, retOut X K.1 K.2.2.2.2.1 hn (Or.inr (Or.inr (Or.inr (Or.inr ⟨rfl, ht, hx⟩)))) (hb K.2.2.2.1 hd) hr, hrun, hended, eT, ⟨_, rfl⟩, hW, hsame⟩
theorem own_callS (K : own_C p s m meth c Z bytes own rt ml) {i : Nat} {y : MethodName} {bs : ByteArray} {mx f n W : Nat} {ry : FieldType} {ps : List FieldType} {argsL : List Value} {u : Value}
    (M : own_M l y bs mx ry [] { frames := f, cells := 0, slots := 0, locals := n } Z h argsL.toArray u)
    (w1 : (Jvm.Cond.methodLink own i y).before a0 Z = true) (w2 : (Jvm.Cond.static y).before a0 Z = true) (w3 : (Jvm.Cond.initialized y.cls).before a0 Z = true) (w4 : (Jvm.Cond.code y bs mx (some ry)).before a0 Z = true)
    (hy : y.cls ≠ "java/lang/invoke/MethodHandle" ∧ y.cls ≠ "java/lang/invoke/VarHandle") (hd : decode bytes pc = .ok (.invokestatic i, 3)) (hdesc : parseMethodDescriptor y.desc = some ⟨ps, some ry⟩) (hlen : argsL.length = ps.length)
    (hs : stk = argsL.reverse ++ rest) (hsz : Ls.size = ml) (hW : (rest.map fun v => v.category).sum ≤ W) (hf : f + 1 ≤ R.frames) (hl : W + (mx + 11) + n ≤ R.locals)
    (r : own_E p l e R s m args below meth c h (pc + 3) Ls (u :: rest) v) : own_E p l e R s m args below meth c h pc Ls stk v := fun T X eT => by
  obtain ⟨_, _, ⟨T1, L1, k1, n1⟩, -, X1, ⟨Lc, hQ, l1, y1, z1⟩, st⟩ := Jvm.LawKit.callS X K.1 (y := y) K.2.2.1 (mvT K.2.1 w1) (mvT K.2.1 w2) (mvT K.2.1 w3) (mvT K.2.1 w4) hy (backOf (W := W) (rm := { frames := f, cells := 0, slots := 0, locals := n }) (Q := fun v' g L => v' = some u ∧ L = [] ∧ g = h) M K.2.1 w4 w3 hf hl) (g := mkF m pc Ls stk) rfl (by rw [K.2.2.2.2.2.2]; exact hsz) (argsL := argsL) (rest := rest) (lenOf hdesc hlen) hs (by show 2 * 0 + _ ≤ _; omega) (hb K.2.2.2.1 hd) (fun _ _ => ⟨rfl, eT, Nat.zero_le _, Nat.zero_le _⟩)
  dsimp only [Pt.U, Pt.locs, Pt.cells, Pt.slots] at X1 l1 y1 z1 st hQ
  obtain ⟨rfl, rfl, e1⟩ := hQ
  subst l1 y1 z1
  obtain ⟨s₂, st', q⟩ := r T1 X1 e1
  exact ⟨s₂, st _ st', q⟩
theorem own_callV (K : own_C p s m meth c Z bytes own rt ml) {i : Nat} {y : MethodName} {bs : ByteArray} {mx f n W : Nat} {ry : FieldType} {ps : List FieldType} {argsL : List Value} {u : Value} {a : Addr} {D : String}
    (M : own_M l y bs mx ry [] { frames := f, cells := 0, slots := 0, locals := n } Z h (.ref a :: argsL).toArray u) (E : Exa Z h a D)
    (w1 : (Jvm.Cond.methodLink own i y).before a0 Z = true) (w2 : (Jvm.Cond.declares y).before a0 Z = true) (w3 : (Jvm.Cond.selects D y y).before a0 Z = true) (w4 : (Jvm.Cond.instanceMethod y).before a0 Z = true) (w5 : (Jvm.Cond.code y bs mx (some ry)).before a0 Z = true) (w6 : (Jvm.Cond.initialized y.cls).before a0 Z = true)
    (hy : y.cls ≠ "java/lang/invoke/MethodHandle" ∧ y.cls ≠ "java/lang/invoke/VarHandle") (hd : decode bytes pc = .ok (.invokevirtual i, 3)) (hdesc : parseMethodDescriptor y.desc = some ⟨ps, some ry⟩) (hlen : argsL.length = ps.length)
    (hs : stk = argsL.reverse ++ .ref a :: rest) (hsz : Ls.size = ml) (hW : (rest.map fun v => v.category).sum ≤ W) (hf : f + 1 ≤ R.frames) (hl : W + (mx + 11) + n ≤ R.locals)
    (r : own_E p l e R s m args below meth c h (pc + 3) Ls (u :: rest) v) : own_E p l e R s m args below meth c h pc Ls stk v := fun T X eT => by
  obtain ⟨cq, kq, qa, qb, qc⟩ := isOf (T := T) K.2.1 eT E
  obtain ⟨_, _, ⟨T1, L1, k1, n1⟩, -, X1, ⟨Lc, hQ, l1, y1, z1⟩, st⟩ := X.virtualBack K.1 (y := y) (z := y) K.2.2.1 (mvT K.2.1 w1) (mvT K.2.1 w2) (notFace_of_selects (args := #[]) (mvT K.2.1 w3)) (mvT K.2.1 w3) (mvT K.2.1 w4) hy (backOf (W := W) (rm := { frames := f, cells := 0, slots := 0, locals := n }) (Q := fun v' g L => v' = some u ∧ L = [] ∧ g = h) M K.2.1 w5 w6 hf hl) qa qc (g := mkF m pc Ls stk) rfl (by rw [K.2.2.2.2.2.2]; exact hsz) (Steps.refl _) (argsL := argsL) (rest := rest) (lenOf hdesc hlen) hs (by show 2 * 0 + _ ≤ _; omega) (hb K.2.2.2.1 hd) (fun _ _ => ⟨rfl, eT, Nat.zero_le _, Nat.zero_le _⟩)
  dsimp only [Pt.U, Pt.locs, Pt.cells, Pt.slots] at X1 l1 y1 z1 st hQ
  obtain ⟨rfl, rfl, e1⟩ := hQ
  subst l1 y1 z1
  obtain ⟨s₂, st', q⟩ := r T1 X1 e1
  exact ⟨s₂, st.trans st', q⟩
end Own
theorem d1_0 : decode method_3_code 0 = .ok (.iload_n 0, 1) := by decide +kernel
theorem d1_1 : decode method_3_code 1 = .ok (.ifCond .ne 7, 3) := by decide +kernel
theorem d1_4 : decode method_3_code 4 = .ok (.getstatic 26, 3) := by decide +kernel
theorem d1_7 : decode method_3_code 7 = .ok (.areturn, 1) := by decide +kernel
theorem d1_8 : decode method_3_code 8 = .ok (.iload_n 0, 1) := by decide +kernel
theorem d1_9 : decode method_3_code 9 = .ok (.iconst 1, 1) := by decide +kernel
theorem d1_10 : decode method_3_code 10 = .ok (.if_icmp .ne 7, 3) := by decide +kernel
theorem d1_13 : decode method_3_code 13 = .ok (.getstatic 29, 3) := by decide +kernel
theorem d1_16 : decode method_3_code 16 = .ok (.areturn, 1) := by decide +kernel
theorem d1_17 : decode method_3_code 17 = .ok (.iload_n 0, 1) := by decide +kernel
theorem d1_18 : decode method_3_code 18 = .ok (.iconst 2, 1) := by decide +kernel
theorem d1_19 : decode method_3_code 19 = .ok (.if_icmp .ne 7, 3) := by decide +kernel
theorem d1_22 : decode method_3_code 22 = .ok (.getstatic 13, 3) := by decide +kernel
theorem d1_25 : decode method_3_code 25 = .ok (.areturn, 1) := by decide +kernel
theorem d1_26 : decode method_3_code 26 = .ok (.iload_n 0, 1) := by decide +kernel
theorem d1_27 : decode method_3_code 27 = .ok (.iconst 3, 1) := by decide +kernel
theorem d1_28 : decode method_3_code 28 = .ok (.if_icmp .ne 7, 3) := by decide +kernel
theorem d1_31 : decode method_3_code 31 = .ok (.getstatic 32, 3) := by decide +kernel
theorem d1_34 : decode method_3_code 34 = .ok (.areturn, 1) := by decide +kernel
theorem d1_35 : decode method_3_code 35 = .ok (.iload_n 0, 1) := by decide +kernel
theorem d1_36 : decode method_3_code 36 = .ok (.iconst 4, 1) := by decide +kernel
theorem d1_37 : decode method_3_code 37 = .ok (.if_icmp .ne 7, 3) := by decide +kernel
theorem d1_40 : decode method_3_code 40 = .ok (.getstatic 35, 3) := by decide +kernel
theorem d1_43 : decode method_3_code 43 = .ok (.areturn, 1) := by decide +kernel
theorem d1_44 : decode method_3_code 44 = .ok (.iload_n 0, 1) := by decide +kernel
theorem d1_45 : decode method_3_code 45 = .ok (.iconst 5, 1) := by decide +kernel
theorem d1_46 : decode method_3_code 46 = .ok (.if_icmp .ne 7, 3) := by decide +kernel
theorem d1_49 : decode method_3_code 49 = .ok (.getstatic 38, 3) := by decide +kernel
theorem d1_52 : decode method_3_code 52 = .ok (.areturn, 1) := by decide +kernel
theorem d1_53 : decode method_3_code 53 = .ok (.iload_n 0, 1) := by decide +kernel
theorem d1_54 : decode method_3_code 54 = .ok (.bipush 6, 2) := by decide +kernel
theorem d1_56 : decode method_3_code 56 = .ok (.if_icmp .ne 7, 3) := by decide +kernel
theorem d1_59 : decode method_3_code 59 = .ok (.getstatic 41, 3) := by decide +kernel
theorem d1_62 : decode method_3_code 62 = .ok (.areturn, 1) := by decide +kernel
theorem d1_63 : decode method_3_code 63 = .ok (.iload_n 0, 1) := by decide +kernel
theorem d1_64 : decode method_3_code 64 = .ok (.bipush 7, 2) := by decide +kernel
theorem d1_66 : decode method_3_code 66 = .ok (.if_icmp .ne 7, 3) := by decide +kernel
theorem d1_69 : decode method_3_code 69 = .ok (.getstatic 44, 3) := by decide +kernel
theorem d1_72 : decode method_3_code 72 = .ok (.areturn, 1) := by decide +kernel
theorem d1_73 : decode method_3_code 73 = .ok (.iload_n 0, 1) := by decide +kernel
theorem d1_74 : decode method_3_code 74 = .ok (.bipush 8, 2) := by decide +kernel
theorem d1_76 : decode method_3_code 76 = .ok (.if_icmp .ne 7, 3) := by decide +kernel
theorem d1_79 : decode method_3_code 79 = .ok (.getstatic 47, 3) := by decide +kernel
theorem d1_82 : decode method_3_code 82 = .ok (.areturn, 1) := by decide +kernel
theorem d1_83 : decode method_3_code 83 = .ok (.iload_n 0, 1) := by decide +kernel
theorem d1_84 : decode method_3_code 84 = .ok (.bipush 9, 2) := by decide +kernel
theorem d1_86 : decode method_3_code 86 = .ok (.if_icmp .ne 7, 3) := by decide +kernel
theorem d1_89 : decode method_3_code 89 = .ok (.getstatic 50, 3) := by decide +kernel
theorem d1_92 : decode method_3_code 92 = .ok (.areturn, 1) := by decide +kernel
theorem d1_93 : decode method_3_code 93 = .ok (.iload_n 0, 1) := by decide +kernel
theorem d1_94 : decode method_3_code 94 = .ok (.bipush 10, 2) := by decide +kernel
theorem d1_96 : decode method_3_code 96 = .ok (.if_icmp .ne 7, 3) := by decide +kernel
theorem d1_99 : decode method_3_code 99 = .ok (.getstatic 53, 3) := by decide +kernel
theorem d1_102 : decode method_3_code 102 = .ok (.areturn, 1) := by decide +kernel
theorem d1_103 : decode method_3_code 103 = .ok (.iload_n 0, 1) := by decide +kernel
theorem d1_104 : decode method_3_code 104 = .ok (.bipush 11, 2) := by decide +kernel
theorem d1_106 : decode method_3_code 106 = .ok (.if_icmp .ne 7, 3) := by decide +kernel
theorem d1_109 : decode method_3_code 109 = .ok (.getstatic 56, 3) := by decide +kernel
theorem d1_112 : decode method_3_code 112 = .ok (.areturn, 1) := by decide +kernel
theorem d1_113 : decode method_3_code 113 = .ok (.iload_n 0, 1) := by decide +kernel
theorem d1_114 : decode method_3_code 114 = .ok (.bipush 12, 2) := by decide +kernel
theorem d1_116 : decode method_3_code 116 = .ok (.if_icmp .ne 7, 3) := by decide +kernel
theorem d1_119 : decode method_3_code 119 = .ok (.getstatic 59, 3) := by decide +kernel
theorem d1_122 : decode method_3_code 122 = .ok (.areturn, 1) := by decide +kernel
theorem d1_123 : decode method_3_code 123 = .ok (.iload_n 0, 1) := by decide +kernel
theorem d1_124 : decode method_3_code 124 = .ok (.bipush 13, 2) := by decide +kernel
theorem d1_126 : decode method_3_code 126 = .ok (.if_icmp .ne 7, 3) := by decide +kernel
theorem d1_129 : decode method_3_code 129 = .ok (.getstatic 62, 3) := by decide +kernel
theorem d1_132 : decode method_3_code 132 = .ok (.areturn, 1) := by decide +kernel
theorem d1_133 : decode method_3_code 133 = .ok (.iload_n 0, 1) := by decide +kernel
theorem d1_134 : decode method_3_code 134 = .ok (.bipush 14, 2) := by decide +kernel
theorem d1_136 : decode method_3_code 136 = .ok (.if_icmp .ne 7, 3) := by decide +kernel
theorem d1_139 : decode method_3_code 139 = .ok (.getstatic 65, 3) := by decide +kernel
theorem d1_142 : decode method_3_code 142 = .ok (.areturn, 1) := by decide +kernel
theorem d1_143 : decode method_3_code 143 = .ok (.iload_n 0, 1) := by decide +kernel
theorem d1_144 : decode method_3_code 144 = .ok (.bipush 15, 2) := by decide +kernel
theorem d1_146 : decode method_3_code 146 = .ok (.if_icmp .ne 7, 3) := by decide +kernel
theorem d1_149 : decode method_3_code 149 = .ok (.getstatic 68, 3) := by decide +kernel
theorem d1_152 : decode method_3_code 152 = .ok (.areturn, 1) := by decide +kernel
theorem d1_153 : decode method_3_code 153 = .ok (.iload_n 0, 1) := by decide +kernel
theorem d1_154 : decode method_3_code 154 = .ok (.bipush 16, 2) := by decide +kernel
theorem d1_156 : decode method_3_code 156 = .ok (.if_icmp .ne 7, 3) := by decide +kernel
theorem d1_159 : decode method_3_code 159 = .ok (.getstatic 71, 3) := by decide +kernel
theorem d1_162 : decode method_3_code 162 = .ok (.areturn, 1) := by decide +kernel
theorem d1_163 : decode method_3_code 163 = .ok (.iload_n 0, 1) := by decide +kernel
theorem d1_164 : decode method_3_code 164 = .ok (.bipush 17, 2) := by decide +kernel
theorem d1_166 : decode method_3_code 166 = .ok (.if_icmp .ne 7, 3) := by decide +kernel
theorem d1_169 : decode method_3_code 169 = .ok (.getstatic 74, 3) := by decide +kernel
theorem d1_172 : decode method_3_code 172 = .ok (.areturn, 1) := by decide +kernel
theorem d1_173 : decode method_3_code 173 = .ok (.iload_n 0, 1) := by decide +kernel
theorem d1_174 : decode method_3_code 174 = .ok (.bipush 18, 2) := by decide +kernel
theorem d1_176 : decode method_3_code 176 = .ok (.if_icmp .ne 7, 3) := by decide +kernel
theorem d1_179 : decode method_3_code 179 = .ok (.getstatic 19, 3) := by decide +kernel
theorem d1_182 : decode method_3_code 182 = .ok (.areturn, 1) := by decide +kernel
theorem d1_183 : decode method_3_code 183 = .ok (.iload_n 0, 1) := by decide +kernel
theorem d1_184 : decode method_3_code 184 = .ok (.bipush 19, 2) := by decide +kernel
theorem d1_186 : decode method_3_code 186 = .ok (.if_icmp .ne 7, 3) := by decide +kernel
theorem d1_189 : decode method_3_code 189 = .ok (.getstatic 77, 3) := by decide +kernel
theorem d1_192 : decode method_3_code 192 = .ok (.areturn, 1) := by decide +kernel
theorem d1_193 : decode method_3_code 193 = .ok (.iload_n 0, 1) := by decide +kernel
theorem d1_194 : decode method_3_code 194 = .ok (.bipush 20, 2) := by decide +kernel
theorem d1_196 : decode method_3_code 196 = .ok (.if_icmp .ne 7, 3) := by decide +kernel
theorem d1_199 : decode method_3_code 199 = .ok (.getstatic 80, 3) := by decide +kernel
theorem d1_202 : decode method_3_code 202 = .ok (.areturn, 1) := by decide +kernel
theorem d1_203 : decode method_3_code 203 = .ok (.iload_n 0, 1) := by decide +kernel
theorem d1_204 : decode method_3_code 204 = .ok (.bipush 21, 2) := by decide +kernel
theorem d1_206 : decode method_3_code 206 = .ok (.if_icmp .ne 7, 3) := by decide +kernel
theorem d1_209 : decode method_3_code 209 = .ok (.getstatic 83, 3) := by decide +kernel
theorem d1_212 : decode method_3_code 212 = .ok (.areturn, 1) := by decide +kernel
theorem d1_213 : decode method_3_code 213 = .ok (.iload_n 0, 1) := by decide +kernel
theorem d1_214 : decode method_3_code 214 = .ok (.bipush 22, 2) := by decide +kernel
theorem d1_216 : decode method_3_code 216 = .ok (.if_icmp .ne 7, 3) := by decide +kernel
theorem d1_219 : decode method_3_code 219 = .ok (.getstatic 86, 3) := by decide +kernel
theorem d1_222 : decode method_3_code 222 = .ok (.areturn, 1) := by decide +kernel
theorem d1_223 : decode method_3_code 223 = .ok (.iload_n 0, 1) := by decide +kernel
theorem d1_224 : decode method_3_code 224 = .ok (.bipush 23, 2) := by decide +kernel
theorem d1_226 : decode method_3_code 226 = .ok (.if_icmp .ne 7, 3) := by decide +kernel
theorem d1_229 : decode method_3_code 229 = .ok (.getstatic 89, 3) := by decide +kernel
theorem d1_232 : decode method_3_code 232 = .ok (.areturn, 1) := by decide +kernel
theorem d1_233 : decode method_3_code 233 = .ok (.iload_n 0, 1) := by decide +kernel
theorem d1_234 : decode method_3_code 234 = .ok (.bipush 24, 2) := by decide +kernel
theorem d1_236 : decode method_3_code 236 = .ok (.if_icmp .ne 7, 3) := by decide +kernel
theorem d1_239 : decode method_3_code 239 = .ok (.getstatic 92, 3) := by decide +kernel
theorem d1_242 : decode method_3_code 242 = .ok (.areturn, 1) := by decide +kernel
theorem d1_243 : decode method_3_code 243 = .ok (.iload_n 0, 1) := by decide +kernel
theorem d1_244 : decode method_3_code 244 = .ok (.bipush 25, 2) := by decide +kernel
theorem d1_246 : decode method_3_code 246 = .ok (.if_icmp .ne 7, 3) := by decide +kernel
theorem d1_249 : decode method_3_code 249 = .ok (.getstatic 95, 3) := by decide +kernel
theorem d1_252 : decode method_3_code 252 = .ok (.areturn, 1) := by decide +kernel
theorem d1_253 : decode method_3_code 253 = .ok (.iload_n 0, 1) := by decide +kernel
theorem d1_254 : decode method_3_code 254 = .ok (.bipush 26, 2) := by decide +kernel
theorem d1_256 : decode method_3_code 256 = .ok (.if_icmp .ne 7, 3) := by decide +kernel
theorem d1_259 : decode method_3_code 259 = .ok (.getstatic 98, 3) := by decide +kernel
theorem d1_262 : decode method_3_code 262 = .ok (.areturn, 1) := by decide +kernel
theorem d1_263 : decode method_3_code 263 = .ok (.iload_n 0, 1) := by decide +kernel
theorem d1_264 : decode method_3_code 264 = .ok (.bipush 27, 2) := by decide +kernel
theorem d1_266 : decode method_3_code 266 = .ok (.if_icmp .ne 7, 3) := by decide +kernel
theorem d1_269 : decode method_3_code 269 = .ok (.getstatic 101, 3) := by decide +kernel
theorem d1_272 : decode method_3_code 272 = .ok (.areturn, 1) := by decide +kernel
theorem d1_273 : decode method_3_code 273 = .ok (.iload_n 0, 1) := by decide +kernel
theorem d1_274 : decode method_3_code 274 = .ok (.bipush 28, 2) := by decide +kernel
theorem d1_276 : decode method_3_code 276 = .ok (.if_icmp .ne 7, 3) := by decide +kernel
theorem d1_279 : decode method_3_code 279 = .ok (.getstatic 104, 3) := by decide +kernel
theorem d1_282 : decode method_3_code 282 = .ok (.areturn, 1) := by decide +kernel
theorem d1_283 : decode method_3_code 283 = .ok (.iload_n 0, 1) := by decide +kernel
theorem d1_284 : decode method_3_code 284 = .ok (.bipush 29, 2) := by decide +kernel
theorem d1_286 : decode method_3_code 286 = .ok (.if_icmp .ne 7, 3) := by decide +kernel
theorem d1_289 : decode method_3_code 289 = .ok (.getstatic 107, 3) := by decide +kernel
theorem d1_292 : decode method_3_code 292 = .ok (.areturn, 1) := by decide +kernel
theorem d1_293 : decode method_3_code 293 = .ok (.iload_n 0, 1) := by decide +kernel
theorem d1_294 : decode method_3_code 294 = .ok (.bipush 30, 2) := by decide +kernel
theorem d1_296 : decode method_3_code 296 = .ok (.if_icmp .ne 7, 3) := by decide +kernel
theorem d1_299 : decode method_3_code 299 = .ok (.getstatic 110, 3) := by decide +kernel
theorem d1_302 : decode method_3_code 302 = .ok (.areturn, 1) := by decide +kernel
theorem d1_303 : decode method_3_code 303 = .ok (.getstatic 113, 3) := by decide +kernel
theorem d1_306 : decode method_3_code 306 = .ok (.areturn, 1) := by decide +kernel
theorem d2_0 : decode prog_12_method_9_code 0 = .ok (.aload_n 0, 1) := by decide +kernel
theorem d2_1 : decode prog_12_method_9_code 1 = .ok (.astore_n 1, 1) := by decide +kernel
theorem d2_2 : decode prog_12_method_9_code 2 = .ok (.aload_n 1, 1) := by decide +kernel
theorem d2_3 : decode prog_12_method_9_code 3 = .ok (.getfield 126, 3) := by decide +kernel
theorem d2_6 : decode prog_12_method_9_code 6 = .ok (.ifnull 21, 3) := by decide +kernel
theorem d2_9 : decode prog_12_method_9_code 9 = .ok (.aload_n 1, 1) := by decide +kernel
theorem d2_10 : decode prog_12_method_9_code 10 = .ok (.getfield 126, 3) := by decide +kernel
theorem d2_13 : decode prog_12_method_9_code 13 = .ok (.getstatic 3, 3) := by decide +kernel
theorem d2_16 : decode prog_12_method_9_code 16 = .ok (.if_acmp .eq 11, 3) := by decide +kernel
theorem d2_19 : decode prog_12_method_9_code 19 = .ok (.aload_n 1, 1) := by decide +kernel
theorem d2_20 : decode prog_12_method_9_code 20 = .ok (.getfield 126, 3) := by decide +kernel
theorem d2_23 : decode prog_12_method_9_code 23 = .ok (.astore_n 1, 1) := by decide +kernel
theorem d2_24 : decode prog_12_method_9_code 24 = .ok (.goto (-22), 3) := by decide +kernel
theorem d2_27 : decode prog_12_method_9_code 27 = .ok (.aload_n 1, 1) := by decide +kernel
theorem d2_28 : decode prog_12_method_9_code 28 = .ok (.areturn, 1) := by decide +kernel
theorem pn_0 : plainName "com/example/locant/locant/AtomicTypePrimitivePinLaw" = true := by first | (simp [plainName, overriddenIn]; done) | decide +kernel
theorem pn_1 : plainName "com/example/locant/locant/AtomicTypePrimitivePinLaw" = true := by first | (simp [plainName, overriddenIn]; done) | decide +kernel
theorem pd_1 : parseMethodDescriptor "(I)Lcom/example/locant/locant/AtomicType;" = some ⟨[.int], some (.object "com/example/locant/locant/AtomicType")⟩ := by decide +kernel
theorem pn_2 : plainName "com/example/locant/locant/AtomicType" = true := by first | (simp [plainName, overriddenIn]; done) | decide +kernel
theorem pd_2 : parseMethodDescriptor "()Lcom/example/locant/locant/AtomicType;" = some ⟨[], some (.object "com/example/locant/locant/AtomicType")⟩ := by decide +kernel
theorem own_eqi {args : Array Value} {s : State} {a : Term} {k : Int32} (h : (Jvm.Cond.eq a (.int k)).value args s none s [] = some true) : a.eval args s none [] s = some (.int k) := by
  simp only [Cond.value, Term.eval] at h
  cases ha : a.eval args s none [] s with
  | none => simp [ha] at h
  | some x => cases x <;> simp [ha] at h ⊢ <;> exact h
theorem own_eqr {args : Array Value} {s : State} {a b : Term} {w : Addr} (hb : b.eval args s none [] s = some (.ref w)) (h : (Jvm.Cond.eq a b).value args s none s [] = some true) : a.eval args s none [] s = some (.ref w) := by
  simp only [Cond.value, hb] at h
  cases ha : a.eval args s none [] s with
  | none => simp [ha] at h
  | some x => cases x <;> simp [ha] at h ⊢ <;> exact h
theorem own_rem (k : Int32) : (k &&& 31) = 0 ∨ (k &&& 31) = 1 ∨ (k &&& 31) = 2 ∨ (k &&& 31) = 3 ∨ (k &&& 31) = 4 ∨ (k &&& 31) = 5 ∨ (k &&& 31) = 6 ∨ (k &&& 31) = 7 ∨ (k &&& 31) = 8 ∨ (k &&& 31) = 9 ∨ (k &&& 31) = 10 ∨ (k &&& 31) = 11 ∨ (k &&& 31) = 12 ∨ (k &&& 31) = 13 ∨ (k &&& 31) = 14 ∨ (k &&& 31) = 15 ∨ (k &&& 31) = 16 ∨ (k &&& 31) = 17 ∨ (k &&& 31) = 18 ∨ (k &&& 31) = 19 ∨ (k &&& 31) = 20 ∨ (k &&& 31) = 21 ∨ (k &&& 31) = 22 ∨ (k &&& 31) = 23 ∨ (k &&& 31) = 24 ∨ (k &&& 31) = 25 ∨ (k &&& 31) = 26 ∨ (k &&& 31) = 27 ∨ (k &&& 31) = 28 ∨ (k &&& 31) = 29 ∨ (k &&& 31) = 30 ∨ (k &&& 31) = 31 := by
  have h0 : (k &&& 31).toInt = (k.toBitVec &&& 31#32).toInt := rfl
  rw [BitVec.toInt_eq_toNat_of_msb (by rw [BitVec.msb_and, show (31#32).msb = false from by decide, Bool.and_false]), BitVec.toNat_and] at h0
  have h1 : k.toBitVec.toNat &&& (31#32).toNat ≤ 31 := Nat.and_le_right
  generalize k.toBitVec.toNat &&& (31#32).toNat = z at h0 h1
  have h3 : (k &&& 31).toInt = 0 ∨ (k &&& 31).toInt = 1 ∨ (k &&& 31).toInt = 2 ∨ (k &&& 31).toInt = 3 ∨ (k &&& 31).toInt = 4 ∨ (k &&& 31).toInt = 5 ∨ (k &&& 31).toInt = 6 ∨ (k &&& 31).toInt = 7 ∨ (k &&& 31).toInt = 8 ∨ (k &&& 31).toInt = 9 ∨ (k &&& 31).toInt = 10 ∨ (k &&& 31).toInt = 11 ∨ (k &&& 31).toInt = 12 ∨ (k &&& 31).toInt = 13 ∨ (k &&& 31).toInt = 14 ∨ (k &&& 31).toInt = 15 ∨ (k &&& 31).toInt = 16 ∨ (k &&& 31).toInt = 17 ∨ (k &&& 31).toInt = 18 ∨ (k &&& 31).toInt = 19 ∨ (k &&& 31).toInt = 20 ∨ (k &&& 31).toInt = 21 ∨ (k &&& 31).toInt = 22 ∨ (k &&& 31).toInt = 23 ∨ (k &&& 31).toInt = 24 ∨ (k &&& 31).toInt = 25 ∨ (k &&& 31).toInt = 26 ∨ (k &&& 31).toInt = 27 ∨ (k &&& 31).toInt = 28 ∨ (k &&& 31).toInt = 29 ∨ (k &&& 31).toInt = 30 ∨ (k &&& 31).toInt = 31 := by omega
  rcases h3 with h | h | h | h | h | h | h | h | h | h | h | h | h | h | h | h | h | h | h | h | h | h | h | h | h | h | h | h | h | h | h | h
  · exact Or.inl (Int32.toInt_inj.mp (by rw [h]; rfl))
  · exact Or.inr (Or.inl (Int32.toInt_inj.mp (by rw [h]; rfl)))
  · exact Or.inr (Or.inr (Or.inl (Int32.toInt_inj.mp (by rw [h]; rfl))))
  · exact Or.inr (Or.inr (Or.inr (Or.inl (Int32.toInt_inj.mp (by rw [h]; rfl)))))
  · exact Or.inr (Or.inr (Or.inr (Or.inr (Or.inl (Int32.toInt_inj.mp (by rw [h]; rfl))))))
  · exact Or.inr (Or.inr (Or.inr (Or.inr (Or.inr (Or.inl (Int32.toInt_inj.mp (by rw [h]; rfl)))))))
  · exact Or.inr (Or.inr (Or.inr (Or.inr (Or.inr (Or.inr (Or.inl (Int32.toInt_inj.mp (by rw [h]; rfl))))))))
  · exact Or.inr (Or.inr (Or.inr (Or.inr (Or.inr (Or.inr (Or.inr (Or.inl (Int32.toInt_inj.mp (by rw [h]; rfl)))))))))
  · exact Or.inr (Or.inr (Or.inr (Or.inr (Or.inr (Or.inr (Or.inr (Or.inr (Or.inl (Int32.toInt_inj.mp (by rw [h]; rfl))))))))))
  · exact Or.inr (Or.inr (Or.inr (Or.inr (Or.inr (Or.inr (Or.inr (Or.inr (Or.inr (Or.inl (Int32.toInt_inj.mp (by rw [h]; rfl)))))))))))
  · exact Or.inr (Or.inr (Or.inr (Or.inr (Or.inr (Or.inr (Or.inr (Or.inr (Or.inr (Or.inr (Or.inl (Int32.toInt_inj.mp (by rw [h]; rfl))))))))))))
  · exact Or.inr (Or.inr (Or.inr (Or.inr (Or.inr (Or.inr (Or.inr (Or.inr (Or.inr (Or.inr (Or.inr (Or.inl (Int32.toInt_inj.mp (by rw [h]; rfl)))))))))))))
  · exact Or.inr (Or.inr (Or.inr (Or.inr (Or.inr (Or.inr (Or.inr (Or.inr (Or.inr (Or.inr (Or.inr (Or.inr (Or.inl (Int32.toInt_inj.mp (by rw [h]; rfl))))))))))))))
  · exact Or.inr (Or.inr (Or.inr (Or.inr (Or.inr (Or.inr (Or.inr (Or.inr (Or.inr (Or.inr (Or.inr (Or.inr (Or.inr (Or.inl (Int32.toInt_inj.mp (by rw [h]; rfl)))))))))))))))
  · exact Or.inr (Or.inr (Or.inr (Or.inr (Or.inr (Or.inr (Or.inr (Or.inr (Or.inr (Or.inr (Or.inr (Or.inr (Or.inr (Or.inr (Or.inl (Int32.toInt_inj.mp (by rw [h]; rfl))))))))))))))))
  · exact Or.inr (Or.inr (Or.inr (Or.inr (Or.inr (Or.inr (Or.inr (Or.inr (Or.inr (Or.inr (Or.inr (Or.inr (Or.inr (Or.inr (Or.inr (Or.inl (Int32.toInt_inj.mp (by rw [h]; rfl)))))))))))))))))
  · exact Or.inr (Or.inr (Or.inr (Or.inr (Or.inr (Or.inr (Or.inr (Or.inr (Or.inr (Or.inr (Or.inr (Or.inr (Or.inr (Or.inr (Or.inr (Or.inr (Or.inl (Int32.toInt_inj.mp (by rw [h]; rfl))))))))))))))))))
  · exact Or.inr (Or.inr (Or.inr (Or.inr (Or.inr (Or.inr (Or.inr (Or.inr (Or.inr (Or.inr (Or.inr (Or.inr (Or.inr (Or.inr (Or.inr (Or.inr (Or.inr (Or.inl (Int32.toInt_inj.mp (by rw [h]; rfl)))))))))))))))))))
  · exact Or.inr (Or.inr (Or.inr (Or.inr (Or.inr (Or.inr (Or.inr (Or.inr (Or.inr (Or.inr (Or.inr (Or.inr (Or.inr (Or.inr (Or.inr (Or.inr (Or.inr (Or.inr (Or.inl (Int32.toInt_inj.mp (by rw [h]; rfl))))))))))))))))))))
  · exact Or.inr (Or.inr (Or.inr (Or.inr (Or.inr (Or.inr (Or.inr (Or.inr (Or.inr (Or.inr (Or.inr (Or.inr (Or.inr (Or.inr (Or.inr (Or.inr (Or.inr (Or.inr (Or.inr (Or.inl (Int32.toInt_inj.mp (by rw [h]; rfl)))))))))))))))))))))
  · exact Or.inr (Or.inr (Or.inr (Or.inr (Or.inr (Or.inr (Or.inr (Or.inr (Or.inr (Or.inr (Or.inr (Or.inr (Or.inr (Or.inr (Or.inr (Or.inr (Or.inr (Or.inr (Or.inr (Or.inr (Or.inl (Int32.toInt_inj.mp (by rw [h]; rfl))))))))))))))))))))))
  · exact Or.inr (Or.inr (Or.inr (Or.inr (Or.inr (Or.inr (Or.inr (Or.inr (Or.inr (Or.inr (Or.inr (Or.inr (Or.inr (Or.inr (Or.inr (Or.inr (Or.inr (Or.inr (Or.inr (Or.inr (Or.inr (Or.inl (Int32.toInt_inj.mp (by rw [h]; rfl)))))))))))))))))))))))
  · exact Or.inr (Or.inr (Or.inr (Or.inr (Or.inr (Or.inr (Or.inr (Or.inr (Or.inr (Or.inr (Or.inr (Or.inr (Or.inr (Or.inr (Or.inr (Or.inr (Or.inr (Or.inr (Or.inr (Or.inr (Or.inr (Or.inr (Or.inl (Int32.toInt_inj.mp (by rw [h]; rfl))))))))))))))))))))))))
  · exact Or.inr (Or.inr (Or.inr (Or.inr (Or.inr (Or.inr (Or.inr (Or.inr (Or.inr (Or.inr (Or.inr (Or.inr (Or.inr (Or.inr (Or.inr (Or.inr (Or.inr (Or.inr (Or.inr (Or.inr (Or.inr (Or.inr (Or.inr (Or.inl (Int32.toInt_inj.mp (by rw [h]; rfl)))))))))))))))))))))))))
  · exact Or.inr (Or.inr (Or.inr (Or.inr (Or.inr (Or.inr (Or.inr (Or.inr (Or.inr (Or.inr (Or.inr (Or.inr (Or.inr (Or.inr (Or.inr (Or.inr (Or.inr (Or.inr (Or.inr (Or.inr (Or.inr (Or.inr (Or.inr (Or.inr (Or.inl (Int32.toInt_inj.mp (by rw [h]; rfl))))))))))))))))))))))))))
  · exact Or.inr (Or.inr (Or.inr (Or.inr (Or.inr (Or.inr (Or.inr (Or.inr (Or.inr (Or.inr (Or.inr (Or.inr (Or.inr (Or.inr (Or.inr (Or.inr (Or.inr (Or.inr (Or.inr (Or.inr (Or.inr (Or.inr (Or.inr (Or.inr (Or.inr (Or.inl (Int32.toInt_inj.mp (by rw [h]; rfl)))))))))))))))))))))))))))
  · exact Or.inr (Or.inr (Or.inr (Or.inr (Or.inr (Or.inr (Or.inr (Or.inr (Or.inr (Or.inr (Or.inr (Or.inr (Or.inr (Or.inr (Or.inr (Or.inr (Or.inr (Or.inr (Or.inr (Or.inr (Or.inr (Or.inr (Or.inr (Or.inr (Or.inr (Or.inr (Or.inl (Int32.toInt_inj.mp (by rw [h]; rfl))))))))))))))))))))))))))))
  · exact Or.inr (Or.inr (Or.inr (Or.inr (Or.inr (Or.inr (Or.inr (Or.inr (Or.inr (Or.inr (Or.inr (Or.inr (Or.inr (Or.inr (Or.inr (Or.inr (Or.inr (Or.inr (Or.inr (Or.inr (Or.inr (Or.inr (Or.inr (Or.inr (Or.inr (Or.inr (Or.inr (Or.inl (Int32.toInt_inj.mp (by rw [h]; rfl)))))))))))))))))))))))))))))
  · exact Or.inr (Or.inr (Or.inr (Or.inr (Or.inr (Or.inr (Or.inr (Or.inr (Or.inr (Or.inr (Or.inr (Or.inr (Or.inr (Or.inr (Or.inr (Or.inr (Or.inr (Or.inr (Or.inr (Or.inr (Or.inr (Or.inr (Or.inr (Or.inr (Or.inr (Or.inr (Or.inr (Or.inr (Or.inl (Int32.toInt_inj.mp (by rw [h]; rfl))))))))))))))))))))))))))))))
  · exact Or.inr (Or.inr (Or.inr (Or.inr (Or.inr (Or.inr (Or.inr (Or.inr (Or.inr (Or.inr (Or.inr (Or.inr (Or.inr (Or.inr (Or.inr (Or.inr (Or.inr (Or.inr (Or.inr (Or.inr (Or.inr (Or.inr (Or.inr (Or.inr (Or.inr (Or.inr (Or.inr (Or.inr (Or.inr (Or.inl (Int32.toInt_inj.mp (by rw [h]; rfl)))))))))))))))))))))))))))))))
  · exact Or.inr (Or.inr (Or.inr (Or.inr (Or.inr (Or.inr (Or.inr (Or.inr (Or.inr (Or.inr (Or.inr (Or.inr (Or.inr (Or.inr (Or.inr (Or.inr (Or.inr (Or.inr (Or.inr (Or.inr (Or.inr (Or.inr (Or.inr (Or.inr (Or.inr (Or.inr (Or.inr (Or.inr (Or.inr (Or.inr (Or.inl (Int32.toInt_inj.mp (by rw [h]; rfl))))))))))))))))))))))))))))))))
  · exact Or.inr (Or.inr (Or.inr (Or.inr (Or.inr (Or.inr (Or.inr (Or.inr (Or.inr (Or.inr (Or.inr (Or.inr (Or.inr (Or.inr (Or.inr (Or.inr (Or.inr (Or.inr (Or.inr (Or.inr (Or.inr (Or.inr (Or.inr (Or.inr (Or.inr (Or.inr (Or.inr (Or.inr (Or.inr (Or.inr (Or.inr ((Int32.toInt_inj.mp (by rw [h]; rfl)))))))))))))))))))))))))))))))))
def own_F0 (Z : State) (h : Heap) (A : Nat → Addr) : Prop := (Sta Z h "com/example/locant/locant/AtomicType" "ANY_ATOMIC_TYPE" "Lcom/example/locant/locant/AtomicType;" (.ref (A 0))) ∧ (Exa Z h (A 0) "com/example/locant/locant/AtomicType") ∧ (Sta Z h "com/example/locant/locant/AtomicType" "UNTYPED_ATOMIC" "Lcom/example/locant/locant/AtomicType;" (.ref (A 1))) ∧ (Exa Z h (A 1) "com/example/locant/locant/AtomicType") ∧ (Sta Z h "com/example/locant/locant/AtomicType" "STRING" "Lcom/example/locant/locant/AtomicType;" (.ref (A 2))) ∧ (Exa Z h (A 2) "com/example/locant/locant/AtomicType") ∧ (Sta Z h "com/example/locant/locant/AtomicType" "NORMALIZED_STRING" "Lcom/example/locant/locant/AtomicType;" (.ref (A 3))) ∧ (Exa Z h (A 3) "com/example/locant/locant/AtomicType") ∧ (Sta Z h "com/example/locant/locant/AtomicType" "TOKEN" "Lcom/example/locant/locant/AtomicType;" (.ref (A 4))) ∧ (Exa Z h (A 4) "com/example/locant/locant/AtomicType") ∧ (Sta Z h "com/example/locant/locant/AtomicType" "LANGUAGE" "Lcom/example/locant/locant/AtomicType;" (.ref (A 5))) ∧ (Exa Z h (A 5) "com/example/locant/locant/AtomicType") ∧ (Sta Z h "com/example/locant/locant/AtomicType" "NMTOKEN" "Lcom/example/locant/locant/AtomicType;" (.ref (A 6))) ∧ (Exa Z h (A 6) "com/example/locant/locant/AtomicType") ∧ (Sta Z h "com/example/locant/locant/AtomicType" "NAME" "Lcom/example/locant/locant/AtomicType;" (.ref (A 7))) ∧ (Exa Z h (A 7) "com/example/locant/locant/AtomicType") ∧ (Sta Z h "com/example/locant/locant/AtomicType" "NCNAME" "Lcom/example/locant/locant/AtomicType;" (.ref (A 8))) ∧ (Exa Z h (A 8) "com/example/locant/locant/AtomicType") ∧ (Sta Z h "com/example/locant/locant/AtomicType" "ID" "Lcom/example/locant/locant/AtomicType;" (.ref (A 9))) ∧ (Exa Z h (A 9) "com/example/locant/locant/AtomicType") ∧ (Sta Z h "com/example/locant/locant/AtomicType" "IDREF" "Lcom/example/locant/locant/AtomicType;" (.ref (A 10))) ∧ (Exa Z h (A 10) "com/example/locant/locant/AtomicType") ∧ (Sta Z h "com/example/locant/locant/AtomicType" "ENTITY" "Lcom/example/locant/locant/AtomicType;" (.ref (A 11))) ∧ (Exa Z h (A 11) "com/example/locant/locant/AtomicType")
def own_F1 (Z : State) (h : Heap) (A : Nat → Addr) : Prop := (Sta Z h "com/example/locant/locant/AtomicType" "BOOLEAN" "Lcom/example/locant/locant/AtomicType;" (.ref (A 12))) ∧ (Exa Z h (A 12) "com/example/locant/locant/AtomicType") ∧ (Sta Z h "com/example/locant/locant/AtomicType" "ANY_URI" "Lcom/example/locant/locant/AtomicType;" (.ref (A 13))) ∧ (Exa Z h (A 13) "com/example/locant/locant/AtomicType") ∧ (Sta Z h "com/example/locant/locant/AtomicType" "QNAME" "Lcom/example/locant/locant/AtomicType;" (.ref (A 14))) ∧ (Exa Z h (A 14) "com/example/locant/locant/AtomicType") ∧ (Sta Z h "com/example/locant/locant/AtomicType" "NUMERIC" "Lcom/example/locant/locant/AtomicType;" (.ref (A 15))) ∧ (Exa Z h (A 15) "com/example/locant/locant/AtomicType") ∧ (Sta Z h "com/example/locant/locant/AtomicType" "DOUBLE" "Lcom/example/locant/locant/AtomicType;" (.ref (A 16))) ∧ (Exa Z h (A 16) "com/example/locant/locant/AtomicType") ∧ (Sta Z h "com/example/locant/locant/AtomicType" "FLOAT" "Lcom/example/locant/locant/AtomicType;" (.ref (A 17))) ∧ (Exa Z h (A 17) "com/example/locant/locant/AtomicType") ∧ (Sta Z h "com/example/locant/locant/AtomicType" "DECIMAL" "Lcom/example/locant/locant/AtomicType;" (.ref (A 18))) ∧ (Exa Z h (A 18) "com/example/locant/locant/AtomicType") ∧ (Sta Z h "com/example/locant/locant/AtomicType" "INTEGER" "Lcom/example/locant/locant/AtomicType;" (.ref (A 19))) ∧ (Exa Z h (A 19) "com/example/locant/locant/AtomicType") ∧ (Sta Z h "com/example/locant/locant/AtomicType" "NON_POSITIVE_INTEGER" "Lcom/example/locant/locant/AtomicType;" (.ref (A 20))) ∧ (Exa Z h (A 20) "com/example/locant/locant/AtomicType") ∧ (Sta Z h "com/example/locant/locant/AtomicType" "NEGATIVE_INTEGER" "Lcom/example/locant/locant/AtomicType;" (.ref (A 21))) ∧ (Exa Z h (A 21) "com/example/locant/locant/AtomicType") ∧ (Sta Z h "com/example/locant/locant/AtomicType" "LONG" "Lcom/example/locant/locant/AtomicType;" (.ref (A 22))) ∧ (Exa Z h (A 22) "com/example/locant/locant/AtomicType") ∧ (Sta Z h "com/example/locant/locant/AtomicType" "INT" "Lcom/example/locant/locant/AtomicType;" (.ref (A 23))) ∧ (Exa Z h (A 23) "com/example/locant/locant/AtomicType")
def own_F2 (Z : State) (h : Heap) (A : Nat → Addr) : Prop := (Sta Z h "com/example/locant/locant/AtomicType" "SHORT" "Lcom/example/locant/locant/AtomicType;" (.ref (A 24))) ∧ (Exa Z h (A 24) "com/example/locant/locant/AtomicType") ∧ (Sta Z h "com/example/locant/locant/AtomicType" "BYTE" "Lcom/example/locant/locant/AtomicType;" (.ref (A 25))) ∧ (Exa Z h (A 25) "com/example/locant/locant/AtomicType") ∧ (Sta Z h "com/example/locant/locant/AtomicType" "NON_NEGATIVE_INTEGER" "Lcom/example/locant/locant/AtomicType;" (.ref (A 26))) ∧ (Exa Z h (A 26) "com/example/locant/locant/AtomicType") ∧ (Sta Z h "com/example/locant/locant/AtomicType" "UNSIGNED_LONG" "Lcom/example/locant/locant/AtomicType;" (.ref (A 27))) ∧ (Exa Z h (A 27) "com/example/locant/locant/AtomicType") ∧ (Sta Z h "com/example/locant/locant/AtomicType" "UNSIGNED_INT" "Lcom/example/locant/locant/AtomicType;" (.ref (A 28))) ∧ (Exa Z h (A 28) "com/example/locant/locant/AtomicType") ∧ (Sta Z h "com/example/locant/locant/AtomicType" "UNSIGNED_SHORT" "Lcom/example/locant/locant/AtomicType;" (.ref (A 29))) ∧ (Exa Z h (A 29) "com/example/locant/locant/AtomicType") ∧ (Sta Z h "com/example/locant/locant/AtomicType" "UNSIGNED_BYTE" "Lcom/example/locant/locant/AtomicType;" (.ref (A 30))) ∧ (Exa Z h (A 30) "com/example/locant/locant/AtomicType") ∧ (Sta Z h "com/example/locant/locant/AtomicType" "POSITIVE_INTEGER" "Lcom/example/locant/locant/AtomicType;" (.ref (A 31))) ∧ (Exa Z h (A 31) "com/example/locant/locant/AtomicType") ∧ (Fld Z h (A 0) "com/example/locant/locant/AtomicType" "mBase" "Lcom/example/locant/locant/AtomicType;" .null) ∧ (Fld Z h (A 3) "com/example/locant/locant/AtomicType" "mBase" "Lcom/example/locant/locant/AtomicType;" (.ref (A 2))) ∧ (Fld Z h (A 2) "java/lang/Enum" "ordinal" "I" (.int 2)) ∧ (Fld Z h (A 0) "java/lang/Enum" "ordinal" "I" (.int 0)) ∧ (Fld Z h (A 2) "com/example/locant/locant/AtomicType" "mBase" "Lcom/example/locant/locant/AtomicType;" (.ref (A 0))) ∧ (Fld Z h (A 14) "com/example/locant/locant/AtomicType" "mBase" "Lcom/example/locant/locant/AtomicType;" (.ref (A 0))) ∧ (Fld Z h (A 15) "com/example/locant/locant/AtomicType" "mBase" "Lcom/example/locant/locant/AtomicType;" (.ref (A 0))) ∧ (Fld Z h (A 10) "com/example/locant/locant/AtomicType" "mBase" "Lcom/example/locant/locant/AtomicType;" (.ref (A 8)))
def own_F3 (Z : State) (h : Heap) (A : Nat → Addr) : Prop := (Fld Z h (A 8) "java/lang/Enum" "ordinal" "I" (.int 8)) ∧ (Fld Z h (A 8) "com/example/locant/locant/AtomicType" "mBase" "Lcom/example/locant/locant/AtomicType;" (.ref (A 7))) ∧ (Fld Z h (A 7) "java/lang/Enum" "ordinal" "I" (.int 7)) ∧ (Fld Z h (A 7) "com/example/locant/locant/AtomicType" "mBase" "Lcom/example/locant/locant/AtomicType;" (.ref (A 4))) ∧ (Fld Z h (A 4) "java/lang/Enum" "ordinal" "I" (.int 4)) ∧ (Fld Z h (A 4) "com/example/locant/locant/AtomicType" "mBase" "Lcom/example/locant/locant/AtomicType;" (.ref (A 3))) ∧ (Fld Z h (A 3) "java/lang/Enum" "ordinal" "I" (.int 3)) ∧ (Fld Z h (A 11) "com/example/locant/locant/AtomicType" "mBase" "Lcom/example/locant/locant/AtomicType;" (.ref (A 8))) ∧ (Fld Z h (A 1) "com/example/locant/locant/AtomicType" "mBase" "Lcom/example/locant/locant/AtomicType;" (.ref (A 0))) ∧ (Fld Z h (A 23) "com/example/locant/locant/AtomicType" "mBase" "Lcom/example/locant/locant/AtomicType;" (.ref (A 22))) ∧ (Fld Z h (A 22) "java/lang/Enum" "ordinal" "I" (.int 22)) ∧ (Fld Z h (A 22) "com/example/locant/locant/AtomicType" "mBase" "Lcom/example/locant/locant/AtomicType;" (.ref (A 19))) ∧ (Fld Z h (A 19) "java/lang/Enum" "ordinal" "I" (.int 19)) ∧ (Fld Z h (A 19) "com/example/locant/locant/AtomicType" "mBase" "Lcom/example/locant/locant/AtomicType;" (.ref (A 18))) ∧ (Fld Z h (A 18) "java/lang/Enum" "ordinal" "I" (.int 18)) ∧ (Fld Z h (A 18) "com/example/locant/locant/AtomicType" "mBase" "Lcom/example/locant/locant/AtomicType;" (.ref (A 0))) ∧ (Fld Z h (A 24) "com/example/locant/locant/AtomicType" "mBase" "Lcom/example/locant/locant/AtomicType;" (.ref (A 23))) ∧ (Fld Z h (A 23) "java/lang/Enum" "ordinal" "I" (.int 23)) ∧ (Fld Z h (A 17) "com/example/locant/locant/AtomicType" "mBase" "Lcom/example/locant/locant/AtomicType;" (.ref (A 0))) ∧ (Fld Z h (A 16) "com/example/locant/locant/AtomicType" "mBase" "Lcom/example/locant/locant/AtomicType;" (.ref (A 0))) ∧ (Fld Z h (A 31) "com/example/locant/locant/AtomicType" "mBase" "Lcom/example/locant/locant/AtomicType;" (.ref (A 26))) ∧ (Fld Z h (A 26) "java/lang/Enum" "ordinal" "I" (.int 26)) ∧ (Fld Z h (A 26) "com/example/locant/locant/AtomicType" "mBase" "Lcom/example/locant/locant/AtomicType;" (.ref (A 19))) ∧ (Fld Z h (A 30) "com/example/locant/locant/AtomicType" "mBase" "Lcom/example/locant/locant/AtomicType;" (.ref (A 29)))
def own_F4 (Z : State) (h : Heap) (A : Nat → Addr) : Prop := (Fld Z h (A 29) "java/lang/Enum" "ordinal" "I" (.int 29)) ∧ (Fld Z h (A 29) "com/example/locant/locant/AtomicType" "mBase" "Lcom/example/locant/locant/AtomicType;" (.ref (A 28))) ∧ (Fld Z h (A 28) "java/lang/Enum" "ordinal" "I" (.int 28)) ∧ (Fld Z h (A 28) "com/example/locant/locant/AtomicType" "mBase" "Lcom/example/locant/locant/AtomicType;" (.ref (A 27))) ∧ (Fld Z h (A 27) "java/lang/Enum" "ordinal" "I" (.int 27)) ∧ (Fld Z h (A 27) "com/example/locant/locant/AtomicType" "mBase" "Lcom/example/locant/locant/AtomicType;" (.ref (A 26))) ∧ (Fld Z h (A 12) "com/example/locant/locant/AtomicType" "mBase" "Lcom/example/locant/locant/AtomicType;" (.ref (A 0))) ∧ (Fld Z h (A 6) "com/example/locant/locant/AtomicType" "mBase" "Lcom/example/locant/locant/AtomicType;" (.ref (A 4))) ∧ (Fld Z h (A 9) "com/example/locant/locant/AtomicType" "mBase" "Lcom/example/locant/locant/AtomicType;" (.ref (A 8))) ∧ (Fld Z h (A 13) "com/example/locant/locant/AtomicType" "mBase" "Lcom/example/locant/locant/AtomicType;" (.ref (A 0))) ∧ (Fld Z h (A 25) "com/example/locant/locant/AtomicType" "mBase" "Lcom/example/locant/locant/AtomicType;" (.ref (A 24))) ∧ (Fld Z h (A 24) "java/lang/Enum" "ordinal" "I" (.int 24)) ∧ (Fld Z h (A 5) "com/example/locant/locant/AtomicType" "mBase" "Lcom/example/locant/locant/AtomicType;" (.ref (A 4))) ∧ (Fld Z h (A 21) "com/example/locant/locant/AtomicType" "mBase" "Lcom/example/locant/locant/AtomicType;" (.ref (A 20))) ∧ (Fld Z h (A 20) "java/lang/Enum" "ordinal" "I" (.int 20)) ∧ (Fld Z h (A 20) "com/example/locant/locant/AtomicType" "mBase" "Lcom/example/locant/locant/AtomicType;" (.ref (A 19)))
def own_F (Z : State) (h : Heap) (A : Nat → Addr) : Prop := own_F0 Z h A ∧ own_F1 Z h A ∧ own_F2 Z h A ∧ own_F3 Z h A ∧ own_F4 Z h A
set_option maxRecDepth 65536 in
theorem sk_0 (p : Program) (l : Launch) (e : Env) (R : Room) (s : State) (m : MethodId) (args : Array Value) (below : List Frame) (meth : Method) (c : Code) (Z : State) (a0 : Array Value) (h : Heap) (hw : ∀ d ∈ tables_1, d.before a0 Z = true) (k : Int32) (u : Value) (q : ¬ k = 0) (K : own_C p s m meth c Z method_3_code "com/example/locant/locant/AtomicTypePrimitivePinLaw" (.object "com/example/locant/locant/AtomicType") 1) (r : own_E p l e R s m args below meth c h 8 #[.val (.int k)] [] u) :
    own_E p l e R s m args below meth c h 0 #[.val (.int k)] [] u := by
  refine own_iloadN K (pc := 0) d1_0 rfl ?_
  refine own_ifY K (pc := 1) (pc' := 8) d1_1 (by rw [if0]; exact (feq q).2) (by decide) (by decide) ?_
  exact r
set_option maxRecDepth 65536 in
theorem hi_0 (p : Program) (l : Launch) (e : Env) (R : Room) (s : State) (m : MethodId) (args : Array Value) (below : List Frame) (meth : Method) (c : Code) (Z : State) (a0 : Array Value) (h : Heap) (hw : ∀ d ∈ tables_1, d.before a0 Z = true) (A : Nat → Addr) (F : own_F Z h A) (K : own_C p s m meth c Z method_3_code "com/example/locant/locant/AtomicTypePrimitivePinLaw" (.object "com/example/locant/locant/AtomicType") 1) :
    own_E p l e R s m args below meth c h 0 #[.val (.int (0 : Int32))] [] (.ref (A 0)) := by
  refine own_iloadN K (pc := 0) d1_0 rfl ?_
  refine own_ifN K (pc := 1) d1_1 (by decide) ?_
  refine own_getS K (pc := 4) (hw _ (List.mem_of_getElem? (i := 4) rfl)) F.1.1 d1_4 ?_
  exact own_retA K (pc := 7) d1_7 rfl rfl rfl
set_option maxRecDepth 65536 in
theorem sk_1 (p : Program) (l : Launch) (e : Env) (R : Room) (s : State) (m : MethodId) (args : Array Value) (below : List Frame) (meth : Method) (c : Code) (Z : State) (a0 : Array Value) (h : Heap) (hw : ∀ d ∈ tables_1, d.before a0 Z = true) (k : Int32) (u : Value) (q : ¬ k = 1) (K : own_C p s m meth c Z method_3_code "com/example/locant/locant/AtomicTypePrimitivePinLaw" (.object "com/example/locant/locant/AtomicType") 1) (r : own_E p l e R s m args below meth c h 17 #[.val (.int k)] [] u) :
    own_E p l e R s m args below meth c h 8 #[.val (.int k)] [] u := by
  refine own_iloadN K (pc := 8) d1_8 rfl ?_
  refine own_iconst K (pc := 9) d1_9 (x := (1 : Int32)) (by decide) ?_
  refine own_icmpY K (pc := 10) (pc' := 17) d1_10 (feq q).2 (by decide) (by decide) ?_
  exact r
set_option maxRecDepth 65536 in
theorem hi_1 (p : Program) (l : Launch) (e : Env) (R : Room) (s : State) (m : MethodId) (args : Array Value) (below : List Frame) (meth : Method) (c : Code) (Z : State) (a0 : Array Value) (h : Heap) (hw : ∀ d ∈ tables_1, d.before a0 Z = true) (A : Nat → Addr) (F : own_F Z h A) (K : own_C p s m meth c Z method_3_code "com/example/locant/locant/AtomicTypePrimitivePinLaw" (.object "com/example/locant/locant/AtomicType") 1) :
    own_E p l e R s m args below meth c h 8 #[.val (.int (1 : Int32))] [] (.ref (A 1)) := by
  refine own_iloadN K (pc := 8) d1_8 rfl ?_
  refine own_iconst K (pc := 9) d1_9 (x := (1 : Int32)) (by decide) ?_
  refine own_icmpN K (pc := 10) d1_10 (by decide) ?_
  refine own_getS K (pc := 13) (hw _ (List.mem_of_getElem? (i := 32) rfl)) F.1.2.2.1 d1_13 ?_
  exact own_retA K (pc := 16) d1_16 rfl rfl rfl
set_option maxRecDepth 65536 in
theorem sk_2 (p : Program) (l : Launch) (e : Env) (R : Room) (s : State) (m : MethodId) (args : Array Value) (below : List Frame) (meth : Method) (c : Code) (Z : State) (a0 : Array Value) (h : Heap) (hw : ∀ d ∈ tables_1, d.before a0 Z = true) (k : Int32) (u : Value) (q : ¬ k = 2) (K : own_C p s m meth c Z method_3_code "com/example/locant/locant/AtomicTypePrimitivePinLaw" (.object "com/example/locant/locant/AtomicType") 1) (r : own_E p l e R s m args below meth c h 26 #[.val (.int k)] [] u) :
    own_E p l e R s m args below meth c h 17 #[.val (.int k)] [] u := by
  refine own_iloadN K (pc := 17) d1_17 rfl ?_
  refine own_iconst K (pc := 18) d1_18 (x := (2 : Int32)) (by decide) ?_
  refine own_icmpY K (pc := 19) (pc' := 26) d1_19 (feq q).2 (by decide) (by decide) ?_
  exact r
set_option maxRecDepth 65536 in
theorem hi_2 (p : Program) (l : Launch) (e : Env) (R : Room) (s : State) (m : MethodId) (args : Array Value) (below : List Frame) (meth : Method) (c : Code) (Z : State) (a0 : Array Value) (h : Heap) (hw : ∀ d ∈ tables_1, d.before a0 Z = true) (A : Nat → Addr) (F : own_F Z h A) (K : own_C p s m meth c Z method_3_code "com/example/locant/locant/AtomicTypePrimitivePinLaw" (.object "com/example/locant/locant/AtomicType") 1) :
    own_E p l e R s m args below meth c h 17 #[.val (.int (2 : Int32))] [] (.ref (A 2)) := by
  refine own_iloadN K (pc := 17) d1_17 rfl ?_
  refine own_iconst K (pc := 18) d1_18 (x := (2 : Int32)) (by decide) ?_
  refine own_icmpN K (pc := 19) d1_19 (by decide) ?_
  refine own_getS K (pc := 22) (hw _ (List.mem_of_getElem? (i := 16) rfl)) F.1.2.2.2.2.1 d1_22 ?_
  exact own_retA K (pc := 25) d1_25 rfl rfl rfl
set_option maxRecDepth 65536 in
theorem sk_3 (p : Program) (l : Launch) (e : Env) (R : Room) (s : State) (m : MethodId) (args : Array Value) (below : List Frame) (meth : Method) (c : Code) (Z : State) (a0 : Array Value) (h : Heap) (hw : ∀ d ∈ tables_1, d.before a0 Z = true) (k : Int32) (u : Value) (q : ¬ k = 3) (K : own_C p s m meth c Z method_3_code "com/example/locant/locant/AtomicTypePrimitivePinLaw" (.object "com/example/locant/locant/AtomicType") 1) (r : own_E p l e R s m args below meth c h 35 #[.val (.int k)] [] u) :
    own_E p l e R s m args below meth c h 26 #[.val (.int k)] [] u := by
  refine own_iloadN K (pc := 26) d1_26 rfl ?_
  refine own_iconst K (pc := 27) d1_27 (x := (3 : Int32)) (by decide) ?_
  refine own_icmpY K (pc := 28) (pc' := 35) d1_28 (feq q).2 (by decide) (by decide) ?_
  exact r
set_option maxRecDepth 65536 in
theorem hi_3 (p : Program) (l : Launch) (e : Env) (R : Room) (s : State) (m : MethodId) (args : Array Value) (below : List Frame) (meth : Method) (c : Code) (Z : State) (a0 : Array Value) (h : Heap) (hw : ∀ d ∈ tables_1, d.before a0 Z = true) (A : Nat → Addr) (F : own_F Z h A) (K : own_C p s m meth c Z method_3_code "com/example/locant/locant/AtomicTypePrimitivePinLaw" (.object "com/example/locant/locant/AtomicType") 1) :
    own_E p l e R s m args below meth c h 26 #[.val (.int (3 : Int32))] [] (.ref (A 3)) := by
  refine own_iloadN K (pc := 26) d1_26 rfl ?_
  refine own_iconst K (pc := 27) d1_27 (x := (3 : Int32)) (by decide) ?_
  refine own_icmpN K (pc := 28) d1_28 (by decide) ?_
  refine own_getS K (pc := 31) (hw _ (List.mem_of_getElem? (i := 14) rfl)) F.1.2.2.2.2.2.2.1 d1_31 ?_
  exact own_retA K (pc := 34) d1_34 rfl rfl rfl
set_option maxRecDepth 65536 in
theorem sk_4 (p : Program) (l : Launch) (e : Env) (R : Room) (s : State) (m : MethodId) (args : Array Value) (below : List Frame) (meth : Method) (c : Code) (Z : State) (a0 : Array Value) (h : Heap) (hw : ∀ d ∈ tables_1, d.before a0 Z = true) (k : Int32) (u : Value) (q : ¬ k = 4) (K : own_C p s m meth c Z method_3_code "com/example/locant/locant/AtomicTypePrimitivePinLaw" (.object "com/example/locant/locant/AtomicType") 1) (r : own_E p l e R s m args below meth c h 44 #[.val (.int k)] [] u) :
    own_E p l e R s m args below meth c h 35 #[.val (.int k)] [] u := by
  refine own_iloadN K (pc := 35) d1_35 rfl ?_
  refine own_iconst K (pc := 36) d1_36 (x := (4 : Int32)) (by decide) ?_
  refine own_icmpY K (pc := 37) (pc' := 44) d1_37 (feq q).2 (by decide) (by decide) ?_
  exact r
set_option maxRecDepth 65536 in
theorem hi_4 (p : Program) (l : Launch) (e : Env) (R : Room) (s : State) (m : MethodId) (args : Array Value) (below : List Frame) (meth : Method) (c : Code) (Z : State) (a0 : Array Value) (h : Heap) (hw : ∀ d ∈ tables_1, d.before a0 Z = true) (A : Nat → Addr) (F : own_F Z h A) (K : own_C p s m meth c Z method_3_code "com/example/locant/locant/AtomicTypePrimitivePinLaw" (.object "com/example/locant/locant/AtomicType") 1) :
    own_E p l e R s m args below meth c h 35 #[.val (.int (4 : Int32))] [] (.ref (A 4)) := by
  refine own_iloadN K (pc := 35) d1_35 rfl ?_
  refine own_iconst K (pc := 36) d1_36 (x := (4 : Int32)) (by decide) ?_
  refine own_icmpN K (pc := 37) d1_37 (by decide) ?_
  refine own_getS K (pc := 40) (hw _ (List.mem_of_getElem? (i := 47) rfl)) F.1.2.2.2.2.2.2.2.2.1 d1_40 ?_
  exact own_retA K (pc := 43) d1_43 rfl rfl rfl
set_option maxRecDepth 65536 in
theorem sk_5 (p : Program) (l : Launch) (e : Env) (R : Room) (s : State) (m : MethodId) (args : Array Value) (below : List Frame) (meth : Method) (c : Code) (Z : State) (a0 : Array Value) (h : Heap) (hw : ∀ d ∈ tables_1, d.before a0 Z = true) (k : Int32) (u : Value) (q : ¬ k = 5) (K : own_C p s m meth c Z method_3_code "com/example/locant/locant/AtomicTypePrimitivePinLaw" (.object "com/example/locant/locant/AtomicType") 1) (r : own_E p l e R s m args below meth c h 53 #[.val (.int k)] [] u) :
    own_E p l e R s m args below meth c h 44 #[.val (.int k)] [] u := by
  refine own_iloadN K (pc := 44) d1_44 rfl ?_
  refine own_iconst K (pc := 45) d1_45 (x := (5 : Int32)) (by decide) ?_
  refine own_icmpY K (pc := 46) (pc' := 53) d1_46 (feq q).2 (by decide) (by decide) ?_
  exact r
set_option maxRecDepth 65536 in
theorem hi_5 (p : Program) (l : Launch) (e : Env) (R : Room) (s : State) (m : MethodId) (args : Array Value) (below : List Frame) (meth : Method) (c : Code) (Z : State) (a0 : Array Value) (h : Heap) (hw : ∀ d ∈ tables_1, d.before a0 Z = true) (A : Nat → Addr) (F : own_F Z h A) (K : own_C p s m meth c Z method_3_code "com/example/locant/locant/AtomicTypePrimitivePinLaw" (.object "com/example/locant/locant/AtomicType") 1) :
    own_E p l e R s m args below meth c h 44 #[.val (.int (5 : Int32))] [] (.ref (A 5)) := by
  refine own_iloadN K (pc := 44) d1_44 rfl ?_
  refine own_iconst K (pc := 45) d1_45 (x := (5 : Int32)) (by decide) ?_
  refine own_icmpN K (pc := 46) d1_46 (by decide) ?_
  refine own_getS K (pc := 49) (hw _ (List.mem_of_getElem? (i := 68) rfl)) F.1.2.2.2.2.2.2.2.2.2.2.1 d1_49 ?_
  exact own_retA K (pc := 52) d1_52 rfl rfl rfl
set_option maxRecDepth 65536 in
theorem sk_6 (p : Program) (l : Launch) (e : Env) (R : Room) (s : State) (m : MethodId) (args : Array Value) (below : List Frame) (meth : Method) (c : Code) (Z : State) (a0 : Array Value) (h : Heap) (hw : ∀ d ∈ tables_1, d.before a0 Z = true) (k : Int32) (u : Value) (q : ¬ k = 6) (K : own_C p s m meth c Z method_3_code "com/example/locant/locant/AtomicTypePrimitivePinLaw" (.object "com/example/locant/locant/AtomicType") 1) (r : own_E p l e R s m args below meth c h 63 #[.val (.int k)] [] u) :
    own_E p l e R s m args below meth c h 53 #[.val (.int k)] [] u := by
  refine own_iloadN K (pc := 53) d1_53 rfl ?_
  refine own_bipush K (pc := 54) d1_54 (x := (6 : Int32)) (by decide) ?_
  refine own_icmpY K (pc := 56) (pc' := 63) d1_56 (feq q).2 (by decide) (by decide) ?_
  exact r
set_option maxRecDepth 65536 in
theorem hi_6 (p : Program) (l : Launch) (e : Env) (R : Room) (s : State) (m : MethodId) (args : Array Value) (below : List Frame) (meth : Method) (c : Code) (Z : State) (a0 : Array Value) (h : Heap) (hw : ∀ d ∈ tables_1, d.before a0 Z = true) (A : Nat → Addr) (F : own_F Z h A) (K : own_C p s m meth c Z method_3_code "com/example/locant/locant/AtomicTypePrimitivePinLaw" (.object "com/example/locant/locant/AtomicType") 1) :
    own_E p l e R s m args below meth c h 53 #[.val (.int (6 : Int32))] [] (.ref (A 6)) := by
  refine own_iloadN K (pc := 53) d1_53 rfl ?_
  refine own_bipush K (pc := 54) d1_54 (x := (6 : Int32)) (by decide) ?_
  refine own_icmpN K (pc := 56) d1_56 (by decide) ?_
  refine own_getS K (pc := 59) (hw _ (List.mem_of_getElem? (i := 60) rfl)) F.1.2.2.2.2.2.2.2.2.2.2.2.2.1 d1_59 ?_
  exact own_retA K (pc := 62) d1_62 rfl rfl rfl
set_option maxRecDepth 65536 in
theorem sk_7 (p : Program) (l : Launch) (e : Env) (R : Room) (s : State) (m : MethodId) (args : Array Value) (below : List Frame) (meth : Method) (c : Code) (Z : State) (a0 : Array Value) (h : Heap) (hw : ∀ d ∈ tables_1, d.before a0 Z = true) (k : Int32) (u : Value) (q : ¬ k = 7) (K : own_C p s m meth c Z method_3_code "com/example/locant/locant/AtomicTypePrimitivePinLaw" (.object "com/example/locant/locant/AtomicType") 1) (r : own_E p l e R s m args below meth c h 73 #[.val (.int k)] [] u) :
    own_E p l e R s m args below meth c h 63 #[.val (.int k)] [] u := by
  refine own_iloadN K (pc := 63) d1_63 rfl ?_
  refine own_bipush K (pc := 64) d1_64 (x := (7 : Int32)) (by decide) ?_
  refine own_icmpY K (pc := 66) (pc' := 73) d1_66 (feq q).2 (by decide) (by decide) ?_
  exact r
set_option maxRecDepth 65536 in
theorem hi_7 (p : Program) (l : Launch) (e : Env) (R : Room) (s : State) (m : MethodId) (args : Array Value) (below : List Frame) (meth : Method) (c : Code) (Z : State) (a0 : Array Value) (h : Heap) (hw : ∀ d ∈ tables_1, d.before a0 Z = true) (A : Nat → Addr) (F : own_F Z h A) (K : own_C p s m meth c Z method_3_code "com/example/locant/locant/AtomicTypePrimitivePinLaw" (.object "com/example/locant/locant/AtomicType") 1) :
    own_E p l e R s m args below meth c h 63 #[.val (.int (7 : Int32))] [] (.ref (A 7)) := by
  refine own_iloadN K (pc := 63) d1_63 rfl ?_
  refine own_bipush K (pc := 64) d1_64 (x := (7 : Int32)) (by decide) ?_
  refine own_icmpN K (pc := 66) d1_66 (by decide) ?_
  refine own_getS K (pc := 69) (hw _ (List.mem_of_getElem? (i := 28) rfl)) F.1.2.2.2.2.2.2.2.2.2.2.2.2.2.2.1 d1_69 ?_
  exact own_retA K (pc := 72) d1_72 rfl rfl rfl
set_option maxRecDepth 65536 in
theorem sk_8 (p : Program) (l : Launch) (e : Env) (R : Room) (s : State) (m : MethodId) (args : Array Value) (below : List Frame) (meth : Method) (c : Code) (Z : State) (a0 : Array Value) (h : Heap) (hw : ∀ d ∈ tables_1, d.before a0 Z = true) (k : Int32) (u : Value) (q : ¬ k = 8) (K : own_C p s m meth c Z method_3_code "com/example/locant/locant/AtomicTypePrimitivePinLaw" (.object "com/example/locant/locant/AtomicType") 1) (r : own_E p l e R s m args below meth c h 83 #[.val (.int k)] [] u) :
    own_E p l e R s m args below meth c h 73 #[.val (.int k)] [] u := by
  refine own_iloadN K (pc := 73) d1_73 rfl ?_
  refine own_bipush K (pc := 74) d1_74 (x := (8 : Int32)) (by decide) ?_
  refine own_icmpY K (pc := 76) (pc' := 83) d1_76 (feq q).2 (by decide) (by decide) ?_
  exact r
set_option maxRecDepth 65536 in
theorem hi_8 (p : Program) (l : Launch) (e : Env) (R : Room) (s : State) (m : MethodId) (args : Array Value) (below : List Frame) (meth : Method) (c : Code) (Z : State) (a0 : Array Value) (h : Heap) (hw : ∀ d ∈ tables_1, d.before a0 Z = true) (A : Nat → Addr) (F : own_F Z h A) (K : own_C p s m meth c Z method_3_code "com/example/locant/locant/AtomicTypePrimitivePinLaw" (.object "com/example/locant/locant/AtomicType") 1) :
    own_E p l e R s m args below meth c h 73 #[.val (.int (8 : Int32))] [] (.ref (A 8)) := by
  refine own_iloadN K (pc := 73) d1_73 rfl ?_
  refine own_bipush K (pc := 74) d1_74 (x := (8 : Int32)) (by decide) ?_
  refine own_icmpN K (pc := 76) d1_76 (by decide) ?_
  refine own_getS K (pc := 79) (hw _ (List.mem_of_getElem? (i := 31) rfl)) F.1.2.2.2.2.2.2.2.2.2.2.2.2.2.2.2.2.1 d1_79 ?_
  exact own_retA K (pc := 82) d1_82 rfl rfl rfl
set_option maxRecDepth 65536 in
theorem sk_9 (p : Program) (l : Launch) (e : Env) (R : Room) (s : State) (m : MethodId) (args : Array Value) (below : List Frame) (meth : Method) (c : Code) (Z : State) (a0 : Array Value) (h : Heap) (hw : ∀ d ∈ tables_1, d.before a0 Z = true) (k : Int32) (u : Value) (q : ¬ k = 9) (K : own_C p s m meth c Z method_3_code "com/example/locant/locant/AtomicTypePrimitivePinLaw" (.object "com/example/locant/locant/AtomicType") 1) (r : own_E p l e R s m args below meth c h 93 #[.val (.int k)] [] u) :
    own_E p l e R s m args below meth c h 83 #[.val (.int k)] [] u := by
  refine own_iloadN K (pc := 83) d1_83 rfl ?_
  refine own_bipush K (pc := 84) d1_84 (x := (9 : Int32)) (by decide) ?_
  refine own_icmpY K (pc := 86) (pc' := 93) d1_86 (feq q).2 (by decide) (by decide) ?_
  exact r
set_option maxRecDepth 65536 in
theorem hi_9 (p : Program) (l : Launch) (e : Env) (R : Room) (s : State) (m : MethodId) (args : Array Value) (below : List Frame) (meth : Method) (c : Code) (Z : State) (a0 : Array Value) (h : Heap) (hw : ∀ d ∈ tables_1, d.before a0 Z = true) (A : Nat → Addr) (F : own_F Z h A) (K : own_C p s m meth c Z method_3_code "com/example/locant/locant/AtomicTypePrimitivePinLaw" (.object "com/example/locant/locant/AtomicType") 1) :
    own_E p l e R s m args below meth c h 83 #[.val (.int (9 : Int32))] [] (.ref (A 9)) := by
  refine own_iloadN K (pc := 83) d1_83 rfl ?_
  refine own_bipush K (pc := 84) d1_84 (x := (9 : Int32)) (by decide) ?_
  refine own_icmpN K (pc := 86) d1_86 (by decide) ?_
  refine own_getS K (pc := 89) (hw _ (List.mem_of_getElem? (i := 62) rfl)) F.1.2.2.2.2.2.2.2.2.2.2.2.2.2.2.2.2.2.2.1 d1_89 ?_
  exact own_retA K (pc := 92) d1_92 rfl rfl rfl
set_option maxRecDepth 65536 in
theorem sk_10 (p : Program) (l : Launch) (e : Env) (R : Room) (s : State) (m : MethodId) (args : Array Value) (below : List Frame) (meth : Method) (c : Code) (Z : State) (a0 : Array Value) (h : Heap) (hw : ∀ d ∈ tables_1, d.before a0 Z = true) (k : Int32) (u : Value) (q : ¬ k = 10) (K : own_C p s m meth c Z method_3_code "com/example/locant/locant/AtomicTypePrimitivePinLaw" (.object "com/example/locant/locant/AtomicType") 1) (r : own_E p l e R s m args below meth c h 103 #[.val (.int k)] [] u) :
    own_E p l e R s m args below meth c h 93 #[.val (.int k)] [] u := by
  refine own_iloadN K (pc := 93) d1_93 rfl ?_
  refine own_bipush K (pc := 94) d1_94 (x := (10 : Int32)) (by decide) ?_
  refine own_icmpY K (pc := 96) (pc' := 103) d1_96 (feq q).2 (by decide) (by decide) ?_
  exact r
set_option maxRecDepth 65536 in
theorem hi_10 (p : Program) (l : Launch) (e : Env) (R : Room) (s : State) (m : MethodId) (args : Array Value) (below : List Frame) (meth : Method) (c : Code) (Z : State) (a0 : Array Value) (h : Heap) (hw : ∀ d ∈ tables_1, d.before a0 Z = true) (A : Nat → Addr) (F : own_F Z h A) (K : own_C p s m meth c Z method_3_code "com/example/locant/locant/AtomicTypePrimitivePinLaw" (.object "com/example/locant/locant/AtomicType") 1) :
    own_E p l e R s m args below meth c h 93 #[.val (.int (10 : Int32))] [] (.ref (A 10)) := by
  refine own_iloadN K (pc := 93) d1_93 rfl ?_
  refine own_bipush K (pc := 94) d1_94 (x := (10 : Int32)) (by decide) ?_
  refine own_icmpN K (pc := 96) d1_96 (by decide) ?_
  refine own_getS K (pc := 99) (hw _ (List.mem_of_getElem? (i := 23) rfl)) F.1.2.2.2.2.2.2.2.2.2.2.2.2.2.2.2.2.2.2.2.2.1 d1_99 ?_
  exact own_retA K (pc := 102) d1_102 rfl rfl rfl
set_option maxRecDepth 65536 in
theorem sk_11 (p : Program) (l : Launch) (e : Env) (R : Room) (s : State) (m : MethodId) (args : Array Value) (below : List Frame) (meth : Method) (c : Code) (Z : State) (a0 : Array Value) (h : Heap) (hw : ∀ d ∈ tables_1, d.before a0 Z = true) (k : Int32) (u : Value) (q : ¬ k = 11) (K : own_C p s m meth c Z method_3_code "com/example/locant/locant/AtomicTypePrimitivePinLaw" (.object "com/example/locant/locant/AtomicType") 1) (r : own_E p l e R s m args below meth c h 113 #[.val (.int k)] [] u) :
    own_E p l e R s m args below meth c h 103 #[.val (.int k)] [] u := by
  refine own_iloadN K (pc := 103) d1_103 rfl ?_
  refine own_bipush K (pc := 104) d1_104 (x := (11 : Int32)) (by decide) ?_
  refine own_icmpY K (pc := 106) (pc' := 113) d1_106 (feq q).2 (by decide) (by decide) ?_
  exact r
set_option maxRecDepth 65536 in
theorem hi_11 (p : Program) (l : Launch) (e : Env) (R : Room) (s : State) (m : MethodId) (args : Array Value) (below : List Frame) (meth : Method) (c : Code) (Z : State) (a0 : Array Value) (h : Heap) (hw : ∀ d ∈ tables_1, d.before a0 Z = true) (A : Nat → Addr) (F : own_F Z h A) (K : own_C p s m meth c Z method_3_code "com/example/locant/locant/AtomicTypePrimitivePinLaw" (.object "com/example/locant/locant/AtomicType") 1) :
    own_E p l e R s m args below meth c h 103 #[.val (.int (11 : Int32))] [] (.ref (A 11)) := by
  refine own_iloadN K (pc := 103) d1_103 rfl ?_
  refine own_bipush K (pc := 104) d1_104 (x := (11 : Int32)) (by decide) ?_
  refine own_icmpN K (pc := 106) d1_106 (by decide) ?_
  refine own_getS K (pc := 109) (hw _ (List.mem_of_getElem? (i := 29) rfl)) F.1.2.2.2.2.2.2.2.2.2.2.2.2.2.2.2.2.2.2.2.2.2.2.1 d1_109 ?_
  exact own_retA K (pc := 112) d1_112 rfl rfl rfl
set_option maxRecDepth 65536 in
theorem sk_12 (p : Program) (l : Launch) (e : Env) (R : Room) (s : State) (m : MethodId) (args : Array Value) (below : List Frame) (meth : Method) (c : Code) (Z : State) (a0 : Array Value) (h : Heap) (hw : ∀ d ∈ tables_1, d.before a0 Z = true) (k : Int32) (u : Value) (q : ¬ k = 12) (K : own_C p s m meth c Z method_3_code "com/example/locant/locant/AtomicTypePrimitivePinLaw" (.object "com/example/locant/locant/AtomicType") 1) (r : own_E p l e R s m args below meth c h 123 #[.val (.int k)] [] u) :
    own_E p l e R s m args below meth c h 113 #[.val (.int k)] [] u := by
  refine own_iloadN K (pc := 113) d1_113 rfl ?_
  refine own_bipush K (pc := 114) d1_114 (x := (12 : Int32)) (by decide) ?_
  refine own_icmpY K (pc := 116) (pc' := 123) d1_116 (feq q).2 (by decide) (by decide) ?_
  exact r
set_option maxRecDepth 65536 in
theorem hi_12 (p : Program) (l : Launch) (e : Env) (R : Room) (s : State) (m : MethodId) (args : Array Value) (below : List Frame) (meth : Method) (c : Code) (Z : State) (a0 : Array Value) (h : Heap) (hw : ∀ d ∈ tables_1, d.before a0 Z = true) (A : Nat → Addr) (F : own_F Z h A) (K : own_C p s m meth c Z method_3_code "com/example/locant/locant/AtomicTypePrimitivePinLaw" (.object "com/example/locant/locant/AtomicType") 1) :
    own_E p l e R s m args below meth c h 113 #[.val (.int (12 : Int32))] [] (.ref (A 12)) := by
  refine own_iloadN K (pc := 113) d1_113 rfl ?_
  refine own_bipush K (pc := 114) d1_114 (x := (12 : Int32)) (by decide) ?_
  refine own_icmpN K (pc := 116) d1_116 (by decide) ?_
  refine own_getS K (pc := 119) (hw _ (List.mem_of_getElem? (i := 58) rfl)) F.2.1.1 d1_119 ?_
  exact own_retA K (pc := 122) d1_122 rfl rfl rfl
set_option maxRecDepth 65536 in
theorem sk_13 (p : Program) (l : Launch) (e : Env) (R : Room) (s : State) (m : MethodId) (args : Array Value) (below : List Frame) (meth : Method) (c : Code) (Z : State) (a0 : Array Value) (h : Heap) (hw : ∀ d ∈ tables_1, d.before a0 Z = true) (k : Int32) (u : Value) (q : ¬ k = 13) (K : own_C p s m meth c Z method_3_code "com/example/locant/locant/AtomicTypePrimitivePinLaw" (.object "com/example/locant/locant/AtomicType") 1) (r : own_E p l e R s m args below meth c h 133 #[.val (.int k)] [] u) :
    own_E p l e R s m args below meth c h 123 #[.val (.int k)] [] u := by
  refine own_iloadN K (pc := 123) d1_123 rfl ?_
  refine own_bipush K (pc := 124) d1_124 (x := (13 : Int32)) (by decide) ?_
  refine own_icmpY K (pc := 126) (pc' := 133) d1_126 (feq q).2 (by decide) (by decide) ?_
  exact r
set_option maxRecDepth 65536 in
theorem hi_13 (p : Program) (l : Launch) (e : Env) (R : Room) (s : State) (m : MethodId) (args : Array Value) (below : List Frame) (meth : Method) (c : Code) (Z : State) (a0 : Array Value) (h : Heap) (hw : ∀ d ∈ tables_1, d.before a0 Z = true) (A : Nat → Addr) (F : own_F Z h A) (K : own_C p s m meth c Z method_3_code "com/example/locant/locant/AtomicTypePrimitivePinLaw" (.object "com/example/locant/locant/AtomicType") 1) :
    own_E p l e R s m args below meth c h 123 #[.val (.int (13 : Int32))] [] (.ref (A 13)) := by
  refine own_iloadN K (pc := 123) d1_123 rfl ?_
  refine own_bipush K (pc := 124) d1_124 (x := (13 : Int32)) (by decide) ?_
  refine own_icmpN K (pc := 126) d1_126 (by decide) ?_
  refine own_getS K (pc := 129) (hw _ (List.mem_of_getElem? (i := 64) rfl)) F.2.1.2.2.1 d1_129 ?_
  exact own_retA K (pc := 132) d1_132 rfl rfl rfl
set_option maxRecDepth 65536 in
theorem sk_14 (p : Program) (l : Launch) (e : Env) (R : Room) (s : State) (m : MethodId) (args : Array Value) (below : List Frame) (meth : Method) (c : Code) (Z : State) (a0 : Array Value) (h : Heap) (hw : ∀ d ∈ tables_1, d.before a0 Z = true) (k : Int32) (u : Value) (q : ¬ k = 14) (K : own_C p s m meth c Z method_3_code "com/example/locant/locant/AtomicTypePrimitivePinLaw" (.object "com/example/locant/locant/AtomicType") 1) (r : own_E p l e R s m args below meth c h 143 #[.val (.int k)] [] u) :
    own_E p l e R s m args below meth c h 133 #[.val (.int k)] [] u := by
  refine own_iloadN K (pc := 133) d1_133 rfl ?_
  refine own_bipush K (pc := 134) d1_134 (x := (14 : Int32)) (by decide) ?_
  refine own_icmpY K (pc := 136) (pc' := 143) d1_136 (feq q).2 (by decide) (by decide) ?_
  exact r
set_option maxRecDepth 65536 in
theorem hi_14 (p : Program) (l : Launch) (e : Env) (R : Room) (s : State) (m : MethodId) (args : Array Value) (below : List Frame) (meth : Method) (c : Code) (Z : State) (a0 : Array Value) (h : Heap) (hw : ∀ d ∈ tables_1, d.before a0 Z = true) (A : Nat → Addr) (F : own_F Z h A) (K : own_C p s m meth c Z method_3_code "com/example/locant/locant/AtomicTypePrimitivePinLaw" (.object "com/example/locant/locant/AtomicType") 1) :
    own_E p l e R s m args below meth c h 133 #[.val (.int (14 : Int32))] [] (.ref (A 14)) := by
  refine own_iloadN K (pc := 133) d1_133 rfl ?_
  refine own_bipush K (pc := 134) d1_134 (x := (14 : Int32)) (by decide) ?_
  refine own_icmpN K (pc := 136) d1_136 (by decide) ?_
  refine own_getS K (pc := 139) (hw _ (List.mem_of_getElem? (i := 19) rfl)) F.2.1.2.2.2.2.1 d1_139 ?_
  exact own_retA K (pc := 142) d1_142 rfl rfl rfl
set_option maxRecDepth 65536 in
theorem sk_15 (p : Program) (l : Launch) (e : Env) (R : Room) (s : State) (m : MethodId) (args : Array Value) (below : List Frame) (meth : Method) (c : Code) (Z : State) (a0 : Array Value) (h : Heap) (hw : ∀ d ∈ tables_1, d.before a0 Z = true) (k : Int32) (u : Value) (q : ¬ k = 15) (K : own_C p s m meth c Z method_3_code "com/example/locant/locant/AtomicTypePrimitivePinLaw" (.object "com/example/locant/locant/AtomicType") 1) (r : own_E p l e R s m args below meth c h 153 #[.val (.int k)] [] u) :
    own_E p l e R s m args below meth c h 143 #[.val (.int k)] [] u := by
  refine own_iloadN K (pc := 143) d1_143 rfl ?_
  refine own_bipush K (pc := 144) d1_144 (x := (15 : Int32)) (by decide) ?_
  refine own_icmpY K (pc := 146) (pc' := 153) d1_146 (feq q).2 (by decide) (by decide) ?_
  exact r
set_option maxRecDepth 65536 in
theorem hi_15 (p : Program) (l : Launch) (e : Env) (R : Room) (s : State) (m : MethodId) (args : Array Value) (below : List Frame) (meth : Method) (c : Code) (Z : State) (a0 : Array Value) (h : Heap) (hw : ∀ d ∈ tables_1, d.before a0 Z = true) (A : Nat → Addr) (F : own_F Z h A) (K : own_C p s m meth c Z method_3_code "com/example/locant/locant/AtomicTypePrimitivePinLaw" (.object "com/example/locant/locant/AtomicType") 1) :
    own_E p l e R s m args below meth c h 143 #[.val (.int (15 : Int32))] [] (.ref (A 15)) := by
  refine own_iloadN K (pc := 143) d1_143 rfl ?_
  refine own_bipush K (pc := 144) d1_144 (x := (15 : Int32)) (by decide) ?_
  refine own_icmpN K (pc := 146) d1_146 (by decide) ?_
  refine own_getS K (pc := 149) (hw _ (List.mem_of_getElem? (i := 21) rfl)) F.2.1.2.2.2.2.2.2.1 d1_149 ?_
  exact own_retA K (pc := 152) d1_152 rfl rfl rfl
set_option maxRecDepth 65536 in
theorem sk_16 (p : Program) (l : Launch) (e : Env) (R : Room) (s : State) (m : MethodId) (args : Array Value) (below : List Frame) (meth : Method) (c : Code) (Z : State) (a0 : Array Value) (h : Heap) (hw : ∀ d ∈ tables_1, d.before a0 Z = true) (k : Int32) (u : Value) (q : ¬ k = 16) (K : own_C p s m meth c Z method_3_code "com/example/locant/locant/AtomicTypePrimitivePinLaw" (.object "com/example/locant/locant/AtomicType") 1) (r : own_E p l e R s m args below meth c h 163 #[.val (.int k)] [] u) :
    own_E p l e R s m args below meth c h 153 #[.val (.int k)] [] u := by
  refine own_iloadN K (pc := 153) d1_153 rfl ?_
  refine own_bipush K (pc := 154) d1_154 (x := (16 : Int32)) (by decide) ?_
  refine own_icmpY K (pc := 156) (pc' := 163) d1_156 (feq q).2 (by decide) (by decide) ?_
  exact r
set_option maxRecDepth 65536 in
theorem hi_16 (p : Program) (l : Launch) (e : Env) (R : Room) (s : State) (m : MethodId) (args : Array Value) (below : List Frame) (meth : Method) (c : Code) (Z : State) (a0 : Array Value) (h : Heap) (hw : ∀ d ∈ tables_1, d.before a0 Z = true) (A : Nat → Addr) (F : own_F Z h A) (K : own_C p s m meth c Z method_3_code "com/example/locant/locant/AtomicTypePrimitivePinLaw" (.object "com/example/locant/locant/AtomicType") 1) :
    own_E p l e R s m args below meth c h 153 #[.val (.int (16 : Int32))] [] (.ref (A 16)) := by
  refine own_iloadN K (pc := 153) d1_153 rfl ?_
  refine own_bipush K (pc := 154) d1_154 (x := (16 : Int32)) (by decide) ?_
  refine own_icmpN K (pc := 156) d1_156 (by decide) ?_
  refine own_getS K (pc := 159) (hw _ (List.mem_of_getElem? (i := 45) rfl)) F.2.1.2.2.2.2.2.2.2.2.1 d1_159 ?_
  exact own_retA K (pc := 162) d1_162 rfl rfl rfl
set_option maxRecDepth 65536 in
theorem sk_17 (p : Program) (l : Launch) (e : Env) (R : Room) (s : State) (m : MethodId) (args : Array Value) (below : List Frame) (meth : Method) (c : Code) (Z : State) (a0 : Array Value) (h : Heap) (hw : ∀ d ∈ tables_1, d.before a0 Z = true) (k : Int32) (u : Value) (q : ¬ k = 17) (K : own_C p s m meth c Z method_3_code "com/example/locant/locant/AtomicTypePrimitivePinLaw" (.object "com/example/locant/locant/AtomicType") 1) (r : own_E p l e R s m args below meth c h 173 #[.val (.int k)] [] u) :
    own_E p l e R s m args below meth c h 163 #[.val (.int k)] [] u := by
  refine own_iloadN K (pc := 163) d1_163 rfl ?_
  refine own_bipush K (pc := 164) d1_164 (x := (17 : Int32)) (by decide) ?_
  refine own_icmpY K (pc := 166) (pc' := 173) d1_166 (feq q).2 (by decide) (by decide) ?_
  exact r
set_option maxRecDepth 65536 in
theorem hi_17 (p : Program) (l : Launch) (e : Env) (R : Room) (s : State) (m : MethodId) (args : Array Value) (below : List Frame) (meth : Method) (c : Code) (Z : State) (a0 : Array Value) (h : Heap) (hw : ∀ d ∈ tables_1, d.before a0 Z = true) (A : Nat → Addr) (F : own_F Z h A) (K : own_C p s m meth c Z method_3_code "com/example/locant/locant/AtomicTypePrimitivePinLaw" (.object "com/example/locant/locant/AtomicType") 1) :
    own_E p l e R s m args below meth c h 163 #[.val (.int (17 : Int32))] [] (.ref (A 17)) := by
  refine own_iloadN K (pc := 163) d1_163 rfl ?_
  refine own_bipush K (pc := 164) d1_164 (x := (17 : Int32)) (by decide) ?_
  refine own_icmpN K (pc := 166) d1_166 (by decide) ?_
  refine own_getS K (pc := 169) (hw _ (List.mem_of_getElem? (i := 43) rfl)) F.2.1.2.2.2.2.2.2.2.2.2.2.1 d1_169 ?_
  exact own_retA K (pc := 172) d1_172 rfl rfl rfl
set_option maxRecDepth 65536 in
theorem sk_18 (p : Program) (l : Launch) (e : Env) (R : Room) (s : State) (m : MethodId) (args : Array Value) (below : List Frame) (meth : Method) (c : Code) (Z : State) (a0 : Array Value) (h : Heap) (hw : ∀ d ∈ tables_1, d.before a0 Z = true) (k : Int32) (u : Value) (q : ¬ k = 18) (K : own_C p s m meth c Z method_3_code "com/example/locant/locant/AtomicTypePrimitivePinLaw" (.object "com/example/locant/locant/AtomicType") 1) (r : own_E p l e R s m args below meth c h 183 #[.val (.int k)] [] u) :
    own_E p l e R s m args below meth c h 173 #[.val (.int k)] [] u := by
  refine own_iloadN K (pc := 173) d1_173 rfl ?_
  refine own_bipush K (pc := 174) d1_174 (x := (18 : Int32)) (by decide) ?_
  refine own_icmpY K (pc := 176) (pc' := 183) d1_176 (feq q).2 (by decide) (by decide) ?_
  exact r
set_option maxRecDepth 65536 in
theorem hi_18 (p : Program) (l : Launch) (e : Env) (R : Room) (s : State) (m : MethodId) (args : Array Value) (below : List Frame) (meth : Method) (c : Code) (Z : State) (a0 : Array Value) (h : Heap) (hw : ∀ d ∈ tables_1, d.before a0 Z = true) (A : Nat → Addr) (F : own_F Z h A) (K : own_C p s m meth c Z method_3_code "com/example/locant/locant/AtomicTypePrimitivePinLaw" (.object "com/example/locant/locant/AtomicType") 1) :
    own_E p l e R s m args below meth c h 173 #[.val (.int (18 : Int32))] [] (.ref (A 18)) := by
  refine own_iloadN K (pc := 173) d1_173 rfl ?_
  refine own_bipush K (pc := 174) d1_174 (x := (18 : Int32)) (by decide) ?_
  refine own_icmpN K (pc := 176) d1_176 (by decide) ?_
  refine own_getS K (pc := 179) (hw _ (List.mem_of_getElem? (i := 36) rfl)) F.2.1.2.2.2.2.2.2.2.2.2.2.2.2.1 d1_179 ?_
  exact own_retA K (pc := 182) d1_182 rfl rfl rfl
set_option maxRecDepth 65536 in
theorem sk_19 (p : Program) (l : Launch) (e : Env) (R : Room) (s : State) (m : MethodId) (args : Array Value) (below : List Frame) (meth : Method) (c : Code) (Z : State) (a0 : Array Value) (h : Heap) (hw : ∀ d ∈ tables_1, d.before a0 Z = true) (k : Int32) (u : Value) (q : ¬ k = 19) (K : own_C p s m meth c Z method_3_code "com/example/locant/locant/AtomicTypePrimitivePinLaw" (.object "com/example/locant/locant/AtomicType") 1) (r : own_E p l e R s m args below meth c h 193 #[.val (.int k)] [] u) :
    own_E p l e R s m args below meth c h 183 #[.val (.int k)] [] u := by
  refine own_iloadN K (pc := 183) d1_183 rfl ?_
  refine own_bipush K (pc := 184) d1_184 (x := (19 : Int32)) (by decide) ?_
  refine own_icmpY K (pc := 186) (pc' := 193) d1_186 (feq q).2 (by decide) (by decide) ?_
  exact r
set_option maxRecDepth 65536 in
theorem hi_19 (p : Program) (l : Launch) (e : Env) (R : Room) (s : State) (m : MethodId) (args : Array Value) (below : List Frame) (meth : Method) (c : Code) (Z : State) (a0 : Array Value) (h : Heap) (hw : ∀ d ∈ tables_1, d.before a0 Z = true) (A : Nat → Addr) (F : own_F Z h A) (K : own_C p s m meth c Z method_3_code "com/example/locant/locant/AtomicTypePrimitivePinLaw" (.object "com/example/locant/locant/AtomicType") 1) :
    own_E p l e R s m args below meth c h 183 #[.val (.int (19 : Int32))] [] (.ref (A 19)) := by
  refine own_iloadN K (pc := 183) d1_183 rfl ?_
  refine own_bipush K (pc := 184) d1_184 (x := (19 : Int32)) (by decide) ?_
  refine own_icmpN K (pc := 186) d1_186 (by decide) ?_
  refine own_getS K (pc := 189) (hw _ (List.mem_of_getElem? (i := 40) rfl)) F.2.1.2.2.2.2.2.2.2.2.2.2.2.2.2.2.1 d1_189 ?_
  exact own_retA K (pc := 192) d1_192 rfl rfl rfl
set_option maxRecDepth 65536 in
theorem sk_20 (p : Program) (l : Launch) (e : Env) (R : Room) (s : State) (m : MethodId) (args : Array Value) (below : List Frame) (meth : Method) (c : Code) (Z : State) (a0 : Array Value) (h : Heap) (hw : ∀ d ∈ tables_1, d.before a0 Z = true) (k : Int32) (u : Value) (q : ¬ k = 20) (K : own_C p s m meth c Z method_3_code "com/example/locant/locant/AtomicTypePrimitivePinLaw" (.object "com/example/locant/locant/AtomicType") 1) (r : own_E p l e R s m args below meth c h 203 #[.val (.int k)] [] u) :
    own_E p l e R s m args below meth c h 193 #[.val (.int k)] [] u := by
  refine own_iloadN K (pc := 193) d1_193 rfl ?_
  refine own_bipush K (pc := 194) d1_194 (x := (20 : Int32)) (by decide) ?_
  refine own_icmpY K (pc := 196) (pc' := 203) d1_196 (feq q).2 (by decide) (by decide) ?_
  exact r
set_option maxRecDepth 65536 in
theorem hi_20 (p : Program) (l : Launch) (e : Env) (R : Room) (s : State) (m : MethodId) (args : Array Value) (below : List Frame) (meth : Method) (c : Code) (Z : State) (a0 : Array Value) (h : Heap) (hw : ∀ d ∈ tables_1, d.before a0 Z = true) (A : Nat → Addr) (F : own_F Z h A) (K : own_C p s m meth c Z method_3_code "com/example/locant/locant/AtomicTypePrimitivePinLaw" (.object "com/example/locant/locant/AtomicType") 1) :
    own_E p l e R s m args below meth c h 193 #[.val (.int (20 : Int32))] [] (.ref (A 20)) := by
  refine own_iloadN K (pc := 193) d1_193 rfl ?_
  refine own_bipush K (pc := 194) d1_194 (x := (20 : Int32)) (by decide) ?_
  refine own_icmpN K (pc := 196) d1_196 (by decide) ?_
  refine own_getS K (pc := 199) (hw _ (List.mem_of_getElem? (i := 75) rfl)) F.2.1.2.2.2.2.2.2.2.2.2.2.2.2.2.2.2.2.1 d1_199 ?_
  exact own_retA K (pc := 202) d1_202 rfl rfl rfl
set_option maxRecDepth 65536 in
theorem sk_21 (p : Program) (l : Launch) (e : Env) (R : Room) (s : State) (m : MethodId) (args : Array Value) (below : List Frame) (meth : Method) (c : Code) (Z : State) (a0 : Array Value) (h : Heap) (hw : ∀ d ∈ tables_1, d.before a0 Z = true) (k : Int32) (u : Value) (q : ¬ k = 21) (K : own_C p s m meth c Z method_3_code "com/example/locant/locant/AtomicTypePrimitivePinLaw" (.object "com/example/locant/locant/AtomicType") 1) (r : own_E p l e R s m args below meth c h 213 #[.val (.int k)] [] u) :
    own_E p l e R s m args below meth c h 203 #[.val (.int k)] [] u := by
  refine own_iloadN K (pc := 203) d1_203 rfl ?_
  refine own_bipush K (pc := 204) d1_204 (x := (21 : Int32)) (by decide) ?_
  refine own_icmpY K (pc := 206) (pc' := 213) d1_206 (feq q).2 (by decide) (by decide) ?_
  exact r
set_option maxRecDepth 65536 in
theorem hi_21 (p : Program) (l : Launch) (e : Env) (R : Room) (s : State) (m : MethodId) (args : Array Value) (below : List Frame) (meth : Method) (c : Code) (Z : State) (a0 : Array Value) (h : Heap) (hw : ∀ d ∈ tables_1, d.before a0 Z = true) (A : Nat → Addr) (F : own_F Z h A) (K : own_C p s m meth c Z method_3_code "com/example/locant/locant/AtomicTypePrimitivePinLaw" (.object "com/example/locant/locant/AtomicType") 1) :
    own_E p l e R s m args below meth c h 203 #[.val (.int (21 : Int32))] [] (.ref (A 21)) := by
  refine own_iloadN K (pc := 203) d1_203 rfl ?_
  refine own_bipush K (pc := 204) d1_204 (x := (21 : Int32)) (by decide) ?_
  refine own_icmpN K (pc := 206) d1_206 (by decide) ?_
  refine own_getS K (pc := 209) (hw _ (List.mem_of_getElem? (i := 72) rfl)) F.2.1.2.2.2.2.2.2.2.2.2.2.2.2.2.2.2.2.2.2.1 d1_209 ?_
  exact own_retA K (pc := 212) d1_212 rfl rfl rfl
set_option maxRecDepth 65536 in
theorem sk_22 (p : Program) (l : Launch) (e : Env) (R : Room) (s : State) (m : MethodId) (args : Array Value) (below : List Frame) (meth : Method) (c : Code) (Z : State) (a0 : Array Value) (h : Heap) (hw : ∀ d ∈ tables_1, d.before a0 Z = true) (k : Int32) (u : Value) (q : ¬ k = 22) (K : own_C p s m meth c Z method_3_code "com/example/locant/locant/AtomicTypePrimitivePinLaw" (.object "com/example/locant/locant/AtomicType") 1) (r : own_E p l e R s m args below meth c h 223 #[.val (.int k)] [] u) :
    own_E p l e R s m args below meth c h 213 #[.val (.int k)] [] u := by
  refine own_iloadN K (pc := 213) d1_213 rfl ?_
  refine own_bipush K (pc := 214) d1_214 (x := (22 : Int32)) (by decide) ?_
  refine own_icmpY K (pc := 216) (pc' := 223) d1_216 (feq q).2 (by decide) (by decide) ?_
  exact r
set_option maxRecDepth 65536 in
theorem hi_22 (p : Program) (l : Launch) (e : Env) (R : Room) (s : State) (m : MethodId) (args : Array Value) (below : List Frame) (meth : Method) (c : Code) (Z : State) (a0 : Array Value) (h : Heap) (hw : ∀ d ∈ tables_1, d.before a0 Z = true) (A : Nat → Addr) (F : own_F Z h A) (K : own_C p s m meth c Z method_3_code "com/example/locant/locant/AtomicTypePrimitivePinLaw" (.object "com/example/locant/locant/AtomicType") 1) :
    own_E p l e R s m args below meth c h 213 #[.val (.int (22 : Int32))] [] (.ref (A 22)) := by
  refine own_iloadN K (pc := 213) d1_213 rfl ?_
  refine own_bipush K (pc := 214) d1_214 (x := (22 : Int32)) (by decide) ?_
  refine own_icmpN K (pc := 216) d1_216 (by decide) ?_
  refine own_getS K (pc := 219) (hw _ (List.mem_of_getElem? (i := 76) rfl)) F.2.1.2.2.2.2.2.2.2.2.2.2.2.2.2.2.2.2.2.2.2.2.1 d1_219 ?_
  exact own_retA K (pc := 222) d1_222 rfl rfl rfl
set_option maxRecDepth 65536 in
theorem sk_23 (p : Program) (l : Launch) (e : Env) (R : Room) (s : State) (m : MethodId) (args : Array Value) (below : List Frame) (meth : Method) (c : Code) (Z : State) (a0 : Array Value) (h : Heap) (hw : ∀ d ∈ tables_1, d.before a0 Z = true) (k : Int32) (u : Value) (q : ¬ k = 23) (K : own_C p s m meth c Z method_3_code "com/example/locant/locant/AtomicTypePrimitivePinLaw" (.object "com/example/locant/locant/AtomicType") 1) (r : own_E p l e R s m args below meth c h 233 #[.val (.int k)] [] u) :
    own_E p l e R s m args below meth c h 223 #[.val (.int k)] [] u := by
  refine own_iloadN K (pc := 223) d1_223 rfl ?_
  refine own_bipush K (pc := 224) d1_224 (x := (23 : Int32)) (by decide) ?_
  refine own_icmpY K (pc := 226) (pc' := 233) d1_226 (feq q).2 (by decide) (by decide) ?_
  exact r
set_option maxRecDepth 65536 in
theorem hi_23 (p : Program) (l : Launch) (e : Env) (R : Room) (s : State) (m : MethodId) (args : Array Value) (below : List Frame) (meth : Method) (c : Code) (Z : State) (a0 : Array Value) (h : Heap) (hw : ∀ d ∈ tables_1, d.before a0 Z = true) (A : Nat → Addr) (F : own_F Z h A) (K : own_C p s m meth c Z method_3_code "com/example/locant/locant/AtomicTypePrimitivePinLaw" (.object "com/example/locant/locant/AtomicType") 1) :
    own_E p l e R s m args below meth c h 223 #[.val (.int (23 : Int32))] [] (.ref (A 23)) := by
  refine own_iloadN K (pc := 223) d1_223 rfl ?_
  refine own_bipush K (pc := 224) d1_224 (x := (23 : Int32)) (by decide) ?_
  refine own_icmpN K (pc := 226) d1_226 (by decide) ?_
  refine own_getS K (pc := 229) (hw _ (List.mem_of_getElem? (i := 34) rfl)) F.2.1.2.2.2.2.2.2.2.2.2.2.2.2.2.2.2.2.2.2.2.2.2.2.1 d1_229 ?_
  exact own_retA K (pc := 232) d1_232 rfl rfl rfl
set_option maxRecDepth 65536 in
theorem sk_24 (p : Program) (l : Launch) (e : Env) (R : Room) (s : State) (m : MethodId) (args : Array Value) (below : List Frame) (meth : Method) (c : Code) (Z : State) (a0 : Array Value) (h : Heap) (hw : ∀ d ∈ tables_1, d.before a0 Z = true) (k : Int32) (u : Value) (q : ¬ k = 24) (K : own_C p s m meth c Z method_3_code "com/example/locant/locant/AtomicTypePrimitivePinLaw" (.object "com/example/locant/locant/AtomicType") 1) (r : own_E p l e R s m args below meth c h 243 #[.val (.int k)] [] u) :
    own_E p l e R s m args below meth c h 233 #[.val (.int k)] [] u := by
  refine own_iloadN K (pc := 233) d1_233 rfl ?_
  refine own_bipush K (pc := 234) d1_234 (x := (24 : Int32)) (by decide) ?_
  refine own_icmpY K (pc := 236) (pc' := 243) d1_236 (feq q).2 (by decide) (by decide) ?_
  exact r
set_option maxRecDepth 65536 in
theorem hi_24 (p : Program) (l : Launch) (e : Env) (R : Room) (s : State) (m : MethodId) (args : Array Value) (below : List Frame) (meth : Method) (c : Code) (Z : State) (a0 : Array Value) (h : Heap) (hw : ∀ d ∈ tables_1, d.before a0 Z = true) (A : Nat → Addr) (F : own_F Z h A) (K : own_C p s m meth c Z method_3_code "com/example/locant/locant/AtomicTypePrimitivePinLaw" (.object "com/example/locant/locant/AtomicType") 1) :
    own_E p l e R s m args below meth c h 233 #[.val (.int (24 : Int32))] [] (.ref (A 24)) := by
  refine own_iloadN K (pc := 233) d1_233 rfl ?_
  refine own_bipush K (pc := 234) d1_234 (x := (24 : Int32)) (by decide) ?_
  refine own_icmpN K (pc := 236) d1_236 (by decide) ?_
  refine own_getS K (pc := 239) (hw _ (List.mem_of_getElem? (i := 41) rfl)) F.2.2.1.1 d1_239 ?_
  exact own_retA K (pc := 242) d1_242 rfl rfl rfl
set_option maxRecDepth 65536 in
theorem sk_25 (p : Program) (l : Launch) (e : Env) (R : Room) (s : State) (m : MethodId) (args : Array Value) (below : List Frame) (meth : Method) (c : Code) (Z : State) (a0 : Array Value) (h : Heap) (hw : ∀ d ∈ tables_1, d.before a0 Z = true) (k : Int32) (u : Value) (q : ¬ k = 25) (K : own_C p s m meth c Z method_3_code "com/example/locant/locant/AtomicTypePrimitivePinLaw" (.object "com/example/locant/locant/AtomicType") 1) (r : own_E p l e R s m args below meth c h 253 #[.val (.int k)] [] u) :
    own_E p l e R s m args below meth c h 243 #[.val (.int k)] [] u := by
  refine own_iloadN K (pc := 243) d1_243 rfl ?_
  refine own_bipush K (pc := 244) d1_244 (x := (25 : Int32)) (by decide) ?_
  refine own_icmpY K (pc := 246) (pc' := 253) d1_246 (feq q).2 (by decide) (by decide) ?_
  exact r
set_option maxRecDepth 65536 in
theorem hi_25 (p : Program) (l : Launch) (e : Env) (R : Room) (s : State) (m : MethodId) (args : Array Value) (below : List Frame) (meth : Method) (c : Code) (Z : State) (a0 : Array Value) (h : Heap) (hw : ∀ d ∈ tables_1, d.before a0 Z = true) (A : Nat → Addr) (F : own_F Z h A) (K : own_C p s m meth c Z method_3_code "com/example/locant/locant/AtomicTypePrimitivePinLaw" (.object "com/example/locant/locant/AtomicType") 1) :
    own_E p l e R s m args below meth c h 243 #[.val (.int (25 : Int32))] [] (.ref (A 25)) := by
  refine own_iloadN K (pc := 243) d1_243 rfl ?_
  refine own_bipush K (pc := 244) d1_244 (x := (25 : Int32)) (by decide) ?_
  refine own_icmpN K (pc := 246) d1_246 (by decide) ?_
  refine own_getS K (pc := 249) (hw _ (List.mem_of_getElem? (i := 66) rfl)) F.2.2.1.2.2.1 d1_249 ?_
  exact own_retA K (pc := 252) d1_252 rfl rfl rfl
set_option maxRecDepth 65536 in
theorem sk_26 (p : Program) (l : Launch) (e : Env) (R : Room) (s : State) (m : MethodId) (args : Array Value) (below : List Frame) (meth : Method) (c : Code) (Z : State) (a0 : Array Value) (h : Heap) (hw : ∀ d ∈ tables_1, d.before a0 Z = true) (k : Int32) (u : Value) (q : ¬ k = 26) (K : own_C p s m meth c Z method_3_code "com/example/locant/locant/AtomicTypePrimitivePinLaw" (.object "com/example/locant/locant/AtomicType") 1) (r : own_E p l e R s m args below meth c h 263 #[.val (.int k)] [] u) :
    own_E p l e R s m args below meth c h 253 #[.val (.int k)] [] u := by
  refine own_iloadN K (pc := 253) d1_253 rfl ?_
  refine own_bipush K (pc := 254) d1_254 (x := (26 : Int32)) (by decide) ?_
  refine own_icmpY K (pc := 256) (pc' := 263) d1_256 (feq q).2 (by decide) (by decide) ?_
  exact r
set_option maxRecDepth 65536 in
theorem hi_26 (p : Program) (l : Launch) (e : Env) (R : Room) (s : State) (m : MethodId) (args : Array Value) (below : List Frame) (meth : Method) (c : Code) (Z : State) (a0 : Array Value) (h : Heap) (hw : ∀ d ∈ tables_1, d.before a0 Z = true) (A : Nat → Addr) (F : own_F Z h A) (K : own_C p s m meth c Z method_3_code "com/example/locant/locant/AtomicTypePrimitivePinLaw" (.object "com/example/locant/locant/AtomicType") 1) :
    own_E p l e R s m args below meth c h 253 #[.val (.int (26 : Int32))] [] (.ref (A 26)) := by
  refine own_iloadN K (pc := 253) d1_253 rfl ?_
  refine own_bipush K (pc := 254) d1_254 (x := (26 : Int32)) (by decide) ?_
  refine own_icmpN K (pc := 256) d1_256 (by decide) ?_
  refine own_getS K (pc := 259) (hw _ (List.mem_of_getElem? (i := 70) rfl)) F.2.2.1.2.2.2.2.1 d1_259 ?_
  exact own_retA K (pc := 262) d1_262 rfl rfl rfl
set_option maxRecDepth 65536 in
theorem sk_27 (p : Program) (l : Launch) (e : Env) (R : Room) (s : State) (m : MethodId) (args : Array Value) (below : List Frame) (meth : Method) (c : Code) (Z : State) (a0 : Array Value) (h : Heap) (hw : ∀ d ∈ tables_1, d.before a0 Z = true) (k : Int32) (u : Value) (q : ¬ k = 27) (K : own_C p s m meth c Z method_3_code "com/example/locant/locant/AtomicTypePrimitivePinLaw" (.object "com/example/locant/locant/AtomicType") 1) (r : own_E p l e R s m args below meth c h 273 #[.val (.int k)] [] u) :
    own_E p l e R s m args below meth c h 263 #[.val (.int k)] [] u := by
  refine own_iloadN K (pc := 263) d1_263 rfl ?_
  refine own_bipush K (pc := 264) d1_264 (x := (27 : Int32)) (by decide) ?_
  refine own_icmpY K (pc := 266) (pc' := 273) d1_266 (feq q).2 (by decide) (by decide) ?_
  exact r
set_option maxRecDepth 65536 in
theorem hi_27 (p : Program) (l : Launch) (e : Env) (R : Room) (s : State) (m : MethodId) (args : Array Value) (below : List Frame) (meth : Method) (c : Code) (Z : State) (a0 : Array Value) (h : Heap) (hw : ∀ d ∈ tables_1, d.before a0 Z = true) (A : Nat → Addr) (F : own_F Z h A) (K : own_C p s m meth c Z method_3_code "com/example/locant/locant/AtomicTypePrimitivePinLaw" (.object "com/example/locant/locant/AtomicType") 1) :
    own_E p l e R s m args below meth c h 263 #[.val (.int (27 : Int32))] [] (.ref (A 27)) := by
  refine own_iloadN K (pc := 263) d1_263 rfl ?_
  refine own_bipush K (pc := 264) d1_264 (x := (27 : Int32)) (by decide) ?_
  refine own_icmpN K (pc := 266) d1_266 (by decide) ?_
  refine own_getS K (pc := 269) (hw _ (List.mem_of_getElem? (i := 71) rfl)) F.2.2.1.2.2.2.2.2.2.1 d1_269 ?_
  exact own_retA K (pc := 272) d1_272 rfl rfl rfl
set_option maxRecDepth 65536 in
theorem sk_28 (p : Program) (l : Launch) (e : Env) (R : Room) (s : State) (m : MethodId) (args : Array Value) (below : List Frame) (meth : Method) (c : Code) (Z : State) (a0 : Array Value) (h : Heap) (hw : ∀ d ∈ tables_1, d.before a0 Z = true) (k : Int32) (u : Value) (q : ¬ k = 28) (K : own_C p s m meth c Z method_3_code "com/example/locant/locant/AtomicTypePrimitivePinLaw" (.object "com/example/locant/locant/AtomicType") 1) (r : own_E p l e R s m args below meth c h 283 #[.val (.int k)] [] u) :
    own_E p l e R s m args below meth c h 273 #[.val (.int k)] [] u := by
  refine own_iloadN K (pc := 273) d1_273 rfl ?_
  refine own_bipush K (pc := 274) d1_274 (x := (28 : Int32)) (by decide) ?_
  refine own_icmpY K (pc := 276) (pc' := 283) d1_276 (feq q).2 (by decide) (by decide) ?_
  exact r
set_option maxRecDepth 65536 in
theorem hi_28 (p : Program) (l : Launch) (e : Env) (R : Room) (s : State) (m : MethodId) (args : Array Value) (below : List Frame) (meth : Method) (c : Code) (Z : State) (a0 : Array Value) (h : Heap) (hw : ∀ d ∈ tables_1, d.before a0 Z = true) (A : Nat → Addr) (F : own_F Z h A) (K : own_C p s m meth c Z method_3_code "com/example/locant/locant/AtomicTypePrimitivePinLaw" (.object "com/example/locant/locant/AtomicType") 1) :
    own_E p l e R s m args below meth c h 273 #[.val (.int (28 : Int32))] [] (.ref (A 28)) := by
  refine own_iloadN K (pc := 273) d1_273 rfl ?_
  refine own_bipush K (pc := 274) d1_274 (x := (28 : Int32)) (by decide) ?_
  refine own_icmpN K (pc := 276) d1_276 (by decide) ?_
  refine own_getS K (pc := 279) (hw _ (List.mem_of_getElem? (i := 56) rfl)) F.2.2.1.2.2.2.2.2.2.2.2.1 d1_279 ?_
  exact own_retA K (pc := 282) d1_282 rfl rfl rfl
set_option maxRecDepth 65536 in
theorem sk_29 (p : Program) (l : Launch) (e : Env) (R : Room) (s : State) (m : MethodId) (args : Array Value) (below : List Frame) (meth : Method) (c : Code) (Z : State) (a0 : Array Value) (h : Heap) (hw : ∀ d ∈ tables_1, d.before a0 Z = true) (k : Int32) (u : Value) (q : ¬ k = 29) (K : own_C p s m meth c Z method_3_code "com/example/locant/locant/AtomicTypePrimitivePinLaw" (.object "com/example/locant/locant/AtomicType") 1) (r : own_E p l e R s m args below meth c h 293 #[.val (.int k)] [] u) :
    own_E p l e R s m args below meth c h 283 #[.val (.int k)] [] u := by
  refine own_iloadN K (pc := 283) d1_283 rfl ?_
  refine own_bipush K (pc := 284) d1_284 (x := (29 : Int32)) (by decide) ?_
  refine own_icmpY K (pc := 286) (pc' := 293) d1_286 (feq q).2 (by decide) (by decide) ?_
  exact r
set_option maxRecDepth 65536 in
theorem hi_29 (p : Program) (l : Launch) (e : Env) (R : Room) (s : State) (m : MethodId) (args : Array Value) (below : List Frame) (meth : Method) (c : Code) (Z : State) (a0 : Array Value) (h : Heap) (hw : ∀ d ∈ tables_1, d.before a0 Z = true) (A : Nat → Addr) (F : own_F Z h A) (K : own_C p s m meth c Z method_3_code "com/example/locant/locant/AtomicTypePrimitivePinLaw" (.object "com/example/locant/locant/AtomicType") 1) :
    own_E p l e R s m args below meth c h 283 #[.val (.int (29 : Int32))] [] (.ref (A 29)) := by
  refine own_iloadN K (pc := 283) d1_283 rfl ?_
  refine own_bipush K (pc := 284) d1_284 (x := (29 : Int32)) (by decide) ?_
  refine own_icmpN K (pc := 286) d1_286 (by decide) ?_
  refine own_getS K (pc := 289) (hw _ (List.mem_of_getElem? (i := 57) rfl)) F.2.2.1.2.2.2.2.2.2.2.2.2.2.1 d1_289 ?_
  exact own_retA K (pc := 292) d1_292 rfl rfl rfl
set_option maxRecDepth 65536 in
theorem sk_30 (p : Program) (l : Launch) (e : Env) (R : Room) (s : State) (m : MethodId) (args : Array Value) (below : List Frame) (meth : Method) (c : Code) (Z : State) (a0 : Array Value) (h : Heap) (hw : ∀ d ∈ tables_1, d.before a0 Z = true) (k : Int32) (u : Value) (q : ¬ k = 30) (K : own_C p s m meth c Z method_3_code "com/example/locant/locant/AtomicTypePrimitivePinLaw" (.object "com/example/locant/locant/AtomicType") 1) (r : own_E p l e R s m args below meth c h 303 #[.val (.int k)] [] u) :
    own_E p l e R s m args below meth c h 293 #[.val (.int k)] [] u := by
  refine own_iloadN K (pc := 293) d1_293 rfl ?_
  refine own_bipush K (pc := 294) d1_294 (x := (30 : Int32)) (by decide) ?_
  refine own_icmpY K (pc := 296) (pc' := 303) d1_296 (feq q).2 (by decide) (by decide) ?_
  exact r
set_option maxRecDepth 65536 in
theorem hi_30 (p : Program) (l : Launch) (e : Env) (R : Room) (s : State) (m : MethodId) (args : Array Value) (below : List Frame) (meth : Method) (c : Code) (Z : State) (a0 : Array Value) (h : Heap) (hw : ∀ d ∈ tables_1, d.before a0 Z = true) (A : Nat → Addr) (F : own_F Z h A) (K : own_C p s m meth c Z method_3_code "com/example/locant/locant/AtomicTypePrimitivePinLaw" (.object "com/example/locant/locant/AtomicType") 1) :
    own_E p l e R s m args below meth c h 293 #[.val (.int (30 : Int32))] [] (.ref (A 30)) := by
  refine own_iloadN K (pc := 293) d1_293 rfl ?_
  refine own_bipush K (pc := 294) d1_294 (x := (30 : Int32)) (by decide) ?_
  refine own_icmpN K (pc := 296) d1_296 (by decide) ?_
  refine own_getS K (pc := 299) (hw _ (List.mem_of_getElem? (i := 51) rfl)) F.2.2.1.2.2.2.2.2.2.2.2.2.2.2.2.1 d1_299 ?_
  exact own_retA K (pc := 302) d1_302 rfl rfl rfl
set_option maxRecDepth 65536 in
theorem hi_31 (p : Program) (l : Launch) (e : Env) (R : Room) (s : State) (m : MethodId) (args : Array Value) (below : List Frame) (meth : Method) (c : Code) (Z : State) (a0 : Array Value) (h : Heap) (hw : ∀ d ∈ tables_1, d.before a0 Z = true) (A : Nat → Addr) (F : own_F Z h A) (K : own_C p s m meth c Z method_3_code "com/example/locant/locant/AtomicTypePrimitivePinLaw" (.object "com/example/locant/locant/AtomicType") 1) :
    own_E p l e R s m args below meth c h 303 #[.val (.int (31 : Int32))] [] (.ref (A 31)) := by
  refine own_getS K (pc := 303) (hw _ (List.mem_of_getElem? (i := 48) rfl)) F.2.2.1.2.2.2.2.2.2.2.2.2.2.2.2.2.2.1 d1_303 ?_
  exact own_retA K (pc := 306) d1_306 rfl rfl rfl
set_option maxRecDepth 65536 in
theorem pk_0 (l : Launch) (Z : State) (a0 : Array Value) (h : Heap) (hw : ∀ d ∈ tables_1, d.before a0 Z = true) (A : Nat → Addr) (F : own_F Z h A)  : own_M l (⟨"com/example/locant/locant/AtomicTypePrimitivePinLaw", "pick", "(I)Lcom/example/locant/locant/AtomicType;"⟩ : MethodName) method_3_code 1 (.object "com/example/locant/locant/AtomicType") [] { frames := 0, cells := 0, slots := 0, locals := 0 } Z h #[(.int (0 : Int32))] (.ref (A 0)) := by
  refine own_met pn_1 (Ls := #[.val (.int (0 : Int32))]) (fun m => by first | (simp [entryFrame, mkF, argsToLocals, Value.category, maxLocals]; done) | rfl) ?_
  intro p e s m below meth c K
  exact hi_0 p l e _ s m _ below meth c Z a0 h hw A F K
set_option maxRecDepth 65536 in
theorem pk_1 (l : Launch) (Z : State) (a0 : Array Value) (h : Heap) (hw : ∀ d ∈ tables_1, d.before a0 Z = true) (A : Nat → Addr) (F : own_F Z h A)  : own_M l (⟨"com/example/locant/locant/AtomicTypePrimitivePinLaw", "pick", "(I)Lcom/example/locant/locant/AtomicType;"⟩ : MethodName) method_3_code 1 (.object "com/example/locant/locant/AtomicType") [] { frames := 0, cells := 0, slots := 0, locals := 0 } Z h #[(.int (1 : Int32))] (.ref (A 1)) := by
  refine own_met pn_1 (Ls := #[.val (.int (1 : Int32))]) (fun m => by first | (simp [entryFrame, mkF, argsToLocals, Value.category, maxLocals]; done) | rfl) ?_
  intro p e s m below meth c K
  exact sk_0 p l e _ s m _ below meth c Z a0 h hw _ _ (by decide) K (hi_1 p l e _ s m _ below meth c Z a0 h hw A F K)
set_option maxRecDepth 65536 in
theorem pk_2 (l : Launch) (Z : State) (a0 : Array Value) (h : Heap) (hw : ∀ d ∈ tables_1, d.before a0 Z = true) (A : Nat → Addr) (F : own_F Z h A)  : own_M l (⟨"com/example/locant/locant/AtomicTypePrimitivePinLaw", "pick", "(I)Lcom/example/locant/locant/AtomicType;"⟩ : MethodName) method_3_code 1 (.object "com/example/locant/locant/AtomicType") [] { frames := 0, cells := 0, slots := 0, locals := 0 } Z h #[(.int (2 : Int32))] (.ref (A 2)) := by
  refine own_met pn_1 (Ls := #[.val (.int (2 : Int32))]) (fun m => by first | (simp [entryFrame, mkF, argsToLocals, Value.category, maxLocals]; done) | rfl) ?_
  intro p e s m below meth c K
  exact sk_0 p l e _ s m _ below meth c Z a0 h hw _ _ (by decide) K (sk_1 p l e _ s m _ below meth c Z a0 h hw _ _ (by decide) K (hi_2 p l e _ s m _ below meth c Z a0 h hw A F K))
set_option maxRecDepth 65536 in
theorem pk_3 (l : Launch) (Z : State) (a0 : Array Value) (h : Heap) (hw : ∀ d ∈ tables_1, d.before a0 Z = true) (A : Nat → Addr) (F : own_F Z h A)  : own_M l (⟨"com/example/locant/locant/AtomicTypePrimitivePinLaw", "pick", "(I)Lcom/example/locant/locant/AtomicType;"⟩ : MethodName) method_3_code 1 (.object "com/example/locant/locant/AtomicType") [] { frames := 0, cells := 0, slots := 0, locals := 0 } Z h #[(.int (3 : Int32))] (.ref (A 3)) := by
  refine own_met pn_1 (Ls := #[.val (.int (3 : Int32))]) (fun m => by first | (simp [entryFrame, mkF, argsToLocals, Value.category, maxLocals]; done) | rfl) ?_
  intro p e s m below meth c K
  exact sk_0 p l e _ s m _ below meth c Z a0 h hw _ _ (by decide) K (sk_1 p l e _ s m _ below meth c Z a0 h hw _ _ (by decide) K (sk_2 p l e _ s m _ below meth c Z a0 h hw _ _ (by decide) K (hi_3 p l e _ s m _ below meth c Z a0 h hw A F K)))
set_option maxRecDepth 65536 in
theorem pk_4 (l : Launch) (Z : State) (a0 : Array Value) (h : Heap) (hw : ∀ d ∈ tables_1, d.before a0 Z = true) (A : Nat → Addr) (F : own_F Z h A)  : own_M l (⟨"com/example/locant/locant/AtomicTypePrimitivePinLaw", "pick", "(I)Lcom/example/locant/locant/AtomicType;"⟩ : MethodName) method_3_code 1 (.object "com/example/locant/locant/AtomicType") [] { frames := 0, cells := 0, slots := 0, locals := 0 } Z h #[(.int (4 : Int32))] (.ref (A 4)) := by
  refine own_met pn_1 (Ls := #[.val (.int (4 : Int32))]) (fun m => by first | (simp [entryFrame, mkF, argsToLocals, Value.category, maxLocals]; done) | rfl) ?_
  intro p e s m below meth c K
  exact sk_0 p l e _ s m _ below meth c Z a0 h hw _ _ (by decide) K (sk_1 p l e _ s m _ below meth c Z a0 h hw _ _ (by decide) K (sk_2 p l e _ s m _ below meth c Z a0 h hw _ _ (by decide) K (sk_3 p l e _ s m _ below meth c Z a0 h hw _ _ (by decide) K (hi_4 p l e _ s m _ below meth c Z a0 h hw A F K))))
set_option maxRecDepth 65536 in
theorem pk_5 (l : Launch) (Z : State) (a0 : Array Value) (h : Heap) (hw : ∀ d ∈ tables_1, d.before a0 Z = true) (A : Nat → Addr) (F : own_F Z h A)  : own_M l (⟨"com/example/locant/locant/AtomicTypePrimitivePinLaw", "pick", "(I)Lcom/example/locant/locant/AtomicType;"⟩ : MethodName) method_3_code 1 (.object "com/example/locant/locant/AtomicType") [] { frames := 0, cells := 0, slots := 0, locals := 0 } Z h #[(.int (5 : Int32))] (.ref (A 5)) := by
  refine own_met pn_1 (Ls := #[.val (.int (5 : Int32))]) (fun m => by first | (simp [entryFrame, mkF, argsToLocals, Value.category, maxLocals]; done) | rfl) ?_
  intro p e s m below meth c K
  exact sk_0 p l e _ s m _ below meth c Z a0 h hw _ _ (by decide) K (sk_1 p l e _ s m _ below meth c Z a0 h hw _ _ (by decide) K (sk_2 p l e _ s m _ below meth c Z a0 h hw _ _ (by decide) K (sk_3 p l e _ s m _ below meth c Z a0 h hw _ _ (by decide) K (sk_4 p l e _ s m _ below meth c Z a0 h hw _ _ (by decide) K (hi_5 p l e _ s m _ below meth c Z a0 h hw A F K)))))
set_option maxRecDepth 65536 in
theorem pk_6 (l : Launch) (Z : State) (a0 : Array Value) (h : Heap) (hw : ∀ d ∈ tables_1, d.before a0 Z = true) (A : Nat → Addr) (F : own_F Z h A)  : own_M l (⟨"com/example/locant/locant/AtomicTypePrimitivePinLaw", "pick", "(I)Lcom/example/locant/locant/AtomicType;"⟩ : MethodName) method_3_code 1 (.object "com/example/locant/locant/AtomicType") [] { frames := 0, cells := 0, slots := 0, locals := 0 } Z h #[(.int (6 : Int32))] (.ref (A 6)) := by
  refine own_met pn_1 (Ls := #[.val (.int (6 : Int32))]) (fun m => by first | (simp [entryFrame, mkF, argsToLocals, Value.category, maxLocals]; done) | rfl) ?_
  intro p e s m below meth c K
  exact sk_0 p l e _ s m _ below meth c Z a0 h hw _ _ (by decide) K (sk_1 p l e _ s m _ below meth c Z a0 h hw _ _ (by decide) K (sk_2 p l e _ s m _ below meth c Z a0 h hw _ _ (by decide) K (sk_3 p l e _ s m _ below meth c Z a0 h hw _ _ (by decide) K (sk_4 p l e _ s m _ below meth c Z a0 h hw _ _ (by decide) K (sk_5 p l e _ s m _ below meth c Z a0 h hw _ _ (by decide) K (hi_6 p l e _ s m _ below meth c Z a0 h hw A F K))))))
set_option maxRecDepth 65536 in
theorem pk_7 (l : Launch) (Z : State) (a0 : Array Value) (h : Heap) (hw : ∀ d ∈ tables_1, d.before a0 Z = true) (A : Nat → Addr) (F : own_F Z h A)  : own_M l (⟨"com/example/locant/locant/AtomicTypePrimitivePinLaw", "pick", "(I)Lcom/example/locant/locant/AtomicType;"⟩ : MethodName) method_3_code 1 (.object "com/example/locant/locant/AtomicType") [] { frames := 0, cells := 0, slots := 0, locals := 0 } Z h #[(.int (7 : Int32))] (.ref (A 7)) := by
  refine own_met pn_1 (Ls := #[.val (.int (7 : Int32))]) (fun m => by first | (simp [entryFrame, mkF, argsToLocals, Value.category, maxLocals]; done) | rfl) ?_
  intro p e s m below meth c K
  exact sk_0 p l e _ s m _ below meth c Z a0 h hw _ _ (by decide) K (sk_1 p l e _ s m _ below meth c Z a0 h hw _ _ (by decide) K (sk_2 p l e _ s m _ below meth c Z a0 h hw _ _ (by decide) K (sk_3 p l e _ s m _ below meth c Z a0 h hw _ _ (by decide) K (sk_4 p l e _ s m _ below meth c Z a0 h hw _ _ (by decide) K (sk_5 p l e _ s m _ below meth c Z a0 h hw _ _ (by decide) K (sk_6 p l e _ s m _ below meth c Z a0 h hw _ _ (by decide) K (hi_7 p l e _ s m _ below meth c Z a0 h hw A F K)))))))
set_option maxRecDepth 65536 in
theorem pk_8 (l : Launch) (Z : State) (a0 : Array Value) (h : Heap) (hw : ∀ d ∈ tables_1, d.before a0 Z = true) (A : Nat → Addr) (F : own_F Z h A)  : own_M l (⟨"com/example/locant/locant/AtomicTypePrimitivePinLaw", "pick", "(I)Lcom/example/locant/locant/AtomicType;"⟩ : MethodName) method_3_code 1 (.object "com/example/locant/locant/AtomicType") [] { frames := 0, cells := 0, slots := 0, locals := 0 } Z h #[(.int (8 : Int32))] (.ref (A 8)) := by
  refine own_met pn_1 (Ls := #[.val (.int (8 : Int32))]) (fun m => by first | (simp [entryFrame, mkF, argsToLocals, Value.category, maxLocals]; done) | rfl) ?_
  intro p e s m below meth c K
  exact sk_0 p l e _ s m _ below meth c Z a0 h hw _ _ (by decide) K (sk_1 p l e _ s m _ below meth c Z a0 h hw _ _ (by decide) K (sk_2 p l e _ s m _ below meth c Z a0 h hw _ _ (by decide) K (sk_3 p l e _ s m _ below meth c Z a0 h hw _ _ (by decide) K (sk_4 p l e _ s m _ below meth c Z a0 h hw _ _ (by decide) K (sk_5 p l e _ s m _ below meth c Z a0 h hw _ _ (by decide) K (sk_6 p l e _ s m _ below meth c Z a0 h hw _ _ (by decide) K (sk_7 p l e _ s m _ below meth c Z a0 h hw _ _ (by decide) K (hi_8 p l e _ s m _ below meth c Z a0 h hw A F K))))))))
set_option maxRecDepth 65536 in
theorem pk_9 (l : Launch) (Z : State) (a0 : Array Value) (h : Heap) (hw : ∀ d ∈ tables_1, d.before a0 Z = true) (A : Nat → Addr) (F : own_F Z h A)  : own_M l (⟨"com/example/locant/locant/AtomicTypePrimitivePinLaw", "pick", "(I)Lcom/example/locant/locant/AtomicType;"⟩ : MethodName) method_3_code 1 (.object "com/example/locant/locant/AtomicType") [] { frames := 0, cells := 0, slots := 0, locals := 0 } Z h #[(.int (9 : Int32))] (.ref (A 9)) := by
  refine own_met pn_1 (Ls := #[.val (.int (9 : Int32))]) (fun m => by first | (simp [entryFrame, mkF, argsToLocals, Value.category, maxLocals]; done) | rfl) ?_
  intro p e s m below meth c K
  exact sk_0 p l e _ s m _ below meth c Z a0 h hw _ _ (by decide) K (sk_1 p l e _ s m _ below meth c Z a0 h hw _ _ (by decide) K (sk_2 p l e _ s m _ below meth c Z a0 h hw _ _ (by decide) K (sk_3 p l e _ s m _ below meth c Z a0 h hw _ _ (by decide) K (sk_4 p l e _ s m _ below meth c Z a0 h hw _ _ (by decide) K (sk_5 p l e _ s m _ below meth c Z a0 h hw _ _ (by decide) K (sk_6 p l e _ s m _ below meth c Z a0 h hw _ _ (by decide) K (sk_7 p l e _ s m _ below meth c Z a0 h hw _ _ (by decide) K (sk_8 p l e _ s m _ below meth c Z a0 h hw _ _ (by decide) K (hi_9 p l e _ s m _ below meth c Z a0 h hw A F K)))))))))
set_option maxRecDepth 65536 in
theorem pk_10 (l : Launch) (Z : State) (a0 : Array Value) (h : Heap) (hw : ∀ d ∈ tables_1, d.before a0 Z = true) (A : Nat → Addr) (F : own_F Z h A)  : own_M l (⟨"com/example/locant/locant/AtomicTypePrimitivePinLaw", "pick", "(I)Lcom/example/locant/locant/AtomicType;"⟩ : MethodName) method_3_code 1 (.object "com/example/locant/locant/AtomicType") [] { frames := 0, cells := 0, slots := 0, locals := 0 } Z h #[(.int (10 : Int32))] (.ref (A 10)) := by
  refine own_met pn_1 (Ls := #[.val (.int (10 : Int32))]) (fun m => by first | (simp [entryFrame, mkF, argsToLocals, Value.category, maxLocals]; done) | rfl) ?_
  intro p e s m below meth c K
  exact sk_0 p l e _ s m _ below meth c Z a0 h hw _ _ (by decide) K (sk_1 p l e _ s m _ below meth c Z a0 h hw _ _ (by decide) K (sk_2 p l e _ s m _ below meth c Z a0 h hw _ _ (by decide) K (sk_3 p l e _ s m _ below meth c Z a0 h hw _ _ (by decide) K (sk_4 p l e _ s m _ below meth c Z a0 h hw _ _ (by decide) K (sk_5 p l e _ s m _ below meth c Z a0 h hw _ _ (by decide) K (sk_6 p l e _ s m _ below meth c Z a0 h hw _ _ (by decide) K (sk_7 p l e _ s m _ below meth c Z a0 h hw _ _ (by decide) K (sk_8 p l e _ s m _ below meth c Z a0 h hw _ _ (by decide) K (sk_9 p l e _ s m _ below meth c Z a0 h hw _ _ (by decide) K (hi_10 p l e _ s m _ below meth c Z a0 h hw A F K))))))))))
set_option maxRecDepth 65536 in
theorem pk_11 (l : Launch) (Z : State) (a0 : Array Value) (h : Heap) (hw : ∀ d ∈ tables_1, d.before a0 Z = true) (A : Nat → Addr) (F : own_F Z h A)  : own_M l (⟨"com/example/locant/locant/AtomicTypePrimitivePinLaw", "pick", "(I)Lcom/example/locant/locant/AtomicType;"⟩ : MethodName) method_3_code 1 (.object "com/example/locant/locant/AtomicType") [] { frames := 0, cells := 0, slots := 0, locals := 0 } Z h #[(.int (11 : Int32))] (.ref (A 11)) := by
  refine own_met pn_1 (Ls := #[.val (.int (11 : Int32))]) (fun m => by first | (simp [entryFrame, mkF, argsToLocals, Value.category, maxLocals]; done) | rfl) ?_
  intro p e s m below meth c K
  exact sk_0 p l e _ s m _ below meth c Z a0 h hw _ _ (by decide) K (sk_1 p l e _ s m _ below meth c Z a0 h hw _ _ (by decide) K (sk_2 p l e _ s m _ below meth c Z a0 h hw _ _ (by decide) K (sk_3 p l e _ s m _ below meth c Z a0 h hw _ _ (by decide) K (sk_4 p l e _ s m _ below meth c Z a0 h hw _ _ (by decide) K (sk_5 p l e _ s m _ below meth c Z a0 h hw _ _ (by decide) K (sk_6 p l e _ s m _ below meth c Z a0 h hw _ _ (by decide) K (sk_7 p l e _ s m _ below meth c Z a0 h hw _ _ (by decide) K (sk_8 p l e _ s m _ below meth c Z a0 h hw _ _ (by decide) K (sk_9 p l e _ s m _ below meth c Z a0 h hw _ _ (by decide) K (sk_10 p l e _ s m _ below meth c Z a0 h hw _ _ (by decide) K (hi_11 p l e _ s m _ below meth c Z a0 h hw A F K)))))))))))
set_option maxRecDepth 65536 in
theorem pk_12 (l : Launch) (Z : State) (a0 : Array Value) (h : Heap) (hw : ∀ d ∈ tables_1, d.before a0 Z = true) (A : Nat → Addr) (F : own_F Z h A)  : own_M l (⟨"com/example/locant/locant/AtomicTypePrimitivePinLaw", "pick", "(I)Lcom/example/locant/locant/AtomicType;"⟩ : MethodName) method_3_code 1 (.object "com/example/locant/locant/AtomicType") [] { frames := 0, cells := 0, slots := 0, locals := 0 } Z h #[(.int (12 : Int32))] (.ref (A 12)) := by
  refine own_met pn_1 (Ls := #[.val (.int (12 : Int32))]) (fun m => by first | (simp [entryFrame, mkF, argsToLocals, Value.category, maxLocals]; done) | rfl) ?_
  intro p e s m below meth c K
  exact sk_0 p l e _ s m _ below meth c Z a0 h hw _ _ (by decide) K (sk_1 p l e _ s m _ below meth c Z a0 h hw _ _ (by decide) K (sk_2 p l e _ s m _ below meth c Z a0 h hw _ _ (by decide) K (sk_3 p l e _ s m _ below meth c Z a0 h hw _ _ (by decide) K (sk_4 p l e _ s m _ below meth c Z a0 h hw _ _ (by decide) K (sk_5 p l e _ s m _ below meth c Z a0 h hw _ _ (by decide) K (sk_6 p l e _ s m _ below meth c Z a0 h hw _ _ (by decide) K (sk_7 p l e _ s m _ below meth c Z a0 h hw _ _ (by decide) K (sk_8 p l e _ s m _ below meth c Z a0 h hw _ _ (by decide) K (sk_9 p l e _ s m _ below meth c Z a0 h hw _ _ (by decide) K (sk_10 p l e _ s m _ below meth c Z a0 h hw _ _ (by decide) K (sk_11 p l e _ s m _ below meth c Z a0 h hw _ _ (by decide) K (hi_12 p l e _ s m _ below meth c Z a0 h hw A F K))))))))))))
set_option maxRecDepth 65536 in
theorem pk_13 (l : Launch) (Z : State) (a0 : Array Value) (h : Heap) (hw : ∀ d ∈ tables_1, d.before a0 Z = true) (A : Nat → Addr) (F : own_F Z h A)  : own_M l (⟨"com/example/locant/locant/AtomicTypePrimitivePinLaw", "pick", "(I)Lcom/example/locant/locant/AtomicType;"⟩ : MethodName) method_3_code 1 (.object "com/example/locant/locant/AtomicType") [] { frames := 0, cells := 0, slots := 0, locals := 0 } Z h #[(.int (13 : Int32))] (.ref (A 13)) := by
  refine own_met pn_1 (Ls := #[.val (.int (13 : Int32))]) (fun m => by first | (simp [entryFrame, mkF, argsToLocals, Value.category, maxLocals]; done) | rfl) ?_
  intro p e s m below meth c K
  exact sk_0 p l e _ s m _ below meth c Z a0 h hw _ _ (by decide) K (sk_1 p l e _ s m _ below meth c Z a0 h hw _ _ (by decide) K (sk_2 p l e _ s m _ below meth c Z a0 h hw _ _ (by decide) K (sk_3 p l e _ s m _ below meth c Z a0 h hw _ _ (by decide) K (sk_4 p l e _ s m _ below meth c Z a0 h hw _ _ (by decide) K (sk_5 p l e _ s m _ below meth c Z a0 h hw _ _ (by decide) K (sk_6 p l e _ s m _ below meth c Z a0 h hw _ _ (by decide) K (sk_7 p l e _ s m _ below meth c Z a0 h hw _ _ (by decide) K (sk_8 p l e _ s m _ below meth c Z a0 h hw _ _ (by decide) K (sk_9 p l e _ s m _ below meth c Z a0 h hw _ _ (by decide) K (sk_10 p l e _ s m _ below meth c Z a0 h hw _ _ (by decide) K (sk_11 p l e _ s m _ below meth c Z a0 h hw _ _ (by decide) K (sk_12 p l e _ s m _ below meth c Z a0 h hw _ _ (by decide) K (hi_13 p l e _ s m _ below meth c Z a0 h hw A F K)))))))))))))
set_option maxRecDepth 65536 in
theorem pk_14 (l : Launch) (Z : State) (a0 : Array Value) (h : Heap) (hw : ∀ d ∈ tables_1, d.before a0 Z = true) (A : Nat → Addr) (F : own_F Z h A)  : own_M l (⟨"com/example/locant/locant/AtomicTypePrimitivePinLaw", "pick", "(I)Lcom/example/locant/locant/AtomicType;"⟩ : MethodName) method_3_code 1 (.object "com/example/locant/locant/AtomicType") [] { frames := 0, cells := 0, slots := 0, locals := 0 } Z h #[(.int (14 : Int32))] (.ref (A 14)) := by
  refine own_met pn_1 (Ls := #[.val (.int (14 : Int32))]) (fun m => by first | (simp [entryFrame, mkF, argsToLocals, Value.category, maxLocals]; done) | rfl) ?_
  intro p e s m below meth c K
  exact sk_0 p l e _ s m _ below meth c Z a0 h hw _ _ (by decide) K (sk_1 p l e _ s m _ below meth c Z a0 h hw _ _ (by decide) K (sk_2 p l e _ s m _ below meth c Z a0 h hw _ _ (by decide) K (sk_3 p l e _ s m _ below meth c Z a0 h hw _ _ (by decide) K (sk_4 p l e _ s m _ below meth c Z a0 h hw _ _ (by decide) K (sk_5 p l e _ s m _ below meth c Z a0 h hw _ _ (by decide) K (sk_6 p l e _ s m _ below meth c Z a0 h hw _ _ (by decide) K (sk_7 p l e _ s m _ below meth c Z a0 h hw _ _ (by decide) K (sk_8 p l e _ s m _ below meth c Z a0 h hw _ _ (by decide) K (sk_9 p l e _ s m _ below meth c Z a0 h hw _ _ (by decide) K (sk_10 p l e _ s m _ below meth c Z a0 h hw _ _ (by decide) K (sk_11 p l e _ s m _ below meth c Z a0 h hw _ _ (by decide) K (sk_12 p l e _ s m _ below meth c Z a0 h hw _ _ (by decide) K (sk_13 p l e _ s m _ below meth c Z a0 h hw _ _ (by decide) K (hi_14 p l e _ s m _ below meth c Z a0 h hw A F K))))))))))))))
set_option maxRecDepth 65536 in
theorem pk_15 (l : Launch) (Z : State) (a0 : Array Value) (h : Heap) (hw : ∀ d ∈ tables_1, d.before a0 Z = true) (A : Nat → Addr) (F : own_F Z h A)  : own_M l (⟨"com/example/locant/locant/AtomicTypePrimitivePinLaw", "pick", "(I)Lcom/example/locant/locant/AtomicType;"⟩ : MethodName) method_3_code 1 (.object "com/example/locant/locant/AtomicType") [] { frames := 0, cells := 0, slots := 0, locals := 0 } Z h #[(.int (15 : Int32))] (.ref (A 15)) := by
  refine own_met pn_1 (Ls := #[.val (.int (15 : Int32))]) (fun m => by first | (simp [entryFrame, mkF, argsToLocals, Value.category, maxLocals]; done) | rfl) ?_
  intro p e s m below meth c K
  exact sk_0 p l e _ s m _ below meth c Z a0 h hw _ _ (by decide) K (sk_1 p l e _ s m _ below meth c Z a0 h hw _ _ (by decide) K (sk_2 p l e _ s m _ below meth c Z a0 h hw _ _ (by decide) K (sk_3 p l e _ s m _ below meth c Z a0 h hw _ _ (by decide) K (sk_4 p l e _ s m _ below meth c Z a0 h hw _ _ (by decide) K (sk_5 p l e _ s m _ below meth c Z a0 h hw _ _ (by decide) K (sk_6 p l e _ s m _ below meth c Z a0 h hw _ _ (by decide) K (sk_7 p l e _ s m _ below meth c Z a0 h hw _ _ (by decide) K (sk_8 p l e _ s m _ below meth c Z a0 h hw _ _ (by decide) K (sk_9 p l e _ s m _ below meth c Z a0 h hw _ _ (by decide) K (sk_10 p l e _ s m _ below meth c Z a0 h hw _ _ (by decide) K (sk_11 p l e _ s m _ below meth c Z a0 h hw _ _ (by decide) K (sk_12 p l e _ s m _ below meth c Z a0 h hw _ _ (by decide) K (sk_13 p l e _ s m _ below meth c Z a0 h hw _ _ (by decide) K (sk_14 p l e _ s m _ below meth c Z a0 h hw _ _ (by decide) K (hi_15 p l e _ s m _ below meth c Z a0 h hw A F K)))))))))))))))
set_option maxRecDepth 65536 in
theorem pk_16 (l : Launch) (Z : State) (a0 : Array Value) (h : Heap) (hw : ∀ d ∈ tables_1, d.before a0 Z = true) (A : Nat → Addr) (F : own_F Z h A)  : own_M l (⟨"com/example/locant/locant/AtomicTypePrimitivePinLaw", "pick", "(I)Lcom/example/locant/locant/AtomicType;"⟩ : MethodName) method_3_code 1 (.object "com/example/locant/locant/AtomicType") [] { frames := 0, cells := 0, slots := 0, locals := 0 } Z h #[(.int (16 : Int32))] (.ref (A 16)) := by
  refine own_met pn_1 (Ls := #[.val (.int (16 : Int32))]) (fun m => by first | (simp [entryFrame, mkF, argsToLocals, Value.category, maxLocals]; done) | rfl) ?_
  intro p e s m below meth c K
  exact sk_0 p l e _ s m _ below meth c Z a0 h hw _ _ (by decide) K (sk_1 p l e _ s m _ below meth c Z a0 h hw _ _ (by decide) K (sk_2 p l e _ s m _ below meth c Z a0 h hw _ _ (by decide) K (sk_3 p l e _ s m _ below meth c Z a0 h hw _ _ (by decide) K (sk_4 p l e _ s m _ below meth c Z a0 h hw _ _ (by decide) K (sk_5 p l e _ s m _ below meth c Z a0 h hw _ _ (by decide) K (sk_6 p l e _ s m _ below meth c Z a0 h hw _ _ (by decide) K (sk_7 p l e _ s m _ below meth c Z a0 h hw _ _ (by decide) K (sk_8 p l e _ s m _ below meth c Z a0 h hw _ _ (by decide) K (sk_9 p l e _ s m _ below meth c Z a0 h hw _ _ (by decide) K (sk_10 p l e _ s m _ below meth c Z a0 h hw _ _ (by decide) K (sk_11 p l e _ s m _ below meth c Z a0 h hw _ _ (by decide) K (sk_12 p l e _ s m _ below meth c Z a0 h hw _ _ (by decide) K (sk_13 p l e _ s m _ below meth c Z a0 h hw _ _ (by decide) K (sk_14 p l e _ s m _ below meth c Z a0 h hw _ _ (by decide) K (sk_15 p l e _ s m _ below meth c Z a0 h hw _ _ (by decide) K (hi_16 p l e _ s m _ below meth c Z a0 h hw A F K))))))))))))))))
set_option maxRecDepth 65536 in
theorem pk_17 (l : Launch) (Z : State) (a0 : Array Value) (h : Heap) (hw : ∀ d ∈ tables_1, d.before a0 Z = true) (A : Nat → Addr) (F : own_F Z h A)  : own_M l (⟨"com/example/locant/locant/AtomicTypePrimitivePinLaw", "pick", "(I)Lcom/example/locant/locant/AtomicType;"⟩ : MethodName) method_3_code 1 (.object "com/example/locant/locant/AtomicType") [] { frames := 0, cells := 0, slots := 0, locals := 0 } Z h #[(.int (17 : Int32))] (.ref (A 17)) := by
  refine own_met pn_1 (Ls := #[.val (.int (17 : Int32))]) (fun m => by first | (simp [entryFrame, mkF, argsToLocals, Value.category, maxLocals]; done) | rfl) ?_
  intro p e s m below meth c K
  exact sk_0 p l e _ s m _ below meth c Z a0 h hw _ _ (by decide) K (sk_1 p l e _ s m _ below meth c Z a0 h hw _ _ (by decide) K (sk_2 p l e _ s m _ below meth c Z a0 h hw _ _ (by decide) K (sk_3 p l e _ s m _ below meth c Z a0 h hw _ _ (by decide) K (sk_4 p l e _ s m _ below meth c Z a0 h hw _ _ (by decide) K (sk_5 p l e _ s m _ below meth c Z a0 h hw _ _ (by decide) K (sk_6 p l e _ s m _ below meth c Z a0 h hw _ _ (by decide) K (sk_7 p l e _ s m _ below meth c Z a0 h hw _ _ (by decide) K (sk_8 p l e _ s m _ below meth c Z a0 h hw _ _ (by decide) K (sk_9 p l e _ s m _ below meth c Z a0 h hw _ _ (by decide) K (sk_10 p l e _ s m _ below meth c Z a0 h hw _ _ (by decide) K (sk_11 p l e _ s m _ below meth c Z a0 h hw _ _ (by decide) K (sk_12 p l e _ s m _ below meth c Z a0 h hw _ _ (by decide) K (sk_13 p l e _ s m _ below meth c Z a0 h hw _ _ (by decide) K (sk_14 p l e _ s m _ below meth c Z a0 h hw _ _ (by decide) K (sk_15 p l e _ s m _ below meth c Z a0 h hw _ _ (by decide) K (sk_16 p l e _ s m _ below meth c Z a0 h hw _ _ (by decide) K (hi_17 p l e _ s m _ below meth c Z a0 h hw A F K)))))))))))))))))
set_option maxRecDepth 65536 in
theorem pk_18 (l : Launch) (Z : State) (a0 : Array Value) (h : Heap) (hw : ∀ d ∈ tables_1, d.before a0 Z = true) (A : Nat → Addr) (F : own_F Z h A)  : own_M l (⟨"com/example/locant/locant/AtomicTypePrimitivePinLaw", "pick", "(I)Lcom/example/locant/locant/AtomicType;"⟩ : MethodName) method_3_code 1 (.object "com/example/locant/locant/AtomicType") [] { frames := 0, cells := 0, slots := 0, locals := 0 } Z h #[(.int (18 : Int32))] (.ref (A 18)) := by
  refine own_met pn_1 (Ls := #[.val (.int (18 : Int32))]) (fun m => by first | (simp [entryFrame, mkF, argsToLocals, Value.category, maxLocals]; done) | rfl) ?_
  intro p e s m below meth c K
  exact sk_0 p l e _ s m _ below meth c Z a0 h hw _ _ (by decide) K (sk_1 p l e _ s m _ below meth c Z a0 h hw _ _ (by decide) K (sk_2 p l e _ s m _ below meth c Z a0 h hw _ _ (by decide) K (sk_3 p l e _ s m _ below meth c Z a0 h hw _ _ (by decide) K (sk_4 p l e _ s m _ below meth c Z a0 h hw _ _ (by decide) K (sk_5 p l e _ s m _ below meth c Z a0 h hw _ _ (by decide) K (sk_6 p l e _ s m _ below meth c Z a0 h hw _ _ (by decide) K (sk_7 p l e _ s m _ below meth c Z a0 h hw _ _ (by decide) K (sk_8 p l e _ s m _ below meth c Z a0 h hw _ _ (by decide) K (sk_9 p l e _ s m _ below meth c Z a0 h hw _ _ (by decide) K (sk_10 p l e _ s m _ below meth c Z a0 h hw _ _ (by decide) K (sk_11 p l e _ s m _ below meth c Z a0 h hw _ _ (by decide) K (sk_12 p l e _ s m _ below meth c Z a0 h hw _ _ (by decide) K (sk_13 p l e _ s m _ below meth c Z a0 h hw _ _ (by decide) K (sk_14 p l e _ s m _ below meth c Z a0 h hw _ _ (by decide) K (sk_15 p l e _ s m _ below meth c Z a0 h hw _ _ (by decide) K (sk_16 p l e _ s m _ below meth c Z a0 h hw _ _ (by decide) K (sk_17 p l e _ s m _ below meth c Z a0 h hw _ _ (by decide) K (hi_18 p l e _ s m _ below meth c Z a0 h hw A F K))))))))))))))))))
set_option maxRecDepth 65536 in
theorem pk_19 (l : Launch) (Z : State) (a0 : Array Value) (h : Heap) (hw : ∀ d ∈ tables_1, d.before a0 Z = true) (A : Nat → Addr) (F : own_F Z h A)  : own_M l (⟨"com/example/locant/locant/AtomicTypePrimitivePinLaw", "pick", "(I)Lcom/example/locant/locant/AtomicType;"⟩ : MethodName) method_3_code 1 (.object "com/example/locant/locant/AtomicType") [] { frames := 0, cells := 0, slots := 0, locals := 0 } Z h #[(.int (19 : Int32))] (.ref (A 19)) := by
  refine own_met pn_1 (Ls := #[.val (.int (19 : Int32))]) (fun m => by first | (simp [entryFrame, mkF, argsToLocals, Value.category, maxLocals]; done) | rfl) ?_
  intro p e s m below meth c K
  exact sk_0 p l e _ s m _ below meth c Z a0 h hw _ _ (by decide) K (sk_1 p l e _ s m _ below meth c Z a0 h hw _ _ (by decide) K (sk_2 p l e _ s m _ below meth c Z a0 h hw _ _ (by decide) K (sk_3 p l e _ s m _ below meth c Z a0 h hw _ _ (by decide) K (sk_4 p l e _ s m _ below meth c Z a0 h hw _ _ (by decide) K (sk_5 p l e _ s m _ below meth c Z a0 h hw _ _ (by decide) K (sk_6 p l e _ s m _ below meth c Z a0 h hw _ _ (by decide) K (sk_7 p l e _ s m _ below meth c Z a0 h hw _ _ (by decide) K (sk_8 p l e _ s m _ below meth c Z a0 h hw _ _ (by decide) K (sk_9 p l e _ s m _ below meth c Z a0 h hw _ _ (by decide) K (sk_10 p l e _ s m _ below meth c Z a0 h hw _ _ (by decide) K (sk_11 p l e _ s m _ below meth c Z a0 h hw _ _ (by decide) K (sk_12 p l e _ s m _ below meth c Z a0 h hw _ _ (by decide) K (sk_13 p l e _ s m _ below meth c Z a0 h hw _ _ (by decide) K (sk_14 p l e _ s m _ below meth c Z a0 h hw _ _ (by decide) K (sk_15 p l e _ s m _ below meth c Z a0 h hw _ _ (by decide) K (sk_16 p l e _ s m _ below meth c Z a0 h hw _ _ (by decide) K (sk_17 p l e _ s m _ below meth c Z a0 h hw _ _ (by decide) K (sk_18 p l e _ s m _ below meth c Z a0 h hw _ _ (by decide) K (hi_19 p l e _ s m _ below meth c Z a0 h hw A F K)))))))))))))))))))
set_option maxRecDepth 65536 in
theorem pk_20 (l : Launch) (Z : State) (a0 : Array Value) (h : Heap) (hw : ∀ d ∈ tables_1, d.before a0 Z = true) (A : Nat → Addr) (F : own_F Z h A)  : own_M l (⟨"com/example/locant/locant/AtomicTypePrimitivePinLaw", "pick", "(I)Lcom/example/locant/locant/AtomicType;"⟩ : MethodName) method_3_code 1 (.object "com/example/locant/locant/AtomicType") [] { frames := 0, cells := 0, slots := 0, locals := 0 } Z h #[(.int (20 : Int32))] (.ref (A 20)) := by
  refine own_met pn_1 (Ls := #[.val (.int (20 : Int32))]) (fun m => by first | (simp [entryFrame, mkF, argsToLocals, Value.category, maxLocals]; done) | rfl) ?_
  intro p e s m below meth c K
  exact sk_0 p l e _ s m _ below meth c Z a0 h hw _ _ (by decide) K (sk_1 p l e _ s m _ below meth c Z a0 h hw _ _ (by decide) K (sk_2 p l e _ s m _ below meth c Z a0 h hw _ _ (by decide) K (sk_3 p l e _ s m _ below meth c Z a0 h hw _ _ (by decide) K (sk_4 p l e _ s m _ below meth c Z a0 h hw _ _ (by decide) K (sk_5 p l e _ s m _ below meth c Z a0 h hw _ _ (by decide) K (sk_6 p l e _ s m _ below meth c Z a0 h hw _ _ (by decide) K (sk_7 p l e _ s m _ below meth c Z a0 h hw _ _ (by decide) K (sk_8 p l e _ s m _ below meth c Z a0 h hw _ _ (by decide) K (sk_9 p l e _ s m _ below meth c Z a0 h hw _ _ (by decide) K (sk_10 p l e _ s m _ below meth c Z a0 h hw _ _ (by decide) K (sk_11 p l e _ s m _ below meth c Z a0 h hw _ _ (by decide) K (sk_12 p l e _ s m _ below meth c Z a0 h hw _ _ (by decide) K (sk_13 p l e _ s m _ below meth c Z a0 h hw _ _ (by decide) K (sk_14 p l e _ s m _ below meth c Z a0 h hw _ _ (by decide) K (sk_15 p l e _ s m _ below meth c Z a0 h hw _ _ (by decide) K (sk_16 p l e _ s m _ below meth c Z a0 h hw _ _ (by decide) K (sk_17 p l e _ s m _ below meth c Z a0 h hw _ _ (by decide) K (sk_18 p l e _ s m _ below meth c Z a0 h hw _ _ (by decide) K (sk_19 p l e _ s m _ below meth c Z a0 h hw _ _ (by decide) K (hi_20 p l e _ s m _ below meth c Z a0 h hw A F K))))))))))))))))))))
set_option maxRecDepth 65536 in
theorem pk_21 (l : Launch) (Z : State) (a0 : Array Value) (h : Heap) (hw : ∀ d ∈ tables_1, d.before a0 Z = true) (A : Nat → Addr) (F : own_F Z h A)  : own_M l (⟨"com/example/locant/locant/AtomicTypePrimitivePinLaw", "pick", "(I)Lcom/example/locant/locant/AtomicType;"⟩ : MethodName) method_3_code 1 (.object "com/example/locant/locant/AtomicType") [] { frames := 0, cells := 0, slots := 0, locals := 0 } Z h #[(.int (21 : Int32))] (.ref (A 21)) := by
  refine own_met pn_1 (Ls := #[.val (.int (21 : Int32))]) (fun m => by first | (simp [entryFrame, mkF, argsToLocals, Value.category, maxLocals]; done) | rfl) ?_
  intro p e s m below meth c K
  exact sk_0 p l e _ s m _ below meth c Z a0 h hw _ _ (by decide) K (sk_1 p l e _ s m _ below meth c Z a0 h hw _ _ (by decide) K (sk_2 p l e _ s m _ below meth c Z a0 h hw _ _ (by decide) K (sk_3 p l e _ s m _ below meth c Z a0 h hw _ _ (by decide) K (sk_4 p l e _ s m _ below meth c Z a0 h hw _ _ (by decide) K (sk_5 p l e _ s m _ below meth c Z a0 h hw _ _ (by decide) K (sk_6 p l e _ s m _ below meth c Z a0 h hw _ _ (by decide) K (sk_7 p l e _ s m _ below meth c Z a0 h hw _ _ (by decide) K (sk_8 p l e _ s m _ below meth c Z a0 h hw _ _ (by decide) K (sk_9 p l e _ s m _ below meth c Z a0 h hw _ _ (by decide) K (sk_10 p l e _ s m _ below meth c Z a0 h hw _ _ (by decide) K (sk_11 p l e _ s m _ below meth c Z a0 h hw _ _ (by decide) K (sk_12 p l e _ s m _ below meth c Z a0 h hw _ _ (by decide) K (sk_13 p l e _ s m _ below meth c Z a0 h hw _ _ (by decide) K (sk_14 p l e _ s m _ below meth c Z a0 h hw _ _ (by decide) K (sk_15 p l e _ s m _ below meth c Z a0 h hw _ _ (by decide) K (sk_16 p l e _ s m _ below meth c Z a0 h hw _ _ (by decide) K (sk_17 p l e _ s m _ below meth c Z a0 h hw _ _ (by decide) K (sk_18 p l e _ s m _ below meth c Z a0 h hw _ _ (by decide) K (sk_19 p l e _ s m _ below meth c Z a0 h hw _ _ (by decide) K (sk_20 p l e _ s m _ below meth c Z a0 h hw _ _ (by decide) K (hi_21 p l e _ s m _ below meth c Z a0 h hw A F K)))))))))))))))))))))
set_option maxRecDepth 65536 in
theorem pk_22 (l : Launch) (Z : State) (a0 : Array Value) (h : Heap) (hw : ∀ d ∈ tables_1, d.before a0 Z = true) (A : Nat → Addr) (F : own_F Z h A)  : own_M l (⟨"com/example/locant/locant/AtomicTypePrimitivePinLaw", "pick", "(I)Lcom/example/locant/locant/AtomicType;"⟩ : MethodName) method_3_code 1 (.object "com/example/locant/locant/AtomicType") [] { frames := 0, cells := 0, slots := 0, locals := 0 } Z h #[(.int (22 : Int32))] (.ref (A 22)) := by
  refine own_met pn_1 (Ls := #[.val (.int (22 : Int32))]) (fun m => by first | (simp [entryFrame, mkF, argsToLocals, Value.category, maxLocals]; done) | rfl) ?_
  intro p e s m below meth c K
  exact sk_0 p l e _ s m _ below meth c Z a0 h hw _ _ (by decide) K (sk_1 p l e _ s m _ below meth c Z a0 h hw _ _ (by decide) K (sk_2 p l e _ s m _ below meth c Z a0 h hw _ _ (by decide) K (sk_3 p l e _ s m _ below meth c Z a0 h hw _ _ (by decide) K (sk_4 p l e _ s m _ below meth c Z a0 h hw _ _ (by decide) K (sk_5 p l e _ s m _ below meth c Z a0 h hw _ _ (by decide) K (sk_6 p l e _ s m _ below meth c Z a0 h hw _ _ (by decide) K (sk_7 p l e _ s m _ below meth c Z a0 h hw _ _ (by decide) K (sk_8 p l e _ s m _ below meth c Z a0 h hw _ _ (by decide) K (sk_9 p l e _ s m _ below meth c Z a0 h hw _ _ (by decide) K (sk_10 p l e _ s m _ below meth c Z a0 h hw _ _ (by decide) K (sk_11 p l e _ s m _ below meth c Z a0 h hw _ _ (by decide) K (sk_12 p l e _ s m _ below meth c Z a0 h hw _ _ (by decide) K (sk_13 p l e _ s m _ below meth c Z a0 h hw _ _ (by decide) K (sk_14 p l e _ s m _ below meth c Z a0 h hw _ _ (by decide) K (sk_15 p l e _ s m _ below meth c Z a0 h hw _ _ (by decide) K (sk_16 p l e _ s m _ below meth c Z a0 h hw _ _ (by decide) K (sk_17 p l e _ s m _ below meth c Z a0 h hw _ _ (by decide) K (sk_18 p l e _ s m _ below meth c Z a0 h hw _ _ (by decide) K (sk_19 p l e _ s m _ below meth c Z a0 h hw _ _ (by decide) K (sk_20 p l e _ s m _ below meth c Z a0 h hw _ _ (by decide) K (sk_21 p l e _ s m _ below meth c Z a0 h hw _ _ (by decide) K (hi_22 p l e _ s m _ below meth c Z a0 h hw A F K))))))))))))))))))))))
set_option maxRecDepth 65536 in
theorem pk_23 (l : Launch) (Z : State) (a0 : Array Value) (h : Heap) (hw : ∀ d ∈ tables_1, d.before a0 Z = true) (A : Nat → Addr) (F : own_F Z h A)  : own_M l (⟨"com/example/locant/locant/AtomicTypePrimitivePinLaw", "pick", "(I)Lcom/example/locant/locant/AtomicType;"⟩ : MethodName) method_3_code 1 (.object "com/example/locant/locant/AtomicType") [] { frames := 0, cells := 0, slots := 0, locals := 0 } Z h #[(.int (23 : Int32))] (.ref (A 23)) := by
  refine own_met pn_1 (Ls := #[.val (.int (23 : Int32))]) (fun m => by first | (simp [entryFrame, mkF, argsToLocals, Value.category, maxLocals]; done) | rfl) ?_
  intro p e s m below meth c K
  exact sk_0 p l e _ s m _ below meth c Z a0 h hw _ _ (by decide) K (sk_1 p l e _ s m _ below meth c Z a0 h hw _ _ (by decide) K (sk_2 p l e _ s m _ below meth c Z a0 h hw _ _ (by decide) K (sk_3 p l e _ s m _ below meth c Z a0 h hw _ _ (by decide) K (sk_4 p l e _ s m _ below meth c Z a0 h hw _ _ (by decide) K (sk_5 p l e _ s m _ below meth c Z a0 h hw _ _ (by decide) K (sk_6 p l e _ s m _ below meth c Z a0 h hw _ _ (by decide) K (sk_7 p l e _ s m _ below meth c Z a0 h hw _ _ (by decide) K (sk_8 p l e _ s m _ below meth c Z a0 h hw _ _ (by decide) K (sk_9 p l e _ s m _ below meth c Z a0 h hw _ _ (by decide) K (sk_10 p l e _ s m _ below meth c Z a0 h hw _ _ (by decide) K (sk_11 p l e _ s m _ below meth c Z a0 h hw _ _ (by decide) K (sk_12 p l e _ s m _ below meth c Z a0 h hw _ _ (by decide) K (sk_13 p l e _ s m _ below meth c Z a0 h hw _ _ (by decide) K (sk_14 p l e _ s m _ below meth c Z a0 h hw _ _ (by decide) K (sk_15 p l e _ s m _ below meth c Z a0 h hw _ _ (by decide) K (sk_16 p l e _ s m _ below meth c Z a0 h hw _ _ (by decide) K (sk_17 p l e _ s m _ below meth c Z a0 h hw _ _ (by decide) K (sk_18 p l e _ s m _ below meth c Z a0 h hw _ _ (by decide) K (sk_19 p l e _ s m _ below meth c Z a0 h hw _ _ (by decide) K (sk_20 p l e _ s m _ below meth c Z a0 h hw _ _ (by decide) K (sk_21 p l e _ s m _ below meth c Z a0 h hw _ _ (by decide) K (sk_22 p l e _ s m _ below meth c Z a0 h hw _ _ (by decide) K (hi_23 p l e _ s m _ below meth c Z a0 h hw A F K)))))))))))))))))))))))
set_option maxRecDepth 65536 in
theorem pk_24 (l : Launch) (Z : State) (a0 : Array Value) (h : Heap) (hw : ∀ d ∈ tables_1, d.before a0 Z = true) (A : Nat → Addr) (F : own_F Z h A)  : own_M l (⟨"com/example/locant/locant/AtomicTypePrimitivePinLaw", "pick", "(I)Lcom/example/locant/locant/AtomicType;"⟩ : MethodName) method_3_code 1 (.object "com/example/locant/locant/AtomicType") [] { frames := 0, cells := 0, slots := 0, locals := 0 } Z h #[(.int (24 : Int32))] (.ref (A 24)) := by
  refine own_met pn_1 (Ls := #[.val (.int (24 : Int32))]) (fun m => by first | (simp [entryFrame, mkF, argsToLocals, Value.category, maxLocals]; done) | rfl) ?_
  intro p e s m below meth c K
  exact sk_0 p l e _ s m _ below meth c Z a0 h hw _ _ (by decide) K (sk_1 p l e _ s m _ below meth c Z a0 h hw _ _ (by decide) K (sk_2 p l e _ s m _ below meth c Z a0 h hw _ _ (by decide) K (sk_3 p l e _ s m _ below meth c Z a0 h hw _ _ (by decide) K (sk_4 p l e _ s m _ below meth c Z a0 h hw _ _ (by decide) K (sk_5 p l e _ s m _ below meth c Z a0 h hw _ _ (by decide) K (sk_6 p l e _ s m _ below meth c Z a0 h hw _ _ (by decide) K (sk_7 p l e _ s m _ below meth c Z a0 h hw _ _ (by decide) K (sk_8 p l e _ s m _ below meth c Z a0 h hw _ _ (by decide) K (sk_9 p l e _ s m _ below meth c Z a0 h hw _ _ (by decide) K (sk_10 p l e _ s m _ below meth c Z a0 h hw _ _ (by decide) K (sk_11 p l e _ s m _ below meth c Z a0 h hw _ _ (by decide) K (sk_12 p l e _ s m _ below meth c Z a0 h hw _ _ (by decide) K (sk_13 p l e _ s m _ below meth c Z a0 h hw _ _ (by decide) K (sk_14 p l e _ s m _ below meth c Z a0 h hw _ _ (by decide) K (sk_15 p l e _ s m _ below meth c Z a0 h hw _ _ (by decide) K (sk_16 p l e _ s m _ below meth c Z a0 h hw _ _ (by decide) K (sk_17 p l e _ s m _ below meth c Z a0 h hw _ _ (by decide) K (sk_18 p l e _ s m _ below meth c Z a0 h hw _ _ (by decide) K (sk_19 p l e _ s m _ below meth c Z a0 h hw _ _ (by decide) K (sk_20 p l e _ s m _ below meth c Z a0 h hw _ _ (by decide) K (sk_21 p l e _ s m _ below meth c Z a0 h hw _ _ (by decide) K (sk_22 p l e _ s m _ below meth c Z a0 h hw _ _ (by decide) K (sk_23 p l e _ s m _ below meth c Z a0 h hw _ _ (by decide) K (hi_24 p l e _ s m _ below meth c Z a0 h hw A F K))))))))))))))))))))))))
set_option maxRecDepth 65536 in
theorem pk_25 (l : Launch) (Z : State) (a0 : Array Value) (h : Heap) (hw : ∀ d ∈ tables_1, d.before a0 Z = true) (A : Nat → Addr) (F : own_F Z h A)  : own_M l (⟨"com/example/locant/locant/AtomicTypePrimitivePinLaw", "pick", "(I)Lcom/example/locant/locant/AtomicType;"⟩ : MethodName) method_3_code 1 (.object "com/example/locant/locant/AtomicType") [] { frames := 0, cells := 0, slots := 0, locals := 0 } Z h #[(.int (25 : Int32))] (.ref (A 25)) := by
  refine own_met pn_1 (Ls := #[.val (.int (25 : Int32))]) (fun m => by first | (simp [entryFrame, mkF, argsToLocals, Value.category, maxLocals]; done) | rfl) ?_
  intro p e s m below meth c K
  exact sk_0 p l e _ s m _ below meth c Z a0 h hw _ _ (by decide) K (sk_1 p l e _ s m _ below meth c Z a0 h hw _ _ (by decide) K (sk_2 p l e _ s m _ below meth c Z a0 h hw _ _ (by decide) K (sk_3 p l e _ s m _ below meth c Z a0 h hw _ _ (by decide) K (sk_4 p l e _ s m _ below meth c Z a0 h hw _ _ (by decide) K (sk_5 p l e _ s m _ below meth c Z a0 h hw _ _ (by decide) K (sk_6 p l e _ s m _ below meth c Z a0 h hw _ _ (by decide) K (sk_7 p l e _ s m _ below meth c Z a0 h hw _ _ (by decide) K (sk_8 p l e _ s m _ below meth c Z a0 h hw _ _ (by decide) K (sk_9 p l e _ s m _ below meth c Z a0 h hw _ _ (by decide) K (sk_10 p l e _ s m _ below meth c Z a0 h hw _ _ (by decide) K (sk_11 p l e _ s m _ below meth c Z a0 h hw _ _ (by decide) K (sk_12 p l e _ s m _ below meth c Z a0 h hw _ _ (by decide) K (sk_13 p l e _ s m _ below meth c Z a0 h hw _ _ (by decide) K (sk_14 p l e _ s m _ below meth c Z a0 h hw _ _ (by decide) K (sk_15 p l e _ s m _ below meth c Z a0 h hw _ _ (by decide) K (sk_16 p l e _ s m _ below meth c Z a0 h hw _ _ (by decide) K (sk_17 p l e _ s m _ below meth c Z a0 h hw _ _ (by decide) K (sk_18 p l e _ s m _ below meth c Z a0 h hw _ _ (by decide) K (sk_19 p l e _ s m _ below meth c Z a0 h hw _ _ (by decide) K (sk_20 p l e _ s m _ below meth c Z a0 h hw _ _ (by decide) K (sk_21 p l e _ s m _ below meth c Z a0 h hw _ _ (by decide) K (sk_22 p l e _ s m _ below meth c Z a0 h hw _ _ (by decide) K (sk_23 p l e _ s m _ below meth c Z a0 h hw _ _ (by decide) K (sk_24 p l e _ s m _ below meth c Z a0 h hw _ _ (by decide) K (hi_25 p l e _ s m _ below meth c Z a0 h hw A F K)))))))))))))))))))))))))
set_option maxRecDepth 65536 in
theorem pk_26 (l : Launch) (Z : State) (a0 : Array Value) (h : Heap) (hw : ∀ d ∈ tables_1, d.before a0 Z = true) (A : Nat → Addr) (F : own_F Z h A)  : own_M l (⟨"com/example/locant/locant/AtomicTypePrimitivePinLaw", "pick", "(I)Lcom/example/locant/locant/AtomicType;"⟩ : MethodName) method_3_code 1 (.object "com/example/locant/locant/AtomicType") [] { frames := 0, cells := 0, slots := 0, locals := 0 } Z h #[(.int (26 : Int32))] (.ref (A 26)) := by
  refine own_met pn_1 (Ls := #[.val (.int (26 : Int32))]) (fun m => by first | (simp [entryFrame, mkF, argsToLocals, Value.category, maxLocals]; done) | rfl) ?_
  intro p e s m below meth c K
  exact sk_0 p l e _ s m _ below meth c Z a0 h hw _ _ (by decide) K (sk_1 p l e _ s m _ below meth c Z a0 h hw _ _ (by decide) K (sk_2 p l e _ s m _ below meth c Z a0 h hw _ _ (by decide) K (sk_3 p l e _ s m _ below meth c Z a0 h hw _ _ (by decide) K (sk_4 p l e _ s m _ below meth c Z a0 h hw _ _ (by decide) K (sk_5 p l e _ s m _ below meth c Z a0 h hw _ _ (by decide) K (sk_6 p l e _ s m _ below meth c Z a0 h hw _ _ (by decide) K (sk_7 p l e _ s m _ below meth c Z a0 h hw _ _ (by decide) K (sk_8 p l e _ s m _ below meth c Z a0 h hw _ _ (by decide) K (sk_9 p l e _ s m _ below meth c Z a0 h hw _ _ (by decide) K (sk_10 p l e _ s m _ below meth c Z a0 h hw _ _ (by decide) K (sk_11 p l e _ s m _ below meth c Z a0 h hw _ _ (by decide) K (sk_12 p l e _ s m _ below meth c Z a0 h hw _ _ (by decide) K (sk_13 p l e _ s m _ below meth c Z a0 h hw _ _ (by decide) K (sk_14 p l e _ s m _ below meth c Z a0 h hw _ _ (by decide) K (sk_15 p l e _ s m _ below meth c Z a0 h hw _ _ (by decide) K (sk_16 p l e _ s m _ below meth c Z a0 h hw _ _ (by decide) K (sk_17 p l e _ s m _ below meth c Z a0 h hw _ _ (by decide) K (sk_18 p l e _ s m _ below meth c Z a0 h hw _ _ (by decide) K (sk_19 p l e _ s m _ below meth c Z a0 h hw _ _ (by decide) K (sk_20 p l e _ s m _ below meth c Z a0 h hw _ _ (by decide) K (sk_21 p l e _ s m _ below meth c Z a0 h hw _ _ (by decide) K (sk_22 p l e _ s m _ below meth c Z a0 h hw _ _ (by decide) K (sk_23 p l e _ s m _ below meth c Z a0 h hw _ _ (by decide) K (sk_24 p l e _ s m _ below meth c Z a0 h hw _ _ (by decide) K (sk_25 p l e _ s m _ below meth c Z a0 h hw _ _ (by decide) K (hi_26 p l e _ s m _ below meth c Z a0 h hw A F K))))))))))))))))))))))))))
set_option maxRecDepth 65536 in
theorem pk_27 (l : Launch) (Z : State) (a0 : Array Value) (h : Heap) (hw : ∀ d ∈ tables_1, d.before a0 Z = true) (A : Nat → Addr) (F : own_F Z h A)  : own_M l (⟨"com/example/locant/locant/AtomicTypePrimitivePinLaw", "pick", "(I)Lcom/example/locant/locant/AtomicType;"⟩ : MethodName) method_3_code 1 (.object "com/example/locant/locant/AtomicType") [] { frames := 0, cells := 0, slots := 0, locals := 0 } Z h #[(.int (27 : Int32))] (.ref (A 27)) := by
  refine own_met pn_1 (Ls := #[.val (.int (27 : Int32))]) (fun m => by first | (simp [entryFrame, mkF, argsToLocals, Value.category, maxLocals]; done) | rfl) ?_
  intro p e s m below meth c K
  exact sk_0 p l e _ s m _ below meth c Z a0 h hw _ _ (by decide) K (sk_1 p l e _ s m _ below meth c Z a0 h hw _ _ (by decide) K (sk_2 p l e _ s m _ below meth c Z a0 h hw _ _ (by decide) K (sk_3 p l e _ s m _ below meth c Z a0 h hw _ _ (by decide) K (sk_4 p l e _ s m _ below meth c Z a0 h hw _ _ (by decide) K (sk_5 p l e _ s m _ below meth c Z a0 h hw _ _ (by decide) K (sk_6 p l e _ s m _ below meth c Z a0 h hw _ _ (by decide) K (sk_7 p l e _ s m _ below meth c Z a0 h hw _ _ (by decide) K (sk_8 p l e _ s m _ below meth c Z a0 h hw _ _ (by decide) K (sk_9 p l e _ s m _ below meth c Z a0 h hw _ _ (by decide) K (sk_10 p l e _ s m _ below meth c Z a0 h hw _ _ (by decide) K (sk_11 p l e _ s m _ below meth c Z a0 h hw _ _ (by decide) K (sk_12 p l e _ s m _ below meth c Z a0 h hw _ _ (by decide) K (sk_13 p l e _ s m _ below meth c Z a0 h hw _ _ (by decide) K (sk_14 p l e _ s m _ below meth c Z a0 h hw _ _ (by decide) K (sk_15 p l e _ s m _ below meth c Z a0 h hw _ _ (by decide) K (sk_16 p l e _ s m _ below meth c Z a0 h hw _ _ (by decide) K (sk_17 p l e _ s m _ below meth c Z a0 h hw _ _ (by decide) K (sk_18 p l e _ s m _ below meth c Z a0 h hw _ _ (by decide) K (sk_19 p l e _ s m _ below meth c Z a0 h hw _ _ (by decide) K (sk_20 p l e _ s m _ below meth c Z a0 h hw _ _ (by decide) K (sk_21 p l e _ s m _ below meth c Z a0 h hw _ _ (by decide) K (sk_22 p l e _ s m _ below meth c Z a0 h hw _ _ (by decide) K (sk_23 p l e _ s m _ below meth c Z a0 h hw _ _ (by decide) K (sk_24 p l e _ s m _ below meth c Z a0 h hw _ _ (by decide) K (sk_25 p l e _ s m _ below meth c Z a0 h hw _ _ (by decide) K (sk_26 p l e _ s m _ below meth c Z a0 h hw _ _ (by decide) K (hi_27 p l e _ s m _ below meth c Z a0 h hw A F K)))))))))))))))))))))))))))
set_option maxRecDepth 65536 in
theorem pk_28 (l : Launch) (Z : State) (a0 : Array Value) (h : Heap) (hw : ∀ d ∈ tables_1, d.before a0 Z = true) (A : Nat → Addr) (F : own_F Z h A)  : own_M l (⟨"com/example/locant/locant/AtomicTypePrimitivePinLaw", "pick", "(I)Lcom/example/locant/locant/AtomicType;"⟩ : MethodName) method_3_code 1 (.object "com/example/locant/locant/AtomicType") [] { frames := 0, cells := 0, slots := 0, locals := 0 } Z h #[(.int (28 : Int32))] (.ref (A 28)) := by
  refine own_met pn_1 (Ls := #[.val (.int (28 : Int32))]) (fun m => by first | (simp [entryFrame, mkF, argsToLocals, Value.category, maxLocals]; done) | rfl) ?_
  intro p e s m below meth c K
  exact sk_0 p l e _ s m _ below meth c Z a0 h hw _ _ (by decide) K (sk_1 p l e _ s m _ below meth c Z a0 h hw _ _ (by decide) K (sk_2 p l e _ s m _ below meth c Z a0 h hw _ _ (by decide) K (sk_3 p l e _ s m _ below meth c Z a0 h hw _ _ (by decide) K (sk_4 p l e _ s m _ below meth c Z a0 h hw _ _ (by decide) K (sk_5 p l e _ s m _ below meth c Z a0 h hw _ _ (by decide) K (sk_6 p l e _ s m _ below meth c Z a0 h hw _ _ (by decide) K (sk_7 p l e _ s m _ below meth c Z a0 h hw _ _ (by decide) K (sk_8 p l e _ s m _ below meth c Z a0 h hw _ _ (by decide) K (sk_9 p l e _ s m _ below meth c Z a0 h hw _ _ (by decide) K (sk_10 p l e _ s m _ below meth c Z a0 h hw _ _ (by decide) K (sk_11 p l e _ s m _ below meth c Z a0 h hw _ _ (by decide) K (sk_12 p l e _ s m _ below meth c Z a0 h hw _ _ (by decide) K (sk_13 p l e _ s m _ below meth c Z a0 h hw _ _ (by decide) K (sk_14 p l e _ s m _ below meth c Z a0 h hw _ _ (by decide) K (sk_15 p l e _ s m _ below meth c Z a0 h hw _ _ (by decide) K (sk_16 p l e _ s m _ below meth c Z a0 h hw _ _ (by decide) K (sk_17 p l e _ s m _ below meth c Z a0 h hw _ _ (by decide) K (sk_18 p l e _ s m _ below meth c Z a0 h hw _ _ (by decide) K (sk_19 p l e _ s m _ below meth c Z a0 h hw _ _ (by decide) K (sk_20 p l e _ s m _ below meth c Z a0 h hw _ _ (by decide) K (sk_21 p l e _ s m _ below meth c Z a0 h hw _ _ (by decide) K (sk_22 p l e _ s m _ below meth c Z a0 h hw _ _ (by decide) K (sk_23 p l e _ s m _ below meth c Z a0 h hw _ _ (by decide) K (sk_24 p l e _ s m _ below meth c Z a0 h hw _ _ (by decide) K (sk_25 p l e _ s m _ below meth c Z a0 h hw _ _ (by decide) K (sk_26 p l e _ s m _ below meth c Z a0 h hw _ _ (by decide) K (sk_27 p l e _ s m _ below meth c Z a0 h hw _ _ (by decide) K (hi_28 p l e _ s m _ below meth c Z a0 h hw A F K))))))))))))))))))))))))))))
set_option maxRecDepth 65536 in
theorem pk_29 (l : Launch) (Z : State) (a0 : Array Value) (h : Heap) (hw : ∀ d ∈ tables_1, d.before a0 Z = true) (A : Nat → Addr) (F : own_F Z h A)  : own_M l (⟨"com/example/locant/locant/AtomicTypePrimitivePinLaw", "pick", "(I)Lcom/example/locant/locant/AtomicType;"⟩ : MethodName) method_3_code 1 (.object "com/example/locant/locant/AtomicType") [] { frames := 0, cells := 0, slots := 0, locals := 0 } Z h #[(.int (29 : Int32))] (.ref (A 29)) := by
  refine own_met pn_1 (Ls := #[.val (.int (29 : Int32))]) (fun m => by first | (simp [entryFrame, mkF, argsToLocals, Value.category, maxLocals]; done) | rfl) ?_
  intro p e s m below meth c K
  exact sk_0 p l e _ s m _ below meth c Z a0 h hw _ _ (by decide) K (sk_1 p l e _ s m _ below meth c Z a0 h hw _ _ (by decide) K (sk_2 p l e _ s m _ below meth c Z a0 h hw _ _ (by decide) K (sk_3 p l e _ s m _ below meth c Z a0 h hw _ _ (by decide) K (sk_4 p l e _ s m _ below meth c Z a0 h hw _ _ (by decide) K (sk_5 p l e _ s m _ below meth c Z a0 h hw _ _ (by decide) K (sk_6 p l e _ s m _ below meth c Z a0 h hw _ _ (by decide) K (sk_7 p l e _ s m _ below meth c Z a0 h hw _ _ (by decide) K (sk_8 p l e _ s m _ below meth c Z a0 h hw _ _ (by decide) K (sk_9 p l e _ s m _ below meth c Z a0 h hw _ _ (by decide) K (sk_10 p l e _ s m _ below meth c Z a0 h hw _ _ (by decide) K (sk_11 p l e _ s m _ below meth c Z a0 h hw _ _ (by decide) K (sk_12 p l e _ s m _ below meth c Z a0 h hw _ _ (by decide) K (sk_13 p l e _ s m _ below meth c Z a0 h hw _ _ (by decide) K (sk_14 p l e _ s m _ below meth c Z a0 h hw _ _ (by decide) K (sk_15 p l e _ s m _ below meth c Z a0 h hw _ _ (by decide) K (sk_16 p l e _ s m _ below meth c Z a0 h hw _ _ (by decide) K (sk_17 p l e _ s m _ below meth c Z a0 h hw _ _ (by decide) K (sk_18 p l e _ s m _ below meth c Z a0 h hw _ _ (by decide) K (sk_19 p l e _ s m _ below meth c Z a0 h hw _ _ (by decide) K (sk_20 p l e _ s m _ below meth c Z a0 h hw _ _ (by decide) K (sk_21 p l e _ s m _ below meth c Z a0 h hw _ _ (by decide) K (sk_22 p l e _ s m _ below meth c Z a0 h hw _ _ (by decide) K (sk_23 p l e _ s m _ below meth c Z a0 h hw _ _ (by decide) K (sk_24 p l e _ s m _ below meth c Z a0 h hw _ _ (by decide) K (sk_25 p l e _ s m _ below meth c Z a0 h hw _ _ (by decide) K (sk_26 p l e _ s m _ below meth c Z a0 h hw _ _ (by decide) K (sk_27 p l e _ s m _ below meth c Z a0 h hw _ _ (by decide) K (sk_28 p l e _ s m _ below meth c Z a0 h hw _ _ (by decide) K (hi_29 p l e _ s m _ below meth c Z a0 h hw A F K)))))))))))))))))))))))))))))
set_option maxRecDepth 65536 in
theorem pk_30 (l : Launch) (Z : State) (a0 : Array Value) (h : Heap) (hw : ∀ d ∈ tables_1, d.before a0 Z = true) (A : Nat → Addr) (F : own_F Z h A)  : own_M l (⟨"com/example/locant/locant/AtomicTypePrimitivePinLaw", "pick", "(I)Lcom/example/locant/locant/AtomicType;"⟩ : MethodName) method_3_code 1 (.object "com/example/locant/locant/AtomicType") [] { frames := 0, cells := 0, slots := 0, locals := 0 } Z h #[(.int (30 : Int32))] (.ref (A 30)) := by
  refine own_met pn_1 (Ls := #[.val (.int (30 : Int32))]) (fun m => by first | (simp [entryFrame, mkF, argsToLocals, Value.category, maxLocals]; done) | rfl) ?_
  intro p e s m below meth c K
  exact sk_0 p l e _ s m _ below meth c Z a0 h hw _ _ (by decide) K (sk_1 p l e _ s m _ below meth c Z a0 h hw _ _ (by decide) K (sk_2 p l e _ s m _ below meth c Z a0 h hw _ _ (by decide) K (sk_3 p l e _ s m _ below meth c Z a0 h hw _ _ (by decide) K (sk_4 p l e _ s m _ below meth c Z a0 h hw _ _ (by decide) K (sk_5 p l e _ s m _ below meth c Z a0 h hw _ _ (by decide) K (sk_6 p l e _ s m _ below meth c Z a0 h hw _ _ (by decide) K (sk_7 p l e _ s m _ below meth c Z a0 h hw _ _ (by decide) K (sk_8 p l e _ s m _ below meth c Z a0 h hw _ _ (by decide) K (sk_9 p l e _ s m _ below meth c Z a0 h hw _ _ (by decide) K (sk_10 p l e _ s m _ below meth c Z a0 h hw _ _ (by decide) K (sk_11 p l e _ s m _ below meth c Z a0 h hw _ _ (by decide) K (sk_12 p l e _ s m _ below meth c Z a0 h hw _ _ (by decide) K (sk_13 p l e _ s m _ below meth c Z a0 h hw _ _ (by decide) K (sk_14 p l e _ s m _ below meth c Z a0 h hw _ _ (by decide) K (sk_15 p l e _ s m _ below meth c Z a0 h hw _ _ (by decide) K (sk_16 p l e _ s m _ below meth c Z a0 h hw _ _ (by decide) K (sk_17 p l e _ s m _ below meth c Z a0 h hw _ _ (by decide) K (sk_18 p l e _ s m _ below meth c Z a0 h hw _ _ (by decide) K (sk_19 p l e _ s m _ below meth c Z a0 h hw _ _ (by decide) K (sk_20 p l e _ s m _ below meth c Z a0 h hw _ _ (by decide) K (sk_21 p l e _ s m _ below meth c Z a0 h hw _ _ (by decide) K (sk_22 p l e _ s m _ below meth c Z a0 h hw _ _ (by decide) K (sk_23 p l e _ s m _ below meth c Z a0 h hw _ _ (by decide) K (sk_24 p l e _ s m _ below meth c Z a0 h hw _ _ (by decide) K (sk_25 p l e _ s m _ below meth c Z a0 h hw _ _ (by decide) K (sk_26 p l e _ s m _ below meth c Z a0 h hw _ _ (by decide) K (sk_27 p l e _ s m _ below meth c Z a0 h hw _ _ (by decide) K (sk_28 p l e _ s m _ below meth c Z a0 h hw _ _ (by decide) K (sk_29 p l e _ s m _ below meth c Z a0 h hw _ _ (by decide) K (hi_30 p l e _ s m _ below meth c Z a0 h hw A F K))))))))))))))))))))))))))))))
set_option maxRecDepth 65536 in
theorem pk_31 (l : Launch) (Z : State) (a0 : Array Value) (h : Heap) (hw : ∀ d ∈ tables_1, d.before a0 Z = true) (A : Nat → Addr) (F : own_F Z h A)  : own_M l (⟨"com/example/locant/locant/AtomicTypePrimitivePinLaw", "pick", "(I)Lcom/example/locant/locant/AtomicType;"⟩ : MethodName) method_3_code 1 (.object "com/example/locant/locant/AtomicType") [] { frames := 0, cells := 0, slots := 0, locals := 0 } Z h #[(.int (31 : Int32))] (.ref (A 31)) := by
  refine own_met pn_1 (Ls := #[.val (.int (31 : Int32))]) (fun m => by first | (simp [entryFrame, mkF, argsToLocals, Value.category, maxLocals]; done) | rfl) ?_
  intro p e s m below meth c K
  exact sk_0 p l e _ s m _ below meth c Z a0 h hw _ _ (by decide) K (sk_1 p l e _ s m _ below meth c Z a0 h hw _ _ (by decide) K (sk_2 p l e _ s m _ below meth c Z a0 h hw _ _ (by decide) K (sk_3 p l e _ s m _ below meth c Z a0 h hw _ _ (by decide) K (sk_4 p l e _ s m _ below meth c Z a0 h hw _ _ (by decide) K (sk_5 p l e _ s m _ below meth c Z a0 h hw _ _ (by decide) K (sk_6 p l e _ s m _ below meth c Z a0 h hw _ _ (by decide) K (sk_7 p l e _ s m _ below meth c Z a0 h hw _ _ (by decide) K (sk_8 p l e _ s m _ below meth c Z a0 h hw _ _ (by decide) K (sk_9 p l e _ s m _ below meth c Z a0 h hw _ _ (by decide) K (sk_10 p l e _ s m _ below meth c Z a0 h hw _ _ (by decide) K (sk_11 p l e _ s m _ below meth c Z a0 h hw _ _ (by decide) K (sk_12 p l e _ s m _ below meth c Z a0 h hw _ _ (by decide) K (sk_13 p l e _ s m _ below meth c Z a0 h hw _ _ (by decide) K (sk_14 p l e _ s m _ below meth c Z a0 h hw _ _ (by decide) K (sk_15 p l e _ s m _ below meth c Z a0 h hw _ _ (by decide) K (sk_16 p l e _ s m _ below meth c Z a0 h hw _ _ (by decide) K (sk_17 p l e _ s m _ below meth c Z a0 h hw _ _ (by decide) K (sk_18 p l e _ s m _ below meth c Z a0 h hw _ _ (by decide) K (sk_19 p l e _ s m _ below meth c Z a0 h hw _ _ (by decide) K (sk_20 p l e _ s m _ below meth c Z a0 h hw _ _ (by decide) K (sk_21 p l e _ s m _ below meth c Z a0 h hw _ _ (by decide) K (sk_22 p l e _ s m _ below meth c Z a0 h hw _ _ (by decide) K (sk_23 p l e _ s m _ below meth c Z a0 h hw _ _ (by decide) K (sk_24 p l e _ s m _ below meth c Z a0 h hw _ _ (by decide) K (sk_25 p l e _ s m _ below meth c Z a0 h hw _ _ (by decide) K (sk_26 p l e _ s m _ below meth c Z a0 h hw _ _ (by decide) K (sk_27 p l e _ s m _ below meth c Z a0 h hw _ _ (by decide) K (sk_28 p l e _ s m _ below meth c Z a0 h hw _ _ (by decide) K (sk_29 p l e _ s m _ below meth c Z a0 h hw _ _ (by decide) K (sk_30 p l e _ s m _ below meth c Z a0 h hw _ _ (by decide) K (hi_31 p l e _ s m _ below meth c Z a0 h hw A F K)))))))))))))))))))))))))))))))
set_option maxRecDepth 65536 in
theorem ps_0 (p : Program) (l : Launch) (e : Env) (R : Room) (s : State) (m : MethodId) (args : Array Value) (below : List Frame) (meth : Method) (c : Code) (Z : State) (a0 : Array Value) (h : Heap) (hw : ∀ d ∈ tables_1, d.before a0 Z = true) (y : Addr) (A : Nat → Addr) (F : own_F Z h A) (K : own_C p s m meth c Z prog_12_method_9_code "com/example/locant/locant/AtomicType" (.object "com/example/locant/locant/AtomicType") 2) :
    own_E p l e R s m args below meth c h 2 #[.val (.ref y), .val (.ref (A 0))] [] (.ref (A 0)) := by
  refine own_aloadN K (pc := 2) d2_2 rfl rfl ?_
  refine own_getF K (pc := 3) (hw _ (List.mem_of_getElem? (i := 12) rfl)) F.2.2.1.2.2.2.2.2.2.2.2.2.2.2.2.2.2.2.2.1 d2_3 ?_
  refine own_ifnullY K (pc := 6) (pc' := 27) d2_6 (by decide) (by decide) ?_
  refine own_aloadN K (pc := 27) d2_27 rfl rfl ?_
  exact own_retA K (pc := 28) d2_28 rfl rfl rfl
set_option maxRecDepth 65536 in
theorem ps_1 (p : Program) (l : Launch) (e : Env) (R : Room) (s : State) (m : MethodId) (args : Array Value) (below : List Frame) (meth : Method) (c : Code) (Z : State) (a0 : Array Value) (h : Heap) (hw : ∀ d ∈ tables_1, d.before a0 Z = true) (y : Addr) (A : Nat → Addr) (F : own_F Z h A) (K : own_C p s m meth c Z prog_12_method_9_code "com/example/locant/locant/AtomicType" (.object "com/example/locant/locant/AtomicType") 2) :
    own_E p l e R s m args below meth c h 2 #[.val (.ref y), .val (.ref (A 1))] [] (.ref (A 1)) := by
  refine own_aloadN K (pc := 2) d2_2 rfl rfl ?_
  refine own_getF K (pc := 3) (hw _ (List.mem_of_getElem? (i := 12) rfl)) F.2.2.2.1.2.2.2.2.2.2.2.2.1 d2_3 ?_
  refine own_ifnullN K (pc := 6) d2_6 ?_
  refine own_aloadN K (pc := 9) d2_9 rfl rfl ?_
  refine own_getF K (pc := 10) (hw _ (List.mem_of_getElem? (i := 12) rfl)) F.2.2.2.1.2.2.2.2.2.2.2.2.1 d2_10 ?_
  refine own_getS K (pc := 13) (hw _ (List.mem_of_getElem? (i := 18) rfl)) F.1.1 d2_13 ?_
  refine own_acmp K (pc := 16) (pc' := 27) (same := true) d2_16 (decide_eq_true rfl) (by decide) (by decide) ?_
  refine own_aloadN K (pc := 27) d2_27 rfl rfl ?_
  exact own_retA K (pc := 28) d2_28 rfl rfl rfl
set_option maxRecDepth 65536 in
theorem ps_2 (p : Program) (l : Launch) (e : Env) (R : Room) (s : State) (m : MethodId) (args : Array Value) (below : List Frame) (meth : Method) (c : Code) (Z : State) (a0 : Array Value) (h : Heap) (hw : ∀ d ∈ tables_1, d.before a0 Z = true) (y : Addr) (A : Nat → Addr) (F : own_F Z h A) (K : own_C p s m meth c Z prog_12_method_9_code "com/example/locant/locant/AtomicType" (.object "com/example/locant/locant/AtomicType") 2) :
    own_E p l e R s m args below meth c h 2 #[.val (.ref y), .val (.ref (A 2))] [] (.ref (A 2)) := by
  refine own_aloadN K (pc := 2) d2_2 rfl rfl ?_
  refine own_getF K (pc := 3) (hw _ (List.mem_of_getElem? (i := 12) rfl)) F.2.2.1.2.2.2.2.2.2.2.2.2.2.2.2.2.2.2.2.2.2.2.2.1 d2_3 ?_
  refine own_ifnullN K (pc := 6) d2_6 ?_
  refine own_aloadN K (pc := 9) d2_9 rfl rfl ?_
  refine own_getF K (pc := 10) (hw _ (List.mem_of_getElem? (i := 12) rfl)) F.2.2.1.2.2.2.2.2.2.2.2.2.2.2.2.2.2.2.2.2.2.2.2.1 d2_10 ?_
  refine own_getS K (pc := 13) (hw _ (List.mem_of_getElem? (i := 18) rfl)) F.1.1 d2_13 ?_
  refine own_acmp K (pc := 16) (pc' := 27) (same := true) d2_16 (decide_eq_true rfl) (by decide) (by decide) ?_
  refine own_aloadN K (pc := 27) d2_27 rfl rfl ?_
  exact own_retA K (pc := 28) d2_28 rfl rfl rfl
set_option maxRecDepth 65536 in
theorem ps_3 (p : Program) (l : Launch) (e : Env) (R : Room) (s : State) (m : MethodId) (args : Array Value) (below : List Frame) (meth : Method) (c : Code) (Z : State) (a0 : Array Value) (h : Heap) (hw : ∀ d ∈ tables_1, d.before a0 Z = true) (y : Addr) (A : Nat → Addr) (F : own_F Z h A) (K : own_C p s m meth c Z prog_12_method_9_code "com/example/locant/locant/AtomicType" (.object "com/example/locant/locant/AtomicType") 2) :
    own_E p l e R s m args below meth c h 2 #[.val (.ref y), .val (.ref (A 3))] [] (.ref (A 2)) := by
  refine own_aloadN K (pc := 2) d2_2 rfl rfl ?_
  refine own_getF K (pc := 3) (hw _ (List.mem_of_getElem? (i := 12) rfl)) F.2.2.1.2.2.2.2.2.2.2.2.2.2.2.2.2.2.2.2.2.1 d2_3 ?_
  refine own_ifnullN K (pc := 6) d2_6 ?_
  refine own_aloadN K (pc := 9) d2_9 rfl rfl ?_
  refine own_getF K (pc := 10) (hw _ (List.mem_of_getElem? (i := 12) rfl)) F.2.2.1.2.2.2.2.2.2.2.2.2.2.2.2.2.2.2.2.2.1 d2_10 ?_
  refine own_getS K (pc := 13) (hw _ (List.mem_of_getElem? (i := 18) rfl)) F.1.1 d2_13 ?_
  refine own_acmp K (pc := 16) (pc' := 19) (same := false) d2_16 (decide_eq_false (Fld.ne F.2.2.1.2.2.2.2.2.2.2.2.2.2.2.2.2.2.2.2.2.2.1 F.2.2.1.2.2.2.2.2.2.2.2.2.2.2.2.2.2.2.2.2.2.2.1 (by decide))) (by decide) (by decide) ?_
  refine own_aloadN K (pc := 19) d2_19 rfl rfl ?_
  refine own_getF K (pc := 20) (hw _ (List.mem_of_getElem? (i := 12) rfl)) F.2.2.1.2.2.2.2.2.2.2.2.2.2.2.2.2.2.2.2.2.1 d2_20 ?_
  refine own_astoreN K (pc := 23) (Ls' := #[.val (.ref y), .val (.ref (A 2))]) d2_23 rfl rfl ?_
  refine own_goto K (pc := 24) (pc' := 2) d2_24 (by decide) (by decide) ?_
  exact ps_2 p l e R s m args below meth c Z a0 h hw y A F K
set_option maxRecDepth 65536 in
theorem ps_4 (p : Program) (l : Launch) (e : Env) (R : Room) (s : State) (m : MethodId) (args : Array Value) (below : List Frame) (meth : Method) (c : Code) (Z : State) (a0 : Array Value) (h : Heap) (hw : ∀ d ∈ tables_1, d.before a0 Z = true) (y : Addr) (A : Nat → Addr) (F : own_F Z h A) (K : own_C p s m meth c Z prog_12_method_9_code "com/example/locant/locant/AtomicType" (.object "com/example/locant/locant/AtomicType") 2) :
    own_E p l e R s m args below meth c h 2 #[.val (.ref y), .val (.ref (A 4))] [] (.ref (A 2)) := by
  refine own_aloadN K (pc := 2) d2_2 rfl rfl ?_
  refine own_getF K (pc := 3) (hw _ (List.mem_of_getElem? (i := 12) rfl)) F.2.2.2.1.2.2.2.2.2.1 d2_3 ?_
  refine own_ifnullN K (pc := 6) d2_6 ?_
  refine own_aloadN K (pc := 9) d2_9 rfl rfl ?_
  refine own_getF K (pc := 10) (hw _ (List.mem_of_getElem? (i := 12) rfl)) F.2.2.2.1.2.2.2.2.2.1 d2_10 ?_
  refine own_getS K (pc := 13) (hw _ (List.mem_of_getElem? (i := 18) rfl)) F.1.1 d2_13 ?_
  refine own_acmp K (pc := 16) (pc' := 19) (same := false) d2_16 (decide_eq_false (Fld.ne F.2.2.2.1.2.2.2.2.2.2.1 F.2.2.1.2.2.2.2.2.2.2.2.2.2.2.2.2.2.2.2.2.2.2.1 (by decide))) (by decide) (by decide) ?_
  refine own_aloadN K (pc := 19) d2_19 rfl rfl ?_
  refine own_getF K (pc := 20) (hw _ (List.mem_of_getElem? (i := 12) rfl)) F.2.2.2.1.2.2.2.2.2.1 d2_20 ?_
  refine own_astoreN K (pc := 23) (Ls' := #[.val (.ref y), .val (.ref (A 3))]) d2_23 rfl rfl ?_
  refine own_goto K (pc := 24) (pc' := 2) d2_24 (by decide) (by decide) ?_
  exact ps_3 p l e R s m args below meth c Z a0 h hw y A F K
set_option maxRecDepth 65536 in
theorem ps_5 (p : Program) (l : Launch) (e : Env) (R : Room) (s : State) (m : MethodId) (args : Array Value) (below : List Frame) (meth : Method) (c : Code) (Z : State) (a0 : Array Value) (h : Heap) (hw : ∀ d ∈ tables_1, d.before a0 Z = true) (y : Addr) (A : Nat → Addr) (F : own_F Z h A) (K : own_C p s m meth c Z prog_12_method_9_code "com/example/locant/locant/AtomicType" (.object "com/example/locant/locant/AtomicType") 2) :
    own_E p l e R s m args below meth c h 2 #[.val (.ref y), .val (.ref (A 5))] [] (.ref (A 2)) := by
  refine own_aloadN K (pc := 2) d2_2 rfl rfl ?_
  refine own_getF K (pc := 3) (hw _ (List.mem_of_getElem? (i := 12) rfl)) F.2.2.2.2.2.2.2.2.2.2.2.2.2.2.2.2.1 d2_3 ?_
  refine own_ifnullN K (pc := 6) d2_6 ?_
  refine own_aloadN K (pc := 9) d2_9 rfl rfl ?_
  refine own_getF K (pc := 10) (hw _ (List.mem_of_getElem? (i := 12) rfl)) F.2.2.2.2.2.2.2.2.2.2.2.2.2.2.2.2.1 d2_10 ?_
  refine own_getS K (pc := 13) (hw _ (List.mem_of_getElem? (i := 18) rfl)) F.1.1 d2_13 ?_
  refine own_acmp K (pc := 16) (pc' := 19) (same := false) d2_16 (decide_eq_false (Fld.ne F.2.2.2.1.2.2.2.2.1 F.2.2.1.2.2.2.2.2.2.2.2.2.2.2.2.2.2.2.2.2.2.2.1 (by decide))) (by decide) (by decide) ?_
  refine own_aloadN K (pc := 19) d2_19 rfl rfl ?_
  refine own_getF K (pc := 20) (hw _ (List.mem_of_getElem? (i := 12) rfl)) F.2.2.2.2.2.2.2.2.2.2.2.2.2.2.2.2.1 d2_20 ?_
  refine own_astoreN K (pc := 23) (Ls' := #[.val (.ref y), .val (.ref (A 4))]) d2_23 rfl rfl ?_
  refine own_goto K (pc := 24) (pc' := 2) d2_24 (by decide) (by decide) ?_
  exact ps_4 p l e R s m args below meth c Z a0 h hw y A F K
set_option maxRecDepth 65536 in
theorem ps_6 (p : Program) (l : Launch) (e : Env) (R : Room) (s : State) (m : MethodId) (args : Array Value) (below : List Frame) (meth : Method) (c : Code) (Z : State) (a0 : Array Value) (h : Heap) (hw : ∀ d ∈ tables_1, d.before a0 Z = true) (y : Addr) (A : Nat → Addr) (F : own_F Z h A) (K : own_C p s m meth c Z prog_12_method_9_code "com/example/locant/locant/AtomicType" (.object "com/example/locant/locant/AtomicType") 2) :
    own_E p l e R s m args below meth c h 2 #[.val (.ref y), .val (.ref (A 6))] [] (.ref (A 2)) := by
  refine own_aloadN K (pc := 2) d2_2 rfl rfl ?_
  refine own_getF K (pc := 3) (hw _ (List.mem_of_getElem? (i := 12) rfl)) F.2.2.2.2.2.2.2.2.2.2.2.1 d2_3 ?_
  refine own_ifnullN K (pc := 6) d2_6 ?_
  refine own_aloadN K (pc := 9) d2_9 rfl rfl ?_
  refine own_getF K (pc := 10) (hw _ (List.mem_of_getElem? (i := 12) rfl)) F.2.2.2.2.2.2.2.2.2.2.2.1 d2_10 ?_
  refine own_getS K (pc := 13) (hw _ (List.mem_of_getElem? (i := 18) rfl)) F.1.1 d2_13 ?_
  refine own_acmp K (pc := 16) (pc' := 19) (same := false) d2_16 (decide_eq_false (Fld.ne F.2.2.2.1.2.2.2.2.1 F.2.2.1.2.2.2.2.2.2.2.2.2.2.2.2.2.2.2.2.2.2.2.1 (by decide))) (by decide) (by decide) ?_
  refine own_aloadN K (pc := 19) d2_19 rfl rfl ?_
  refine own_getF K (pc := 20) (hw _ (List.mem_of_getElem? (i := 12) rfl)) F.2.2.2.2.2.2.2.2.2.2.2.1 d2_20 ?_
  refine own_astoreN K (pc := 23) (Ls' := #[.val (.ref y), .val (.ref (A 4))]) d2_23 rfl rfl ?_
  refine own_goto K (pc := 24) (pc' := 2) d2_24 (by decide) (by decide) ?_
  exact ps_4 p l e R s m args below meth c Z a0 h hw y A F K
set_option maxRecDepth 65536 in
theorem ps_7 (p : Program) (l : Launch) (e : Env) (R : Room) (s : State) (m : MethodId) (args : Array Value) (below : List Frame) (meth : Method) (c : Code) (Z : State) (a0 : Array Value) (h : Heap) (hw : ∀ d ∈ tables_1, d.before a0 Z = true) (y : Addr) (A : Nat → Addr) (F : own_F Z h A) (K : own_C p s m meth c Z prog_12_method_9_code "com/example/locant/locant/AtomicType" (.object "com/example/locant/locant/AtomicType") 2) :
    own_E p l e R s m args below meth c h 2 #[.val (.ref y), .val (.ref (A 7))] [] (.ref (A 2)) := by
  refine own_aloadN K (pc := 2) d2_2 rfl rfl ?_
  refine own_getF K (pc := 3) (hw _ (List.mem_of_getElem? (i := 12) rfl)) F.2.2.2.1.2.2.2.1 d2_3 ?_
  refine own_ifnullN K (pc := 6) d2_6 ?_
  refine own_aloadN K (pc := 9) d2_9 rfl rfl ?_
  refine own_getF K (pc := 10) (hw _ (List.mem_of_getElem? (i := 12) rfl)) F.2.2.2.1.2.2.2.1 d2_10 ?_
  refine own_getS K (pc := 13) (hw _ (List.mem_of_getElem? (i := 18) rfl)) F.1.1 d2_13 ?_
  refine own_acmp K (pc := 16) (pc' := 19) (same := false) d2_16 (decide_eq_false (Fld.ne F.2.2.2.1.2.2.2.2.1 F.2.2.1.2.2.2.2.2.2.2.2.2.2.2.2.2.2.2.2.2.2.2.1 (by decide))) (by decide) (by decide) ?_
  refine own_aloadN K (pc := 19) d2_19 rfl rfl ?_
  refine own_getF K (pc := 20) (hw _ (List.mem_of_getElem? (i := 12) rfl)) F.2.2.2.1.2.2.2.1 d2_20 ?_
  refine own_astoreN K (pc := 23) (Ls' := #[.val (.ref y), .val (.ref (A 4))]) d2_23 rfl rfl ?_
  refine own_goto K (pc := 24) (pc' := 2) d2_24 (by decide) (by decide) ?_
  exact ps_4 p l e R s m args below meth c Z a0 h hw y A F K
set_option maxRecDepth 65536 in
theorem ps_8 (p : Program) (l : Launch) (e : Env) (R : Room) (s : State) (m : MethodId) (args : Array Value) (below : List Frame) (meth : Method) (c : Code) (Z : State) (a0 : Array Value) (h : Heap) (hw : ∀ d ∈ tables_1, d.before a0 Z = true) (y : Addr) (A : Nat → Addr) (F : own_F Z h A) (K : own_C p s m meth c Z prog_12_method_9_code "com/example/locant/locant/AtomicType" (.object "com/example/locant/locant/AtomicType") 2) :
    own_E p l e R s m args below meth c h 2 #[.val (.ref y), .val (.ref (A 8))] [] (.ref (A 2)) := by
  refine own_aloadN K (pc := 2) d2_2 rfl rfl ?_
  refine own_getF K (pc := 3) (hw _ (List.mem_of_getElem? (i := 12) rfl)) F.2.2.2.1.2.1 d2_3 ?_
  refine own_ifnullN K (pc := 6) d2_6 ?_
  refine own_aloadN K (pc := 9) d2_9 rfl rfl ?_
  refine own_getF K (pc := 10) (hw _ (List.mem_of_getElem? (i := 12) rfl)) F.2.2.2.1.2.1 d2_10 ?_
  refine own_getS K (pc := 13) (hw _ (List.mem_of_getElem? (i := 18) rfl)) F.1.1 d2_13 ?_
  refine own_acmp K (pc := 16) (pc' := 19) (same := false) d2_16 (decide_eq_false (Fld.ne F.2.2.2.1.2.2.1 F.2.2.1.2.2.2.2.2.2.2.2.2.2.2.2.2.2.2.2.2.2.2.1 (by decide))) (by decide) (by decide) ?_
  refine own_aloadN K (pc := 19) d2_19 rfl rfl ?_
  refine own_getF K (pc := 20) (hw _ (List.mem_of_getElem? (i := 12) rfl)) F.2.2.2.1.2.1 d2_20 ?_
  refine own_astoreN K (pc := 23) (Ls' := #[.val (.ref y), .val (.ref (A 7))]) d2_23 rfl rfl ?_
  refine own_goto K (pc := 24) (pc' := 2) d2_24 (by decide) (by decide) ?_
  exact ps_7 p l e R s m args below meth c Z a0 h hw y A F K
set_option maxRecDepth 65536 in
theorem ps_9 (p : Program) (l : Launch) (e : Env) (R : Room) (s : State) (m : MethodId) (args : Array Value) (below : List Frame) (meth : Method) (c : Code) (Z : State) (a0 : Array Value) (h : Heap) (hw : ∀ d ∈ tables_1, d.before a0 Z = true) (y : Addr) (A : Nat → Addr) (F : own_F Z h A) (K : own_C p s m meth c Z prog_12_method_9_code "com/example/locant/locant/AtomicType" (.object "com/example/locant/locant/AtomicType") 2) :
    own_E p l e R s m args below meth c h 2 #[.val (.ref y), .val (.ref (A 9))] [] (.ref (A 2)) := by
  refine own_aloadN K (pc := 2) d2_2 rfl rfl ?_
  refine own_getF K (pc := 3) (hw _ (List.mem_of_getElem? (i := 12) rfl)) F.2.2.2.2.2.2.2.2.2.2.2.2.1 d2_3 ?_
  refine own_ifnullN K (pc := 6) d2_6 ?_
  refine own_aloadN K (pc := 9) d2_9 rfl rfl ?_
  refine own_getF K (pc := 10) (hw _ (List.mem_of_getElem? (i := 12) rfl)) F.2.2.2.2.2.2.2.2.2.2.2.2.1 d2_10 ?_
  refine own_getS K (pc := 13) (hw _ (List.mem_of_getElem? (i := 18) rfl)) F.1.1 d2_13 ?_
  refine own_acmp K (pc := 16) (pc' := 19) (same := false) d2_16 (decide_eq_false (Fld.ne F.2.2.2.1.1 F.2.2.1.2.2.2.2.2.2.2.2.2.2.2.2.2.2.2.2.2.2.2.1 (by decide))) (by decide) (by decide) ?_
  refine own_aloadN K (pc := 19) d2_19 rfl rfl ?_
  refine own_getF K (pc := 20) (hw _ (List.mem_of_getElem? (i := 12) rfl)) F.2.2.2.2.2.2.2.2.2.2.2.2.1 d2_20 ?_
  refine own_astoreN K (pc := 23) (Ls' := #[.val (.ref y), .val (.ref (A 8))]) d2_23 rfl rfl ?_
  refine own_goto K (pc := 24) (pc' := 2) d2_24 (by decide) (by decide) ?_
  exact ps_8 p l e R s m args below meth c Z a0 h hw y A F K
set_option maxRecDepth 65536 in
theorem ps_10 (p : Program) (l : Launch) (e : Env) (R : Room) (s : State) (m : MethodId) (args : Array Value) (below : List Frame) (meth : Method) (c : Code) (Z : State) (a0 : Array Value) (h : Heap) (hw : ∀ d ∈ tables_1, d.before a0 Z = true) (y : Addr) (A : Nat → Addr) (F : own_F Z h A) (K : own_C p s m meth c Z prog_12_method_9_code "com/example/locant/locant/AtomicType" (.object "com/example/locant/locant/AtomicType") 2) :
    own_E p l e R s m args below meth c h 2 #[.val (.ref y), .val (.ref (A 10))] [] (.ref (A 2)) := by
  refine own_aloadN K (pc := 2) d2_2 rfl rfl ?_
  refine own_getF K (pc := 3) (hw _ (List.mem_of_getElem? (i := 12) rfl)) F.2.2.1.2.2.2.2.2.2.2.2.2.2.2.2.2.2.2.2.2.2.2.2.2.2.2 d2_3 ?_
  refine own_ifnullN K (pc := 6) d2_6 ?_
  refine own_aloadN K (pc := 9) d2_9 rfl rfl ?_
  refine own_getF K (pc := 10) (hw _ (List.mem_of_getElem? (i := 12) rfl)) F.2.2.1.2.2.2.2.2.2.2.2.2.2.2.2.2.2.2.2.2.2.2.2.2.2.2 d2_10 ?_
  refine own_getS K (pc := 13) (hw _ (List.mem_of_getElem? (i := 18) rfl)) F.1.1 d2_13 ?_
  refine own_acmp K (pc := 16) (pc' := 19) (same := false) d2_16 (decide_eq_false (Fld.ne F.2.2.2.1.1 F.2.2.1.2.2.2.2.2.2.2.2.2.2.2.2.2.2.2.2.2.2.2.1 (by decide))) (by decide) (by decide) ?_
  refine own_aloadN K (pc := 19) d2_19 rfl rfl ?_
  refine own_getF K (pc := 20) (hw _ (List.mem_of_getElem? (i := 12) rfl)) F.2.2.1.2.2.2.2.2.2.2.2.2.2.2.2.2.2.2.2.2.2.2.2.2.2.2 d2_20 ?_
  refine own_astoreN K (pc := 23) (Ls' := #[.val (.ref y), .val (.ref (A 8))]) d2_23 rfl rfl ?_
  refine own_goto K (pc := 24) (pc' := 2) d2_24 (by decide) (by decide) ?_
  exact ps_8 p l e R s m args below meth c Z a0 h hw y A F K
set_option maxRecDepth 65536 in
theorem ps_11 (p : Program) (l : Launch) (e : Env) (R : Room) (s : State) (m : MethodId) (args : Array Value) (below : List Frame) (meth : Method) (c : Code) (Z : State) (a0 : Array Value) (h : Heap) (hw : ∀ d ∈ tables_1, d.before a0 Z = true) (y : Addr) (A : Nat → Addr) (F : own_F Z h A) (K : own_C p s m meth c Z prog_12_method_9_code "com/example/locant/locant/AtomicType" (.object "com/example/locant/locant/AtomicType") 2) :
    own_E p l e R s m args below meth c h 2 #[.val (.ref y), .val (.ref (A 11))] [] (.ref (A 2)) := by
  refine own_aloadN K (pc := 2) d2_2 rfl rfl ?_
  refine own_getF K (pc := 3) (hw _ (List.mem_of_getElem? (i := 12) rfl)) F.2.2.2.1.2.2.2.2.2.2.2.1 d2_3 ?_
  refine own_ifnullN K (pc := 6) d2_6 ?_
  refine own_aloadN K (pc := 9) d2_9 rfl rfl ?_
  refine own_getF K (pc := 10) (hw _ (List.mem_of_getElem? (i := 12) rfl)) F.2.2.2.1.2.2.2.2.2.2.2.1 d2_10 ?_
  refine own_getS K (pc := 13) (hw _ (List.mem_of_getElem? (i := 18) rfl)) F.1.1 d2_13 ?_
  refine own_acmp K (pc := 16) (pc' := 19) (same := false) d2_16 (decide_eq_false (Fld.ne F.2.2.2.1.1 F.2.2.1.2.2.2.2.2.2.2.2.2.2.2.2.2.2.2.2.2.2.2.1 (by decide))) (by decide) (by decide) ?_
  refine own_aloadN K (pc := 19) d2_19 rfl rfl ?_
  refine own_getF K (pc := 20) (hw _ (List.mem_of_getElem? (i := 12) rfl)) F.2.2.2.1.2.2.2.2.2.2.2.1 d2_20 ?_
  refine own_astoreN K (pc := 23) (Ls' := #[.val (.ref y), .val (.ref (A 8))]) d2_23 rfl rfl ?_
  refine own_goto K (pc := 24) (pc' := 2) d2_24 (by decide) (by decide) ?_
  exact ps_8 p l e R s m args below meth c Z a0 h hw y A F K
set_option maxRecDepth 65536 in
theorem ps_12 (p : Program) (l : Launch) (e : Env) (R : Room) (s : State) (m : MethodId) (args : Array Value) (below : List Frame) (meth : Method) (c : Code) (Z : State) (a0 : Array Value) (h : Heap) (hw : ∀ d ∈ tables_1, d.before a0 Z = true) (y : Addr) (A : Nat → Addr) (F : own_F Z h A) (K : own_C p s m meth c Z prog_12_method_9_code "com/example/locant/locant/AtomicType" (.object "com/example/locant/locant/AtomicType") 2) :
    own_E p l e R s m args below meth c h 2 #[.val (.ref y), .val (.ref (A 12))] [] (.ref (A 12)) := by
  refine own_aloadN K (pc := 2) d2_2 rfl rfl ?_
  refine own_getF K (pc := 3) (hw _ (List.mem_of_getElem? (i := 12) rfl)) F.2.2.2.2.2.2.2.2.2.2.1 d2_3 ?_
  refine own_ifnullN K (pc := 6) d2_6 ?_
  refine own_aloadN K (pc := 9) d2_9 rfl rfl ?_
  refine own_getF K (pc := 10) (hw _ (List.mem_of_getElem? (i := 12) rfl)) F.2.2.2.2.2.2.2.2.2.2.1 d2_10 ?_
  refine own_getS K (pc := 13) (hw _ (List.mem_of_getElem? (i := 18) rfl)) F.1.1 d2_13 ?_
  refine own_acmp K (pc := 16) (pc' := 27) (same := true) d2_16 (decide_eq_true rfl) (by decide) (by decide) ?_
  refine own_aloadN K (pc := 27) d2_27 rfl rfl ?_
  exact own_retA K (pc := 28) d2_28 rfl rfl rfl
set_option maxRecDepth 65536 in
theorem ps_13 (p : Program) (l : Launch) (e : Env) (R : Room) (s : State) (m : MethodId) (args : Array Value) (below : List Frame) (meth : Method) (c : Code) (Z : State) (a0 : Array Value) (h : Heap) (hw : ∀ d ∈ tables_1, d.before a0 Z = true) (y : Addr) (A : Nat → Addr) (F : own_F Z h A) (K : own_C p s m meth c Z prog_12_method_9_code "com/example/locant/locant/AtomicType" (.object "com/example/locant/locant/AtomicType") 2) :
    own_E p l e R s m args below meth c h 2 #[.val (.ref y), .val (.ref (A 13))] [] (.ref (A 13)) := by
  refine own_aloadN K (pc := 2) d2_2 rfl rfl ?_
  refine own_getF K (pc := 3) (hw _ (List.mem_of_getElem? (i := 12) rfl)) F.2.2.2.2.2.2.2.2.2.2.2.2.2.1 d2_3 ?_
  refine own_ifnullN K (pc := 6) d2_6 ?_
  refine own_aloadN K (pc := 9) d2_9 rfl rfl ?_
  refine own_getF K (pc := 10) (hw _ (List.mem_of_getElem? (i := 12) rfl)) F.2.2.2.2.2.2.2.2.2.2.2.2.2.1 d2_10 ?_
  refine own_getS K (pc := 13) (hw _ (List.mem_of_getElem? (i := 18) rfl)) F.1.1 d2_13 ?_
  refine own_acmp K (pc := 16) (pc' := 27) (same := true) d2_16 (decide_eq_true rfl) (by decide) (by decide) ?_
  refine own_aloadN K (pc := 27) d2_27 rfl rfl ?_
  exact own_retA K (pc := 28) d2_28 rfl rfl rfl
set_option maxRecDepth 65536 in
theorem ps_14 (p : Program) (l : Launch) (e : Env) (R : Room) (s : State) (m : MethodId) (args : Array Value) (below : List Frame) (meth : Method) (c : Code) (Z : State) (a0 : Array Value) (h : Heap) (hw : ∀ d ∈ tables_1, d.before a0 Z = true) (y : Addr) (A : Nat → Addr) (F : own_F Z h A) (K : own_C p s m meth c Z prog_12_method_9_code "com/example/locant/locant/AtomicType" (.object "com/example/locant/locant/AtomicType") 2) :
    own_E p l e R s m args below meth c h 2 #[.val (.ref y), .val (.ref (A 14))] [] (.ref (A 14)) := by
  refine own_aloadN K (pc := 2) d2_2 rfl rfl ?_
  refine own_getF K (pc := 3) (hw _ (List.mem_of_getElem? (i := 12) rfl)) F.2.2.1.2.2.2.2.2.2.2.2.2.2.2.2.2.2.2.2.2.2.2.2.2.1 d2_3 ?_
  refine own_ifnullN K (pc := 6) d2_6 ?_
  refine own_aloadN K (pc := 9) d2_9 rfl rfl ?_
  refine own_getF K (pc := 10) (hw _ (List.mem_of_getElem? (i := 12) rfl)) F.2.2.1.2.2.2.2.2.2.2.2.2.2.2.2.2.2.2.2.2.2.2.2.2.1 d2_10 ?_
  refine own_getS K (pc := 13) (hw _ (List.mem_of_getElem? (i := 18) rfl)) F.1.1 d2_13 ?_
  refine own_acmp K (pc := 16) (pc' := 27) (same := true) d2_16 (decide_eq_true rfl) (by decide) (by decide) ?_
  refine own_aloadN K (pc := 27) d2_27 rfl rfl ?_
  exact own_retA K (pc := 28) d2_28 rfl rfl rfl
set_option maxRecDepth 65536 in
theorem ps_15 (p : Program) (l : Launch) (e : Env) (R : Room) (s : State) (m : MethodId) (args : Array Value) (below : List Frame) (meth : Method) (c : Code) (Z : State) (a0 : Array Value) (h : Heap) (hw : ∀ d ∈ tables_1, d.before a0 Z = true) (y : Addr) (A : Nat → Addr) (F : own_F Z h A) (K : own_C p s m meth c Z prog_12_method_9_code "com/example/locant/locant/AtomicType" (.object "com/example/locant/locant/AtomicType") 2) :
    own_E p l e R s m args below meth c h 2 #[.val (.ref y), .val (.ref (A 15))] [] (.ref (A 15)) := by
  refine own_aloadN K (pc := 2) d2_2 rfl rfl ?_
  refine own_getF K (pc := 3) (hw _ (List.mem_of_getElem? (i := 12) rfl)) F.2.2.1.2.2.2.2.2.2.2.2.2.2.2.2.2.2.2.2.2.2.2.2.2.2.1 d2_3 ?_
  refine own_ifnullN K (pc := 6) d2_6 ?_
  refine own_aloadN K (pc := 9) d2_9 rfl rfl ?_
  refine own_getF K (pc := 10) (hw _ (List.mem_of_getElem? (i := 12) rfl)) F.2.2.1.2.2.2.2.2.2.2.2.2.2.2.2.2.2.2.2.2.2.2.2.2.2.1 d2_10 ?_
  refine own_getS K (pc := 13) (hw _ (List.mem_of_getElem? (i := 18) rfl)) F.1.1 d2_13 ?_
  refine own_acmp K (pc := 16) (pc' := 27) (same := true) d2_16 (decide_eq_true rfl) (by decide) (by decide) ?_
  refine own_aloadN K (pc := 27) d2_27 rfl rfl ?_
  exact own_retA K (pc := 28) d2_28 rfl rfl rfl
set_option maxRecDepth 65536 in
theorem ps_16 (p : Program) (l : Launch) (e : Env) (R : Room) (s : State) (m : MethodId) (args : Array Value) (below : List Frame) (meth : Method) (c : Code) (Z : State) (a0 : Array Value) (h : Heap) (hw : ∀ d ∈ tables_1, d.before a0 Z = true) (y : Addr) (A : Nat → Addr) (F : own_F Z h A) (K : own_C p s m meth c Z prog_12_method_9_code "com/example/locant/locant/AtomicType" (.object "com/example/locant/locant/AtomicType") 2) :
    own_E p l e R s m args below meth c h 2 #[.val (.ref y), .val (.ref (A 16))] [] (.ref (A 16)) := by
  refine own_aloadN K (pc := 2) d2_2 rfl rfl ?_
  refine own_getF K (pc := 3) (hw _ (List.mem_of_getElem? (i := 12) rfl)) F.2.2.2.1.2.2.2.2.2.2.2.2.2.2.2.2.2.2.2.2.2.2.2.1 d2_3 ?_
  refine own_ifnullN K (pc := 6) d2_6 ?_
  refine own_aloadN K (pc := 9) d2_9 rfl rfl ?_
  refine own_getF K (pc := 10) (hw _ (List.mem_of_getElem? (i := 12) rfl)) F.2.2.2.1.2.2.2.2.2.2.2.2.2.2.2.2.2.2.2.2.2.2.2.1 d2_10 ?_
  refine own_getS K (pc := 13) (hw _ (List.mem_of_getElem? (i := 18) rfl)) F.1.1 d2_13 ?_
  refine own_acmp K (pc := 16) (pc' := 27) (same := true) d2_16 (decide_eq_true rfl) (by decide) (by decide) ?_
  refine own_aloadN K (pc := 27) d2_27 rfl rfl ?_
  exact own_retA K (pc := 28) d2_28 rfl rfl rfl
set_option maxRecDepth 65536 in
theorem ps_17 (p : Program) (l : Launch) (e : Env) (R : Room) (s : State) (m : MethodId) (args : Array Value) (below : List Frame) (meth : Method) (c : Code) (Z : State) (a0 : Array Value) (h : Heap) (hw : ∀ d ∈ tables_1, d.before a0 Z = true) (y : Addr) (A : Nat → Addr) (F : own_F Z h A) (K : own_C p s m meth c Z prog_12_method_9_code "com/example/locant/locant/AtomicType" (.object "com/example/locant/locant/AtomicType") 2) :
    own_E p l e R s m args below meth c h 2 #[.val (.ref y), .val (.ref (A 17))] [] (.ref (A 17)) := by
  refine own_aloadN K (pc := 2) d2_2 rfl rfl ?_
  refine own_getF K (pc := 3) (hw _ (List.mem_of_getElem? (i := 12) rfl)) F.2.2.2.1.2.2.2.2.2.2.2.2.2.2.2.2.2.2.2.2.2.2.1 d2_3 ?_
  refine own_ifnullN K (pc := 6) d2_6 ?_
  refine own_aloadN K (pc := 9) d2_9 rfl rfl ?_
  refine own_getF K (pc := 10) (hw _ (List.mem_of_getElem? (i := 12) rfl)) F.2.2.2.1.2.2.2.2.2.2.2.2.2.2.2.2.2.2.2.2.2.2.1 d2_10 ?_
  refine own_getS K (pc := 13) (hw _ (List.mem_of_getElem? (i := 18) rfl)) F.1.1 d2_13 ?_
  refine own_acmp K (pc := 16) (pc' := 27) (same := true) d2_16 (decide_eq_true rfl) (by decide) (by decide) ?_
  refine own_aloadN K (pc := 27) d2_27 rfl rfl ?_
  exact own_retA K (pc := 28) d2_28 rfl rfl rfl
set_option maxRecDepth 65536 in
theorem ps_18 (p : Program) (l : Launch) (e : Env) (R : Room) (s : State) (m : MethodId) (args : Array Value) (below : List Frame) (meth : Method) (c : Code) (Z : State) (a0 : Array Value) (h : Heap) (hw : ∀ d ∈ tables_1, d.before a0 Z = true) (y : Addr) (A : Nat → Addr) (F : own_F Z h A) (K : own_C p s m meth c Z prog_12_method_9_code "com/example/locant/locant/AtomicType" (.object "com/example/locant/locant/AtomicType") 2) :
    own_E p l e R s m args below meth c h 2 #[.val (.ref y), .val (.ref (A 18))] [] (.ref (A 18)) := by
  refine own_aloadN K (pc := 2) d2_2 rfl rfl ?_
  refine own_getF K (pc := 3) (hw _ (List.mem_of_getElem? (i := 12) rfl)) F.2.2.2.1.2.2.2.2.2.2.2.2.2.2.2.2.2.2.2.1 d2_3 ?_
  refine own_ifnullN K (pc := 6) d2_6 ?_
  refine own_aloadN K (pc := 9) d2_9 rfl rfl ?_
  refine own_getF K (pc := 10) (hw _ (List.mem_of_getElem? (i := 12) rfl)) F.2.2.2.1.2.2.2.2.2.2.2.2.2.2.2.2.2.2.2.1 d2_10 ?_
  refine own_getS K (pc := 13) (hw _ (List.mem_of_getElem? (i := 18) rfl)) F.1.1 d2_13 ?_
  refine own_acmp K (pc := 16) (pc' := 27) (same := true) d2_16 (decide_eq_true rfl) (by decide) (by decide) ?_
  refine own_aloadN K (pc := 27) d2_27 rfl rfl ?_
  exact own_retA K (pc := 28) d2_28 rfl rfl rfl
set_option maxRecDepth 65536 in
theorem ps_19 (p : Program) (l : Launch) (e : Env) (R : Room) (s : State) (m : MethodId) (args : Array Value) (below : List Frame) (meth : Method) (c : Code) (Z : State) (a0 : Array Value) (h : Heap) (hw : ∀ d ∈ tables_1, d.before a0 Z = true) (y : Addr) (A : Nat → Addr) (F : own_F Z h A) (K : own_C p s m meth c Z prog_12_method_9_code "com/example/locant/locant/AtomicType" (.object "com/example/locant/locant/AtomicType") 2) :
    own_E p l e R s m args below meth c h 2 #[.val (.ref y), .val (.ref (A 19))] [] (.ref (A 18)) := by
  refine own_aloadN K (pc := 2) d2_2 rfl rfl ?_
  refine own_getF K (pc := 3) (hw _ (List.mem_of_getElem? (i := 12) rfl)) F.2.2.2.1.2.2.2.2.2.2.2.2.2.2.2.2.2.1 d2_3 ?_
  refine own_ifnullN K (pc := 6) d2_6 ?_
  refine own_aloadN K (pc := 9) d2_9 rfl rfl ?_
  refine own_getF K (pc := 10) (hw _ (List.mem_of_getElem? (i := 12) rfl)) F.2.2.2.1.2.2.2.2.2.2.2.2.2.2.2.2.2.1 d2_10 ?_
  refine own_getS K (pc := 13) (hw _ (List.mem_of_getElem? (i := 18) rfl)) F.1.1 d2_13 ?_
  refine own_acmp K (pc := 16) (pc' := 19) (same := false) d2_16 (decide_eq_false (Fld.ne F.2.2.2.1.2.2.2.2.2.2.2.2.2.2.2.2.2.2.1 F.2.2.1.2.2.2.2.2.2.2.2.2.2.2.2.2.2.2.2.2.2.2.1 (by decide))) (by decide) (by decide) ?_
  refine own_aloadN K (pc := 19) d2_19 rfl rfl ?_
  refine own_getF K (pc := 20) (hw _ (List.mem_of_getElem? (i := 12) rfl)) F.2.2.2.1.2.2.2.2.2.2.2.2.2.2.2.2.2.1 d2_20 ?_
  refine own_astoreN K (pc := 23) (Ls' := #[.val (.ref y), .val (.ref (A 18))]) d2_23 rfl rfl ?_
  refine own_goto K (pc := 24) (pc' := 2) d2_24 (by decide) (by decide) ?_
  exact ps_18 p l e R s m args below meth c Z a0 h hw y A F K
set_option maxRecDepth 65536 in
theorem ps_20 (p : Program) (l : Launch) (e : Env) (R : Room) (s : State) (m : MethodId) (args : Array Value) (below : List Frame) (meth : Method) (c : Code) (Z : State) (a0 : Array Value) (h : Heap) (hw : ∀ d ∈ tables_1, d.before a0 Z = true) (y : Addr) (A : Nat → Addr) (F : own_F Z h A) (K : own_C p s m meth c Z prog_12_method_9_code "com/example/locant/locant/AtomicType" (.object "com/example/locant/locant/AtomicType") 2) :
    own_E p l e R s m args below meth c h 2 #[.val (.ref y), .val (.ref (A 20))] [] (.ref (A 18)) := by
  refine own_aloadN K (pc := 2) d2_2 rfl rfl ?_
  refine own_getF K (pc := 3) (hw _ (List.mem_of_getElem? (i := 12) rfl)) F.2.2.2.2.2.2.2.2.2.2.2.2.2.2.2.2.2.2.2 d2_3 ?_
  refine own_ifnullN K (pc := 6) d2_6 ?_
  refine own_aloadN K (pc := 9) d2_9 rfl rfl ?_
  refine own_getF K (pc := 10) (hw _ (List.mem_of_getElem? (i := 12) rfl)) F.2.2.2.2.2.2.2.2.2.2.2.2.2.2.2.2.2.2.2 d2_10 ?_
  refine own_getS K (pc := 13) (hw _ (List.mem_of_getElem? (i := 18) rfl)) F.1.1 d2_13 ?_
  refine own_acmp K (pc := 16) (pc' := 19) (same := false) d2_16 (decide_eq_false (Fld.ne F.2.2.2.1.2.2.2.2.2.2.2.2.2.2.2.2.1 F.2.2.1.2.2.2.2.2.2.2.2.2.2.2.2.2.2.2.2.2.2.2.1 (by decide))) (by decide) (by decide) ?_
  refine own_aloadN K (pc := 19) d2_19 rfl rfl ?_
  refine own_getF K (pc := 20) (hw _ (List.mem_of_getElem? (i := 12) rfl)) F.2.2.2.2.2.2.2.2.2.2.2.2.2.2.2.2.2.2.2 d2_20 ?_
  refine own_astoreN K (pc := 23) (Ls' := #[.val (.ref y), .val (.ref (A 19))]) d2_23 rfl rfl ?_
  refine own_goto K (pc := 24) (pc' := 2) d2_24 (by decide) (by decide) ?_
  exact ps_19 p l e R s m args below meth c Z a0 h hw y A F K
set_option maxRecDepth 65536 in
theorem ps_21 (p : Program) (l : Launch) (e : Env) (R : Room) (s : State) (m : MethodId) (args : Array Value) (below : List Frame) (meth : Method) (c : Code) (Z : State) (a0 : Array Value) (h : Heap) (hw : ∀ d ∈ tables_1, d.before a0 Z = true) (y : Addr) (A : Nat → Addr) (F : own_F Z h A) (K : own_C p s m meth c Z prog_12_method_9_code "com/example/locant/locant/AtomicType" (.object "com/example/locant/locant/AtomicType") 2) :
    own_E p l e R s m args below meth c h 2 #[.val (.ref y), .val (.ref (A 21))] [] (.ref (A 18)) := by
  refine own_aloadN K (pc := 2) d2_2 rfl rfl ?_
  refine own_getF K (pc := 3) (hw _ (List.mem_of_getElem? (i := 12) rfl)) F.2.2.2.2.2.2.2.2.2.2.2.2.2.2.2.2.2.1 d2_3 ?_
  refine own_ifnullN K (pc := 6) d2_6 ?_
  refine own_aloadN K (pc := 9) d2_9 rfl rfl ?_
  refine own_getF K (pc := 10) (hw _ (List.mem_of_getElem? (i := 12) rfl)) F.2.2.2.2.2.2.2.2.2.2.2.2.2.2.2.2.2.1 d2_10 ?_
  refine own_getS K (pc := 13) (hw _ (List.mem_of_getElem? (i := 18) rfl)) F.1.1 d2_13 ?_
  refine own_acmp K (pc := 16) (pc' := 19) (same := false) d2_16 (decide_eq_false (Fld.ne F.2.2.2.2.2.2.2.2.2.2.2.2.2.2.2.2.2.2.1 F.2.2.1.2.2.2.2.2.2.2.2.2.2.2.2.2.2.2.2.2.2.2.1 (by decide))) (by decide) (by decide) ?_
  refine own_aloadN K (pc := 19) d2_19 rfl rfl ?_
  refine own_getF K (pc := 20) (hw _ (List.mem_of_getElem? (i := 12) rfl)) F.2.2.2.2.2.2.2.2.2.2.2.2.2.2.2.2.2.1 d2_20 ?_
  refine own_astoreN K (pc := 23) (Ls' := #[.val (.ref y), .val (.ref (A 20))]) d2_23 rfl rfl ?_
  refine own_goto K (pc := 24) (pc' := 2) d2_24 (by decide) (by decide) ?_
  exact ps_20 p l e R s m args below meth c Z a0 h hw y A F K
set_option maxRecDepth 65536 in
theorem ps_22 (p : Program) (l : Launch) (e : Env) (R : Room) (s : State) (m : MethodId) (args : Array Value) (below : List Frame) (meth : Method) (c : Code) (Z : State) (a0 : Array Value) (h : Heap) (hw : ∀ d ∈ tables_1, d.before a0 Z = true) (y : Addr) (A : Nat → Addr) (F : own_F Z h A) (K : own_C p s m meth c Z prog_12_method_9_code "com/example/locant/locant/AtomicType" (.object "com/example/locant/locant/AtomicType") 2) :
    own_E p l e R s m args below meth c h 2 #[.val (.ref y), .val (.ref (A 22))] [] (.ref (A 18)) := by
  refine own_aloadN K (pc := 2) d2_2 rfl rfl ?_
  refine own_getF K (pc := 3) (hw _ (List.mem_of_getElem? (i := 12) rfl)) F.2.2.2.1.2.2.2.2.2.2.2.2.2.2.2.1 d2_3 ?_
  refine own_ifnullN K (pc := 6) d2_6 ?_
  refine own_aloadN K (pc := 9) d2_9 rfl rfl ?_
  refine own_getF K (pc := 10) (hw _ (List.mem_of_getElem? (i := 12) rfl)) F.2.2.2.1.2.2.2.2.2.2.2.2.2.2.2.1 d2_10 ?_
  refine own_getS K (pc := 13) (hw _ (List.mem_of_getElem? (i := 18) rfl)) F.1.1 d2_13 ?_
  refine own_acmp K (pc := 16) (pc' := 19) (same := false) d2_16 (decide_eq_false (Fld.ne F.2.2.2.1.2.2.2.2.2.2.2.2.2.2.2.2.1 F.2.2.1.2.2.2.2.2.2.2.2.2.2.2.2.2.2.2.2.2.2.2.1 (by decide))) (by decide) (by decide) ?_
  refine own_aloadN K (pc := 19) d2_19 rfl rfl ?_
  refine own_getF K (pc := 20) (hw _ (List.mem_of_getElem? (i := 12) rfl)) F.2.2.2.1.2.2.2.2.2.2.2.2.2.2.2.1 d2_20 ?_
  refine own_astoreN K (pc := 23) (Ls' := #[.val (.ref y), .val (.ref (A 19))]) d2_23 rfl rfl ?_
  refine own_goto K (pc := 24) (pc' := 2) d2_24 (by decide) (by decide) ?_
  exact ps_19 p l e R s m args below meth c Z a0 h hw y A F K
set_option maxRecDepth 65536 in
theorem ps_23 (p : Program) (l : Launch) (e : Env) (R : Room) (s : State) (m : MethodId) (args : Array Value) (below : List Frame) (meth : Method) (c : Code) (Z : State) (a0 : Array Value) (h : Heap) (hw : ∀ d ∈ tables_1, d.before a0 Z = true) (y : Addr) (A : Nat → Addr) (F : own_F Z h A) (K : own_C p s m meth c Z prog_12_method_9_code "com/example/locant/locant/AtomicType" (.object "com/example/locant/locant/AtomicType") 2) :
    own_E p l e R s m args below meth c h 2 #[.val (.ref y), .val (.ref (A 23))] [] (.ref (A 18)) := by
  refine own_aloadN K (pc := 2) d2_2 rfl rfl ?_
  refine own_getF K (pc := 3) (hw _ (List.mem_of_getElem? (i := 12) rfl)) F.2.2.2.1.2.2.2.2.2.2.2.2.2.1 d2_3 ?_
  refine own_ifnullN K (pc := 6) d2_6 ?_
  refine own_aloadN K (pc := 9) d2_9 rfl rfl ?_
  refine own_getF K (pc := 10) (hw _ (List.mem_of_getElem? (i := 12) rfl)) F.2.2.2.1.2.2.2.2.2.2.2.2.2.1 d2_10 ?_
  refine own_getS K (pc := 13) (hw _ (List.mem_of_getElem? (i := 18) rfl)) F.1.1 d2_13 ?_
  refine own_acmp K (pc := 16) (pc' := 19) (same := false) d2_16 (decide_eq_false (Fld.ne F.2.2.2.1.2.2.2.2.2.2.2.2.2.2.1 F.2.2.1.2.2.2.2.2.2.2.2.2.2.2.2.2.2.2.2.2.2.2.1 (by decide))) (by decide) (by decide) ?_
  refine own_aloadN K (pc := 19) d2_19 rfl rfl ?_
  refine own_getF K (pc := 20) (hw _ (List.mem_of_getElem? (i := 12) rfl)) F.2.2.2.1.2.2.2.2.2.2.2.2.2.1 d2_20 ?_
  refine own_astoreN K (pc := 23) (Ls' := #[.val (.ref y), .val (.ref (A 22))]) d2_23 rfl rfl ?_
  refine own_goto K (pc := 24) (pc' := 2) d2_24 (by decide) (by decide) ?_
  exact ps_22 p l e R s m args below meth c Z a0 h hw y A F K
set_option maxRecDepth 65536 in
theorem ps_24 (p : Program) (l : Launch) (e : Env) (R : Room) (s : State) (m : MethodId) (args : Array Value) (below : List Frame) (meth : Method) (c : Code) (Z : State) (a0 : Array Value) (h : Heap) (hw : ∀ d ∈ tables_1, d.before a0 Z = true) (y : Addr) (A : Nat → Addr) (F : own_F Z h A) (K : own_C p s m meth c Z prog_12_method_9_code "com/example/locant/locant/AtomicType" (.object "com/example/locant/locant/AtomicType") 2) :
    own_E p l e R s m args below meth c h 2 #[.val (.ref y), .val (.ref (A 24))] [] (.ref (A 18)) := by
  refine own_aloadN K (pc := 2) d2_2 rfl rfl ?_
  refine own_getF K (pc := 3) (hw _ (List.mem_of_getElem? (i := 12) rfl)) F.2.2.2.1.2.2.2.2.2.2.2.2.2.2.2.2.2.2.2.2.1 d2_3 ?_
  refine own_ifnullN K (pc := 6) d2_6 ?_
  refine own_aloadN K (pc := 9) d2_9 rfl rfl ?_
  refine own_getF K (pc := 10) (hw _ (List.mem_of_getElem? (i := 12) rfl)) F.2.2.2.1.2.2.2.2.2.2.2.2.2.2.2.2.2.2.2.2.1 d2_10 ?_
  refine own_getS K (pc := 13) (hw _ (List.mem_of_getElem? (i := 18) rfl)) F.1.1 d2_13 ?_
  refine own_acmp K (pc := 16) (pc' := 19) (same := false) d2_16 (decide_eq_false (Fld.ne F.2.2.2.1.2.2.2.2.2.2.2.2.2.2.2.2.2.2.2.2.2.1 F.2.2.1.2.2.2.2.2.2.2.2.2.2.2.2.2.2.2.2.2.2.2.1 (by decide))) (by decide) (by decide) ?_
  refine own_aloadN K (pc := 19) d2_19 rfl rfl ?_
  refine own_getF K (pc := 20) (hw _ (List.mem_of_getElem? (i := 12) rfl)) F.2.2.2.1.2.2.2.2.2.2.2.2.2.2.2.2.2.2.2.2.1 d2_20 ?_
  refine own_astoreN K (pc := 23) (Ls' := #[.val (.ref y), .val (.ref (A 23))]) d2_23 rfl rfl ?_
  refine own_goto K (pc := 24) (pc' := 2) d2_24 (by decide) (by decide) ?_
  exact ps_23 p l e R s m args below meth c Z a0 h hw y A F K
set_option maxRecDepth 65536 in
theorem ps_25 (p : Program) (l : Launch) (e : Env) (R : Room) (s : State) (m : MethodId) (args : Array Value) (below : List Frame) (meth : Method) (c : Code) (Z : State) (a0 : Array Value) (h : Heap) (hw : ∀ d ∈ tables_1, d.before a0 Z = true) (y : Addr) (A : Nat → Addr) (F : own_F Z h A) (K : own_C p s m meth c Z prog_12_method_9_code "com/example/locant/locant/AtomicType" (.object "com/example/locant/locant/AtomicType") 2) :
    own_E p l e R s m args below meth c h 2 #[.val (.ref y), .val (.ref (A 25))] [] (.ref (A 18)) := by
  refine own_aloadN K (pc := 2) d2_2 rfl rfl ?_
  refine own_getF K (pc := 3) (hw _ (List.mem_of_getElem? (i := 12) rfl)) F.2.2.2.2.2.2.2.2.2.2.2.2.2.2.1 d2_3 ?_
  refine own_ifnullN K (pc := 6) d2_6 ?_
  refine own_aloadN K (pc := 9) d2_9 rfl rfl ?_
  refine own_getF K (pc := 10) (hw _ (List.mem_of_getElem? (i := 12) rfl)) F.2.2.2.2.2.2.2.2.2.2.2.2.2.2.1 d2_10 ?_
  refine own_getS K (pc := 13) (hw _ (List.mem_of_getElem? (i := 18) rfl)) F.1.1 d2_13 ?_
  refine own_acmp K (pc := 16) (pc' := 19) (same := false) d2_16 (decide_eq_false (Fld.ne F.2.2.2.2.2.2.2.2.2.2.2.2.2.2.2.1 F.2.2.1.2.2.2.2.2.2.2.2.2.2.2.2.2.2.2.2.2.2.2.1 (by decide))) (by decide) (by decide) ?_
  refine own_aloadN K (pc := 19) d2_19 rfl rfl ?_
  refine own_getF K (pc := 20) (hw _ (List.mem_of_getElem? (i := 12) rfl)) F.2.2.2.2.2.2.2.2.2.2.2.2.2.2.1 d2_20 ?_
  refine own_astoreN K (pc := 23) (Ls' := #[.val (.ref y), .val (.ref (A 24))]) d2_23 rfl rfl ?_
  refine own_goto K (pc := 24) (pc' := 2) d2_24 (by decide) (by decide) ?_
  exact ps_24 p l e R s m args below meth c Z a0 h hw y A F K
set_option maxRecDepth 65536 in
theorem ps_26 (p : Program) (l : Launch) (e : Env) (R : Room) (s : State) (m : MethodId) (args : Array Value) (below : List Frame) (meth : Method) (c : Code) (Z : State) (a0 : Array Value) (h : Heap) (hw : ∀ d ∈ tables_1, d.before a0 Z = true) (y : Addr) (A : Nat → Addr) (F : own_F Z h A) (K : own_C p s m meth c Z prog_12_method_9_code "com/example/locant/locant/AtomicType" (.object "com/example/locant/locant/AtomicType") 2) :
    own_E p l e R s m args below meth c h 2 #[.val (.ref y), .val (.ref (A 26))] [] (.ref (A 18)) := by
  refine own_aloadN K (pc := 2) d2_2 rfl rfl ?_
  refine own_getF K (pc := 3) (hw _ (List.mem_of_getElem? (i := 12) rfl)) F.2.2.2.1.2.2.2.2.2.2.2.2.2.2.2.2.2.2.2.2.2.2.2.2.2.2.1 d2_3 ?_
  refine own_ifnullN K (pc := 6) d2_6 ?_
  refine own_aloadN K (pc := 9) d2_9 rfl rfl ?_
  refine own_getF K (pc := 10) (hw _ (List.mem_of_getElem? (i := 12) rfl)) F.2.2.2.1.2.2.2.2.2.2.2.2.2.2.2.2.2.2.2.2.2.2.2.2.2.2.1 d2_10 ?_
  refine own_getS K (pc := 13) (hw _ (List.mem_of_getElem? (i := 18) rfl)) F.1.1 d2_13 ?_
  refine own_acmp K (pc := 16) (pc' := 19) (same := false) d2_16 (decide_eq_false (Fld.ne F.2.2.2.1.2.2.2.2.2.2.2.2.2.2.2.2.1 F.2.2.1.2.2.2.2.2.2.2.2.2.2.2.2.2.2.2.2.2.2.2.1 (by decide))) (by decide) (by decide) ?_
  refine own_aloadN K (pc := 19) d2_19 rfl rfl ?_
  refine own_getF K (pc := 20) (hw _ (List.mem_of_getElem? (i := 12) rfl)) F.2.2.2.1.2.2.2.2.2.2.2.2.2.2.2.2.2.2.2.2.2.2.2.2.2.2.1 d2_20 ?_
  refine own_astoreN K (pc := 23) (Ls' := #[.val (.ref y), .val (.ref (A 19))]) d2_23 rfl rfl ?_
  refine own_goto K (pc := 24) (pc' := 2) d2_24 (by decide) (by decide) ?_
  exact ps_19 p l e R s m args below meth c Z a0 h hw y A F K
set_option maxRecDepth 65536 in
theorem ps_27 (p : Program) (l : Launch) (e : Env) (R : Room) (s : State) (m : MethodId) (args : Array Value) (below : List Frame) (meth : Method) (c : Code) (Z : State) (a0 : Array Value) (h : Heap) (hw : ∀ d ∈ tables_1, d.before a0 Z = true) (y : Addr) (A : Nat → Addr) (F : own_F Z h A) (K : own_C p s m meth c Z prog_12_method_9_code "com/example/locant/locant/AtomicType" (.object "com/example/locant/locant/AtomicType") 2) :
    own_E p l e R s m args below meth c h 2 #[.val (.ref y), .val (.ref (A 27))] [] (.ref (A 18)) := by
  refine own_aloadN K (pc := 2) d2_2 rfl rfl ?_
  refine own_getF K (pc := 3) (hw _ (List.mem_of_getElem? (i := 12) rfl)) F.2.2.2.2.2.2.2.2.2.1 d2_3 ?_
  refine own_ifnullN K (pc := 6) d2_6 ?_
  refine own_aloadN K (pc := 9) d2_9 rfl rfl ?_
  refine own_getF K (pc := 10) (hw _ (List.mem_of_getElem? (i := 12) rfl)) F.2.2.2.2.2.2.2.2.2.1 d2_10 ?_
  refine own_getS K (pc := 13) (hw _ (List.mem_of_getElem? (i := 18) rfl)) F.1.1 d2_13 ?_
  refine own_acmp K (pc := 16) (pc' := 19) (same := false) d2_16 (decide_eq_false (Fld.ne F.2.2.2.1.2.2.2.2.2.2.2.2.2.2.2.2.2.2.2.2.2.2.2.2.2.1 F.2.2.1.2.2.2.2.2.2.2.2.2.2.2.2.2.2.2.2.2.2.2.1 (by decide))) (by decide) (by decide) ?_
  refine own_aloadN K (pc := 19) d2_19 rfl rfl ?_
  refine own_getF K (pc := 20) (hw _ (List.mem_of_getElem? (i := 12) rfl)) F.2.2.2.2.2.2.2.2.2.1 d2_20 ?_
  refine own_astoreN K (pc := 23) (Ls' := #[.val (.ref y), .val (.ref (A 26))]) d2_23 rfl rfl ?_
  refine own_goto K (pc := 24) (pc' := 2) d2_24 (by decide) (by decide) ?_
  exact ps_26 p l e R s m args below meth c Z a0 h hw y A F K
set_option maxRecDepth 65536 in
theorem ps_28 (p : Program) (l : Launch) (e : Env) (R : Room) (s : State) (m : MethodId) (args : Array Value) (below : List Frame) (meth : Method) (c : Code) (Z : State) (a0 : Array Value) (h : Heap) (hw : ∀ d ∈ tables_1, d.before a0 Z = true) (y : Addr) (A : Nat → Addr) (F : own_F Z h A) (K : own_C p s m meth c Z prog_12_method_9_code "com/example/locant/locant/AtomicType" (.object "com/example/locant/locant/AtomicType") 2) :
    own_E p l e R s m args below meth c h 2 #[.val (.ref y), .val (.ref (A 28))] [] (.ref (A 18)) := by
  refine own_aloadN K (pc := 2) d2_2 rfl rfl ?_
  refine own_getF K (pc := 3) (hw _ (List.mem_of_getElem? (i := 12) rfl)) F.2.2.2.2.2.2.2.1 d2_3 ?_
  refine own_ifnullN K (pc := 6) d2_6 ?_
  refine own_aloadN K (pc := 9) d2_9 rfl rfl ?_
  refine own_getF K (pc := 10) (hw _ (List.mem_of_getElem? (i := 12) rfl)) F.2.2.2.2.2.2.2.1 d2_10 ?_
  refine own_getS K (pc := 13) (hw _ (List.mem_of_getElem? (i := 18) rfl)) F.1.1 d2_13 ?_
  refine own_acmp K (pc := 16) (pc' := 19) (same := false) d2_16 (decide_eq_false (Fld.ne F.2.2.2.2.2.2.2.2.1 F.2.2.1.2.2.2.2.2.2.2.2.2.2.2.2.2.2.2.2.2.2.2.1 (by decide))) (by decide) (by decide) ?_
  refine own_aloadN K (pc := 19) d2_19 rfl rfl ?_
  refine own_getF K (pc := 20) (hw _ (List.mem_of_getElem? (i := 12) rfl)) F.2.2.2.2.2.2.2.1 d2_20 ?_
  refine own_astoreN K (pc := 23) (Ls' := #[.val (.ref y), .val (.ref (A 27))]) d2_23 rfl rfl ?_
  refine own_goto K (pc := 24) (pc' := 2) d2_24 (by decide) (by decide) ?_
  exact ps_27 p l e R s m args below meth c Z a0 h hw y A F K
set_option maxRecDepth 65536 in
theorem ps_29 (p : Program) (l : Launch) (e : Env) (R : Room) (s : State) (m : MethodId) (args : Array Value) (below : List Frame) (meth : Method) (c : Code) (Z : State) (a0 : Array Value) (h : Heap) (hw : ∀ d ∈ tables_1, d.before a0 Z = true) (y : Addr) (A : Nat → Addr) (F : own_F Z h A) (K : own_C p s m meth c Z prog_12_method_9_code "com/example/locant/locant/AtomicType" (.object "com/example/locant/locant/AtomicType") 2) :
    own_E p l e R s m args below meth c h 2 #[.val (.ref y), .val (.ref (A 29))] [] (.ref (A 18)) := by
  refine own_aloadN K (pc := 2) d2_2 rfl rfl ?_
  refine own_getF K (pc := 3) (hw _ (List.mem_of_getElem? (i := 12) rfl)) F.2.2.2.2.2.1 d2_3 ?_
  refine own_ifnullN K (pc := 6) d2_6 ?_
  refine own_aloadN K (pc := 9) d2_9 rfl rfl ?_
  refine own_getF K (pc := 10) (hw _ (List.mem_of_getElem? (i := 12) rfl)) F.2.2.2.2.2.1 d2_10 ?_
  refine own_getS K (pc := 13) (hw _ (List.mem_of_getElem? (i := 18) rfl)) F.1.1 d2_13 ?_
  refine own_acmp K (pc := 16) (pc' := 19) (same := false) d2_16 (decide_eq_false (Fld.ne F.2.2.2.2.2.2.1 F.2.2.1.2.2.2.2.2.2.2.2.2.2.2.2.2.2.2.2.2.2.2.1 (by decide))) (by decide) (by decide) ?_
  refine own_aloadN K (pc := 19) d2_19 rfl rfl ?_
  refine own_getF K (pc := 20) (hw _ (List.mem_of_getElem? (i := 12) rfl)) F.2.2.2.2.2.1 d2_20 ?_
  refine own_astoreN K (pc := 23) (Ls' := #[.val (.ref y), .val (.ref (A 28))]) d2_23 rfl rfl ?_
  refine own_goto K (pc := 24) (pc' := 2) d2_24 (by decide) (by decide) ?_
  exact ps_28 p l e R s m args below meth c Z a0 h hw y A F K
set_option maxRecDepth 65536 in
theorem ps_30 (p : Program) (l : Launch) (e : Env) (R : Room) (s : State) (m : MethodId) (args : Array Value) (below : List Frame) (meth : Method) (c : Code) (Z : State) (a0 : Array Value) (h : Heap) (hw : ∀ d ∈ tables_1, d.before a0 Z = true) (y : Addr) (A : Nat → Addr) (F : own_F Z h A) (K : own_C p s m meth c Z prog_12_method_9_code "com/example/locant/locant/AtomicType" (.object "com/example/locant/locant/AtomicType") 2) :
    own_E p l e R s m args below meth c h 2 #[.val (.ref y), .val (.ref (A 30))] [] (.ref (A 18)) := by
  refine own_aloadN K (pc := 2) d2_2 rfl rfl ?_
  refine own_getF K (pc := 3) (hw _ (List.mem_of_getElem? (i := 12) rfl)) F.2.2.2.1.2.2.2.2.2.2.2.2.2.2.2.2.2.2.2.2.2.2.2.2.2.2.2 d2_3 ?_
  refine own_ifnullN K (pc := 6) d2_6 ?_
  refine own_aloadN K (pc := 9) d2_9 rfl rfl ?_
  refine own_getF K (pc := 10) (hw _ (List.mem_of_getElem? (i := 12) rfl)) F.2.2.2.1.2.2.2.2.2.2.2.2.2.2.2.2.2.2.2.2.2.2.2.2.2.2.2 d2_10 ?_
  refine own_getS K (pc := 13) (hw _ (List.mem_of_getElem? (i := 18) rfl)) F.1.1 d2_13 ?_
  refine own_acmp K (pc := 16) (pc' := 19) (same := false) d2_16 (decide_eq_false (Fld.ne F.2.2.2.2.1 F.2.2.1.2.2.2.2.2.2.2.2.2.2.2.2.2.2.2.2.2.2.2.1 (by decide))) (by decide) (by decide) ?_
  refine own_aloadN K (pc := 19) d2_19 rfl rfl ?_
  refine own_getF K (pc := 20) (hw _ (List.mem_of_getElem? (i := 12) rfl)) F.2.2.2.1.2.2.2.2.2.2.2.2.2.2.2.2.2.2.2.2.2.2.2.2.2.2.2 d2_20 ?_
  refine own_astoreN K (pc := 23) (Ls' := #[.val (.ref y), .val (.ref (A 29))]) d2_23 rfl rfl ?_
  refine own_goto K (pc := 24) (pc' := 2) d2_24 (by decide) (by decide) ?_
  exact ps_29 p l e R s m args below meth c Z a0 h hw y A F K
set_option maxRecDepth 65536 in
theorem ps_31 (p : Program) (l : Launch) (e : Env) (R : Room) (s : State) (m : MethodId) (args : Array Value) (below : List Frame) (meth : Method) (c : Code) (Z : State) (a0 : Array Value) (h : Heap) (hw : ∀ d ∈ tables_1, d.before a0 Z = true) (y : Addr) (A : Nat → Addr) (F : own_F Z h A) (K : own_C p s m meth c Z prog_12_method_9_code "com/example/locant/locant/AtomicType" (.object "com/example/locant/locant/AtomicType") 2) :
    own_E p l e R s m args below meth c h 2 #[.val (.ref y), .val (.ref (A 31))] [] (.ref (A 18)) := by
  refine own_aloadN K (pc := 2) d2_2 rfl rfl ?_
  refine own_getF K (pc := 3) (hw _ (List.mem_of_getElem? (i := 12) rfl)) F.2.2.2.1.2.2.2.2.2.2.2.2.2.2.2.2.2.2.2.2.2.2.2.2.1 d2_3 ?_
  refine own_ifnullN K (pc := 6) d2_6 ?_
  refine own_aloadN K (pc := 9) d2_9 rfl rfl ?_
  refine own_getF K (pc := 10) (hw _ (List.mem_of_getElem? (i := 12) rfl)) F.2.2.2.1.2.2.2.2.2.2.2.2.2.2.2.2.2.2.2.2.2.2.2.2.1 d2_10 ?_
  refine own_getS K (pc := 13) (hw _ (List.mem_of_getElem? (i := 18) rfl)) F.1.1 d2_13 ?_
  refine own_acmp K (pc := 16) (pc' := 19) (same := false) d2_16 (decide_eq_false (Fld.ne F.2.2.2.1.2.2.2.2.2.2.2.2.2.2.2.2.2.2.2.2.2.2.2.2.2.1 F.2.2.1.2.2.2.2.2.2.2.2.2.2.2.2.2.2.2.2.2.2.2.1 (by decide))) (by decide) (by decide) ?_
  refine own_aloadN K (pc := 19) d2_19 rfl rfl ?_
  refine own_getF K (pc := 20) (hw _ (List.mem_of_getElem? (i := 12) rfl)) F.2.2.2.1.2.2.2.2.2.2.2.2.2.2.2.2.2.2.2.2.2.2.2.2.1 d2_20 ?_
  refine own_astoreN K (pc := 23) (Ls' := #[.val (.ref y), .val (.ref (A 26))]) d2_23 rfl rfl ?_
  refine own_goto K (pc := 24) (pc' := 2) d2_24 (by decide) (by decide) ?_
  exact ps_26 p l e R s m args below meth c Z a0 h hw y A F K
set_option maxRecDepth 65536 in
theorem pb_0 (p : Program) (l : Launch) (e : Env) (R : Room) (s : State) (m : MethodId) (args : Array Value) (below : List Frame) (meth : Method) (c : Code) (Z : State) (a0 : Array Value) (h : Heap) (hw : ∀ d ∈ tables_1, d.before a0 Z = true) (A : Nat → Addr) (F : own_F Z h A) (K : own_C p s m meth c Z prog_12_method_9_code "com/example/locant/locant/AtomicType" (.object "com/example/locant/locant/AtomicType") 2) (r : own_E p l e R s m args below meth c h 2 #[.val (.ref (A 0)), .val (.ref (A 0))] [] (.ref (A 0))) :
    own_E p l e R s m args below meth c h 0 #[.val (.ref (A 0)), .unset] [] (.ref (A 0)) := by
  refine own_aloadN K (pc := 0) d2_0 rfl rfl ?_
  refine own_astoreN K (pc := 1) (Ls' := #[.val (.ref (A 0)), .val (.ref (A 0))]) d2_1 rfl rfl ?_
  exact r
theorem pm_0 (l : Launch) (Z : State) (a0 : Array Value) (h : Heap) (hw : ∀ d ∈ tables_1, d.before a0 Z = true) (A : Nat → Addr) (F : own_F Z h A)  : own_M l (⟨"com/example/locant/locant/AtomicType", "primitive", "()Lcom/example/locant/locant/AtomicType;"⟩ : MethodName) prog_12_method_9_code 2 (.object "com/example/locant/locant/AtomicType") [] { frames := 0, cells := 0, slots := 0, locals := 0 } Z h #[(.ref (A 0))] (.ref (A 0)) := by
  refine own_met pn_2 (Ls := #[.val (.ref (A 0)), .unset]) (fun m => by first | (simp [entryFrame, mkF, argsToLocals, Value.category, maxLocals]; done) | rfl) ?_
  intro p e s m below meth c K
  exact pb_0 p l e _ s m _ below meth c Z a0 h hw A F K (ps_0 p l e _ s m _ below meth c Z a0 h hw _ A F K)
set_option maxRecDepth 65536 in
theorem pb_1 (p : Program) (l : Launch) (e : Env) (R : Room) (s : State) (m : MethodId) (args : Array Value) (below : List Frame) (meth : Method) (c : Code) (Z : State) (a0 : Array Value) (h : Heap) (hw : ∀ d ∈ tables_1, d.before a0 Z = true) (A : Nat → Addr) (F : own_F Z h A) (K : own_C p s m meth c Z prog_12_method_9_code "com/example/locant/locant/AtomicType" (.object "com/example/locant/locant/AtomicType") 2) (r : own_E p l e R s m args below meth c h 2 #[.val (.ref (A 1)), .val (.ref (A 1))] [] (.ref (A 1))) :
    own_E p l e R s m args below meth c h 0 #[.val (.ref (A 1)), .unset] [] (.ref (A 1)) := by
  refine own_aloadN K (pc := 0) d2_0 rfl rfl ?_
  refine own_astoreN K (pc := 1) (Ls' := #[.val (.ref (A 1)), .val (.ref (A 1))]) d2_1 rfl rfl ?_
  exact r
theorem pm_1 (l : Launch) (Z : State) (a0 : Array Value) (h : Heap) (hw : ∀ d ∈ tables_1, d.before a0 Z = true) (A : Nat → Addr) (F : own_F Z h A)  : own_M l (⟨"com/example/locant/locant/AtomicType", "primitive", "()Lcom/example/locant/locant/AtomicType;"⟩ : MethodName) prog_12_method_9_code 2 (.object "com/example/locant/locant/AtomicType") [] { frames := 0, cells := 0, slots := 0, locals := 0 } Z h #[(.ref (A 1))] (.ref (A 1)) := by
  refine own_met pn_2 (Ls := #[.val (.ref (A 1)), .unset]) (fun m => by first | (simp [entryFrame, mkF, argsToLocals, Value.category, maxLocals]; done) | rfl) ?_
  intro p e s m below meth c K
  exact pb_1 p l e _ s m _ below meth c Z a0 h hw A F K (ps_1 p l e _ s m _ below meth c Z a0 h hw _ A F K)
set_option maxRecDepth 65536 in
theorem pb_2 (p : Program) (l : Launch) (e : Env) (R : Room) (s : State) (m : MethodId) (args : Array Value) (below : List Frame) (meth : Method) (c : Code) (Z : State) (a0 : Array Value) (h : Heap) (hw : ∀ d ∈ tables_1, d.before a0 Z = true) (A : Nat → Addr) (F : own_F Z h A) (K : own_C p s m meth c Z prog_12_method_9_code "com/example/locant/locant/AtomicType" (.object "com/example/locant/locant/AtomicType") 2) (r : own_E p l e R s m args below meth c h 2 #[.val (.ref (A 2)), .val (.ref (A 2))] [] (.ref (A 2))) :
    own_E p l e R s m args below meth c h 0 #[.val (.ref (A 2)), .unset] [] (.ref (A 2)) := by
  refine own_aloadN K (pc := 0) d2_0 rfl rfl ?_
  refine own_astoreN K (pc := 1) (Ls' := #[.val (.ref (A 2)), .val (.ref (A 2))]) d2_1 rfl rfl ?_
  exact r
theorem pm_2 (l : Launch) (Z : State) (a0 : Array Value) (h : Heap) (hw : ∀ d ∈ tables_1, d.before a0 Z = true) (A : Nat → Addr) (F : own_F Z h A)  : own_M l (⟨"com/example/locant/locant/AtomicType", "primitive", "()Lcom/example/locant/locant/AtomicType;"⟩ : MethodName) prog_12_method_9_code 2 (.object "com/example/locant/locant/AtomicType") [] { frames := 0, cells := 0, slots := 0, locals := 0 } Z h #[(.ref (A 2))] (.ref (A 2)) := by
  refine own_met pn_2 (Ls := #[.val (.ref (A 2)), .unset]) (fun m => by first | (simp [entryFrame, mkF, argsToLocals, Value.category, maxLocals]; done) | rfl) ?_
  intro p e s m below meth c K
  exact pb_2 p l e _ s m _ below meth c Z a0 h hw A F K (ps_2 p l e _ s m _ below meth c Z a0 h hw _ A F K)
set_option maxRecDepth 65536 in
theorem pb_3 (p : Program) (l : Launch) (e : Env) (R : Room) (s : State) (m : MethodId) (args : Array Value) (below : List Frame) (meth : Method) (c : Code) (Z : State) (a0 : Array Value) (h : Heap) (hw : ∀ d ∈ tables_1, d.before a0 Z = true) (A : Nat → Addr) (F : own_F Z h A) (K : own_C p s m meth c Z prog_12_method_9_code "com/example/locant/locant/AtomicType" (.object "com/example/locant/locant/AtomicType") 2) (r : own_E p l e R s m args below meth c h 2 #[.val (.ref (A 3)), .val (.ref (A 3))] [] (.ref (A 2))) :
    own_E p l e R s m args below meth c h 0 #[.val (.ref (A 3)), .unset] [] (.ref (A 2)) := by
  refine own_aloadN K (pc := 0) d2_0 rfl rfl ?_
  refine own_astoreN K (pc := 1) (Ls' := #[.val (.ref (A 3)), .val (.ref (A 3))]) d2_1 rfl rfl ?_
  exact r
theorem pm_3 (l : Launch) (Z : State) (a0 : Array Value) (h : Heap) (hw : ∀ d ∈ tables_1, d.before a0 Z = true) (A : Nat → Addr) (F : own_F Z h A)  : own_M l (⟨"com/example/locant/locant/AtomicType", "primitive", "()Lcom/example/locant/locant/AtomicType;"⟩ : MethodName) prog_12_method_9_code 2 (.object "com/example/locant/locant/AtomicType") [] { frames := 0, cells := 0, slots := 0, locals := 0 } Z h #[(.ref (A 3))] (.ref (A 2)) := by
  refine own_met pn_2 (Ls := #[.val (.ref (A 3)), .unset]) (fun m => by first | (simp [entryFrame, mkF, argsToLocals, Value.category, maxLocals]; done) | rfl) ?_
  intro p e s m below meth c K
  exact pb_3 p l e _ s m _ below meth c Z a0 h hw A F K (ps_3 p l e _ s m _ below meth c Z a0 h hw _ A F K)
set_option maxRecDepth 65536 in
theorem pb_4 (p : Program) (l : Launch) (e : Env) (R : Room) (s : State) (m : MethodId) (args : Array Value) (below : List Frame) (meth : Method) (c : Code) (Z : State) (a0 : Array Value) (h : Heap) (hw : ∀ d ∈ tables_1, d.before a0 Z = true) (A : Nat → Addr) (F : own_F Z h A) (K : own_C p s m meth c Z prog_12_method_9_code "com/example/locant/locant/AtomicType" (.object "com/example/locant/locant/AtomicType") 2) (r : own_E p l e R s m args below meth c h 2 #[.val (.ref (A 4)), .val (.ref (A 4))] [] (.ref (A 2))) :
    own_E p l e R s m args below meth c h 0 #[.val (.ref (A 4)), .unset] [] (.ref (A 2)) := by
  refine own_aloadN K (pc := 0) d2_0 rfl rfl ?_
  refine own_astoreN K (pc := 1) (Ls' := #[.val (.ref (A 4)), .val (.ref (A 4))]) d2_1 rfl rfl ?_
  exact r
theorem pm_4 (l : Launch) (Z : State) (a0 : Array Value) (h : Heap) (hw : ∀ d ∈ tables_1, d.before a0 Z = true) (A : Nat → Addr) (F : own_F Z h A)  : own_M l (⟨"com/example/locant/locant/AtomicType", "primitive", "()Lcom/example/locant/locant/AtomicType;"⟩ : MethodName) prog_12_method_9_code 2 (.object "com/example/locant/locant/AtomicType") [] { frames := 0, cells := 0, slots := 0, locals := 0 } Z h #[(.ref (A 4))] (.ref (A 2)) := by
  refine own_met pn_2 (Ls := #[.val (.ref (A 4)), .unset]) (fun m => by first | (simp [entryFrame, mkF, argsToLocals, Value.category, maxLocals]; done) | rfl) ?_
  intro p e s m below meth c K
  exact pb_4 p l e _ s m _ below meth c Z a0 h hw A F K (ps_4 p l e _ s m _ below meth c Z a0 h hw _ A F K)
set_option maxRecDepth 65536 in
theorem pb_5 (p : Program) (l : Launch) (e : Env) (R : Room) (s : State) (m : MethodId) (args : Array Value) (below : List Frame) (meth : Method) (c : Code) (Z : State) (a0 : Array Value) (h : Heap) (hw : ∀ d ∈ tables_1, d.before a0 Z = true) (A : Nat → Addr) (F : own_F Z h A) (K : own_C p s m meth c Z prog_12_method_9_code "com/example/locant/locant/AtomicType" (.object "com/example/locant/locant/AtomicType") 2) (r : own_E p l e R s m args below meth c h 2 #[.val (.ref (A 5)), .val (.ref (A 5))] [] (.ref (A 2))) :
    own_E p l e R s m args below meth c h 0 #[.val (.ref (A 5)), .unset] [] (.ref (A 2)) := by
  refine own_aloadN K (pc := 0) d2_0 rfl rfl ?_
  refine own_astoreN K (pc := 1) (Ls' := #[.val (.ref (A 5)), .val (.ref (A 5))]) d2_1 rfl rfl ?_
  exact r
theorem pm_5 (l : Launch) (Z : State) (a0 : Array Value) (h : Heap) (hw : ∀ d ∈ tables_1, d.before a0 Z = true) (A : Nat → Addr) (F : own_F Z h A)  : own_M l (⟨"com/example/locant/locant/AtomicType", "primitive", "()Lcom/example/locant/locant/AtomicType;"⟩ : MethodName) prog_12_method_9_code 2 (.object "com/example/locant/locant/AtomicType") [] { frames := 0, cells := 0, slots := 0, locals := 0 } Z h #[(.ref (A 5))] (.ref (A 2)) := by
  refine own_met pn_2 (Ls := #[.val (.ref (A 5)), .unset]) (fun m => by first | (simp [entryFrame, mkF, argsToLocals, Value.category, maxLocals]; done) | rfl) ?_
  intro p e s m below meth c K
  exact pb_5 p l e _ s m _ below meth c Z a0 h hw A F K (ps_5 p l e _ s m _ below meth c Z a0 h hw _ A F K)
set_option maxRecDepth 65536 in
theorem pb_6 (p : Program) (l : Launch) (e : Env) (R : Room) (s : State) (m : MethodId) (args : Array Value) (below : List Frame) (meth : Method) (c : Code) (Z : State) (a0 : Array Value) (h : Heap) (hw : ∀ d ∈ tables_1, d.before a0 Z = true) (A : Nat → Addr) (F : own_F Z h A) (K : own_C p s m meth c Z prog_12_method_9_code "com/example/locant/locant/AtomicType" (.object "com/example/locant/locant/AtomicType") 2) (r : own_E p l e R s m args below meth c h 2 #[.val (.ref (A 6)), .val (.ref (A 6))] [] (.ref (A 2))) :
    own_E p l e R s m args below meth c h 0 #[.val (.ref (A 6)), .unset] [] (.ref (A 2)) := by
  refine own_aloadN K (pc := 0) d2_0 rfl rfl ?_
  refine own_astoreN K (pc := 1) (Ls' := #[.val (.ref (A 6)), .val (.ref (A 6))]) d2_1 rfl rfl ?_
  exact r
theorem pm_6 (l : Launch) (Z : State) (a0 : Array Value) (h : Heap) (hw : ∀ d ∈ tables_1, d.before a0 Z = true) (A : Nat → Addr) (F : own_F Z h A)  : own_M l (⟨"com/example/locant/locant/AtomicType", "primitive", "()Lcom/example/locant/locant/AtomicType;"⟩ : MethodName) prog_12_method_9_code 2 (.object "com/example/locant/locant/AtomicType") [] { frames := 0, cells := 0, slots := 0, locals := 0 } Z h #[(.ref (A 6))] (.ref (A 2)) := by
  refine own_met pn_2 (Ls := #[.val (.ref (A 6)), .unset]) (fun m => by first | (simp [entryFrame, mkF, argsToLocals, Value.category, maxLocals]; done) | rfl) ?_
  intro p e s m below meth c K
  exact pb_6 p l e _ s m _ below meth c Z a0 h hw A F K (ps_6 p l e _ s m _ below meth c Z a0 h hw _ A F K)
set_option maxRecDepth 65536 in
theorem pb_7 (p : Program) (l : Launch) (e : Env) (R : Room) (s : State) (m : MethodId) (args : Array Value) (below : List Frame) (meth : Method) (c : Code) (Z : State) (a0 : Array Value) (h : Heap) (hw : ∀ d ∈ tables_1, d.before a0 Z = true) (A : Nat → Addr) (F : own_F Z h A) (K : own_C p s m meth c Z prog_12_method_9_code "com/example/locant/locant/AtomicType" (.object "com/example/locant/locant/AtomicType") 2) (r : own_E p l e R s m args below meth c h 2 #[.val (.ref (A 7)), .val (.ref (A 7))] [] (.ref (A 2))) :
    own_E p l e R s m args below meth c h 0 #[.val (.ref (A 7)), .unset] [] (.ref (A 2)) := by
  refine own_aloadN K (pc := 0) d2_0 rfl rfl ?_
  refine own_astoreN K (pc := 1) (Ls' := #[.val (.ref (A 7)), .val (.ref (A 7))]) d2_1 rfl rfl ?_
  exact r
theorem pm_7 (l : Launch) (Z : State) (a0 : Array Value) (h : Heap) (hw : ∀ d ∈ tables_1, d.before a0 Z = true) (A : Nat → Addr) (F : own_F Z h A)  : own_M l (⟨"com/example/locant/locant/AtomicType", "primitive", "()Lcom/example/locant/locant/AtomicType;"⟩ : MethodName) prog_12_method_9_code 2 (.object "com/example/locant/locant/AtomicType") [] { frames := 0, cells := 0, slots := 0, locals := 0 } Z h #[(.ref (A 7))] (.ref (A 2)) := by
  refine own_met pn_2 (Ls := #[.val (.ref (A 7)), .unset]) (fun m => by first | (simp [entryFrame, mkF, argsToLocals, Value.category, maxLocals]; done) | rfl) ?_
  intro p e s m below meth c K
  exact pb_7 p l e _ s m _ below meth c Z a0 h hw A F K (ps_7 p l e _ s m _ below meth c Z a0 h hw _ A F K)
set_option maxRecDepth 65536 in
theorem pb_8 (p : Program) (l : Launch) (e : Env) (R : Room) (s : State) (m : MethodId) (args : Array Value) (below : List Frame) (meth : Method) (c : Code) (Z : State) (a0 : Array Value) (h : Heap) (hw : ∀ d ∈ tables_1, d.before a0 Z = true) (A : Nat → Addr) (F : own_F Z h A) (K : own_C p s m meth c Z prog_12_method_9_code "com/example/locant/locant/AtomicType" (.object "com/example/locant/locant/AtomicType") 2) (r : own_E p l e R s m args below meth c h 2 #[.val (.ref (A 8)), .val (.ref (A 8))] [] (.ref (A 2))) :
    own_E p l e R s m args below meth c h 0 #[.val (.ref (A 8)), .unset] [] (.ref (A 2)) := by
  refine own_aloadN K (pc := 0) d2_0 rfl rfl ?_
  refine own_astoreN K (pc := 1) (Ls' := #[.val (.ref (A 8)), .val (.ref (A 8))]) d2_1 rfl rfl ?_
  exact r
theorem pm_8 (l : Launch) (Z : State) (a0 : Array Value) (h : Heap) (hw : ∀ d ∈ tables_1, d.before a0 Z = true) (A : Nat → Addr) (F : own_F Z h A)  : own_M l (⟨"com/example/locant/locant/AtomicType", "primitive", "()Lcom/example/locant/locant/AtomicType;"⟩ : MethodName) prog_12_method_9_code 2 (.object "com/example/locant/locant/AtomicType") [] { frames := 0, cells := 0, slots := 0, locals := 0 } Z h #[(.ref (A 8))] (.ref (A 2)) := by
  refine own_met pn_2 (Ls := #[.val (.ref (A 8)), .unset]) (fun m => by first | (simp [entryFrame, mkF, argsToLocals, Value.category, maxLocals]; done) | rfl) ?_
  intro p e s m below meth c K
  exact pb_8 p l e _ s m _ below meth c Z a0 h hw A F K (ps_8 p l e _ s m _ below meth c Z a0 h hw _ A F K)
set_option maxRecDepth 65536 in
theorem pb_9 (p : Program) (l : Launch) (e : Env) (R : Room) (s : State) (m : MethodId) (args : Array Value) (below : List Frame) (meth : Method) (c : Code) (Z : State) (a0 : Array Value) (h : Heap) (hw : ∀ d ∈ tables_1, d.before a0 Z = true) (A : Nat → Addr) (F : own_F Z h A) (K : own_C p s m meth c Z prog_12_method_9_code "com/example/locant/locant/AtomicType" (.object "com/example/locant/locant/AtomicType") 2) (r : own_E p l e R s m args below meth c h 2 #[.val (.ref (A 9)), .val (.ref (A 9))] [] (.ref (A 2))) :
    own_E p l e R s m args below meth c h 0 #[.val (.ref (A 9)), .unset] [] (.ref (A 2)) := by
  refine own_aloadN K (pc := 0) d2_0 rfl rfl ?_
  refine own_astoreN K (pc := 1) (Ls' := #[.val (.ref (A 9)), .val (.ref (A 9))]) d2_1 rfl rfl ?_
  exact r
theorem pm_9 (l : Launch) (Z : State) (a0 : Array Value) (h : Heap) (hw : ∀ d ∈ tables_1, d.before a0 Z = true) (A : Nat → Addr) (F : own_F Z h A)  : own_M l (⟨"com/example/locant/locant/AtomicType", "primitive", "()Lcom/example/locant/locant/AtomicType;"⟩ : MethodName) prog_12_method_9_code 2 (.object "com/example/locant/locant/AtomicType") [] { frames := 0, cells := 0, slots := 0, locals := 0 } Z h #[(.ref (A 9))] (.ref (A 2)) := by
  refine own_met pn_2 (Ls := #[.val (.ref (A 9)), .unset]) (fun m => by first | (simp [entryFrame, mkF, argsToLocals, Value.category, maxLocals]; done) | rfl) ?_
  intro p e s m below meth c K
  exact pb_9 p l e _ s m _ below meth c Z a0 h hw A F K (ps_9 p l e _ s m _ below meth c Z a0 h hw _ A F K)
set_option maxRecDepth 65536 in
theorem pb_10 (p : Program) (l : Launch) (e : Env) (R : Room) (s : State) (m : MethodId) (args : Array Value) (below : List Frame) (meth : Method) (c : Code) (Z : State) (a0 : Array Value) (h : Heap) (hw : ∀ d ∈ tables_1, d.before a0 Z = true) (A : Nat → Addr) (F : own_F Z h A) (K : own_C p s m meth c Z prog_12_method_9_code "com/example/locant/locant/AtomicType" (.object "com/example/locant/locant/AtomicType") 2) (r : own_E p l e R s m args below meth c h 2 #[.val (.ref (A 10)), .val (.ref (A 10))] [] (.ref (A 2))) :
    own_E p l e R s m args below meth c h 0 #[.val (.ref (A 10)), .unset] [] (.ref (A 2)) := by
  refine own_aloadN K (pc := 0) d2_0 rfl rfl ?_
  refine own_astoreN K (pc := 1) (Ls' := #[.val (.ref (A 10)), .val (.ref (A 10))]) d2_1 rfl rfl ?_
  exact r
theorem pm_10 (l : Launch) (Z : State) (a0 : Array Value) (h : Heap) (hw : ∀ d ∈ tables_1, d.before a0 Z = true) (A : Nat → Addr) (F : own_F Z h A)  : own_M l (⟨"com/example/locant/locant/AtomicType", "primitive", "()Lcom/example/locant/locant/AtomicType;"⟩ : MethodName) prog_12_method_9_code 2 (.object "com/example/locant/locant/AtomicType") [] { frames := 0, cells := 0, slots := 0, locals := 0 } Z h #[(.ref (A 10))] (.ref (A 2)) := by
  refine own_met pn_2 (Ls := #[.val (.ref (A 10)), .unset]) (fun m => by first | (simp [entryFrame, mkF, argsToLocals, Value.category, maxLocals]; done) | rfl) ?_
  intro p e s m below meth c K
  exact pb_10 p l e _ s m _ below meth c Z a0 h hw A F K (ps_10 p l e _ s m _ below meth c Z a0 h hw _ A F K)
set_option maxRecDepth 65536 in
theorem pb_11 (p : Program) (l : Launch) (e : Env) (R : Room) (s : State) (m : MethodId) (args : Array Value) (below : List Frame) (meth : Method) (c : Code) (Z : State) (a0 : Array Value) (h : Heap) (hw : ∀ d ∈ tables_1, d.before a0 Z = true) (A : Nat → Addr) (F : own_F Z h A) (K : own_C p s m meth c Z prog_12_method_9_code "com/example/locant/locant/AtomicType" (.object "com/example/locant/locant/AtomicType") 2) (r : own_E p l e R s m args below meth c h 2 #[.val (.ref (A 11)), .val (.ref (A 11))] [] (.ref (A 2))) :
    own_E p l e R s m args below meth c h 0 #[.val (.ref (A 11)), .unset] [] (.ref (A 2)) := by
  refine own_aloadN K (pc := 0) d2_0 rfl rfl ?_
  refine own_astoreN K (pc := 1) (Ls' := #[.val (.ref (A 11)), .val (.ref (A 11))]) d2_1 rfl rfl ?_
  exact r
theorem pm_11 (l : Launch) (Z : State) (a0 : Array Value) (h : Heap) (hw : ∀ d ∈ tables_1, d.before a0 Z = true) (A : Nat → Addr) (F : own_F Z h A)  : own_M l (⟨"com/example/locant/locant/AtomicType", "primitive", "()Lcom/example/locant/locant/AtomicType;"⟩ : MethodName) prog_12_method_9_code 2 (.object "com/example/locant/locant/AtomicType") [] { frames := 0, cells := 0, slots := 0, locals := 0 } Z h #[(.ref (A 11))] (.ref (A 2)) := by
  refine own_met pn_2 (Ls := #[.val (.ref (A 11)), .unset]) (fun m => by first | (simp [entryFrame, mkF, argsToLocals, Value.category, maxLocals]; done) | rfl) ?_
  intro p e s m below meth c K
  exact pb_11 p l e _ s m _ below meth c Z a0 h hw A F K (ps_11 p l e _ s m _ below meth c Z a0 h hw _ A F K)
set_option maxRecDepth 65536 in
theorem pb_12 (p : Program) (l : Launch) (e : Env) (R : Room) (s : State) (m : MethodId) (args : Array Value) (below : List Frame) (meth : Method) (c : Code) (Z : State) (a0 : Array Value) (h : Heap) (hw : ∀ d ∈ tables_1, d.before a0 Z = true) (A : Nat → Addr) (F : own_F Z h A) (K : own_C p s m meth c Z prog_12_method_9_code "com/example/locant/locant/AtomicType" (.object "com/example/locant/locant/AtomicType") 2) (r : own_E p l e R s m args below meth c h 2 #[.val (.ref (A 12)), .val (.ref (A 12))] [] (.ref (A 12))) :
    own_E p l e R s m args below meth c h 0 #[.val (.ref (A 12)), .unset] [] (.ref (A 12)) := by
  refine own_aloadN K (pc := 0) d2_0 rfl rfl ?_
  refine own_astoreN K (pc := 1) (Ls' := #[.val (.ref (A 12)), .val (.ref (A 12))]) d2_1 rfl rfl ?_
  exact r
theorem pm_12 (l : Launch) (Z : State) (a0 : Array Value) (h : Heap) (hw : ∀ d ∈ tables_1, d.before a0 Z = true) (A : Nat → Addr) (F : own_F Z h A)  : own_M l (⟨"com/example/locant/locant/AtomicType", "primitive", "()Lcom/example/locant/locant/AtomicType;"⟩ : MethodName) prog_12_method_9_code 2 (.object "com/example/locant/locant/AtomicType") [] { frames := 0, cells := 0, slots := 0, locals := 0 } Z h #[(.ref (A 12))] (.ref (A 12)) := by
  refine own_met pn_2 (Ls := #[.val (.ref (A 12)), .unset]) (fun m => by first | (simp [entryFrame, mkF, argsToLocals, Value.category, maxLocals]; done) | rfl) ?_
  intro p e s m below meth c K
  exact pb_12 p l e _ s m _ below meth c Z a0 h hw A F K (ps_12 p l e _ s m _ below meth c Z a0 h hw _ A F K)
set_option maxRecDepth 65536 in
theorem pb_13 (p : Program) (l : Launch) (e : Env) (R : Room) (s : State) (m : MethodId) (args : Array Value) (below : List Frame) (meth : Method) (c : Code) (Z : State) (a0 : Array Value) (h : Heap) (hw : ∀ d ∈ tables_1, d.before a0 Z = true) (A : Nat → Addr) (F : own_F Z h A) (K : own_C p s m meth c Z prog_12_method_9_code "com/example/locant/locant/AtomicType" (.object "com/example/locant/locant/AtomicType") 2) (r : own_E p l e R s m args below meth c h 2 #[.val (.ref (A 13)), .val (.ref (A 13))] [] (.ref (A 13))) :
    own_E p l e R s m args below meth c h 0 #[.val (.ref (A 13)), .unset] [] (.ref (A 13)) := by
  refine own_aloadN K (pc := 0) d2_0 rfl rfl ?_
  refine own_astoreN K (pc := 1) (Ls' := #[.val (.ref (A 13)), .val (.ref (A 13))]) d2_1 rfl rfl ?_
  exact r
theorem pm_13 (l : Launch) (Z : State) (a0 : Array Value) (h : Heap) (hw : ∀ d ∈ tables_1, d.before a0 Z = true) (A : Nat → Addr) (F : own_F Z h A)  : own_M l (⟨"com/example/locant/locant/AtomicType", "primitive", "()Lcom/example/locant/locant/AtomicType;"⟩ : MethodName) prog_12_method_9_code 2 (.object "com/example/locant/locant/AtomicType") [] { frames := 0, cells := 0, slots := 0, locals := 0 } Z h #[(.ref (A 13))] (.ref (A 13)) := by
  refine own_met pn_2 (Ls := #[.val (.ref (A 13)), .unset]) (fun m => by first | (simp [entryFrame, mkF, argsToLocals, Value.category, maxLocals]; done) | rfl) ?_
  intro p e s m below meth c K
  exact pb_13 p l e _ s m _ below meth c Z a0 h hw A F K (ps_13 p l e _ s m _ below meth c Z a0 h hw _ A F K)
set_option maxRecDepth 65536 in
theorem pb_14 (p : Program) (l : Launch) (e : Env) (R : Room) (s : State) (m : MethodId) (args : Array Value) (below : List Frame) (meth : Method) (c : Code) (Z : State) (a0 : Array Value) (h : Heap) (hw : ∀ d ∈ tables_1, d.before a0 Z = true) (A : Nat → Addr) (F : own_F Z h A) (K : own_C p s m meth c Z prog_12_method_9_code "com/example/locant/locant/AtomicType" (.object "com/example/locant/locant/AtomicType") 2) (r : own_E p l e R s m args below meth c h 2 #[.val (.ref (A 14)), .val (.ref (A 14))] [] (.ref (A 14))) :
    own_E p l e R s m args below meth c h 0 #[.val (.ref (A 14)), .unset] [] (.ref (A 14)) := by
  refine own_aloadN K (pc := 0) d2_0 rfl rfl ?_
  refine own_astoreN K (pc := 1) (Ls' := #[.val (.ref (A 14)), .val (.ref (A 14))]) d2_1 rfl rfl ?_
  exact r
theorem pm_14 (l : Launch) (Z : State) (a0 : Array Value) (h : Heap) (hw : ∀ d ∈ tables_1, d.before a0 Z = true) (A : Nat → Addr) (F : own_F Z h A)  : own_M l (⟨"com/example/locant/locant/AtomicType", "primitive", "()Lcom/example/locant/locant/AtomicType;"⟩ : MethodName) prog_12_method_9_code 2 (.object "com/example/locant/locant/AtomicType") [] { frames := 0, cells := 0, slots := 0, locals := 0 } Z h #[(.ref (A 14))] (.ref (A 14)) := by
  refine own_met pn_2 (Ls := #[.val (.ref (A 14)), .unset]) (fun m => by first | (simp [entryFrame, mkF, argsToLocals, Value.category, maxLocals]; done) | rfl) ?_
  intro p e s m below meth c K
  exact pb_14 p l e _ s m _ below meth c Z a0 h hw A F K (ps_14 p l e _ s m _ below meth c Z a0 h hw _ A F K)
set_option maxRecDepth 65536 in
theorem pb_15 (p : Program) (l : Launch) (e : Env) (R : Room) (s : State) (m : MethodId) (args : Array Value) (below : List Frame) (meth : Method) (c : Code) (Z : State) (a0 : Array Value) (h : Heap) (hw : ∀ d ∈ tables_1, d.before a0 Z = true) (A : Nat → Addr) (F : own_F Z h A) (K : own_C p s m meth c Z prog_12_method_9_code "com/example/locant/locant/AtomicType" (.object "com/example/locant/locant/AtomicType") 2) (r : own_E p l e R s m args below meth c h 2 #[.val (.ref (A 15)), .val (.ref (A 15))] [] (.ref (A 15))) :
    own_E p l e R s m args below meth c h 0 #[.val (.ref (A 15)), .unset] [] (.ref (A 15)) := by
  refine own_aloadN K (pc := 0) d2_0 rfl rfl ?_
  refine own_astoreN K (pc := 1) (Ls' := #[.val (.ref (A 15)), .val (.ref (A 15))]) d2_1 rfl rfl ?_
  exact r
theorem pm_15 (l : Launch) (Z : State) (a0 : Array Value) (h : Heap) (hw : ∀ d ∈ tables_1, d.before a0 Z = true) (A : Nat → Addr) (F : own_F Z h A)  : own_M l (⟨"com/example/locant/locant/AtomicType", "primitive", "()Lcom/example/locant/locant/AtomicType;"⟩ : MethodName) prog_12_method_9_code 2 (.object "com/example/locant/locant/AtomicType") [] { frames := 0, cells := 0, slots := 0, locals := 0 } Z h #[(.ref (A 15))] (.ref (A 15)) := by
  refine own_met pn_2 (Ls := #[.val (.ref (A 15)), .unset]) (fun m => by first | (simp [entryFrame, mkF, argsToLocals, Value.category, maxLocals]; done) | rfl) ?_
  intro p e s m below meth c K
  exact pb_15 p l e _ s m _ below meth c Z a0 h hw A F K (ps_15 p l e _ s m _ below meth c Z a0 h hw _ A F K)
set_option maxRecDepth 65536 in
theorem pb_16 (p : Program) (l : Launch) (e : Env) (R : Room) (s : State) (m : MethodId) (args : Array Value) (below : List Frame) (meth : Method) (c : Code) (Z : State) (a0 : Array Value) (h : Heap) (hw : ∀ d ∈ tables_1, d.before a0 Z = true) (A : Nat → Addr) (F : own_F Z h A) (K : own_C p s m meth c Z prog_12_method_9_code "com/example/locant/locant/AtomicType" (.object "com/example/locant/locant/AtomicType") 2) (r : own_E p l e R s m args below meth c h 2 #[.val (.ref (A 16)), .val (.ref (A 16))] [] (.ref (A 16))) :
    own_E p l e R s m args below meth c h 0 #[.val (.ref (A 16)), .unset] [] (.ref (A 16)) := by
  refine own_aloadN K (pc := 0) d2_0 rfl rfl ?_
  refine own_astoreN K (pc := 1) (Ls' := #[.val (.ref (A 16)), .val (.ref (A 16))]) d2_1 rfl rfl ?_
  exact r
theorem pm_16 (l : Launch) (Z : State) (a0 : Array Value) (h : Heap) (hw : ∀ d ∈ tables_1, d.before a0 Z = true) (A : Nat → Addr) (F : own_F Z h A)  : own_M l (⟨"com/example/locant/locant/AtomicType", "primitive", "()Lcom/example/locant/locant/AtomicType;"⟩ : MethodName) prog_12_method_9_code 2 (.object "com/example/locant/locant/AtomicType") [] { frames := 0, cells := 0, slots := 0, locals := 0 } Z h #[(.ref (A 16))] (.ref (A 16)) := by
  refine own_met pn_2 (Ls := #[.val (.ref (A 16)), .unset]) (fun m => by first | (simp [entryFrame, mkF, argsToLocals, Value.category, maxLocals]; done) | rfl) ?_
  intro p e s m below meth c K
  exact pb_16 p l e _ s m _ below meth c Z a0 h hw A F K (ps_16 p l e _ s m _ below meth c Z a0 h hw _ A F K)
set_option maxRecDepth 65536 in
theorem pb_17 (p : Program) (l : Launch) (e : Env) (R : Room) (s : State) (m : MethodId) (args : Array Value) (below : List Frame) (meth : Method) (c : Code) (Z : State) (a0 : Array Value) (h : Heap) (hw : ∀ d ∈ tables_1, d.before a0 Z = true) (A : Nat → Addr) (F : own_F Z h A) (K : own_C p s m meth c Z prog_12_method_9_code "com/example/locant/locant/AtomicType" (.object "com/example/locant/locant/AtomicType") 2) (r : own_E p l e R s m args below meth c h 2 #[.val (.ref (A 17)), .val (.ref (A 17))] [] (.ref (A 17))) :
    own_E p l e R s m args below meth c h 0 #[.val (.ref (A 17)), .unset] [] (.ref (A 17)) := by
  refine own_aloadN K (pc := 0) d2_0 rfl rfl ?_
  refine own_astoreN K (pc := 1) (Ls' := #[.val (.ref (A 17)), .val (.ref (A 17))]) d2_1 rfl rfl ?_
  exact r
theorem pm_17 (l : Launch) (Z : State) (a0 : Array Value) (h : Heap) (hw : ∀ d ∈ tables_1, d.before a0 Z = true) (A : Nat → Addr) (F : own_F Z h A)  : own_M l (⟨"com/example/locant/locant/AtomicType", "primitive", "()Lcom/example/locant/locant/AtomicType;"⟩ : MethodName) prog_12_method_9_code 2 (.object "com/example/locant/locant/AtomicType") [] { frames := 0, cells := 0, slots := 0, locals := 0 } Z h #[(.ref (A 17))] (.ref (A 17)) := by
  refine own_met pn_2 (Ls := #[.val (.ref (A 17)), .unset]) (fun m => by first | (simp [entryFrame, mkF, argsToLocals, Value.category, maxLocals]; done) | rfl) ?_
  intro p e s m below meth c K
  exact pb_17 p l e _ s m _ below meth c Z a0 h hw A F K (ps_17 p l e _ s m _ below meth c Z a0 h hw _ A F K)
set_option maxRecDepth 65536 in
theorem pb_18 (p : Program) (l : Launch) (e : Env) (R : Room) (s : State) (m : MethodId) (args : Array Value) (below : List Frame) (meth : Method) (c : Code) (Z : State) (a0 : Array Value) (h : Heap) (hw : ∀ d ∈ tables_1, d.before a0 Z = true) (A : Nat → Addr) (F : own_F Z h A) (K : own_C p s m meth c Z prog_12_method_9_code "com/example/locant/locant/AtomicType" (.object "com/example/locant/locant/AtomicType") 2) (r : own_E p l e R s m args below meth c h 2 #[.val (.ref (A 18)), .val (.ref (A 18))] [] (.ref (A 18))) :
    own_E p l e R s m args below meth c h 0 #[.val (.ref (A 18)), .unset] [] (.ref (A 18)) := by
  refine own_aloadN K (pc := 0) d2_0 rfl rfl ?_
  refine own_astoreN K (pc := 1) (Ls' := #[.val (.ref (A 18)), .val (.ref (A 18))]) d2_1 rfl rfl ?_
  exact r
theorem pm_18 (l : Launch) (Z : State) (a0 : Array Value) (h : Heap) (hw : ∀ d ∈ tables_1, d.before a0 Z = true) (A : Nat → Addr) (F : own_F Z h A)  : own_M l (⟨"com/example/locant/locant/AtomicType", "primitive", "()Lcom/example/locant/locant/AtomicType;"⟩ : MethodName) prog_12_method_9_code 2 (.object "com/example/locant/locant/AtomicType") [] { frames := 0, cells := 0, slots := 0, locals := 0 } Z h #[(.ref (A 18))] (.ref (A 18)) := by
  refine own_met pn_2 (Ls := #[.val (.ref (A 18)), .unset]) (fun m => by first | (simp [entryFrame, mkF, argsToLocals, Value.category, maxLocals]; done) | rfl) ?_
  intro p e s m below meth c K
  exact pb_18 p l e _ s m _ below meth c Z a0 h hw A F K (ps_18 p l e _ s m _ below meth c Z a0 h hw _ A F K)
set_option maxRecDepth 65536 in
theorem pb_19 (p : Program) (l : Launch) (e : Env) (R : Room) (s : State) (m : MethodId) (args : Array Value) (below : List Frame) (meth : Method) (c : Code) (Z : State) (a0 : Array Value) (h : Heap) (hw : ∀ d ∈ tables_1, d.before a0 Z = true) (A : Nat → Addr) (F : own_F Z h A) (K : own_C p s m meth c Z prog_12_method_9_code "com/example/locant/locant/AtomicType" (.object "com/example/locant/locant/AtomicType") 2) (r : own_E p l e R s m args below meth c h 2 #[.val (.ref (A 19)), .val (.ref (A 19))] [] (.ref (A 18))) :
    own_E p l e R s m args below meth c h 0 #[.val (.ref (A 19)), .unset] [] (.ref (A 18)) := by
  refine own_aloadN K (pc := 0) d2_0 rfl rfl ?_
  refine own_astoreN K (pc := 1) (Ls' := #[.val (.ref (A 19)), .val (.ref (A 19))]) d2_1 rfl rfl ?_
  exact r
theorem pm_19 (l : Launch) (Z : State) (a0 : Array Value) (h : Heap) (hw : ∀ d ∈ tables_1, d.before a0 Z = true) (A : Nat → Addr) (F : own_F Z h A)  : own_M l (⟨"com/example/locant/locant/AtomicType", "primitive", "()Lcom/example/locant/locant/AtomicType;"⟩ : MethodName) prog_12_method_9_code 2 (.object "com/example/locant/locant/AtomicType") [] { frames := 0, cells := 0, slots := 0, locals := 0 } Z h #[(.ref (A 19))] (.ref (A 18)) := by
  refine own_met pn_2 (Ls := #[.val (.ref (A 19)), .unset]) (fun m => by first | (simp [entryFrame, mkF, argsToLocals, Value.category, maxLocals]; done) | rfl) ?_
  intro p e s m below meth c K
  exact pb_19 p l e _ s m _ below meth c Z a0 h hw A F K (ps_19 p l e _ s m _ below meth c Z a0 h hw _ A F K)
set_option maxRecDepth 65536 in
theorem pb_20 (p : Program) (l : Launch) (e : Env) (R : Room) (s : State) (m : MethodId) (args : Array Value) (below : List Frame) (meth : Method) (c : Code) (Z : State) (a0 : Array Value) (h : Heap) (hw : ∀ d ∈ tables_1, d.before a0 Z = true) (A : Nat → Addr) (F : own_F Z h A) (K : own_C p s m meth c Z prog_12_method_9_code "com/example/locant/locant/AtomicType" (.object "com/example/locant/locant/AtomicType") 2) (r : own_E p l e R s m args below meth c h 2 #[.val (.ref (A 20)), .val (.ref (A 20))] [] (.ref (A 18))) :
    own_E p l e R s m args below meth c h 0 #[.val (.ref (A 20)), .unset] [] (.ref (A 18)) := by
  refine own_aloadN K (pc := 0) d2_0 rfl rfl ?_
  refine own_astoreN K (pc := 1) (Ls' := #[.val (.ref (A 20)), .val (.ref (A 20))]) d2_1 rfl rfl ?_
  exact r
theorem pm_20 (l : Launch) (Z : State) (a0 : Array Value) (h : Heap) (hw : ∀ d ∈ tables_1, d.before a0 Z = true) (A : Nat → Addr) (F : own_F Z h A)  : own_M l (⟨"com/example/locant/locant/AtomicType", "primitive", "()Lcom/example/locant/locant/AtomicType;"⟩ : MethodName) prog_12_method_9_code 2 (.object "com/example/locant/locant/AtomicType") [] { frames := 0, cells := 0, slots := 0, locals := 0 } Z h #[(.ref (A 20))] (.ref (A 18)) := by
  refine own_met pn_2 (Ls := #[.val (.ref (A 20)), .unset]) (fun m => by first | (simp [entryFrame, mkF, argsToLocals, Value.category, maxLocals]; done) | rfl) ?_
  intro p e s m below meth c K
  exact pb_20 p l e _ s m _ below meth c Z a0 h hw A F K (ps_20 p l e _ s m _ below meth c Z a0 h hw _ A F K)
set_option maxRecDepth 65536 in
theorem pb_21 (p : Program) (l : Launch) (e : Env) (R : Room) (s : State) (m : MethodId) (args : Array Value) (below : List Frame) (meth : Method) (c : Code) (Z : State) (a0 : Array Value) (h : Heap) (hw : ∀ d ∈ tables_1, d.before a0 Z = true) (A : Nat → Addr) (F : own_F Z h A) (K : own_C p s m meth c Z prog_12_method_9_code "com/example/locant/locant/AtomicType" (.object "com/example/locant/locant/AtomicType") 2) (r : own_E p l e R s m args below meth c h 2 #[.val (.ref (A 21)), .val (.ref (A 21))] [] (.ref (A 18))) :
    own_E p l e R s m args below meth c h 0 #[.val (.ref (A 21)), .unset] [] (.ref (A 18)) := by
  refine own_aloadN K (pc := 0) d2_0 rfl rfl ?_
  refine own_astoreN K (pc := 1) (Ls' := #[.val (.ref (A 21)), .val (.ref (A 21))]) d2_1 rfl rfl ?_
  exact r
theorem pm_21 (l : Launch) (Z : State) (a0 : Array Value) (h : Heap) (hw : ∀ d ∈ tables_1, d.before a0 Z = true) (A : Nat → Addr) (F : own_F Z h A)  : own_M l (⟨"com/example/locant/locant/AtomicType", "primitive", "()Lcom/example/locant/locant/AtomicType;"⟩ : MethodName) prog_12_method_9_code 2 (.object "com/example/locant/locant/AtomicType") [] { frames := 0, cells := 0, slots := 0, locals := 0 } Z h #[(.ref (A 21))] (.ref (A 18)) := by
  refine own_met pn_2 (Ls := #[.val (.ref (A 21)), .unset]) (fun m => by first | (simp [entryFrame, mkF, argsToLocals, Value.category, maxLocals]; done) | rfl) ?_
  intro p e s m below meth c K
  exact pb_21 p l e _ s m _ below meth c Z a0 h hw A F K (ps_21 p l e _ s m _ below meth c Z a0 h hw _ A F K)
set_option maxRecDepth 65536 in
theorem pb_22 (p : Program) (l : Launch) (e : Env) (R : Room) (s : State) (m : MethodId) (args : Array Value) (below : List Frame) (meth : Method) (c : Code) (Z : State) (a0 : Array Value) (h : Heap) (hw : ∀ d ∈ tables_1, d.before a0 Z = true) (A : Nat → Addr) (F : own_F Z h A) (K : own_C p s m meth c Z prog_12_method_9_code "com/example/locant/locant/AtomicType" (.object "com/example/locant/locant/AtomicType") 2) (r : own_E p l e R s m args below meth c h 2 #[.val (.ref (A 22)), .val (.ref (A 22))] [] (.ref (A 18))) :
    own_E p l e R s m args below meth c h 0 #[.val (.ref (A 22)), .unset] [] (.ref (A 18)) := by
  refine own_aloadN K (pc := 0) d2_0 rfl rfl ?_
  refine own_astoreN K (pc := 1) (Ls' := #[.val (.ref (A 22)), .val (.ref (A 22))]) d2_1 rfl rfl ?_
  exact r
theorem pm_22 (l : Launch) (Z : State) (a0 : Array Value) (h : Heap) (hw : ∀ d ∈ tables_1, d.before a0 Z = true) (A : Nat → Addr) (F : own_F Z h A)  : own_M l (⟨"com/example/locant/locant/AtomicType", "primitive", "()Lcom/example/locant/locant/AtomicType;"⟩ : MethodName) prog_12_method_9_code 2 (.object "com/example/locant/locant/AtomicType") [] { frames := 0, cells := 0, slots := 0, locals := 0 } Z h #[(.ref (A 22))] (.ref (A 18)) := by
  refine own_met pn_2 (Ls := #[.val (.ref (A 22)), .unset]) (fun m => by first | (simp [entryFrame, mkF, argsToLocals, Value.category, maxLocals]; done) | rfl) ?_
  intro p e s m below meth c K
  exact pb_22 p l e _ s m _ below meth c Z a0 h hw A F K (ps_22 p l e _ s m _ below meth c Z a0 h hw _ A F K)
set_option maxRecDepth 65536 in
theorem pb_23 (p : Program) (l : Launch) (e : Env) (R : Room) (s : State) (m : MethodId) (args : Array Value) (below : List Frame) (meth : Method) (c : Code) (Z : State) (a0 : Array Value) (h : Heap) (hw : ∀ d ∈ tables_1, d.before a0 Z = true) (A : Nat → Addr) (F : own_F Z h A) (K : own_C p s m meth c Z prog_12_method_9_code "com/example/locant/locant/AtomicType" (.object "com/example/locant/locant/AtomicType") 2) (r : own_E p l e R s m args below meth c h 2 #[.val (.ref (A 23)), .val (.ref (A 23))] [] (.ref (A 18))) :
    own_E p l e R s m args below meth c h 0 #[.val (.ref (A 23)), .unset] [] (.ref (A 18)) := by
  refine own_aloadN K (pc := 0) d2_0 rfl rfl ?_
  refine own_astoreN K (pc := 1) (Ls' := #[.val (.ref (A 23)), .val (.ref (A 23))]) d2_1 rfl rfl ?_
  exact r
theorem pm_23 (l : Launch) (Z : State) (a0 : Array Value) (h : Heap) (hw : ∀ d ∈ tables_1, d.before a0 Z = true) (A : Nat → Addr) (F : own_F Z h A)  : own_M l (⟨"com/example/locant/locant/AtomicType", "primitive", "()Lcom/example/locant/locant/AtomicType;"⟩ : MethodName) prog_12_method_9_code 2 (.object "com/example/locant/locant/AtomicType") [] { frames := 0, cells := 0, slots := 0, locals := 0 } Z h #[(.ref (A 23))] (.ref (A 18)) := by
  refine own_met pn_2 (Ls := #[.val (.ref (A 23)), .unset]) (fun m => by first | (simp [entryFrame, mkF, argsToLocals, Value.category, maxLocals]; done) | rfl) ?_
  intro p e s m below meth c K
  exact pb_23 p l e _ s m _ below meth c Z a0 h hw A F K (ps_23 p l e _ s m _ below meth c Z a0 h hw _ A F K)
set_option maxRecDepth 65536 in
theorem pb_24 (p : Program) (l : Launch) (e : Env) (R : Room) (s : State) (m : MethodId) (args : Array Value) (below : List Frame) (meth : Method) (c : Code) (Z : State) (a0 : Array Value) (h : Heap) (hw : ∀ d ∈ tables_1, d.before a0 Z = true) (A : Nat → Addr) (F : own_F Z h A) (K : own_C p s m meth c Z prog_12_method_9_code "com/example/locant/locant/AtomicType" (.object "com/example/locant/locant/AtomicType") 2) (r : own_E p l e R s m args below meth c h 2 #[.val (.ref (A 24)), .val (.ref (A 24))] [] (.ref (A 18))) :
    own_E p l e R s m args below meth c h 0 #[.val (.ref (A 24)), .unset] [] (.ref (A 18)) := by
  refine own_aloadN K (pc := 0) d2_0 rfl rfl ?_
  refine own_astoreN K (pc := 1) (Ls' := #[.val (.ref (A 24)), .val (.ref (A 24))]) d2_1 rfl rfl ?_
  exact r
theorem pm_24 (l : Launch) (Z : State) (a0 : Array Value) (h : Heap) (hw : ∀ d ∈ tables_1, d.before a0 Z = true) (A : Nat → Addr) (F : own_F Z h A)  : own_M l (⟨"com/example/locant/locant/AtomicType", "primitive", "()Lcom/example/locant/locant/AtomicType;"⟩ : MethodName) prog_12_method_9_code 2 (.object "com/example/locant/locant/AtomicType") [] { frames := 0, cells := 0, slots := 0, locals := 0 } Z h #[(.ref (A 24))] (.ref (A 18)) := by
  refine own_met pn_2 (Ls := #[.val (.ref (A 24)), .unset]) (fun m => by first | (simp [entryFrame, mkF, argsToLocals, Value.category, maxLocals]; done) | rfl) ?_
  intro p e s m below meth c K
  exact pb_24 p l e _ s m _ below meth c Z a0 h hw A F K (ps_24 p l e _ s m _ below meth c Z a0 h hw _ A F K)
set_option maxRecDepth 65536 in
theorem pb_25 (p : Program) (l : Launch) (e : Env) (R : Room) (s : State) (m : MethodId) (args : Array Value) (below : List Frame) (meth : Method) (c : Code) (Z : State) (a0 : Array Value) (h : Heap) (hw : ∀ d ∈ tables_1, d.before a0 Z = true) (A : Nat → Addr) (F : own_F Z h A) (K : own_C p s m meth c Z prog_12_method_9_code "com/example/locant/locant/AtomicType" (.object "com/example/locant/locant/AtomicType") 2) (r : own_E p l e R s m args below meth c h 2 #[.val (.ref (A 25)), .val (.ref (A 25))] [] (.ref (A 18))) :
    own_E p l e R s m args below meth c h 0 #[.val (.ref (A 25)), .unset] [] (.ref (A 18)) := by
  refine own_aloadN K (pc := 0) d2_0 rfl rfl ?_
  refine own_astoreN K (pc := 1) (Ls' := #[.val (.ref (A 25)), .val (.ref (A 25))]) d2_1 rfl rfl ?_
  exact r
theorem pm_25 (l : Launch) (Z : State) (a0 : Array Value) (h : Heap) (hw : ∀ d ∈ tables_1, d.before a0 Z = true) (A : Nat → Addr) (F : own_F Z h A)  : own_M l (⟨"com/example/locant/locant/AtomicType", "primitive", "()Lcom/example/locant/locant/AtomicType;"⟩ : MethodName) prog_12_method_9_code 2 (.object "com/example/locant/locant/AtomicType") [] { frames := 0, cells := 0, slots := 0, locals := 0 } Z h #[(.ref (A 25))] (.ref (A 18)) := by
  refine own_met pn_2 (Ls := #[.val (.ref (A 25)), .unset]) (fun m => by first | (simp [entryFrame, mkF, argsToLocals, Value.category, maxLocals]; done) | rfl) ?_
  intro p e s m below meth c K
  exact pb_25 p l e _ s m _ below meth c Z a0 h hw A F K (ps_25 p l e _ s m _ below meth c Z a0 h hw _ A F K)
set_option maxRecDepth 65536 in
theorem pb_26 (p : Program) (l : Launch) (e : Env) (R : Room) (s : State) (m : MethodId) (args : Array Value) (below : List Frame) (meth : Method) (c : Code) (Z : State) (a0 : Array Value) (h : Heap) (hw : ∀ d ∈ tables_1, d.before a0 Z = true) (A : Nat → Addr) (F : own_F Z h A) (K : own_C p s m meth c Z prog_12_method_9_code "com/example/locant/locant/AtomicType" (.object "com/example/locant/locant/AtomicType") 2) (r : own_E p l e R s m args below meth c h 2 #[.val (.ref (A 26)), .val (.ref (A 26))] [] (.ref (A 18))) :
    own_E p l e R s m args below meth c h 0 #[.val (.ref (A 26)), .unset] [] (.ref (A 18)) := by
  refine own_aloadN K (pc := 0) d2_0 rfl rfl ?_
  refine own_astoreN K (pc := 1) (Ls' := #[.val (.ref (A 26)), .val (.ref (A 26))]) d2_1 rfl rfl ?_
  exact r
theorem pm_26 (l : Launch) (Z : State) (a0 : Array Value) (h : Heap) (hw : ∀ d ∈ tables_1, d.before a0 Z = true) (A : Nat → Addr) (F : own_F Z h A)  : own_M l (⟨"com/example/locant/locant/AtomicType", "primitive", "()Lcom/example/locant/locant/AtomicType;"⟩ : MethodName) prog_12_method_9_code 2 (.object "com/example/locant/locant/AtomicType") [] { frames := 0, cells := 0, slots := 0, locals := 0 } Z h #[(.ref (A 26))] (.ref (A 18)) := by
  refine own_met pn_2 (Ls := #[.val (.ref (A 26)), .unset]) (fun m => by first | (simp [entryFrame, mkF, argsToLocals, Value.category, maxLocals]; done) | rfl) ?_
  intro p e s m below meth c K
  exact pb_26 p l e _ s m _ below meth c Z a0 h hw A F K (ps_26 p l e _ s m _ below meth c Z a0 h hw _ A F K)
set_option maxRecDepth 65536 in
theorem pb_27 (p : Program) (l : Launch) (e : Env) (R : Room) (s : State) (m : MethodId) (args : Array Value) (below : List Frame) (meth : Method) (c : Code) (Z : State) (a0 : Array Value) (h : Heap) (hw : ∀ d ∈ tables_1, d.before a0 Z = true) (A : Nat → Addr) (F : own_F Z h A) (K : own_C p s m meth c Z prog_12_method_9_code "com/example/locant/locant/AtomicType" (.object "com/example/locant/locant/AtomicType") 2) (r : own_E p l e R s m args below meth c h 2 #[.val (.ref (A 27)), .val (.ref (A 27))] [] (.ref (A 18))) :
    own_E p l e R s m args below meth c h 0 #[.val (.ref (A 27)), .unset] [] (.ref (A 18)) := by
  refine own_aloadN K (pc := 0) d2_0 rfl rfl ?_
  refine own_astoreN K (pc := 1) (Ls' := #[.val (.ref (A 27)), .val (.ref (A 27))]) d2_1 rfl rfl ?_
  exact r
theorem pm_27 (l : Launch) (Z : State) (a0 : Array Value) (h : Heap) (hw : ∀ d ∈ tables_1, d.before a0 Z = true) (A : Nat → Addr) (F : own_F Z h A)  : own_M l (⟨"com/example/locant/locant/AtomicType", "primitive", "()Lcom/example/locant/locant/AtomicType;"⟩ : MethodName) prog_12_method_9_code 2 (.object "com/example/locant/locant/AtomicType") [] { frames := 0, cells := 0, slots := 0, locals := 0 } Z h #[(.ref (A 27))] (.ref (A 18)) := by
  refine own_met pn_2 (Ls := #[.val (.ref (A 27)), .unset]) (fun m => by first | (simp [entryFrame, mkF, argsToLocals, Value.category, maxLocals]; done) | rfl) ?_
  intro p e s m below meth c K
  exact pb_27 p l e _ s m _ below meth c Z a0 h hw A F K (ps_27 p l e _ s m _ below meth c Z a0 h hw _ A F K)
set_option maxRecDepth 65536 in
theorem pb_28 (p : Program) (l : Launch) (e : Env) (R : Room) (s : State) (m : MethodId) (args : Array Value) (below : List Frame) (meth : Method) (c : Code) (Z : State) (a0 : Array Value) (h : Heap) (hw : ∀ d ∈ tables_1, d.before a0 Z = true) (A : Nat → Addr) (F : own_F Z h A) (K : own_C p s m meth c Z prog_12_method_9_code "com/example/locant/locant/AtomicType" (.object "com/example/locant/locant/AtomicType") 2) (r : own_E p l e R s m args below meth c h 2 #[.val (.ref (A 28)), .val (.ref (A 28))] [] (.ref (A 18))) :
    own_E p l e R s m args below meth c h 0 #[.val (.ref (A 28)), .unset] [] (.ref (A 18)) := by
  refine own_aloadN K (pc := 0) d2_0 rfl rfl ?_
  refine own_astoreN K (pc := 1) (Ls' := #[.val (.ref (A 28)), .val (.ref (A 28))]) d2_1 rfl rfl ?_
  exact r
theorem pm_28 (l : Launch) (Z : State) (a0 : Array Value) (h : Heap) (hw : ∀ d ∈ tables_1, d.before a0 Z = true) (A : Nat → Addr) (F : own_F Z h A)  : own_M l (⟨"com/example/locant/locant/AtomicType", "primitive", "()Lcom/example/locant/locant/AtomicType;"⟩ : MethodName) prog_12_method_9_code 2 (.object "com/example/locant/locant/AtomicType") [] { frames := 0, cells := 0, slots := 0, locals := 0 } Z h #[(.ref (A 28))] (.ref (A 18)) := by
  refine own_met pn_2 (Ls := #[.val (.ref (A 28)), .unset]) (fun m => by first | (simp [entryFrame, mkF, argsToLocals, Value.category, maxLocals]; done) | rfl) ?_
  intro p e s m below meth c K
  exact pb_28 p l e _ s m _ below meth c Z a0 h hw A F K (ps_28 p l e _ s m _ below meth c Z a0 h hw _ A F K)
set_option maxRecDepth 65536 in
theorem pb_29 (p : Program) (l : Launch) (e : Env) (R : Room) (s : State) (m : MethodId) (args : Array Value) (below : List Frame) (meth : Method) (c : Code) (Z : State) (a0 : Array Value) (h : Heap) (hw : ∀ d ∈ tables_1, d.before a0 Z = true) (A : Nat → Addr) (F : own_F Z h A) (K : own_C p s m meth c Z prog_12_method_9_code "com/example/locant/locant/AtomicType" (.object "com/example/locant/locant/AtomicType") 2) (r : own_E p l e R s m args below meth c h 2 #[.val (.ref (A 29)), .val (.ref (A 29))] [] (.ref (A 18))) :
    own_E p l e R s m args below meth c h 0 #[.val (.ref (A 29)), .unset] [] (.ref (A 18)) := by
  refine own_aloadN K (pc := 0) d2_0 rfl rfl ?_
  refine own_astoreN K (pc := 1) (Ls' := #[.val (.ref (A 29)), .val (.ref (A 29))]) d2_1 rfl rfl ?_
  exact r
theorem pm_29 (l : Launch) (Z : State) (a0 : Array Value) (h : Heap) (hw : ∀ d ∈ tables_1, d.before a0 Z = true) (A : Nat → Addr) (F : own_F Z h A)  : own_M l (⟨"com/example/locant/locant/AtomicType", "primitive", "()Lcom/example/locant/locant/AtomicType;"⟩ : MethodName) prog_12_method_9_code 2 (.object "com/example/locant/locant/AtomicType") [] { frames := 0, cells := 0, slots := 0, locals := 0 } Z h #[(.ref (A 29))] (.ref (A 18)) := by
  refine own_met pn_2 (Ls := #[.val (.ref (A 29)), .unset]) (fun m => by first | (simp [entryFrame, mkF, argsToLocals, Value.category, maxLocals]; done) | rfl) ?_
  intro p e s m below meth c K
  exact pb_29 p l e _ s m _ below meth c Z a0 h hw A F K (ps_29 p l e _ s m _ below meth c Z a0 h hw _ A F K)
set_option maxRecDepth 65536 in
theorem pb_30 (p : Program) (l : Launch) (e : Env) (R : Room) (s : State) (m : MethodId) (args : Array Value) (below : List Frame) (meth : Method) (c : Code) (Z : State) (a0 : Array Value) (h : Heap) (hw : ∀ d ∈ tables_1, d.before a0 Z = true) (A : Nat → Addr) (F : own_F Z h A) (K : own_C p s m meth c Z prog_12_method_9_code "com/example/locant/locant/AtomicType" (.object "com/example/locant/locant/AtomicType") 2) (r : own_E p l e R s m args below meth c h 2 #[.val (.ref (A 30)), .val (.ref (A 30))] [] (.ref (A 18))) :
    own_E p l e R s m args below meth c h 0 #[.val (.ref (A 30)), .unset] [] (.ref (A 18)) := by
  refine own_aloadN K (pc := 0) d2_0 rfl rfl ?_
  refine own_astoreN K (pc := 1) (Ls' := #[.val (.ref (A 30)), .val (.ref (A 30))]) d2_1 rfl rfl ?_
  exact r
theorem pm_30 (l : Launch) (Z : State) (a0 : Array Value) (h : Heap) (hw : ∀ d ∈ tables_1, d.before a0 Z = true) (A : Nat → Addr) (F : own_F Z h A)  : own_M l (⟨"com/example/locant/locant/AtomicType", "primitive", "()Lcom/example/locant/locant/AtomicType;"⟩ : MethodName) prog_12_method_9_code 2 (.object "com/example/locant/locant/AtomicType") [] { frames := 0, cells := 0, slots := 0, locals := 0 } Z h #[(.ref (A 30))] (.ref (A 18)) := by
  refine own_met pn_2 (Ls := #[.val (.ref (A 30)), .unset]) (fun m => by first | (simp [entryFrame, mkF, argsToLocals, Value.category, maxLocals]; done) | rfl) ?_
  intro p e s m below meth c K
  exact pb_30 p l e _ s m _ below meth c Z a0 h hw A F K (ps_30 p l e _ s m _ below meth c Z a0 h hw _ A F K)
set_option maxRecDepth 65536 in
theorem pb_31 (p : Program) (l : Launch) (e : Env) (R : Room) (s : State) (m : MethodId) (args : Array Value) (below : List Frame) (meth : Method) (c : Code) (Z : State) (a0 : Array Value) (h : Heap) (hw : ∀ d ∈ tables_1, d.before a0 Z = true) (A : Nat → Addr) (F : own_F Z h A) (K : own_C p s m meth c Z prog_12_method_9_code "com/example/locant/locant/AtomicType" (.object "com/example/locant/locant/AtomicType") 2) (r : own_E p l e R s m args below meth c h 2 #[.val (.ref (A 31)), .val (.ref (A 31))] [] (.ref (A 18))) :
    own_E p l e R s m args below meth c h 0 #[.val (.ref (A 31)), .unset] [] (.ref (A 18)) := by
  refine own_aloadN K (pc := 0) d2_0 rfl rfl ?_
  refine own_astoreN K (pc := 1) (Ls' := #[.val (.ref (A 31)), .val (.ref (A 31))]) d2_1 rfl rfl ?_
  exact r
theorem pm_31 (l : Launch) (Z : State) (a0 : Array Value) (h : Heap) (hw : ∀ d ∈ tables_1, d.before a0 Z = true) (A : Nat → Addr) (F : own_F Z h A)  : own_M l (⟨"com/example/locant/locant/AtomicType", "primitive", "()Lcom/example/locant/locant/AtomicType;"⟩ : MethodName) prog_12_method_9_code 2 (.object "com/example/locant/locant/AtomicType") [] { frames := 0, cells := 0, slots := 0, locals := 0 } Z h #[(.ref (A 31))] (.ref (A 18)) := by
  refine own_met pn_2 (Ls := #[.val (.ref (A 31)), .unset]) (fun m => by first | (simp [entryFrame, mkF, argsToLocals, Value.category, maxLocals]; done) | rfl) ?_
  intro p e s m below meth c K
  exact pb_31 p l e _ s m _ below meth c Z a0 h hw A F K (ps_31 p l e _ s m _ below meth c Z a0 h hw _ A F K)
set_option maxRecDepth 65536 in
theorem lt_0 (p : Program) (l : Launch) (e : Env) (s : State) (m : MethodId) (args : Array Value) (below : List Frame) (meth : Method) (c : Code) (Z : State) (a0 : Array Value) (h : Heap) (hw : ∀ d ∈ tables_1, d.before a0 Z = true) (k : Int32) (A : Nat → Addr) (F : own_F Z h A) (K : own_C p s m meth c Z code "com/example/locant/locant/AtomicTypePrimitivePinLaw" .boolean 4) :
    own_E p l e room_1 s m args below meth c h 5 #[.val (.int k), .val (.int (0 : Int32)), .unset, .unset] [] (.int 1) := by
  refine own_iloadN K (pc := 5) at_5 rfl ?_
  refine own_callS K (pc := 6) (W := 0) (rest := []) (argsL := [(.int (0 : Int32))]) (u := (.ref (A 0))) (pk_0 l Z a0 h hw A F) (hw _ (List.mem_of_getElem? (i := 0) rfl)) (hw _ (List.mem_of_getElem? (i := 1) rfl)) (hw _ (List.mem_of_getElem? (i := 2) rfl)) (hw _ (List.mem_of_getElem? (i := 3) rfl)) (by decide) at_6 pd_1 rfl rfl rfl (Nat.le_of_eq rfl) (by decide) (by decide) ?_
  refine own_astoreN K (pc := 9) (Ls' := #[.val (.int k), .val (.int (0 : Int32)), .val (.ref (A 0)), .unset]) at_9 rfl rfl ?_
  refine own_iloadN K (pc := 10) at_10 rfl ?_
  refine own_iconst K (pc := 11) at_11 (x := (2 : Int32)) (by decide) ?_
  refine own_icmpN K (pc := 12) at_12 (by decide) ?_
  refine own_aloadN K (pc := 15) at_15 rfl rfl ?_
  refine own_astoreN K (pc := 16) (Ls' := #[.val (.int k), .val (.int (0 : Int32)), .val (.ref (A 0)), .val (.ref (A 0))]) at_16 rfl rfl ?_
  refine own_goto K (pc := 17) (pc' := 48) at_17 (by decide) (by decide) ?_
  refine own_aloadN K (pc := 48) at_48 rfl rfl ?_
  refine own_callV K (pc := 49) (W := 0) (rest := []) (argsL := []) (u := (.ref (A 0))) (pm_0 l Z a0 h hw A F) F.1.2.1 (hw _ (List.mem_of_getElem? (i := 7) rfl)) (hw _ (List.mem_of_getElem? (i := 8) rfl)) (hw _ (List.mem_of_getElem? (i := 10) rfl)) (hw _ (List.mem_of_getElem? (i := 9) rfl)) (hw _ (List.mem_of_getElem? (i := 11) rfl)) (hw _ (List.mem_of_getElem? (i := 5) rfl)) (by decide) at_49 pd_2 rfl rfl rfl (Nat.le_of_eq rfl) (by decide) (by decide) ?_
  refine own_aloadN K (pc := 52) at_52 rfl rfl ?_
  refine own_acmp K (pc := 53) (pc' := 56) (same := true) at_53 (decide_eq_true rfl) (by decide) (by decide) ?_
  refine own_iconst K (pc := 56) at_56 (x := (1 : Int32)) (by decide) ?_
  refine own_goto K (pc := 57) (pc' := 61) at_57 (by decide) (by decide) ?_
  exact own_retZ K (pc := 61) at_61 (by decide)
set_option maxRecDepth 65536 in
theorem lt_1 (p : Program) (l : Launch) (e : Env) (s : State) (m : MethodId) (args : Array Value) (below : List Frame) (meth : Method) (c : Code) (Z : State) (a0 : Array Value) (h : Heap) (hw : ∀ d ∈ tables_1, d.before a0 Z = true) (k : Int32) (A : Nat → Addr) (F : own_F Z h A) (K : own_C p s m meth c Z code "com/example/locant/locant/AtomicTypePrimitivePinLaw" .boolean 4) :
    own_E p l e room_1 s m args below meth c h 5 #[.val (.int k), .val (.int (1 : Int32)), .unset, .unset] [] (.int 1) := by
  refine own_iloadN K (pc := 5) at_5 rfl ?_
  refine own_callS K (pc := 6) (W := 0) (rest := []) (argsL := [(.int (1 : Int32))]) (u := (.ref (A 1))) (pk_1 l Z a0 h hw A F) (hw _ (List.mem_of_getElem? (i := 0) rfl)) (hw _ (List.mem_of_getElem? (i := 1) rfl)) (hw _ (List.mem_of_getElem? (i := 2) rfl)) (hw _ (List.mem_of_getElem? (i := 3) rfl)) (by decide) at_6 pd_1 rfl rfl rfl (Nat.le_of_eq rfl) (by decide) (by decide) ?_
  refine own_astoreN K (pc := 9) (Ls' := #[.val (.int k), .val (.int (1 : Int32)), .val (.ref (A 1)), .unset]) at_9 rfl rfl ?_
  refine own_iloadN K (pc := 10) at_10 rfl ?_
  refine own_iconst K (pc := 11) at_11 (x := (2 : Int32)) (by decide) ?_
  refine own_icmpN K (pc := 12) at_12 (by decide) ?_
  refine own_aloadN K (pc := 15) at_15 rfl rfl ?_
  refine own_astoreN K (pc := 16) (Ls' := #[.val (.int k), .val (.int (1 : Int32)), .val (.ref (A 1)), .val (.ref (A 1))]) at_16 rfl rfl ?_
  refine own_goto K (pc := 17) (pc' := 48) at_17 (by decide) (by decide) ?_
  refine own_aloadN K (pc := 48) at_48 rfl rfl ?_
  refine own_callV K (pc := 49) (W := 0) (rest := []) (argsL := []) (u := (.ref (A 1))) (pm_1 l Z a0 h hw A F) F.1.2.2.2.1 (hw _ (List.mem_of_getElem? (i := 7) rfl)) (hw _ (List.mem_of_getElem? (i := 8) rfl)) (hw _ (List.mem_of_getElem? (i := 10) rfl)) (hw _ (List.mem_of_getElem? (i := 9) rfl)) (hw _ (List.mem_of_getElem? (i := 11) rfl)) (hw _ (List.mem_of_getElem? (i := 5) rfl)) (by decide) at_49 pd_2 rfl rfl rfl (Nat.le_of_eq rfl) (by decide) (by decide) ?_
  refine own_aloadN K (pc := 52) at_52 rfl rfl ?_
  refine own_acmp K (pc := 53) (pc' := 56) (same := true) at_53 (decide_eq_true rfl) (by decide) (by decide) ?_
  refine own_iconst K (pc := 56) at_56 (x := (1 : Int32)) (by decide) ?_
  refine own_goto K (pc := 57) (pc' := 61) at_57 (by decide) (by decide) ?_
  exact own_retZ K (pc := 61) at_61 (by decide)
set_option maxRecDepth 65536 in
theorem lt_2 (p : Program) (l : Launch) (e : Env) (s : State) (m : MethodId) (args : Array Value) (below : List Frame) (meth : Method) (c : Code) (Z : State) (a0 : Array Value) (h : Heap) (hw : ∀ d ∈ tables_1, d.before a0 Z = true) (k : Int32) (A : Nat → Addr) (F : own_F Z h A) (K : own_C p s m meth c Z code "com/example/locant/locant/AtomicTypePrimitivePinLaw" .boolean 4) :
    own_E p l e room_1 s m args below meth c h 5 #[.val (.int k), .val (.int (2 : Int32)), .unset, .unset] [] (.int 1) := by
  refine own_iloadN K (pc := 5) at_5 rfl ?_
  refine own_callS K (pc := 6) (W := 0) (rest := []) (argsL := [(.int (2 : Int32))]) (u := (.ref (A 2))) (pk_2 l Z a0 h hw A F) (hw _ (List.mem_of_getElem? (i := 0) rfl)) (hw _ (List.mem_of_getElem? (i := 1) rfl)) (hw _ (List.mem_of_getElem? (i := 2) rfl)) (hw _ (List.mem_of_getElem? (i := 3) rfl)) (by decide) at_6 pd_1 rfl rfl rfl (Nat.le_of_eq rfl) (by decide) (by decide) ?_
  refine own_astoreN K (pc := 9) (Ls' := #[.val (.int k), .val (.int (2 : Int32)), .val (.ref (A 2)), .unset]) at_9 rfl rfl ?_
  refine own_iloadN K (pc := 10) at_10 rfl ?_
  refine own_iconst K (pc := 11) at_11 (x := (2 : Int32)) (by decide) ?_
  refine own_icmpN K (pc := 12) at_12 (by decide) ?_
  refine own_aloadN K (pc := 15) at_15 rfl rfl ?_
  refine own_astoreN K (pc := 16) (Ls' := #[.val (.int k), .val (.int (2 : Int32)), .val (.ref (A 2)), .val (.ref (A 2))]) at_16 rfl rfl ?_
  refine own_goto K (pc := 17) (pc' := 48) at_17 (by decide) (by decide) ?_
  refine own_aloadN K (pc := 48) at_48 rfl rfl ?_
  refine own_callV K (pc := 49) (W := 0) (rest := []) (argsL := []) (u := (.ref (A 2))) (pm_2 l Z a0 h hw A F) F.1.2.2.2.2.2.1 (hw _ (List.mem_of_getElem? (i := 7) rfl)) (hw _ (List.mem_of_getElem? (i := 8) rfl)) (hw _ (List.mem_of_getElem? (i := 10) rfl)) (hw _ (List.mem_of_getElem? (i := 9) rfl)) (hw _ (List.mem_of_getElem? (i := 11) rfl)) (hw _ (List.mem_of_getElem? (i := 5) rfl)) (by decide) at_49 pd_2 rfl rfl rfl (Nat.le_of_eq rfl) (by decide) (by decide) ?_
  refine own_aloadN K (pc := 52) at_52 rfl rfl ?_
  refine own_acmp K (pc := 53) (pc' := 56) (same := true) at_53 (decide_eq_true rfl) (by decide) (by decide) ?_
  refine own_iconst K (pc := 56) at_56 (x := (1 : Int32)) (by decide) ?_
  refine own_goto K (pc := 57) (pc' := 61) at_57 (by decide) (by decide) ?_
  exact own_retZ K (pc := 61) at_61 (by decide)
set_option maxRecDepth 65536 in
theorem lt_3 (p : Program) (l : Launch) (e : Env) (s : State) (m : MethodId) (args : Array Value) (below : List Frame) (meth : Method) (c : Code) (Z : State) (a0 : Array Value) (h : Heap) (hw : ∀ d ∈ tables_1, d.before a0 Z = true) (k : Int32) (A : Nat → Addr) (F : own_F Z h A) (K : own_C p s m meth c Z code "com/example/locant/locant/AtomicTypePrimitivePinLaw" .boolean 4) :
    own_E p l e room_1 s m args below meth c h 5 #[.val (.int k), .val (.int (3 : Int32)), .unset, .unset] [] (.int 1) := by
  refine own_iloadN K (pc := 5) at_5 rfl ?_
  refine own_callS K (pc := 6) (W := 0) (rest := []) (argsL := [(.int (3 : Int32))]) (u := (.ref (A 3))) (pk_3 l Z a0 h hw A F) (hw _ (List.mem_of_getElem? (i := 0) rfl)) (hw _ (List.mem_of_getElem? (i := 1) rfl)) (hw _ (List.mem_of_getElem? (i := 2) rfl)) (hw _ (List.mem_of_getElem? (i := 3) rfl)) (by decide) at_6 pd_1 rfl rfl rfl (Nat.le_of_eq rfl) (by decide) (by decide) ?_
  refine own_astoreN K (pc := 9) (Ls' := #[.val (.int k), .val (.int (3 : Int32)), .val (.ref (A 3)), .unset]) at_9 rfl rfl ?_
  refine own_iloadN K (pc := 10) at_10 rfl ?_
  refine own_iconst K (pc := 11) at_11 (x := (2 : Int32)) (by decide) ?_
  refine own_icmpY K (pc := 12) (pc' := 20) at_12 (by decide) (by decide) (by decide) ?_
  refine own_iloadN K (pc := 20) at_20 rfl ?_
  refine own_bipush K (pc := 21) at_21 (x := (11 : Int32)) (by decide) ?_
  refine own_icmpN K (pc := 23) at_23 (by decide) ?_
  refine own_getS K (pc := 26) (hw _ (List.mem_of_getElem? (i := 16) rfl)) F.1.2.2.2.2.1 at_26 ?_
  refine own_astoreN K (pc := 29) (Ls' := #[.val (.int k), .val (.int (3 : Int32)), .val (.ref (A 3)), .val (.ref (A 2))]) at_29 rfl rfl ?_
  refine own_goto K (pc := 30) (pc' := 48) at_30 (by decide) (by decide) ?_
  refine own_aloadN K (pc := 48) at_48 rfl rfl ?_
  refine own_callV K (pc := 49) (W := 0) (rest := []) (argsL := []) (u := (.ref (A 2))) (pm_3 l Z a0 h hw A F) F.1.2.2.2.2.2.2.2.1 (hw _ (List.mem_of_getElem? (i := 7) rfl)) (hw _ (List.mem_of_getElem? (i := 8) rfl)) (hw _ (List.mem_of_getElem? (i := 10) rfl)) (hw _ (List.mem_of_getElem? (i := 9) rfl)) (hw _ (List.mem_of_getElem? (i := 11) rfl)) (hw _ (List.mem_of_getElem? (i := 5) rfl)) (by decide) at_49 pd_2 rfl rfl rfl (Nat.le_of_eq rfl) (by decide) (by decide) ?_
  refine own_aloadN K (pc := 52) at_52 rfl rfl ?_
  refine own_acmp K (pc := 53) (pc' := 56) (same := true) at_53 (decide_eq_true rfl) (by decide) (by decide) ?_
  refine own_iconst K (pc := 56) at_56 (x := (1 : Int32)) (by decide) ?_
  refine own_goto K (pc := 57) (pc' := 61) at_57 (by decide) (by decide) ?_
  exact own_retZ K (pc := 61) at_61 (by decide)
set_option maxRecDepth 65536 in
theorem lt_4 (p : Program) (l : Launch) (e : Env) (s : State) (m : MethodId) (args : Array Value) (below : List Frame) (meth : Method) (c : Code) (Z : State) (a0 : Array Value) (h : Heap) (hw : ∀ d ∈ tables_1, d.before a0 Z = true) (k : Int32) (A : Nat → Addr) (F : own_F Z h A) (K : own_C p s m meth c Z code "com/example/locant/locant/AtomicTypePrimitivePinLaw" .boolean 4) :
    own_E p l e room_1 s m args below meth c h 5 #[.val (.int k), .val (.int (4 : Int32)), .unset, .unset] [] (.int 1) := by
  refine own_iloadN K (pc := 5) at_5 rfl ?_
  refine own_callS K (pc := 6) (W := 0) (rest := []) (argsL := [(.int (4 : Int32))]) (u := (.ref (A 4))) (pk_4 l Z a0 h hw A F) (hw _ (List.mem_of_getElem? (i := 0) rfl)) (hw _ (List.mem_of_getElem? (i := 1) rfl)) (hw _ (List.mem_of_getElem? (i := 2) rfl)) (hw _ (List.mem_of_getElem? (i := 3) rfl)) (by decide) at_6 pd_1 rfl rfl rfl (Nat.le_of_eq rfl) (by decide) (by decide) ?_
  refine own_astoreN K (pc := 9) (Ls' := #[.val (.int k), .val (.int (4 : Int32)), .val (.ref (A 4)), .unset]) at_9 rfl rfl ?_
  refine own_iloadN K (pc := 10) at_10 rfl ?_
  refine own_iconst K (pc := 11) at_11 (x := (2 : Int32)) (by decide) ?_
  refine own_icmpY K (pc := 12) (pc' := 20) at_12 (by decide) (by decide) (by decide) ?_
  refine own_iloadN K (pc := 20) at_20 rfl ?_
  refine own_bipush K (pc := 21) at_21 (x := (11 : Int32)) (by decide) ?_
  refine own_icmpN K (pc := 23) at_23 (by decide) ?_
  refine own_getS K (pc := 26) (hw _ (List.mem_of_getElem? (i := 16) rfl)) F.1.2.2.2.2.1 at_26 ?_
  refine own_astoreN K (pc := 29) (Ls' := #[.val (.int k), .val (.int (4 : Int32)), .val (.ref (A 4)), .val (.ref (A 2))]) at_29 rfl rfl ?_
  refine own_goto K (pc := 30) (pc' := 48) at_30 (by decide) (by decide) ?_
  refine own_aloadN K (pc := 48) at_48 rfl rfl ?_
  refine own_callV K (pc := 49) (W := 0) (rest := []) (argsL := []) (u := (.ref (A 2))) (pm_4 l Z a0 h hw A F) F.1.2.2.2.2.2.2.2.2.2.1 (hw _ (List.mem_of_getElem? (i := 7) rfl)) (hw _ (List.mem_of_getElem? (i := 8) rfl)) (hw _ (List.mem_of_getElem? (i := 10) rfl)) (hw _ (List.mem_of_getElem? (i := 9) rfl)) (hw _ (List.mem_of_getElem? (i := 11) rfl)) (hw _ (List.mem_of_getElem? (i := 5) rfl)) (by decide) at_49 pd_2 rfl rfl rfl (Nat.le_of_eq rfl) (by decide) (by decide) ?_
  refine own_aloadN K (pc := 52) at_52 rfl rfl ?_
  refine own_acmp K (pc := 53) (pc' := 56) (same := true) at_53 (decide_eq_true rfl) (by decide) (by decide) ?_
  refine own_iconst K (pc := 56) at_56 (x := (1 : Int32)) (by decide) ?_
  refine own_goto K (pc := 57) (pc' := 61) at_57 (by decide) (by decide) ?_
  exact own_retZ K (pc := 61) at_61 (by decide)
set_option maxRecDepth 65536 in
theorem lt_5 (p : Program) (l : Launch) (e : Env) (s : State) (m : MethodId) (args : Array Value) (below : List Frame) (meth : Method) (c : Code) (Z : State) (a0 : Array Value) (h : Heap) (hw : ∀ d ∈ tables_1, d.before a0 Z = true) (k : Int32) (A : Nat → Addr) (F : own_F Z h A) (K : own_C p s m meth c Z code "com/example/locant/locant/AtomicTypePrimitivePinLaw" .boolean 4) :
    own_E p l e room_1 s m args below meth c h 5 #[.val (.int k), .val (.int (5 : Int32)), .unset, .unset] [] (.int 1) := by
  refine own_iloadN K (pc := 5) at_5 rfl ?_
  refine own_callS K (pc := 6) (W := 0) (rest := []) (argsL := [(.int (5 : Int32))]) (u := (.ref (A 5))) (pk_5 l Z a0 h hw A F) (hw _ (List.mem_of_getElem? (i := 0) rfl)) (hw _ (List.mem_of_getElem? (i := 1) rfl)) (hw _ (List.mem_of_getElem? (i := 2) rfl)) (hw _ (List.mem_of_getElem? (i := 3) rfl)) (by decide) at_6 pd_1 rfl rfl rfl (Nat.le_of_eq rfl) (by decide) (by decide) ?_
  refine own_astoreN K (pc := 9) (Ls' := #[.val (.int k), .val (.int (5 : Int32)), .val (.ref (A 5)), .unset]) at_9 rfl rfl ?_
  refine own_iloadN K (pc := 10) at_10 rfl ?_
  refine own_iconst K (pc := 11) at_11 (x := (2 : Int32)) (by decide) ?_
  refine own_icmpY K (pc := 12) (pc' := 20) at_12 (by decide) (by decide) (by decide) ?_
  refine own_iloadN K (pc := 20) at_20 rfl ?_
  refine own_bipush K (pc := 21) at_21 (x := (11 : Int32)) (by decide) ?_
  refine own_icmpN K (pc := 23) at_23 (by decide) ?_
  refine own_getS K (pc := 26) (hw _ (List.mem_of_getElem? (i := 16) rfl)) F.1.2.2.2.2.1 at_26 ?_
  refine own_astoreN K (pc := 29) (Ls' := #[.val (.int k), .val (.int (5 : Int32)), .val (.ref (A 5)), .val (.ref (A 2))]) at_29 rfl rfl ?_
  refine own_goto K (pc := 30) (pc' := 48) at_30 (by decide) (by decide) ?_
  refine own_aloadN K (pc := 48) at_48 rfl rfl ?_
  refine own_callV K (pc := 49) (W := 0) (rest := []) (argsL := []) (u := (.ref (A 2))) (pm_5 l Z a0 h hw A F) F.1.2.2.2.2.2.2.2.2.2.2.2.1 (hw _ (List.mem_of_getElem? (i := 7) rfl)) (hw _ (List.mem_of_getElem? (i := 8) rfl)) (hw _ (List.mem_of_getElem? (i := 10) rfl)) (hw _ (List.mem_of_getElem? (i := 9) rfl)) (hw _ (List.mem_of_getElem? (i := 11) rfl)) (hw _ (List.mem_of_getElem? (i := 5) rfl)) (by decide) at_49 pd_2 rfl rfl rfl (Nat.le_of_eq rfl) (by decide) (by decide) ?_
  refine own_aloadN K (pc := 52) at_52 rfl rfl ?_
  refine own_acmp K (pc := 53) (pc' := 56) (same := true) at_53 (decide_eq_true rfl) (by decide) (by decide) ?_
  refine own_iconst K (pc := 56) at_56 (x := (1 : Int32)) (by decide) ?_
  refine own_goto K (pc := 57) (pc' := 61) at_57 (by decide) (by decide) ?_
  exact own_retZ K (pc := 61) at_61 (by decide)
set_option maxRecDepth 65536 in
theorem lt_6 (p : Program) (l : Launch) (e : Env) (s : State) (m : MethodId) (args : Array Value) (below : List Frame) (meth : Method) (c : Code) (Z : State) (a0 : Array Value) (h : Heap) (hw : ∀ d ∈ tables_1, d.before a0 Z = true) (k : Int32) (A : Nat → Addr) (F : own_F Z h A) (K : own_C p s m meth c Z code "com/example/locant/locant/AtomicTypePrimitivePinLaw" .boolean 4) :
    own_E p l e room_1 s m args below meth c h 5 #[.val (.int k), .val (.int (6 : Int32)), .unset, .unset] [] (.int 1) := by
  refine own_iloadN K (pc := 5) at_5 rfl ?_
  refine own_callS K (pc := 6) (W := 0) (rest := []) (argsL := [(.int (6 : Int32))]) (u := (.ref (A 6))) (pk_6 l Z a0 h hw A F) (hw _ (List.mem_of_getElem? (i := 0) rfl)) (hw _ (List.mem_of_getElem? (i := 1) rfl)) (hw _ (List.mem_of_getElem? (i := 2) rfl)) (hw _ (List.mem_of_getElem? (i := 3) rfl)) (by decide) at_6 pd_1 rfl rfl rfl (Nat.le_of_eq rfl) (by decide) (by decide) ?_
  refine own_astoreN K (pc := 9) (Ls' := #[.val (.int k), .val (.int (6 : Int32)), .val (.ref (A 6)), .unset]) at_9 rfl rfl ?_
  refine own_iloadN K (pc := 10) at_10 rfl ?_
  refine own_iconst K (pc := 11) at_11 (x := (2 : Int32)) (by decide) ?_
  refine own_icmpY K (pc := 12) (pc' := 20) at_12 (by decide) (by decide) (by decide) ?_
  refine own_iloadN K (pc := 20) at_20 rfl ?_
  refine own_bipush K (pc := 21) at_21 (x := (11 : Int32)) (by decide) ?_
  refine own_icmpN K (pc := 23) at_23 (by decide) ?_
  refine own_getS K (pc := 26) (hw _ (List.mem_of_getElem? (i := 16) rfl)) F.1.2.2.2.2.1 at_26 ?_
  refine own_astoreN K (pc := 29) (Ls' := #[.val (.int k), .val (.int (6 : Int32)), .val (.ref (A 6)), .val (.ref (A 2))]) at_29 rfl rfl ?_
  refine own_goto K (pc := 30) (pc' := 48) at_30 (by decide) (by decide) ?_
  refine own_aloadN K (pc := 48) at_48 rfl rfl ?_
  refine own_callV K (pc := 49) (W := 0) (rest := []) (argsL := []) (u := (.ref (A 2))) (pm_6 l Z a0 h hw A F) F.1.2.2.2.2.2.2.2.2.2.2.2.2.2.1 (hw _ (List.mem_of_getElem? (i := 7) rfl)) (hw _ (List.mem_of_getElem? (i := 8) rfl)) (hw _ (List.mem_of_getElem? (i := 10) rfl)) (hw _ (List.mem_of_getElem? (i := 9) rfl)) (hw _ (List.mem_of_getElem? (i := 11) rfl)) (hw _ (List.mem_of_getElem? (i := 5) rfl)) (by decide) at_49 pd_2 rfl rfl rfl (Nat.le_of_eq rfl) (by decide) (by decide) ?_
  refine own_aloadN K (pc := 52) at_52 rfl rfl ?_
  refine own_acmp K (pc := 53) (pc' := 56) (same := true) at_53 (decide_eq_true rfl) (by decide) (by decide) ?_
  refine own_iconst K (pc := 56) at_56 (x := (1 : Int32)) (by decide) ?_
  refine own_goto K (pc := 57) (pc' := 61) at_57 (by decide) (by decide) ?_
  exact own_retZ K (pc := 61) at_61 (by decide)
set_option maxRecDepth 65536 in
theorem lt_7 (p : Program) (l : Launch) (e : Env) (s : State) (m : MethodId) (args : Array Value) (below : List Frame) (meth : Method) (c : Code) (Z : State) (a0 : Array Value) (h : Heap) (hw : ∀ d ∈ tables_1, d.before a0 Z = true) (k : Int32) (A : Nat → Addr) (F : own_F Z h A) (K : own_C p s m meth c Z code "com/example/locant/locant/AtomicTypePrimitivePinLaw" .boolean 4) :
    own_E p l e room_1 s m args below meth c h 5 #[.val (.int k), .val (.int (7 : Int32)), .unset, .unset] [] (.int 1) := by
  refine own_iloadN K (pc := 5) at_5 rfl ?_
  refine own_callS K (pc := 6) (W := 0) (rest := []) (argsL := [(.int (7 : Int32))]) (u := (.ref (A 7))) (pk_7 l Z a0 h hw A F) (hw _ (List.mem_of_getElem? (i := 0) rfl)) (hw _ (List.mem_of_getElem? (i := 1) rfl)) (hw _ (List.mem_of_getElem? (i := 2) rfl)) (hw _ (List.mem_of_getElem? (i := 3) rfl)) (by decide) at_6 pd_1 rfl rfl rfl (Nat.le_of_eq rfl) (by decide) (by decide) ?_
  refine own_astoreN K (pc := 9) (Ls' := #[.val (.int k), .val (.int (7 : Int32)), .val (.ref (A 7)), .unset]) at_9 rfl rfl ?_
  refine own_iloadN K (pc := 10) at_10 rfl ?_
  refine own_iconst K (pc := 11) at_11 (x := (2 : Int32)) (by decide) ?_
  refine own_icmpY K (pc := 12) (pc' := 20) at_12 (by decide) (by decide) (by decide) ?_
  refine own_iloadN K (pc := 20) at_20 rfl ?_
  refine own_bipush K (pc := 21) at_21 (x := (11 : Int32)) (by decide) ?_
  refine own_icmpN K (pc := 23) at_23 (by decide) ?_
  refine own_getS K (pc := 26) (hw _ (List.mem_of_getElem? (i := 16) rfl)) F.1.2.2.2.2.1 at_26 ?_
  refine own_astoreN K (pc := 29) (Ls' := #[.val (.int k), .val (.int (7 : Int32)), .val (.ref (A 7)), .val (.ref (A 2))]) at_29 rfl rfl ?_
  refine own_goto K (pc := 30) (pc' := 48) at_30 (by decide) (by decide) ?_
  refine own_aloadN K (pc := 48) at_48 rfl rfl ?_
  refine own_callV K (pc := 49) (W := 0) (rest := []) (argsL := []) (u := (.ref (A 2))) (pm_7 l Z a0 h hw A F) F.1.2.2.2.2.2.2.2.2.2.2.2.2.2.2.2.1 (hw _ (List.mem_of_getElem? (i := 7) rfl)) (hw _ (List.mem_of_getElem? (i := 8) rfl)) (hw _ (List.mem_of_getElem? (i := 10) rfl)) (hw _ (List.mem_of_getElem? (i := 9) rfl)) (hw _ (List.mem_of_getElem? (i := 11) rfl)) (hw _ (List.mem_of_getElem? (i := 5) rfl)) (by decide) at_49 pd_2 rfl rfl rfl (Nat.le_of_eq rfl) (by decide) (by decide) ?_
  refine own_aloadN K (pc := 52) at_52 rfl rfl ?_
  refine own_acmp K (pc := 53) (pc' := 56) (same := true) at_53 (decide_eq_true rfl) (by decide) (by decide) ?_
  refine own_iconst K (pc := 56) at_56 (x := (1 : Int32)) (by decide) ?_
  refine own_goto K (pc := 57) (pc' := 61) at_57 (by decide) (by decide) ?_
  exact own_retZ K (pc := 61) at_61 (by decide)
set_option maxRecDepth 65536 in
theorem lt_8 (p : Program) (l : Launch) (e : Env) (s : State) (m : MethodId) (args : Array Value) (below : List Frame) (meth : Method) (c : Code) (Z : State) (a0 : Array Value) (h : Heap) (hw : ∀ d ∈ tables_1, d.before a0 Z = true) (k : Int32) (A : Nat → Addr) (F : own_F Z h A) (K : own_C p s m meth c Z code "com/example/locant/locant/AtomicTypePrimitivePinLaw" .boolean 4) :
    own_E p l e room_1 s m args below meth c h 5 #[.val (.int k), .val (.int (8 : Int32)), .unset, .unset] [] (.int 1) := by
  refine own_iloadN K (pc := 5) at_5 rfl ?_
  refine own_callS K (pc := 6) (W := 0) (rest := []) (argsL := [(.int (8 : Int32))]) (u := (.ref (A 8))) (pk_8 l Z a0 h hw A F) (hw _ (List.mem_of_getElem? (i := 0) rfl)) (hw _ (List.mem_of_getElem? (i := 1) rfl)) (hw _ (List.mem_of_getElem? (i := 2) rfl)) (hw _ (List.mem_of_getElem? (i := 3) rfl)) (by decide) at_6 pd_1 rfl rfl rfl (Nat.le_of_eq rfl) (by decide) (by decide) ?_
  refine own_astoreN K (pc := 9) (Ls' := #[.val (.int k), .val (.int (8 : Int32)), .val (.ref (A 8)), .unset]) at_9 rfl rfl ?_
  refine own_iloadN K (pc := 10) at_10 rfl ?_
  refine own_iconst K (pc := 11) at_11 (x := (2 : Int32)) (by decide) ?_
  refine own_icmpY K (pc := 12) (pc' := 20) at_12 (by decide) (by decide) (by decide) ?_
  refine own_iloadN K (pc := 20) at_20 rfl ?_
  refine own_bipush K (pc := 21) at_21 (x := (11 : Int32)) (by decide) ?_
  refine own_icmpN K (pc := 23) at_23 (by decide) ?_
  refine own_getS K (pc := 26) (hw _ (List.mem_of_getElem? (i := 16) rfl)) F.1.2.2.2.2.1 at_26 ?_
  refine own_astoreN K (pc := 29) (Ls' := #[.val (.int k), .val (.int (8 : Int32)), .val (.ref (A 8)), .val (.ref (A 2))]) at_29 rfl rfl ?_
  refine own_goto K (pc := 30) (pc' := 48) at_30 (by decide) (by decide) ?_
  refine own_aloadN K (pc := 48) at_48 rfl rfl ?_
  refine own_callV K (pc := 49) (W := 0) (rest := []) (argsL := []) (u := (.ref (A 2))) (pm_8 l Z a0 h hw A F) F.1.2.2.2.2.2.2.2.2.2.2.2.2.2.2.2.2.2.1 (hw _ (List.mem_of_getElem? (i := 7) rfl)) (hw _ (List.mem_of_getElem? (i := 8) rfl)) (hw _ (List.mem_of_getElem? (i := 10) rfl)) (hw _ (List.mem_of_getElem? (i := 9) rfl)) (hw _ (List.mem_of_getElem? (i := 11) rfl)) (hw _ (List.mem_of_getElem? (i := 5) rfl)) (by decide) at_49 pd_2 rfl rfl rfl (Nat.le_of_eq rfl) (by decide) (by decide) ?_
  refine own_aloadN K (pc := 52) at_52 rfl rfl ?_
  refine own_acmp K (pc := 53) (pc' := 56) (same := true) at_53 (decide_eq_true rfl) (by decide) (by decide) ?_
  refine own_iconst K (pc := 56) at_56 (x := (1 : Int32)) (by decide) ?_
  refine own_goto K (pc := 57) (pc' := 61) at_57 (by decide) (by decide) ?_
  exact own_retZ K (pc := 61) at_61 (by decide)
set_option maxRecDepth 65536 in
theorem lt_9 (p : Program) (l : Launch) (e : Env) (s : State) (m : MethodId) (args : Array Value) (below : List Frame) (meth : Method) (c : Code) (Z : State) (a0 : Array Value) (h : Heap) (hw : ∀ d ∈ tables_1, d.before a0 Z = true) (k : Int32) (A : Nat → Addr) (F : own_F Z h A) (K : own_C p s m meth c Z code "com/example/locant/locant/AtomicTypePrimitivePinLaw" .boolean 4) :
    own_E p l e room_1 s m args below meth c h 5 #[.val (.int k), .val (.int (9 : Int32)), .unset, .unset] [] (.int 1) := by
  refine own_iloadN K (pc := 5) at_5 rfl ?_
  refine own_callS K (pc := 6) (W := 0) (rest := []) (argsL := [(.int (9 : Int32))]) (u := (.ref (A 9))) (pk_9 l Z a0 h hw A F) (hw _ (List.mem_of_getElem? (i := 0) rfl)) (hw _ (List.mem_of_getElem? (i := 1) rfl)) (hw _ (List.mem_of_getElem? (i := 2) rfl)) (hw _ (List.mem_of_getElem? (i := 3) rfl)) (by decide) at_6 pd_1 rfl rfl rfl (Nat.le_of_eq rfl) (by decide) (by decide) ?_
  refine own_astoreN K (pc := 9) (Ls' := #[.val (.int k), .val (.int (9 : Int32)), .val (.ref (A 9)), .unset]) at_9 rfl rfl ?_
  refine own_iloadN K (pc := 10) at_10 rfl ?_
  refine own_iconst K (pc := 11) at_11 (x := (2 : Int32)) (by decide) ?_
  refine own_icmpY K (pc := 12) (pc' := 20) at_12 (by decide) (by decide) (by decide) ?_
  refine own_iloadN K (pc := 20) at_20 rfl ?_
  refine own_bipush K (pc := 21) at_21 (x := (11 : Int32)) (by decide) ?_
  refine own_icmpN K (pc := 23) at_23 (by decide) ?_
  refine own_getS K (pc := 26) (hw _ (List.mem_of_getElem? (i := 16) rfl)) F.1.2.2.2.2.1 at_26 ?_
  refine own_astoreN K (pc := 29) (Ls' := #[.val (.int k), .val (.int (9 : Int32)), .val (.ref (A 9)), .val (.ref (A 2))]) at_29 rfl rfl ?_
  refine own_goto K (pc := 30) (pc' := 48) at_30 (by decide) (by decide) ?_
  refine own_aloadN K (pc := 48) at_48 rfl rfl ?_
  refine own_callV K (pc := 49) (W := 0) (rest := []) (argsL := []) (u := (.ref (A 2))) (pm_9 l Z a0 h hw A F) F.1.2.2.2.2.2.2.2.2.2.2.2.2.2.2.2.2.2.2.2.1 (hw _ (List.mem_of_getElem? (i := 7) rfl)) (hw _ (List.mem_of_getElem? (i := 8) rfl)) (hw _ (List.mem_of_getElem? (i := 10) rfl)) (hw _ (List.mem_of_getElem? (i := 9) rfl)) (hw _ (List.mem_of_getElem? (i := 11) rfl)) (hw _ (List.mem_of_getElem? (i := 5) rfl)) (by decide) at_49 pd_2 rfl rfl rfl (Nat.le_of_eq rfl) (by decide) (by decide) ?_
  refine own_aloadN K (pc := 52) at_52 rfl rfl ?_
  refine own_acmp K (pc := 53) (pc' := 56) (same := true) at_53 (decide_eq_true rfl) (by decide) (by decide) ?_
  refine own_iconst K (pc := 56) at_56 (x := (1 : Int32)) (by decide) ?_
  refine own_goto K (pc := 57) (pc' := 61) at_57 (by decide) (by decide) ?_
  exact own_retZ K (pc := 61) at_61 (by decide)
set_option maxRecDepth 65536 in
theorem lt_10 (p : Program) (l : Launch) (e : Env) (s : State) (m : MethodId) (args : Array Value) (below : List Frame) (meth : Method) (c : Code) (Z : State) (a0 : Array Value) (h : Heap) (hw : ∀ d ∈ tables_1, d.before a0 Z = true) (k : Int32) (A : Nat → Addr) (F : own_F Z h A) (K : own_C p s m meth c Z code "com/example/locant/locant/AtomicTypePrimitivePinLaw" .boolean 4) :
    own_E p l e room_1 s m args below meth c h 5 #[.val (.int k), .val (.int (10 : Int32)), .unset, .unset] [] (.int 1) := by
  refine own_iloadN K (pc := 5) at_5 rfl ?_
  refine own_callS K (pc := 6) (W := 0) (rest := []) (argsL := [(.int (10 : Int32))]) (u := (.ref (A 10))) (pk_10 l Z a0 h hw A F) (hw _ (List.mem_of_getElem? (i := 0) rfl)) (hw _ (List.mem_of_getElem? (i := 1) rfl)) (hw _ (List.mem_of_getElem? (i := 2) rfl)) (hw _ (List.mem_of_getElem? (i := 3) rfl)) (by decide) at_6 pd_1 rfl rfl rfl (Nat.le_of_eq rfl) (by decide) (by decide) ?_
  refine own_astoreN K (pc := 9) (Ls' := #[.val (.int k), .val (.int (10 : Int32)), .val (.ref (A 10)), .unset]) at_9 rfl rfl ?_
  refine own_iloadN K (pc := 10) at_10 rfl ?_
  refine own_iconst K (pc := 11) at_11 (x := (2 : Int32)) (by decide) ?_
  refine own_icmpY K (pc := 12) (pc' := 20) at_12 (by decide) (by decide) (by decide) ?_
  refine own_iloadN K (pc := 20) at_20 rfl ?_
  refine own_bipush K (pc := 21) at_21 (x := (11 : Int32)) (by decide) ?_
  refine own_icmpN K (pc := 23) at_23 (by decide) ?_
  refine own_getS K (pc := 26) (hw _ (List.mem_of_getElem? (i := 16) rfl)) F.1.2.2.2.2.1 at_26 ?_
  refine own_astoreN K (pc := 29) (Ls' := #[.val (.int k), .val (.int (10 : Int32)), .val (.ref (A 10)), .val (.ref (A 2))]) at_29 rfl rfl ?_
  refine own_goto K (pc := 30) (pc' := 48) at_30 (by decide) (by decide) ?_
  refine own_aloadN K (pc := 48) at_48 rfl rfl ?_
  refine own_callV K (pc := 49) (W := 0) (rest := []) (argsL := []) (u := (.ref (A 2))) (pm_10 l Z a0 h hw A F) F.1.2.2.2.2.2.2.2.2.2.2.2.2.2.2.2.2.2.2.2.2.2.1 (hw _ (List.mem_of_getElem? (i := 7) rfl)) (hw _ (List.mem_of_getElem? (i := 8) rfl)) (hw _ (List.mem_of_getElem? (i := 10) rfl)) (hw _ (List.mem_of_getElem? (i := 9) rfl)) (hw _ (List.mem_of_getElem? (i := 11) rfl)) (hw _ (List.mem_of_getElem? (i := 5) rfl)) (by decide) at_49 pd_2 rfl rfl rfl (Nat.le_of_eq rfl) (by decide) (by decide) ?_
  refine own_aloadN K (pc := 52) at_52 rfl rfl ?_
  refine own_acmp K (pc := 53) (pc' := 56) (same := true) at_53 (decide_eq_true rfl) (by decide) (by decide) ?_
  refine own_iconst K (pc := 56) at_56 (x := (1 : Int32)) (by decide) ?_
  refine own_goto K (pc := 57) (pc' := 61) at_57 (by decide) (by decide) ?_
  exact own_retZ K (pc := 61) at_61 (by decide)
set_option maxRecDepth 65536 in
theorem lt_11 (p : Program) (l : Launch) (e : Env) (s : State) (m : MethodId) (args : Array Value) (below : List Frame) (meth : Method) (c : Code) (Z : State) (a0 : Array Value) (h : Heap) (hw : ∀ d ∈ tables_1, d.before a0 Z = true) (k : Int32) (A : Nat → Addr) (F : own_F Z h A) (K : own_C p s m meth c Z code "com/example/locant/locant/AtomicTypePrimitivePinLaw" .boolean 4) :
    own_E p l e room_1 s m args below meth c h 5 #[.val (.int k), .val (.int (11 : Int32)), .unset, .unset] [] (.int 1) := by
  refine own_iloadN K (pc := 5) at_5 rfl ?_
  refine own_callS K (pc := 6) (W := 0) (rest := []) (argsL := [(.int (11 : Int32))]) (u := (.ref (A 11))) (pk_11 l Z a0 h hw A F) (hw _ (List.mem_of_getElem? (i := 0) rfl)) (hw _ (List.mem_of_getElem? (i := 1) rfl)) (hw _ (List.mem_of_getElem? (i := 2) rfl)) (hw _ (List.mem_of_getElem? (i := 3) rfl)) (by decide) at_6 pd_1 rfl rfl rfl (Nat.le_of_eq rfl) (by decide) (by decide) ?_
  refine own_astoreN K (pc := 9) (Ls' := #[.val (.int k), .val (.int (11 : Int32)), .val (.ref (A 11)), .unset]) at_9 rfl rfl ?_
  refine own_iloadN K (pc := 10) at_10 rfl ?_
  refine own_iconst K (pc := 11) at_11 (x := (2 : Int32)) (by decide) ?_
  refine own_icmpY K (pc := 12) (pc' := 20) at_12 (by decide) (by decide) (by decide) ?_
  refine own_iloadN K (pc := 20) at_20 rfl ?_
  refine own_bipush K (pc := 21) at_21 (x := (11 : Int32)) (by decide) ?_
  refine own_icmpN K (pc := 23) at_23 (by decide) ?_
  refine own_getS K (pc := 26) (hw _ (List.mem_of_getElem? (i := 16) rfl)) F.1.2.2.2.2.1 at_26 ?_
  refine own_astoreN K (pc := 29) (Ls' := #[.val (.int k), .val (.int (11 : Int32)), .val (.ref (A 11)), .val (.ref (A 2))]) at_29 rfl rfl ?_
  refine own_goto K (pc := 30) (pc' := 48) at_30 (by decide) (by decide) ?_
  refine own_aloadN K (pc := 48) at_48 rfl rfl ?_
  refine own_callV K (pc := 49) (W := 0) (rest := []) (argsL := []) (u := (.ref (A 2))) (pm_11 l Z a0 h hw A F) F.1.2.2.2.2.2.2.2.2.2.2.2.2.2.2.2.2.2.2.2.2.2.2.2 (hw _ (List.mem_of_getElem? (i := 7) rfl)) (hw _ (List.mem_of_getElem? (i := 8) rfl)) (hw _ (List.mem_of_getElem? (i := 10) rfl)) (hw _ (List.mem_of_getElem? (i := 9) rfl)) (hw _ (List.mem_of_getElem? (i := 11) rfl)) (hw _ (List.mem_of_getElem? (i := 5) rfl)) (by decide) at_49 pd_2 rfl rfl rfl (Nat.le_of_eq rfl) (by decide) (by decide) ?_
  refine own_aloadN K (pc := 52) at_52 rfl rfl ?_
  refine own_acmp K (pc := 53) (pc' := 56) (same := true) at_53 (decide_eq_true rfl) (by decide) (by decide) ?_
  refine own_iconst K (pc := 56) at_56 (x := (1 : Int32)) (by decide) ?_
  refine own_goto K (pc := 57) (pc' := 61) at_57 (by decide) (by decide) ?_
  exact own_retZ K (pc := 61) at_61 (by decide)
set_option maxRecDepth 65536 in
theorem lt_12 (p : Program) (l : Launch) (e : Env) (s : State) (m : MethodId) (args : Array Value) (below : List Frame) (meth : Method) (c : Code) (Z : State) (a0 : Array Value) (h : Heap) (hw : ∀ d ∈ tables_1, d.before a0 Z = true) (k : Int32) (A : Nat → Addr) (F : own_F Z h A) (K : own_C p s m meth c Z code "com/example/locant/locant/AtomicTypePrimitivePinLaw" .boolean 4) :
    own_E p l e room_1 s m args below meth c h 5 #[.val (.int k), .val (.int (12 : Int32)), .unset, .unset] [] (.int 1) := by
  refine own_iloadN K (pc := 5) at_5 rfl ?_
  refine own_callS K (pc := 6) (W := 0) (rest := []) (argsL := [(.int (12 : Int32))]) (u := (.ref (A 12))) (pk_12 l Z a0 h hw A F) (hw _ (List.mem_of_getElem? (i := 0) rfl)) (hw _ (List.mem_of_getElem? (i := 1) rfl)) (hw _ (List.mem_of_getElem? (i := 2) rfl)) (hw _ (List.mem_of_getElem? (i := 3) rfl)) (by decide) at_6 pd_1 rfl rfl rfl (Nat.le_of_eq rfl) (by decide) (by decide) ?_
  refine own_astoreN K (pc := 9) (Ls' := #[.val (.int k), .val (.int (12 : Int32)), .val (.ref (A 12)), .unset]) at_9 rfl rfl ?_
  refine own_iloadN K (pc := 10) at_10 rfl ?_
  refine own_iconst K (pc := 11) at_11 (x := (2 : Int32)) (by decide) ?_
  refine own_icmpY K (pc := 12) (pc' := 20) at_12 (by decide) (by decide) (by decide) ?_
  refine own_iloadN K (pc := 20) at_20 rfl ?_
  refine own_bipush K (pc := 21) at_21 (x := (11 : Int32)) (by decide) ?_
  refine own_icmpY K (pc := 23) (pc' := 33) at_23 (by decide) (by decide) (by decide) ?_
  refine own_iloadN K (pc := 33) at_33 rfl ?_
  refine own_bipush K (pc := 34) at_34 (x := (18 : Int32)) (by decide) ?_
  refine own_icmpN K (pc := 36) at_36 (by decide) ?_
  refine own_aloadN K (pc := 39) at_39 rfl rfl ?_
  refine own_astoreN K (pc := 40) (Ls' := #[.val (.int k), .val (.int (12 : Int32)), .val (.ref (A 12)), .val (.ref (A 12))]) at_40 rfl rfl ?_
  refine own_goto K (pc := 41) (pc' := 48) at_41 (by decide) (by decide) ?_
  refine own_aloadN K (pc := 48) at_48 rfl rfl ?_
  refine own_callV K (pc := 49) (W := 0) (rest := []) (argsL := []) (u := (.ref (A 12))) (pm_12 l Z a0 h hw A F) F.2.1.2.1 (hw _ (List.mem_of_getElem? (i := 7) rfl)) (hw _ (List.mem_of_getElem? (i := 8) rfl)) (hw _ (List.mem_of_getElem? (i := 10) rfl)) (hw _ (List.mem_of_getElem? (i := 9) rfl)) (hw _ (List.mem_of_getElem? (i := 11) rfl)) (hw _ (List.mem_of_getElem? (i := 5) rfl)) (by decide) at_49 pd_2 rfl rfl rfl (Nat.le_of_eq rfl) (by decide) (by decide) ?_
  refine own_aloadN K (pc := 52) at_52 rfl rfl ?_
  refine own_acmp K (pc := 53) (pc' := 56) (same := true) at_53 (decide_eq_true rfl) (by decide) (by decide) ?_
  refine own_iconst K (pc := 56) at_56 (x := (1 : Int32)) (by decide) ?_
  refine own_goto K (pc := 57) (pc' := 61) at_57 (by decide) (by decide) ?_
  exact own_retZ K (pc := 61) at_61 (by decide)
set_option maxRecDepth 65536 in
theorem lt_13 (p : Program) (l : Launch) (e : Env) (s : State) (m : MethodId) (args : Array Value) (below : List Frame) (meth : Method) (c : Code) (Z : State) (a0 : Array Value) (h : Heap) (hw : ∀ d ∈ tables_1, d.before a0 Z = true) (k : Int32) (A : Nat → Addr) (F : own_F Z h A) (K : own_C p s m meth c Z code "com/example/locant/locant/AtomicTypePrimitivePinLaw" .boolean 4) :
    own_E p l e room_1 s m args below meth c h 5 #[.val (.int k), .val (.int (13 : Int32)), .unset, .unset] [] (.int 1) := by
  refine own_iloadN K (pc := 5) at_5 rfl ?_
  refine own_callS K (pc := 6) (W := 0) (rest := []) (argsL := [(.int (13 : Int32))]) (u := (.ref (A 13))) (pk_13 l Z a0 h hw A F) (hw _ (List.mem_of_getElem? (i := 0) rfl)) (hw _ (List.mem_of_getElem? (i := 1) rfl)) (hw _ (List.mem_of_getElem? (i := 2) rfl)) (hw _ (List.mem_of_getElem? (i := 3) rfl)) (by decide) at_6 pd_1 rfl rfl rfl (Nat.le_of_eq rfl) (by decide) (by decide) ?_
  refine own_astoreN K (pc := 9) (Ls' := #[.val (.int k), .val (.int (13 : Int32)), .val (.ref (A 13)), .unset]) at_9 rfl rfl ?_
  refine own_iloadN K (pc := 10) at_10 rfl ?_
  refine own_iconst K (pc := 11) at_11 (x := (2 : Int32)) (by decide) ?_
  refine own_icmpY K (pc := 12) (pc' := 20) at_12 (by decide) (by decide) (by decide) ?_
  refine own_iloadN K (pc := 20) at_20 rfl ?_
  refine own_bipush K (pc := 21) at_21 (x := (11 : Int32)) (by decide) ?_
  refine own_icmpY K (pc := 23) (pc' := 33) at_23 (by decide) (by decide) (by decide) ?_
  refine own_iloadN K (pc := 33) at_33 rfl ?_
  refine own_bipush K (pc := 34) at_34 (x := (18 : Int32)) (by decide) ?_
  refine own_icmpN K (pc := 36) at_36 (by decide) ?_
  refine own_aloadN K (pc := 39) at_39 rfl rfl ?_
  refine own_astoreN K (pc := 40) (Ls' := #[.val (.int k), .val (.int (13 : Int32)), .val (.ref (A 13)), .val (.ref (A 13))]) at_40 rfl rfl ?_
  refine own_goto K (pc := 41) (pc' := 48) at_41 (by decide) (by decide) ?_
  refine own_aloadN K (pc := 48) at_48 rfl rfl ?_
  refine own_callV K (pc := 49) (W := 0) (rest := []) (argsL := []) (u := (.ref (A 13))) (pm_13 l Z a0 h hw A F) F.2.1.2.2.2.1 (hw _ (List.mem_of_getElem? (i := 7) rfl)) (hw _ (List.mem_of_getElem? (i := 8) rfl)) (hw _ (List.mem_of_getElem? (i := 10) rfl)) (hw _ (List.mem_of_getElem? (i := 9) rfl)) (hw _ (List.mem_of_getElem? (i := 11) rfl)) (hw _ (List.mem_of_getElem? (i := 5) rfl)) (by decide) at_49 pd_2 rfl rfl rfl (Nat.le_of_eq rfl) (by decide) (by decide) ?_
  refine own_aloadN K (pc := 52) at_52 rfl rfl ?_
  refine own_acmp K (pc := 53) (pc' := 56) (same := true) at_53 (decide_eq_true rfl) (by decide) (by decide) ?_
  refine own_iconst K (pc := 56) at_56 (x := (1 : Int32)) (by decide) ?_
  refine own_goto K (pc := 57) (pc' := 61) at_57 (by decide) (by decide) ?_
  exact own_retZ K (pc := 61) at_61 (by decide)
set_option maxRecDepth 65536 in
theorem lt_14 (p : Program) (l : Launch) (e : Env) (s : State) (m : MethodId) (args : Array Value) (below : List Frame) (meth : Method) (c : Code) (Z : State) (a0 : Array Value) (h : Heap) (hw : ∀ d ∈ tables_1, d.before a0 Z = true) (k : Int32) (A : Nat → Addr) (F : own_F Z h A) (K : own_C p s m meth c Z code "com/example/locant/locant/AtomicTypePrimitivePinLaw" .boolean 4) :
    own_E p l e room_1 s m args below meth c h 5 #[.val (.int k), .val (.int (14 : Int32)), .unset, .unset] [] (.int 1) := by
  refine own_iloadN K (pc := 5) at_5 rfl ?_
  refine own_callS K (pc := 6) (W := 0) (rest := []) (argsL := [(.int (14 : Int32))]) (u := (.ref (A 14))) (pk_14 l Z a0 h hw A F) (hw _ (List.mem_of_getElem? (i := 0) rfl)) (hw _ (List.mem_of_getElem? (i := 1) rfl)) (hw _ (List.mem_of_getElem? (i := 2) rfl)) (hw _ (List.mem_of_getElem? (i := 3) rfl)) (by decide) at_6 pd_1 rfl rfl rfl (Nat.le_of_eq rfl) (by decide) (by decide) ?_
  refine own_astoreN K (pc := 9) (Ls' := #[.val (.int k), .val (.int (14 : Int32)), .val (.ref (A 14)), .unset]) at_9 rfl rfl ?_
  refine own_iloadN K (pc := 10) at_10 rfl ?_
  refine own_iconst K (pc := 11) at_11 (x := (2 : Int32)) (by decide) ?_
  refine own_icmpY K (pc := 12) (pc' := 20) at_12 (by decide) (by decide) (by decide) ?_
  refine own_iloadN K (pc := 20) at_20 rfl ?_
  refine own_bipush K (pc := 21) at_21 (x := (11 : Int32)) (by decide) ?_
  refine own_icmpY K (pc := 23) (pc' := 33) at_23 (by decide) (by decide) (by decide) ?_
  refine own_iloadN K (pc := 33) at_33 rfl ?_
  refine own_bipush K (pc := 34) at_34 (x := (18 : Int32)) (by decide) ?_
  refine own_icmpN K (pc := 36) at_36 (by decide) ?_
  refine own_aloadN K (pc := 39) at_39 rfl rfl ?_
  refine own_astoreN K (pc := 40) (Ls' := #[.val (.int k), .val (.int (14 : Int32)), .val (.ref (A 14)), .val (.ref (A 14))]) at_40 rfl rfl ?_
  refine own_goto K (pc := 41) (pc' := 48) at_41 (by decide) (by decide) ?_
  refine own_aloadN K (pc := 48) at_48 rfl rfl ?_
  refine own_callV K (pc := 49) (W := 0) (rest := []) (argsL := []) (u := (.ref (A 14))) (pm_14 l Z a0 h hw A F) F.2.1.2.2.2.2.2.1 (hw _ (List.mem_of_getElem? (i := 7) rfl)) (hw _ (List.mem_of_getElem? (i := 8) rfl)) (hw _ (List.mem_of_getElem? (i := 10) rfl)) (hw _ (List.mem_of_getElem? (i := 9) rfl)) (hw _ (List.mem_of_getElem? (i := 11) rfl)) (hw _ (List.mem_of_getElem? (i := 5) rfl)) (by decide) at_49 pd_2 rfl rfl rfl (Nat.le_of_eq rfl) (by decide) (by decide) ?_
  refine own_aloadN K (pc := 52) at_52 rfl rfl ?_
  refine own_acmp K (pc := 53) (pc' := 56) (same := true) at_53 (decide_eq_true rfl) (by decide) (by decide) ?_
  refine own_iconst K (pc := 56) at_56 (x := (1 : Int32)) (by decide) ?_
  refine own_goto K (pc := 57) (pc' := 61) at_57 (by decide) (by decide) ?_
  exact own_retZ K (pc := 61) at_61 (by decide)
set_option maxRecDepth 65536 in
theorem lt_15 (p : Program) (l : Launch) (e : Env) (s : State) (m : MethodId) (args : Array Value) (below : List Frame) (meth : Method) (c : Code) (Z : State) (a0 : Array Value) (h : Heap) (hw : ∀ d ∈ tables_1, d.before a0 Z = true) (k : Int32) (A : Nat → Addr) (F : own_F Z h A) (K : own_C p s m meth c Z code "com/example/locant/locant/AtomicTypePrimitivePinLaw" .boolean 4) :
    own_E p l e room_1 s m args below meth c h 5 #[.val (.int k), .val (.int (15 : Int32)), .unset, .unset] [] (.int 1) := by
  refine own_iloadN K (pc := 5) at_5 rfl ?_
  refine own_callS K (pc := 6) (W := 0) (rest := []) (argsL := [(.int (15 : Int32))]) (u := (.ref (A 15))) (pk_15 l Z a0 h hw A F) (hw _ (List.mem_of_getElem? (i := 0) rfl)) (hw _ (List.mem_of_getElem? (i := 1) rfl)) (hw _ (List.mem_of_getElem? (i := 2) rfl)) (hw _ (List.mem_of_getElem? (i := 3) rfl)) (by decide) at_6 pd_1 rfl rfl rfl (Nat.le_of_eq rfl) (by decide) (by decide) ?_
  refine own_astoreN K (pc := 9) (Ls' := #[.val (.int k), .val (.int (15 : Int32)), .val (.ref (A 15)), .unset]) at_9 rfl rfl ?_
  refine own_iloadN K (pc := 10) at_10 rfl ?_
  refine own_iconst K (pc := 11) at_11 (x := (2 : Int32)) (by decide) ?_
  refine own_icmpY K (pc := 12) (pc' := 20) at_12 (by decide) (by decide) (by decide) ?_
  refine own_iloadN K (pc := 20) at_20 rfl ?_
  refine own_bipush K (pc := 21) at_21 (x := (11 : Int32)) (by decide) ?_
  refine own_icmpY K (pc := 23) (pc' := 33) at_23 (by decide) (by decide) (by decide) ?_
  refine own_iloadN K (pc := 33) at_33 rfl ?_
  refine own_bipush K (pc := 34) at_34 (x := (18 : Int32)) (by decide) ?_
  refine own_icmpN K (pc := 36) at_36 (by decide) ?_
  refine own_aloadN K (pc := 39) at_39 rfl rfl ?_
  refine own_astoreN K (pc := 40) (Ls' := #[.val (.int k), .val (.int (15 : Int32)), .val (.ref (A 15)), .val (.ref (A 15))]) at_40 rfl rfl ?_
  refine own_goto K (pc := 41) (pc' := 48) at_41 (by decide) (by decide) ?_
  refine own_aloadN K (pc := 48) at_48 rfl rfl ?_
  refine own_callV K (pc := 49) (W := 0) (rest := []) (argsL := []) (u := (.ref (A 15))) (pm_15 l Z a0 h hw A F) F.2.1.2.2.2.2.2.2.2.1 (hw _ (List.mem_of_getElem? (i := 7) rfl)) (hw _ (List.mem_of_getElem? (i := 8) rfl)) (hw _ (List.mem_of_getElem? (i := 10) rfl)) (hw _ (List.mem_of_getElem? (i := 9) rfl)) (hw _ (List.mem_of_getElem? (i := 11) rfl)) (hw _ (List.mem_of_getElem? (i := 5) rfl)) (by decide) at_49 pd_2 rfl rfl rfl (Nat.le_of_eq rfl) (by decide) (by decide) ?_
  refine own_aloadN K (pc := 52) at_52 rfl rfl ?_
  refine own_acmp K (pc := 53) (pc' := 56) (same := true) at_53 (decide_eq_true rfl) (by decide) (by decide) ?_
  refine own_iconst K (pc := 56) at_56 (x := (1 : Int32)) (by decide) ?_
  refine own_goto K (pc := 57) (pc' := 61) at_57 (by decide) (by decide) ?_
  exact own_retZ K (pc := 61) at_61 (by decide)
set_option maxRecDepth 65536 in
theorem lt_16 (p : Program) (l : Launch) (e : Env) (s : State) (m : MethodId) (args : Array Value) (below : List Frame) (meth : Method) (c : Code) (Z : State) (a0 : Array Value) (h : Heap) (hw : ∀ d ∈ tables_1, d.before a0 Z = true) (k : Int32) (A : Nat → Addr) (F : own_F Z h A) (K : own_C p s m meth c Z code "com/example/locant/locant/AtomicTypePrimitivePinLaw" .boolean 4) :
    own_E p l e room_1 s m args below meth c h 5 #[.val (.int k), .val (.int (16 : Int32)), .unset, .unset] [] (.int 1) := by
  refine own_iloadN K (pc := 5) at_5 rfl ?_
  refine own_callS K (pc := 6) (W := 0) (rest := []) (argsL := [(.int (16 : Int32))]) (u := (.ref (A 16))) (pk_16 l Z a0 h hw A F) (hw _ (List.mem_of_getElem? (i := 0) rfl)) (hw _ (List.mem_of_getElem? (i := 1) rfl)) (hw _ (List.mem_of_getElem? (i := 2) rfl)) (hw _ (List.mem_of_getElem? (i := 3) rfl)) (by decide) at_6 pd_1 rfl rfl rfl (Nat.le_of_eq rfl) (by decide) (by decide) ?_
  refine own_astoreN K (pc := 9) (Ls' := #[.val (.int k), .val (.int (16 : Int32)), .val (.ref (A 16)), .unset]) at_9 rfl rfl ?_
  refine own_iloadN K (pc := 10) at_10 rfl ?_
  refine own_iconst K (pc := 11) at_11 (x := (2 : Int32)) (by decide) ?_
  refine own_icmpY K (pc := 12) (pc' := 20) at_12 (by decide) (by decide) (by decide) ?_
  refine own_iloadN K (pc := 20) at_20 rfl ?_
  refine own_bipush K (pc := 21) at_21 (x := (11 : Int32)) (by decide) ?_
  refine own_icmpY K (pc := 23) (pc' := 33) at_23 (by decide) (by decide) (by decide) ?_
  refine own_iloadN K (pc := 33) at_33 rfl ?_
  refine own_bipush K (pc := 34) at_34 (x := (18 : Int32)) (by decide) ?_
  refine own_icmpN K (pc := 36) at_36 (by decide) ?_
  refine own_aloadN K (pc := 39) at_39 rfl rfl ?_
  refine own_astoreN K (pc := 40) (Ls' := #[.val (.int k), .val (.int (16 : Int32)), .val (.ref (A 16)), .val (.ref (A 16))]) at_40 rfl rfl ?_
  refine own_goto K (pc := 41) (pc' := 48) at_41 (by decide) (by decide) ?_
  refine own_aloadN K (pc := 48) at_48 rfl rfl ?_
  refine own_callV K (pc := 49) (W := 0) (rest := []) (argsL := []) (u := (.ref (A 16))) (pm_16 l Z a0 h hw A F) F.2.1.2.2.2.2.2.2.2.2.2.1 (hw _ (List.mem_of_getElem? (i := 7) rfl)) (hw _ (List.mem_of_getElem? (i := 8) rfl)) (hw _ (List.mem_of_getElem? (i := 10) rfl)) (hw _ (List.mem_of_getElem? (i := 9) rfl)) (hw _ (List.mem_of_getElem? (i := 11) rfl)) (hw _ (List.mem_of_getElem? (i := 5) rfl)) (by decide) at_49 pd_2 rfl rfl rfl (Nat.le_of_eq rfl) (by decide) (by decide) ?_
  refine own_aloadN K (pc := 52) at_52 rfl rfl ?_
  refine own_acmp K (pc := 53) (pc' := 56) (same := true) at_53 (decide_eq_true rfl) (by decide) (by decide) ?_
  refine own_iconst K (pc := 56) at_56 (x := (1 : Int32)) (by decide) ?_
  refine own_goto K (pc := 57) (pc' := 61) at_57 (by decide) (by decide) ?_
  exact own_retZ K (pc := 61) at_61 (by decide)
set_option maxRecDepth 65536 in
theorem lt_17 (p : Program) (l : Launch) (e : Env) (s : State) (m : MethodId) (args : Array Value) (below : List Frame) (meth : Method) (c : Code) (Z : State) (a0 : Array Value) (h : Heap) (hw : ∀ d ∈ tables_1, d.before a0 Z = true) (k : Int32) (A : Nat → Addr) (F : own_F Z h A) (K : own_C p s m meth c Z code "com/example/locant/locant/AtomicTypePrimitivePinLaw" .boolean 4) :
    own_E p l e room_1 s m args below meth c h 5 #[.val (.int k), .val (.int (17 : Int32)), .unset, .unset] [] (.int 1) := by
  refine own_iloadN K (pc := 5) at_5 rfl ?_
  refine own_callS K (pc := 6) (W := 0) (rest := []) (argsL := [(.int (17 : Int32))]) (u := (.ref (A 17))) (pk_17 l Z a0 h hw A F) (hw _ (List.mem_of_getElem? (i := 0) rfl)) (hw _ (List.mem_of_getElem? (i := 1) rfl)) (hw _ (List.mem_of_getElem? (i := 2) rfl)) (hw _ (List.mem_of_getElem? (i := 3) rfl)) (by decide) at_6 pd_1 rfl rfl rfl (Nat.le_of_eq rfl) (by decide) (by decide) ?_
  refine own_astoreN K (pc := 9) (Ls' := #[.val (.int k), .val (.int (17 : Int32)), .val (.ref (A 17)), .unset]) at_9 rfl rfl ?_
  refine own_iloadN K (pc := 10) at_10 rfl ?_
  refine own_iconst K (pc := 11) at_11 (x := (2 : Int32)) (by decide) ?_
  refine own_icmpY K (pc := 12) (pc' := 20) at_12 (by decide) (by decide) (by decide) ?_
  refine own_iloadN K (pc := 20) at_20 rfl ?_
  refine own_bipush K (pc := 21) at_21 (x := (11 : Int32)) (by decide) ?_
  refine own_icmpY K (pc := 23) (pc' := 33) at_23 (by decide) (by decide) (by decide) ?_
  refine own_iloadN K (pc := 33) at_33 rfl ?_
  refine own_bipush K (pc := 34) at_34 (x := (18 : Int32)) (by decide) ?_
  refine own_icmpN K (pc := 36) at_36 (by decide) ?_
  refine own_aloadN K (pc := 39) at_39 rfl rfl ?_
  refine own_astoreN K (pc := 40) (Ls' := #[.val (.int k), .val (.int (17 : Int32)), .val (.ref (A 17)), .val (.ref (A 17))]) at_40 rfl rfl ?_
  refine own_goto K (pc := 41) (pc' := 48) at_41 (by decide) (by decide) ?_
  refine own_aloadN K (pc := 48) at_48 rfl rfl ?_
  refine own_callV K (pc := 49) (W := 0) (rest := []) (argsL := []) (u := (.ref (A 17))) (pm_17 l Z a0 h hw A F) F.2.1.2.2.2.2.2.2.2.2.2.2.2.1 (hw _ (List.mem_of_getElem? (i := 7) rfl)) (hw _ (List.mem_of_getElem? (i := 8) rfl)) (hw _ (List.mem_of_getElem? (i := 10) rfl)) (hw _ (List.mem_of_getElem? (i := 9) rfl)) (hw _ (List.mem_of_getElem? (i := 11) rfl)) (hw _ (List.mem_of_getElem? (i := 5) rfl)) (by decide) at_49 pd_2 rfl rfl rfl (Nat.le_of_eq rfl) (by decide) (by decide) ?_
  refine own_aloadN K (pc := 52) at_52 rfl rfl ?_
  refine own_acmp K (pc := 53) (pc' := 56) (same := true) at_53 (decide_eq_true rfl) (by decide) (by decide) ?_
  refine own_iconst K (pc := 56) at_56 (x := (1 : Int32)) (by decide) ?_
  refine own_goto K (pc := 57) (pc' := 61) at_57 (by decide) (by decide) ?_
  exact own_retZ K (pc := 61) at_61 (by decide)
set_option maxRecDepth 65536 in
theorem lt_18 (p : Program) (l : Launch) (e : Env) (s : State) (m : MethodId) (args : Array Value) (below : List Frame) (meth : Method) (c : Code) (Z : State) (a0 : Array Value) (h : Heap) (hw : ∀ d ∈ tables_1, d.before a0 Z = true) (k : Int32) (A : Nat → Addr) (F : own_F Z h A) (K : own_C p s m meth c Z code "com/example/locant/locant/AtomicTypePrimitivePinLaw" .boolean 4) :
    own_E p l e room_1 s m args below meth c h 5 #[.val (.int k), .val (.int (18 : Int32)), .unset, .unset] [] (.int 1) := by
  refine own_iloadN K (pc := 5) at_5 rfl ?_
  refine own_callS K (pc := 6) (W := 0) (rest := []) (argsL := [(.int (18 : Int32))]) (u := (.ref (A 18))) (pk_18 l Z a0 h hw A F) (hw _ (List.mem_of_getElem? (i := 0) rfl)) (hw _ (List.mem_of_getElem? (i := 1) rfl)) (hw _ (List.mem_of_getElem? (i := 2) rfl)) (hw _ (List.mem_of_getElem? (i := 3) rfl)) (by decide) at_6 pd_1 rfl rfl rfl (Nat.le_of_eq rfl) (by decide) (by decide) ?_
  refine own_astoreN K (pc := 9) (Ls' := #[.val (.int k), .val (.int (18 : Int32)), .val (.ref (A 18)), .unset]) at_9 rfl rfl ?_
  refine own_iloadN K (pc := 10) at_10 rfl ?_
  refine own_iconst K (pc := 11) at_11 (x := (2 : Int32)) (by decide) ?_
  refine own_icmpY K (pc := 12) (pc' := 20) at_12 (by decide) (by decide) (by decide) ?_
  refine own_iloadN K (pc := 20) at_20 rfl ?_
  refine own_bipush K (pc := 21) at_21 (x := (11 : Int32)) (by decide) ?_
  refine own_icmpY K (pc := 23) (pc' := 33) at_23 (by decide) (by decide) (by decide) ?_
  refine own_iloadN K (pc := 33) at_33 rfl ?_
  refine own_bipush K (pc := 34) at_34 (x := (18 : Int32)) (by decide) ?_
  refine own_icmpN K (pc := 36) at_36 (by decide) ?_
  refine own_aloadN K (pc := 39) at_39 rfl rfl ?_
  refine own_astoreN K (pc := 40) (Ls' := #[.val (.int k), .val (.int (18 : Int32)), .val (.ref (A 18)), .val (.ref (A 18))]) at_40 rfl rfl ?_
  refine own_goto K (pc := 41) (pc' := 48) at_41 (by decide) (by decide) ?_
  refine own_aloadN K (pc := 48) at_48 rfl rfl ?_
  refine own_callV K (pc := 49) (W := 0) (rest := []) (argsL := []) (u := (.ref (A 18))) (pm_18 l Z a0 h hw A F) F.2.1.2.2.2.2.2.2.2.2.2.2.2.2.2.1 (hw _ (List.mem_of_getElem? (i := 7) rfl)) (hw _ (List.mem_of_getElem? (i := 8) rfl)) (hw _ (List.mem_of_getElem? (i := 10) rfl)) (hw _ (List.mem_of_getElem? (i := 9) rfl)) (hw _ (List.mem_of_getElem? (i := 11) rfl)) (hw _ (List.mem_of_getElem? (i := 5) rfl)) (by decide) at_49 pd_2 rfl rfl rfl (Nat.le_of_eq rfl) (by decide) (by decide) ?_
  refine own_aloadN K (pc := 52) at_52 rfl rfl ?_
  refine own_acmp K (pc := 53) (pc' := 56) (same := true) at_53 (decide_eq_true rfl) (by decide) (by decide) ?_
  refine own_iconst K (pc := 56) at_56 (x := (1 : Int32)) (by decide) ?_
  refine own_goto K (pc := 57) (pc' := 61) at_57 (by decide) (by decide) ?_
  exact own_retZ K (pc := 61) at_61 (by decide)
set_option maxRecDepth 65536 in
theorem lt_19 (p : Program) (l : Launch) (e : Env) (s : State) (m : MethodId) (args : Array Value) (below : List Frame) (meth : Method) (c : Code) (Z : State) (a0 : Array Value) (h : Heap) (hw : ∀ d ∈ tables_1, d.before a0 Z = true) (k : Int32) (A : Nat → Addr) (F : own_F Z h A) (K : own_C p s m meth c Z code "com/example/locant/locant/AtomicTypePrimitivePinLaw" .boolean 4) :
    own_E p l e room_1 s m args below meth c h 5 #[.val (.int k), .val (.int (19 : Int32)), .unset, .unset] [] (.int 1) := by
  refine own_iloadN K (pc := 5) at_5 rfl ?_
  refine own_callS K (pc := 6) (W := 0) (rest := []) (argsL := [(.int (19 : Int32))]) (u := (.ref (A 19))) (pk_19 l Z a0 h hw A F) (hw _ (List.mem_of_getElem? (i := 0) rfl)) (hw _ (List.mem_of_getElem? (i := 1) rfl)) (hw _ (List.mem_of_getElem? (i := 2) rfl)) (hw _ (List.mem_of_getElem? (i := 3) rfl)) (by decide) at_6 pd_1 rfl rfl rfl (Nat.le_of_eq rfl) (by decide) (by decide) ?_
  refine own_astoreN K (pc := 9) (Ls' := #[.val (.int k), .val (.int (19 : Int32)), .val (.ref (A 19)), .unset]) at_9 rfl rfl ?_
  refine own_iloadN K (pc := 10) at_10 rfl ?_
  refine own_iconst K (pc := 11) at_11 (x := (2 : Int32)) (by decide) ?_
  refine own_icmpY K (pc := 12) (pc' := 20) at_12 (by decide) (by decide) (by decide) ?_
  refine own_iloadN K (pc := 20) at_20 rfl ?_
  refine own_bipush K (pc := 21) at_21 (x := (11 : Int32)) (by decide) ?_
  refine own_icmpY K (pc := 23) (pc' := 33) at_23 (by decide) (by decide) (by decide) ?_
  refine own_iloadN K (pc := 33) at_33 rfl ?_
  refine own_bipush K (pc := 34) at_34 (x := (18 : Int32)) (by decide) ?_
  refine own_icmpY K (pc := 36) (pc' := 44) at_36 (by decide) (by decide) (by decide) ?_
  refine own_getS K (pc := 44) (hw _ (List.mem_of_getElem? (i := 36) rfl)) F.2.1.2.2.2.2.2.2.2.2.2.2.2.2.1 at_44 ?_
  refine own_astoreN K (pc := 47) (Ls' := #[.val (.int k), .val (.int (19 : Int32)), .val (.ref (A 19)), .val (.ref (A 18))]) at_47 rfl rfl ?_
  refine own_aloadN K (pc := 48) at_48 rfl rfl ?_
  refine own_callV K (pc := 49) (W := 0) (rest := []) (argsL := []) (u := (.ref (A 18))) (pm_19 l Z a0 h hw A F) F.2.1.2.2.2.2.2.2.2.2.2.2.2.2.2.2.2.1 (hw _ (List.mem_of_getElem? (i := 7) rfl)) (hw _ (List.mem_of_getElem? (i := 8) rfl)) (hw _ (List.mem_of_getElem? (i := 10) rfl)) (hw _ (List.mem_of_getElem? (i := 9) rfl)) (hw _ (List.mem_of_getElem? (i := 11) rfl)) (hw _ (List.mem_of_getElem? (i := 5) rfl)) (by decide) at_49 pd_2 rfl rfl rfl (Nat.le_of_eq rfl) (by decide) (by decide) ?_
  refine own_aloadN K (pc := 52) at_52 rfl rfl ?_
  refine own_acmp K (pc := 53) (pc' := 56) (same := true) at_53 (decide_eq_true rfl) (by decide) (by decide) ?_
  refine own_iconst K (pc := 56) at_56 (x := (1 : Int32)) (by decide) ?_
  refine own_goto K (pc := 57) (pc' := 61) at_57 (by decide) (by decide) ?_
  exact own_retZ K (pc := 61) at_61 (by decide)
set_option maxRecDepth 65536 in
theorem lt_20 (p : Program) (l : Launch) (e : Env) (s : State) (m : MethodId) (args : Array Value) (below : List Frame) (meth : Method) (c : Code) (Z : State) (a0 : Array Value) (h : Heap) (hw : ∀ d ∈ tables_1, d.before a0 Z = true) (k : Int32) (A : Nat → Addr) (F : own_F Z h A) (K : own_C p s m meth c Z code "com/example/locant/locant/AtomicTypePrimitivePinLaw" .boolean 4) :
    own_E p l e room_1 s m args below meth c h 5 #[.val (.int k), .val (.int (20 : Int32)), .unset, .unset] [] (.int 1) := by
  refine own_iloadN K (pc := 5) at_5 rfl ?_
  refine own_callS K (pc := 6) (W := 0) (rest := []) (argsL := [(.int (20 : Int32))]) (u := (.ref (A 20))) (pk_20 l Z a0 h hw A F) (hw _ (List.mem_of_getElem? (i := 0) rfl)) (hw _ (List.mem_of_getElem? (i := 1) rfl)) (hw _ (List.mem_of_getElem? (i := 2) rfl)) (hw _ (List.mem_of_getElem? (i := 3) rfl)) (by decide) at_6 pd_1 rfl rfl rfl (Nat.le_of_eq rfl) (by decide) (by decide) ?_
  refine own_astoreN K (pc := 9) (Ls' := #[.val (.int k), .val (.int (20 : Int32)), .val (.ref (A 20)), .unset]) at_9 rfl rfl ?_
  refine own_iloadN K (pc := 10) at_10 rfl ?_
  refine own_iconst K (pc := 11) at_11 (x := (2 : Int32)) (by decide) ?_
  refine own_icmpY K (pc := 12) (pc' := 20) at_12 (by decide) (by decide) (by decide) ?_
  refine own_iloadN K (pc := 20) at_20 rfl ?_
  refine own_bipush K (pc := 21) at_21 (x := (11 : Int32)) (by decide) ?_
  refine own_icmpY K (pc := 23) (pc' := 33) at_23 (by decide) (by decide) (by decide) ?_
  refine own_iloadN K (pc := 33) at_33 rfl ?_
  refine own_bipush K (pc := 34) at_34 (x := (18 : Int32)) (by decide) ?_
  refine own_icmpY K (pc := 36) (pc' := 44) at_36 (by decide) (by decide) (by decide) ?_
  refine own_getS K (pc := 44) (hw _ (List.mem_of_getElem? (i := 36) rfl)) F.2.1.2.2.2.2.2.2.2.2.2.2.2.2.1 at_44 ?_
  refine own_astoreN K (pc := 47) (Ls' := #[.val (.int k), .val (.int (20 : Int32)), .val (.ref (A 20)), .val (.ref (A 18))]) at_47 rfl rfl ?_
  refine own_aloadN K (pc := 48) at_48 rfl rfl ?_
  refine own_callV K (pc := 49) (W := 0) (rest := []) (argsL := []) (u := (.ref (A 18))) (pm_20 l Z a0 h hw A F) F.2.1.2.2.2.2.2.2.2.2.2.2.2.2.2.2.2.2.2.1 (hw _ (List.mem_of_getElem? (i := 7) rfl)) (hw _ (List.mem_of_getElem? (i := 8) rfl)) (hw _ (List.mem_of_getElem? (i := 10) rfl)) (hw _ (List.mem_of_getElem? (i := 9) rfl)) (hw _ (List.mem_of_getElem? (i := 11) rfl)) (hw _ (List.mem_of_getElem? (i := 5) rfl)) (by decide) at_49 pd_2 rfl rfl rfl (Nat.le_of_eq rfl) (by decide) (by decide) ?_
  refine own_aloadN K (pc := 52) at_52 rfl rfl ?_
  refine own_acmp K (pc := 53) (pc' := 56) (same := true) at_53 (decide_eq_true rfl) (by decide) (by decide) ?_
  refine own_iconst K (pc := 56) at_56 (x := (1 : Int32)) (by decide) ?_
  refine own_goto K (pc := 57) (pc' := 61) at_57 (by decide) (by decide) ?_
  exact own_retZ K (pc := 61) at_61 (by decide)
set_option maxRecDepth 65536 in
theorem lt_21 (p : Program) (l : Launch) (e : Env) (s : State) (m : MethodId) (args : Array Value) (below : List Frame) (meth : Method) (c : Code) (Z : State) (a0 : Array Value) (h : Heap) (hw : ∀ d ∈ tables_1, d.before a0 Z = true) (k : Int32) (A : Nat → Addr) (F : own_F Z h A) (K : own_C p s m meth c Z code "com/example/locant/locant/AtomicTypePrimitivePinLaw" .boolean 4) :
    own_E p l e room_1 s m args below meth c h 5 #[.val (.int k), .val (.int (21 : Int32)), .unset, .unset] [] (.int 1) := by
  refine own_iloadN K (pc := 5) at_5 rfl ?_
  refine own_callS K (pc := 6) (W := 0) (rest := []) (argsL := [(.int (21 : Int32))]) (u := (.ref (A 21))) (pk_21 l Z a0 h hw A F) (hw _ (List.mem_of_getElem? (i := 0) rfl)) (hw _ (List.mem_of_getElem? (i := 1) rfl)) (hw _ (List.mem_of_getElem? (i := 2) rfl)) (hw _ (List.mem_of_getElem? (i := 3) rfl)) (by decide) at_6 pd_1 rfl rfl rfl (Nat.le_of_eq rfl) (by decide) (by decide) ?_
  refine own_astoreN K (pc := 9) (Ls' := #[.val (.int k), .val (.int (21 : Int32)), .val (.ref (A 21)), .unset]) at_9 rfl rfl ?_
  refine own_iloadN K (pc := 10) at_10 rfl ?_
  refine own_iconst K (pc := 11) at_11 (x := (2 : Int32)) (by decide) ?_
  refine own_icmpY K (pc := 12) (pc' := 20) at_12 (by decide) (by decide) (by decide) ?_
  refine own_iloadN K (pc := 20) at_20 rfl ?_
  refine own_bipush K (pc := 21) at_21 (x := (11 : Int32)) (by decide) ?_
  refine own_icmpY K (pc := 23) (pc' := 33) at_23 (by decide) (by decide) (by decide) ?_
  refine own_iloadN K (pc := 33) at_33 rfl ?_
  refine own_bipush K (pc := 34) at_34 (x := (18 : Int32)) (by decide) ?_
  refine own_icmpY K (pc := 36) (pc' := 44) at_36 (by decide) (by decide) (by decide) ?_
  refine own_getS K (pc := 44) (hw _ (List.mem_of_getElem? (i := 36) rfl)) F.2.1.2.2.2.2.2.2.2.2.2.2.2.2.1 at_44 ?_
  refine own_astoreN K (pc := 47) (Ls' := #[.val (.int k), .val (.int (21 : Int32)), .val (.ref (A 21)), .val (.ref (A 18))]) at_47 rfl rfl ?_
  refine own_aloadN K (pc := 48) at_48 rfl rfl ?_
  refine own_callV K (pc := 49) (W := 0) (rest := []) (argsL := []) (u := (.ref (A 18))) (pm_21 l Z a0 h hw A F) F.2.1.2.2.2.2.2.2.2.2.2.2.2.2.2.2.2.2.2.2.2.1 (hw _ (List.mem_of_getElem? (i := 7) rfl)) (hw _ (List.mem_of_getElem? (i := 8) rfl)) (hw _ (List.mem_of_getElem? (i := 10) rfl)) (hw _ (List.mem_of_getElem? (i := 9) rfl)) (hw _ (List.mem_of_getElem? (i := 11) rfl)) (hw _ (List.mem_of_getElem? (i := 5) rfl)) (by decide) at_49 pd_2 rfl rfl rfl (Nat.le_of_eq rfl) (by decide) (by decide) ?_
  refine own_aloadN K (pc := 52) at_52 rfl rfl ?_
  refine own_acmp K (pc := 53) (pc' := 56) (same := true) at_53 (decide_eq_true rfl) (by decide) (by decide) ?_
  refine own_iconst K (pc := 56) at_56 (x := (1 : Int32)) (by decide) ?_
  refine own_goto K (pc := 57) (pc' := 61) at_57 (by decide) (by decide) ?_
  exact own_retZ K (pc := 61) at_61 (by decide)
set_option maxRecDepth 65536 in
theorem lt_22 (p : Program) (l : Launch) (e : Env) (s : State) (m : MethodId) (args : Array Value) (below : List Frame) (meth : Method) (c : Code) (Z : State) (a0 : Array Value) (h : Heap) (hw : ∀ d ∈ tables_1, d.before a0 Z = true) (k : Int32) (A : Nat → Addr) (F : own_F Z h A) (K : own_C p s m meth c Z code "com/example/locant/locant/AtomicTypePrimitivePinLaw" .boolean 4) :
    own_E p l e room_1 s m args below meth c h 5 #[.val (.int k), .val (.int (22 : Int32)), .unset, .unset] [] (.int 1) := by
  refine own_iloadN K (pc := 5) at_5 rfl ?_
  refine own_callS K (pc := 6) (W := 0) (rest := []) (argsL := [(.int (22 : Int32))]) (u := (.ref (A 22))) (pk_22 l Z a0 h hw A F) (hw _ (List.mem_of_getElem? (i := 0) rfl)) (hw _ (List.mem_of_getElem? (i := 1) rfl)) (hw _ (List.mem_of_getElem? (i := 2) rfl)) (hw _ (List.mem_of_getElem? (i := 3) rfl)) (by decide) at_6 pd_1 rfl rfl rfl (Nat.le_of_eq rfl) (by decide) (by decide) ?_
  refine own_astoreN K (pc := 9) (Ls' := #[.val (.int k), .val (.int (22 : Int32)), .val (.ref (A 22)), .unset]) at_9 rfl rfl ?_
  refine own_iloadN K (pc := 10) at_10 rfl ?_
  refine own_iconst K (pc := 11) at_11 (x := (2 : Int32)) (by decide) ?_
  refine own_icmpY K (pc := 12) (pc' := 20) at_12 (by decide) (by decide) (by decide) ?_
  refine own_iloadN K (pc := 20) at_20 rfl ?_
  refine own_bipush K (pc := 21) at_21 (x := (11 : Int32)) (by decide) ?_
  refine own_icmpY K (pc := 23) (pc' := 33) at_23 (by decide) (by decide) (by decide) ?_
  refine own_iloadN K (pc := 33) at_33 rfl ?_
  refine own_bipush K (pc := 34) at_34 (x := (18 : Int32)) (by decide) ?_
  refine own_icmpY K (pc := 36) (pc' := 44) at_36 (by decide) (by decide) (by decide) ?_
  refine own_getS K (pc := 44) (hw _ (List.mem_of_getElem? (i := 36) rfl)) F.2.1.2.2.2.2.2.2.2.2.2.2.2.2.1 at_44 ?_
  refine own_astoreN K (pc := 47) (Ls' := #[.val (.int k), .val (.int (22 : Int32)), .val (.ref (A 22)), .val (.ref (A 18))]) at_47 rfl rfl ?_
  refine own_aloadN K (pc := 48) at_48 rfl rfl ?_
  refine own_callV K (pc := 49) (W := 0) (rest := []) (argsL := []) (u := (.ref (A 18))) (pm_22 l Z a0 h hw A F) F.2.1.2.2.2.2.2.2.2.2.2.2.2.2.2.2.2.2.2.2.2.2.2.1 (hw _ (List.mem_of_getElem? (i := 7) rfl)) (hw _ (List.mem_of_getElem? (i := 8) rfl)) (hw _ (List.mem_of_getElem? (i := 10) rfl)) (hw _ (List.mem_of_getElem? (i := 9) rfl)) (hw _ (List.mem_of_getElem? (i := 11) rfl)) (hw _ (List.mem_of_getElem? (i := 5) rfl)) (by decide) at_49 pd_2 rfl rfl rfl (Nat.le_of_eq rfl) (by decide) (by decide) ?_
  refine own_aloadN K (pc := 52) at_52 rfl rfl ?_
  refine own_acmp K (pc := 53) (pc' := 56) (same := true) at_53 (decide_eq_true rfl) (by decide) (by decide) ?_
  refine own_iconst K (pc := 56) at_56 (x := (1 : Int32)) (by decide) ?_
  refine own_goto K (pc := 57) (pc' := 61) at_57 (by decide) (by decide) ?_
  exact own_retZ K (pc := 61) at_61 (by decide)
set_option maxRecDepth 65536 in
theorem lt_23 (p : Program) (l : Launch) (e : Env) (s : State) (m : MethodId) (args : Array Value) (below : List Frame) (meth : Method) (c : Code) (Z : State) (a0 : Array Value) (h : Heap) (hw : ∀ d ∈ tables_1, d.before a0 Z = true) (k : Int32) (A : Nat → Addr) (F : own_F Z h A) (K : own_C p s m meth c Z code "com/example/locant/locant/AtomicTypePrimitivePinLaw" .boolean 4) :
    own_E p l e room_1 s m args below meth c h 5 #[.val (.int k), .val (.int (23 : Int32)), .unset, .unset] [] (.int 1) := by
  refine own_iloadN K (pc := 5) at_5 rfl ?_
  refine own_callS K (pc := 6) (W := 0) (rest := []) (argsL := [(.int (23 : Int32))]) (u := (.ref (A 23))) (pk_23 l Z a0 h hw A F) (hw _ (List.mem_of_getElem? (i := 0) rfl)) (hw _ (List.mem_of_getElem? (i := 1) rfl)) (hw _ (List.mem_of_getElem? (i := 2) rfl)) (hw _ (List.mem_of_getElem? (i := 3) rfl)) (by decide) at_6 pd_1 rfl rfl rfl (Nat.le_of_eq rfl) (by decide) (by decide) ?_
  refine own_astoreN K (pc := 9) (Ls' := #[.val (.int k), .val (.int (23 : Int32)), .val (.ref (A 23)), .unset]) at_9 rfl rfl ?_
  refine own_iloadN K (pc := 10) at_10 rfl ?_
  refine own_iconst K (pc := 11) at_11 (x := (2 : Int32)) (by decide) ?_
  refine own_icmpY K (pc := 12) (pc' := 20) at_12 (by decide) (by decide) (by decide) ?_
  refine own_iloadN K (pc := 20) at_20 rfl ?_
  refine own_bipush K (pc := 21) at_21 (x := (11 : Int32)) (by decide) ?_
  refine own_icmpY K (pc := 23) (pc' := 33) at_23 (by decide) (by decide) (by decide) ?_
  refine own_iloadN K (pc := 33) at_33 rfl ?_
  refine own_bipush K (pc := 34) at_34 (x := (18 : Int32)) (by decide) ?_
  refine own_icmpY K (pc := 36) (pc' := 44) at_36 (by decide) (by decide) (by decide) ?_
  refine own_getS K (pc := 44) (hw _ (List.mem_of_getElem? (i := 36) rfl)) F.2.1.2.2.2.2.2.2.2.2.2.2.2.2.1 at_44 ?_
  refine own_astoreN K (pc := 47) (Ls' := #[.val (.int k), .val (.int (23 : Int32)), .val (.ref (A 23)), .val (.ref (A 18))]) at_47 rfl rfl ?_
  refine own_aloadN K (pc := 48) at_48 rfl rfl ?_
  refine own_callV K (pc := 49) (W := 0) (rest := []) (argsL := []) (u := (.ref (A 18))) (pm_23 l Z a0 h hw A F) F.2.1.2.2.2.2.2.2.2.2.2.2.2.2.2.2.2.2.2.2.2.2.2.2.2 (hw _ (List.mem_of_getElem? (i := 7) rfl)) (hw _ (List.mem_of_getElem? (i := 8) rfl)) (hw _ (List.mem_of_getElem? (i := 10) rfl)) (hw _ (List.mem_of_getElem? (i := 9) rfl)) (hw _ (List.mem_of_getElem? (i := 11) rfl)) (hw _ (List.mem_of_getElem? (i := 5) rfl)) (by decide) at_49 pd_2 rfl rfl rfl (Nat.le_of_eq rfl) (by decide) (by decide) ?_
  refine own_aloadN K (pc := 52) at_52 rfl rfl ?_
  refine own_acmp K (pc := 53) (pc' := 56) (same := true) at_53 (decide_eq_true rfl) (by decide) (by decide) ?_
  refine own_iconst K (pc := 56) at_56 (x := (1 : Int32)) (by decide) ?_
  refine own_goto K (pc := 57) (pc' := 61) at_57 (by decide) (by decide) ?_
  exact own_retZ K (pc := 61) at_61 (by decide)
set_option maxRecDepth 65536 in
theorem lt_24 (p : Program) (l : Launch) (e : Env) (s : State) (m : MethodId) (args : Array Value) (below : List Frame) (meth : Method) (c : Code) (Z : State) (a0 : Array Value) (h : Heap) (hw : ∀ d ∈ tables_1, d.before a0 Z = true) (k : Int32) (A : Nat → Addr) (F : own_F Z h A) (K : own_C p s m meth c Z code "com/example/locant/locant/AtomicTypePrimitivePinLaw" .boolean 4) :
    own_E p l e room_1 s m args below meth c h 5 #[.val (.int k), .val (.int (24 : Int32)), .unset, .unset] [] (.int 1) := by
  refine own_iloadN K (pc := 5) at_5 rfl ?_
  refine own_callS K (pc := 6) (W := 0) (rest := []) (argsL := [(.int (24 : Int32))]) (u := (.ref (A 24))) (pk_24 l Z a0 h hw A F) (hw _ (List.mem_of_getElem? (i := 0) rfl)) (hw _ (List.mem_of_getElem? (i := 1) rfl)) (hw _ (List.mem_of_getElem? (i := 2) rfl)) (hw _ (List.mem_of_getElem? (i := 3) rfl)) (by decide) at_6 pd_1 rfl rfl rfl (Nat.le_of_eq rfl) (by decide) (by decide) ?_
  refine own_astoreN K (pc := 9) (Ls' := #[.val (.int k), .val (.int (24 : Int32)), .val (.ref (A 24)), .unset]) at_9 rfl rfl ?_
  refine own_iloadN K (pc := 10) at_10 rfl ?_
  refine own_iconst K (pc := 11) at_11 (x := (2 : Int32)) (by decide) ?_
  refine own_icmpY K (pc := 12) (pc' := 20) at_12 (by decide) (by decide) (by decide) ?_
  refine own_iloadN K (pc := 20) at_20 rfl ?_
  refine own_bipush K (pc := 21) at_21 (x := (11 : Int32)) (by decide) ?_
  refine own_icmpY K (pc := 23) (pc' := 33) at_23 (by decide) (by decide) (by decide) ?_
  refine own_iloadN K (pc := 33) at_33 rfl ?_
  refine own_bipush K (pc := 34) at_34 (x := (18 : Int32)) (by decide) ?_
  refine own_icmpY K (pc := 36) (pc' := 44) at_36 (by decide) (by decide) (by decide) ?_
  refine own_getS K (pc := 44) (hw _ (List.mem_of_getElem? (i := 36) rfl)) F.2.1.2.2.2.2.2.2.2.2.2.2.2.2.1 at_44 ?_
  refine own_astoreN K (pc := 47) (Ls' := #[.val (.int k), .val (.int (24 : Int32)), .val (.ref (A 24)), .val (.ref (A 18))]) at_47 rfl rfl ?_
  refine own_aloadN K (pc := 48) at_48 rfl rfl ?_
  refine own_callV K (pc := 49) (W := 0) (rest := []) (argsL := []) (u := (.ref (A 18))) (pm_24 l Z a0 h hw A F) F.2.2.1.2.1 (hw _ (List.mem_of_getElem? (i := 7) rfl)) (hw _ (List.mem_of_getElem? (i := 8) rfl)) (hw _ (List.mem_of_getElem? (i := 10) rfl)) (hw _ (List.mem_of_getElem? (i := 9) rfl)) (hw _ (List.mem_of_getElem? (i := 11) rfl)) (hw _ (List.mem_of_getElem? (i := 5) rfl)) (by decide) at_49 pd_2 rfl rfl rfl (Nat.le_of_eq rfl) (by decide) (by decide) ?_
  refine own_aloadN K (pc := 52) at_52 rfl rfl ?_
  refine own_acmp K (pc := 53) (pc' := 56) (same := true) at_53 (decide_eq_true rfl) (by decide) (by decide) ?_
  refine own_iconst K (pc := 56) at_56 (x := (1 : Int32)) (by decide) ?_
  refine own_goto K (pc := 57) (pc' := 61) at_57 (by decide) (by decide) ?_
  exact own_retZ K (pc := 61) at_61 (by decide)
set_option maxRecDepth 65536 in
theorem lt_25 (p : Program) (l : Launch) (e : Env) (s : State) (m : MethodId) (args : Array Value) (below : List Frame) (meth : Method) (c : Code) (Z : State) (a0 : Array Value) (h : Heap) (hw : ∀ d ∈ tables_1, d.before a0 Z = true) (k : Int32) (A : Nat → Addr) (F : own_F Z h A) (K : own_C p s m meth c Z code "com/example/locant/locant/AtomicTypePrimitivePinLaw" .boolean 4) :
    own_E p l e room_1 s m args below meth c h 5 #[.val (.int k), .val (.int (25 : Int32)), .unset, .unset] [] (.int 1) := by
  refine own_iloadN K (pc := 5) at_5 rfl ?_
  refine own_callS K (pc := 6) (W := 0) (rest := []) (argsL := [(.int (25 : Int32))]) (u := (.ref (A 25))) (pk_25 l Z a0 h hw A F) (hw _ (List.mem_of_getElem? (i := 0) rfl)) (hw _ (List.mem_of_getElem? (i := 1) rfl)) (hw _ (List.mem_of_getElem? (i := 2) rfl)) (hw _ (List.mem_of_getElem? (i := 3) rfl)) (by decide) at_6 pd_1 rfl rfl rfl (Nat.le_of_eq rfl) (by decide) (by decide) ?_
  refine own_astoreN K (pc := 9) (Ls' := #[.val (.int k), .val (.int (25 : Int32)), .val (.ref (A 25)), .unset]) at_9 rfl rfl ?_
  refine own_iloadN K (pc := 10) at_10 rfl ?_
  refine own_iconst K (pc := 11) at_11 (x := (2 : Int32)) (by decide) ?_
  refine own_icmpY K (pc := 12) (pc' := 20) at_12 (by decide) (by decide) (by decide) ?_
  refine own_iloadN K (pc := 20) at_20 rfl ?_
  refine own_bipush K (pc := 21) at_21 (x := (11 : Int32)) (by decide) ?_
  refine own_icmpY K (pc := 23) (pc' := 33) at_23 (by decide) (by decide) (by decide) ?_
  refine own_iloadN K (pc := 33) at_33 rfl ?_
  refine own_bipush K (pc := 34) at_34 (x := (18 : Int32)) (by decide) ?_
  refine own_icmpY K (pc := 36) (pc' := 44) at_36 (by decide) (by decide) (by decide) ?_
  refine own_getS K (pc := 44) (hw _ (List.mem_of_getElem? (i := 36) rfl)) F.2.1.2.2.2.2.2.2.2.2.2.2.2.2.1 at_44 ?_
  refine own_astoreN K (pc := 47) (Ls' := #[.val (.int k), .val (.int (25 : Int32)), .val (.ref (A 25)), .val (.ref (A 18))]) at_47 rfl rfl ?_
  refine own_aloadN K (pc := 48) at_48 rfl rfl ?_
  refine own_callV K (pc := 49) (W := 0) (rest := []) (argsL := []) (u := (.ref (A 18))) (pm_25 l Z a0 h hw A F) F.2.2.1.2.2.2.1 (hw _ (List.mem_of_getElem? (i := 7) rfl)) (hw _ (List.mem_of_getElem? (i := 8) rfl)) (hw _ (List.mem_of_getElem? (i := 10) rfl)) (hw _ (List.mem_of_getElem? (i := 9) rfl)) (hw _ (List.mem_of_getElem? (i := 11) rfl)) (hw _ (List.mem_of_getElem? (i := 5) rfl)) (by decide) at_49 pd_2 rfl rfl rfl (Nat.le_of_eq rfl) (by decide) (by decide) ?_
  refine own_aloadN K (pc := 52) at_52 rfl rfl ?_
  refine own_acmp K (pc := 53) (pc' := 56) (same := true) at_53 (decide_eq_true rfl) (by decide) (by decide) ?_
  refine own_iconst K (pc := 56) at_56 (x := (1 : Int32)) (by decide) ?_
  refine own_goto K (pc := 57) (pc' := 61) at_57 (by decide) (by decide) ?_
  exact own_retZ K (pc := 61) at_61 (by decide)
set_option maxRecDepth 65536 in
theorem lt_26 (p : Program) (l : Launch) (e : Env) (s : State) (m : MethodId) (args : Array Value) (below : List Frame) (meth : Method) (c : Code) (Z : State) (a0 : Array Value) (h : Heap) (hw : ∀ d ∈ tables_1, d.before a0 Z = true) (k : Int32) (A : Nat → Addr) (F : own_F Z h A) (K : own_C p s m meth c Z code "com/example/locant/locant/AtomicTypePrimitivePinLaw" .boolean 4) :
    own_E p l e room_1 s m args below meth c h 5 #[.val (.int k), .val (.int (26 : Int32)), .unset, .unset] [] (.int 1) := by
  refine own_iloadN K (pc := 5) at_5 rfl ?_
  refine own_callS K (pc := 6) (W := 0) (rest := []) (argsL := [(.int (26 : Int32))]) (u := (.ref (A 26))) (pk_26 l Z a0 h hw A F) (hw _ (List.mem_of_getElem? (i := 0) rfl)) (hw _ (List.mem_of_getElem? (i := 1) rfl)) (hw _ (List.mem_of_getElem? (i := 2) rfl)) (hw _ (List.mem_of_getElem? (i := 3) rfl)) (by decide) at_6 pd_1 rfl rfl rfl (Nat.le_of_eq rfl) (by decide) (by decide) ?_
  refine own_astoreN K (pc := 9) (Ls' := #[.val (.int k), .val (.int (26 : Int32)), .val (.ref (A 26)), .unset]) at_9 rfl rfl ?_
  refine own_iloadN K (pc := 10) at_10 rfl ?_
  refine own_iconst K (pc := 11) at_11 (x := (2 : Int32)) (by decide) ?_
  refine own_icmpY K (pc := 12) (pc' := 20) at_12 (by decide) (by decide) (by decide) ?_
  refine own_iloadN K (pc := 20) at_20 rfl ?_
  refine own_bipush K (pc := 21) at_21 (x := (11 : Int32)) (by decide) ?_
  refine own_icmpY K (pc := 23) (pc' := 33) at_23 (by decide) (by decide) (by decide) ?_
  refine own_iloadN K (pc := 33) at_33 rfl ?_
  refine own_bipush K (pc := 34) at_34 (x := (18 : Int32)) (by decide) ?_
  refine own_icmpY K (pc := 36) (pc' := 44) at_36 (by decide) (by decide) (by decide) ?_
  refine own_getS K (pc := 44) (hw _ (List.mem_of_getElem? (i := 36) rfl)) F.2.1.2.2.2.2.2.2.2.2.2.2.2.2.1 at_44 ?_
  refine own_astoreN K (pc := 47) (Ls' := #[.val (.int k), .val (.int (26 : Int32)), .val (.ref (A 26)), .val (.ref (A 18))]) at_47 rfl rfl ?_
  refine own_aloadN K (pc := 48) at_48 rfl rfl ?_
  refine own_callV K (pc := 49) (W := 0) (rest := []) (argsL := []) (u := (.ref (A 18))) (pm_26 l Z a0 h hw A F) F.2.2.1.2.2.2.2.2.1 (hw _ (List.mem_of_getElem? (i := 7) rfl)) (hw _ (List.mem_of_getElem? (i := 8) rfl)) (hw _ (List.mem_of_getElem? (i := 10) rfl)) (hw _ (List.mem_of_getElem? (i := 9) rfl)) (hw _ (List.mem_of_getElem? (i := 11) rfl)) (hw _ (List.mem_of_getElem? (i := 5) rfl)) (by decide) at_49 pd_2 rfl rfl rfl (Nat.le_of_eq rfl) (by decide) (by decide) ?_
  refine own_aloadN K (pc := 52) at_52 rfl rfl ?_
  refine own_acmp K (pc := 53) (pc' := 56) (same := true) at_53 (decide_eq_true rfl) (by decide) (by decide) ?_
  refine own_iconst K (pc := 56) at_56 (x := (1 : Int32)) (by decide) ?_
  refine own_goto K (pc := 57) (pc' := 61) at_57 (by decide) (by decide) ?_
  exact own_retZ K (pc := 61) at_61 (by decide)
set_option maxRecDepth 65536 in
theorem lt_27 (p : Program) (l : Launch) (e : Env) (s : State) (m : MethodId) (args : Array Value) (below : List Frame) (meth : Method) (c : Code) (Z : State) (a0 : Array Value) (h : Heap) (hw : ∀ d ∈ tables_1, d.before a0 Z = true) (k : Int32) (A : Nat → Addr) (F : own_F Z h A) (K : own_C p s m meth c Z code "com/example/locant/locant/AtomicTypePrimitivePinLaw" .boolean 4) :
    own_E p l e room_1 s m args below meth c h 5 #[.val (.int k), .val (.int (27 : Int32)), .unset, .unset] [] (.int 1) := by
  refine own_iloadN K (pc := 5) at_5 rfl ?_
  refine own_callS K (pc := 6) (W := 0) (rest := []) (argsL := [(.int (27 : Int32))]) (u := (.ref (A 27))) (pk_27 l Z a0 h hw A F) (hw _ (List.mem_of_getElem? (i := 0) rfl)) (hw _ (List.mem_of_getElem? (i := 1) rfl)) (hw _ (List.mem_of_getElem? (i := 2) rfl)) (hw _ (List.mem_of_getElem? (i := 3) rfl)) (by decide) at_6 pd_1 rfl rfl rfl (Nat.le_of_eq rfl) (by decide) (by decide) ?_
  refine own_astoreN K (pc := 9) (Ls' := #[.val (.int k), .val (.int (27 : Int32)), .val (.ref (A 27)), .unset]) at_9 rfl rfl ?_
  refine own_iloadN K (pc := 10) at_10 rfl ?_
  refine own_iconst K (pc := 11) at_11 (x := (2 : Int32)) (by decide) ?_
  refine own_icmpY K (pc := 12) (pc' := 20) at_12 (by decide) (by decide) (by decide) ?_
  refine own_iloadN K (pc := 20) at_20 rfl ?_
  refine own_bipush K (pc := 21) at_21 (x := (11 : Int32)) (by decide) ?_
  refine own_icmpY K (pc := 23) (pc' := 33) at_23 (by decide) (by decide) (by decide) ?_
  refine own_iloadN K (pc := 33) at_33 rfl ?_
  refine own_bipush K (pc := 34) at_34 (x := (18 : Int32)) (by decide) ?_
  refine own_icmpY K (pc := 36) (pc' := 44) at_36 (by decide) (by decide) (by decide) ?_
  refine own_getS K (pc := 44) (hw _ (List.mem_of_getElem? (i := 36) rfl)) F.2.1.2.2.2.2.2.2.2.2.2.2.2.2.1 at_44 ?_
  refine own_astoreN K (pc := 47) (Ls' := #[.val (.int k), .val (.int (27 : Int32)), .val (.ref (A 27)), .val (.ref (A 18))]) at_47 rfl rfl ?_
  refine own_aloadN K (pc := 48) at_48 rfl rfl ?_
  refine own_callV K (pc := 49) (W := 0) (rest := []) (argsL := []) (u := (.ref (A 18))) (pm_27 l Z a0 h hw A F) F.2.2.1.2.2.2.2.2.2.2.1 (hw _ (List.mem_of_getElem? (i := 7) rfl)) (hw _ (List.mem_of_getElem? (i := 8) rfl)) (hw _ (List.mem_of_getElem? (i := 10) rfl)) (hw _ (List.mem_of_getElem? (i := 9) rfl)) (hw _ (List.mem_of_getElem? (i := 11) rfl)) (hw _ (List.mem_of_getElem? (i := 5) rfl)) (by decide) at_49 pd_2 rfl rfl rfl (Nat.le_of_eq rfl) (by decide) (by decide) ?_
  refine own_aloadN K (pc := 52) at_52 rfl rfl ?_
  refine own_acmp K (pc := 53) (pc' := 56) (same := true) at_53 (decide_eq_true rfl) (by decide) (by decide) ?_
  refine own_iconst K (pc := 56) at_56 (x := (1 : Int32)) (by decide) ?_
  refine own_goto K (pc := 57) (pc' := 61) at_57 (by decide) (by decide) ?_
  exact own_retZ K (pc := 61) at_61 (by decide)
set_option maxRecDepth 65536 in
theorem lt_28 (p : Program) (l : Launch) (e : Env) (s : State) (m : MethodId) (args : Array Value) (below : List Frame) (meth : Method) (c : Code) (Z : State) (a0 : Array Value) (h : Heap) (hw : ∀ d ∈ tables_1, d.before a0 Z = true) (k : Int32) (A : Nat → Addr) (F : own_F Z h A) (K : own_C p s m meth c Z code "com/example/locant/locant/AtomicTypePrimitivePinLaw" .boolean 4) :
    own_E p l e room_1 s m args below meth c h 5 #[.val (.int k), .val (.int (28 : Int32)), .unset, .unset] [] (.int 1) := by
  refine own_iloadN K (pc := 5) at_5 rfl ?_
  refine own_callS K (pc := 6) (W := 0) (rest := []) (argsL := [(.int (28 : Int32))]) (u := (.ref (A 28))) (pk_28 l Z a0 h hw A F) (hw _ (List.mem_of_getElem? (i := 0) rfl)) (hw _ (List.mem_of_getElem? (i := 1) rfl)) (hw _ (List.mem_of_getElem? (i := 2) rfl)) (hw _ (List.mem_of_getElem? (i := 3) rfl)) (by decide) at_6 pd_1 rfl rfl rfl (Nat.le_of_eq rfl) (by decide) (by decide) ?_
  refine own_astoreN K (pc := 9) (Ls' := #[.val (.int k), .val (.int (28 : Int32)), .val (.ref (A 28)), .unset]) at_9 rfl rfl ?_
  refine own_iloadN K (pc := 10) at_10 rfl ?_
  refine own_iconst K (pc := 11) at_11 (x := (2 : Int32)) (by decide) ?_
  refine own_icmpY K (pc := 12) (pc' := 20) at_12 (by decide) (by decide) (by decide) ?_
  refine own_iloadN K (pc := 20) at_20 rfl ?_
  refine own_bipush K (pc := 21) at_21 (x := (11 : Int32)) (by decide) ?_
  refine own_icmpY K (pc := 23) (pc' := 33) at_23 (by decide) (by decide) (by decide) ?_
  refine own_iloadN K (pc := 33) at_33 rfl ?_
  refine own_bipush K (pc := 34) at_34 (x := (18 : Int32)) (by decide) ?_
  refine own_icmpY K (pc := 36) (pc' := 44) at_36 (by decide) (by decide) (by decide) ?_
  refine own_getS K (pc := 44) (hw _ (List.mem_of_getElem? (i := 36) rfl)) F.2.1.2.2.2.2.2.2.2.2.2.2.2.2.1 at_44 ?_
  refine own_astoreN K (pc := 47) (Ls' := #[.val (.int k), .val (.int (28 : Int32)), .val (.ref (A 28)), .val (.ref (A 18))]) at_47 rfl rfl ?_
  refine own_aloadN K (pc := 48) at_48 rfl rfl ?_
  refine own_callV K (pc := 49) (W := 0) (rest := []) (argsL := []) (u := (.ref (A 18))) (pm_28 l Z a0 h hw A F) F.2.2.1.2.2.2.2.2.2.2.2.2.1 (hw _ (List.mem_of_getElem? (i := 7) rfl)) (hw _ (List.mem_of_getElem? (i := 8) rfl)) (hw _ (List.mem_of_getElem? (i := 10) rfl)) (hw _ (List.mem_of_getElem? (i := 9) rfl)) (hw _ (List.mem_of_getElem? (i := 11) rfl)) (hw _ (List.mem_of_getElem? (i := 5) rfl)) (by decide) at_49 pd_2 rfl rfl rfl (Nat.le_of_eq rfl) (by decide) (by decide) ?_
  refine own_aloadN K (pc := 52) at_52 rfl rfl ?_
  refine own_acmp K (pc := 53) (pc' := 56) (same := true) at_53 (decide_eq_true rfl) (by decide) (by decide) ?_
  refine own_iconst K (pc := 56) at_56 (x := (1 : Int32)) (by decide) ?_
  refine own_goto K (pc := 57) (pc' := 61) at_57 (by decide) (by decide) ?_
  exact own_retZ K (pc := 61) at_61 (by decide)
set_option maxRecDepth 65536 in
theorem lt_29 (p : Program) (l : Launch) (e : Env) (s : State) (m : MethodId) (args : Array Value) (below : List Frame) (meth : Method) (c : Code) (Z : State) (a0 : Array Value) (h : Heap) (hw : ∀ d ∈ tables_1, d.before a0 Z = true) (k : Int32) (A : Nat → Addr) (F : own_F Z h A) (K : own_C p s m meth c Z code "com/example/locant/locant/AtomicTypePrimitivePinLaw" .boolean 4) :
    own_E p l e room_1 s m args below meth c h 5 #[.val (.int k), .val (.int (29 : Int32)), .unset, .unset] [] (.int 1) := by
  refine own_iloadN K (pc := 5) at_5 rfl ?_
  refine own_callS K (pc := 6) (W := 0) (rest := []) (argsL := [(.int (29 : Int32))]) (u := (.ref (A 29))) (pk_29 l Z a0 h hw A F) (hw _ (List.mem_of_getElem? (i := 0) rfl)) (hw _ (List.mem_of_getElem? (i := 1) rfl)) (hw _ (List.mem_of_getElem? (i := 2) rfl)) (hw _ (List.mem_of_getElem? (i := 3) rfl)) (by decide) at_6 pd_1 rfl rfl rfl (Nat.le_of_eq rfl) (by decide) (by decide) ?_
  refine own_astoreN K (pc := 9) (Ls' := #[.val (.int k), .val (.int (29 : Int32)), .val (.ref (A 29)), .unset]) at_9 rfl rfl ?_
  refine own_iloadN K (pc := 10) at_10 rfl ?_
  refine own_iconst K (pc := 11) at_11 (x := (2 : Int32)) (by decide) ?_
  refine own_icmpY K (pc := 12) (pc' := 20) at_12 (by decide) (by decide) (by decide) ?_
  refine own_iloadN K (pc := 20) at_20 rfl ?_
  refine own_bipush K (pc := 21) at_21 (x := (11 : Int32)) (by decide) ?_
  refine own_icmpY K (pc := 23) (pc' := 33) at_23 (by decide) (by decide) (by decide) ?_
  refine own_iloadN K (pc := 33) at_33 rfl ?_
  refine own_bipush K (pc := 34) at_34 (x := (18 : Int32)) (by decide) ?_
  refine own_icmpY K (pc := 36) (pc' := 44) at_36 (by decide) (by decide) (by decide) ?_
  refine own_getS K (pc := 44) (hw _ (List.mem_of_getElem? (i := 36) rfl)) F.2.1.2.2.2.2.2.2.2.2.2.2.2.2.1 at_44 ?_
  refine own_astoreN K (pc := 47) (Ls' := #[.val (.int k), .val (.int (29 : Int32)), .val (.ref (A 29)), .val (.ref (A 18))]) at_47 rfl rfl ?_
  refine own_aloadN K (pc := 48) at_48 rfl rfl ?_
  refine own_callV K (pc := 49) (W := 0) (rest := []) (argsL := []) (u := (.ref (A 18))) (pm_29 l Z a0 h hw A F) F.2.2.1.2.2.2.2.2.2.2.2.2.2.2.1 (hw _ (List.mem_of_getElem? (i := 7) rfl)) (hw _ (List.mem_of_getElem? (i := 8) rfl)) (hw _ (List.mem_of_getElem? (i := 10) rfl)) (hw _ (List.mem_of_getElem? (i := 9) rfl)) (hw _ (List.mem_of_getElem? (i := 11) rfl)) (hw _ (List.mem_of_getElem? (i := 5) rfl)) (by decide) at_49 pd_2 rfl rfl rfl (Nat.le_of_eq rfl) (by decide) (by decide) ?_
  refine own_aloadN K (pc := 52) at_52 rfl rfl ?_
  refine own_acmp K (pc := 53) (pc' := 56) (same := true) at_53 (decide_eq_true rfl) (by decide) (by decide) ?_
  refine own_iconst K (pc := 56) at_56 (x := (1 : Int32)) (by decide) ?_
  refine own_goto K (pc := 57) (pc' := 61) at_57 (by decide) (by decide) ?_
  exact own_retZ K (pc := 61) at_61 (by decide)
set_option maxRecDepth 65536 in
theorem lt_30 (p : Program) (l : Launch) (e : Env) (s : State) (m : MethodId) (args : Array Value) (below : List Frame) (meth : Method) (c : Code) (Z : State) (a0 : Array Value) (h : Heap) (hw : ∀ d ∈ tables_1, d.before a0 Z = true) (k : Int32) (A : Nat → Addr) (F : own_F Z h A) (K : own_C p s m meth c Z code "com/example/locant/locant/AtomicTypePrimitivePinLaw" .boolean 4) :
    own_E p l e room_1 s m args below meth c h 5 #[.val (.int k), .val (.int (30 : Int32)), .unset, .unset] [] (.int 1) := by
  refine own_iloadN K (pc := 5) at_5 rfl ?_
  refine own_callS K (pc := 6) (W := 0) (rest := []) (argsL := [(.int (30 : Int32))]) (u := (.ref (A 30))) (pk_30 l Z a0 h hw A F) (hw _ (List.mem_of_getElem? (i := 0) rfl)) (hw _ (List.mem_of_getElem? (i := 1) rfl)) (hw _ (List.mem_of_getElem? (i := 2) rfl)) (hw _ (List.mem_of_getElem? (i := 3) rfl)) (by decide) at_6 pd_1 rfl rfl rfl (Nat.le_of_eq rfl) (by decide) (by decide) ?_
  refine own_astoreN K (pc := 9) (Ls' := #[.val (.int k), .val (.int (30 : Int32)), .val (.ref (A 30)), .unset]) at_9 rfl rfl ?_
  refine own_iloadN K (pc := 10) at_10 rfl ?_
  refine own_iconst K (pc := 11) at_11 (x := (2 : Int32)) (by decide) ?_
  refine own_icmpY K (pc := 12) (pc' := 20) at_12 (by decide) (by decide) (by decide) ?_
  refine own_iloadN K (pc := 20) at_20 rfl ?_
  refine own_bipush K (pc := 21) at_21 (x := (11 : Int32)) (by decide) ?_
  refine own_icmpY K (pc := 23) (pc' := 33) at_23 (by decide) (by decide) (by decide) ?_
  refine own_iloadN K (pc := 33) at_33 rfl ?_
  refine own_bipush K (pc := 34) at_34 (x := (18 : Int32)) (by decide) ?_
  refine own_icmpY K (pc := 36) (pc' := 44) at_36 (by decide) (by decide) (by decide) ?_
  refine own_getS K (pc := 44) (hw _ (List.mem_of_getElem? (i := 36) rfl)) F.2.1.2.2.2.2.2.2.2.2.2.2.2.2.1 at_44 ?_
  refine own_astoreN K (pc := 47) (Ls' := #[.val (.int k), .val (.int (30 : Int32)), .val (.ref (A 30)), .val (.ref (A 18))]) at_47 rfl rfl ?_
  refine own_aloadN K (pc := 48) at_48 rfl rfl ?_
  refine own_callV K (pc := 49) (W := 0) (rest := []) (argsL := []) (u := (.ref (A 18))) (pm_30 l Z a0 h hw A F) F.2.2.1.2.2.2.2.2.2.2.2.2.2.2.2.2.1 (hw _ (List.mem_of_getElem? (i := 7) rfl)) (hw _ (List.mem_of_getElem? (i := 8) rfl)) (hw _ (List.mem_of_getElem? (i := 10) rfl)) (hw _ (List.mem_of_getElem? (i := 9) rfl)) (hw _ (List.mem_of_getElem? (i := 11) rfl)) (hw _ (List.mem_of_getElem? (i := 5) rfl)) (by decide) at_49 pd_2 rfl rfl rfl (Nat.le_of_eq rfl) (by decide) (by decide) ?_
  refine own_aloadN K (pc := 52) at_52 rfl rfl ?_
  refine own_acmp K (pc := 53) (pc' := 56) (same := true) at_53 (decide_eq_true rfl) (by decide) (by decide) ?_
  refine own_iconst K (pc := 56) at_56 (x := (1 : Int32)) (by decide) ?_
  refine own_goto K (pc := 57) (pc' := 61) at_57 (by decide) (by decide) ?_
  exact own_retZ K (pc := 61) at_61 (by decide)
set_option maxRecDepth 65536 in
theorem lt_31 (p : Program) (l : Launch) (e : Env) (s : State) (m : MethodId) (args : Array Value) (below : List Frame) (meth : Method) (c : Code) (Z : State) (a0 : Array Value) (h : Heap) (hw : ∀ d ∈ tables_1, d.before a0 Z = true) (k : Int32) (A : Nat → Addr) (F : own_F Z h A) (K : own_C p s m meth c Z code "com/example/locant/locant/AtomicTypePrimitivePinLaw" .boolean 4) :
    own_E p l e room_1 s m args below meth c h 5 #[.val (.int k), .val (.int (31 : Int32)), .unset, .unset] [] (.int 1) := by
  refine own_iloadN K (pc := 5) at_5 rfl ?_
  refine own_callS K (pc := 6) (W := 0) (rest := []) (argsL := [(.int (31 : Int32))]) (u := (.ref (A 31))) (pk_31 l Z a0 h hw A F) (hw _ (List.mem_of_getElem? (i := 0) rfl)) (hw _ (List.mem_of_getElem? (i := 1) rfl)) (hw _ (List.mem_of_getElem? (i := 2) rfl)) (hw _ (List.mem_of_getElem? (i := 3) rfl)) (by decide) at_6 pd_1 rfl rfl rfl (Nat.le_of_eq rfl) (by decide) (by decide) ?_
  refine own_astoreN K (pc := 9) (Ls' := #[.val (.int k), .val (.int (31 : Int32)), .val (.ref (A 31)), .unset]) at_9 rfl rfl ?_
  refine own_iloadN K (pc := 10) at_10 rfl ?_
  refine own_iconst K (pc := 11) at_11 (x := (2 : Int32)) (by decide) ?_
  refine own_icmpY K (pc := 12) (pc' := 20) at_12 (by decide) (by decide) (by decide) ?_
  refine own_iloadN K (pc := 20) at_20 rfl ?_
  refine own_bipush K (pc := 21) at_21 (x := (11 : Int32)) (by decide) ?_
  refine own_icmpY K (pc := 23) (pc' := 33) at_23 (by decide) (by decide) (by decide) ?_
  refine own_iloadN K (pc := 33) at_33 rfl ?_
  refine own_bipush K (pc := 34) at_34 (x := (18 : Int32)) (by decide) ?_
  refine own_icmpY K (pc := 36) (pc' := 44) at_36 (by decide) (by decide) (by decide) ?_
  refine own_getS K (pc := 44) (hw _ (List.mem_of_getElem? (i := 36) rfl)) F.2.1.2.2.2.2.2.2.2.2.2.2.2.2.1 at_44 ?_
  refine own_astoreN K (pc := 47) (Ls' := #[.val (.int k), .val (.int (31 : Int32)), .val (.ref (A 31)), .val (.ref (A 18))]) at_47 rfl rfl ?_
  refine own_aloadN K (pc := 48) at_48 rfl rfl ?_
  refine own_callV K (pc := 49) (W := 0) (rest := []) (argsL := []) (u := (.ref (A 18))) (pm_31 l Z a0 h hw A F) F.2.2.1.2.2.2.2.2.2.2.2.2.2.2.2.2.2.2.1 (hw _ (List.mem_of_getElem? (i := 7) rfl)) (hw _ (List.mem_of_getElem? (i := 8) rfl)) (hw _ (List.mem_of_getElem? (i := 10) rfl)) (hw _ (List.mem_of_getElem? (i := 9) rfl)) (hw _ (List.mem_of_getElem? (i := 11) rfl)) (hw _ (List.mem_of_getElem? (i := 5) rfl)) (by decide) at_49 pd_2 rfl rfl rfl (Nat.le_of_eq rfl) (by decide) (by decide) ?_
  refine own_aloadN K (pc := 52) at_52 rfl rfl ?_
  refine own_acmp K (pc := 53) (pc' := 56) (same := true) at_53 (decide_eq_true rfl) (by decide) (by decide) ?_
  refine own_iconst K (pc := 56) at_56 (x := (1 : Int32)) (by decide) ?_
  refine own_goto K (pc := 57) (pc' := 61) at_57 (by decide) (by decide) ?_
  exact own_retZ K (pc := 61) at_61 (by decide)
set_option maxRecDepth 65536 in
theorem lh (p : Program) (l : Launch) (e : Env) (s : State) (m : MethodId) (args : Array Value) (below : List Frame) (meth : Method) (c : Code) (Z : State) (a0 : Array Value) (h : Heap) (hw : ∀ d ∈ tables_1, d.before a0 Z = true) (k : Int32) (A : Nat → Addr) (F : own_F Z h A) (K : own_C p s m meth c Z code "com/example/locant/locant/AtomicTypePrimitivePinLaw" .boolean 4) (r : own_E p l e room_1 s m args below meth c h 5 #[.val (.int k), .val (.int (k &&& (31 : Int32))), .unset, .unset] [] (.int 1)) :
    own_E p l e room_1 s m args below meth c h 0 #[.val (.int k), .unset, .unset, .unset] [] (.int 1) := by
  refine own_iloadN K (pc := 0) at_0 rfl ?_
  refine own_bipush K (pc := 1) at_1 (x := (31 : Int32)) (by decide) ?_
  refine own_iand K (pc := 3) at_3 ?_
  refine own_istoreN K (pc := 4) (Ls' := #[.val (.int k), .val (.int (k &&& (31 : Int32))), .unset, .unset]) at_4 rfl ?_
  exact r
set_option maxRecDepth 65536 in
set_option maxHeartbeats 4000000 in
theorem rm0 (l : Launch) (Z : State) (a0 : Array Value) (h : Heap) (hw : ∀ d ∈ tables_1, d.before a0 Z = true) (k : Int32) (A : Nat → Addr) (F : own_F Z h A)  : own_M l x code maxLocals .boolean tables_1 room_1 Z h #[(.int k)] (.int (1 : Int32)) := by
  refine own_met pn_0 (Ls := #[.val (.int k), .unset, .unset, .unset]) (fun m => by first | (simp [entryFrame, mkF, argsToLocals, Value.category, maxLocals]; done) | rfl) ?_
  intro p e s m below meth c K
  refine lh p l e s m _ below meth c Z a0 h hw k A F K ?_
  rcases own_rem k with q | q | q | q | q | q | q | q | q | q | q | q | q | q | q | q | q | q | q | q | q | q | q | q | q | q | q | q | q | q | q | q
  · rw [q]; exact lt_0 p l e s m _ below meth c Z a0 h hw k A F K
  · rw [q]; exact lt_1 p l e s m _ below meth c Z a0 h hw k A F K
  · rw [q]; exact lt_2 p l e s m _ below meth c Z a0 h hw k A F K
  · rw [q]; exact lt_3 p l e s m _ below meth c Z a0 h hw k A F K
  · rw [q]; exact lt_4 p l e s m _ below meth c Z a0 h hw k A F K
  · rw [q]; exact lt_5 p l e s m _ below meth c Z a0 h hw k A F K
  · rw [q]; exact lt_6 p l e s m _ below meth c Z a0 h hw k A F K
  · rw [q]; exact lt_7 p l e s m _ below meth c Z a0 h hw k A F K
  · rw [q]; exact lt_8 p l e s m _ below meth c Z a0 h hw k A F K
  · rw [q]; exact lt_9 p l e s m _ below meth c Z a0 h hw k A F K
  · rw [q]; exact lt_10 p l e s m _ below meth c Z a0 h hw k A F K
  · rw [q]; exact lt_11 p l e s m _ below meth c Z a0 h hw k A F K
  · rw [q]; exact lt_12 p l e s m _ below meth c Z a0 h hw k A F K
  · rw [q]; exact lt_13 p l e s m _ below meth c Z a0 h hw k A F K
  · rw [q]; exact lt_14 p l e s m _ below meth c Z a0 h hw k A F K
  · rw [q]; exact lt_15 p l e s m _ below meth c Z a0 h hw k A F K
  · rw [q]; exact lt_16 p l e s m _ below meth c Z a0 h hw k A F K
  · rw [q]; exact lt_17 p l e s m _ below meth c Z a0 h hw k A F K
  · rw [q]; exact lt_18 p l e s m _ below meth c Z a0 h hw k A F K
  · rw [q]; exact lt_19 p l e s m _ below meth c Z a0 h hw k A F K
  · rw [q]; exact lt_20 p l e s m _ below meth c Z a0 h hw k A F K
  · rw [q]; exact lt_21 p l e s m _ below meth c Z a0 h hw k A F K
  · rw [q]; exact lt_22 p l e s m _ below meth c Z a0 h hw k A F K
  · rw [q]; exact lt_23 p l e s m _ below meth c Z a0 h hw k A F K
  · rw [q]; exact lt_24 p l e s m _ below meth c Z a0 h hw k A F K
  · rw [q]; exact lt_25 p l e s m _ below meth c Z a0 h hw k A F K
  · rw [q]; exact lt_26 p l e s m _ below meth c Z a0 h hw k A F K
  · rw [q]; exact lt_27 p l e s m _ below meth c Z a0 h hw k A F K
  · rw [q]; exact lt_28 p l e s m _ below meth c Z a0 h hw k A F K
  · rw [q]; exact lt_29 p l e s m _ below meth c Z a0 h hw k A F K
  · rw [q]; exact lt_30 p l e s m _ below meth c Z a0 h hw k A F K
  · rw [q]; exact lt_31 p l e s m _ below meth c Z a0 h hw k A F K
set_option maxRecDepth 65536 in
set_option maxHeartbeats 40000000 in
theorem comes_1 {Post : Tables → Env → Array Value → State → Outcome → State → Prop} (hpost : ∀ tb e args s v u, (limb_1_1.after args s (.returned v) u = true ∧ limb_1_2.after args s (.returned v) u = true ∧ True) → FrameEnd s (.returned v) u (Jvm.fieldLocs frame_1_writes args s ++ Jvm.arrayLocs frame_1_arrays args s ++ Jvm.staticLocs frame_1_statics s) 0 0 → Post tb e args s (.returned v) u) :
    ArmFor flags0 classFile x code maxLocals ret World_1 tables_1 room_1 Calls_1 rest_1 Pre_1 Post := by
  intro l hfl _ _ p e ha hc hk s m args below hf hA hF happ hP
  obtain ⟨hcalls, hrest, hpre⟩ := hP
  obtain ⟨-, -, -, hnamed, -, -, -, hat⟩ := (Spec.applies_iff hf).mp happ
  obtain ⟨hg, hn⟩ := and_e (Cond.before_iff.mp (show (Jvm.Cond.and given_1 narrow_1).before args s = true from hpre))
  obtain ⟨h1, h2⟩ := and_e hg
  obtain ⟨w0, rfl⟩ : ∃ w0 : Value, args = #[w0] := by
    have hs : args.size = 1 := by simpa [Cond.value, given_1] using h1
    obtain ⟨L⟩ := args
    match L, hs with
    | [w0], _ => exact ⟨w0, rfl⟩
  have hw := fun d (hd : d ∈ tables_1) => atoms_spec (ws := Jvm.Cond.code x code maxLocals ret :: tables_1) hat d (List.mem_cons_of_mem _ hd)
  obtain ⟨i0, e0⟩ := is_v h2
  obtain rfl : w0 = (.int i0) := Option.some.inj e0
  obtain ⟨c0, hn⟩ := and_e hn
  obtain ⟨c1, hn⟩ := and_e hn
  obtain ⟨c2, hn⟩ := and_e hn
  obtain ⟨c3, hn⟩ := and_e hn
  obtain ⟨c4, hn⟩ := and_e hn
  obtain ⟨c5, hn⟩ := and_e hn
  obtain ⟨c6, hn⟩ := and_e hn
  obtain ⟨c7, hn⟩ := and_e hn
  obtain ⟨c8, hn⟩ := and_e hn
  obtain ⟨c9, hn⟩ := and_e hn
  obtain ⟨c10, hn⟩ := and_e hn
  obtain ⟨c11, hn⟩ := and_e hn
  obtain ⟨c12, hn⟩ := and_e hn
  obtain ⟨c13, hn⟩ := and_e hn
  obtain ⟨c14, hn⟩ := and_e hn
  obtain ⟨c15, hn⟩ := and_e hn
  obtain ⟨c16, hn⟩ := and_e hn
  obtain ⟨c17, hn⟩ := and_e hn
  obtain ⟨c18, hn⟩ := and_e hn
  obtain ⟨c19, hn⟩ := and_e hn
  obtain ⟨c20, hn⟩ := and_e hn
  obtain ⟨c21, hn⟩ := and_e hn
  obtain ⟨c22, hn⟩ := and_e hn
  obtain ⟨c23, hn⟩ := and_e hn
  obtain ⟨c24, hn⟩ := and_e hn
  obtain ⟨c25, hn⟩ := and_e hn
  obtain ⟨c26, hn⟩ := and_e hn
  obtain ⟨c27, hn⟩ := and_e hn
  obtain ⟨c28, hn⟩ := and_e hn
  obtain ⟨c29, hn⟩ := and_e hn
  obtain ⟨c30, hn⟩ := and_e hn
  obtain ⟨c31, hn⟩ := and_e hn
  obtain ⟨c32, hn⟩ := and_e hn
  obtain ⟨c33, hn⟩ := and_e hn
  obtain ⟨c34, hn⟩ := and_e hn
  obtain ⟨c35, hn⟩ := and_e hn
  obtain ⟨c36, hn⟩ := and_e hn
  obtain ⟨c37, hn⟩ := and_e hn
  obtain ⟨c38, hn⟩ := and_e hn
  obtain ⟨c39, hn⟩ := and_e hn
  obtain ⟨c40, hn⟩ := and_e hn
  obtain ⟨c41, hn⟩ := and_e hn
  obtain ⟨c42, hn⟩ := and_e hn
  obtain ⟨c43, hn⟩ := and_e hn
  obtain ⟨c44, hn⟩ := and_e hn
  obtain ⟨c45, hn⟩ := and_e hn
  obtain ⟨c46, hn⟩ := and_e hn
  obtain ⟨c47, hn⟩ := and_e hn
  obtain ⟨c48, hn⟩ := and_e hn
  obtain ⟨c49, hn⟩ := and_e hn
  obtain ⟨c50, hn⟩ := and_e hn
  obtain ⟨c51, hn⟩ := and_e hn
  obtain ⟨c52, hn⟩ := and_e hn
  obtain ⟨c53, hn⟩ := and_e hn
  obtain ⟨c54, hn⟩ := and_e hn
  obtain ⟨c55, hn⟩ := and_e hn
  obtain ⟨c56, hn⟩ := and_e hn
  obtain ⟨c57, hn⟩ := and_e hn
  obtain ⟨c58, hn⟩ := and_e hn
  obtain ⟨c59, hn⟩ := and_e hn
  obtain ⟨c60, hn⟩ := and_e hn
  obtain ⟨c61, hn⟩ := and_e hn
  obtain ⟨c62, hn⟩ := and_e hn
  obtain ⟨c63, hn⟩ := and_e hn
  obtain ⟨c64, hn⟩ := and_e hn
  obtain ⟨c65, hn⟩ := and_e hn
  obtain ⟨c66, hn⟩ := and_e hn
  obtain ⟨c67, hn⟩ := and_e hn
  obtain ⟨c68, hn⟩ := and_e hn
  obtain ⟨c69, hn⟩ := and_e hn
  obtain ⟨c70, hn⟩ := and_e hn
  obtain ⟨c71, hn⟩ := and_e hn
  obtain ⟨c72, hn⟩ := and_e hn
  obtain ⟨c73, hn⟩ := and_e hn
  obtain ⟨c74, hn⟩ := and_e hn
  obtain ⟨c75, hn⟩ := and_e hn
  obtain ⟨c76, hn⟩ := and_e hn
  obtain ⟨c77, hn⟩ := and_e hn
  obtain ⟨c78, c79⟩ := and_e hn
  obtain ⟨x0, v0⟩ := exa_v c0
  have X0 := Exa.start v0 c0
  have S0 := Sta.start v0 (Or.inr ⟨(hw _ (List.mem_of_getElem? (i := 5) rfl)), (hw _ (List.mem_of_getElem? (i := 6) rfl))⟩)
  obtain ⟨x1, v1⟩ := exa_v c26
  have X1 := Exa.start v1 c26
  have S1 := Sta.start v1 (Or.inr ⟨(hw _ (List.mem_of_getElem? (i := 5) rfl)), (hw _ (List.mem_of_getElem? (i := 33) rfl))⟩)
  obtain ⟨x2, v2⟩ := exa_v c3
  have X2 := Exa.start v2 c3
  have S2 := Sta.start v2 (Or.inr ⟨(hw _ (List.mem_of_getElem? (i := 5) rfl)), (hw _ (List.mem_of_getElem? (i := 17) rfl))⟩)
  obtain ⟨x3, v3⟩ := exa_v c2
  have X3 := Exa.start v3 c2
  have S3 := Sta.start v3 (Or.inr ⟨(hw _ (List.mem_of_getElem? (i := 5) rfl)), (hw _ (List.mem_of_getElem? (i := 15) rfl))⟩)
  obtain ⟨x4, v4⟩ := exa_v c19
  have X4 := Exa.start v4 c19
  have S4 := Sta.start v4 (Or.inr ⟨(hw _ (List.mem_of_getElem? (i := 5) rfl)), (hw _ (List.mem_of_getElem? (i := 27) rfl))⟩)
  obtain ⟨x5, v5⟩ := exa_v c73
  have X5 := Exa.start v5 c73
  have S5 := Sta.start v5 (Or.inr ⟨(hw _ (List.mem_of_getElem? (i := 5) rfl)), (hw _ (List.mem_of_getElem? (i := 69) rfl))⟩)
  obtain ⟨x6, v6⟩ := exa_v c64
  have X6 := Exa.start v6 c64
  have S6 := Sta.start v6 (Or.inr ⟨(hw _ (List.mem_of_getElem? (i := 5) rfl)), (hw _ (List.mem_of_getElem? (i := 61) rfl))⟩)
  obtain ⟨x7, v7⟩ := exa_v c16
  have X7 := Exa.start v7 c16
  have S7 := Sta.start v7 (Or.inr ⟨(hw _ (List.mem_of_getElem? (i := 5) rfl)), (hw _ (List.mem_of_getElem? (i := 26) rfl))⟩)
  obtain ⟨x8, v8⟩ := exa_v c13
  have X8 := Exa.start v8 c13
  have S8 := Sta.start v8 (Or.inr ⟨(hw _ (List.mem_of_getElem? (i := 5) rfl)), (hw _ (List.mem_of_getElem? (i := 25) rfl))⟩)
  obtain ⟨x9, v9⟩ := exa_v c66
  have X9 := Exa.start v9 c66
  have S9 := Sta.start v9 (Or.inr ⟨(hw _ (List.mem_of_getElem? (i := 5) rfl)), (hw _ (List.mem_of_getElem? (i := 63) rfl))⟩)
  obtain ⟨x10, v10⟩ := exa_v c12
  have X10 := Exa.start v10 c12
  have S10 := Sta.start v10 (Or.inr ⟨(hw _ (List.mem_of_getElem? (i := 5) rfl)), (hw _ (List.mem_of_getElem? (i := 24) rfl))⟩)
  obtain ⟨x11, v11⟩ := exa_v c24
  have X11 := Exa.start v11 c24
  have S11 := Sta.start v11 (Or.inr ⟨(hw _ (List.mem_of_getElem? (i := 5) rfl)), (hw _ (List.mem_of_getElem? (i := 30) rfl))⟩)
  obtain ⟨x12, v12⟩ := exa_v c62
  have X12 := Exa.start v12 c62
  have S12 := Sta.start v12 (Or.inr ⟨(hw _ (List.mem_of_getElem? (i := 5) rfl)), (hw _ (List.mem_of_getElem? (i := 59) rfl))⟩)
  obtain ⟨x13, v13⟩ := exa_v c68
  have X13 := Exa.start v13 c68
  have S13 := Sta.start v13 (Or.inr ⟨(hw _ (List.mem_of_getElem? (i := 5) rfl)), (hw _ (List.mem_of_getElem? (i := 65) rfl))⟩)
  obtain ⟨x14, v14⟩ := exa_v c8
  have X14 := Exa.start v14 c8
  have S14 := Sta.start v14 (Or.inr ⟨(hw _ (List.mem_of_getElem? (i := 5) rfl)), (hw _ (List.mem_of_getElem? (i := 20) rfl))⟩)
  obtain ⟨x15, v15⟩ := exa_v c10
  have X15 := Exa.start v15 c10
  have S15 := Sta.start v15 (Or.inr ⟨(hw _ (List.mem_of_getElem? (i := 5) rfl)), (hw _ (List.mem_of_getElem? (i := 22) rfl))⟩)
  obtain ⟨x16, v16⟩ := exa_v c44
  have X16 := Exa.start v16 c44
  have S16 := Sta.start v16 (Or.inr ⟨(hw _ (List.mem_of_getElem? (i := 5) rfl)), (hw _ (List.mem_of_getElem? (i := 46) rfl))⟩)
  obtain ⟨x17, v17⟩ := exa_v c42
  have X17 := Exa.start v17 c42
  have S17 := Sta.start v17 (Or.inr ⟨(hw _ (List.mem_of_getElem? (i := 5) rfl)), (hw _ (List.mem_of_getElem? (i := 44) rfl))⟩)
  obtain ⟨x18, v18⟩ := exa_v c29
  have X18 := Exa.start v18 c29
  have S18 := Sta.start v18 (Or.inr ⟨(hw _ (List.mem_of_getElem? (i := 5) rfl)), (hw _ (List.mem_of_getElem? (i := 37) rfl))⟩)
  obtain ⟨x19, v19⟩ := exa_v c33
  have X19 := Exa.start v19 c33
  have S19 := Sta.start v19 (Or.inr ⟨(hw _ (List.mem_of_getElem? (i := 5) rfl)), (hw _ (List.mem_of_getElem? (i := 39) rfl))⟩)
  obtain ⟨x20, v20⟩ := exa_v c76
  have X20 := Exa.start v20 c76
  have S20 := Sta.start v20 (Or.inr ⟨(hw _ (List.mem_of_getElem? (i := 5) rfl)), (hw _ (List.mem_of_getElem? (i := 74) rfl))⟩)
  obtain ⟨x21, v21⟩ := exa_v c75
  have X21 := Exa.start v21 c75
  have S21 := Sta.start v21 (Or.inr ⟨(hw _ (List.mem_of_getElem? (i := 5) rfl)), (hw _ (List.mem_of_getElem? (i := 73) rfl))⟩)
  obtain ⟨x22, v22⟩ := exa_v c30
  have X22 := Exa.start v22 c30
  have S22 := Sta.start v22 (Or.inr ⟨(hw _ (List.mem_of_getElem? (i := 5) rfl)), (hw _ (List.mem_of_getElem? (i := 38) rfl))⟩)
  obtain ⟨x23, v23⟩ := exa_v c28
  have X23 := Exa.start v23 c28
  have S23 := Sta.start v23 (Or.inr ⟨(hw _ (List.mem_of_getElem? (i := 5) rfl)), (hw _ (List.mem_of_getElem? (i := 35) rfl))⟩)
  obtain ⟨x24, v24⟩ := exa_v c39
  have X24 := Exa.start v24 c39
  have S24 := Sta.start v24 (Or.inr ⟨(hw _ (List.mem_of_getElem? (i := 5) rfl)), (hw _ (List.mem_of_getElem? (i := 42) rfl))⟩)
  obtain ⟨x25, v25⟩ := exa_v c70
  have X25 := Exa.start v25 c70
  have S25 := Sta.start v25 (Or.inr ⟨(hw _ (List.mem_of_getElem? (i := 5) rfl)), (hw _ (List.mem_of_getElem? (i := 67) rfl))⟩)
  obtain ⟨x26, v26⟩ := exa_v c47
  have X26 := Exa.start v26 c47
  have S26 := Sta.start v26 (Or.inr ⟨(hw _ (List.mem_of_getElem? (i := 5) rfl)), (hw _ (List.mem_of_getElem? (i := 50) rfl))⟩)
  obtain ⟨x27, v27⟩ := exa_v c58
  have X27 := Exa.start v27 c58
  have S27 := Sta.start v27 (Or.inr ⟨(hw _ (List.mem_of_getElem? (i := 5) rfl)), (hw _ (List.mem_of_getElem? (i := 55) rfl))⟩)
  obtain ⟨x28, v28⟩ := exa_v c55
  have X28 := Exa.start v28 c55
  have S28 := Sta.start v28 (Or.inr ⟨(hw _ (List.mem_of_getElem? (i := 5) rfl)), (hw _ (List.mem_of_getElem? (i := 54) rfl))⟩)
  obtain ⟨x29, v29⟩ := exa_v c52
  have X29 := Exa.start v29 c52
  have S29 := Sta.start v29 (Or.inr ⟨(hw _ (List.mem_of_getElem? (i := 5) rfl)), (hw _ (List.mem_of_getElem? (i := 53) rfl))⟩)
  obtain ⟨x30, v30⟩ := exa_v c51
  have X30 := Exa.start v30 c51
  have S30 := Sta.start v30 (Or.inr ⟨(hw _ (List.mem_of_getElem? (i := 5) rfl)), (hw _ (List.mem_of_getElem? (i := 52) rfl))⟩)
  obtain ⟨x31, v31⟩ := exa_v c46
  have X31 := Exa.start v31 c46
  have S31 := Sta.start v31 (Or.inr ⟨(hw _ (List.mem_of_getElem? (i := 5) rfl)), (hw _ (List.mem_of_getElem? (i := 49) rfl))⟩)
  have G1 := Fld.start ((fld_at v0).symm.trans (null_v c1))
  have G4 := Fld.start ((fld_at v3).symm.trans (own_eqr v2 c4))
  have G5 := Fld.start ((fld_at v2).symm.trans (own_eqi c5))
  have G6 := Fld.start ((fld_at v0).symm.trans (own_eqi c6))
  have G7 := Fld.start ((fld_at v2).symm.trans (own_eqr v0 c7))
  have G9 := Fld.start ((fld_at v14).symm.trans (own_eqr v0 c9))
  have G11 := Fld.start ((fld_at v15).symm.trans (own_eqr v0 c11))
  have G14 := Fld.start ((fld_at v10).symm.trans (own_eqr v8 c14))
  have G15 := Fld.start ((fld_at v8).symm.trans (own_eqi c15))
  have G17 := Fld.start ((fld_at v8).symm.trans (own_eqr v7 c17))
  have G18 := Fld.start ((fld_at v7).symm.trans (own_eqi c18))
  have G20 := Fld.start ((fld_at v7).symm.trans (own_eqr v4 c20))
  have G21 := Fld.start ((fld_at v4).symm.trans (own_eqi c21))
  have G22 := Fld.start ((fld_at v4).symm.trans (own_eqr v3 c22))
  have G23 := Fld.start ((fld_at v3).symm.trans (own_eqi c23))
  have G25 := Fld.start ((fld_at v11).symm.trans (own_eqr v8 c25))
  have G27 := Fld.start ((fld_at v1).symm.trans (own_eqr v0 c27))
  have G31 := Fld.start ((fld_at v23).symm.trans (own_eqr v22 c31))
  have G32 := Fld.start ((fld_at v22).symm.trans (own_eqi c32))
  have G34 := Fld.start ((fld_at v22).symm.trans (own_eqr v19 c34))
  have G35 := Fld.start ((fld_at v19).symm.trans (own_eqi c35))
  have G36 := Fld.start ((fld_at v19).symm.trans (own_eqr v18 c36))
  have G37 := Fld.start ((fld_at v18).symm.trans (own_eqi c37))
  have G38 := Fld.start ((fld_at v18).symm.trans (own_eqr v0 c38))
  have G40 := Fld.start ((fld_at v24).symm.trans (own_eqr v23 c40))
  have G41 := Fld.start ((fld_at v23).symm.trans (own_eqi c41))
  have G43 := Fld.start ((fld_at v17).symm.trans (own_eqr v0 c43))
  have G45 := Fld.start ((fld_at v16).symm.trans (own_eqr v0 c45))
  have G48 := Fld.start ((fld_at v31).symm.trans (own_eqr v26 c48))
  have G49 := Fld.start ((fld_at v26).symm.trans (own_eqi c49))
  have G50 := Fld.start ((fld_at v26).symm.trans (own_eqr v19 c50))
  have G53 := Fld.start ((fld_at v30).symm.trans (own_eqr v29 c53))
  have G54 := Fld.start ((fld_at v29).symm.trans (own_eqi c54))
  have G56 := Fld.start ((fld_at v29).symm.trans (own_eqr v28 c56))
  have G57 := Fld.start ((fld_at v28).symm.trans (own_eqi c57))
  have G59 := Fld.start ((fld_at v28).symm.trans (own_eqr v27 c59))
  have G60 := Fld.start ((fld_at v27).symm.trans (own_eqi c60))
  have G61 := Fld.start ((fld_at v27).symm.trans (own_eqr v26 c61))
  have G63 := Fld.start ((fld_at v12).symm.trans (own_eqr v0 c63))
  have G65 := Fld.start ((fld_at v6).symm.trans (own_eqr v4 c65))
  have G67 := Fld.start ((fld_at v9).symm.trans (own_eqr v8 c67))
  have G69 := Fld.start ((fld_at v13).symm.trans (own_eqr v0 c69))
  have G71 := Fld.start ((fld_at v25).symm.trans (own_eqr v24 c71))
  have G72 := Fld.start ((fld_at v24).symm.trans (own_eqi c72))
  have G74 := Fld.start ((fld_at v5).symm.trans (own_eqr v4 c74))
  have G77 := Fld.start ((fld_at v21).symm.trans (own_eqr v20 c77))
  have G78 := Fld.start ((fld_at v20).symm.trans (own_eqi c78))
  have G79 := Fld.start ((fld_at v20).symm.trans (own_eqr v19 c79))
  have F : own_F s s.heap (fun j => [x0, x1, x2, x3, x4, x5, x6, x7, x8, x9, x10, x11, x12, x13, x14, x15, x16, x17, x18, x19, x20, x21, x22, x23, x24, x25, x26, x27, x28, x29, x30, x31].getD j 0) := ⟨⟨S0, X0, S1, X1, S2, X2, S3, X3, S4, X4, S5, X5, S6, X6, S7, X7, S8, X8, S9, X9, S10, X10, S11, X11⟩, ⟨S12, X12, S13, X13, S14, X14, S15, X15, S16, X16, S17, X17, S18, X18, S19, X19, S20, X20, S21, X21, S22, X22, S23, X23⟩, ⟨S24, X24, S25, X25, S26, X26, S27, X27, S28, X28, S29, X29, S30, X30, S31, X31, G1, G4, G5, G6, G7, G9, G11, G14⟩, ⟨G15, G17, G18, G20, G21, G22, G23, G25, G27, G31, G32, G34, G35, G36, G37, G38, G40, G41, G43, G45, G48, G49, G50, G53⟩, ⟨G54, G56, G57, G59, G60, G61, G63, G65, G67, G69, G71, G72, G74, G77, G78, G79⟩⟩
  obtain ⟨n, o, h1, h2, h3, _, L, rfl, ⟨rfl, rfl, hh⟩, hq⟩ := rm0 l s _ s.heap hw i0 _ F p e ha hc hk s m _ below hf ((Spec.applies_iff_loose hf).mp happ).1 ⟨rfl, State.Warmed39.refl s, rfl⟩ trivial
  refine ⟨n, _, h1, h2, h3, hpost _ _ _ _ _ _ ⟨Cond.after_iff.mpr rfl, Cond.after_iff.mpr (eq_i res_at (Term.int_eval (1)) rfl), trivial⟩ ⟨hq.1, hq.2.1, (hq.2.2.sift fun y hy => nomatch hy).mono (by decide) (by decide)⟩⟩
theorem main_1_1 : Claimed_1_1 := comes_1 fun _ _ _ _ _ _ h hF => ⟨h.1, hF⟩
theorem main_1_2 : Claimed_1_2 := comes_1 fun _ _ _ _ _ _ h hF => ⟨h.2.1, hF⟩
end Jvm.Pilot.@@N@@
namespace Jvm.Pilot.@@N@@
open Jvm Jvm.ClassFile Sem Op Lib Jvm.Free Jvm.Stand Jvm.Pilot.@@N@@.Jvm.D
/-! MADE BY PROGRAM (witnessworld.py) out of the Statement's table words and the real class files: 12 classes; the members and pool entries that the words name. The judged class is class 1, her method 1. -/
namespace start1
open Jvm.ClassFile
def u (s : String) : CpInfo := .utf8 (stringToUtf16 s)
/-- a pool by its gaps: so many unusable entries, then the entry; so many at the end -/
def gap : Nat → List CpInfo → List CpInfo
  | 0, r => r
  | n + 1, r => .unusable :: gap n r
def poolList (es : List (Nat × CpInfo)) (last : Nat) : List CpInfo := es.foldr (fun e r => gap e.1 (e.2 :: r)) (gap last [])
def pool (es : List (Nat × CpInfo)) (last : Nat) : Array CpInfo := ⟨poolList es last⟩
def fileOf (pool : Array CpInfo) (this : Nat) (attrs : Array Attribute := #[]) (ms : Array MethodInfo := #[]) (fl : Nat := 33) (sup : Nat := 0) (ifs : Array Nat := #[]) (fds : Array FieldInfo := #[]) : ClassFile where
  minorVersion := 0
  majorVersion := 65
  constantPool := pool
  accessFlags := fl
  thisClass := this
  superClass := sup
  interfaces := ifs
  fields := fds
  methods := ms
  attributes := attrs
def plain (name : String) (sup : Option ClassId) : Class where
  name := name
  kind := .ordinary
  loader := none
  accessFlags := 33
  super := sup
  interfaces := #[]
  cf := none
  fields := #[]
  methods := #[]
  instanceTypes := #[]
  staticTypes := #[]
  resolved := #[]
  callSites := []
  init := .initialized
  statics := none
  mirror := none

def pool0 : Array CpInfo := pool [(5, u "<init>"), (0, u "()V"), (1, .class_ 10), (1, u "java/lang/Object")] 113

def k0m0 : Method := { name := "<init>", desc := "()V", sig := { parameters := [], returnType := none }, accessFlags := 1, code := none }
/-- java/lang/Object -/
def k0 : Class := { plain "java/lang/Object" none with
  accessFlags := 33
  interfaces := #[]
  cf := some (fileOf pool0 8 #[] #[{ accessFlags := 1, nameIndex := 5, descriptorIndex := 6, attributes := #[] }] 33 0 #[] #[])
  fields := #[]
  methods := #[k0m0]
  instanceTypes := #[]
  staticTypes := #[]
  resolved := Array.replicate 124 none
  statics := none }

def pool1 : Array CpInfo := pool [(2, .class_ 4), (1, u "java/lang/Object"), (0, u "<init>"), (0, u "()V"), (0, .methodref 8 9), (0, .class_ 10), (0, .nameAndType 11 12), (0, u "com/example/locant/locant/AtomicTypePrimitivePinLaw"), (0, u "pick"), (0, u "(I)Lcom/example/locant/locant/AtomicType;"), (0, .fieldref 14 15), (0, .class_ 16), (0, .nameAndType 17 18), (0, u "com/example/locant/locant/AtomicType"), (0, u "STRING"), (0, u "Lcom/example/locant/locant/AtomicType;"), (0, .fieldref 14 20), (0, .nameAndType 21 18), (0, u "DECIMAL"), (0, .methodref 14 23), (0, .nameAndType 24 25), (0, u "primitive"), (0, u "()Lcom/example/locant/locant/AtomicType;"), (0, .fieldref 14 27), (0, .nameAndType 28 18), (0, u "ANY_ATOMIC_TYPE"), (0, .fieldref 14 30), (0, .nameAndType 31 18), (0, u "UNTYPED_ATOMIC"), (0, .fieldref 14 33), (0, .nameAndType 34 18), (0, u "NORMALIZED_STRING"), (0, .fieldref 14 36), (0, .nameAndType 37 18), (0, u "TOKEN"), (0, .fieldref 14 39), (0, .nameAndType 40 18), (0, u "LANGUAGE"), (0, .fieldref 14 42), (0, .nameAndType 43 18), (0, u "NMTOKEN"), (0, .fieldref 14 45), (0, .nameAndType 46 18), (0, u "NAME"), (0, .fieldref 14 48), (0, .nameAndType 49 18), (0, u "NCNAME"), (0, .fieldref 14 51), (0, .nameAndType 52 18), (0, u "ID"), (0, .fieldref 14 54), (0, .nameAndType 55 18), (0, u "IDREF"), (0, .fieldref 14 57), (0, .nameAndType 58 18), (0, u "ENTITY"), (0, .fieldref 14 60), (0, .nameAndType 61 18), (0, u "BOOLEAN"), (0, .fieldref 14 63), (0, .nameAndType 64 18), (0, u "ANY_URI"), (0, .fieldref 14 66), (0, .nameAndType 67 18), (0, u "QNAME"), (0, .fieldref 14 69), (0, .nameAndType 70 18), (0, u "NUMERIC"), (0, .fieldref 14 72), (0, .nameAndType 73 18), (0, u "DOUBLE"), (0, .fieldref 14 75), (0, .nameAndType 76 18), (0, u "FLOAT"), (0, .fieldref 14 78), (0, .nameAndType 79 18), (0, u "INTEGER"), (0, .fieldref 14 81), (0, .nameAndType 82 18), (0, u "NON_POSITIVE_INTEGER"), (0, .fieldref 14 84), (0, .nameAndType 85 18), (0, u "NEGATIVE_INTEGER"), (0, .fieldref 14 87), (0, .nameAndType 88 18), (0, u "LONG"), (0, .fieldref 14 90), (0, .nameAndType 91 18), (0, u "INT"), (0, .fieldref 14 93), (0, .nameAndType 94 18), (0, u "SHORT"), (0, .fieldref 14 96), (0, .nameAndType 97 18), (0, u "BYTE"), (0, .fieldref 14 99), (0, .nameAndType 100 18), (0, u "NON_NEGATIVE_INTEGER"), (0, .fieldref 14 102), (0, .nameAndType 103 18), (0, u "UNSIGNED_LONG"), (0, .fieldref 14 105), (0, .nameAndType 106 18), (0, u "UNSIGNED_INT"), (0, .fieldref 14 108), (0, .nameAndType 109 18), (0, u "UNSIGNED_SHORT"), (0, .fieldref 14 111), (0, .nameAndType 112 18), (0, u "UNSIGNED_BYTE"), (0, .fieldref 14 114), (0, .nameAndType 115 18), (0, u "POSITIVE_INTEGER"), (2, u "law"), (0, u "(I)Z")] 3

def k1m0 : Method := { name := "<init>", desc := "()V", sig := { parameters := [], returnType := none }, accessFlags := 1, code := none }
def k1c1 : Code := { maxStack := 2, maxLocals := 4, code := code, exceptionTable := #[], attributes := #[] }
def k1m1 : Method := { name := "law", desc := "(I)Z", sig := { parameters := [.int], returnType := some .boolean }, accessFlags := 9, code := some k1c1 }
def k1c2 : Code := { maxStack := 2, maxLocals := 1, code := method_3_code, exceptionTable := #[], attributes := #[] }
def k1m2 : Method := { name := "pick", desc := "(I)Lcom/example/locant/locant/AtomicType;", sig := { parameters := [.int], returnType := some (.object "com/example/locant/locant/AtomicType") }, accessFlags := 10, code := some k1c2 }
/-- com/example/locant/locant/AtomicTypePrimitivePinLaw -/
def k1 : Class := { plain "com/example/locant/locant/AtomicTypePrimitivePinLaw" (some 0) with
  accessFlags := 49
  interfaces := #[]
  cf := some (fileOf pool1 8 #[] #[{ accessFlags := 1, nameIndex := 5, descriptorIndex := 6, attributes := #[] }, { accessFlags := 9, nameIndex := 118, descriptorIndex := 119, attributes := #[] }, { accessFlags := 10, nameIndex := 11, descriptorIndex := 12, attributes := #[] }] 49 2 #[] #[])
  fields := #[]
  methods := #[k1m0, k1m1, k1m2]
  instanceTypes := #[]
  staticTypes := #[]
  resolved := Array.replicate 123 none
  statics := none }

def pool2 : Array CpInfo := pool [(1, .class_ 2), (0, u "java/lang/constant/Constable"), (0, .class_ 4), (0, u "java/lang/Object")] 6

/-- java/lang/constant/Constable -/
def k2 : Class := { plain "java/lang/constant/Constable" (some 0) with
  accessFlags := 1537
  interfaces := #[]
  cf := some (fileOf pool2 1 #[] #[] 1537 3 #[] #[])
  fields := #[]
  methods := #[]
  instanceTypes := #[]
  staticTypes := #[]
  resolved := Array.replicate 11 none
  statics := none }

def pool3 : Array CpInfo := pool [(1, .class_ 2), (0, u "java/lang/Comparable"), (0, .class_ 4), (0, u "java/lang/Object")] 7

/-- java/lang/Comparable -/
def k3 : Class := { plain "java/lang/Comparable" (some 0) with
  accessFlags := 1537
  interfaces := #[]
  cf := some (fileOf pool3 1 #[] #[] 1537 3 #[] #[])
  fields := #[]
  methods := #[]
  instanceTypes := #[]
  staticTypes := #[]
  resolved := Array.replicate 12 none
  statics := none }

def pool4 : Array CpInfo := pool [(1, .class_ 2), (0, u "java/io/Serializable"), (0, .class_ 4), (0, u "java/lang/Object")] 2

/-- java/io/Serializable -/
def k4 : Class := { plain "java/io/Serializable" (some 0) with
  accessFlags := 1537
  interfaces := #[]
  cf := some (fileOf pool4 1 #[] #[] 1537 3 #[] #[])
  fields := #[]
  methods := #[]
  instanceTypes := #[]
  staticTypes := #[]
  resolved := Array.replicate 7 none
  statics := none }

def pool5 : Array CpInfo := pool [(2, .class_ 4), (1, u "java/lang/Enum"), (0, u "name"), (0, u "Ljava/lang/String;"), (2, u "ordinal"), (0, u "I"), (1, .class_ 14), (1, u "java/lang/Object"), (4, u "hash"), (86, .class_ 108), (1, u "java/lang/Enum$EnumDesc"), (2, .class_ 112), (0, u "java/lang/constant/Constable"), (0, .class_ 114), (0, u "java/lang/Comparable"), (0, .class_ 116), (0, u "java/io/Serializable")] 87

/-- java/lang/Enum -/
def k5 : Class := { plain "java/lang/Enum" (some 0) with
  accessFlags := 1057
  interfaces := #[2, 3, 4]
  cf := some (fileOf pool5 2 #[.nestMembers #[106]] #[] 1057 12 #[111, 113, 115] #[{ accessFlags := 18, nameIndex := 5, descriptorIndex := 6, attributes := #[] }, { accessFlags := 18, nameIndex := 9, descriptorIndex := 10, attributes := #[] }, { accessFlags := 2, nameIndex := 19, descriptorIndex := 10, attributes := #[] }])
  fields := #[{ name := "name", type := (.object "java/lang/String"), accessFlags := 18, slot := 0, constantValue := 0 }, { name := "ordinal", type := .int, accessFlags := 18, slot := 1, constantValue := 0 }, { name := "hash", type := .int, accessFlags := 2, slot := 2, constantValue := 0 }]
  methods := #[]
  instanceTypes := #[(.object "java/lang/String"), .int, .int]
  staticTypes := #[]
  resolved := Array.replicate 204 none
  statics := none }

def pool6 : Array CpInfo := pool [(1, .class_ 2), (0, u "com/example/locant/locant/AtomicType"), (0, .fieldref 1 4), (0, .nameAndType 5 6), (0, u "ANY_ATOMIC_TYPE"), (0, u "Lcom/example/locant/locant/AtomicType;"), (2, u "UNTYPED_ATOMIC"), (2, u "STRING"), (2, u "NORMALIZED_STRING"), (2, u "TOKEN"), (2, u "LANGUAGE"), (2, u "NMTOKEN"), (2, u "NAME"), (2, u "NCNAME"), (2, u "ID"), (2, u "IDREF"), (2, u "ENTITY"), (2, u "BOOLEAN"), (2, u "ANY_URI"), (2, u "QNAME"), (2, u "NUMERIC"), (2, u "DOUBLE"), (2, u "FLOAT"), (2, u "DECIMAL"), (2, u "INTEGER"), (2, u "NON_POSITIVE_INTEGER"), (2, u "NEGATIVE_INTEGER"), (2, u "LONG"), (2, u "INT"), (2, u "SHORT"), (2, u "BYTE"), (2, u "NON_NEGATIVE_INTEGER"), (2, u "UNSIGNED_LONG"), (2, u "UNSIGNED_INT"), (2, u "UNSIGNED_SHORT"), (2, u "UNSIGNED_BYTE"), (2, u "POSITIVE_INTEGER"), (2, u "$VALUES"), (0, u "[Lcom/example/locant/locant/AtomicType;"), (6, .class_ 112), (1, u "java/lang/Enum"), (11, u "mLocalName"), (0, u "Ljava/lang/String;"), (0, .fieldref 1 127), (0, .nameAndType 128 6), (0, u "mBase"), (7, u "mMin"), (0, u "Ljava/math/BigInteger;"), (2, u "mMax"), (159, u "primitive"), (0, u "()Lcom/example/locant/locant/AtomicType;")] 23

def k6c0 : Code := { maxStack := 2, maxLocals := 2, code := prog_12_method_9_code, exceptionTable := #[], attributes := #[] }
def k6m0 : Method := { name := "primitive", desc := "()Lcom/example/locant/locant/AtomicType;", sig := { parameters := [], returnType := some (.object "com/example/locant/locant/AtomicType") }, accessFlags := 0, code := some k6c0 }
/-- com/example/locant/locant/AtomicType -/
def k6 : Class := { plain "com/example/locant/locant/AtomicType" (some 5) with
  accessFlags := 16432
  interfaces := #[]
  cf := some (fileOf pool6 1 #[] #[{ accessFlags := 0, nameIndex := 300, descriptorIndex := 301, attributes := #[] }] 16432 110 #[] #[{ accessFlags := 16409, nameIndex := 5, descriptorIndex := 6, attributes := #[] }, { accessFlags := 16409, nameIndex := 9, descriptorIndex := 6, attributes := #[] }, { accessFlags := 16409, nameIndex := 12, descriptorIndex := 6, attributes := #[] }, { accessFlags := 16409, nameIndex := 15, descriptorIndex := 6, attributes := #[] }, { accessFlags := 16409, nameIndex := 18, descriptorIndex := 6, attributes := #[] }, { accessFlags := 16409, nameIndex := 21, descriptorIndex := 6, attributes := #[] }, { accessFlags := 16409, nameIndex := 24, descriptorIndex := 6, attributes := #[] }, { accessFlags := 16409, nameIndex := 27, descriptorIndex := 6, attributes := #[] }, { accessFlags := 16409, nameIndex := 30, descriptorIndex := 6, attributes := #[] }, { accessFlags := 16409, nameIndex := 33, descriptorIndex := 6, attributes := #[] }, { accessFlags := 16409, nameIndex := 36, descriptorIndex := 6, attributes := #[] }, { accessFlags := 16409, nameIndex := 39, descriptorIndex := 6, attributes := #[] }, { accessFlags := 16409, nameIndex := 42, descriptorIndex := 6, attributes := #[] }, { accessFlags := 16409, nameIndex := 45, descriptorIndex := 6, attributes := #[] }, { accessFlags := 16409, nameIndex := 48, descriptorIndex := 6, attributes := #[] }, { accessFlags := 16409, nameIndex := 51, descriptorIndex := 6, attributes := #[] }, { accessFlags := 16409, nameIndex := 54, descriptorIndex := 6, attributes := #[] }, { accessFlags := 16409, nameIndex := 57, descriptorIndex := 6, attributes := #[] }, { accessFlags := 16409, nameIndex := 60, descriptorIndex := 6, attributes := #[] }, { accessFlags := 16409, nameIndex := 63, descriptorIndex := 6, attributes := #[] }, { accessFlags := 16409, nameIndex := 66, descriptorIndex := 6, attributes := #[] }, { accessFlags := 16409, nameIndex := 69, descriptorIndex := 6, attributes := #[] }, { accessFlags := 16409, nameIndex := 72, descriptorIndex := 6, attributes := #[] }, { accessFlags := 16409, nameIndex := 75, descriptorIndex := 6, attributes := #[] }, { accessFlags := 16409, nameIndex := 78, descriptorIndex := 6, attributes := #[] }, { accessFlags := 16409, nameIndex := 81, descriptorIndex := 6, attributes := #[] }, { accessFlags := 16409, nameIndex := 84, descriptorIndex := 6, attributes := #[] }, { accessFlags := 16409, nameIndex := 87, descriptorIndex := 6, attributes := #[] }, { accessFlags := 16409, nameIndex := 90, descriptorIndex := 6, attributes := #[] }, { accessFlags := 16409, nameIndex := 93, descriptorIndex := 6, attributes := #[] }, { accessFlags := 16409, nameIndex := 96, descriptorIndex := 6, attributes := #[] }, { accessFlags := 16409, nameIndex := 99, descriptorIndex := 6, attributes := #[] }, { accessFlags := 18, nameIndex := 124, descriptorIndex := 125, attributes := #[] }, { accessFlags := 18, nameIndex := 128, descriptorIndex := 6, attributes := #[] }, { accessFlags := 18, nameIndex := 136, descriptorIndex := 137, attributes := #[] }, { accessFlags := 18, nameIndex := 140, descriptorIndex := 137, attributes := #[] }, { accessFlags := 4122, nameIndex := 102, descriptorIndex := 103, attributes := #[] }])
  fields := #[{ name := "ANY_ATOMIC_TYPE", type := (.object "com/example/locant/locant/AtomicType"), accessFlags := 16409, slot := 0, constantValue := 0 }, { name := "UNTYPED_ATOMIC", type := (.object "com/example/locant/locant/AtomicType"), accessFlags := 16409, slot := 1, constantValue := 0 }, { name := "STRING", type := (.object "com/example/locant/locant/AtomicType"), accessFlags := 16409, slot := 2, constantValue := 0 }, { name := "NORMALIZED_STRING", type := (.object "com/example/locant/locant/AtomicType"), accessFlags := 16409, slot := 3, constantValue := 0 }, { name := "TOKEN", type := (.object "com/example/locant/locant/AtomicType"), accessFlags := 16409, slot := 4, constantValue := 0 }, { name := "LANGUAGE", type := (.object "com/example/locant/locant/AtomicType"), accessFlags := 16409, slot := 5, constantValue := 0 }, { name := "NMTOKEN", type := (.object "com/example/locant/locant/AtomicType"), accessFlags := 16409, slot := 6, constantValue := 0 }, { name := "NAME", type := (.object "com/example/locant/locant/AtomicType"), accessFlags := 16409, slot := 7, constantValue := 0 }, { name := "NCNAME", type := (.object "com/example/locant/locant/AtomicType"), accessFlags := 16409, slot := 8, constantValue := 0 }, { name := "ID", type := (.object "com/example/locant/locant/AtomicType"), accessFlags := 16409, slot := 9, constantValue := 0 }, { name := "IDREF", type := (.object "com/example/locant/locant/AtomicType"), accessFlags := 16409, slot := 10, constantValue := 0 }, { name := "ENTITY", type := (.object "com/example/locant/locant/AtomicType"), accessFlags := 16409, slot := 11, constantValue := 0 }, { name := "BOOLEAN", type := (.object "com/example/locant/locant/AtomicType"), accessFlags := 16409, slot := 12, constantValue := 0 }, { name := "ANY_URI", type := (.object "com/example/locant/locant/AtomicType"), accessFlags := 16409, slot := 13, constantValue := 0 }, { name := "QNAME", type := (.object "com/example/locant/locant/AtomicType"), accessFlags := 16409, slot := 14, constantValue := 0 }, { name := "NUMERIC", type := (.object "com/example/locant/locant/AtomicType"), accessFlags := 16409, slot := 15, constantValue := 0 }, { name := "DOUBLE", type := (.object "com/example/locant/locant/AtomicType"), accessFlags := 16409, slot := 16, constantValue := 0 }, { name := "FLOAT", type := (.object "com/example/locant/locant/AtomicType"), accessFlags := 16409, slot := 17, constantValue := 0 }, { name := "DECIMAL", type := (.object "com/example/locant/locant/AtomicType"), accessFlags := 16409, slot := 18, constantValue := 0 }, { name := "INTEGER", type := (.object "com/example/locant/locant/AtomicType"), accessFlags := 16409, slot := 19, constantValue := 0 }, { name := "NON_POSITIVE_INTEGER", type := (.object "com/example/locant/locant/AtomicType"), accessFlags := 16409, slot := 20, constantValue := 0 }, { name := "NEGATIVE_INTEGER", type := (.object "com/example/locant/locant/AtomicType"), accessFlags := 16409, slot := 21, constantValue := 0 }, { name := "LONG", type := (.object "com/example/locant/locant/AtomicType"), accessFlags := 16409, slot := 22, constantValue := 0 }, { name := "INT", type := (.object "com/example/locant/locant/AtomicType"), accessFlags := 16409, slot := 23, constantValue := 0 }, { name := "SHORT", type := (.object "com/example/locant/locant/AtomicType"), accessFlags := 16409, slot := 24, constantValue := 0 }, { name := "BYTE", type := (.object "com/example/locant/locant/AtomicType"), accessFlags := 16409, slot := 25, constantValue := 0 }, { name := "NON_NEGATIVE_INTEGER", type := (.object "com/example/locant/locant/AtomicType"), accessFlags := 16409, slot := 26, constantValue := 0 }, { name := "UNSIGNED_LONG", type := (.object "com/example/locant/locant/AtomicType"), accessFlags := 16409, slot := 27, constantValue := 0 }, { name := "UNSIGNED_INT", type := (.object "com/example/locant/locant/AtomicType"), accessFlags := 16409, slot := 28, constantValue := 0 }, { name := "UNSIGNED_SHORT", type := (.object "com/example/locant/locant/AtomicType"), accessFlags := 16409, slot := 29, constantValue := 0 }, { name := "UNSIGNED_BYTE", type := (.object "com/example/locant/locant/AtomicType"), accessFlags := 16409, slot := 30, constantValue := 0 }, { name := "POSITIVE_INTEGER", type := (.object "com/example/locant/locant/AtomicType"), accessFlags := 16409, slot := 31, constantValue := 0 }, { name := "mLocalName", type := (.object "java/lang/String"), accessFlags := 18, slot := 3, constantValue := 0 }, { name := "mBase", type := (.object "com/example/locant/locant/AtomicType"), accessFlags := 18, slot := 4, constantValue := 0 }, { name := "mMin", type := (.object "java/math/BigInteger"), accessFlags := 18, slot := 5, constantValue := 0 }, { name := "mMax", type := (.object "java/math/BigInteger"), accessFlags := 18, slot := 6, constantValue := 0 }, { name := "$VALUES", type := (.array (.object "com/example/locant/locant/AtomicType")), accessFlags := 4122, slot := 32, constantValue := 0 }]
  methods := #[k6m0]
  instanceTypes := #[(.object "java/lang/String"), .int, .int, (.object "java/lang/String"), (.object "com/example/locant/locant/AtomicType"), (.object "java/math/BigInteger"), (.object "java/math/BigInteger")]
  staticTypes := #[(.object "com/example/locant/locant/AtomicType"), (.object "com/example/locant/locant/AtomicType"), (.object "com/example/locant/locant/AtomicType"), (.object "com/example/locant/locant/AtomicType"), (.object "com/example/locant/locant/AtomicType"), (.object "com/example/locant/locant/AtomicType"), (.object "com/example/locant/locant/AtomicType"), (.object "com/example/locant/locant/AtomicType"), (.object "com/example/locant/locant/AtomicType"), (.object "com/example/locant/locant/AtomicType"), (.object "com/example/locant/locant/AtomicType"), (.object "com/example/locant/locant/AtomicType"), (.object "com/example/locant/locant/AtomicType"), (.object "com/example/locant/locant/AtomicType"), (.object "com/example/locant/locant/AtomicType"), (.object "com/example/locant/locant/AtomicType"), (.object "com/example/locant/locant/AtomicType"), (.object "com/example/locant/locant/AtomicType"), (.object "com/example/locant/locant/AtomicType"), (.object "com/example/locant/locant/AtomicType"), (.object "com/example/locant/locant/AtomicType"), (.object "com/example/locant/locant/AtomicType"), (.object "com/example/locant/locant/AtomicType"), (.object "com/example/locant/locant/AtomicType"), (.object "com/example/locant/locant/AtomicType"), (.object "com/example/locant/locant/AtomicType"), (.object "com/example/locant/locant/AtomicType"), (.object "com/example/locant/locant/AtomicType"), (.object "com/example/locant/locant/AtomicType"), (.object "com/example/locant/locant/AtomicType"), (.object "com/example/locant/locant/AtomicType"), (.object "com/example/locant/locant/AtomicType"), (.array (.object "com/example/locant/locant/AtomicType"))]
  resolved := Array.replicate 325 none
  statics := some 0 }

def pool7 : Array CpInfo := pool [(1, u "java/lang/Cloneable"), (0, .class_ 1), (0, u "java/lang/Object"), (0, .class_ 3)] 3

/-- java/lang/Cloneable -/
def k7 : Class := { plain "java/lang/Cloneable" (some 0) with
  accessFlags := 1537
  interfaces := #[]
  cf := some (fileOf pool7 2 #[] #[] 1537 4 #[] #[])
  fields := #[]
  methods := #[]
  instanceTypes := #[]
  staticTypes := #[]
  resolved := Array.replicate 8 none
  statics := none }

/-- the primitive byte -/
def k8 : Class := { plain "byte" none with kind := .primitive 'B', accessFlags := 0x411 }
/-- [B -/
def k9 : Class := { plain "[B" (some 0) with kind := .array 8 .byte, interfaces := #[7, 4], accessFlags := 1041 }

/-- the primitive int -/
def k10 : Class := { plain "int" none with kind := .primitive 'I', accessFlags := 0x411 }
/-- [I -/
def k11 : Class := { plain "[I" (some 0) with kind := .array 10 .int, interfaces := #[7, 4], accessFlags := 1041 }

def heap : Heap := #[{ cls := 6, slots := #[.ref 1, .ref 11, .ref 3, .ref 2, .ref 9, .ref 30, .ref 26, .ref 8, .ref 7, .ref 27, .ref 6, .ref 10, .ref 25, .ref 28, .ref 4, .ref 5, .ref 18, .ref 17, .ref 13, .ref 15, .ref 32, .ref 31, .ref 14, .ref 12, .ref 16, .ref 29, .ref 20, .ref 24, .ref 23, .ref 22, .ref 21, .ref 19, .null], vm := .statics 6 },
  { cls := 6, slots := #[.null, .int 0, .int 0, .null, .null, .null, .null], vm := .none },
  { cls := 6, slots := #[.null, .int 3, .int 0, .null, .ref 3, .null, .null], vm := .none },
  { cls := 6, slots := #[.null, .int 2, .int 0, .null, .ref 1, .null, .null], vm := .none },
  { cls := 6, slots := #[.null, .int 0, .int 0, .null, .ref 1, .null, .null], vm := .none },
  { cls := 6, slots := #[.null, .int 0, .int 0, .null, .ref 1, .null, .null], vm := .none },
  { cls := 6, slots := #[.null, .int 0, .int 0, .null, .ref 7, .null, .null], vm := .none },
  { cls := 6, slots := #[.null, .int 8, .int 0, .null, .ref 8, .null, .null], vm := .none },
  { cls := 6, slots := #[.null, .int 7, .int 0, .null, .ref 9, .null, .null], vm := .none },
  { cls := 6, slots := #[.null, .int 4, .int 0, .null, .ref 2, .null, .null], vm := .none },
  { cls := 6, slots := #[.null, .int 0, .int 0, .null, .ref 7, .null, .null], vm := .none },
  { cls := 6, slots := #[.null, .int 0, .int 0, .null, .ref 1, .null, .null], vm := .none },
  { cls := 6, slots := #[.null, .int 23, .int 0, .null, .ref 14, .null, .null], vm := .none },
  { cls := 6, slots := #[.null, .int 18, .int 0, .null, .ref 1, .null, .null], vm := .none },
  { cls := 6, slots := #[.null, .int 22, .int 0, .null, .ref 15, .null, .null], vm := .none },
  { cls := 6, slots := #[.null, .int 19, .int 0, .null, .ref 13, .null, .null], vm := .none },
  { cls := 6, slots := #[.null, .int 24, .int 0, .null, .ref 12, .null, .null], vm := .none },
  { cls := 6, slots := #[.null, .int 0, .int 0, .null, .ref 1, .null, .null], vm := .none },
  { cls := 6, slots := #[.null, .int 0, .int 0, .null, .ref 1, .null, .null], vm := .none },
  { cls := 6, slots := #[.null, .int 0, .int 0, .null, .ref 20, .null, .null], vm := .none },
  { cls := 6, slots := #[.null, .int 26, .int 0, .null, .ref 15, .null, .null], vm := .none },
  { cls := 6, slots := #[.null, .int 0, .int 0, .null, .ref 22, .null, .null], vm := .none },
  { cls := 6, slots := #[.null, .int 29, .int 0, .null, .ref 23, .null, .null], vm := .none },
  { cls := 6, slots := #[.null, .int 28, .int 0, .null, .ref 24, .null, .null], vm := .none },
  { cls := 6, slots := #[.null, .int 27, .int 0, .null, .ref 20, .null, .null], vm := .none },
  { cls := 6, slots := #[.null, .int 0, .int 0, .null, .ref 1, .null, .null], vm := .none },
  { cls := 6, slots := #[.null, .int 0, .int 0, .null, .ref 9, .null, .null], vm := .none },
  { cls := 6, slots := #[.null, .int 0, .int 0, .null, .ref 7, .null, .null], vm := .none },
  { cls := 6, slots := #[.null, .int 0, .int 0, .null, .ref 1, .null, .null], vm := .none },
  { cls := 6, slots := #[.null, .int 0, .int 0, .null, .ref 16, .null, .null], vm := .none },
  { cls := 6, slots := #[.null, .int 0, .int 0, .null, .ref 9, .null, .null], vm := .none },
  { cls := 6, slots := #[.null, .int 0, .int 0, .null, .ref 32, .null, .null], vm := .none },
  { cls := 6, slots := #[.null, .int 20, .int 0, .null, .ref 15, .null, .null], vm := .none }]
def classes : Array Class := #[k0, k1, k2, k3, k4, k5, k6, k7, k8, k9, k10, k11]
def interned : List (Array UInt16 × Addr) := []
def slotsUsed : Nat := 257
def theMethod : MethodId := ⟨1, 1⟩
def args0 : Array Value := #[.int 5]
def aboutOver (below : List Frame) : State where
  vm := { classes := classes, interned := interned.toArray }
  heap := heap
  slotsUsed := slotsUsed
  threads := #[{ frames := .invoking theMethod args0 :: below }]
def below0 : List Frame := [.native { method := ⟨0, 0⟩, args := #[] }]
def about1 : State := aboutOver below0
def p0 : Program := .bare "" "" ""
def e0 : Env := launch0.env 0 0 0
theorem w_frames : about1.frames = Frame.invoking theMethod args0 :: below0 := rfl
set_option maxRecDepth 65536 in
theorem w_args : argsFit about1.vm theMethod args0 = true := by decide +kernel
set_option maxRecDepth 65536 in
theorem w_heap : heapFits about1 = true := by decide +kernel
set_option maxRecDepth 65536 in
theorem w_runnable : about1.curStatus? = some .runnable := by decide +kernel
set_option maxRecDepth 65536 in
theorem w_alone : about1.alone = true := by decide +kernel
set_option maxRecDepth 65536 in
theorem w_named : about1.methodNamed? x = some theMethod := by decide +kernel
set_option maxRecDepth 65536 in
theorem w_hears : about1.hears theMethod below0 = true := by decide +kernel
set_option maxRecDepth 65536 in
theorem w_ripe : about1.ripe theMethod args0 below0 = true := by decide +kernel
theorem w_running : about1.status = .running := rfl
set_option maxRecDepth 65536 in
theorem w_room : about1.hasRoom e0.platform room_1 = true :=
  launch0.hasRoom_least _ room_1 (by decide +kernel) (by decide +kernel) (by decide +kernel) (by decide +kernel) (by decide +kernel) (by decide +kernel)
theorem allAtoms_all (ts : List Jvm.Cond) (a : Array Jvm.Value) (st : Jvm.State) : (allAtoms ts).before a st = ts.all (fun c => c.before a st) := by
  induction ts with
  | nil => rfl
  | cons c t ih =>
    show (Jvm.Cond.and c (allAtoms t)).before a st = _
    rw [Jvm.Cond.before_and, ih, List.all_cons]
def words1 : List Jvm.Cond := Jvm.Cond.code x code maxLocals ret :: tables_1
/-- a 'code' word, met by the world's own term for the bytes: nothing is compared byte by byte -/
theorem code_word {y : MethodName} {bytes : ByteArray} {mx : Nat} {rt : Option FieldType} {a : Array Value} {s : State} {m : MethodId} {meth : Method} {c : Code} (h1 : s.methodNamed? y = some m) (h2 : s.vm.method? m = some meth) (h3 : meth.code = some c) (h4 : c.code = bytes)
    (h5 : (c.maxLocals == mx && c.exceptionTable.isEmpty && decide (c.maxStack ≤ mostOperands) && decide (meth.sig.returnType = rt) && !meth.locks && decide (parseMethodDescriptor y.desc = some meth.sig)) = true) : (Jvm.Cond.code y bytes mx rt).before a s = true := by
  simp only [Bool.and_eq_true, beq_iff_eq, Bool.not_eq_true', decide_eq_true_eq] at h5
  obtain ⟨⟨⟨⟨⟨g1, g2⟩, g3⟩, g4⟩, g5⟩, g6⟩ := h5
  simp [Cond.before, Cond.holds, Cond.value, h1, h2, h3, h4, g1, g2, g3, g4, g5, g6]
def isCode : Jvm.Cond → Bool
  | .code _ _ _ _ => true
  | _ => false
theorem all_split {L : List Jvm.Cond} {P : Jvm.Cond → Bool} (h1 : L.all (fun c => isCode c || P c) = true) (h2 : ∀ c ∈ L.filter isCode, P c = true) : L.all P = true := by
  refine List.all_eq_true.mpr fun c hc => ?_
  have h := List.all_eq_true.mp h1 c hc
  rcases Bool.eq_false_or_eq_true (isCode c) with hi | hi
  · exact h2 c (List.mem_filter.mpr ⟨hc, hi⟩)
  · simpa [hi] using h
set_option maxRecDepth 65536 in
theorem w_c0 : (Jvm.Cond.code x code maxLocals ret).before args0 about1 = true := code_word (m := ⟨1, 1⟩) (meth := k1m1) (c := k1c1) (by decide +kernel) rfl rfl rfl (by decide +kernel)
set_option maxRecDepth 65536 in
theorem w_c1 : (Jvm.Cond.code ({ cls := "com/example/locant/locant/AtomicTypePrimitivePinLaw", name := "pick", desc := "(I)Lcom/example/locant/locant/AtomicType;" } : Jvm.MethodName) method_3_code (1 : Nat) (Option.some (Jvm.ClassFile.FieldType.object "com/example/locant/locant/AtomicType"))).before args0 about1 = true := code_word (m := ⟨1, 2⟩) (meth := k1m2) (c := k1c2) (by decide +kernel) rfl rfl rfl (by decide +kernel)
set_option maxRecDepth 65536 in
theorem w_c2 : (Jvm.Cond.code ({ cls := "com/example/locant/locant/AtomicType", name := "primitive", desc := "()Lcom/example/locant/locant/AtomicType;" } : Jvm.MethodName) prog_12_method_9_code (2 : Nat) (Option.some (Jvm.ClassFile.FieldType.object "com/example/locant/locant/AtomicType"))).before args0 about1 = true := code_word (m := ⟨6, 0⟩) (meth := k6m0) (c := k6c0) (by decide +kernel) rfl rfl rfl (by decide +kernel)
def codes1 : List Jvm.Cond := [Jvm.Cond.code x code maxLocals ret, Jvm.Cond.code ({ cls := "com/example/locant/locant/AtomicTypePrimitivePinLaw", name := "pick", desc := "(I)Lcom/example/locant/locant/AtomicType;" } : Jvm.MethodName) method_3_code (1 : Nat) (Option.some (Jvm.ClassFile.FieldType.object "com/example/locant/locant/AtomicType")), Jvm.Cond.code ({ cls := "com/example/locant/locant/AtomicType", name := "primitive", desc := "()Lcom/example/locant/locant/AtomicType;" } : Jvm.MethodName) prog_12_method_9_code (2 : Nat) (Option.some (Jvm.ClassFile.FieldType.object "com/example/locant/locant/AtomicType"))]
set_option maxRecDepth 65536 in
theorem codes_eq : words1.filter isCode = codes1 := rfl
theorem w_codes : ∀ c ∈ words1.filter isCode, c.before args0 about1 = true := by
  rw [codes_eq]
  intro c hc
  simp only [codes1, List.mem_cons, List.not_mem_nil, or_false] at hc
  rcases hc with rfl | rfl | rfl
  · exact w_c0
  · exact w_c1
  · exact w_c2
set_option maxRecDepth 65536 in
theorem w_t1 : (words1.take 24).all (fun c => isCode c || c.before args0 about1) = true := by decide +kernel
set_option maxRecDepth 65536 in
theorem w_t2 : ((words1.drop 24).take 24).all (fun c => isCode c || c.before args0 about1) = true := by decide +kernel
set_option maxRecDepth 65536 in
theorem w_t3 : (((words1.drop 24).drop 24).take 24).all (fun c => isCode c || c.before args0 about1) = true := by decide +kernel
set_option maxRecDepth 65536 in
theorem w_t4 : (((words1.drop 24).drop 24).drop 24).all (fun c => isCode c || c.before args0 about1) = true := by decide +kernel
theorem w_tables : (allAtoms (Jvm.Cond.code x code maxLocals ret :: tables_1)).before args0 about1 = true := by
  rw [allAtoms_all]
  show words1.all (fun c => c.before args0 about1) = true
  refine all_split ?_ w_codes
  rw [← List.take_append_drop 24 words1, List.all_append, w_t1, ← List.take_append_drop 24 (words1.drop 24), List.all_append, w_t2, ← List.take_append_drop 24 ((words1.drop 24).drop 24), List.all_append, w_t3, w_t4]
  rfl
set_option maxRecDepth 65536 in
theorem w_case : (Jvm.Cond.and given_1 narrow_1).before args0 about1 = true := by decide +kernel
theorem w_applies : (headSpec (Jvm.Cond.code x code maxLocals ret :: tables_1) room_1).applies x e0.platform about1 = true :=
  (Spec.applies_iff w_frames).mpr ⟨w_running, w_runnable, w_alone, w_named, w_hears, w_ripe, w_room, w_tables⟩
theorem atStart : AtStart classFile x code maxLocals ret World_1 tables_1 room_1 Calls_1 rest_1 Pre_1 launch0 p0 e0 about1 theMethod args0 below0 :=
  ⟨lists_1, trivial, launch0.admits_env _ _ _, launch0.least_env, fairChoices_fair.cas, fairChoices_fair.clock, w_frames, w_args, w_heap, w_applies, trivial, trivial, w_case⟩
end start1
theorem witness_1 : WitnessClaimed_1 := ⟨start1.p0, start1.e0, start1.about1, start1.theMethod, start1.args0, start1.below0, start1.atStart⟩
end Jvm.Pilot.@@N@@
