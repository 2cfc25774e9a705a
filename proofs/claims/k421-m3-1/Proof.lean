import JvmDerived
import JvmDerived.Pilot.@@N@@Statement
import JvmDerived.Pilot.@@N@@Code
set_option linter.unusedVariables false
set_option linter.unusedSimpArgs false
namespace Jvm.RoadKit
open Sem ClassFile Op Lib Jvm.Stand Jvm.Free Jvm.LawKit
section New
variable {p : Program} {l : Launch} {e : Env} {R : Room} {s : State} {m : MethodId} {args : Array Value} {below : List Frame} {meth : Method} {c : Code} {T : State} {locs : List Loc} {cells slots : Nat}
theorem retI (X : Stand p l e R s m args below meth c T locs cells slots) (hx : p.tables.exec = Jvm.exec) {pc : Nat} {Ls : Array Slot} {z : Int32} {rest : List Value} (hret : meth.sig.returnType = some .int) (hd : decode c.code pc = .ok (.ireturn, 1)) {fs : List Frame}
    (hl : ∀ (f : JFrame) (acts : List Action), f.method = m → f.locked = none → f.entered = [] → (doReturn e (T.setTop f) acts (some (.int z))).1 = T.setFrames fs) : Steps p.tables e below (T.setTop (mkF m pc Ls (.int z :: rest))) (T.setFrames fs) := by
  have hm' : T.vm.method? m = some meth := X.method'
  have hn : narrow .int (.int z) = .int z := rfl
  show Steps p.tables e below (T.setTop { method := m, pc := pc, locals := Ls, stack := _ :: rest, locked := none }) _
  jvm_step X.here [X.here.top, hx, hd, hm', hret, hn]
  first | (intro acts; rw [hl _ acts rfl rfl rfl]) | rw [hl _ _ rfl rfl rfl]
  exact Steps.refl _
end New
end Jvm.RoadKit
namespace Jvm.Pilot.@@N@@
open Jvm Jvm.ClassFile Sem Op Lib Jvm.Free Jvm.Stand Jvm.LawKit Jvm.RoadKit Bundle Jvm.Pilot.@@N@@.Jvm.D
theorem own_fldI {s : State} {args : Array Value} {t : Term} {x : Addr} {C n d : String} {k : Int32} (ev : t.eval args s none [] s = some (.ref x)) (h : (Cond.eq (.field t C n d) (.int k)).value args s none s [] = some true) : Fld s s.heap x C n d (.int k) := by
  refine Fld.start ?_
  have e := fld_at (C := C) (n := n) (dd := d) ev
  cases hq : s.fieldOf? x C n d with
  | none => rw [hq] at e; simp [Cond.value, e] at h
  | some v =>
    rw [hq] at e
    have e2 : (Term.int k).eval args s none [] s = some (.int k) := rfl
    cases v <;> simp [Cond.value, e, e2] at h
    rw [h]
theorem own_fldN {s : State} {args : Array Value} {t : Term} {x : Addr} {C n d : String} (ev : t.eval args s none [] s = some (.ref x)) (h : (Cond.eq (.field t C n d) .null).value args s none s [] = some true) : Fld s s.heap x C n d .null := by
  refine Fld.start ?_
  rw [← fld_at (C := C) (n := n) (dd := d) ev]
  exact null_v h
theorem own_fldR {s : State} {args : Array Value} {t u : Term} {x y : Addr} {C n d : String} (ev : t.eval args s none [] s = some (.ref x)) (eu : u.eval args s none [] s = some (.ref y)) (h : (Cond.eq (.field t C n d) u).value args s none s [] = some true) : Fld s s.heap x C n d (.ref y) := by
  refine Fld.start ?_
  have e := fld_at (C := C) (n := n) (dd := d) ev
  cases hq : s.fieldOf? x C n d with
  | none => rw [hq] at e; simp [Cond.value, e] at h
  | some v =>
    rw [hq] at e
    cases v <;> simp [Cond.value, e, eu] at h
    rw [h]
theorem own_staI {s : State} {args : Array Value} {C n d : String} {k : Int32} (h : (Cond.eq (.static C n d) (.int k)).value args s none s [] = some true) : (Term.static C n d).eval args s none [] s = some (.int k) := by
  cases hq : (Term.static C n d).eval args s none [] s with
  | none => simp [Cond.value, hq] at h
  | some v =>
    have e2 : (Term.int k).eval args s none [] s = some (.int k) := rfl
    cases v <;> simp [Cond.value, hq, e2] at h
    rw [h]
theorem own_elemR {s : State} {args : Array Value} {t u : Term} {x y : Addr} {cl : Cell} {j : Int32} (ev : t.eval args s none [] s = some (.ref x)) (eu : u.eval args s none [] s = some (.ref y)) (hc : s.heap[x]? = some cl) (h : (Cond.eq (.elem t (.int j)) u).value args s none s [] = some true) : cl.slots[j.toNatClampNeg]? = some (.ref y) := by
  cases hq : (Term.elem t (.int j)).eval args s none [] s with
  | none => simp [Cond.value, hq] at h
  | some v =>
    have e := (elem_in hq ev rfl hc).2
    cases v <;> simp [Cond.value, hq, eu] at h
    rw [e, h]
theorem own_fresh {Z : State} {h : Heap} {a b : Addr} {C n d : String} {v w : Value} (F : Fld Z h a C n d v) (G : Fld Z h b C n d w) (q : v ≠ w) : a ≠ b := F.ne G q
theorem own_sta_keep {Z : State} {h h' : Heap} {C n d : String} {v : Value} {ws : List Addr} (F : Sta Z h C n d v) (K : Keep h h' ws) (q : ∀ x ∈ ws, ∀ c : Cell, h[x]? = some c → c.vm.isStatics = false) : Sta Z h' C n d v := by
  obtain ⟨cf, i, k, f, st, cell, h1, h2, h3, h4, h5, h6, h7⟩ := F
  refine ⟨cf, i, k, f, st, cell, h1, h2, h3, h4, K.2.1 st cell h5 (fun hm => ?_), h6, h7⟩
  rw [q st hm cell h5] at h6; cases h6
theorem own_mono {p : Program} {l : Launch} {e : Env} {R : Room} {s : State} {m : MethodId} {args : Array Value} {below : List Frame} {meth : Method} {c : Code} {T : State} {locs : List Loc} {k j k' j' : Nat} (X : Stand p l e R s m args below meth c T locs k j) (hk : k ≤ k') (hj : j ≤ j') : Stand p l e R s m args below meth c T locs k' j' := { X with same := X.same.mono hk hj }
theorem own_nost {Z : State} {h : Heap} {a : Addr} {C : String} (F : Exa Z h a C) : ∀ c : Cell, h[a]? = some c → c.vm.isStatics = false := fun c hc => by
  obtain ⟨c', _, h1, -, -, h4, -⟩ := F
  cases h1.symm.trans hc; exact h4
theorem own_nostV {Z : State} {h : Heap} {a : Addr} {k : ClassId} {ty : FieldType} {z : Int32} {vs : List Value} {dv : Value} (F : Arv Z h a k ty z vs dv) : ∀ c : Cell, h[a]? = some c → c.vm.isStatics = false := fun c hc => by
  obtain ⟨c', A, -⟩ := F
  cases A.1.symm.trans hc; exact A.plain
theorem d0_0 : decode prog_36_method_7_code 0 = .ok (.aload_n 0, 1) := by decide +kernel
theorem d0_1 : decode prog_36_method_7_code 1 = .ok (.getstatic 10, 3) := by decide +kernel
theorem d0_4 : decode prog_36_method_7_code 4 = .ok (.if_acmp .eq 10, 3) := by decide +kernel
theorem d0_14 : decode prog_36_method_7_code 14 = .ok (.iconst 1, 1) := by decide +kernel
theorem d0_15 : decode prog_36_method_7_code 15 = .ok (.goto 4, 3) := by decide +kernel
theorem d0_19 : decode prog_36_method_7_code 19 = .ok (.ireturn, 1) := by decide +kernel
theorem pn_1 : plainName "com/example/tracewright/tracewright/engine/expr/Kind" = true := by first | (simp [plainName, overriddenIn]; done) | decide +kernel
theorem d0_7 : decode prog_36_method_7_code 7 = .ok (.aload_n 0, 1) := by decide +kernel
theorem d0_8 : decode prog_36_method_7_code 8 = .ok (.getstatic 13, 3) := by decide +kernel
theorem d0_11 : decode prog_36_method_7_code 11 = .ok (.if_acmp .ne 7, 3) := by decide +kernel
theorem d0_18 : decode prog_36_method_7_code 18 = .ok (.iconst 0, 1) := by decide +kernel
theorem pd_3 : parseMethodDescriptor "()Z" = some ⟨[], some .boolean⟩ := by decide +kernel
theorem pn_4 : plainName "com/example/tracewright/tracewright/engine/expr/KindIsFloatingPointPinLaw" = true := by first | (simp [plainName, overriddenIn]; done) | decide +kernel
theorem ef_own_in1 (m : MethodId) (pr0 : Addr) : entryFrame m #[(.ref pr0)] 1 = mkF m 0 #[.val (.ref pr0)] [] := by first | (simp [entryFrame, mkF, argsToLocals, Value.category]; done) | rfl
def Q_own_in1 (Z : State) (pr0 : Addr) (s_0 : Addr) (h0 : Heap) (n0 : Nat) (v : Option Value) (h : Heap) (L : List Loc) : Prop := v = some (.int (1 : Int32)) ∧ Fr n0 L ∧ h = h0
set_option maxRecDepth 65536 in
set_option maxHeartbeats 40000000 in
theorem own_in1 (l : Launch) (Z : State) (a0 : Array Value) (hw : ∀ d ∈ tables_1, d.before a0 Z = true) (ws : List Jvm.Cond) (pr0 : Addr) (s_0 : Addr) (h0 : Heap) (n0 : Nat) (Z0 : n0 ≤ h0.size) (P0 : Sta Z h0 "com/example/tracewright/tracewright/engine/expr/Kind" "FLOAT" "Lcom/example/tracewright/tracewright/engine/expr/Kind;" (.ref s_0)) (P1 : pr0 = s_0) :
    MetFree l (⟨"com/example/tracewright/tracewright/engine/expr/Kind", "isFloatingPoint", "()Z"⟩ : MethodName) (head1 (Jvm.Cond.code (⟨"com/example/tracewright/tracewright/engine/expr/Kind", "isFloatingPoint", "()Z"⟩ : MethodName) prog_36_method_7_code 1 (some .boolean) :: ws) ({ frames := 0, cells := 0, slots := 0, locals := 0 } : Room)) (fun a U => a = #[(.ref pr0)] ∧ Z.Warmed39 U.vm ∧ U.heap = h0) (fun _ _ _ _ _ => True) (fun _ U o U' => ∃ v L, o = .returned v ∧ Q_own_in1 Z pr0 s_0 h0 n0 v U'.heap L ∧ FrameEnd U o U' L ({ frames := 0, cells := 0, slots := 0, locals := 0 } : Room).cells ({ frames := 0, cells := 0, slots := 0, locals := 0 } : Room).slots) := by
  refine MetFree.of_bodySF (plainFor_of_name pn_1) hisR ?_
  intro p e s m args below meth c s₁ Bd hml0 hP hK
  obtain ⟨rfl, hZ, hh⟩ := hP
  have hx := Bd.exec
  have hby := Bd.bytes
  have hml : c.maxLocals = 1 := hml0
  have hown : s.vm.findClass "com/example/tracewright/tracewright/engine/expr/Kind" = some m.cls := findClass_of_methodNamed Bd.named
  have hnm := (name_of_methodNamed Bd.named Bd.method).1
  have X0 : Stand p l e ({ frames := 0, cells := 0, slots := 0, locals := 0 } : Room) s m #[(.ref pr0)] below meth c s₁ [] 0 0 := Stand.of_body Bd
  have e0 : s₁.heap = h0 := by rw [← hh, Bd.state]; rfl
  have N0 := Fr.nil n0
  have go0 : ∀ t, Steps p.tables e below (s₁.setTop (mkF m 0 #[.val (.ref pr0)] [])) t → Steps p.tables e below (s₁.setTop (entryFrame m #[(.ref pr0)] 1)) t := fun t k => castTop (ef_own_in1 m pr0) k
  revert go0
  generalize s₁.setTop (entryFrame m #[(.ref pr0)] 1) = st0
  intro go0
  obtain ⟨T1, X1, e1, st1⟩ := getS2 X0 hx hZ hown (host := "") (Or.inl (hw _ (List.mem_of_getElem? (i := 8) rfl))) Via.refl e0 P0 (g := (mkF m 1 #[.val (.ref pr0)] [(.ref pr0)])) rfl (hb hby d0_1)
  have go2 : ∀ t, Steps p.tables e below (T1.setTop (mkF m 19 #[.val (.ref pr0)] [(.int (1 : Int32))])) t → Steps p.tables e below st0 t := by
    intro t kt
    refine go0 t ?_
    refine XS.aloadN X0.here hx rfl (hb hby d0_0) rfl rfl ?_
    show Steps p.tables e below (s₁.setTop (mkF m 1 #[.val (.ref pr0)] [(.ref pr0)])) _
    refine st1 _ ?_
    show Steps p.tables e below (T1.setTop (mkF m 4 #[.val (.ref pr0)] [(.ref s_0), (.ref pr0)])) _
    refine Jvm.RoadKit.acmp (g := (mkF m 4 #[.val (.ref pr0)] [(.ref s_0), (.ref pr0)])) X1 hx rfl rfl rfl (pc0 := 4) (pc' := 14) (same := true) rfl (hb hby d0_4) rfl (decide_eq_true (congrArg Value.ref P1)) (by decide) (by decide) ?_
    show Steps p.tables e below (T1.setTop (mkF m 14 #[.val (.ref pr0)] [])) _
    refine XS.iconst X1.here hx rfl (hb hby d0_14) ?_
    show Steps p.tables e below (T1.setTop (mkF m 15 #[.val (.ref pr0)] [(.int (1 : Int32))])) _
    refine XS.goto X1.here hx rfl (pc0 := 15) (pc' := 19) rfl (hb hby d0_15) (by decide) (by decide) ?_
    show Steps p.tables e below (T1.setTop (mkF m 19 #[.val (.ref pr0)] [(.int (1 : Int32))])) _
    exact kt
  obtain ⟨fs, hr, hrun, hended, hW, hsame⟩ := X1.leave (v := some (.int (1 : Int32))) (fun h => by rw [Bd.returns] at h; cases h)
  refine ⟨_, _, go2 _ ?_, hrun, hended, _, _, rfl, ?_, ⟨_, rfl⟩, hW, hsame.mono (by decide) (by decide)⟩
  · exact retN X1 hx (t := .boolean) Bd.returns (by simp) (hb hby d0_19) hr
  · show Q_own_in1 Z pr0 s_0 h0 n0 _ T1.heap _
    rw [e1]
    exact ⟨rfl, N0, rfl⟩
theorem ef_own_in2 (m : MethodId) (pr0 : Addr) : entryFrame m #[(.ref pr0)] 1 = mkF m 0 #[.val (.ref pr0)] [] := by first | (simp [entryFrame, mkF, argsToLocals, Value.category]; done) | rfl
def Q_own_in2 (Z : State) (pr0 : Addr) (s_0 : Addr) (s_1 : Addr) (h0 : Heap) (n0 : Nat) (v : Option Value) (h : Heap) (L : List Loc) : Prop := v = some (.int (1 : Int32)) ∧ Fr n0 L ∧ h = h0
set_option maxRecDepth 65536 in
set_option maxHeartbeats 40000000 in
theorem own_in2 (l : Launch) (Z : State) (a0 : Array Value) (hw : ∀ d ∈ tables_1, d.before a0 Z = true) (ws : List Jvm.Cond) (pr0 : Addr) (s_0 : Addr) (s_1 : Addr) (h0 : Heap) (n0 : Nat) (Z0 : n0 ≤ h0.size) (P0 : Sta Z h0 "com/example/tracewright/tracewright/engine/expr/Kind" "FLOAT" "Lcom/example/tracewright/tracewright/engine/expr/Kind;" (.ref s_0)) (P1 : ¬ (pr0 = s_0)) (P2 : Sta Z h0 "com/example/tracewright/tracewright/engine/expr/Kind" "DOUBLE" "Lcom/example/tracewright/tracewright/engine/expr/Kind;" (.ref s_1)) (P3 : pr0 = s_1) :
    MetFree l (⟨"com/example/tracewright/tracewright/engine/expr/Kind", "isFloatingPoint", "()Z"⟩ : MethodName) (head1 (Jvm.Cond.code (⟨"com/example/tracewright/tracewright/engine/expr/Kind", "isFloatingPoint", "()Z"⟩ : MethodName) prog_36_method_7_code 1 (some .boolean) :: ws) ({ frames := 0, cells := 0, slots := 0, locals := 0 } : Room)) (fun a U => a = #[(.ref pr0)] ∧ Z.Warmed39 U.vm ∧ U.heap = h0) (fun _ _ _ _ _ => True) (fun _ U o U' => ∃ v L, o = .returned v ∧ Q_own_in2 Z pr0 s_0 s_1 h0 n0 v U'.heap L ∧ FrameEnd U o U' L ({ frames := 0, cells := 0, slots := 0, locals := 0 } : Room).cells ({ frames := 0, cells := 0, slots := 0, locals := 0 } : Room).slots) := by
  refine MetFree.of_bodySF (plainFor_of_name pn_1) hisR ?_
  intro p e s m args below meth c s₁ Bd hml0 hP hK
  obtain ⟨rfl, hZ, hh⟩ := hP
  have hx := Bd.exec
  have hby := Bd.bytes
  have hml : c.maxLocals = 1 := hml0
  have hown : s.vm.findClass "com/example/tracewright/tracewright/engine/expr/Kind" = some m.cls := findClass_of_methodNamed Bd.named
  have hnm := (name_of_methodNamed Bd.named Bd.method).1
  have X0 : Stand p l e ({ frames := 0, cells := 0, slots := 0, locals := 0 } : Room) s m #[(.ref pr0)] below meth c s₁ [] 0 0 := Stand.of_body Bd
  have e0 : s₁.heap = h0 := by rw [← hh, Bd.state]; rfl
  have N0 := Fr.nil n0
  have go0 : ∀ t, Steps p.tables e below (s₁.setTop (mkF m 0 #[.val (.ref pr0)] [])) t → Steps p.tables e below (s₁.setTop (entryFrame m #[(.ref pr0)] 1)) t := fun t k => castTop (ef_own_in2 m pr0) k
  revert go0
  generalize s₁.setTop (entryFrame m #[(.ref pr0)] 1) = st0
  intro go0
  obtain ⟨T1, X1, e1, st1⟩ := getS2 X0 hx hZ hown (host := "") (Or.inl (hw _ (List.mem_of_getElem? (i := 8) rfl))) Via.refl e0 P0 (g := (mkF m 1 #[.val (.ref pr0)] [(.ref pr0)])) rfl (hb hby d0_1)
  obtain ⟨T2, X2, e2, st2⟩ := getS2 X1 hx hZ hown (host := "") (Or.inl (hw _ (List.mem_of_getElem? (i := 10) rfl))) Via.refl e1 P2 (g := (mkF m 8 #[.val (.ref pr0)] [(.ref pr0)])) rfl (hb hby d0_8)
  have go3 : ∀ t, Steps p.tables e below (T2.setTop (mkF m 19 #[.val (.ref pr0)] [(.int (1 : Int32))])) t → Steps p.tables e below st0 t := by
    intro t kt
    refine go0 t ?_
    refine XS.aloadN X0.here hx rfl (hb hby d0_0) rfl rfl ?_
    show Steps p.tables e below (s₁.setTop (mkF m 1 #[.val (.ref pr0)] [(.ref pr0)])) _
    refine st1 _ ?_
    show Steps p.tables e below (T1.setTop (mkF m 4 #[.val (.ref pr0)] [(.ref s_0), (.ref pr0)])) _
    refine Jvm.RoadKit.acmp (g := (mkF m 4 #[.val (.ref pr0)] [(.ref s_0), (.ref pr0)])) X1 hx rfl rfl rfl (pc0 := 4) (pc' := 7) (same := false) rfl (hb hby d0_4) rfl (decide_eq_false fun q => P1 (Value.ref.inj q)) (by decide) (by decide) ?_
    show Steps p.tables e below (T1.setTop (mkF m 7 #[.val (.ref pr0)] [])) _
    refine XS.aloadN X1.here hx rfl (hb hby d0_7) rfl rfl ?_
    show Steps p.tables e below (T1.setTop (mkF m 8 #[.val (.ref pr0)] [(.ref pr0)])) _
    refine st2 _ ?_
    show Steps p.tables e below (T2.setTop (mkF m 11 #[.val (.ref pr0)] [(.ref s_1), (.ref pr0)])) _
    refine Jvm.RoadKit.acmp (g := (mkF m 11 #[.val (.ref pr0)] [(.ref s_1), (.ref pr0)])) X2 hx rfl rfl rfl (pc0 := 11) (pc' := 14) (same := true) rfl (hb hby d0_11) rfl (decide_eq_true (congrArg Value.ref P3)) (by decide) (by decide) ?_
    show Steps p.tables e below (T2.setTop (mkF m 14 #[.val (.ref pr0)] [])) _
    refine XS.iconst X2.here hx rfl (hb hby d0_14) ?_
    show Steps p.tables e below (T2.setTop (mkF m 15 #[.val (.ref pr0)] [(.int (1 : Int32))])) _
    refine XS.goto X2.here hx rfl (pc0 := 15) (pc' := 19) rfl (hb hby d0_15) (by decide) (by decide) ?_
    show Steps p.tables e below (T2.setTop (mkF m 19 #[.val (.ref pr0)] [(.int (1 : Int32))])) _
    exact kt
  obtain ⟨fs, hr, hrun, hended, hW, hsame⟩ := X2.leave (v := some (.int (1 : Int32))) (fun h => by rw [Bd.returns] at h; cases h)
  refine ⟨_, _, go3 _ ?_, hrun, hended, _, _, rfl, ?_, ⟨_, rfl⟩, hW, hsame.mono (by decide) (by decide)⟩
  · exact retN X2 hx (t := .boolean) Bd.returns (by simp) (hb hby d0_19) hr
  · show Q_own_in2 Z pr0 s_0 s_1 h0 n0 _ T2.heap _
    rw [e2]
    exact ⟨rfl, N0, rfl⟩
theorem ef_own_in3 (m : MethodId) (pr0 : Addr) : entryFrame m #[(.ref pr0)] 1 = mkF m 0 #[.val (.ref pr0)] [] := by first | (simp [entryFrame, mkF, argsToLocals, Value.category]; done) | rfl
def Q_own_in3 (Z : State) (pr0 : Addr) (s_0 : Addr) (s_1 : Addr) (h0 : Heap) (n0 : Nat) (v : Option Value) (h : Heap) (L : List Loc) : Prop := v = some (.int (0 : Int32)) ∧ Fr n0 L ∧ h = h0
set_option maxRecDepth 65536 in
set_option maxHeartbeats 40000000 in
theorem own_in3 (l : Launch) (Z : State) (a0 : Array Value) (hw : ∀ d ∈ tables_1, d.before a0 Z = true) (ws : List Jvm.Cond) (pr0 : Addr) (s_0 : Addr) (s_1 : Addr) (h0 : Heap) (n0 : Nat) (Z0 : n0 ≤ h0.size) (P0 : Sta Z h0 "com/example/tracewright/tracewright/engine/expr/Kind" "FLOAT" "Lcom/example/tracewright/tracewright/engine/expr/Kind;" (.ref s_0)) (P1 : ¬ (pr0 = s_0)) (P2 : Sta Z h0 "com/example/tracewright/tracewright/engine/expr/Kind" "DOUBLE" "Lcom/example/tracewright/tracewright/engine/expr/Kind;" (.ref s_1)) (P3 : ¬ (pr0 = s_1)) :
    MetFree l (⟨"com/example/tracewright/tracewright/engine/expr/Kind", "isFloatingPoint", "()Z"⟩ : MethodName) (head1 (Jvm.Cond.code (⟨"com/example/tracewright/tracewright/engine/expr/Kind", "isFloatingPoint", "()Z"⟩ : MethodName) prog_36_method_7_code 1 (some .boolean) :: ws) ({ frames := 0, cells := 0, slots := 0, locals := 0 } : Room)) (fun a U => a = #[(.ref pr0)] ∧ Z.Warmed39 U.vm ∧ U.heap = h0) (fun _ _ _ _ _ => True) (fun _ U o U' => ∃ v L, o = .returned v ∧ Q_own_in3 Z pr0 s_0 s_1 h0 n0 v U'.heap L ∧ FrameEnd U o U' L ({ frames := 0, cells := 0, slots := 0, locals := 0 } : Room).cells ({ frames := 0, cells := 0, slots := 0, locals := 0 } : Room).slots) := by
  refine MetFree.of_bodySF (plainFor_of_name pn_1) hisR ?_
  intro p e s m args below meth c s₁ Bd hml0 hP hK
  obtain ⟨rfl, hZ, hh⟩ := hP
  have hx := Bd.exec
  have hby := Bd.bytes
  have hml : c.maxLocals = 1 := hml0
  have hown : s.vm.findClass "com/example/tracewright/tracewright/engine/expr/Kind" = some m.cls := findClass_of_methodNamed Bd.named
  have hnm := (name_of_methodNamed Bd.named Bd.method).1
  have X0 : Stand p l e ({ frames := 0, cells := 0, slots := 0, locals := 0 } : Room) s m #[(.ref pr0)] below meth c s₁ [] 0 0 := Stand.of_body Bd
  have e0 : s₁.heap = h0 := by rw [← hh, Bd.state]; rfl
  have N0 := Fr.nil n0
  have go0 : ∀ t, Steps p.tables e below (s₁.setTop (mkF m 0 #[.val (.ref pr0)] [])) t → Steps p.tables e below (s₁.setTop (entryFrame m #[(.ref pr0)] 1)) t := fun t k => castTop (ef_own_in3 m pr0) k
  revert go0
  generalize s₁.setTop (entryFrame m #[(.ref pr0)] 1) = st0
  intro go0
  obtain ⟨T1, X1, e1, st1⟩ := getS2 X0 hx hZ hown (host := "") (Or.inl (hw _ (List.mem_of_getElem? (i := 8) rfl))) Via.refl e0 P0 (g := (mkF m 1 #[.val (.ref pr0)] [(.ref pr0)])) rfl (hb hby d0_1)
  obtain ⟨T2, X2, e2, st2⟩ := getS2 X1 hx hZ hown (host := "") (Or.inl (hw _ (List.mem_of_getElem? (i := 10) rfl))) Via.refl e1 P2 (g := (mkF m 8 #[.val (.ref pr0)] [(.ref pr0)])) rfl (hb hby d0_8)
  have go3 : ∀ t, Steps p.tables e below (T2.setTop (mkF m 19 #[.val (.ref pr0)] [(.int (0 : Int32))])) t → Steps p.tables e below st0 t := by
    intro t kt
    refine go0 t ?_
    refine XS.aloadN X0.here hx rfl (hb hby d0_0) rfl rfl ?_
    show Steps p.tables e below (s₁.setTop (mkF m 1 #[.val (.ref pr0)] [(.ref pr0)])) _
    refine st1 _ ?_
    show Steps p.tables e below (T1.setTop (mkF m 4 #[.val (.ref pr0)] [(.ref s_0), (.ref pr0)])) _
    refine Jvm.RoadKit.acmp (g := (mkF m 4 #[.val (.ref pr0)] [(.ref s_0), (.ref pr0)])) X1 hx rfl rfl rfl (pc0 := 4) (pc' := 7) (same := false) rfl (hb hby d0_4) rfl (decide_eq_false fun q => P1 (Value.ref.inj q)) (by decide) (by decide) ?_
    show Steps p.tables e below (T1.setTop (mkF m 7 #[.val (.ref pr0)] [])) _
    refine XS.aloadN X1.here hx rfl (hb hby d0_7) rfl rfl ?_
    show Steps p.tables e below (T1.setTop (mkF m 8 #[.val (.ref pr0)] [(.ref pr0)])) _
    refine st2 _ ?_
    show Steps p.tables e below (T2.setTop (mkF m 11 #[.val (.ref pr0)] [(.ref s_1), (.ref pr0)])) _
    refine Jvm.RoadKit.acmp (g := (mkF m 11 #[.val (.ref pr0)] [(.ref s_1), (.ref pr0)])) X2 hx rfl rfl rfl (pc0 := 11) (pc' := 18) (same := false) rfl (hb hby d0_11) rfl (decide_eq_false fun q => P3 (Value.ref.inj q)) (by decide) (by decide) ?_
    show Steps p.tables e below (T2.setTop (mkF m 18 #[.val (.ref pr0)] [])) _
    refine XS.iconst X2.here hx rfl (hb hby d0_18) ?_
    show Steps p.tables e below (T2.setTop (mkF m 19 #[.val (.ref pr0)] [(.int (0 : Int32))])) _
    exact kt
  obtain ⟨fs, hr, hrun, hended, hW, hsame⟩ := X2.leave (v := some (.int (0 : Int32))) (fun h => by rw [Bd.returns] at h; cases h)
  refine ⟨_, _, go3 _ ?_, hrun, hended, _, _, rfl, ?_, ⟨_, rfl⟩, hW, hsame.mono (by decide) (by decide)⟩
  · exact retN X2 hx (t := .boolean) Bd.returns (by simp) (hb hby d0_19) hr
  · show Q_own_in3 Z pr0 s_0 s_1 h0 n0 _ T2.heap _
    rw [e2]
    exact ⟨rfl, N0, rfl⟩
theorem ef_own_law (m : MethodId) (pi0 : Int32) : entryFrame m #[(.int pi0)] maxLocals = mkF m 0 #[.val (.int pi0), .unset, .unset, .unset] [] := by first | (simp [entryFrame, mkF, argsToLocals, Value.category, maxLocals]; done) | rfl
def Q_own_law (Z : State) (pi0 : Int32) (c0 : Addr) (c1 : Addr) (c2 : Addr) (c3 : Addr) (h0 : Heap) (n0 : Nat) (v : Option Value) (h : Heap) (L : List Loc) : Prop := v = some (.int (1 : Int32)) ∧ Fr n0 L
set_option maxRecDepth 65536 in
set_option maxHeartbeats 40000000 in
theorem own_law (l : Launch) (Z : State) (a0 : Array Value) (hw : ∀ d ∈ tables_1, d.before a0 Z = true) (ws : List Jvm.Cond) (pi0 : Int32) (c0 : Addr) (c1 : Addr) (c2 : Addr) (c3 : Addr) (h0 : Heap) (n0 : Nat) (Z0 : n0 ≤ h0.size) (P0 : Sta Z h0 "com/example/tracewright/tracewright/engine/expr/Kind" "INT" "Lcom/example/tracewright/tracewright/engine/expr/Kind;" (.ref c0)) (P1 : Exa Z h0 c0 "com/example/tracewright/tracewright/engine/expr/Kind") (P2 : Sta Z h0 "com/example/tracewright/tracewright/engine/expr/Kind" "LONG" "Lcom/example/tracewright/tracewright/engine/expr/Kind;" (.ref c1)) (P3 : Exa Z h0 c1 "com/example/tracewright/tracewright/engine/expr/Kind") (P4 : Sta Z h0 "com/example/tracewright/tracewright/engine/expr/Kind" "FLOAT" "Lcom/example/tracewright/tracewright/engine/expr/Kind;" (.ref c2)) (P5 : Exa Z h0 c2 "com/example/tracewright/tracewright/engine/expr/Kind") (P6 : Sta Z h0 "com/example/tracewright/tracewright/engine/expr/Kind" "DOUBLE" "Lcom/example/tracewright/tracewright/engine/expr/Kind;" (.ref c3)) (P7 : Exa Z h0 c3 "com/example/tracewright/tracewright/engine/expr/Kind") (P8 : c0 ≠ c1) (P9 : c0 ≠ c2) (P10 : c0 ≠ c3) (P11 : c1 ≠ c2) (P12 : c1 ≠ c3) (P13 : c2 ≠ c3) :
    MetFree l x (head1 (Jvm.Cond.code x code maxLocals ret :: ws) room_1) (fun a U => a = #[(.int pi0)] ∧ Z.Warmed39 U.vm ∧ U.heap = h0) (fun _ _ _ _ _ => True) (fun _ U o U' => ∃ v L, o = .returned v ∧ Q_own_law Z pi0 c0 c1 c2 c3 h0 n0 v U'.heap L ∧ FrameEnd U o U' L room_1.cells room_1.slots) := by
  refine MetFree.of_bodySF (plainFor_of_name pn_4) hisR ?_
  intro p e s m args below meth c s₁ Bd hml0 hP hK
  obtain ⟨rfl, hZ, hh⟩ := hP
  have hx := Bd.exec
  have hby := Bd.bytes
  have hml : c.maxLocals = 4 := hml0
  have hown : s.vm.findClass "com/example/tracewright/tracewright/engine/expr/KindIsFloatingPointPinLaw" = some m.cls := findClass_of_methodNamed Bd.named
  have hnm := (name_of_methodNamed Bd.named Bd.method).1
  have X0 : Stand p l e room_1 s m #[(.int pi0)] below meth c s₁ [] 0 0 := Stand.of_body Bd
  have e0 : s₁.heap = h0 := by rw [← hh, Bd.state]; rfl
  have N0 := Fr.nil n0
  have go0 : ∀ t, Steps p.tables e below (s₁.setTop (mkF m 0 #[.val (.int pi0), .unset, .unset, .unset] [])) t → Steps p.tables e below (s₁.setTop (entryFrame m #[(.int pi0)] maxLocals)) t := fun t k => castTop (ef_own_law m pi0) k
  revert go0
  generalize s₁.setTop (entryFrame m #[(.int pi0)] maxLocals) = st0
  intro go0
  have go1 : ∀ t, Steps p.tables e below (s₁.setTop (mkF m 5 #[.val (.int pi0), .val (.int (pi0 &&& (3 : Int32))), .unset, .unset] [(.int (pi0 &&& (3 : Int32)))])) t → Steps p.tables e below st0 t := by
    intro t kt
    refine go0 t ?_
    refine XS.iloadN X0.here hx rfl (hb hby at_0) rfl ?_
    show Steps p.tables e below (s₁.setTop (mkF m 1 #[.val (.int pi0), .unset, .unset, .unset] [(.int pi0)])) _
    refine XS.iconst X0.here hx rfl (hb hby at_1) ?_
    show Steps p.tables e below (s₁.setTop (mkF m 2 #[.val (.int pi0), .unset, .unset, .unset] [(.int (3 : Int32)), (.int pi0)])) _
    refine XS.iand X0.here hx rfl (hb hby at_2) rfl ?_
    show Steps p.tables e below (s₁.setTop (mkF m 3 #[.val (.int pi0), .unset, .unset, .unset] [(.int (pi0 &&& (3 : Int32)))])) _
    refine XS.istoreN X0.here hx rfl (hb hby at_3) rfl (l' := #[.val (.int pi0), .val (.int (pi0 &&& (3 : Int32))), .unset, .unset]) rfl ?_
    show Steps p.tables e below (s₁.setTop (mkF m 4 #[.val (.int pi0), .val (.int (pi0 &&& (3 : Int32))), .unset, .unset] [])) _
    refine XS.iloadN X0.here hx rfl (hb hby at_4) rfl ?_
    show Steps p.tables e below (s₁.setTop (mkF m 5 #[.val (.int pi0), .val (.int (pi0 &&& (3 : Int32))), .unset, .unset] [(.int (pi0 &&& (3 : Int32)))])) _
    exact kt
  by_cases hc2 : (pi0 &&& (3 : Int32)) = (0 : Int32)
  · skip
    obtain ⟨T3, X3, e3, st3⟩ := getS2 X0 hx hZ hown (host := "") (Or.inl (hw _ (List.mem_of_getElem? (i := 0) rfl))) Via.refl e0 P0 (g := (mkF m 8 #[.val (.int pi0), .val (.int (pi0 &&& (3 : Int32))), .unset, .unset] [])) rfl (hb hby at_8)
    obtain ⟨cq4, kq4, q4a, q4b, q4c⟩ := isOf hZ e3 P1
    obtain ⟨_, _, ⟨T4, L4, k4, n4⟩, -, X4, ⟨Lc4, hQ4, l4, y4, z4⟩, st4⟩ := X3.virtualBack hx (y := (⟨"com/example/tracewright/tracewright/engine/expr/Kind", "isFloatingPoint", "()Z"⟩ : MethodName)) (z := (⟨"com/example/tracewright/tracewright/engine/expr/Kind", "isFloatingPoint", "()Z"⟩ : MethodName)) hown (mvT hZ (hw _ (List.mem_of_getElem? (i := 3) rfl))) (mvT hZ (hw _ (List.mem_of_getElem? (i := 4) rfl))) (notFace_of_selects (args := #[]) (mvT hZ (hw _ (List.mem_of_getElem? (i := 6) rfl)))) (mvT hZ (hw _ (List.mem_of_getElem? (i := 6) rfl))) (mvT hZ (hw _ (List.mem_of_getElem? (i := 5) rfl))) (by decide) (backOf (W := 0) (own_in3 l Z a0 hw [] c0 c2 c3 h0 n0 Z0 P4 P9 P6 P10) hZ (hw _ (List.mem_of_getElem? (i := 7) rfl)) (hw _ (List.mem_of_getElem? (i := 1) rfl)) (by decide) (by decide)) q4a q4c (g := (mkF m 52 #[.val (.int pi0), .val (.int (pi0 &&& (3 : Int32))), .val (.ref c0), .val (.int (0 : Int32))] [(.ref c0)])) rfl (by rw [hml]; rfl) (Steps.refl _) (argsL := []) (rest := []) (lenOf pd_3 rfl) rfl (by show 2 * 0 + _ ≤ _; exact Nat.le_of_eq rfl) (hb hby at_52) (fun _ _ => ⟨rfl, e3, (by decide : 0 + 0 ≤ _), (by decide : 0 + 0 ≤ _)⟩)
    dsimp only [Pt.U, Pt.locs, Pt.cells, Pt.slots] at X4 l4 y4 z4 st4 hQ4
    subst l4 y4 z4
    obtain ⟨rfl, Nq4, e4⟩ := hQ4
    have N4 := Fr.app N0 Nq4
    have go5 : ∀ t, Steps p.tables e below (T4.setTop (mkF m 64 #[.val (.int pi0), .val (.int (pi0 &&& (3 : Int32))), .val (.ref c0), .val (.int (0 : Int32))] [(.int (1 : Int32))])) t → Steps p.tables e below st0 t := by
      intro t kt
      refine go1 t ?_
      refine XS.ifNo X0.here hx rfl (hb hby at_5) rfl ((if0 _ _).trans (teq hc2).2) ?_
      show Steps p.tables e below (s₁.setTop (mkF m 8 #[.val (.int pi0), .val (.int (pi0 &&& (3 : Int32))), .unset, .unset] [])) _
      refine st3 _ ?_
      show Steps p.tables e below (T3.setTop (mkF m 11 #[.val (.int pi0), .val (.int (pi0 &&& (3 : Int32))), .unset, .unset] [(.ref c0)])) _
      refine XS.astoreN X3.here hx rfl (hb hby at_11) rfl rfl (l' := #[.val (.int pi0), .val (.int (pi0 &&& (3 : Int32))), .val (.ref c0), .unset]) rfl ?_
      show Steps p.tables e below (T3.setTop (mkF m 12 #[.val (.int pi0), .val (.int (pi0 &&& (3 : Int32))), .val (.ref c0), .unset] [])) _
      refine XS.iconst X3.here hx rfl (hb hby at_12) ?_
      show Steps p.tables e below (T3.setTop (mkF m 13 #[.val (.int pi0), .val (.int (pi0 &&& (3 : Int32))), .val (.ref c0), .unset] [(.int (0 : Int32))])) _
      refine XS.istoreN X3.here hx rfl (hb hby at_13) rfl (l' := #[.val (.int pi0), .val (.int (pi0 &&& (3 : Int32))), .val (.ref c0), .val (.int (0 : Int32))]) rfl ?_
      show Steps p.tables e below (T3.setTop (mkF m 14 #[.val (.int pi0), .val (.int (pi0 &&& (3 : Int32))), .val (.ref c0), .val (.int (0 : Int32))] [])) _
      refine XS.goto X3.here hx rfl (pc0 := 14) (pc' := 51) rfl (hb hby at_14) (by decide) (by decide) ?_
      show Steps p.tables e below (T3.setTop (mkF m 51 #[.val (.int pi0), .val (.int (pi0 &&& (3 : Int32))), .val (.ref c0), .val (.int (0 : Int32))] [])) _
      refine XS.aloadN X3.here hx rfl (hb hby at_51) rfl rfl ?_
      show Steps p.tables e below (T3.setTop (mkF m 52 #[.val (.int pi0), .val (.int (pi0 &&& (3 : Int32))), .val (.ref c0), .val (.int (0 : Int32))] [(.ref c0)])) _
      refine st4.trans ?_
      show Steps p.tables e below (T4.setTop (mkF m 55 #[.val (.int pi0), .val (.int (pi0 &&& (3 : Int32))), .val (.ref c0), .val (.int (0 : Int32))] [(.int (0 : Int32))])) _
      refine XS.iloadN X4.here hx rfl (hb hby at_55) rfl ?_
      show Steps p.tables e below (T4.setTop (mkF m 56 #[.val (.int pi0), .val (.int (pi0 &&& (3 : Int32))), .val (.ref c0), .val (.int (0 : Int32))] [(.int (0 : Int32)), (.int (0 : Int32))])) _
      refine XS.icmpNo X4.here hx rfl (hb hby at_56) rfl (teq (by decide : (0 : Int32) = (0 : Int32))).2 ?_
      show Steps p.tables e below (T4.setTop (mkF m 59 #[.val (.int pi0), .val (.int (pi0 &&& (3 : Int32))), .val (.ref c0), .val (.int (0 : Int32))] [])) _
      refine XS.iconst X4.here hx rfl (hb hby at_59) ?_
      show Steps p.tables e below (T4.setTop (mkF m 60 #[.val (.int pi0), .val (.int (pi0 &&& (3 : Int32))), .val (.ref c0), .val (.int (0 : Int32))] [(.int (1 : Int32))])) _
      refine XS.goto X4.here hx rfl (pc0 := 60) (pc' := 64) rfl (hb hby at_60) (by decide) (by decide) ?_
      show Steps p.tables e below (T4.setTop (mkF m 64 #[.val (.int pi0), .val (.int (pi0 &&& (3 : Int32))), .val (.ref c0), .val (.int (0 : Int32))] [(.int (1 : Int32))])) _
      exact kt
    obtain ⟨fs, hr, hrun, hended, hW, hsame⟩ := X4.leave (v := some (.int (1 : Int32))) (fun h => by rw [Bd.returns] at h; cases h)
    refine ⟨_, _, go5 _ ?_, hrun, hended, _, _, rfl, ?_, ⟨_, rfl⟩, hW, hsame.mono (by decide) (by decide)⟩
    · exact retN X4 hx (t := .boolean) Bd.returns (by simp) (hb hby at_64) hr
    · show Q_own_law Z pi0 c0 c1 c2 c3 h0 n0 _ T4.heap _
      rw [e4]
      exact ⟨rfl, N4⟩
  · skip
    have go6 : ∀ t, Steps p.tables e below (s₁.setTop (mkF m 19 #[.val (.int pi0), .val (.int (pi0 &&& (3 : Int32))), .unset, .unset] [(.int (1 : Int32)), (.int (pi0 &&& (3 : Int32)))])) t → Steps p.tables e below st0 t := by
      intro t kt
      refine go1 t ?_
      refine XS.ifYes X0.here hx rfl (pc0 := 5) (pc' := 17) rfl (hb hby at_5) rfl ((if0 _ _).trans (feq hc2).2) (by decide) (by decide) ?_
      show Steps p.tables e below (s₁.setTop (mkF m 17 #[.val (.int pi0), .val (.int (pi0 &&& (3 : Int32))), .unset, .unset] [])) _
      refine XS.iloadN X0.here hx rfl (hb hby at_17) rfl ?_
      show Steps p.tables e below (s₁.setTop (mkF m 18 #[.val (.int pi0), .val (.int (pi0 &&& (3 : Int32))), .unset, .unset] [(.int (pi0 &&& (3 : Int32)))])) _
      refine XS.iconst X0.here hx rfl (hb hby at_18) ?_
      show Steps p.tables e below (s₁.setTop (mkF m 19 #[.val (.int pi0), .val (.int (pi0 &&& (3 : Int32))), .unset, .unset] [(.int (1 : Int32)), (.int (pi0 &&& (3 : Int32)))])) _
      exact kt
    by_cases hc7 : (pi0 &&& (3 : Int32)) = (1 : Int32)
    · skip
      obtain ⟨T8, X8, e8, st8⟩ := getS2 X0 hx hZ hown (host := "") (Or.inl (hw _ (List.mem_of_getElem? (i := 14) rfl))) Via.refl e0 P2 (g := (mkF m 22 #[.val (.int pi0), .val (.int (pi0 &&& (3 : Int32))), .unset, .unset] [])) rfl (hb hby at_22)
      obtain ⟨cq9, kq9, q9a, q9b, q9c⟩ := isOf hZ e8 P3
      obtain ⟨_, _, ⟨T9, L9, k9, n9⟩, -, X9, ⟨Lc9, hQ9, l9, y9, z9⟩, st9⟩ := X8.virtualBack hx (y := (⟨"com/example/tracewright/tracewright/engine/expr/Kind", "isFloatingPoint", "()Z"⟩ : MethodName)) (z := (⟨"com/example/tracewright/tracewright/engine/expr/Kind", "isFloatingPoint", "()Z"⟩ : MethodName)) hown (mvT hZ (hw _ (List.mem_of_getElem? (i := 3) rfl))) (mvT hZ (hw _ (List.mem_of_getElem? (i := 4) rfl))) (notFace_of_selects (args := #[]) (mvT hZ (hw _ (List.mem_of_getElem? (i := 6) rfl)))) (mvT hZ (hw _ (List.mem_of_getElem? (i := 6) rfl))) (mvT hZ (hw _ (List.mem_of_getElem? (i := 5) rfl))) (by decide) (backOf (W := 0) (own_in3 l Z a0 hw [] c1 c2 c3 h0 n0 Z0 P4 P11 P6 P12) hZ (hw _ (List.mem_of_getElem? (i := 7) rfl)) (hw _ (List.mem_of_getElem? (i := 1) rfl)) (by decide) (by decide)) q9a q9c (g := (mkF m 52 #[.val (.int pi0), .val (.int (pi0 &&& (3 : Int32))), .val (.ref c1), .val (.int (0 : Int32))] [(.ref c1)])) rfl (by rw [hml]; rfl) (Steps.refl _) (argsL := []) (rest := []) (lenOf pd_3 rfl) rfl (by show 2 * 0 + _ ≤ _; exact Nat.le_of_eq rfl) (hb hby at_52) (fun _ _ => ⟨rfl, e8, (by decide : 0 + 0 ≤ _), (by decide : 0 + 0 ≤ _)⟩)
      dsimp only [Pt.U, Pt.locs, Pt.cells, Pt.slots] at X9 l9 y9 z9 st9 hQ9
      subst l9 y9 z9
      obtain ⟨rfl, Nq9, e9⟩ := hQ9
      have N9 := Fr.app N0 Nq9
      have go10 : ∀ t, Steps p.tables e below (T9.setTop (mkF m 64 #[.val (.int pi0), .val (.int (pi0 &&& (3 : Int32))), .val (.ref c1), .val (.int (0 : Int32))] [(.int (1 : Int32))])) t → Steps p.tables e below st0 t := by
        intro t kt
        refine go6 t ?_
        refine XS.icmpNo X0.here hx rfl (hb hby at_19) rfl (teq hc7).2 ?_
        show Steps p.tables e below (s₁.setTop (mkF m 22 #[.val (.int pi0), .val (.int (pi0 &&& (3 : Int32))), .unset, .unset] [])) _
        refine st8 _ ?_
        show Steps p.tables e below (T8.setTop (mkF m 25 #[.val (.int pi0), .val (.int (pi0 &&& (3 : Int32))), .unset, .unset] [(.ref c1)])) _
        refine XS.astoreN X8.here hx rfl (hb hby at_25) rfl rfl (l' := #[.val (.int pi0), .val (.int (pi0 &&& (3 : Int32))), .val (.ref c1), .unset]) rfl ?_
        show Steps p.tables e below (T8.setTop (mkF m 26 #[.val (.int pi0), .val (.int (pi0 &&& (3 : Int32))), .val (.ref c1), .unset] [])) _
        refine XS.iconst X8.here hx rfl (hb hby at_26) ?_
        show Steps p.tables e below (T8.setTop (mkF m 27 #[.val (.int pi0), .val (.int (pi0 &&& (3 : Int32))), .val (.ref c1), .unset] [(.int (0 : Int32))])) _
        refine XS.istoreN X8.here hx rfl (hb hby at_27) rfl (l' := #[.val (.int pi0), .val (.int (pi0 &&& (3 : Int32))), .val (.ref c1), .val (.int (0 : Int32))]) rfl ?_
        show Steps p.tables e below (T8.setTop (mkF m 28 #[.val (.int pi0), .val (.int (pi0 &&& (3 : Int32))), .val (.ref c1), .val (.int (0 : Int32))] [])) _
        refine XS.goto X8.here hx rfl (pc0 := 28) (pc' := 51) rfl (hb hby at_28) (by decide) (by decide) ?_
        show Steps p.tables e below (T8.setTop (mkF m 51 #[.val (.int pi0), .val (.int (pi0 &&& (3 : Int32))), .val (.ref c1), .val (.int (0 : Int32))] [])) _
        refine XS.aloadN X8.here hx rfl (hb hby at_51) rfl rfl ?_
        show Steps p.tables e below (T8.setTop (mkF m 52 #[.val (.int pi0), .val (.int (pi0 &&& (3 : Int32))), .val (.ref c1), .val (.int (0 : Int32))] [(.ref c1)])) _
        refine st9.trans ?_
        show Steps p.tables e below (T9.setTop (mkF m 55 #[.val (.int pi0), .val (.int (pi0 &&& (3 : Int32))), .val (.ref c1), .val (.int (0 : Int32))] [(.int (0 : Int32))])) _
        refine XS.iloadN X9.here hx rfl (hb hby at_55) rfl ?_
        show Steps p.tables e below (T9.setTop (mkF m 56 #[.val (.int pi0), .val (.int (pi0 &&& (3 : Int32))), .val (.ref c1), .val (.int (0 : Int32))] [(.int (0 : Int32)), (.int (0 : Int32))])) _
        refine XS.icmpNo X9.here hx rfl (hb hby at_56) rfl (teq (by decide : (0 : Int32) = (0 : Int32))).2 ?_
        show Steps p.tables e below (T9.setTop (mkF m 59 #[.val (.int pi0), .val (.int (pi0 &&& (3 : Int32))), .val (.ref c1), .val (.int (0 : Int32))] [])) _
        refine XS.iconst X9.here hx rfl (hb hby at_59) ?_
        show Steps p.tables e below (T9.setTop (mkF m 60 #[.val (.int pi0), .val (.int (pi0 &&& (3 : Int32))), .val (.ref c1), .val (.int (0 : Int32))] [(.int (1 : Int32))])) _
        refine XS.goto X9.here hx rfl (pc0 := 60) (pc' := 64) rfl (hb hby at_60) (by decide) (by decide) ?_
        show Steps p.tables e below (T9.setTop (mkF m 64 #[.val (.int pi0), .val (.int (pi0 &&& (3 : Int32))), .val (.ref c1), .val (.int (0 : Int32))] [(.int (1 : Int32))])) _
        exact kt
      obtain ⟨fs, hr, hrun, hended, hW, hsame⟩ := X9.leave (v := some (.int (1 : Int32))) (fun h => by rw [Bd.returns] at h; cases h)
      refine ⟨_, _, go10 _ ?_, hrun, hended, _, _, rfl, ?_, ⟨_, rfl⟩, hW, hsame.mono (by decide) (by decide)⟩
      · exact retN X9 hx (t := .boolean) Bd.returns (by simp) (hb hby at_64) hr
      · show Q_own_law Z pi0 c0 c1 c2 c3 h0 n0 _ T9.heap _
        rw [e9]
        exact ⟨rfl, N9⟩
    · skip
      have go11 : ∀ t, Steps p.tables e below (s₁.setTop (mkF m 33 #[.val (.int pi0), .val (.int (pi0 &&& (3 : Int32))), .unset, .unset] [(.int (2 : Int32)), (.int (pi0 &&& (3 : Int32)))])) t → Steps p.tables e below st0 t := by
        intro t kt
        refine go6 t ?_
        refine XS.icmpYes X0.here hx rfl (pc0 := 19) (pc' := 31) rfl (hb hby at_19) rfl (feq hc7).2 (by decide) (by decide) ?_
        show Steps p.tables e below (s₁.setTop (mkF m 31 #[.val (.int pi0), .val (.int (pi0 &&& (3 : Int32))), .unset, .unset] [])) _
        refine XS.iloadN X0.here hx rfl (hb hby at_31) rfl ?_
        show Steps p.tables e below (s₁.setTop (mkF m 32 #[.val (.int pi0), .val (.int (pi0 &&& (3 : Int32))), .unset, .unset] [(.int (pi0 &&& (3 : Int32)))])) _
        refine XS.iconst X0.here hx rfl (hb hby at_32) ?_
        show Steps p.tables e below (s₁.setTop (mkF m 33 #[.val (.int pi0), .val (.int (pi0 &&& (3 : Int32))), .unset, .unset] [(.int (2 : Int32)), (.int (pi0 &&& (3 : Int32)))])) _
        exact kt
      by_cases hc12 : (pi0 &&& (3 : Int32)) = (2 : Int32)
      · skip
        obtain ⟨T13, X13, e13, st13⟩ := getS2 X0 hx hZ hown (host := "") (Or.inl (hw _ (List.mem_of_getElem? (i := 13) rfl))) Via.refl e0 P4 (g := (mkF m 36 #[.val (.int pi0), .val (.int (pi0 &&& (3 : Int32))), .unset, .unset] [])) rfl (hb hby at_36)
        obtain ⟨cq14, kq14, q14a, q14b, q14c⟩ := isOf hZ e13 P5
        obtain ⟨_, _, ⟨T14, L14, k14, n14⟩, -, X14, ⟨Lc14, hQ14, l14, y14, z14⟩, st14⟩ := X13.virtualBack hx (y := (⟨"com/example/tracewright/tracewright/engine/expr/Kind", "isFloatingPoint", "()Z"⟩ : MethodName)) (z := (⟨"com/example/tracewright/tracewright/engine/expr/Kind", "isFloatingPoint", "()Z"⟩ : MethodName)) hown (mvT hZ (hw _ (List.mem_of_getElem? (i := 3) rfl))) (mvT hZ (hw _ (List.mem_of_getElem? (i := 4) rfl))) (notFace_of_selects (args := #[]) (mvT hZ (hw _ (List.mem_of_getElem? (i := 6) rfl)))) (mvT hZ (hw _ (List.mem_of_getElem? (i := 6) rfl))) (mvT hZ (hw _ (List.mem_of_getElem? (i := 5) rfl))) (by decide) (backOf (W := 0) (own_in1 l Z a0 hw [] c2 c2 h0 n0 Z0 P4 (rfl : c2 = c2)) hZ (hw _ (List.mem_of_getElem? (i := 7) rfl)) (hw _ (List.mem_of_getElem? (i := 1) rfl)) (by decide) (by decide)) q14a q14c (g := (mkF m 52 #[.val (.int pi0), .val (.int (pi0 &&& (3 : Int32))), .val (.ref c2), .val (.int (1 : Int32))] [(.ref c2)])) rfl (by rw [hml]; rfl) (Steps.refl _) (argsL := []) (rest := []) (lenOf pd_3 rfl) rfl (by show 2 * 0 + _ ≤ _; exact Nat.le_of_eq rfl) (hb hby at_52) (fun _ _ => ⟨rfl, e13, (by decide : 0 + 0 ≤ _), (by decide : 0 + 0 ≤ _)⟩)
        dsimp only [Pt.U, Pt.locs, Pt.cells, Pt.slots] at X14 l14 y14 z14 st14 hQ14
        subst l14 y14 z14
        obtain ⟨rfl, Nq14, e14⟩ := hQ14
        have N14 := Fr.app N0 Nq14
        have go15 : ∀ t, Steps p.tables e below (T14.setTop (mkF m 64 #[.val (.int pi0), .val (.int (pi0 &&& (3 : Int32))), .val (.ref c2), .val (.int (1 : Int32))] [(.int (1 : Int32))])) t → Steps p.tables e below st0 t := by
          intro t kt
          refine go11 t ?_
          refine XS.icmpNo X0.here hx rfl (hb hby at_33) rfl (teq hc12).2 ?_
          show Steps p.tables e below (s₁.setTop (mkF m 36 #[.val (.int pi0), .val (.int (pi0 &&& (3 : Int32))), .unset, .unset] [])) _
          refine st13 _ ?_
          show Steps p.tables e below (T13.setTop (mkF m 39 #[.val (.int pi0), .val (.int (pi0 &&& (3 : Int32))), .unset, .unset] [(.ref c2)])) _
          refine XS.astoreN X13.here hx rfl (hb hby at_39) rfl rfl (l' := #[.val (.int pi0), .val (.int (pi0 &&& (3 : Int32))), .val (.ref c2), .unset]) rfl ?_
          show Steps p.tables e below (T13.setTop (mkF m 40 #[.val (.int pi0), .val (.int (pi0 &&& (3 : Int32))), .val (.ref c2), .unset] [])) _
          refine XS.iconst X13.here hx rfl (hb hby at_40) ?_
          show Steps p.tables e below (T13.setTop (mkF m 41 #[.val (.int pi0), .val (.int (pi0 &&& (3 : Int32))), .val (.ref c2), .unset] [(.int (1 : Int32))])) _
          refine XS.istoreN X13.here hx rfl (hb hby at_41) rfl (l' := #[.val (.int pi0), .val (.int (pi0 &&& (3 : Int32))), .val (.ref c2), .val (.int (1 : Int32))]) rfl ?_
          show Steps p.tables e below (T13.setTop (mkF m 42 #[.val (.int pi0), .val (.int (pi0 &&& (3 : Int32))), .val (.ref c2), .val (.int (1 : Int32))] [])) _
          refine XS.goto X13.here hx rfl (pc0 := 42) (pc' := 51) rfl (hb hby at_42) (by decide) (by decide) ?_
          show Steps p.tables e below (T13.setTop (mkF m 51 #[.val (.int pi0), .val (.int (pi0 &&& (3 : Int32))), .val (.ref c2), .val (.int (1 : Int32))] [])) _
          refine XS.aloadN X13.here hx rfl (hb hby at_51) rfl rfl ?_
          show Steps p.tables e below (T13.setTop (mkF m 52 #[.val (.int pi0), .val (.int (pi0 &&& (3 : Int32))), .val (.ref c2), .val (.int (1 : Int32))] [(.ref c2)])) _
          refine st14.trans ?_
          show Steps p.tables e below (T14.setTop (mkF m 55 #[.val (.int pi0), .val (.int (pi0 &&& (3 : Int32))), .val (.ref c2), .val (.int (1 : Int32))] [(.int (1 : Int32))])) _
          refine XS.iloadN X14.here hx rfl (hb hby at_55) rfl ?_
          show Steps p.tables e below (T14.setTop (mkF m 56 #[.val (.int pi0), .val (.int (pi0 &&& (3 : Int32))), .val (.ref c2), .val (.int (1 : Int32))] [(.int (1 : Int32)), (.int (1 : Int32))])) _
          refine XS.icmpNo X14.here hx rfl (hb hby at_56) rfl (teq (by decide : (1 : Int32) = (1 : Int32))).2 ?_
          show Steps p.tables e below (T14.setTop (mkF m 59 #[.val (.int pi0), .val (.int (pi0 &&& (3 : Int32))), .val (.ref c2), .val (.int (1 : Int32))] [])) _
          refine XS.iconst X14.here hx rfl (hb hby at_59) ?_
          show Steps p.tables e below (T14.setTop (mkF m 60 #[.val (.int pi0), .val (.int (pi0 &&& (3 : Int32))), .val (.ref c2), .val (.int (1 : Int32))] [(.int (1 : Int32))])) _
          refine XS.goto X14.here hx rfl (pc0 := 60) (pc' := 64) rfl (hb hby at_60) (by decide) (by decide) ?_
          show Steps p.tables e below (T14.setTop (mkF m 64 #[.val (.int pi0), .val (.int (pi0 &&& (3 : Int32))), .val (.ref c2), .val (.int (1 : Int32))] [(.int (1 : Int32))])) _
          exact kt
        obtain ⟨fs, hr, hrun, hended, hW, hsame⟩ := X14.leave (v := some (.int (1 : Int32))) (fun h => by rw [Bd.returns] at h; cases h)
        refine ⟨_, _, go15 _ ?_, hrun, hended, _, _, rfl, ?_, ⟨_, rfl⟩, hW, hsame.mono (by decide) (by decide)⟩
        · exact retN X14 hx (t := .boolean) Bd.returns (by simp) (hb hby at_64) hr
        · show Q_own_law Z pi0 c0 c1 c2 c3 h0 n0 _ T14.heap _
          rw [e14]
          exact ⟨rfl, N14⟩
      · skip
        obtain ⟨T16, X16, e16, st16⟩ := getS2 X0 hx hZ hown (host := "") (Or.inl (hw _ (List.mem_of_getElem? (i := 12) rfl))) Via.refl e0 P6 (g := (mkF m 45 #[.val (.int pi0), .val (.int (pi0 &&& (3 : Int32))), .unset, .unset] [])) rfl (hb hby at_45)
        obtain ⟨cq17, kq17, q17a, q17b, q17c⟩ := isOf hZ e16 P7
        obtain ⟨_, _, ⟨T17, L17, k17, n17⟩, -, X17, ⟨Lc17, hQ17, l17, y17, z17⟩, st17⟩ := X16.virtualBack hx (y := (⟨"com/example/tracewright/tracewright/engine/expr/Kind", "isFloatingPoint", "()Z"⟩ : MethodName)) (z := (⟨"com/example/tracewright/tracewright/engine/expr/Kind", "isFloatingPoint", "()Z"⟩ : MethodName)) hown (mvT hZ (hw _ (List.mem_of_getElem? (i := 3) rfl))) (mvT hZ (hw _ (List.mem_of_getElem? (i := 4) rfl))) (notFace_of_selects (args := #[]) (mvT hZ (hw _ (List.mem_of_getElem? (i := 6) rfl)))) (mvT hZ (hw _ (List.mem_of_getElem? (i := 6) rfl))) (mvT hZ (hw _ (List.mem_of_getElem? (i := 5) rfl))) (by decide) (backOf (W := 0) (own_in2 l Z a0 hw [] c3 c2 c3 h0 n0 Z0 P4 (Ne.symm P13) P6 (rfl : c3 = c3)) hZ (hw _ (List.mem_of_getElem? (i := 7) rfl)) (hw _ (List.mem_of_getElem? (i := 1) rfl)) (by decide) (by decide)) q17a q17c (g := (mkF m 52 #[.val (.int pi0), .val (.int (pi0 &&& (3 : Int32))), .val (.ref c3), .val (.int (1 : Int32))] [(.ref c3)])) rfl (by rw [hml]; rfl) (Steps.refl _) (argsL := []) (rest := []) (lenOf pd_3 rfl) rfl (by show 2 * 0 + _ ≤ _; exact Nat.le_of_eq rfl) (hb hby at_52) (fun _ _ => ⟨rfl, e16, (by decide : 0 + 0 ≤ _), (by decide : 0 + 0 ≤ _)⟩)
        dsimp only [Pt.U, Pt.locs, Pt.cells, Pt.slots] at X17 l17 y17 z17 st17 hQ17
        subst l17 y17 z17
        obtain ⟨rfl, Nq17, e17⟩ := hQ17
        have N17 := Fr.app N0 Nq17
        have go18 : ∀ t, Steps p.tables e below (T17.setTop (mkF m 64 #[.val (.int pi0), .val (.int (pi0 &&& (3 : Int32))), .val (.ref c3), .val (.int (1 : Int32))] [(.int (1 : Int32))])) t → Steps p.tables e below st0 t := by
          intro t kt
          refine go11 t ?_
          refine XS.icmpYes X0.here hx rfl (pc0 := 33) (pc' := 45) rfl (hb hby at_33) rfl (feq hc12).2 (by decide) (by decide) ?_
          show Steps p.tables e below (s₁.setTop (mkF m 45 #[.val (.int pi0), .val (.int (pi0 &&& (3 : Int32))), .unset, .unset] [])) _
          refine st16 _ ?_
          show Steps p.tables e below (T16.setTop (mkF m 48 #[.val (.int pi0), .val (.int (pi0 &&& (3 : Int32))), .unset, .unset] [(.ref c3)])) _
          refine XS.astoreN X16.here hx rfl (hb hby at_48) rfl rfl (l' := #[.val (.int pi0), .val (.int (pi0 &&& (3 : Int32))), .val (.ref c3), .unset]) rfl ?_
          show Steps p.tables e below (T16.setTop (mkF m 49 #[.val (.int pi0), .val (.int (pi0 &&& (3 : Int32))), .val (.ref c3), .unset] [])) _
          refine XS.iconst X16.here hx rfl (hb hby at_49) ?_
          show Steps p.tables e below (T16.setTop (mkF m 50 #[.val (.int pi0), .val (.int (pi0 &&& (3 : Int32))), .val (.ref c3), .unset] [(.int (1 : Int32))])) _
          refine XS.istoreN X16.here hx rfl (hb hby at_50) rfl (l' := #[.val (.int pi0), .val (.int (pi0 &&& (3 : Int32))), .val (.ref c3), .val (.int (1 : Int32))]) rfl ?_
          show Steps p.tables e below (T16.setTop (mkF m 51 #[.val (.int pi0), .val (.int (pi0 &&& (3 : Int32))), .val (.ref c3), .val (.int (1 : Int32))] [])) _
          refine XS.aloadN X16.here hx rfl (hb hby at_51) rfl rfl ?_
          show Steps p.tables e below (T16.setTop (mkF m 52 #[.val (.int pi0), .val (.int (pi0 &&& (3 : Int32))), .val (.ref c3), .val (.int (1 : Int32))] [(.ref c3)])) _
          refine st17.trans ?_
          show Steps p.tables e below (T17.setTop (mkF m 55 #[.val (.int pi0), .val (.int (pi0 &&& (3 : Int32))), .val (.ref c3), .val (.int (1 : Int32))] [(.int (1 : Int32))])) _
          refine XS.iloadN X17.here hx rfl (hb hby at_55) rfl ?_
          show Steps p.tables e below (T17.setTop (mkF m 56 #[.val (.int pi0), .val (.int (pi0 &&& (3 : Int32))), .val (.ref c3), .val (.int (1 : Int32))] [(.int (1 : Int32)), (.int (1 : Int32))])) _
          refine XS.icmpNo X17.here hx rfl (hb hby at_56) rfl (teq (by decide : (1 : Int32) = (1 : Int32))).2 ?_
          show Steps p.tables e below (T17.setTop (mkF m 59 #[.val (.int pi0), .val (.int (pi0 &&& (3 : Int32))), .val (.ref c3), .val (.int (1 : Int32))] [])) _
          refine XS.iconst X17.here hx rfl (hb hby at_59) ?_
          show Steps p.tables e below (T17.setTop (mkF m 60 #[.val (.int pi0), .val (.int (pi0 &&& (3 : Int32))), .val (.ref c3), .val (.int (1 : Int32))] [(.int (1 : Int32))])) _
          refine XS.goto X17.here hx rfl (pc0 := 60) (pc' := 64) rfl (hb hby at_60) (by decide) (by decide) ?_
          show Steps p.tables e below (T17.setTop (mkF m 64 #[.val (.int pi0), .val (.int (pi0 &&& (3 : Int32))), .val (.ref c3), .val (.int (1 : Int32))] [(.int (1 : Int32))])) _
          exact kt
        obtain ⟨fs, hr, hrun, hended, hW, hsame⟩ := X17.leave (v := some (.int (1 : Int32))) (fun h => by rw [Bd.returns] at h; cases h)
        refine ⟨_, _, go18 _ ?_, hrun, hended, _, _, rfl, ?_, ⟨_, rfl⟩, hW, hsame.mono (by decide) (by decide)⟩
        · exact retN X17 hx (t := .boolean) Bd.returns (by simp) (hb hby at_64) hr
        · show Q_own_law Z pi0 c0 c1 c2 c3 h0 n0 _ T17.heap _
          rw [e17]
          exact ⟨rfl, N17⟩
set_option maxRecDepth 65536 in
set_option maxHeartbeats 40000000 in
theorem comes_1 {Post : Tables → Env → Array Value → State → Outcome → State → Prop} (hpost : ∀ tb e args s v u, (limb_1_1.after args s (.returned v) u = true ∧ limb_1_2.after args s (.returned v) u = true ∧ True) → FrameEnd s (.returned v) u (Jvm.fieldLocs frame_1_writes args s ++ Jvm.arrayLocs frame_1_arrays args s ++ Jvm.staticLocs frame_1_statics s) 0 0 → Post tb e args s (.returned v) u) :
    ArmFor flags0 classFile x code maxLocals ret World_1 tables_1 room_1 Calls_1 rest_1 Pre_1 Post := by
  intro l hfl _ _ p e ha hc hk s m args below hf hA hF happ hP
  obtain ⟨hcalls, hrest, hpre⟩ := hP
  obtain ⟨-, -, -, hnamed, -, -, -, hat⟩ := (Spec.applies_iff hf).mp happ
  obtain ⟨hg, hn⟩ := and_e (Cond.before_iff.mp (show (Jvm.Cond.and given_1 narrow_1).before args s = true from hpre))
  obtain ⟨g1a, g1b⟩ := and_e hg
  obtain ⟨w0, rfl⟩ : ∃ w0 : Value, args = #[w0] := by
    have hs : args.size = 1 := by simpa [Cond.value, given_1] using g1a
    obtain ⟨L⟩ := args
    match L, hs with
    | [w0], _ => exact ⟨w0, rfl⟩
  have hw := fun d (hd : d ∈ tables_1) => atoms_spec (ws := Jvm.Cond.code x code maxLocals ret :: tables_1) hat d (List.mem_cons_of_mem _ hd)
  have hfit : Fit s := fun {y c} hc i hi => by
    obtain ⟨ha, rfl⟩ := Array.getElem?_eq_some_iff.mp hc
    have q := List.all_eq_true.mp ((Array.all_eq_true_iff_forall_mem.mp hF) _ (Array.getElem_mem ha)) i (List.mem_range.mpr hi)
    simpa [Array.getElem?_eq_getElem hi] using q
  obtain ⟨i0, ei0⟩ := is_v g1b
  obtain rfl : w0 = (.int i0) := Option.some.inj ei0
  obtain ⟨g2a, g2b⟩ := and_e hn
  obtain ⟨g3a, g3b⟩ := and_e g2b
  obtain ⟨g4a, g4b⟩ := and_e g3b
  obtain ⟨g5a, g5b⟩ := and_e g4b
  obtain ⟨g6a, g6b⟩ := and_e g5b
  obtain ⟨g7a, g7b⟩ := and_e g6b
  obtain ⟨g8a, g8b⟩ := and_e g7b
  obtain ⟨v_Kind_INT, ev_v_Kind_INT⟩ := exa_v g2a
  have E_v_Kind_INT : Exa s s.heap v_Kind_INT "com/example/tracewright/tracewright/engine/expr/Kind" := Exa.start ev_v_Kind_INT g2a
  have S_v_Kind_INT : Sta s s.heap "com/example/tracewright/tracewright/engine/expr/Kind" "INT" "Lcom/example/tracewright/tracewright/engine/expr/Kind;" (.ref v_Kind_INT) := Sta.start ev_v_Kind_INT (Or.inr ⟨(hw _ (List.mem_of_getElem? (i := 1) rfl)), (hw _ (List.mem_of_getElem? (i := 2) rfl))⟩)
  obtain ⟨v_Kind_FLOAT, ev_v_Kind_FLOAT⟩ := exa_v g3a
  have E_v_Kind_FLOAT : Exa s s.heap v_Kind_FLOAT "com/example/tracewright/tracewright/engine/expr/Kind" := Exa.start ev_v_Kind_FLOAT g3a
  have S_v_Kind_FLOAT : Sta s s.heap "com/example/tracewright/tracewright/engine/expr/Kind" "FLOAT" "Lcom/example/tracewright/tracewright/engine/expr/Kind;" (.ref v_Kind_FLOAT) := Sta.start ev_v_Kind_FLOAT (Or.inr ⟨(hw _ (List.mem_of_getElem? (i := 1) rfl)), (hw _ (List.mem_of_getElem? (i := 9) rfl))⟩)
  obtain ⟨v_Kind_DOUBLE, ev_v_Kind_DOUBLE⟩ := exa_v g6a
  have E_v_Kind_DOUBLE : Exa s s.heap v_Kind_DOUBLE "com/example/tracewright/tracewright/engine/expr/Kind" := Exa.start ev_v_Kind_DOUBLE g6a
  have S_v_Kind_DOUBLE : Sta s s.heap "com/example/tracewright/tracewright/engine/expr/Kind" "DOUBLE" "Lcom/example/tracewright/tracewright/engine/expr/Kind;" (.ref v_Kind_DOUBLE) := Sta.start ev_v_Kind_DOUBLE (Or.inr ⟨(hw _ (List.mem_of_getElem? (i := 1) rfl)), (hw _ (List.mem_of_getElem? (i := 11) rfl))⟩)
  obtain ⟨v_Kind_LONG, ev_v_Kind_LONG⟩ := exa_v g8a
  have E_v_Kind_LONG : Exa s s.heap v_Kind_LONG "com/example/tracewright/tracewright/engine/expr/Kind" := Exa.start ev_v_Kind_LONG g8a
  have S_v_Kind_LONG : Sta s s.heap "com/example/tracewright/tracewright/engine/expr/Kind" "LONG" "Lcom/example/tracewright/tracewright/engine/expr/Kind;" (.ref v_Kind_LONG) := Sta.start ev_v_Kind_LONG (Or.inr ⟨(hw _ (List.mem_of_getElem? (i := 1) rfl)), (hw _ (List.mem_of_getElem? (i := 15) rfl))⟩)
  have F_v_Kind_INT_ordinal : Fld s s.heap v_Kind_INT "java/lang/Enum" "ordinal" "I" (.int (0 : Int32)) := own_fldI ev_v_Kind_INT g4a
  have F_v_Kind_FLOAT_ordinal : Fld s s.heap v_Kind_FLOAT "java/lang/Enum" "ordinal" "I" (.int (2 : Int32)) := own_fldI ev_v_Kind_FLOAT g5a
  have F_v_Kind_DOUBLE_ordinal : Fld s s.heap v_Kind_DOUBLE "java/lang/Enum" "ordinal" "I" (.int (3 : Int32)) := own_fldI ev_v_Kind_DOUBLE g7a
  have F_v_Kind_LONG_ordinal : Fld s s.heap v_Kind_LONG "java/lang/Enum" "ordinal" "I" (.int (1 : Int32)) := own_fldI ev_v_Kind_LONG g8b
  obtain ⟨n, o, h1, h2, h3, _, L, rfl, ⟨rfl, N⟩, hq⟩ := own_law l s _ hw tables_1 i0 v_Kind_INT v_Kind_LONG v_Kind_FLOAT v_Kind_DOUBLE s.heap s.heap.size (Nat.le_refl _) S_v_Kind_INT E_v_Kind_INT S_v_Kind_LONG E_v_Kind_LONG S_v_Kind_FLOAT E_v_Kind_FLOAT S_v_Kind_DOUBLE E_v_Kind_DOUBLE (F_v_Kind_INT_ordinal.ne F_v_Kind_LONG_ordinal (by decide)) (F_v_Kind_INT_ordinal.ne F_v_Kind_FLOAT_ordinal (by decide)) (F_v_Kind_INT_ordinal.ne F_v_Kind_DOUBLE_ordinal (by decide)) (F_v_Kind_LONG_ordinal.ne F_v_Kind_FLOAT_ordinal (by decide)) (F_v_Kind_LONG_ordinal.ne F_v_Kind_DOUBLE_ordinal (by decide)) (F_v_Kind_FLOAT_ordinal.ne F_v_Kind_DOUBLE_ordinal (by decide)) p e ha hc hk s m _ below hf ((Spec.applies_iff_loose hf).mp happ).1 ⟨rfl, State.Warmed39.refl s, rfl⟩ trivial
  refine ⟨n, _, h1, h2, h3, hpost _ _ _ _ _ _ ⟨Cond.after_iff.mpr rfl, Cond.after_iff.mpr (eq_i res_at (Term.int_eval (1)) rfl), trivial⟩ ⟨hq.1, hq.2.1, (hq.2.2.sift fun y hy => Or.inr (N y hy)).mono (by decide) (by decide)⟩⟩
theorem main_1_1 : Claimed_1_1 := comes_1 fun _ _ _ _ _ _ h hF => ⟨h.1, hF⟩
theorem main_1_2 : Claimed_1_2 := comes_1 fun _ _ _ _ _ _ h hF => ⟨h.2.1, hF⟩
end Jvm.Pilot.@@N@@
namespace Jvm.Pilot.@@N@@
open Jvm Jvm.ClassFile Sem Op Lib Jvm.Free Jvm.Stand Jvm.Pilot.@@N@@.Jvm.D
/-! MADE BY PROGRAM (witnessworld.py) out of the Statement's table words and the real class files: 12 classes; the members and pool entries that the words name. The judged class is class 1, her method 1. -/
namespace start1
open Jvm.ClassFile
def u (s : String) : CpInfo := .utf8 (stringToUtf16 s)
/-- a pool by its gaps: so many unusable entries, then the entry; so many at the end -/
def gap : Nat → List CpInfo → List CpInfo
  | 0, r => r
  | n + 1, r => .unusable :: gap n r
def poolList (es : List (Nat × CpInfo)) (last : Nat) : List CpInfo := es.foldr (fun e r => gap e.1 (e.2 :: r)) (gap last [])
def pool (es : List (Nat × CpInfo)) (last : Nat) : Array CpInfo := ⟨poolList es last⟩
def fileOf (pool : Array CpInfo) (this : Nat) (attrs : Array Attribute := #[]) (ms : Array MethodInfo := #[]) (fl : Nat := 33) (sup : Nat := 0) (ifs : Array Nat := #[]) (fds : Array FieldInfo := #[]) : ClassFile where
  minorVersion := 0
  majorVersion := 65
  constantPool := pool
  accessFlags := fl
  thisClass := this
  superClass := sup
  interfaces := ifs
  fields := fds
  methods := ms
  attributes := attrs
def plain (name : String) (sup : Option ClassId) : Class where
  name := name
  kind := .ordinary
  loader := none
  accessFlags := 33
  super := sup
  interfaces := #[]
  cf := none
  fields := #[]
  methods := #[]
  instanceTypes := #[]
  staticTypes := #[]
  resolved := #[]
  callSites := []
  init := .initialized
  statics := none
  mirror := none

def pool0 : Array CpInfo := pool [(5, u "<init>"), (0, u "()V"), (1, .class_ 10), (1, u "java/lang/Object")] 113

def k0m0 : Method := { name := "<init>", desc := "()V", sig := { parameters := [], returnType := none }, accessFlags := 1, code := none }
/-- java/lang/Object -/
def k0 : Class := { plain "java/lang/Object" none with
  accessFlags := 33
  interfaces := #[]
  cf := some (fileOf pool0 8 #[] #[{ accessFlags := 1, nameIndex := 5, descriptorIndex := 6, attributes := #[] }] 33 0 #[] #[])
  fields := #[]
  methods := #[k0m0]
  instanceTypes := #[]
  staticTypes := #[]
  resolved := Array.replicate 124 none
  statics := none }

def pool1 : Array CpInfo := pool [(2, .class_ 4), (1, u "java/lang/Object"), (0, u "<init>"), (0, u "()V"), (0, .fieldref 8 9), (0, .class_ 10), (0, .nameAndType 11 12), (0, u "com/example/tracewright/tracewright/engine/expr/Kind"), (0, u "INT"), (0, u "Lcom/example/tracewright/tracewright/engine/expr/Kind;"), (0, .fieldref 8 14), (0, .nameAndType 15 12), (0, u "LONG"), (0, .fieldref 8 17), (0, .nameAndType 18 12), (0, u "FLOAT"), (0, .fieldref 8 20), (0, .nameAndType 21 12), (0, u "DOUBLE"), (0, .methodref 8 23), (0, .nameAndType 24 25), (0, u "isFloatingPoint"), (0, u "()Z"), (0, .class_ 27), (0, u "com/example/tracewright/tracewright/engine/expr/KindIsFloatingPointPinLaw"), (2, u "law"), (0, u "(I)Z")] 3

def k1m0 : Method := { name := "<init>", desc := "()V", sig := { parameters := [], returnType := none }, accessFlags := 1, code := none }
def k1c1 : Code := { maxStack := 2, maxLocals := 4, code := code, exceptionTable := #[], attributes := #[] }
def k1m1 : Method := { name := "law", desc := "(I)Z", sig := { parameters := [.int], returnType := some .boolean }, accessFlags := 9, code := some k1c1 }
/-- com/example/tracewright/tracewright/engine/expr/KindIsFloatingPointPinLaw -/
def k1 : Class := { plain "com/example/tracewright/tracewright/engine/expr/KindIsFloatingPointPinLaw" (some 0) with
  accessFlags := 49
  interfaces := #[]
  cf := some (fileOf pool1 26 #[] #[{ accessFlags := 1, nameIndex := 5, descriptorIndex := 6, attributes := #[] }, { accessFlags := 9, nameIndex := 30, descriptorIndex := 31, attributes := #[] }] 49 2 #[] #[])
  fields := #[]
  methods := #[k1m0, k1m1]
  instanceTypes := #[]
  staticTypes := #[]
  resolved := Array.replicate 35 none
  statics := none }

def pool2 : Array CpInfo := pool [(1, .class_ 2), (0, u "java/lang/constant/Constable"), (0, .class_ 4), (0, u "java/lang/Object")] 6

/-- java/lang/constant/Constable -/
def k2 : Class := { plain "java/lang/constant/Constable" (some 0) with
  accessFlags := 1537
  interfaces := #[]
  cf := some (fileOf pool2 1 #[] #[] 1537 3 #[] #[])
  fields := #[]
  methods := #[]
  instanceTypes := #[]
  staticTypes := #[]
  resolved := Array.replicate 11 none
  statics := none }

def pool3 : Array CpInfo := pool [(1, .class_ 2), (0, u "java/lang/Comparable"), (0, .class_ 4), (0, u "java/lang/Object")] 7

/-- java/lang/Comparable -/
def k3 : Class := { plain "java/lang/Comparable" (some 0) with
  accessFlags := 1537
  interfaces := #[]
  cf := some (fileOf pool3 1 #[] #[] 1537 3 #[] #[])
  fields := #[]
  methods := #[]
  instanceTypes := #[]
  staticTypes := #[]
  resolved := Array.replicate 12 none
  statics := none }

def pool4 : Array CpInfo := pool [(1, .class_ 2), (0, u "java/io/Serializable"), (0, .class_ 4), (0, u "java/lang/Object")] 2

/-- java/io/Serializable -/
def k4 : Class := { plain "java/io/Serializable" (some 0) with
  accessFlags := 1537
  interfaces := #[]
  cf := some (fileOf pool4 1 #[] #[] 1537 3 #[] #[])
  fields := #[]
  methods := #[]
  instanceTypes := #[]
  staticTypes := #[]
  resolved := Array.replicate 7 none
  statics := none }

def pool5 : Array CpInfo := pool [(2, .class_ 4), (1, u "java/lang/Enum"), (0, u "name"), (0, u "Ljava/lang/String;"), (2, u "ordinal"), (0, u "I"), (1, .class_ 14), (1, u "java/lang/Object"), (4, u "hash"), (86, .class_ 108), (1, u "java/lang/Enum$EnumDesc"), (2, .class_ 112), (0, u "java/lang/constant/Constable"), (0, .class_ 114), (0, u "java/lang/Comparable"), (0, .class_ 116), (0, u "java/io/Serializable")] 87

/-- java/lang/Enum -/
def k5 : Class := { plain "java/lang/Enum" (some 0) with
  accessFlags := 1057
  interfaces := #[2, 3, 4]
  cf := some (fileOf pool5 2 #[.nestMembers #[106]] #[] 1057 12 #[111, 113, 115] #[{ accessFlags := 18, nameIndex := 5, descriptorIndex := 6, attributes := #[] }, { accessFlags := 18, nameIndex := 9, descriptorIndex := 10, attributes := #[] }, { accessFlags := 2, nameIndex := 19, descriptorIndex := 10, attributes := #[] }])
  fields := #[{ name := "name", type := (.object "java/lang/String"), accessFlags := 18, slot := 0, constantValue := 0 }, { name := "ordinal", type := .int, accessFlags := 18, slot := 1, constantValue := 0 }, { name := "hash", type := .int, accessFlags := 2, slot := 2, constantValue := 0 }]
  methods := #[]
  instanceTypes := #[(.object "java/lang/String"), .int, .int]
  staticTypes := #[]
  resolved := Array.replicate 204 none
  statics := none }

def pool6 : Array CpInfo := pool [(1, .class_ 2), (0, u "com/example/tracewright/tracewright/engine/expr/Kind"), (2, u "INT"), (0, u "Lcom/example/tracewright/tracewright/engine/expr/Kind;"), (2, u "LONG"), (0, .fieldref 1 11), (0, .nameAndType 12 6), (0, u "FLOAT"), (0, .fieldref 1 14), (0, .nameAndType 15 6), (0, u "DOUBLE"), (2, u "$VALUES"), (0, u "[Lcom/example/tracewright/tracewright/engine/expr/Kind;"), (6, .class_ 28), (1, u "java/lang/Enum"), (8, u "bits"), (0, u "I"), (2, u "descriptor"), (0, u "C"), (29, u "()Z"), (2, u "isFloatingPoint")] 22

def k6c0 : Code := { maxStack := 2, maxLocals := 1, code := prog_36_method_7_code, exceptionTable := #[], attributes := #[] }
def k6m0 : Method := { name := "isFloatingPoint", desc := "()Z", sig := { parameters := [], returnType := some .boolean }, accessFlags := 1, code := some k6c0 }
/-- com/example/tracewright/tracewright/engine/expr/Kind -/
def k6 : Class := { plain "com/example/tracewright/tracewright/engine/expr/Kind" (some 5) with
  accessFlags := 16433
  interfaces := #[]
  cf := some (fileOf pool6 1 #[] #[{ accessFlags := 1, nameIndex := 75, descriptorIndex := 72, attributes := #[] }] 16433 26 #[] #[{ accessFlags := 16409, nameIndex := 5, descriptorIndex := 6, attributes := #[] }, { accessFlags := 16409, nameIndex := 9, descriptorIndex := 6, attributes := #[] }, { accessFlags := 16409, nameIndex := 12, descriptorIndex := 6, attributes := #[] }, { accessFlags := 16409, nameIndex := 15, descriptorIndex := 6, attributes := #[] }, { accessFlags := 18, nameIndex := 37, descriptorIndex := 38, attributes := #[] }, { accessFlags := 18, nameIndex := 41, descriptorIndex := 42, attributes := #[] }, { accessFlags := 4122, nameIndex := 18, descriptorIndex := 19, attributes := #[] }])
  fields := #[{ name := "INT", type := (.object "com/example/tracewright/tracewright/engine/expr/Kind"), accessFlags := 16409, slot := 0, constantValue := 0 }, { name := "LONG", type := (.object "com/example/tracewright/tracewright/engine/expr/Kind"), accessFlags := 16409, slot := 1, constantValue := 0 }, { name := "FLOAT", type := (.object "com/example/tracewright/tracewright/engine/expr/Kind"), accessFlags := 16409, slot := 2, constantValue := 0 }, { name := "DOUBLE", type := (.object "com/example/tracewright/tracewright/engine/expr/Kind"), accessFlags := 16409, slot := 3, constantValue := 0 }, { name := "bits", type := .int, accessFlags := 18, slot := 3, constantValue := 0 }, { name := "descriptor", type := .char, accessFlags := 18, slot := 4, constantValue := 0 }, { name := "$VALUES", type := (.array (.object "com/example/tracewright/tracewright/engine/expr/Kind")), accessFlags := 4122, slot := 4, constantValue := 0 }]
  methods := #[k6m0]
  instanceTypes := #[(.object "java/lang/String"), .int, .int, .int, .char]
  staticTypes := #[(.object "com/example/tracewright/tracewright/engine/expr/Kind"), (.object "com/example/tracewright/tracewright/engine/expr/Kind"), (.object "com/example/tracewright/tracewright/engine/expr/Kind"), (.object "com/example/tracewright/tracewright/engine/expr/Kind"), (.array (.object "com/example/tracewright/tracewright/engine/expr/Kind"))]
  resolved := Array.replicate 98 none
  statics := some 0 }

def pool7 : Array CpInfo := pool [(1, u "java/lang/Cloneable"), (0, .class_ 1), (0, u "java/lang/Object"), (0, .class_ 3)] 3

/-- java/lang/Cloneable -/
def k7 : Class := { plain "java/lang/Cloneable" (some 0) with
  accessFlags := 1537
  interfaces := #[]
  cf := some (fileOf pool7 2 #[] #[] 1537 4 #[] #[])
  fields := #[]
  methods := #[]
  instanceTypes := #[]
  staticTypes := #[]
  resolved := Array.replicate 8 none
  statics := none }

/-- the primitive byte -/
def k8 : Class := { plain "byte" none with kind := .primitive 'B', accessFlags := 0x411 }
/-- [B -/
def k9 : Class := { plain "[B" (some 0) with kind := .array 8 .byte, interfaces := #[7, 4], accessFlags := 1041 }

/-- the primitive int -/
def k10 : Class := { plain "int" none with kind := .primitive 'I', accessFlags := 0x411 }
/-- [I -/
def k11 : Class := { plain "[I" (some 0) with kind := .array 10 .int, interfaces := #[7, 4], accessFlags := 1041 }

def heap : Heap := #[{ cls := 6, slots := #[.ref 1, .ref 2, .ref 3, .ref 4, .null], vm := .statics 6 },
  { cls := 6, slots := #[.null, .int 0, .int 0, .int 0, .int 0], vm := .none },
  { cls := 6, slots := #[.null, .int 1, .int 0, .int 0, .int 0], vm := .none },
  { cls := 6, slots := #[.null, .int 2, .int 0, .int 0, .int 0], vm := .none },
  { cls := 6, slots := #[.null, .int 3, .int 0, .int 0, .int 0], vm := .none }]
def classes : Array Class := #[k0, k1, k2, k3, k4, k5, k6, k7, k8, k9, k10, k11]
def interned : List (Array UInt16 × Addr) := []
def slotsUsed : Nat := 25
def theMethod : MethodId := ⟨1, 1⟩
def args0 : Array Value := #[.int 5]
def aboutOver (below : List Frame) : State where
  vm := { classes := classes, interned := interned.toArray }
  heap := heap
  slotsUsed := slotsUsed
  threads := #[{ frames := .invoking theMethod args0 :: below }]
def below0 : List Frame := [.native { method := ⟨0, 0⟩, args := #[] }]
def about1 : State := aboutOver below0
def p0 : Program := .bare "" "" ""
def e0 : Env := launch0.env 0 0 0
theorem w_frames : about1.frames = Frame.invoking theMethod args0 :: below0 := rfl
set_option maxRecDepth 65536 in
theorem w_args : argsFit about1.vm theMethod args0 = true := by decide +kernel
set_option maxRecDepth 65536 in
theorem w_heap : heapFits about1 = true := by decide +kernel
set_option maxRecDepth 65536 in
theorem w_runnable : about1.curStatus? = some .runnable := by decide +kernel
set_option maxRecDepth 65536 in
theorem w_alone : about1.alone = true := by decide +kernel
set_option maxRecDepth 65536 in
theorem w_named : about1.methodNamed? x = some theMethod := by decide +kernel
set_option maxRecDepth 65536 in
theorem w_hears : about1.hears theMethod below0 = true := by decide +kernel
set_option maxRecDepth 65536 in
theorem w_ripe : about1.ripe theMethod args0 below0 = true := by decide +kernel
theorem w_running : about1.status = .running := rfl
set_option maxRecDepth 65536 in
theorem w_room : about1.hasRoom e0.platform room_1 = true :=
  launch0.hasRoom_least _ room_1 (by decide +kernel) (by decide +kernel) (by decide +kernel) (by decide +kernel) (by decide +kernel) (by decide +kernel)
theorem allAtoms_all (ts : List Jvm.Cond) (a : Array Jvm.Value) (st : Jvm.State) : (allAtoms ts).before a st = ts.all (fun c => c.before a st) := by
  induction ts with
  | nil => rfl
  | cons c t ih =>
    show (Jvm.Cond.and c (allAtoms t)).before a st = _
    rw [Jvm.Cond.before_and, ih, List.all_cons]
def words1 : List Jvm.Cond := Jvm.Cond.code x code maxLocals ret :: tables_1
/-- a 'code' word, met by the world's own term for the bytes: nothing is compared byte by byte -/
theorem code_word {y : MethodName} {bytes : ByteArray} {mx : Nat} {rt : Option FieldType} {a : Array Value} {s : State} {m : MethodId} {meth : Method} {c : Code} (h1 : s.methodNamed? y = some m) (h2 : s.vm.method? m = some meth) (h3 : meth.code = some c) (h4 : c.code = bytes)
    (h5 : (c.maxLocals == mx && c.exceptionTable.isEmpty && decide (c.maxStack ≤ mostOperands) && decide (meth.sig.returnType = rt) && !meth.locks && decide (parseMethodDescriptor y.desc = some meth.sig)) = true) : (Jvm.Cond.code y bytes mx rt).before a s = true := by
  simp only [Bool.and_eq_true, beq_iff_eq, Bool.not_eq_true', decide_eq_true_eq] at h5
  obtain ⟨⟨⟨⟨⟨g1, g2⟩, g3⟩, g4⟩, g5⟩, g6⟩ := h5
  simp [Cond.before, Cond.holds, Cond.value, h1, h2, h3, h4, g1, g2, g3, g4, g5, g6]
def isCode : Jvm.Cond → Bool
  | .code _ _ _ _ => true
  | _ => false
theorem all_split {L : List Jvm.Cond} {P : Jvm.Cond → Bool} (h1 : L.all (fun c => isCode c || P c) = true) (h2 : ∀ c ∈ L.filter isCode, P c = true) : L.all P = true := by
  refine List.all_eq_true.mpr fun c hc => ?_
  have h := List.all_eq_true.mp h1 c hc
  rcases Bool.eq_false_or_eq_true (isCode c) with hi | hi
  · exact h2 c (List.mem_filter.mpr ⟨hc, hi⟩)
  · simpa [hi] using h
set_option maxRecDepth 65536 in
theorem w_c0 : (Jvm.Cond.code x code maxLocals ret).before args0 about1 = true := code_word (m := ⟨1, 1⟩) (meth := k1m1) (c := k1c1) (by decide +kernel) rfl rfl rfl (by decide +kernel)
set_option maxRecDepth 65536 in
theorem w_c1 : (Jvm.Cond.code ({ cls := "com/example/tracewright/tracewright/engine/expr/Kind", name := "isFloatingPoint", desc := "()Z" } : Jvm.MethodName) prog_36_method_7_code (1 : Nat) (Option.some Jvm.ClassFile.FieldType.boolean)).before args0 about1 = true := code_word (m := ⟨6, 0⟩) (meth := k6m0) (c := k6c0) (by decide +kernel) rfl rfl rfl (by decide +kernel)
def codes1 : List Jvm.Cond := [Jvm.Cond.code x code maxLocals ret, Jvm.Cond.code ({ cls := "com/example/tracewright/tracewright/engine/expr/Kind", name := "isFloatingPoint", desc := "()Z" } : Jvm.MethodName) prog_36_method_7_code (1 : Nat) (Option.some Jvm.ClassFile.FieldType.boolean)]
set_option maxRecDepth 65536 in
theorem codes_eq : words1.filter isCode = codes1 := rfl
theorem w_codes : ∀ c ∈ words1.filter isCode, c.before args0 about1 = true := by
  rw [codes_eq]
  intro c hc
  simp only [codes1, List.mem_cons, List.not_mem_nil, or_false] at hc
  rcases hc with rfl | rfl
  · exact w_c0
  · exact w_c1
set_option maxRecDepth 65536 in
theorem w_t1 : words1.all (fun c => isCode c || c.before args0 about1) = true := by decide +kernel
theorem w_tables : (allAtoms (Jvm.Cond.code x code maxLocals ret :: tables_1)).before args0 about1 = true := by
  rw [allAtoms_all]
  show words1.all (fun c => c.before args0 about1) = true
  refine all_split ?_ w_codes
  rw [w_t1]
set_option maxRecDepth 65536 in
theorem w_case : (Jvm.Cond.and given_1 narrow_1).before args0 about1 = true := by decide +kernel
theorem w_applies : (headSpec (Jvm.Cond.code x code maxLocals ret :: tables_1) room_1).applies x e0.platform about1 = true :=
  (Spec.applies_iff w_frames).mpr ⟨w_running, w_runnable, w_alone, w_named, w_hears, w_ripe, w_room, w_tables⟩
theorem atStart : AtStart classFile x code maxLocals ret World_1 tables_1 room_1 Calls_1 rest_1 Pre_1 launch0 p0 e0 about1 theMethod args0 below0 :=
  ⟨lists_1, trivial, launch0.admits_env _ _ _, launch0.least_env, fairChoices_fair.cas, fairChoices_fair.clock, w_frames, w_args, w_heap, w_applies, trivial, trivial, w_case⟩
end start1
theorem witness_1 : WitnessClaimed_1 := ⟨start1.p0, start1.e0, start1.about1, start1.theMethod, start1.args0, start1.below0, start1.atStart⟩
end Jvm.Pilot.@@N@@
