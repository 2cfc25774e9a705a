import JvmDerived
import JvmDerived.Pilot.@@N@@Statement
import JvmDerived.Pilot.@@N@@Code
set_option linter.unusedVariables false
set_option linter.unusedSimpArgs false
namespace Jvm.RoadKit
open Sem ClassFile Op Lib Jvm.Stand Jvm.Free Jvm.LawKit
section New
variable {p : Program} {l : Launch} {e : Env} {R : Room} {s : State} {m : MethodId} {args : Array Value} {below : List Frame} {meth : Method} {c : Code} {T : State} {locs : List Loc} {cells slots : Nat}
theorem retI (X : Stand p l e R s m args below meth c T locs cells slots) (hx : p.tables.exec = Jvm.exec) {pc : Nat} {Ls : Array Slot} {z : Int32} {rest : List Value} (hret : meth.sig.returnType = some .int) (hd : decode c.code pc = .ok (.ireturn, 1)) {fs : List Frame}
    (hl : ∀ (f : JFrame) (acts : List Action), f.method = m → f.locked = none → f.entered = [] → (doReturn e (T.setTop f) acts (some (.int z))).1 = T.setFrames fs) : Steps p.tables e below (T.setTop (mkF m pc Ls (.int z :: rest))) (T.setFrames fs) := by
  have hm' : T.vm.method? m = some meth := X.method'
  have hn : narrow .int (.int z) = .int z := rfl
  show Steps p.tables e below (T.setTop { method := m, pc := pc, locals := Ls, stack := _ :: rest, locked := none }) _
  jvm_step X.here [X.here.top, hx, hd, hm', hret, hn]
  first | (intro acts; rw [hl _ acts rfl rfl rfl]) | rw [hl _ _ rfl rfl rfl]
  exact Steps.refl _
end New
end Jvm.RoadKit
namespace Jvm.Pilot.@@N@@
open Jvm Jvm.ClassFile Sem Op Lib Jvm.Free Jvm.Stand Jvm.LawKit Jvm.RoadKit Bundle Jvm.Pilot.@@N@@.Jvm.D
theorem own_fldI {s : State} {args : Array Value} {t : Term} {x : Addr} {C n d : String} {k : Int32} (ev : t.eval args s none [] s = some (.ref x)) (h : (Cond.eq (.field t C n d) (.int k)).value args s none s [] = some true) : Fld s s.heap x C n d (.int k) := by
  refine Fld.start ?_
  have e := fld_at (C := C) (n := n) (dd := d) ev
  cases hq : s.fieldOf? x C n d with
  | none => rw [hq] at e; simp [Cond.value, e] at h
  | some v =>
    rw [hq] at e
    have e2 : (Term.int k).eval args s none [] s = some (.int k) := rfl
    cases v <;> simp [Cond.value, e, e2] at h
    rw [h]
theorem own_fldN {s : State} {args : Array Value} {t : Term} {x : Addr} {C n d : String} (ev : t.eval args s none [] s = some (.ref x)) (h : (Cond.eq (.field t C n d) .null).value args s none s [] = some true) : Fld s s.heap x C n d .null := by
  refine Fld.start ?_
  rw [← fld_at (C := C) (n := n) (dd := d) ev]
  exact null_v h
theorem own_fldR {s : State} {args : Array Value} {t u : Term} {x y : Addr} {C n d : String} (ev : t.eval args s none [] s = some (.ref x)) (eu : u.eval args s none [] s = some (.ref y)) (h : (Cond.eq (.field t C n d) u).value args s none s [] = some true) : Fld s s.heap x C n d (.ref y) := by
  refine Fld.start ?_
  have e := fld_at (C := C) (n := n) (dd := d) ev
  cases hq : s.fieldOf? x C n d with
  | none => rw [hq] at e; simp [Cond.value, e] at h
  | some v =>
    rw [hq] at e
    cases v <;> simp [Cond.value, e, eu] at h
    rw [h]
theorem own_staI {s : State} {args : Array Value} {C n d : String} {k : Int32} (h : (Cond.eq (.static C n d) (.int k)).value args s none s [] = some true) : (Term.static C n d).eval args s none [] s = some (.int k) := by
  cases hq : (Term.static C n d).eval args s none [] s with
  | none => simp [Cond.value, hq] at h
  | some v =>
    have e2 : (Term.int k).eval args s none [] s = some (.int k) := rfl
    cases v <;> simp [Cond.value, hq, e2] at h
    rw [h]
theorem own_elemR {s : State} {args : Array Value} {t u : Term} {x y : Addr} {cl : Cell} {j : Int32} (ev : t.eval args s none [] s = some (.ref x)) (eu : u.eval args s none [] s = some (.ref y)) (hc : s.heap[x]? = some cl) (h : (Cond.eq (.elem t (.int j)) u).value args s none s [] = some true) : cl.slots[j.toNatClampNeg]? = some (.ref y) := by
  cases hq : (Term.elem t (.int j)).eval args s none [] s with
  | none => simp [Cond.value, hq] at h
  | some v =>
    have e := (elem_in hq ev rfl hc).2
    cases v <;> simp [Cond.value, hq, eu] at h
    rw [e, h]
theorem own_fresh {Z : State} {h : Heap} {a b : Addr} {C n d : String} {v w : Value} (F : Fld Z h a C n d v) (G : Fld Z h b C n d w) (q : v ≠ w) : a ≠ b := F.ne G q
theorem own_sta_keep {Z : State} {h h' : Heap} {C n d : String} {v : Value} {ws : List Addr} (F : Sta Z h C n d v) (K : Keep h h' ws) (q : ∀ x ∈ ws, ∀ c : Cell, h[x]? = some c → c.vm.isStatics = false) : Sta Z h' C n d v := by
  obtain ⟨cf, i, k, f, st, cell, h1, h2, h3, h4, h5, h6, h7⟩ := F
  refine ⟨cf, i, k, f, st, cell, h1, h2, h3, h4, K.2.1 st cell h5 (fun hm => ?_), h6, h7⟩
  rw [q st hm cell h5] at h6; cases h6
theorem own_mono {p : Program} {l : Launch} {e : Env} {R : Room} {s : State} {m : MethodId} {args : Array Value} {below : List Frame} {meth : Method} {c : Code} {T : State} {locs : List Loc} {k j k' j' : Nat} (X : Stand p l e R s m args below meth c T locs k j) (hk : k ≤ k') (hj : j ≤ j') : Stand p l e R s m args below meth c T locs k' j' := { X with same := X.same.mono hk hj }
theorem own_nost {Z : State} {h : Heap} {a : Addr} {C : String} (F : Exa Z h a C) : ∀ c : Cell, h[a]? = some c → c.vm.isStatics = false := fun c hc => by
  obtain ⟨c', _, h1, -, -, h4, -⟩ := F
  cases h1.symm.trans hc; exact h4
theorem own_nostV {Z : State} {h : Heap} {a : Addr} {k : ClassId} {ty : FieldType} {z : Int32} {vs : List Value} {dv : Value} (F : Arv Z h a k ty z vs dv) : ∀ c : Cell, h[a]? = some c → c.vm.isStatics = false := fun c hc => by
  obtain ⟨c', A, -⟩ := F
  cases A.1.symm.trans hc; exact A.plain
theorem d0_0 : decode jdk_37_method_2_code 0 = .ok (.aload_n 0, 1) := by decide +kernel
theorem d0_1 : decode jdk_37_method_2_code 1 = .ok (.getfield 7, 3) := by decide +kernel
theorem d0_4 : decode jdk_37_method_2_code 4 = .ok (.ireturn, 1) := by decide +kernel
theorem pn_1 : plainName "java/lang/Enum" = true := by first | (simp [plainName, overriddenIn]; done) | decide +kernel
theorem d2_0 : decode prog_6_method_7_code 0 = .ok (.aload_n 0, 1) := by decide +kernel
theorem d2_1 : decode prog_6_method_7_code 1 = .ok (.invokevirtual 55, 3) := by decide +kernel
theorem pd_3 : parseMethodDescriptor "()I" = some ⟨[], some .int⟩ := by decide +kernel
theorem d2_4 : decode prog_6_method_7_code 4 = .ok (.tableswitch 50 1 4 #[32, 38, 50, 44], 32) := by decide +kernel
theorem d2_36 : decode prog_6_method_7_code 36 = .ok (.getstatic 3, 3) := by decide +kernel
theorem d2_39 : decode prog_6_method_7_code 39 = .ok (.goto 32, 3) := by decide +kernel
theorem d2_71 : decode prog_6_method_7_code 71 = .ok (.areturn, 1) := by decide +kernel
theorem pn_4 : plainName "com/example/checkpoint/checkpoint/JobState" = true := by first | (simp [plainName, overriddenIn]; done) | decide +kernel
theorem d2_42 : decode prog_6_method_7_code 42 = .ok (.getstatic 13, 3) := by decide +kernel
theorem d2_45 : decode prog_6_method_7_code 45 = .ok (.goto 26, 3) := by decide +kernel
theorem d2_48 : decode prog_6_method_7_code 48 = .ok (.getstatic 25, 3) := by decide +kernel
theorem d2_51 : decode prog_6_method_7_code 51 = .ok (.goto 20, 3) := by decide +kernel
theorem pd_6 : parseMethodDescriptor "()Lcom/example/checkpoint/checkpoint/JobState;" = some ⟨[], some (.object "com/example/checkpoint/checkpoint/JobState")⟩ := by decide +kernel
theorem pn_7 : plainName "com/example/checkpoint/checkpoint/JobStateReleasedPinLaw" = true := by first | (simp [plainName, overriddenIn]; done) | decide +kernel
theorem ef_own_ord (m : MethodId) (pr0 : Addr) : entryFrame m #[(.ref pr0)] 1 = mkF m 0 #[.val (.ref pr0)] [] := by first | (simp [entryFrame, mkF, argsToLocals, Value.category]; done) | rfl
def Q_own_ord (Z : State) (pr0 : Addr) (w_0 : Int32) (h0 : Heap) (n0 : Nat) (v : Option Value) (h : Heap) (L : List Loc) : Prop := v = some (.int w_0) ∧ Fr n0 L ∧ h = h0
set_option maxRecDepth 65536 in
set_option maxHeartbeats 40000000 in
theorem own_ord (l : Launch) (Z : State) (a0 : Array Value) (hw : ∀ d ∈ tables_1, d.before a0 Z = true) (ws : List Jvm.Cond) (pr0 : Addr) (w_0 : Int32) (h0 : Heap) (n0 : Nat) (Z0 : n0 ≤ h0.size) (P0 : Fld Z h0 pr0 "java/lang/Enum" "ordinal" "I" (.int w_0)) :
    MetFree l (⟨"java/lang/Enum", "ordinal", "()I"⟩ : MethodName) (head1 (Jvm.Cond.code (⟨"java/lang/Enum", "ordinal", "()I"⟩ : MethodName) jdk_37_method_2_code 1 (some .int) :: ws) ({ frames := 0, cells := 0, slots := 0, locals := 0 } : Room)) (fun a U => a = #[(.ref pr0)] ∧ Z.Warmed39 U.vm ∧ U.heap = h0) (fun _ _ _ _ _ => True) (fun _ U o U' => ∃ v L, o = .returned v ∧ Q_own_ord Z pr0 w_0 h0 n0 v U'.heap L ∧ FrameEnd U o U' L ({ frames := 0, cells := 0, slots := 0, locals := 0 } : Room).cells ({ frames := 0, cells := 0, slots := 0, locals := 0 } : Room).slots) := by
  refine MetFree.of_bodySF (plainFor_of_name pn_1) hisR ?_
  intro p e s m args below meth c s₁ Bd hml0 hP hK
  obtain ⟨rfl, hZ, hh⟩ := hP
  have hx := Bd.exec
  have hby := Bd.bytes
  have hml : c.maxLocals = 1 := hml0
  have hown : s.vm.findClass "java/lang/Enum" = some m.cls := findClass_of_methodNamed Bd.named
  have hnm := (name_of_methodNamed Bd.named Bd.method).1
  have X0 : Stand p l e ({ frames := 0, cells := 0, slots := 0, locals := 0 } : Room) s m #[(.ref pr0)] below meth c s₁ [] 0 0 := Stand.of_body Bd
  have e0 : s₁.heap = h0 := by rw [← hh, Bd.state]; rfl
  have N0 := Fr.nil n0
  have go0 : ∀ t, Steps p.tables e below (s₁.setTop (mkF m 0 #[.val (.ref pr0)] [])) t → Steps p.tables e below (s₁.setTop (entryFrame m #[(.ref pr0)] 1)) t := fun t k => castTop (ef_own_ord m pr0) k
  revert go0
  generalize s₁.setTop (entryFrame m #[(.ref pr0)] 1) = st0
  intro go0
  obtain ⟨T1, X1, e1, st1⟩ := getF X0 hx hZ hown (host := "") (Or.inl (hw _ (List.mem_of_getElem? (i := 18) rfl))) Via.refl e0 P0 (g := (mkF m 1 #[.val (.ref pr0)] [(.ref pr0)])) rfl rfl (hb hby d0_1)
  have go2 : ∀ t, Steps p.tables e below (T1.setTop (mkF m 4 #[.val (.ref pr0)] [(.int w_0)])) t → Steps p.tables e below st0 t := by
    intro t kt
    refine go0 t ?_
    refine XS.aloadN X0.here hx rfl (hb hby d0_0) rfl rfl ?_
    show Steps p.tables e below (s₁.setTop (mkF m 1 #[.val (.ref pr0)] [(.ref pr0)])) _
    refine st1 _ ?_
    show Steps p.tables e below (T1.setTop (mkF m 4 #[.val (.ref pr0)] [(.int w_0)])) _
    exact kt
  obtain ⟨fs, hr, hrun, hended, hW, hsame⟩ := X1.leave (v := some (.int w_0)) (fun h => by rw [Bd.returns] at h; cases h)
  refine ⟨_, _, go2 _ ?_, hrun, hended, _, _, rfl, ?_, ⟨_, rfl⟩, hW, hsame.mono (by decide) (by decide)⟩
  · exact retI X1 hx Bd.returns (hb hby d0_4) hr
  · show Q_own_ord Z pr0 w_0 h0 n0 _ T1.heap _
    rw [e1]
    exact ⟨rfl, N0, rfl⟩
theorem ef_own_rel1 (m : MethodId) (pr0 : Addr) : entryFrame m #[(.ref pr0)] 1 = mkF m 0 #[.val (.ref pr0)] [] := by first | (simp [entryFrame, mkF, argsToLocals, Value.category]; done) | rfl
def Q_own_rel1 (Z : State) (pr0 : Addr) (c0 : Addr) (h0 : Heap) (n0 : Nat) (v : Option Value) (h : Heap) (L : List Loc) : Prop := v = some (.ref c0) ∧ Fr n0 L ∧ h = h0
set_option maxRecDepth 65536 in
set_option maxHeartbeats 40000000 in
theorem own_rel1 (l : Launch) (Z : State) (a0 : Array Value) (hw : ∀ d ∈ tables_1, d.before a0 Z = true) (ws : List Jvm.Cond) (pr0 : Addr) (c0 : Addr) (h0 : Heap) (n0 : Nat) (Z0 : n0 ≤ h0.size) (P0 : Exa Z h0 pr0 "com/example/checkpoint/checkpoint/JobState") (P1 : Fld Z h0 pr0 "java/lang/Enum" "ordinal" "I" (.int (1 : Int32))) (P2 : Sta Z h0 "com/example/checkpoint/checkpoint/JobState" "PENDING" "Lcom/example/checkpoint/checkpoint/JobState;" (.ref c0)) :
    MetFree l (⟨"com/example/checkpoint/checkpoint/JobState", "released", "()Lcom/example/checkpoint/checkpoint/JobState;"⟩ : MethodName) (head1 (Jvm.Cond.code (⟨"com/example/checkpoint/checkpoint/JobState", "released", "()Lcom/example/checkpoint/checkpoint/JobState;"⟩ : MethodName) prog_6_method_7_code 1 (some (.object "com/example/checkpoint/checkpoint/JobState")) :: ws) ({ frames := 1, cells := 0, slots := 0, locals := 12 } : Room)) (fun a U => a = #[(.ref pr0)] ∧ Z.Warmed39 U.vm ∧ U.heap = h0) (fun _ _ _ _ _ => True) (fun _ U o U' => ∃ v L, o = .returned v ∧ Q_own_rel1 Z pr0 c0 h0 n0 v U'.heap L ∧ FrameEnd U o U' L ({ frames := 1, cells := 0, slots := 0, locals := 12 } : Room).cells ({ frames := 1, cells := 0, slots := 0, locals := 12 } : Room).slots) := by
  refine MetFree.of_bodySF (plainFor_of_name pn_4) hisR ?_
  intro p e s m args below meth c s₁ Bd hml0 hP hK
  obtain ⟨rfl, hZ, hh⟩ := hP
  have hx := Bd.exec
  have hby := Bd.bytes
  have hml : c.maxLocals = 1 := hml0
  have hown : s.vm.findClass "com/example/checkpoint/checkpoint/JobState" = some m.cls := findClass_of_methodNamed Bd.named
  have hnm := (name_of_methodNamed Bd.named Bd.method).1
  have X0 : Stand p l e ({ frames := 1, cells := 0, slots := 0, locals := 12 } : Room) s m #[(.ref pr0)] below meth c s₁ [] 0 0 := Stand.of_body Bd
  have e0 : s₁.heap = h0 := by rw [← hh, Bd.state]; rfl
  have N0 := Fr.nil n0
  have go0 : ∀ t, Steps p.tables e below (s₁.setTop (mkF m 0 #[.val (.ref pr0)] [])) t → Steps p.tables e below (s₁.setTop (entryFrame m #[(.ref pr0)] 1)) t := fun t k => castTop (ef_own_rel1 m pr0) k
  revert go0
  generalize s₁.setTop (entryFrame m #[(.ref pr0)] 1) = st0
  intro go0
  obtain ⟨cq1, kq1, q1a, q1b, q1c⟩ := isOf hZ e0 P0
  obtain ⟨_, _, ⟨T1, L1, k1, n1⟩, -, X1, ⟨Lc1, hQ1, l1, y1, z1⟩, st1⟩ := X0.virtualBackUp hx (x := (⟨"com/example/checkpoint/checkpoint/JobState", "ordinal", "()I"⟩ : MethodName)) (y := (⟨"java/lang/Enum", "ordinal", "()I"⟩ : MethodName)) (owner := "java/lang/Enum") hown (mvT hZ (hw _ (List.mem_of_getElem? (i := 11) rfl))) (mvT hZ (hw _ (List.mem_of_getElem? (i := 12) rfl))) (mvT hZ (hw _ (List.mem_of_getElem? (i := 13) rfl))) (by decide) (mvT hZ (hw _ (List.mem_of_getElem? (i := 15) rfl))) (mvT hZ (hw _ (List.mem_of_getElem? (i := 14) rfl))) (backOf (W := 0) (own_ord l Z a0 hw [] pr0 (1 : Int32) h0 n0 Z0 P1) hZ (hw _ (List.mem_of_getElem? (i := 17) rfl)) (hw _ (List.mem_of_getElem? (i := 16) rfl)) (by decide) (by decide)) q1a q1c (g := (mkF m 1 #[.val (.ref pr0)] [(.ref pr0)])) rfl (by rw [hml]; rfl) (Steps.refl _) (argsL := []) (rest := []) (lenOf pd_3 rfl) rfl (by show 2 * 0 + _ ≤ _; exact Nat.le_of_eq rfl) (hb hby d2_1) (fun _ _ => ⟨rfl, e0, (by decide : 0 + 0 ≤ _), (by decide : 0 + 0 ≤ _)⟩)
  dsimp only [Pt.U, Pt.locs, Pt.cells, Pt.slots] at X1 l1 y1 z1 st1 hQ1
  subst l1 y1 z1
  obtain ⟨rfl, Nq1, e1⟩ := hQ1
  have N1 := Fr.app N0 Nq1
  obtain ⟨T2, X2, e2, st2⟩ := getS2 X1 hx hZ hown (host := "") (Or.inl (hw _ (List.mem_of_getElem? (i := 20) rfl))) Via.refl e1 P2 (g := (mkF m 36 #[.val (.ref pr0)] [])) rfl (hb hby d2_36)
  have go3 : ∀ t, Steps p.tables e below (T2.setTop (mkF m 71 #[.val (.ref pr0)] [(.ref c0)])) t → Steps p.tables e below st0 t := by
    intro t kt
    refine go0 t ?_
    refine XS.aloadN X0.here hx rfl (hb hby d2_0) rfl rfl ?_
    show Steps p.tables e below (s₁.setTop (mkF m 1 #[.val (.ref pr0)] [(.ref pr0)])) _
    refine st1.trans ?_
    show Steps p.tables e below (T1.setTop (mkF m 4 #[.val (.ref pr0)] [(.int (1 : Int32))])) _
    refine XS.tswIn X1.here hx rfl (pc0 := 4) (pc' := 36) (o := 32) rfl (hb hby d2_4) rfl (by decide) (by decide) (by decide) (by decide) ?_
    show Steps p.tables e below (T1.setTop (mkF m 36 #[.val (.ref pr0)] [])) _
    refine st2 _ ?_
    show Steps p.tables e below (T2.setTop (mkF m 39 #[.val (.ref pr0)] [(.ref c0)])) _
    refine XS.goto X2.here hx rfl (pc0 := 39) (pc' := 71) rfl (hb hby d2_39) (by decide) (by decide) ?_
    show Steps p.tables e below (T2.setTop (mkF m 71 #[.val (.ref pr0)] [(.ref c0)])) _
    exact kt
  obtain ⟨fs, hr, hrun, hended, hW, hsame⟩ := X2.leave (v := some (.ref c0)) (fun h => by rw [Bd.returns] at h; cases h)
  refine ⟨_, _, go3 _ ?_, hrun, hended, _, _, rfl, ?_, ⟨_, rfl⟩, hW, hsame.mono (by decide) (by decide)⟩
  · jvm_step X2.here [X2.here.top, hx, (hb hby d2_71), X2.method', Bd.returns, Value.isRef, FieldType.isReference]
    first | (intro acts; rw [hr _ acts rfl rfl rfl]) | rw [hr _ _ rfl rfl rfl]
    exact Steps.refl _
  · show Q_own_rel1 Z pr0 c0 h0 n0 _ T2.heap _
    rw [e2]
    exact ⟨rfl, N1, rfl⟩
theorem ef_own_rel2 (m : MethodId) (pr0 : Addr) : entryFrame m #[(.ref pr0)] 1 = mkF m 0 #[.val (.ref pr0)] [] := by first | (simp [entryFrame, mkF, argsToLocals, Value.category]; done) | rfl
def Q_own_rel2 (Z : State) (pr0 : Addr) (c0 : Addr) (h0 : Heap) (n0 : Nat) (v : Option Value) (h : Heap) (L : List Loc) : Prop := v = some (.ref c0) ∧ Fr n0 L ∧ h = h0
set_option maxRecDepth 65536 in
set_option maxHeartbeats 40000000 in
theorem own_rel2 (l : Launch) (Z : State) (a0 : Array Value) (hw : ∀ d ∈ tables_1, d.before a0 Z = true) (ws : List Jvm.Cond) (pr0 : Addr) (c0 : Addr) (h0 : Heap) (n0 : Nat) (Z0 : n0 ≤ h0.size) (P0 : Exa Z h0 pr0 "com/example/checkpoint/checkpoint/JobState") (P1 : Fld Z h0 pr0 "java/lang/Enum" "ordinal" "I" (.int (2 : Int32))) (P2 : Sta Z h0 "com/example/checkpoint/checkpoint/JobState" "PAUSED" "Lcom/example/checkpoint/checkpoint/JobState;" (.ref c0)) :
    MetFree l (⟨"com/example/checkpoint/checkpoint/JobState", "released", "()Lcom/example/checkpoint/checkpoint/JobState;"⟩ : MethodName) (head1 (Jvm.Cond.code (⟨"com/example/checkpoint/checkpoint/JobState", "released", "()Lcom/example/checkpoint/checkpoint/JobState;"⟩ : MethodName) prog_6_method_7_code 1 (some (.object "com/example/checkpoint/checkpoint/JobState")) :: ws) ({ frames := 1, cells := 0, slots := 0, locals := 12 } : Room)) (fun a U => a = #[(.ref pr0)] ∧ Z.Warmed39 U.vm ∧ U.heap = h0) (fun _ _ _ _ _ => True) (fun _ U o U' => ∃ v L, o = .returned v ∧ Q_own_rel2 Z pr0 c0 h0 n0 v U'.heap L ∧ FrameEnd U o U' L ({ frames := 1, cells := 0, slots := 0, locals := 12 } : Room).cells ({ frames := 1, cells := 0, slots := 0, locals := 12 } : Room).slots) := by
  refine MetFree.of_bodySF (plainFor_of_name pn_4) hisR ?_
  intro p e s m args below meth c s₁ Bd hml0 hP hK
  obtain ⟨rfl, hZ, hh⟩ := hP
  have hx := Bd.exec
  have hby := Bd.bytes
  have hml : c.maxLocals = 1 := hml0
  have hown : s.vm.findClass "com/example/checkpoint/checkpoint/JobState" = some m.cls := findClass_of_methodNamed Bd.named
  have hnm := (name_of_methodNamed Bd.named Bd.method).1
  have X0 : Stand p l e ({ frames := 1, cells := 0, slots := 0, locals := 12 } : Room) s m #[(.ref pr0)] below meth c s₁ [] 0 0 := Stand.of_body Bd
  have e0 : s₁.heap = h0 := by rw [← hh, Bd.state]; rfl
  have N0 := Fr.nil n0
  have go0 : ∀ t, Steps p.tables e below (s₁.setTop (mkF m 0 #[.val (.ref pr0)] [])) t → Steps p.tables e below (s₁.setTop (entryFrame m #[(.ref pr0)] 1)) t := fun t k => castTop (ef_own_rel2 m pr0) k
  revert go0
  generalize s₁.setTop (entryFrame m #[(.ref pr0)] 1) = st0
  intro go0
  obtain ⟨cq1, kq1, q1a, q1b, q1c⟩ := isOf hZ e0 P0
  obtain ⟨_, _, ⟨T1, L1, k1, n1⟩, -, X1, ⟨Lc1, hQ1, l1, y1, z1⟩, st1⟩ := X0.virtualBackUp hx (x := (⟨"com/example/checkpoint/checkpoint/JobState", "ordinal", "()I"⟩ : MethodName)) (y := (⟨"java/lang/Enum", "ordinal", "()I"⟩ : MethodName)) (owner := "java/lang/Enum") hown (mvT hZ (hw _ (List.mem_of_getElem? (i := 11) rfl))) (mvT hZ (hw _ (List.mem_of_getElem? (i := 12) rfl))) (mvT hZ (hw _ (List.mem_of_getElem? (i := 13) rfl))) (by decide) (mvT hZ (hw _ (List.mem_of_getElem? (i := 15) rfl))) (mvT hZ (hw _ (List.mem_of_getElem? (i := 14) rfl))) (backOf (W := 0) (own_ord l Z a0 hw [] pr0 (2 : Int32) h0 n0 Z0 P1) hZ (hw _ (List.mem_of_getElem? (i := 17) rfl)) (hw _ (List.mem_of_getElem? (i := 16) rfl)) (by decide) (by decide)) q1a q1c (g := (mkF m 1 #[.val (.ref pr0)] [(.ref pr0)])) rfl (by rw [hml]; rfl) (Steps.refl _) (argsL := []) (rest := []) (lenOf pd_3 rfl) rfl (by show 2 * 0 + _ ≤ _; exact Nat.le_of_eq rfl) (hb hby d2_1) (fun _ _ => ⟨rfl, e0, (by decide : 0 + 0 ≤ _), (by decide : 0 + 0 ≤ _)⟩)
  dsimp only [Pt.U, Pt.locs, Pt.cells, Pt.slots] at X1 l1 y1 z1 st1 hQ1
  subst l1 y1 z1
  obtain ⟨rfl, Nq1, e1⟩ := hQ1
  have N1 := Fr.app N0 Nq1
  obtain ⟨T2, X2, e2, st2⟩ := getS2 X1 hx hZ hown (host := "") (Or.inl (hw _ (List.mem_of_getElem? (i := 30) rfl))) Via.refl e1 P2 (g := (mkF m 42 #[.val (.ref pr0)] [])) rfl (hb hby d2_42)
  have go3 : ∀ t, Steps p.tables e below (T2.setTop (mkF m 71 #[.val (.ref pr0)] [(.ref c0)])) t → Steps p.tables e below st0 t := by
    intro t kt
    refine go0 t ?_
    refine XS.aloadN X0.here hx rfl (hb hby d2_0) rfl rfl ?_
    show Steps p.tables e below (s₁.setTop (mkF m 1 #[.val (.ref pr0)] [(.ref pr0)])) _
    refine st1.trans ?_
    show Steps p.tables e below (T1.setTop (mkF m 4 #[.val (.ref pr0)] [(.int (2 : Int32))])) _
    refine XS.tswIn X1.here hx rfl (pc0 := 4) (pc' := 42) (o := 38) rfl (hb hby d2_4) rfl (by decide) (by decide) (by decide) (by decide) ?_
    show Steps p.tables e below (T1.setTop (mkF m 42 #[.val (.ref pr0)] [])) _
    refine st2 _ ?_
    show Steps p.tables e below (T2.setTop (mkF m 45 #[.val (.ref pr0)] [(.ref c0)])) _
    refine XS.goto X2.here hx rfl (pc0 := 45) (pc' := 71) rfl (hb hby d2_45) (by decide) (by decide) ?_
    show Steps p.tables e below (T2.setTop (mkF m 71 #[.val (.ref pr0)] [(.ref c0)])) _
    exact kt
  obtain ⟨fs, hr, hrun, hended, hW, hsame⟩ := X2.leave (v := some (.ref c0)) (fun h => by rw [Bd.returns] at h; cases h)
  refine ⟨_, _, go3 _ ?_, hrun, hended, _, _, rfl, ?_, ⟨_, rfl⟩, hW, hsame.mono (by decide) (by decide)⟩
  · jvm_step X2.here [X2.here.top, hx, (hb hby d2_71), X2.method', Bd.returns, Value.isRef, FieldType.isReference]
    first | (intro acts; rw [hr _ acts rfl rfl rfl]) | rw [hr _ _ rfl rfl rfl]
    exact Steps.refl _
  · show Q_own_rel2 Z pr0 c0 h0 n0 _ T2.heap _
    rw [e2]
    exact ⟨rfl, N1, rfl⟩
theorem ef_own_rel4 (m : MethodId) (pr0 : Addr) : entryFrame m #[(.ref pr0)] 1 = mkF m 0 #[.val (.ref pr0)] [] := by first | (simp [entryFrame, mkF, argsToLocals, Value.category]; done) | rfl
def Q_own_rel4 (Z : State) (pr0 : Addr) (c0 : Addr) (h0 : Heap) (n0 : Nat) (v : Option Value) (h : Heap) (L : List Loc) : Prop := v = some (.ref c0) ∧ Fr n0 L ∧ h = h0
set_option maxRecDepth 65536 in
set_option maxHeartbeats 40000000 in
theorem own_rel4 (l : Launch) (Z : State) (a0 : Array Value) (hw : ∀ d ∈ tables_1, d.before a0 Z = true) (ws : List Jvm.Cond) (pr0 : Addr) (c0 : Addr) (h0 : Heap) (n0 : Nat) (Z0 : n0 ≤ h0.size) (P0 : Exa Z h0 pr0 "com/example/checkpoint/checkpoint/JobState") (P1 : Fld Z h0 pr0 "java/lang/Enum" "ordinal" "I" (.int (4 : Int32))) (P2 : Sta Z h0 "com/example/checkpoint/checkpoint/JobState" "CANCELLED" "Lcom/example/checkpoint/checkpoint/JobState;" (.ref c0)) :
    MetFree l (⟨"com/example/checkpoint/checkpoint/JobState", "released", "()Lcom/example/checkpoint/checkpoint/JobState;"⟩ : MethodName) (head1 (Jvm.Cond.code (⟨"com/example/checkpoint/checkpoint/JobState", "released", "()Lcom/example/checkpoint/checkpoint/JobState;"⟩ : MethodName) prog_6_method_7_code 1 (some (.object "com/example/checkpoint/checkpoint/JobState")) :: ws) ({ frames := 1, cells := 0, slots := 0, locals := 12 } : Room)) (fun a U => a = #[(.ref pr0)] ∧ Z.Warmed39 U.vm ∧ U.heap = h0) (fun _ _ _ _ _ => True) (fun _ U o U' => ∃ v L, o = .returned v ∧ Q_own_rel4 Z pr0 c0 h0 n0 v U'.heap L ∧ FrameEnd U o U' L ({ frames := 1, cells := 0, slots := 0, locals := 12 } : Room).cells ({ frames := 1, cells := 0, slots := 0, locals := 12 } : Room).slots) := by
  refine MetFree.of_bodySF (plainFor_of_name pn_4) hisR ?_
  intro p e s m args below meth c s₁ Bd hml0 hP hK
  obtain ⟨rfl, hZ, hh⟩ := hP
  have hx := Bd.exec
  have hby := Bd.bytes
  have hml : c.maxLocals = 1 := hml0
  have hown : s.vm.findClass "com/example/checkpoint/checkpoint/JobState" = some m.cls := findClass_of_methodNamed Bd.named
  have hnm := (name_of_methodNamed Bd.named Bd.method).1
  have X0 : Stand p l e ({ frames := 1, cells := 0, slots := 0, locals := 12 } : Room) s m #[(.ref pr0)] below meth c s₁ [] 0 0 := Stand.of_body Bd
  have e0 : s₁.heap = h0 := by rw [← hh, Bd.state]; rfl
  have N0 := Fr.nil n0
  have go0 : ∀ t, Steps p.tables e below (s₁.setTop (mkF m 0 #[.val (.ref pr0)] [])) t → Steps p.tables e below (s₁.setTop (entryFrame m #[(.ref pr0)] 1)) t := fun t k => castTop (ef_own_rel4 m pr0) k
  revert go0
  generalize s₁.setTop (entryFrame m #[(.ref pr0)] 1) = st0
  intro go0
  obtain ⟨cq1, kq1, q1a, q1b, q1c⟩ := isOf hZ e0 P0
  obtain ⟨_, _, ⟨T1, L1, k1, n1⟩, -, X1, ⟨Lc1, hQ1, l1, y1, z1⟩, st1⟩ := X0.virtualBackUp hx (x := (⟨"com/example/checkpoint/checkpoint/JobState", "ordinal", "()I"⟩ : MethodName)) (y := (⟨"java/lang/Enum", "ordinal", "()I"⟩ : MethodName)) (owner := "java/lang/Enum") hown (mvT hZ (hw _ (List.mem_of_getElem? (i := 11) rfl))) (mvT hZ (hw _ (List.mem_of_getElem? (i := 12) rfl))) (mvT hZ (hw _ (List.mem_of_getElem? (i := 13) rfl))) (by decide) (mvT hZ (hw _ (List.mem_of_getElem? (i := 15) rfl))) (mvT hZ (hw _ (List.mem_of_getElem? (i := 14) rfl))) (backOf (W := 0) (own_ord l Z a0 hw [] pr0 (4 : Int32) h0 n0 Z0 P1) hZ (hw _ (List.mem_of_getElem? (i := 17) rfl)) (hw _ (List.mem_of_getElem? (i := 16) rfl)) (by decide) (by decide)) q1a q1c (g := (mkF m 1 #[.val (.ref pr0)] [(.ref pr0)])) rfl (by rw [hml]; rfl) (Steps.refl _) (argsL := []) (rest := []) (lenOf pd_3 rfl) rfl (by show 2 * 0 + _ ≤ _; exact Nat.le_of_eq rfl) (hb hby d2_1) (fun _ _ => ⟨rfl, e0, (by decide : 0 + 0 ≤ _), (by decide : 0 + 0 ≤ _)⟩)
  dsimp only [Pt.U, Pt.locs, Pt.cells, Pt.slots] at X1 l1 y1 z1 st1 hQ1
  subst l1 y1 z1
  obtain ⟨rfl, Nq1, e1⟩ := hQ1
  have N1 := Fr.app N0 Nq1
  obtain ⟨T2, X2, e2, st2⟩ := getS2 X1 hx hZ hown (host := "") (Or.inl (hw _ (List.mem_of_getElem? (i := 25) rfl))) Via.refl e1 P2 (g := (mkF m 48 #[.val (.ref pr0)] [])) rfl (hb hby d2_48)
  have go3 : ∀ t, Steps p.tables e below (T2.setTop (mkF m 71 #[.val (.ref pr0)] [(.ref c0)])) t → Steps p.tables e below st0 t := by
    intro t kt
    refine go0 t ?_
    refine XS.aloadN X0.here hx rfl (hb hby d2_0) rfl rfl ?_
    show Steps p.tables e below (s₁.setTop (mkF m 1 #[.val (.ref pr0)] [(.ref pr0)])) _
    refine st1.trans ?_
    show Steps p.tables e below (T1.setTop (mkF m 4 #[.val (.ref pr0)] [(.int (4 : Int32))])) _
    refine XS.tswIn X1.here hx rfl (pc0 := 4) (pc' := 48) (o := 44) rfl (hb hby d2_4) rfl (by decide) (by decide) (by decide) (by decide) ?_
    show Steps p.tables e below (T1.setTop (mkF m 48 #[.val (.ref pr0)] [])) _
    refine st2 _ ?_
    show Steps p.tables e below (T2.setTop (mkF m 51 #[.val (.ref pr0)] [(.ref c0)])) _
    refine XS.goto X2.here hx rfl (pc0 := 51) (pc' := 71) rfl (hb hby d2_51) (by decide) (by decide) ?_
    show Steps p.tables e below (T2.setTop (mkF m 71 #[.val (.ref pr0)] [(.ref c0)])) _
    exact kt
  obtain ⟨fs, hr, hrun, hended, hW, hsame⟩ := X2.leave (v := some (.ref c0)) (fun h => by rw [Bd.returns] at h; cases h)
  refine ⟨_, _, go3 _ ?_, hrun, hended, _, _, rfl, ?_, ⟨_, rfl⟩, hW, hsame.mono (by decide) (by decide)⟩
  · jvm_step X2.here [X2.here.top, hx, (hb hby d2_71), X2.method', Bd.returns, Value.isRef, FieldType.isReference]
    first | (intro acts; rw [hr _ acts rfl rfl rfl]) | rw [hr _ _ rfl rfl rfl]
    exact Steps.refl _
  · show Q_own_rel4 Z pr0 c0 h0 n0 _ T2.heap _
    rw [e2]
    exact ⟨rfl, N1, rfl⟩
theorem ef_own_law (m : MethodId) (pi0 : Int32) : entryFrame m #[(.int pi0)] maxLocals = mkF m 0 #[.val (.int pi0), .unset, .unset, .unset] [] := by first | (simp [entryFrame, mkF, argsToLocals, Value.category, maxLocals]; done) | rfl
def Q_own_law (Z : State) (pi0 : Int32) (c0 : Addr) (c1 : Addr) (c2 : Addr) (d0 : Addr) (d1 : Addr) (d2 : Addr) (h0 : Heap) (n0 : Nat) (v : Option Value) (h : Heap) (L : List Loc) : Prop := v = some (.int (1 : Int32)) ∧ Fr n0 L
set_option maxRecDepth 65536 in
set_option maxHeartbeats 40000000 in
theorem own_law (l : Launch) (Z : State) (a0 : Array Value) (hw : ∀ d ∈ tables_1, d.before a0 Z = true) (ws : List Jvm.Cond) (pi0 : Int32) (c0 : Addr) (c1 : Addr) (c2 : Addr) (d0 : Addr) (d1 : Addr) (d2 : Addr) (h0 : Heap) (n0 : Nat) (Z0 : n0 ≤ h0.size) (P0 : Sta Z h0 "com/example/checkpoint/checkpoint/JobState" "RUNNING" "Lcom/example/checkpoint/checkpoint/JobState;" (.ref c0)) (P1 : Exa Z h0 c0 "com/example/checkpoint/checkpoint/JobState") (P2 : Fld Z h0 c0 "java/lang/Enum" "ordinal" "I" (.int (1 : Int32))) (P3 : Sta Z h0 "com/example/checkpoint/checkpoint/JobState" "PENDING" "Lcom/example/checkpoint/checkpoint/JobState;" (.ref d0)) (P4 : Sta Z h0 "com/example/checkpoint/checkpoint/JobState" "PAUSE_REQUESTED" "Lcom/example/checkpoint/checkpoint/JobState;" (.ref c1)) (P5 : Exa Z h0 c1 "com/example/checkpoint/checkpoint/JobState") (P6 : Fld Z h0 c1 "java/lang/Enum" "ordinal" "I" (.int (2 : Int32))) (P7 : Sta Z h0 "com/example/checkpoint/checkpoint/JobState" "PAUSED" "Lcom/example/checkpoint/checkpoint/JobState;" (.ref d1)) (P8 : Sta Z h0 "com/example/checkpoint/checkpoint/JobState" "CANCEL_REQUESTED" "Lcom/example/checkpoint/checkpoint/JobState;" (.ref c2)) (P9 : Exa Z h0 c2 "com/example/checkpoint/checkpoint/JobState") (P10 : Fld Z h0 c2 "java/lang/Enum" "ordinal" "I" (.int (4 : Int32))) (P11 : Sta Z h0 "com/example/checkpoint/checkpoint/JobState" "CANCELLED" "Lcom/example/checkpoint/checkpoint/JobState;" (.ref d2)) :
    MetFree l x (head1 (Jvm.Cond.code x code maxLocals ret :: ws) room_1) (fun a U => a = #[(.int pi0)] ∧ Z.Warmed39 U.vm ∧ U.heap = h0) (fun _ _ _ _ _ => True) (fun _ U o U' => ∃ v L, o = .returned v ∧ Q_own_law Z pi0 c0 c1 c2 d0 d1 d2 h0 n0 v U'.heap L ∧ FrameEnd U o U' L room_1.cells room_1.slots) := by
  refine MetFree.of_bodySF (plainFor_of_name pn_7) hisR ?_
  intro p e s m args below meth c s₁ Bd hml0 hP hK
  obtain ⟨rfl, hZ, hh⟩ := hP
  have hx := Bd.exec
  have hby := Bd.bytes
  have hml : c.maxLocals = 4 := hml0
  have hown : s.vm.findClass "com/example/checkpoint/checkpoint/JobStateReleasedPinLaw" = some m.cls := findClass_of_methodNamed Bd.named
  have hnm := (name_of_methodNamed Bd.named Bd.method).1
  have X0 : Stand p l e room_1 s m #[(.int pi0)] below meth c s₁ [] 0 0 := Stand.of_body Bd
  have e0 : s₁.heap = h0 := by rw [← hh, Bd.state]; rfl
  have N0 := Fr.nil n0
  have go0 : ∀ t, Steps p.tables e below (s₁.setTop (mkF m 0 #[.val (.int pi0), .unset, .unset, .unset] [])) t → Steps p.tables e below (s₁.setTop (entryFrame m #[(.int pi0)] maxLocals)) t := fun t k => castTop (ef_own_law m pi0) k
  revert go0
  generalize s₁.setTop (entryFrame m #[(.int pi0)] maxLocals) = st0
  intro go0
  have go1 : ∀ t, Steps p.tables e below (s₁.setTop (mkF m 8 #[.val (.int pi0), .val (.int ((pi0 &&& (2147483647 : Int32)) % (3 : Int32))), .unset, .unset] [(.int ((pi0 &&& (2147483647 : Int32)) % (3 : Int32)))])) t → Steps p.tables e below st0 t := by
    intro t kt
    refine go0 t ?_
    refine XS.iloadN X0.here hx rfl (hb hby at_0) rfl ?_
    show Steps p.tables e below (s₁.setTop (mkF m 1 #[.val (.int pi0), .unset, .unset, .unset] [(.int pi0)])) _
    refine X0.ldcInt hx hown (mvT hZ (hw _ (List.mem_of_getElem? (i := 0) rfl))) (g := (mkF m 1 #[.val (.int pi0), .unset, .unset, .unset] [(.int pi0)])) rfl (hb hby at_1) _ ?_
    show Steps p.tables e below (s₁.setTop (mkF m 3 #[.val (.int pi0), .unset, .unset, .unset] [(.int (2147483647 : Int32)), (.int pi0)])) _
    refine XS.iand X0.here hx rfl (hb hby at_3) rfl ?_
    show Steps p.tables e below (s₁.setTop (mkF m 4 #[.val (.int pi0), .unset, .unset, .unset] [(.int (pi0 &&& (2147483647 : Int32)))])) _
    refine XS.iconst X0.here hx rfl (hb hby at_4) ?_
    show Steps p.tables e below (s₁.setTop (mkF m 5 #[.val (.int pi0), .unset, .unset, .unset] [(.int (3 : Int32)), (.int (pi0 &&& (2147483647 : Int32)))])) _
    refine iremM X0 hx rfl (hb hby at_5) rfl (by decide : ¬ ((3 : Int32) = (0 : Int32))) ?_
    show Steps p.tables e below (s₁.setTop (mkF m 6 #[.val (.int pi0), .unset, .unset, .unset] [(.int ((pi0 &&& (2147483647 : Int32)) % (3 : Int32)))])) _
    refine XS.istoreN X0.here hx rfl (hb hby at_6) rfl (l' := #[.val (.int pi0), .val (.int ((pi0 &&& (2147483647 : Int32)) % (3 : Int32))), .unset, .unset]) rfl ?_
    show Steps p.tables e below (s₁.setTop (mkF m 7 #[.val (.int pi0), .val (.int ((pi0 &&& (2147483647 : Int32)) % (3 : Int32))), .unset, .unset] [])) _
    refine XS.iloadN X0.here hx rfl (hb hby at_7) rfl ?_
    show Steps p.tables e below (s₁.setTop (mkF m 8 #[.val (.int pi0), .val (.int ((pi0 &&& (2147483647 : Int32)) % (3 : Int32))), .unset, .unset] [(.int ((pi0 &&& (2147483647 : Int32)) % (3 : Int32)))])) _
    exact kt
  by_cases hc2 : ((pi0 &&& (2147483647 : Int32)) % (3 : Int32)) = (0 : Int32)
  · skip
    obtain ⟨T3, X3, e3, st3⟩ := getS2 X0 hx hZ hown (host := "") (Or.inl (hw _ (List.mem_of_getElem? (i := 1) rfl))) Via.refl e0 P0 (g := (mkF m 11 #[.val (.int pi0), .val (.int ((pi0 &&& (2147483647 : Int32)) % (3 : Int32))), .unset, .unset] [])) rfl (hb hby at_11)
    obtain ⟨T4, X4, e4, st4⟩ := getS2 X3 hx hZ hown (host := "") (Or.inl (hw _ (List.mem_of_getElem? (i := 4) rfl))) Via.refl e3 P3 (g := (mkF m 15 #[.val (.int pi0), .val (.int ((pi0 &&& (2147483647 : Int32)) % (3 : Int32))), .val (.ref c0), .unset] [])) rfl (hb hby at_15)
    obtain ⟨cq5, kq5, q5a, q5b, q5c⟩ := isOf hZ e4 P1
    obtain ⟨_, _, ⟨T5, L5, k5, n5⟩, -, X5, ⟨Lc5, hQ5, l5, y5, z5⟩, st5⟩ := X4.virtualBack hx (y := (⟨"com/example/checkpoint/checkpoint/JobState", "released", "()Lcom/example/checkpoint/checkpoint/JobState;"⟩ : MethodName)) (z := (⟨"com/example/checkpoint/checkpoint/JobState", "released", "()Lcom/example/checkpoint/checkpoint/JobState;"⟩ : MethodName)) hown (mvT hZ (hw _ (List.mem_of_getElem? (i := 6) rfl))) (mvT hZ (hw _ (List.mem_of_getElem? (i := 7) rfl))) (notFace_of_selects (args := #[]) (mvT hZ (hw _ (List.mem_of_getElem? (i := 9) rfl)))) (mvT hZ (hw _ (List.mem_of_getElem? (i := 9) rfl))) (mvT hZ (hw _ (List.mem_of_getElem? (i := 8) rfl))) (by decide) (backOf (W := 0) (own_rel1 l Z a0 hw [] c0 d0 h0 n0 Z0 P1 P2 P3) hZ (hw _ (List.mem_of_getElem? (i := 10) rfl)) (hw _ (List.mem_of_getElem? (i := 2) rfl)) (by decide) (by decide)) q5a q5c (g := (mkF m 47 #[.val (.int pi0), .val (.int ((pi0 &&& (2147483647 : Int32)) % (3 : Int32))), .val (.ref c0), .val (.ref d0)] [(.ref c0)])) rfl (by rw [hml]; rfl) (Steps.refl _) (argsL := []) (rest := []) (lenOf pd_6 rfl) rfl (by show 2 * 0 + _ ≤ _; exact Nat.le_of_eq rfl) (hb hby at_47) (fun _ _ => ⟨rfl, e4, (by decide : 0 + 0 ≤ _), (by decide : 0 + 0 ≤ _)⟩)
    dsimp only [Pt.U, Pt.locs, Pt.cells, Pt.slots] at X5 l5 y5 z5 st5 hQ5
    subst l5 y5 z5
    obtain ⟨rfl, Nq5, e5⟩ := hQ5
    have N5 := Fr.app N0 Nq5
    have go6 : ∀ t, Steps p.tables e below (T5.setTop (mkF m 59 #[.val (.int pi0), .val (.int ((pi0 &&& (2147483647 : Int32)) % (3 : Int32))), .val (.ref c0), .val (.ref d0)] [(.int (1 : Int32))])) t → Steps p.tables e below st0 t := by
      intro t kt
      refine go1 t ?_
      refine XS.ifNo X0.here hx rfl (hb hby at_8) rfl ((if0 _ _).trans (teq hc2).2) ?_
      show Steps p.tables e below (s₁.setTop (mkF m 11 #[.val (.int pi0), .val (.int ((pi0 &&& (2147483647 : Int32)) % (3 : Int32))), .unset, .unset] [])) _
      refine st3 _ ?_
      show Steps p.tables e below (T3.setTop (mkF m 14 #[.val (.int pi0), .val (.int ((pi0 &&& (2147483647 : Int32)) % (3 : Int32))), .unset, .unset] [(.ref c0)])) _
      refine XS.astoreN X3.here hx rfl (hb hby at_14) rfl rfl (l' := #[.val (.int pi0), .val (.int ((pi0 &&& (2147483647 : Int32)) % (3 : Int32))), .val (.ref c0), .unset]) rfl ?_
      show Steps p.tables e below (T3.setTop (mkF m 15 #[.val (.int pi0), .val (.int ((pi0 &&& (2147483647 : Int32)) % (3 : Int32))), .val (.ref c0), .unset] [])) _
      refine st4 _ ?_
      show Steps p.tables e below (T4.setTop (mkF m 18 #[.val (.int pi0), .val (.int ((pi0 &&& (2147483647 : Int32)) % (3 : Int32))), .val (.ref c0), .unset] [(.ref d0)])) _
      refine XS.astoreN X4.here hx rfl (hb hby at_18) rfl rfl (l' := #[.val (.int pi0), .val (.int ((pi0 &&& (2147483647 : Int32)) % (3 : Int32))), .val (.ref c0), .val (.ref d0)]) rfl ?_
      show Steps p.tables e below (T4.setTop (mkF m 19 #[.val (.int pi0), .val (.int ((pi0 &&& (2147483647 : Int32)) % (3 : Int32))), .val (.ref c0), .val (.ref d0)] [])) _
      refine XS.goto X4.here hx rfl (pc0 := 19) (pc' := 46) rfl (hb hby at_19) (by decide) (by decide) ?_
      show Steps p.tables e below (T4.setTop (mkF m 46 #[.val (.int pi0), .val (.int ((pi0 &&& (2147483647 : Int32)) % (3 : Int32))), .val (.ref c0), .val (.ref d0)] [])) _
      refine XS.aloadN X4.here hx rfl (hb hby at_46) rfl rfl ?_
      show Steps p.tables e below (T4.setTop (mkF m 47 #[.val (.int pi0), .val (.int ((pi0 &&& (2147483647 : Int32)) % (3 : Int32))), .val (.ref c0), .val (.ref d0)] [(.ref c0)])) _
      refine st5.trans ?_
      show Steps p.tables e below (T5.setTop (mkF m 50 #[.val (.int pi0), .val (.int ((pi0 &&& (2147483647 : Int32)) % (3 : Int32))), .val (.ref c0), .val (.ref d0)] [(.ref d0)])) _
      refine XS.aloadN X5.here hx rfl (hb hby at_50) rfl rfl ?_
      show Steps p.tables e below (T5.setTop (mkF m 51 #[.val (.int pi0), .val (.int ((pi0 &&& (2147483647 : Int32)) % (3 : Int32))), .val (.ref c0), .val (.ref d0)] [(.ref d0), (.ref d0)])) _
      refine Jvm.RoadKit.acmp (g := (mkF m 51 #[.val (.int pi0), .val (.int ((pi0 &&& (2147483647 : Int32)) % (3 : Int32))), .val (.ref c0), .val (.ref d0)] [(.ref d0), (.ref d0)])) X5 hx rfl rfl rfl (pc0 := 51) (pc' := 54) (same := true) rfl (hb hby at_51) rfl (decide_eq_true rfl) (by decide) (by decide) ?_
      show Steps p.tables e below (T5.setTop (mkF m 54 #[.val (.int pi0), .val (.int ((pi0 &&& (2147483647 : Int32)) % (3 : Int32))), .val (.ref c0), .val (.ref d0)] [])) _
      refine XS.iconst X5.here hx rfl (hb hby at_54) ?_
      show Steps p.tables e below (T5.setTop (mkF m 55 #[.val (.int pi0), .val (.int ((pi0 &&& (2147483647 : Int32)) % (3 : Int32))), .val (.ref c0), .val (.ref d0)] [(.int (1 : Int32))])) _
      refine XS.goto X5.here hx rfl (pc0 := 55) (pc' := 59) rfl (hb hby at_55) (by decide) (by decide) ?_
      show Steps p.tables e below (T5.setTop (mkF m 59 #[.val (.int pi0), .val (.int ((pi0 &&& (2147483647 : Int32)) % (3 : Int32))), .val (.ref c0), .val (.ref d0)] [(.int (1 : Int32))])) _
      exact kt
    obtain ⟨fs, hr, hrun, hended, hW, hsame⟩ := X5.leave (v := some (.int (1 : Int32))) (fun h => by rw [Bd.returns] at h; cases h)
    refine ⟨_, _, go6 _ ?_, hrun, hended, _, _, rfl, ?_, ⟨_, rfl⟩, hW, hsame.mono (by decide) (by decide)⟩
    · exact retN X5 hx (t := .boolean) Bd.returns (by simp) (hb hby at_59) hr
    · show Q_own_law Z pi0 c0 c1 c2 d0 d1 d2 h0 n0 _ T5.heap _
      rw [e5]
      exact ⟨rfl, N5⟩
  · skip
    have go7 : ∀ t, Steps p.tables e below (s₁.setTop (mkF m 24 #[.val (.int pi0), .val (.int ((pi0 &&& (2147483647 : Int32)) % (3 : Int32))), .unset, .unset] [(.int (1 : Int32)), (.int ((pi0 &&& (2147483647 : Int32)) % (3 : Int32)))])) t → Steps p.tables e below st0 t := by
      intro t kt
      refine go1 t ?_
      refine XS.ifYes X0.here hx rfl (pc0 := 8) (pc' := 22) rfl (hb hby at_8) rfl ((if0 _ _).trans (feq hc2).2) (by decide) (by decide) ?_
      show Steps p.tables e below (s₁.setTop (mkF m 22 #[.val (.int pi0), .val (.int ((pi0 &&& (2147483647 : Int32)) % (3 : Int32))), .unset, .unset] [])) _
      refine XS.iloadN X0.here hx rfl (hb hby at_22) rfl ?_
      show Steps p.tables e below (s₁.setTop (mkF m 23 #[.val (.int pi0), .val (.int ((pi0 &&& (2147483647 : Int32)) % (3 : Int32))), .unset, .unset] [(.int ((pi0 &&& (2147483647 : Int32)) % (3 : Int32)))])) _
      refine XS.iconst X0.here hx rfl (hb hby at_23) ?_
      show Steps p.tables e below (s₁.setTop (mkF m 24 #[.val (.int pi0), .val (.int ((pi0 &&& (2147483647 : Int32)) % (3 : Int32))), .unset, .unset] [(.int (1 : Int32)), (.int ((pi0 &&& (2147483647 : Int32)) % (3 : Int32)))])) _
      exact kt
    by_cases hc8 : ((pi0 &&& (2147483647 : Int32)) % (3 : Int32)) = (1 : Int32)
    · skip
      obtain ⟨T9, X9, e9, st9⟩ := getS2 X0 hx hZ hown (host := "") (Or.inl (hw _ (List.mem_of_getElem? (i := 26) rfl))) Via.refl e0 P4 (g := (mkF m 27 #[.val (.int pi0), .val (.int ((pi0 &&& (2147483647 : Int32)) % (3 : Int32))), .unset, .unset] [])) rfl (hb hby at_27)
      obtain ⟨T10, X10, e10, st10⟩ := getS2 X9 hx hZ hown (host := "") (Or.inl (hw _ (List.mem_of_getElem? (i := 28) rfl))) Via.refl e9 P7 (g := (mkF m 31 #[.val (.int pi0), .val (.int ((pi0 &&& (2147483647 : Int32)) % (3 : Int32))), .val (.ref c1), .unset] [])) rfl (hb hby at_31)
      obtain ⟨cq11, kq11, q11a, q11b, q11c⟩ := isOf hZ e10 P5
      obtain ⟨_, _, ⟨T11, L11, k11, n11⟩, -, X11, ⟨Lc11, hQ11, l11, y11, z11⟩, st11⟩ := X10.virtualBack hx (y := (⟨"com/example/checkpoint/checkpoint/JobState", "released", "()Lcom/example/checkpoint/checkpoint/JobState;"⟩ : MethodName)) (z := (⟨"com/example/checkpoint/checkpoint/JobState", "released", "()Lcom/example/checkpoint/checkpoint/JobState;"⟩ : MethodName)) hown (mvT hZ (hw _ (List.mem_of_getElem? (i := 6) rfl))) (mvT hZ (hw _ (List.mem_of_getElem? (i := 7) rfl))) (notFace_of_selects (args := #[]) (mvT hZ (hw _ (List.mem_of_getElem? (i := 9) rfl)))) (mvT hZ (hw _ (List.mem_of_getElem? (i := 9) rfl))) (mvT hZ (hw _ (List.mem_of_getElem? (i := 8) rfl))) (by decide) (backOf (W := 0) (own_rel2 l Z a0 hw [] c1 d1 h0 n0 Z0 P5 P6 P7) hZ (hw _ (List.mem_of_getElem? (i := 10) rfl)) (hw _ (List.mem_of_getElem? (i := 2) rfl)) (by decide) (by decide)) q11a q11c (g := (mkF m 47 #[.val (.int pi0), .val (.int ((pi0 &&& (2147483647 : Int32)) % (3 : Int32))), .val (.ref c1), .val (.ref d1)] [(.ref c1)])) rfl (by rw [hml]; rfl) (Steps.refl _) (argsL := []) (rest := []) (lenOf pd_6 rfl) rfl (by show 2 * 0 + _ ≤ _; exact Nat.le_of_eq rfl) (hb hby at_47) (fun _ _ => ⟨rfl, e10, (by decide : 0 + 0 ≤ _), (by decide : 0 + 0 ≤ _)⟩)
      dsimp only [Pt.U, Pt.locs, Pt.cells, Pt.slots] at X11 l11 y11 z11 st11 hQ11
      subst l11 y11 z11
      obtain ⟨rfl, Nq11, e11⟩ := hQ11
      have N11 := Fr.app N0 Nq11
      have go12 : ∀ t, Steps p.tables e below (T11.setTop (mkF m 59 #[.val (.int pi0), .val (.int ((pi0 &&& (2147483647 : Int32)) % (3 : Int32))), .val (.ref c1), .val (.ref d1)] [(.int (1 : Int32))])) t → Steps p.tables e below st0 t := by
        intro t kt
        refine go7 t ?_
        refine XS.icmpNo X0.here hx rfl (hb hby at_24) rfl (teq hc8).2 ?_
        show Steps p.tables e below (s₁.setTop (mkF m 27 #[.val (.int pi0), .val (.int ((pi0 &&& (2147483647 : Int32)) % (3 : Int32))), .unset, .unset] [])) _
        refine st9 _ ?_
        show Steps p.tables e below (T9.setTop (mkF m 30 #[.val (.int pi0), .val (.int ((pi0 &&& (2147483647 : Int32)) % (3 : Int32))), .unset, .unset] [(.ref c1)])) _
        refine XS.astoreN X9.here hx rfl (hb hby at_30) rfl rfl (l' := #[.val (.int pi0), .val (.int ((pi0 &&& (2147483647 : Int32)) % (3 : Int32))), .val (.ref c1), .unset]) rfl ?_
        show Steps p.tables e below (T9.setTop (mkF m 31 #[.val (.int pi0), .val (.int ((pi0 &&& (2147483647 : Int32)) % (3 : Int32))), .val (.ref c1), .unset] [])) _
        refine st10 _ ?_
        show Steps p.tables e below (T10.setTop (mkF m 34 #[.val (.int pi0), .val (.int ((pi0 &&& (2147483647 : Int32)) % (3 : Int32))), .val (.ref c1), .unset] [(.ref d1)])) _
        refine XS.astoreN X10.here hx rfl (hb hby at_34) rfl rfl (l' := #[.val (.int pi0), .val (.int ((pi0 &&& (2147483647 : Int32)) % (3 : Int32))), .val (.ref c1), .val (.ref d1)]) rfl ?_
        show Steps p.tables e below (T10.setTop (mkF m 35 #[.val (.int pi0), .val (.int ((pi0 &&& (2147483647 : Int32)) % (3 : Int32))), .val (.ref c1), .val (.ref d1)] [])) _
        refine XS.goto X10.here hx rfl (pc0 := 35) (pc' := 46) rfl (hb hby at_35) (by decide) (by decide) ?_
        show Steps p.tables e below (T10.setTop (mkF m 46 #[.val (.int pi0), .val (.int ((pi0 &&& (2147483647 : Int32)) % (3 : Int32))), .val (.ref c1), .val (.ref d1)] [])) _
        refine XS.aloadN X10.here hx rfl (hb hby at_46) rfl rfl ?_
        show Steps p.tables e below (T10.setTop (mkF m 47 #[.val (.int pi0), .val (.int ((pi0 &&& (2147483647 : Int32)) % (3 : Int32))), .val (.ref c1), .val (.ref d1)] [(.ref c1)])) _
        refine st11.trans ?_
        show Steps p.tables e below (T11.setTop (mkF m 50 #[.val (.int pi0), .val (.int ((pi0 &&& (2147483647 : Int32)) % (3 : Int32))), .val (.ref c1), .val (.ref d1)] [(.ref d1)])) _
        refine XS.aloadN X11.here hx rfl (hb hby at_50) rfl rfl ?_
        show Steps p.tables e below (T11.setTop (mkF m 51 #[.val (.int pi0), .val (.int ((pi0 &&& (2147483647 : Int32)) % (3 : Int32))), .val (.ref c1), .val (.ref d1)] [(.ref d1), (.ref d1)])) _
        refine Jvm.RoadKit.acmp (g := (mkF m 51 #[.val (.int pi0), .val (.int ((pi0 &&& (2147483647 : Int32)) % (3 : Int32))), .val (.ref c1), .val (.ref d1)] [(.ref d1), (.ref d1)])) X11 hx rfl rfl rfl (pc0 := 51) (pc' := 54) (same := true) rfl (hb hby at_51) rfl (decide_eq_true rfl) (by decide) (by decide) ?_
        show Steps p.tables e below (T11.setTop (mkF m 54 #[.val (.int pi0), .val (.int ((pi0 &&& (2147483647 : Int32)) % (3 : Int32))), .val (.ref c1), .val (.ref d1)] [])) _
        refine XS.iconst X11.here hx rfl (hb hby at_54) ?_
        show Steps p.tables e below (T11.setTop (mkF m 55 #[.val (.int pi0), .val (.int ((pi0 &&& (2147483647 : Int32)) % (3 : Int32))), .val (.ref c1), .val (.ref d1)] [(.int (1 : Int32))])) _
        refine XS.goto X11.here hx rfl (pc0 := 55) (pc' := 59) rfl (hb hby at_55) (by decide) (by decide) ?_
        show Steps p.tables e below (T11.setTop (mkF m 59 #[.val (.int pi0), .val (.int ((pi0 &&& (2147483647 : Int32)) % (3 : Int32))), .val (.ref c1), .val (.ref d1)] [(.int (1 : Int32))])) _
        exact kt
      obtain ⟨fs, hr, hrun, hended, hW, hsame⟩ := X11.leave (v := some (.int (1 : Int32))) (fun h => by rw [Bd.returns] at h; cases h)
      refine ⟨_, _, go12 _ ?_, hrun, hended, _, _, rfl, ?_, ⟨_, rfl⟩, hW, hsame.mono (by decide) (by decide)⟩
      · exact retN X11 hx (t := .boolean) Bd.returns (by simp) (hb hby at_59) hr
      · show Q_own_law Z pi0 c0 c1 c2 d0 d1 d2 h0 n0 _ T11.heap _
        rw [e11]
        exact ⟨rfl, N11⟩
    · skip
      obtain ⟨T13, X13, e13, st13⟩ := getS2 X0 hx hZ hown (host := "") (Or.inl (hw _ (List.mem_of_getElem? (i := 21) rfl))) Via.refl e0 P8 (g := (mkF m 38 #[.val (.int pi0), .val (.int ((pi0 &&& (2147483647 : Int32)) % (3 : Int32))), .unset, .unset] [])) rfl (hb hby at_38)
      obtain ⟨T14, X14, e14, st14⟩ := getS2 X13 hx hZ hown (host := "") (Or.inl (hw _ (List.mem_of_getElem? (i := 23) rfl))) Via.refl e13 P11 (g := (mkF m 42 #[.val (.int pi0), .val (.int ((pi0 &&& (2147483647 : Int32)) % (3 : Int32))), .val (.ref c2), .unset] [])) rfl (hb hby at_42)
      obtain ⟨cq15, kq15, q15a, q15b, q15c⟩ := isOf hZ e14 P9
      obtain ⟨_, _, ⟨T15, L15, k15, n15⟩, -, X15, ⟨Lc15, hQ15, l15, y15, z15⟩, st15⟩ := X14.virtualBack hx (y := (⟨"com/example/checkpoint/checkpoint/JobState", "released", "()Lcom/example/checkpoint/checkpoint/JobState;"⟩ : MethodName)) (z := (⟨"com/example/checkpoint/checkpoint/JobState", "released", "()Lcom/example/checkpoint/checkpoint/JobState;"⟩ : MethodName)) hown (mvT hZ (hw _ (List.mem_of_getElem? (i := 6) rfl))) (mvT hZ (hw _ (List.mem_of_getElem? (i := 7) rfl))) (notFace_of_selects (args := #[]) (mvT hZ (hw _ (List.mem_of_getElem? (i := 9) rfl)))) (mvT hZ (hw _ (List.mem_of_getElem? (i := 9) rfl))) (mvT hZ (hw _ (List.mem_of_getElem? (i := 8) rfl))) (by decide) (backOf (W := 0) (own_rel4 l Z a0 hw [] c2 d2 h0 n0 Z0 P9 P10 P11) hZ (hw _ (List.mem_of_getElem? (i := 10) rfl)) (hw _ (List.mem_of_getElem? (i := 2) rfl)) (by decide) (by decide)) q15a q15c (g := (mkF m 47 #[.val (.int pi0), .val (.int ((pi0 &&& (2147483647 : Int32)) % (3 : Int32))), .val (.ref c2), .val (.ref d2)] [(.ref c2)])) rfl (by rw [hml]; rfl) (Steps.refl _) (argsL := []) (rest := []) (lenOf pd_6 rfl) rfl (by show 2 * 0 + _ ≤ _; exact Nat.le_of_eq rfl) (hb hby at_47) (fun _ _ => ⟨rfl, e14, (by decide : 0 + 0 ≤ _), (by decide : 0 + 0 ≤ _)⟩)
      dsimp only [Pt.U, Pt.locs, Pt.cells, Pt.slots] at X15 l15 y15 z15 st15 hQ15
      subst l15 y15 z15
      obtain ⟨rfl, Nq15, e15⟩ := hQ15
      have N15 := Fr.app N0 Nq15
      have go16 : ∀ t, Steps p.tables e below (T15.setTop (mkF m 59 #[.val (.int pi0), .val (.int ((pi0 &&& (2147483647 : Int32)) % (3 : Int32))), .val (.ref c2), .val (.ref d2)] [(.int (1 : Int32))])) t → Steps p.tables e below st0 t := by
        intro t kt
        refine go7 t ?_
        refine XS.icmpYes X0.here hx rfl (pc0 := 24) (pc' := 38) rfl (hb hby at_24) rfl (feq hc8).2 (by decide) (by decide) ?_
        show Steps p.tables e below (s₁.setTop (mkF m 38 #[.val (.int pi0), .val (.int ((pi0 &&& (2147483647 : Int32)) % (3 : Int32))), .unset, .unset] [])) _
        refine st13 _ ?_
        show Steps p.tables e below (T13.setTop (mkF m 41 #[.val (.int pi0), .val (.int ((pi0 &&& (2147483647 : Int32)) % (3 : Int32))), .unset, .unset] [(.ref c2)])) _
        refine XS.astoreN X13.here hx rfl (hb hby at_41) rfl rfl (l' := #[.val (.int pi0), .val (.int ((pi0 &&& (2147483647 : Int32)) % (3 : Int32))), .val (.ref c2), .unset]) rfl ?_
        show Steps p.tables e below (T13.setTop (mkF m 42 #[.val (.int pi0), .val (.int ((pi0 &&& (2147483647 : Int32)) % (3 : Int32))), .val (.ref c2), .unset] [])) _
        refine st14 _ ?_
        show Steps p.tables e below (T14.setTop (mkF m 45 #[.val (.int pi0), .val (.int ((pi0 &&& (2147483647 : Int32)) % (3 : Int32))), .val (.ref c2), .unset] [(.ref d2)])) _
        refine XS.astoreN X14.here hx rfl (hb hby at_45) rfl rfl (l' := #[.val (.int pi0), .val (.int ((pi0 &&& (2147483647 : Int32)) % (3 : Int32))), .val (.ref c2), .val (.ref d2)]) rfl ?_
        show Steps p.tables e below (T14.setTop (mkF m 46 #[.val (.int pi0), .val (.int ((pi0 &&& (2147483647 : Int32)) % (3 : Int32))), .val (.ref c2), .val (.ref d2)] [])) _
        refine XS.aloadN X14.here hx rfl (hb hby at_46) rfl rfl ?_
        show Steps p.tables e below (T14.setTop (mkF m 47 #[.val (.int pi0), .val (.int ((pi0 &&& (2147483647 : Int32)) % (3 : Int32))), .val (.ref c2), .val (.ref d2)] [(.ref c2)])) _
        refine st15.trans ?_
        show Steps p.tables e below (T15.setTop (mkF m 50 #[.val (.int pi0), .val (.int ((pi0 &&& (2147483647 : Int32)) % (3 : Int32))), .val (.ref c2), .val (.ref d2)] [(.ref d2)])) _
        refine XS.aloadN X15.here hx rfl (hb hby at_50) rfl rfl ?_
        show Steps p.tables e below (T15.setTop (mkF m 51 #[.val (.int pi0), .val (.int ((pi0 &&& (2147483647 : Int32)) % (3 : Int32))), .val (.ref c2), .val (.ref d2)] [(.ref d2), (.ref d2)])) _
        refine Jvm.RoadKit.acmp (g := (mkF m 51 #[.val (.int pi0), .val (.int ((pi0 &&& (2147483647 : Int32)) % (3 : Int32))), .val (.ref c2), .val (.ref d2)] [(.ref d2), (.ref d2)])) X15 hx rfl rfl rfl (pc0 := 51) (pc' := 54) (same := true) rfl (hb hby at_51) rfl (decide_eq_true rfl) (by decide) (by decide) ?_
        show Steps p.tables e below (T15.setTop (mkF m 54 #[.val (.int pi0), .val (.int ((pi0 &&& (2147483647 : Int32)) % (3 : Int32))), .val (.ref c2), .val (.ref d2)] [])) _
        refine XS.iconst X15.here hx rfl (hb hby at_54) ?_
        show Steps p.tables e below (T15.setTop (mkF m 55 #[.val (.int pi0), .val (.int ((pi0 &&& (2147483647 : Int32)) % (3 : Int32))), .val (.ref c2), .val (.ref d2)] [(.int (1 : Int32))])) _
        refine XS.goto X15.here hx rfl (pc0 := 55) (pc' := 59) rfl (hb hby at_55) (by decide) (by decide) ?_
        show Steps p.tables e below (T15.setTop (mkF m 59 #[.val (.int pi0), .val (.int ((pi0 &&& (2147483647 : Int32)) % (3 : Int32))), .val (.ref c2), .val (.ref d2)] [(.int (1 : Int32))])) _
        exact kt
      obtain ⟨fs, hr, hrun, hended, hW, hsame⟩ := X15.leave (v := some (.int (1 : Int32))) (fun h => by rw [Bd.returns] at h; cases h)
      refine ⟨_, _, go16 _ ?_, hrun, hended, _, _, rfl, ?_, ⟨_, rfl⟩, hW, hsame.mono (by decide) (by decide)⟩
      · exact retN X15 hx (t := .boolean) Bd.returns (by simp) (hb hby at_59) hr
      · show Q_own_law Z pi0 c0 c1 c2 d0 d1 d2 h0 n0 _ T15.heap _
        rw [e15]
        exact ⟨rfl, N15⟩
set_option maxRecDepth 65536 in
set_option maxHeartbeats 40000000 in
theorem comes_1 {Post : Tables → Env → Array Value → State → Outcome → State → Prop} (hpost : ∀ tb e args s v u, (limb_1_1.after args s (.returned v) u = true ∧ limb_1_2.after args s (.returned v) u = true ∧ True) → FrameEnd s (.returned v) u (Jvm.fieldLocs frame_1_writes args s ++ Jvm.arrayLocs frame_1_arrays args s ++ Jvm.staticLocs frame_1_statics s) 0 0 → Post tb e args s (.returned v) u) :
    ArmFor flags0 classFile x code maxLocals ret World_1 tables_1 room_1 Calls_1 rest_1 Pre_1 Post := by
  intro l hfl _ _ p e ha hc hk s m args below hf hA hF happ hP
  obtain ⟨hcalls, hrest, hpre⟩ := hP
  obtain ⟨-, -, -, hnamed, -, -, -, hat⟩ := (Spec.applies_iff hf).mp happ
  obtain ⟨hg, hn⟩ := and_e (Cond.before_iff.mp (show (Jvm.Cond.and given_1 narrow_1).before args s = true from hpre))
  obtain ⟨g1a, g1b⟩ := and_e hg
  obtain ⟨w0, rfl⟩ : ∃ w0 : Value, args = #[w0] := by
    have hs : args.size = 1 := by simpa [Cond.value, given_1] using g1a
    obtain ⟨L⟩ := args
    match L, hs with
    | [w0], _ => exact ⟨w0, rfl⟩
  have hw := fun d (hd : d ∈ tables_1) => atoms_spec (ws := Jvm.Cond.code x code maxLocals ret :: tables_1) hat d (List.mem_cons_of_mem _ hd)
  have hfit : Fit s := fun {y c} hc i hi => by
    obtain ⟨ha, rfl⟩ := Array.getElem?_eq_some_iff.mp hc
    have q := List.all_eq_true.mp ((Array.all_eq_true_iff_forall_mem.mp hF) _ (Array.getElem_mem ha)) i (List.mem_range.mpr hi)
    simpa [Array.getElem?_eq_getElem hi] using q
  obtain ⟨i0, ei0⟩ := is_v g1b
  obtain rfl : w0 = (.int i0) := Option.some.inj ei0
  obtain ⟨g2a, g2b⟩ := and_e hn
  obtain ⟨g3a, g3b⟩ := and_e g2b
  obtain ⟨g4a, g4b⟩ := and_e g3b
  obtain ⟨g5a, g5b⟩ := and_e g4b
  obtain ⟨g6a, g6b⟩ := and_e g5b
  obtain ⟨g7a, g7b⟩ := and_e g6b
  obtain ⟨g8a, g8b⟩ := and_e g7b
  obtain ⟨g9a, g9b⟩ := and_e g8b
  obtain ⟨g10a, g10b⟩ := and_e g9b
  obtain ⟨g11a, g11b⟩ := and_e g10b
  obtain ⟨g12a, g12b⟩ := and_e g11b
  obtain ⟨v_JobState_RUNNING, ev_v_JobState_RUNNING⟩ := exa_v g2a
  have E_v_JobState_RUNNING : Exa s s.heap v_JobState_RUNNING "com/example/checkpoint/checkpoint/JobState" := Exa.start ev_v_JobState_RUNNING g2a
  have S_v_JobState_RUNNING : Sta s s.heap "com/example/checkpoint/checkpoint/JobState" "RUNNING" "Lcom/example/checkpoint/checkpoint/JobState;" (.ref v_JobState_RUNNING) := Sta.start ev_v_JobState_RUNNING (Or.inr ⟨(hw _ (List.mem_of_getElem? (i := 2) rfl)), (hw _ (List.mem_of_getElem? (i := 3) rfl))⟩)
  obtain ⟨v_JobState_PENDING, ev_v_JobState_PENDING⟩ := exa_v g3a
  have E_v_JobState_PENDING : Exa s s.heap v_JobState_PENDING "com/example/checkpoint/checkpoint/JobState" := Exa.start ev_v_JobState_PENDING g3a
  have S_v_JobState_PENDING : Sta s s.heap "com/example/checkpoint/checkpoint/JobState" "PENDING" "Lcom/example/checkpoint/checkpoint/JobState;" (.ref v_JobState_PENDING) := Sta.start ev_v_JobState_PENDING (Or.inr ⟨(hw _ (List.mem_of_getElem? (i := 2) rfl)), (hw _ (List.mem_of_getElem? (i := 5) rfl))⟩)
  obtain ⟨v_JobState_CANCEL_REQUESTED, ev_v_JobState_CANCEL_REQUESTED⟩ := exa_v g5a
  have E_v_JobState_CANCEL_REQUESTED : Exa s s.heap v_JobState_CANCEL_REQUESTED "com/example/checkpoint/checkpoint/JobState" := Exa.start ev_v_JobState_CANCEL_REQUESTED g5a
  have S_v_JobState_CANCEL_REQUESTED : Sta s s.heap "com/example/checkpoint/checkpoint/JobState" "CANCEL_REQUESTED" "Lcom/example/checkpoint/checkpoint/JobState;" (.ref v_JobState_CANCEL_REQUESTED) := Sta.start ev_v_JobState_CANCEL_REQUESTED (Or.inr ⟨(hw _ (List.mem_of_getElem? (i := 2) rfl)), (hw _ (List.mem_of_getElem? (i := 22) rfl))⟩)
  obtain ⟨v_JobState_CANCELLED, ev_v_JobState_CANCELLED⟩ := exa_v g6a
  have E_v_JobState_CANCELLED : Exa s s.heap v_JobState_CANCELLED "com/example/checkpoint/checkpoint/JobState" := Exa.start ev_v_JobState_CANCELLED g6a
  have S_v_JobState_CANCELLED : Sta s s.heap "com/example/checkpoint/checkpoint/JobState" "CANCELLED" "Lcom/example/checkpoint/checkpoint/JobState;" (.ref v_JobState_CANCELLED) := Sta.start ev_v_JobState_CANCELLED (Or.inr ⟨(hw _ (List.mem_of_getElem? (i := 2) rfl)), (hw _ (List.mem_of_getElem? (i := 24) rfl))⟩)
  obtain ⟨v_JobState_PAUSE_REQUESTED, ev_v_JobState_PAUSE_REQUESTED⟩ := exa_v g8a
  have E_v_JobState_PAUSE_REQUESTED : Exa s s.heap v_JobState_PAUSE_REQUESTED "com/example/checkpoint/checkpoint/JobState" := Exa.start ev_v_JobState_PAUSE_REQUESTED g8a
  have S_v_JobState_PAUSE_REQUESTED : Sta s s.heap "com/example/checkpoint/checkpoint/JobState" "PAUSE_REQUESTED" "Lcom/example/checkpoint/checkpoint/JobState;" (.ref v_JobState_PAUSE_REQUESTED) := Sta.start ev_v_JobState_PAUSE_REQUESTED (Or.inr ⟨(hw _ (List.mem_of_getElem? (i := 2) rfl)), (hw _ (List.mem_of_getElem? (i := 27) rfl))⟩)
  obtain ⟨v_JobState_PAUSED, ev_v_JobState_PAUSED⟩ := exa_v g9a
  have E_v_JobState_PAUSED : Exa s s.heap v_JobState_PAUSED "com/example/checkpoint/checkpoint/JobState" := Exa.start ev_v_JobState_PAUSED g9a
  have S_v_JobState_PAUSED : Sta s s.heap "com/example/checkpoint/checkpoint/JobState" "PAUSED" "Lcom/example/checkpoint/checkpoint/JobState;" (.ref v_JobState_PAUSED) := Sta.start ev_v_JobState_PAUSED (Or.inr ⟨(hw _ (List.mem_of_getElem? (i := 2) rfl)), (hw _ (List.mem_of_getElem? (i := 29) rfl))⟩)
  have F_v_JobState_RUNNING_ordinal : Fld s s.heap v_JobState_RUNNING "java/lang/Enum" "ordinal" "I" (.int (1 : Int32)) := own_fldI ev_v_JobState_RUNNING g4a
  have F_v_JobState_CANCEL_REQUESTED_ordinal : Fld s s.heap v_JobState_CANCEL_REQUESTED "java/lang/Enum" "ordinal" "I" (.int (4 : Int32)) := own_fldI ev_v_JobState_CANCEL_REQUESTED g7a
  have F_v_JobState_PAUSE_REQUESTED_ordinal : Fld s s.heap v_JobState_PAUSE_REQUESTED "java/lang/Enum" "ordinal" "I" (.int (2 : Int32)) := own_fldI ev_v_JobState_PAUSE_REQUESTED g10a
  have F_v_JobState_PENDING_ordinal : Fld s s.heap v_JobState_PENDING "java/lang/Enum" "ordinal" "I" (.int (0 : Int32)) := own_fldI ev_v_JobState_PENDING g11a
  have F_v_JobState_CANCELLED_ordinal : Fld s s.heap v_JobState_CANCELLED "java/lang/Enum" "ordinal" "I" (.int (7 : Int32)) := own_fldI ev_v_JobState_CANCELLED g12a
  have F_v_JobState_PAUSED_ordinal : Fld s s.heap v_JobState_PAUSED "java/lang/Enum" "ordinal" "I" (.int (3 : Int32)) := own_fldI ev_v_JobState_PAUSED g12b
  obtain ⟨n, o, h1, h2, h3, _, L, rfl, ⟨rfl, N⟩, hq⟩ := own_law l s _ hw tables_1 i0 v_JobState_RUNNING v_JobState_PAUSE_REQUESTED v_JobState_CANCEL_REQUESTED v_JobState_PENDING v_JobState_PAUSED v_JobState_CANCELLED s.heap s.heap.size (Nat.le_refl _) S_v_JobState_RUNNING E_v_JobState_RUNNING F_v_JobState_RUNNING_ordinal S_v_JobState_PENDING S_v_JobState_PAUSE_REQUESTED E_v_JobState_PAUSE_REQUESTED F_v_JobState_PAUSE_REQUESTED_ordinal S_v_JobState_PAUSED S_v_JobState_CANCEL_REQUESTED E_v_JobState_CANCEL_REQUESTED F_v_JobState_CANCEL_REQUESTED_ordinal S_v_JobState_CANCELLED p e ha hc hk s m _ below hf ((Spec.applies_iff_loose hf).mp happ).1 ⟨rfl, State.Warmed39.refl s, rfl⟩ trivial
  refine ⟨n, _, h1, h2, h3, hpost _ _ _ _ _ _ ⟨Cond.after_iff.mpr rfl, Cond.after_iff.mpr (eq_i res_at (Term.int_eval (1)) rfl), trivial⟩ ⟨hq.1, hq.2.1, (hq.2.2.sift fun y hy => Or.inr (N y hy)).mono (by decide) (by decide)⟩⟩
theorem main_1_1 : Claimed_1_1 := comes_1 fun _ _ _ _ _ _ h hF => ⟨h.1, hF⟩
theorem main_1_2 : Claimed_1_2 := comes_1 fun _ _ _ _ _ _ h hF => ⟨h.2.1, hF⟩
end Jvm.Pilot.@@N@@
namespace Jvm.Pilot.@@N@@
open Jvm Jvm.ClassFile Sem Op Lib Jvm.Free Jvm.Stand Jvm.Pilot.@@N@@.Jvm.D
/-! MADE BY PROGRAM (witnessworld.py) out of the Statement's table words and the real class files: 12 classes; the members and pool entries that the words name. The judged class is class 1, her method 1. -/
namespace start1
open Jvm.ClassFile
def u (s : String) : CpInfo := .utf8 (stringToUtf16 s)
/-- a pool by its gaps: so many unusable entries, then the entry; so many at the end -/
def gap : Nat → List CpInfo → List CpInfo
  | 0, r => r
  | n + 1, r => .unusable :: gap n r
def poolList (es : List (Nat × CpInfo)) (last : Nat) : List CpInfo := es.foldr (fun e r => gap e.1 (e.2 :: r)) (gap last [])
def pool (es : List (Nat × CpInfo)) (last : Nat) : Array CpInfo := ⟨poolList es last⟩
def fileOf (pool : Array CpInfo) (this : Nat) (attrs : Array Attribute := #[]) (ms : Array MethodInfo := #[]) (fl : Nat := 33) (sup : Nat := 0) (ifs : Array Nat := #[]) (fds : Array FieldInfo := #[]) : ClassFile where
  minorVersion := 0
  majorVersion := 65
  constantPool := pool
  accessFlags := fl
  thisClass := this
  superClass := sup
  interfaces := ifs
  fields := fds
  methods := ms
  attributes := attrs
def plain (name : String) (sup : Option ClassId) : Class where
  name := name
  kind := .ordinary
  loader := none
  accessFlags := 33
  super := sup
  interfaces := #[]
  cf := none
  fields := #[]
  methods := #[]
  instanceTypes := #[]
  staticTypes := #[]
  resolved := #[]
  callSites := []
  init := .initialized
  statics := none
  mirror := none

def pool0 : Array CpInfo := pool [(5, u "<init>"), (0, u "()V"), (1, .class_ 10), (1, u "java/lang/Object")] 113

def k0m0 : Method := { name := "<init>", desc := "()V", sig := { parameters := [], returnType := none }, accessFlags := 1, code := none }
/-- java/lang/Object -/
def k0 : Class := { plain "java/lang/Object" none with
  accessFlags := 33
  interfaces := #[]
  cf := some (fileOf pool0 8 #[] #[{ accessFlags := 1, nameIndex := 5, descriptorIndex := 6, attributes := #[] }] 33 0 #[] #[])
  fields := #[]
  methods := #[k0m0]
  instanceTypes := #[]
  staticTypes := #[]
  resolved := Array.replicate 124 none
  statics := none }

def pool1 : Array CpInfo := pool [(2, .class_ 4), (1, u "java/lang/Object"), (0, u "<init>"), (0, u "()V"), (0, .integer 2147483647), (0, .fieldref 9 10), (0, .class_ 11), (0, .nameAndType 12 13), (0, u "com/example/checkpoint/checkpoint/JobState"), (0, u "RUNNING"), (0, u "Lcom/example/checkpoint/checkpoint/JobState;"), (0, .fieldref 9 15), (0, .nameAndType 16 13), (0, u "PENDING"), (0, .fieldref 9 18), (0, .nameAndType 19 13), (0, u "PAUSE_REQUESTED"), (0, .fieldref 9 21), (0, .nameAndType 22 13), (0, u "PAUSED"), (0, .fieldref 9 24), (0, .nameAndType 25 13), (0, u "CANCEL_REQUESTED"), (0, .fieldref 9 27), (0, .nameAndType 28 13), (0, u "CANCELLED"), (0, .methodref 9 30), (0, .nameAndType 31 32), (0, u "released"), (0, u "()Lcom/example/checkpoint/checkpoint/JobState;"), (0, .class_ 34), (0, u "com/example/checkpoint/checkpoint/JobStateReleasedPinLaw"), (2, u "law"), (0, u "(I)Z")] 3

def k1m0 : Method := { name := "<init>", desc := "()V", sig := { parameters := [], returnType := none }, accessFlags := 1, code := none }
def k1c1 : Code := { maxStack := 2, maxLocals := 4, code := code, exceptionTable := #[], attributes := #[] }
def k1m1 : Method := { name := "law", desc := "(I)Z", sig := { parameters := [.int], returnType := some .boolean }, accessFlags := 9, code := some k1c1 }
/-- com/example/checkpoint/checkpoint/JobStateReleasedPinLaw -/
def k1 : Class := { plain "com/example/checkpoint/checkpoint/JobStateReleasedPinLaw" (some 0) with
  accessFlags := 49
  interfaces := #[]
  cf := some (fileOf pool1 33 #[] #[{ accessFlags := 1, nameIndex := 5, descriptorIndex := 6, attributes := #[] }, { accessFlags := 9, nameIndex := 37, descriptorIndex := 38, attributes := #[] }] 49 2 #[] #[])
  fields := #[]
  methods := #[k1m0, k1m1]
  instanceTypes := #[]
  staticTypes := #[]
  resolved := Array.replicate 42 none
  statics := none }

def pool2 : Array CpInfo := pool [(1, .class_ 2), (0, u "java/lang/constant/Constable"), (0, .class_ 4), (0, u "java/lang/Object")] 6

/-- java/lang/constant/Constable -/
def k2 : Class := { plain "java/lang/constant/Constable" (some 0) with
  accessFlags := 1537
  interfaces := #[]
  cf := some (fileOf pool2 1 #[] #[] 1537 3 #[] #[])
  fields := #[]
  methods := #[]
  instanceTypes := #[]
  staticTypes := #[]
  resolved := Array.replicate 11 none
  statics := none }

def pool3 : Array CpInfo := pool [(1, .class_ 2), (0, u "java/lang/Comparable"), (0, .class_ 4), (0, u "java/lang/Object")] 7

/-- java/lang/Comparable -/
def k3 : Class := { plain "java/lang/Comparable" (some 0) with
  accessFlags := 1537
  interfaces := #[]
  cf := some (fileOf pool3 1 #[] #[] 1537 3 #[] #[])
  fields := #[]
  methods := #[]
  instanceTypes := #[]
  staticTypes := #[]
  resolved := Array.replicate 12 none
  statics := none }

def pool4 : Array CpInfo := pool [(1, .class_ 2), (0, u "java/io/Serializable"), (0, .class_ 4), (0, u "java/lang/Object")] 2

/-- java/io/Serializable -/
def k4 : Class := { plain "java/io/Serializable" (some 0) with
  accessFlags := 1537
  interfaces := #[]
  cf := some (fileOf pool4 1 #[] #[] 1537 3 #[] #[])
  fields := #[]
  methods := #[]
  instanceTypes := #[]
  staticTypes := #[]
  resolved := Array.replicate 7 none
  statics := none }

def pool5 : Array CpInfo := pool [(2, .class_ 4), (1, u "java/lang/Enum"), (0, u "name"), (0, u "Ljava/lang/String;"), (0, .fieldref 2 8), (0, .nameAndType 9 10), (0, u "ordinal"), (0, u "I"), (1, .class_ 14), (1, u "java/lang/Object"), (4, u "hash"), (86, .class_ 108), (1, u "java/lang/Enum$EnumDesc"), (2, .class_ 112), (0, u "java/lang/constant/Constable"), (0, .class_ 114), (0, u "java/lang/Comparable"), (0, .class_ 116), (0, u "java/io/Serializable"), (9, u "()I")] 77

def k5c0 : Code := { maxStack := 1, maxLocals := 1, code := jdk_37_method_2_code, exceptionTable := #[], attributes := #[] }
def k5m0 : Method := { name := "ordinal", desc := "()I", sig := { parameters := [], returnType := some .int }, accessFlags := 17, code := some k5c0 }
/-- java/lang/Enum -/
def k5 : Class := { plain "java/lang/Enum" (some 0) with
  accessFlags := 1057
  interfaces := #[2, 3, 4]
  cf := some (fileOf pool5 2 #[.nestMembers #[106]] #[{ accessFlags := 17, nameIndex := 9, descriptorIndex := 126, attributes := #[] }] 1057 12 #[111, 113, 115] #[{ accessFlags := 18, nameIndex := 5, descriptorIndex := 6, attributes := #[] }, { accessFlags := 18, nameIndex := 9, descriptorIndex := 10, attributes := #[] }, { accessFlags := 2, nameIndex := 19, descriptorIndex := 10, attributes := #[] }])
  fields := #[{ name := "name", type := (.object "java/lang/String"), accessFlags := 18, slot := 0, constantValue := 0 }, { name := "ordinal", type := .int, accessFlags := 18, slot := 1, constantValue := 0 }, { name := "hash", type := .int, accessFlags := 2, slot := 2, constantValue := 0 }]
  methods := #[k5m0]
  instanceTypes := #[(.object "java/lang/String"), .int, .int]
  staticTypes := #[]
  resolved := Array.replicate 204 none
  statics := none }

def pool6 : Array CpInfo := pool [(1, .class_ 2), (0, u "com/example/checkpoint/checkpoint/JobState"), (0, .fieldref 1 4), (0, .nameAndType 5 6), (0, u "PENDING"), (0, u "Lcom/example/checkpoint/checkpoint/JobState;"), (2, u "RUNNING"), (2, u "PAUSE_REQUESTED"), (0, .fieldref 1 14), (0, .nameAndType 15 6), (0, u "PAUSED"), (2, u "CANCEL_REQUESTED"), (2, u "SUCCEEDED"), (2, u "FAILED"), (0, .fieldref 1 26), (0, .nameAndType 27 6), (0, u "CANCELLED"), (2, u "$VALUES"), (0, u "[Lcom/example/checkpoint/checkpoint/JobState;"), (6, .class_ 40), (1, u "java/lang/Enum"), (8, u "text"), (0, u "Ljava/lang/String;"), (2, u "isFinal"), (0, u "Z"), (0, .methodref 1 56), (0, .nameAndType 57 58), (0, u "ordinal"), (0, u "()I"), (18, u "BY_TEXT"), (0, u "Ljava/util/Map;"), (88, u "released"), (0, u "()Lcom/example/checkpoint/checkpoint/JobState;")] 23

def k6c0 : Code := { maxStack := 3, maxLocals := 1, code := prog_6_method_7_code, exceptionTable := #[], attributes := #[] }
def k6m0 : Method := { name := "released", desc := "()Lcom/example/checkpoint/checkpoint/JobState;", sig := { parameters := [], returnType := some (.object "com/example/checkpoint/checkpoint/JobState") }, accessFlags := 0, code := some k6c0 }
/-- com/example/checkpoint/checkpoint/JobState -/
def k6 : Class := { plain "com/example/checkpoint/checkpoint/JobState" (some 5) with
  accessFlags := 16433
  interfaces := #[]
  cf := some (fileOf pool6 1 #[] #[{ accessFlags := 0, nameIndex := 167, descriptorIndex := 168, attributes := #[] }] 16433 38 #[] #[{ accessFlags := 16409, nameIndex := 5, descriptorIndex := 6, attributes := #[] }, { accessFlags := 16409, nameIndex := 9, descriptorIndex := 6, attributes := #[] }, { accessFlags := 16409, nameIndex := 12, descriptorIndex := 6, attributes := #[] }, { accessFlags := 16409, nameIndex := 15, descriptorIndex := 6, attributes := #[] }, { accessFlags := 16409, nameIndex := 18, descriptorIndex := 6, attributes := #[] }, { accessFlags := 16409, nameIndex := 21, descriptorIndex := 6, attributes := #[] }, { accessFlags := 16409, nameIndex := 24, descriptorIndex := 6, attributes := #[] }, { accessFlags := 16409, nameIndex := 27, descriptorIndex := 6, attributes := #[] }, { accessFlags := 26, nameIndex := 77, descriptorIndex := 78, attributes := #[] }, { accessFlags := 18, nameIndex := 49, descriptorIndex := 50, attributes := #[] }, { accessFlags := 18, nameIndex := 53, descriptorIndex := 54, attributes := #[] }, { accessFlags := 4122, nameIndex := 30, descriptorIndex := 31, attributes := #[] }])
  fields := #[{ name := "PENDING", type := (.object "com/example/checkpoint/checkpoint/JobState"), accessFlags := 16409, slot := 0, constantValue := 0 }, { name := "RUNNING", type := (.object "com/example/checkpoint/checkpoint/JobState"), accessFlags := 16409, slot := 1, constantValue := 0 }, { name := "PAUSE_REQUESTED", type := (.object "com/example/checkpoint/checkpoint/JobState"), accessFlags := 16409, slot := 2, constantValue := 0 }, { name := "PAUSED", type := (.object "com/example/checkpoint/checkpoint/JobState"), accessFlags := 16409, slot := 3, constantValue := 0 }, { name := "CANCEL_REQUESTED", type := (.object "com/example/checkpoint/checkpoint/JobState"), accessFlags := 16409, slot := 4, constantValue := 0 }, { name := "SUCCEEDED", type := (.object "com/example/checkpoint/checkpoint/JobState"), accessFlags := 16409, slot := 5, constantValue := 0 }, { name := "FAILED", type := (.object "com/example/checkpoint/checkpoint/JobState"), accessFlags := 16409, slot := 6, constantValue := 0 }, { name := "CANCELLED", type := (.object "com/example/checkpoint/checkpoint/JobState"), accessFlags := 16409, slot := 7, constantValue := 0 }, { name := "BY_TEXT", type := (.object "java/util/Map"), accessFlags := 26, slot := 8, constantValue := 0 }, { name := "text", type := (.object "java/lang/String"), accessFlags := 18, slot := 3, constantValue := 0 }, { name := "isFinal", type := .boolean, accessFlags := 18, slot := 4, constantValue := 0 }, { name := "$VALUES", type := (.array (.object "com/example/checkpoint/checkpoint/JobState")), accessFlags := 4122, slot := 9, constantValue := 0 }]
  methods := #[k6m0]
  instanceTypes := #[(.object "java/lang/String"), .int, .int, (.object "java/lang/String"), .boolean]
  staticTypes := #[(.object "com/example/checkpoint/checkpoint/JobState"), (.object "com/example/checkpoint/checkpoint/JobState"), (.object "com/example/checkpoint/checkpoint/JobState"), (.object "com/example/checkpoint/checkpoint/JobState"), (.object "com/example/checkpoint/checkpoint/JobState"), (.object "com/example/checkpoint/checkpoint/JobState"), (.object "com/example/checkpoint/checkpoint/JobState"), (.object "com/example/checkpoint/checkpoint/JobState"), (.object "java/util/Map"), (.array (.object "com/example/checkpoint/checkpoint/JobState"))]
  resolved := Array.replicate 192 none
  statics := some 0 }

def pool7 : Array CpInfo := pool [(1, u "java/lang/Cloneable"), (0, .class_ 1), (0, u "java/lang/Object"), (0, .class_ 3)] 3

/-- java/lang/Cloneable -/
def k7 : Class := { plain "java/lang/Cloneable" (some 0) with
  accessFlags := 1537
  interfaces := #[]
  cf := some (fileOf pool7 2 #[] #[] 1537 4 #[] #[])
  fields := #[]
  methods := #[]
  instanceTypes := #[]
  staticTypes := #[]
  resolved := Array.replicate 8 none
  statics := none }

/-- the primitive byte -/
def k8 : Class := { plain "byte" none with kind := .primitive 'B', accessFlags := 0x411 }
/-- [B -/
def k9 : Class := { plain "[B" (some 0) with kind := .array 8 .byte, interfaces := #[7, 4], accessFlags := 1041 }

/-- the primitive int -/
def k10 : Class := { plain "int" none with kind := .primitive 'I', accessFlags := 0x411 }
/-- [I -/
def k11 : Class := { plain "[I" (some 0) with kind := .array 10 .int, interfaces := #[7, 4], accessFlags := 1041 }

def heap : Heap := #[{ cls := 6, slots := #[.ref 1, .ref 2, .ref 3, .ref 4, .ref 5, .ref 6, .ref 7, .ref 8, .null, .null], vm := .statics 6 },
  { cls := 6, slots := #[.null, .int 0, .int 0, .null, .int 0], vm := .none },
  { cls := 6, slots := #[.null, .int 1, .int 0, .null, .int 0], vm := .none },
  { cls := 6, slots := #[.null, .int 2, .int 0, .null, .int 0], vm := .none },
  { cls := 6, slots := #[.null, .int 3, .int 0, .null, .int 0], vm := .none },
  { cls := 6, slots := #[.null, .int 4, .int 0, .null, .int 0], vm := .none },
  { cls := 6, slots := #[.null, .int 5, .int 0, .null, .int 1], vm := .none },
  { cls := 6, slots := #[.null, .int 6, .int 0, .null, .int 1], vm := .none },
  { cls := 6, slots := #[.null, .int 7, .int 0, .null, .int 1], vm := .none }]
def classes : Array Class := #[k0, k1, k2, k3, k4, k5, k6, k7, k8, k9, k10, k11]
def interned : List (Array UInt16 × Addr) := []
def slotsUsed : Nat := 50
def theMethod : MethodId := ⟨1, 1⟩
def args0 : Array Value := #[.int 5]
def aboutOver (below : List Frame) : State where
  vm := { classes := classes, interned := interned.toArray }
  heap := heap
  slotsUsed := slotsUsed
  threads := #[{ frames := .invoking theMethod args0 :: below }]
def below0 : List Frame := [.native { method := ⟨0, 0⟩, args := #[] }]
def about1 : State := aboutOver below0
def p0 : Program := .bare "" "" ""
def e0 : Env := launch0.env 0 0 0
theorem w_frames : about1.frames = Frame.invoking theMethod args0 :: below0 := rfl
set_option maxRecDepth 65536 in
theorem w_args : argsFit about1.vm theMethod args0 = true := by decide +kernel
set_option maxRecDepth 65536 in
theorem w_heap : heapFits about1 = true := by decide +kernel
set_option maxRecDepth 65536 in
theorem w_runnable : about1.curStatus? = some .runnable := by decide +kernel
set_option maxRecDepth 65536 in
theorem w_alone : about1.alone = true := by decide +kernel
set_option maxRecDepth 65536 in
theorem w_named : about1.methodNamed? x = some theMethod := by decide +kernel
set_option maxRecDepth 65536 in
theorem w_hears : about1.hears theMethod below0 = true := by decide +kernel
set_option maxRecDepth 65536 in
theorem w_ripe : about1.ripe theMethod args0 below0 = true := by decide +kernel
theorem w_running : about1.status = .running := rfl
set_option maxRecDepth 65536 in
theorem w_room : about1.hasRoom e0.platform room_1 = true :=
  launch0.hasRoom_least _ room_1 (by decide +kernel) (by decide +kernel) (by decide +kernel) (by decide +kernel) (by decide +kernel) (by decide +kernel)
theorem allAtoms_all (ts : List Jvm.Cond) (a : Array Jvm.Value) (st : Jvm.State) : (allAtoms ts).before a st = ts.all (fun c => c.before a st) := by
  induction ts with
  | nil => rfl
  | cons c t ih =>
    show (Jvm.Cond.and c (allAtoms t)).before a st = _
    rw [Jvm.Cond.before_and, ih, List.all_cons]
def words1 : List Jvm.Cond := Jvm.Cond.code x code maxLocals ret :: tables_1
/-- a 'code' word, met by the world's own term for the bytes: nothing is compared byte by byte -/
theorem code_word {y : MethodName} {bytes : ByteArray} {mx : Nat} {rt : Option FieldType} {a : Array Value} {s : State} {m : MethodId} {meth : Method} {c : Code} (h1 : s.methodNamed? y = some m) (h2 : s.vm.method? m = some meth) (h3 : meth.code = some c) (h4 : c.code = bytes)
    (h5 : (c.maxLocals == mx && c.exceptionTable.isEmpty && decide (c.maxStack ≤ mostOperands) && decide (meth.sig.returnType = rt) && !meth.locks && decide (parseMethodDescriptor y.desc = some meth.sig)) = true) : (Jvm.Cond.code y bytes mx rt).before a s = true := by
  simp only [Bool.and_eq_true, beq_iff_eq, Bool.not_eq_true', decide_eq_true_eq] at h5
  obtain ⟨⟨⟨⟨⟨g1, g2⟩, g3⟩, g4⟩, g5⟩, g6⟩ := h5
  simp [Cond.before, Cond.holds, Cond.value, h1, h2, h3, h4, g1, g2, g3, g4, g5, g6]
def isCode : Jvm.Cond → Bool
  | .code _ _ _ _ => true
  | _ => false
theorem all_split {L : List Jvm.Cond} {P : Jvm.Cond → Bool} (h1 : L.all (fun c => isCode c || P c) = true) (h2 : ∀ c ∈ L.filter isCode, P c = true) : L.all P = true := by
  refine List.all_eq_true.mpr fun c hc => ?_
  have h := List.all_eq_true.mp h1 c hc
  rcases Bool.eq_false_or_eq_true (isCode c) with hi | hi
  · exact h2 c (List.mem_filter.mpr ⟨hc, hi⟩)
  · simpa [hi] using h
set_option maxRecDepth 65536 in
theorem w_c0 : (Jvm.Cond.code x code maxLocals ret).before args0 about1 = true := code_word (m := ⟨1, 1⟩) (meth := k1m1) (c := k1c1) (by decide +kernel) rfl rfl rfl (by decide +kernel)
set_option maxRecDepth 65536 in
theorem w_c1 : (Jvm.Cond.code ({ cls := "com/example/checkpoint/checkpoint/JobState", name := "released", desc := "()Lcom/example/checkpoint/checkpoint/JobState;" } : Jvm.MethodName) prog_6_method_7_code (1 : Nat) (Option.some (Jvm.ClassFile.FieldType.object "com/example/checkpoint/checkpoint/JobState"))).before args0 about1 = true := code_word (m := ⟨6, 0⟩) (meth := k6m0) (c := k6c0) (by decide +kernel) rfl rfl rfl (by decide +kernel)
set_option maxRecDepth 65536 in
theorem w_c2 : (Jvm.Cond.code ({ cls := "java/lang/Enum", name := "ordinal", desc := "()I" } : Jvm.MethodName) jdk_37_method_2_code (1 : Nat) (Option.some Jvm.ClassFile.FieldType.int)).before args0 about1 = true := code_word (m := ⟨5, 0⟩) (meth := k5m0) (c := k5c0) (by decide +kernel) rfl rfl rfl (by decide +kernel)
def codes1 : List Jvm.Cond := [Jvm.Cond.code x code maxLocals ret, Jvm.Cond.code ({ cls := "com/example/checkpoint/checkpoint/JobState", name := "released", desc := "()Lcom/example/checkpoint/checkpoint/JobState;" } : Jvm.MethodName) prog_6_method_7_code (1 : Nat) (Option.some (Jvm.ClassFile.FieldType.object "com/example/checkpoint/checkpoint/JobState")), Jvm.Cond.code ({ cls := "java/lang/Enum", name := "ordinal", desc := "()I" } : Jvm.MethodName) jdk_37_method_2_code (1 : Nat) (Option.some Jvm.ClassFile.FieldType.int)]
set_option maxRecDepth 65536 in
theorem codes_eq : words1.filter isCode = codes1 := rfl
theorem w_codes : ∀ c ∈ words1.filter isCode, c.before args0 about1 = true := by
  rw [codes_eq]
  intro c hc
  simp only [codes1, List.mem_cons, List.not_mem_nil, or_false] at hc
  rcases hc with rfl | rfl | rfl
  · exact w_c0
  · exact w_c1
  · exact w_c2
set_option maxRecDepth 65536 in
theorem w_t1 : (words1.take 24).all (fun c => isCode c || c.before args0 about1) = true := by decide +kernel
set_option maxRecDepth 65536 in
theorem w_t2 : (words1.drop 24).all (fun c => isCode c || c.before args0 about1) = true := by decide +kernel
theorem w_tables : (allAtoms (Jvm.Cond.code x code maxLocals ret :: tables_1)).before args0 about1 = true := by
  rw [allAtoms_all]
  show words1.all (fun c => c.before args0 about1) = true
  refine all_split ?_ w_codes
  rw [← List.take_append_drop 24 words1, List.all_append, w_t1, w_t2]
  rfl
set_option maxRecDepth 65536 in
theorem w_case : (Jvm.Cond.and given_1 narrow_1).before args0 about1 = true := by decide +kernel
theorem w_applies : (headSpec (Jvm.Cond.code x code maxLocals ret :: tables_1) room_1).applies x e0.platform about1 = true :=
  (Spec.applies_iff w_frames).mpr ⟨w_running, w_runnable, w_alone, w_named, w_hears, w_ripe, w_room, w_tables⟩
theorem atStart : AtStart classFile x code maxLocals ret World_1 tables_1 room_1 Calls_1 rest_1 Pre_1 launch0 p0 e0 about1 theMethod args0 below0 :=
  ⟨lists_1, trivial, launch0.admits_env _ _ _, launch0.least_env, fairChoices_fair.cas, fairChoices_fair.clock, w_frames, w_args, w_heap, w_applies, trivial, trivial, w_case⟩
end start1
theorem witness_1 : WitnessClaimed_1 := ⟨start1.p0, start1.e0, start1.about1, start1.theMethod, start1.args0, start1.below0, start1.atStart⟩
end Jvm.Pilot.@@N@@
