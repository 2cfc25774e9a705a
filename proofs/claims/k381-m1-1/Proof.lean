import JvmDerived
import JvmDerived.Pilot.@@N@@Statement
import JvmDerived.Pilot.@@N@@Code
set_option linter.unusedVariables false
set_option linter.unusedSimpArgs false
namespace Jvm.RoadKit
open Sem ClassFile Op Lib Jvm.Stand Jvm.Free Jvm.LawKit
section New
variable {p : Program} {l : Launch} {e : Env} {R : Room} {s : State} {m : MethodId} {args : Array Value} {below : List Frame} {meth : Method} {c : Code} {T : State} {locs : List Loc} {cells slots : Nat}
theorem retI (X : Stand p l e R s m args below meth c T locs cells slots) (hx : p.tables.exec = Jvm.exec) {pc : Nat} {Ls : Array Slot} {z : Int32} {rest : List Value} (hret : meth.sig.returnType = some .int) (hd : decode c.code pc = .ok (.ireturn, 1)) {fs : List Frame}
    (hl : ∀ (f : JFrame) (acts : List Action), f.method = m → f.locked = none → f.entered = [] → (doReturn e (T.setTop f) acts (some (.int z))).1 = T.setFrames fs) : Steps p.tables e below (T.setTop (mkF m pc Ls (.int z :: rest))) (T.setFrames fs) := by
  have hm' : T.vm.method? m = some meth := X.method'
  have hn : narrow .int (.int z) = .int z := rfl
  show Steps p.tables e below (T.setTop { method := m, pc := pc, locals := Ls, stack := _ :: rest, locked := none }) _
  jvm_step X.here [X.here.top, hx, hd, hm', hret, hn]
  first | (intro acts; rw [hl _ acts rfl rfl rfl]) | rw [hl _ _ rfl rfl rfl]
  exact Steps.refl _
end New
end Jvm.RoadKit
namespace Jvm.Pilot.@@N@@
open Jvm Jvm.ClassFile Sem Op Lib Jvm.Free Jvm.Stand Jvm.LawKit Jvm.RoadKit Bundle Jvm.Pilot.@@N@@.Jvm.D
theorem own_fldI {s : State} {args : Array Value} {t : Term} {x : Addr} {C n d : String} {k : Int32} (ev : t.eval args s none [] s = some (.ref x)) (h : (Cond.eq (.field t C n d) (.int k)).value args s none s [] = some true) : Fld s s.heap x C n d (.int k) := by
  refine Fld.start ?_
  have e := fld_at (C := C) (n := n) (dd := d) ev
  cases hq : s.fieldOf? x C n d with
  | none => rw [hq] at e; simp [Cond.value, e] at h
  | some v =>
    rw [hq] at e
    have e2 : (Term.int k).eval args s none [] s = some (.int k) := rfl
    cases v <;> simp [Cond.value, e, e2] at h
    rw [h]
theorem own_fldN {s : State} {args : Array Value} {t : Term} {x : Addr} {C n d : String} (ev : t.eval args s none [] s = some (.ref x)) (h : (Cond.eq (.field t C n d) .null).value args s none s [] = some true) : Fld s s.heap x C n d .null := by
  refine Fld.start ?_
  rw [← fld_at (C := C) (n := n) (dd := d) ev]
  exact null_v h
theorem own_fldR {s : State} {args : Array Value} {t u : Term} {x y : Addr} {C n d : String} (ev : t.eval args s none [] s = some (.ref x)) (eu : u.eval args s none [] s = some (.ref y)) (h : (Cond.eq (.field t C n d) u).value args s none s [] = some true) : Fld s s.heap x C n d (.ref y) := by
  refine Fld.start ?_
  have e := fld_at (C := C) (n := n) (dd := d) ev
  cases hq : s.fieldOf? x C n d with
  | none => rw [hq] at e; simp [Cond.value, e] at h
  | some v =>
    rw [hq] at e
    cases v <;> simp [Cond.value, e, eu] at h
    rw [h]
theorem own_staI {s : State} {args : Array Value} {C n d : String} {k : Int32} (h : (Cond.eq (.static C n d) (.int k)).value args s none s [] = some true) : (Term.static C n d).eval args s none [] s = some (.int k) := by
  cases hq : (Term.static C n d).eval args s none [] s with
  | none => simp [Cond.value, hq] at h
  | some v =>
    have e2 : (Term.int k).eval args s none [] s = some (.int k) := rfl
    cases v <;> simp [Cond.value, hq, e2] at h
    rw [h]
theorem own_elemR {s : State} {args : Array Value} {t u : Term} {x y : Addr} {cl : Cell} {j : Int32} (ev : t.eval args s none [] s = some (.ref x)) (eu : u.eval args s none [] s = some (.ref y)) (hc : s.heap[x]? = some cl) (h : (Cond.eq (.elem t (.int j)) u).value args s none s [] = some true) : cl.slots[j.toNatClampNeg]? = some (.ref y) := by
  cases hq : (Term.elem t (.int j)).eval args s none [] s with
  | none => simp [Cond.value, hq] at h
  | some v =>
    have e := (elem_in hq ev rfl hc).2
    cases v <;> simp [Cond.value, hq, eu] at h
    rw [e, h]
theorem own_fresh {Z : State} {h : Heap} {a b : Addr} {C n d : String} {v w : Value} (F : Fld Z h a C n d v) (G : Fld Z h b C n d w) (q : v ≠ w) : a ≠ b := F.ne G q
theorem own_sta_keep {Z : State} {h h' : Heap} {C n d : String} {v : Value} {ws : List Addr} (F : Sta Z h C n d v) (K : Keep h h' ws) (q : ∀ x ∈ ws, ∀ c : Cell, h[x]? = some c → c.vm.isStatics = false) : Sta Z h' C n d v := by
  obtain ⟨cf, i, k, f, st, cell, h1, h2, h3, h4, h5, h6, h7⟩ := F
  refine ⟨cf, i, k, f, st, cell, h1, h2, h3, h4, K.2.1 st cell h5 (fun hm => ?_), h6, h7⟩
  rw [q st hm cell h5] at h6; cases h6
theorem own_mono {p : Program} {l : Launch} {e : Env} {R : Room} {s : State} {m : MethodId} {args : Array Value} {below : List Frame} {meth : Method} {c : Code} {T : State} {locs : List Loc} {k j k' j' : Nat} (X : Stand p l e R s m args below meth c T locs k j) (hk : k ≤ k') (hj : j ≤ j') : Stand p l e R s m args below meth c T locs k' j' := { X with same := X.same.mono hk hj }
theorem own_nost {Z : State} {h : Heap} {a : Addr} {C : String} (F : Exa Z h a C) : ∀ c : Cell, h[a]? = some c → c.vm.isStatics = false := fun c hc => by
  obtain ⟨c', _, h1, -, -, h4, -⟩ := F
  cases h1.symm.trans hc; exact h4
theorem own_nostV {Z : State} {h : Heap} {a : Addr} {k : ClassId} {ty : FieldType} {z : Int32} {vs : List Value} {dv : Value} (F : Arv Z h a k ty z vs dv) : ∀ c : Cell, h[a]? = some c → c.vm.isStatics = false := fun c hc => by
  obtain ⟨c', A, -⟩ := F
  cases A.1.symm.trans hc; exact A.plain
theorem d0_0 : decode prog_90_method_5_code 0 = .ok (.iload_n 0, 1) := by decide +kernel
theorem d0_1 : decode prog_90_method_5_code 1 = .ok (.ifCond .ne 7, 3) := by decide +kernel
theorem d0_4 : decode prog_90_method_5_code 4 = .ok (.getstatic 3, 3) := by decide +kernel
theorem d0_7 : decode prog_90_method_5_code 7 = .ok (.areturn, 1) := by decide +kernel
theorem pn_1 : plainName "com/example/corsia/corsia/engine/RecordResult$Outcome" = true := by first | (simp [plainName, overriddenIn]; done) | decide +kernel
theorem d0_8 : decode prog_90_method_5_code 8 = .ok (.iload_n 1, 1) := by decide +kernel
theorem d0_9 : decode prog_90_method_5_code 9 = .ok (.ifCond .eq 9, 3) := by decide +kernel
theorem d0_12 : decode prog_90_method_5_code 12 = .ok (.getstatic 10, 3) := by decide +kernel
theorem d0_15 : decode prog_90_method_5_code 15 = .ok (.goto 6, 3) := by decide +kernel
theorem d0_21 : decode prog_90_method_5_code 21 = .ok (.areturn, 1) := by decide +kernel
theorem d0_18 : decode prog_90_method_5_code 18 = .ok (.getstatic 7, 3) := by decide +kernel
theorem pd_3 : parseMethodDescriptor "(ZZ)Lcom/example/corsia/corsia/engine/RecordResult$Outcome;" = some ⟨[.boolean, .boolean], some (.object "com/example/corsia/corsia/engine/RecordResult$Outcome")⟩ := by decide +kernel
theorem pn_4 : plainName "com/example/corsia/corsia/engine/OutcomeOfPinLaw" = true := by first | (simp [plainName, overriddenIn]; done) | decide +kernel
theorem ef_own_of_CLEAN (m : MethodId) (pi1 : Int32) : entryFrame m #[(.int (0 : Int32)), (.int pi1)] 2 = mkF m 0 #[.val (.int (0 : Int32)), .val (.int pi1)] [] := by first | (simp [entryFrame, mkF, argsToLocals, Value.category]; done) | rfl
def Q_own_of_CLEAN (Z : State) (pi1 : Int32) (c0 : Addr) (h0 : Heap) (n0 : Nat) (v : Option Value) (h : Heap) (L : List Loc) : Prop := v = some (.ref c0) ∧ Fr n0 L ∧ h = h0
set_option maxRecDepth 65536 in
set_option maxHeartbeats 40000000 in
theorem own_of_CLEAN (l : Launch) (Z : State) (a0 : Array Value) (hw : ∀ d ∈ tables_1, d.before a0 Z = true) (ws : List Jvm.Cond) (pi1 : Int32) (c0 : Addr) (h0 : Heap) (n0 : Nat) (Z0 : n0 ≤ h0.size) (P0 : Sta Z h0 "com/example/corsia/corsia/engine/RecordResult$Outcome" "CLEAN" "Lcom/example/corsia/corsia/engine/RecordResult$Outcome;" (.ref c0)) :
    MetFree l (⟨"com/example/corsia/corsia/engine/RecordResult$Outcome", "of", "(ZZ)Lcom/example/corsia/corsia/engine/RecordResult$Outcome;"⟩ : MethodName) (head1 (Jvm.Cond.code (⟨"com/example/corsia/corsia/engine/RecordResult$Outcome", "of", "(ZZ)Lcom/example/corsia/corsia/engine/RecordResult$Outcome;"⟩ : MethodName) prog_90_method_5_code 2 (some (.object "com/example/corsia/corsia/engine/RecordResult$Outcome")) :: ws) ({ frames := 0, cells := 0, slots := 0, locals := 0 } : Room)) (fun a U => a = #[(.int (0 : Int32)), (.int pi1)] ∧ Z.Warmed39 U.vm ∧ U.heap = h0) (fun _ _ _ _ _ => True) (fun _ U o U' => ∃ v L, o = .returned v ∧ Q_own_of_CLEAN Z pi1 c0 h0 n0 v U'.heap L ∧ FrameEnd U o U' L ({ frames := 0, cells := 0, slots := 0, locals := 0 } : Room).cells ({ frames := 0, cells := 0, slots := 0, locals := 0 } : Room).slots) := by
  refine MetFree.of_bodySF (plainFor_of_name pn_1) hisR ?_
  intro p e s m args below meth c s₁ Bd hml0 hP hK
  obtain ⟨rfl, hZ, hh⟩ := hP
  have hx := Bd.exec
  have hby := Bd.bytes
  have hml : c.maxLocals = 2 := hml0
  have hown : s.vm.findClass "com/example/corsia/corsia/engine/RecordResult$Outcome" = some m.cls := findClass_of_methodNamed Bd.named
  have hnm := (name_of_methodNamed Bd.named Bd.method).1
  have X0 : Stand p l e ({ frames := 0, cells := 0, slots := 0, locals := 0 } : Room) s m #[(.int (0 : Int32)), (.int pi1)] below meth c s₁ [] 0 0 := Stand.of_body Bd
  have e0 : s₁.heap = h0 := by rw [← hh, Bd.state]; rfl
  have N0 := Fr.nil n0
  have go0 : ∀ t, Steps p.tables e below (s₁.setTop (mkF m 0 #[.val (.int (0 : Int32)), .val (.int pi1)] [])) t → Steps p.tables e below (s₁.setTop (entryFrame m #[(.int (0 : Int32)), (.int pi1)] 2)) t := fun t k => castTop (ef_own_of_CLEAN m pi1) k
  revert go0
  generalize s₁.setTop (entryFrame m #[(.int (0 : Int32)), (.int pi1)] 2) = st0
  intro go0
  obtain ⟨T1, X1, e1, st1⟩ := getS2 X0 hx hZ hown (host := "") (Or.inl (hw _ (List.mem_of_getElem? (i := 4) rfl))) Via.refl e0 P0 (g := (mkF m 4 #[.val (.int (0 : Int32)), .val (.int pi1)] [])) rfl (hb hby d0_4)
  have go2 : ∀ t, Steps p.tables e below (T1.setTop (mkF m 7 #[.val (.int (0 : Int32)), .val (.int pi1)] [(.ref c0)])) t → Steps p.tables e below st0 t := by
    intro t kt
    refine go0 t ?_
    refine XS.iloadN X0.here hx rfl (hb hby d0_0) rfl ?_
    show Steps p.tables e below (s₁.setTop (mkF m 1 #[.val (.int (0 : Int32)), .val (.int pi1)] [(.int (0 : Int32))])) _
    refine XS.ifNo X0.here hx rfl (hb hby d0_1) rfl ((if0 _ _).trans (teq (by decide : (0 : Int32) = (0 : Int32))).2) ?_
    show Steps p.tables e below (s₁.setTop (mkF m 4 #[.val (.int (0 : Int32)), .val (.int pi1)] [])) _
    refine st1 _ ?_
    show Steps p.tables e below (T1.setTop (mkF m 7 #[.val (.int (0 : Int32)), .val (.int pi1)] [(.ref c0)])) _
    exact kt
  obtain ⟨fs, hr, hrun, hended, hW, hsame⟩ := X1.leave (v := some (.ref c0)) (fun h => by rw [Bd.returns] at h; cases h)
  refine ⟨_, _, go2 _ ?_, hrun, hended, _, _, rfl, ?_, ⟨_, rfl⟩, hW, hsame.mono (by decide) (by decide)⟩
  · jvm_step X1.here [X1.here.top, hx, (hb hby d0_7), X1.method', Bd.returns, Value.isRef, FieldType.isReference]
    first | (intro acts; rw [hr _ acts rfl rfl rfl]) | rw [hr _ _ rfl rfl rfl]
    exact Steps.refl _
  · show Q_own_of_CLEAN Z pi1 c0 h0 n0 _ T1.heap _
    rw [e1]
    exact ⟨rfl, N0, rfl⟩
theorem ef_own_of_DISCARDED (m : MethodId)  : entryFrame m #[(.int (1 : Int32)), (.int (1 : Int32))] 2 = mkF m 0 #[.val (.int (1 : Int32)), .val (.int (1 : Int32))] [] := by first | (simp [entryFrame, mkF, argsToLocals, Value.category]; done) | rfl
def Q_own_of_DISCARDED (Z : State)  (c0 : Addr) (h0 : Heap) (n0 : Nat) (v : Option Value) (h : Heap) (L : List Loc) : Prop := v = some (.ref c0) ∧ Fr n0 L ∧ h = h0
set_option maxRecDepth 65536 in
set_option maxHeartbeats 40000000 in
theorem own_of_DISCARDED (l : Launch) (Z : State) (a0 : Array Value) (hw : ∀ d ∈ tables_1, d.before a0 Z = true) (ws : List Jvm.Cond)  (c0 : Addr) (h0 : Heap) (n0 : Nat) (Z0 : n0 ≤ h0.size) (P0 : Sta Z h0 "com/example/corsia/corsia/engine/RecordResult$Outcome" "DISCARDED" "Lcom/example/corsia/corsia/engine/RecordResult$Outcome;" (.ref c0)) :
    MetFree l (⟨"com/example/corsia/corsia/engine/RecordResult$Outcome", "of", "(ZZ)Lcom/example/corsia/corsia/engine/RecordResult$Outcome;"⟩ : MethodName) (head1 (Jvm.Cond.code (⟨"com/example/corsia/corsia/engine/RecordResult$Outcome", "of", "(ZZ)Lcom/example/corsia/corsia/engine/RecordResult$Outcome;"⟩ : MethodName) prog_90_method_5_code 2 (some (.object "com/example/corsia/corsia/engine/RecordResult$Outcome")) :: ws) ({ frames := 0, cells := 0, slots := 0, locals := 0 } : Room)) (fun a U => a = #[(.int (1 : Int32)), (.int (1 : Int32))] ∧ Z.Warmed39 U.vm ∧ U.heap = h0) (fun _ _ _ _ _ => True) (fun _ U o U' => ∃ v L, o = .returned v ∧ Q_own_of_DISCARDED Z c0 h0 n0 v U'.heap L ∧ FrameEnd U o U' L ({ frames := 0, cells := 0, slots := 0, locals := 0 } : Room).cells ({ frames := 0, cells := 0, slots := 0, locals := 0 } : Room).slots) := by
  refine MetFree.of_bodySF (plainFor_of_name pn_1) hisR ?_
  intro p e s m args below meth c s₁ Bd hml0 hP hK
  obtain ⟨rfl, hZ, hh⟩ := hP
  have hx := Bd.exec
  have hby := Bd.bytes
  have hml : c.maxLocals = 2 := hml0
  have hown : s.vm.findClass "com/example/corsia/corsia/engine/RecordResult$Outcome" = some m.cls := findClass_of_methodNamed Bd.named
  have hnm := (name_of_methodNamed Bd.named Bd.method).1
  have X0 : Stand p l e ({ frames := 0, cells := 0, slots := 0, locals := 0 } : Room) s m #[(.int (1 : Int32)), (.int (1 : Int32))] below meth c s₁ [] 0 0 := Stand.of_body Bd
  have e0 : s₁.heap = h0 := by rw [← hh, Bd.state]; rfl
  have N0 := Fr.nil n0
  have go0 : ∀ t, Steps p.tables e below (s₁.setTop (mkF m 0 #[.val (.int (1 : Int32)), .val (.int (1 : Int32))] [])) t → Steps p.tables e below (s₁.setTop (entryFrame m #[(.int (1 : Int32)), (.int (1 : Int32))] 2)) t := fun t k => castTop (ef_own_of_DISCARDED m ) k
  revert go0
  generalize s₁.setTop (entryFrame m #[(.int (1 : Int32)), (.int (1 : Int32))] 2) = st0
  intro go0
  obtain ⟨T1, X1, e1, st1⟩ := getS2 X0 hx hZ hown (host := "") (Or.inl (hw _ (List.mem_of_getElem? (i := 11) rfl))) Via.refl e0 P0 (g := (mkF m 12 #[.val (.int (1 : Int32)), .val (.int (1 : Int32))] [])) rfl (hb hby d0_12)
  have go2 : ∀ t, Steps p.tables e below (T1.setTop (mkF m 21 #[.val (.int (1 : Int32)), .val (.int (1 : Int32))] [(.ref c0)])) t → Steps p.tables e below st0 t := by
    intro t kt
    refine go0 t ?_
    refine XS.iloadN X0.here hx rfl (hb hby d0_0) rfl ?_
    show Steps p.tables e below (s₁.setTop (mkF m 1 #[.val (.int (1 : Int32)), .val (.int (1 : Int32))] [(.int (1 : Int32))])) _
    refine XS.ifYes X0.here hx rfl (pc0 := 1) (pc' := 8) rfl (hb hby d0_1) rfl ((if0 _ _).trans (feq (by decide : ¬ ((1 : Int32) = (0 : Int32)))).2) (by decide) (by decide) ?_
    show Steps p.tables e below (s₁.setTop (mkF m 8 #[.val (.int (1 : Int32)), .val (.int (1 : Int32))] [])) _
    refine XS.iloadN X0.here hx rfl (hb hby d0_8) rfl ?_
    show Steps p.tables e below (s₁.setTop (mkF m 9 #[.val (.int (1 : Int32)), .val (.int (1 : Int32))] [(.int (1 : Int32))])) _
    refine XS.ifNo X0.here hx rfl (hb hby d0_9) rfl ((if0 _ _).trans (feq (by decide : ¬ ((1 : Int32) = (0 : Int32)))).1) ?_
    show Steps p.tables e below (s₁.setTop (mkF m 12 #[.val (.int (1 : Int32)), .val (.int (1 : Int32))] [])) _
    refine st1 _ ?_
    show Steps p.tables e below (T1.setTop (mkF m 15 #[.val (.int (1 : Int32)), .val (.int (1 : Int32))] [(.ref c0)])) _
    refine XS.goto X1.here hx rfl (pc0 := 15) (pc' := 21) rfl (hb hby d0_15) (by decide) (by decide) ?_
    show Steps p.tables e below (T1.setTop (mkF m 21 #[.val (.int (1 : Int32)), .val (.int (1 : Int32))] [(.ref c0)])) _
    exact kt
  obtain ⟨fs, hr, hrun, hended, hW, hsame⟩ := X1.leave (v := some (.ref c0)) (fun h => by rw [Bd.returns] at h; cases h)
  refine ⟨_, _, go2 _ ?_, hrun, hended, _, _, rfl, ?_, ⟨_, rfl⟩, hW, hsame.mono (by decide) (by decide)⟩
  · jvm_step X1.here [X1.here.top, hx, (hb hby d0_21), X1.method', Bd.returns, Value.isRef, FieldType.isReference]
    first | (intro acts; rw [hr _ acts rfl rfl rfl]) | rw [hr _ _ rfl rfl rfl]
    exact Steps.refl _
  · show Q_own_of_DISCARDED Z c0 h0 n0 _ T1.heap _
    rw [e1]
    exact ⟨rfl, N0, rfl⟩
theorem ef_own_of_FLAGGED (m : MethodId)  : entryFrame m #[(.int (1 : Int32)), (.int (0 : Int32))] 2 = mkF m 0 #[.val (.int (1 : Int32)), .val (.int (0 : Int32))] [] := by first | (simp [entryFrame, mkF, argsToLocals, Value.category]; done) | rfl
def Q_own_of_FLAGGED (Z : State)  (c0 : Addr) (h0 : Heap) (n0 : Nat) (v : Option Value) (h : Heap) (L : List Loc) : Prop := v = some (.ref c0) ∧ Fr n0 L ∧ h = h0
set_option maxRecDepth 65536 in
set_option maxHeartbeats 40000000 in
theorem own_of_FLAGGED (l : Launch) (Z : State) (a0 : Array Value) (hw : ∀ d ∈ tables_1, d.before a0 Z = true) (ws : List Jvm.Cond)  (c0 : Addr) (h0 : Heap) (n0 : Nat) (Z0 : n0 ≤ h0.size) (P0 : Sta Z h0 "com/example/corsia/corsia/engine/RecordResult$Outcome" "FLAGGED" "Lcom/example/corsia/corsia/engine/RecordResult$Outcome;" (.ref c0)) :
    MetFree l (⟨"com/example/corsia/corsia/engine/RecordResult$Outcome", "of", "(ZZ)Lcom/example/corsia/corsia/engine/RecordResult$Outcome;"⟩ : MethodName) (head1 (Jvm.Cond.code (⟨"com/example/corsia/corsia/engine/RecordResult$Outcome", "of", "(ZZ)Lcom/example/corsia/corsia/engine/RecordResult$Outcome;"⟩ : MethodName) prog_90_method_5_code 2 (some (.object "com/example/corsia/corsia/engine/RecordResult$Outcome")) :: ws) ({ frames := 0, cells := 0, slots := 0, locals := 0 } : Room)) (fun a U => a = #[(.int (1 : Int32)), (.int (0 : Int32))] ∧ Z.Warmed39 U.vm ∧ U.heap = h0) (fun _ _ _ _ _ => True) (fun _ U o U' => ∃ v L, o = .returned v ∧ Q_own_of_FLAGGED Z c0 h0 n0 v U'.heap L ∧ FrameEnd U o U' L ({ frames := 0, cells := 0, slots := 0, locals := 0 } : Room).cells ({ frames := 0, cells := 0, slots := 0, locals := 0 } : Room).slots) := by
  refine MetFree.of_bodySF (plainFor_of_name pn_1) hisR ?_
  intro p e s m args below meth c s₁ Bd hml0 hP hK
  obtain ⟨rfl, hZ, hh⟩ := hP
  have hx := Bd.exec
  have hby := Bd.bytes
  have hml : c.maxLocals = 2 := hml0
  have hown : s.vm.findClass "com/example/corsia/corsia/engine/RecordResult$Outcome" = some m.cls := findClass_of_methodNamed Bd.named
  have hnm := (name_of_methodNamed Bd.named Bd.method).1
  have X0 : Stand p l e ({ frames := 0, cells := 0, slots := 0, locals := 0 } : Room) s m #[(.int (1 : Int32)), (.int (0 : Int32))] below meth c s₁ [] 0 0 := Stand.of_body Bd
  have e0 : s₁.heap = h0 := by rw [← hh, Bd.state]; rfl
  have N0 := Fr.nil n0
  have go0 : ∀ t, Steps p.tables e below (s₁.setTop (mkF m 0 #[.val (.int (1 : Int32)), .val (.int (0 : Int32))] [])) t → Steps p.tables e below (s₁.setTop (entryFrame m #[(.int (1 : Int32)), (.int (0 : Int32))] 2)) t := fun t k => castTop (ef_own_of_FLAGGED m ) k
  revert go0
  generalize s₁.setTop (entryFrame m #[(.int (1 : Int32)), (.int (0 : Int32))] 2) = st0
  intro go0
  obtain ⟨T1, X1, e1, st1⟩ := getS2 X0 hx hZ hown (host := "") (Or.inl (hw _ (List.mem_of_getElem? (i := 12) rfl))) Via.refl e0 P0 (g := (mkF m 18 #[.val (.int (1 : Int32)), .val (.int (0 : Int32))] [])) rfl (hb hby d0_18)
  have go2 : ∀ t, Steps p.tables e below (T1.setTop (mkF m 21 #[.val (.int (1 : Int32)), .val (.int (0 : Int32))] [(.ref c0)])) t → Steps p.tables e below st0 t := by
    intro t kt
    refine go0 t ?_
    refine XS.iloadN X0.here hx rfl (hb hby d0_0) rfl ?_
    show Steps p.tables e below (s₁.setTop (mkF m 1 #[.val (.int (1 : Int32)), .val (.int (0 : Int32))] [(.int (1 : Int32))])) _
    refine XS.ifYes X0.here hx rfl (pc0 := 1) (pc' := 8) rfl (hb hby d0_1) rfl ((if0 _ _).trans (feq (by decide : ¬ ((1 : Int32) = (0 : Int32)))).2) (by decide) (by decide) ?_
    show Steps p.tables e below (s₁.setTop (mkF m 8 #[.val (.int (1 : Int32)), .val (.int (0 : Int32))] [])) _
    refine XS.iloadN X0.here hx rfl (hb hby d0_8) rfl ?_
    show Steps p.tables e below (s₁.setTop (mkF m 9 #[.val (.int (1 : Int32)), .val (.int (0 : Int32))] [(.int (0 : Int32))])) _
    refine XS.ifYes X0.here hx rfl (pc0 := 9) (pc' := 18) rfl (hb hby d0_9) rfl ((if0 _ _).trans (teq (by decide : (0 : Int32) = (0 : Int32))).1) (by decide) (by decide) ?_
    show Steps p.tables e below (s₁.setTop (mkF m 18 #[.val (.int (1 : Int32)), .val (.int (0 : Int32))] [])) _
    refine st1 _ ?_
    show Steps p.tables e below (T1.setTop (mkF m 21 #[.val (.int (1 : Int32)), .val (.int (0 : Int32))] [(.ref c0)])) _
    exact kt
  obtain ⟨fs, hr, hrun, hended, hW, hsame⟩ := X1.leave (v := some (.ref c0)) (fun h => by rw [Bd.returns] at h; cases h)
  refine ⟨_, _, go2 _ ?_, hrun, hended, _, _, rfl, ?_, ⟨_, rfl⟩, hW, hsame.mono (by decide) (by decide)⟩
  · jvm_step X1.here [X1.here.top, hx, (hb hby d0_21), X1.method', Bd.returns, Value.isRef, FieldType.isReference]
    first | (intro acts; rw [hr _ acts rfl rfl rfl]) | rw [hr _ _ rfl rfl rfl]
    exact Steps.refl _
  · show Q_own_of_FLAGGED Z c0 h0 n0 _ T1.heap _
    rw [e1]
    exact ⟨rfl, N0, rfl⟩
theorem ef_own_law (m : MethodId) (pi0 : Int32) (pi1 : Int32) : entryFrame m #[(.int pi0), (.int pi1)] maxLocals = mkF m 0 #[.val (.int pi0), .val (.int pi1), .unset, .unset, .unset, .unset, .unset, .unset, .unset, .unset, .unset] [] := by first | (simp [entryFrame, mkF, argsToLocals, Value.category, maxLocals]; done) | rfl
def Q_own_law (Z : State) (pi0 : Int32) (pi1 : Int32) (c0 : Addr) (c1 : Addr) (c2 : Addr) (h0 : Heap) (n0 : Nat) (v : Option Value) (h : Heap) (L : List Loc) : Prop := v = some (.int (1 : Int32)) ∧ Fr n0 L
set_option maxRecDepth 65536 in
set_option maxHeartbeats 40000000 in
theorem own_law (l : Launch) (Z : State) (a0 : Array Value) (hw : ∀ d ∈ tables_1, d.before a0 Z = true) (ws : List Jvm.Cond) (pi0 : Int32) (pi1 : Int32) (c0 : Addr) (c1 : Addr) (c2 : Addr) (h0 : Heap) (n0 : Nat) (Z0 : n0 ≤ h0.size) (P0 : Sta Z h0 "com/example/corsia/corsia/engine/RecordResult$Outcome" "CLEAN" "Lcom/example/corsia/corsia/engine/RecordResult$Outcome;" (.ref c0)) (P1 : Exa Z h0 c0 "com/example/corsia/corsia/engine/RecordResult$Outcome") (P2 : Sta Z h0 "com/example/corsia/corsia/engine/RecordResult$Outcome" "FLAGGED" "Lcom/example/corsia/corsia/engine/RecordResult$Outcome;" (.ref c1)) (P3 : Exa Z h0 c1 "com/example/corsia/corsia/engine/RecordResult$Outcome") (P4 : Sta Z h0 "com/example/corsia/corsia/engine/RecordResult$Outcome" "DISCARDED" "Lcom/example/corsia/corsia/engine/RecordResult$Outcome;" (.ref c2)) (P5 : Exa Z h0 c2 "com/example/corsia/corsia/engine/RecordResult$Outcome") (P6 : c0 ≠ c1) (P7 : c0 ≠ c2) (P8 : c1 ≠ c2) :
    MetFree l x (head1 (Jvm.Cond.code x code maxLocals ret :: ws) room_1) (fun a U => a = #[(.int pi0), (.int pi1)] ∧ Z.Warmed39 U.vm ∧ U.heap = h0) (fun _ _ _ _ _ => True) (fun _ U o U' => ∃ v L, o = .returned v ∧ Q_own_law Z pi0 pi1 c0 c1 c2 h0 n0 v U'.heap L ∧ FrameEnd U o U' L room_1.cells room_1.slots) := by
  refine MetFree.of_bodySF (plainFor_of_name pn_4) hisR ?_
  intro p e s m args below meth c s₁ Bd hml0 hP hK
  obtain ⟨rfl, hZ, hh⟩ := hP
  have hx := Bd.exec
  have hby := Bd.bytes
  have hml : c.maxLocals = 11 := hml0
  have hown : s.vm.findClass "com/example/corsia/corsia/engine/OutcomeOfPinLaw" = some m.cls := findClass_of_methodNamed Bd.named
  have hnm := (name_of_methodNamed Bd.named Bd.method).1
  have X0 : Stand p l e room_1 s m #[(.int pi0), (.int pi1)] below meth c s₁ [] 0 0 := Stand.of_body Bd
  have e0 : s₁.heap = h0 := by rw [← hh, Bd.state]; rfl
  have N0 := Fr.nil n0
  have go0 : ∀ t, Steps p.tables e below (s₁.setTop (mkF m 0 #[.val (.int pi0), .val (.int pi1), .unset, .unset, .unset, .unset, .unset, .unset, .unset, .unset, .unset] [])) t → Steps p.tables e below (s₁.setTop (entryFrame m #[(.int pi0), (.int pi1)] maxLocals)) t := fun t k => castTop (ef_own_law m pi0 pi1) k
  revert go0
  generalize s₁.setTop (entryFrame m #[(.int pi0), (.int pi1)] maxLocals) = st0
  intro go0
  have go1 : ∀ t, Steps p.tables e below (s₁.setTop (mkF m 3 #[.val (.int pi0), .val (.int pi1), .unset, .unset, .unset, .unset, .unset, .unset, .unset, .unset, .unset] [(.int (pi0 &&& (1 : Int32)))])) t → Steps p.tables e below st0 t := by
    intro t kt
    refine go0 t ?_
    refine XS.iloadN X0.here hx rfl (hb hby at_0) rfl ?_
    show Steps p.tables e below (s₁.setTop (mkF m 1 #[.val (.int pi0), .val (.int pi1), .unset, .unset, .unset, .unset, .unset, .unset, .unset, .unset, .unset] [(.int pi0)])) _
    refine XS.iconst X0.here hx rfl (hb hby at_1) ?_
    show Steps p.tables e below (s₁.setTop (mkF m 2 #[.val (.int pi0), .val (.int pi1), .unset, .unset, .unset, .unset, .unset, .unset, .unset, .unset, .unset] [(.int (1 : Int32)), (.int pi0)])) _
    refine XS.iand X0.here hx rfl (hb hby at_2) rfl ?_
    show Steps p.tables e below (s₁.setTop (mkF m 3 #[.val (.int pi0), .val (.int pi1), .unset, .unset, .unset, .unset, .unset, .unset, .unset, .unset, .unset] [(.int (pi0 &&& (1 : Int32)))])) _
    exact kt
  by_cases hc2 : (pi0 &&& (1 : Int32)) = (0 : Int32)
  · skip
    have go3 : ∀ t, Steps p.tables e below (s₁.setTop (mkF m 15 #[.val (.int pi0), .val (.int pi1), .val (.int (0 : Int32)), .unset, .unset, .unset, .unset, .unset, .unset, .unset, .unset] [(.int (pi1 &&& (1 : Int32)))])) t → Steps p.tables e below st0 t := by
      intro t kt
      refine go1 t ?_
      refine XS.ifYes X0.here hx rfl (pc0 := 3) (pc' := 10) rfl (hb hby at_3) rfl ((if0 _ _).trans (teq hc2).1) (by decide) (by decide) ?_
      show Steps p.tables e below (s₁.setTop (mkF m 10 #[.val (.int pi0), .val (.int pi1), .unset, .unset, .unset, .unset, .unset, .unset, .unset, .unset, .unset] [])) _
      refine XS.iconst X0.here hx rfl (hb hby at_10) ?_
      show Steps p.tables e below (s₁.setTop (mkF m 11 #[.val (.int pi0), .val (.int pi1), .unset, .unset, .unset, .unset, .unset, .unset, .unset, .unset, .unset] [(.int (0 : Int32))])) _
      refine XS.istoreN X0.here hx rfl (hb hby at_11) rfl (l' := #[.val (.int pi0), .val (.int pi1), .val (.int (0 : Int32)), .unset, .unset, .unset, .unset, .unset, .unset, .unset, .unset]) rfl ?_
      show Steps p.tables e below (s₁.setTop (mkF m 12 #[.val (.int pi0), .val (.int pi1), .val (.int (0 : Int32)), .unset, .unset, .unset, .unset, .unset, .unset, .unset, .unset] [])) _
      refine XS.iloadN X0.here hx rfl (hb hby at_12) rfl ?_
      show Steps p.tables e below (s₁.setTop (mkF m 13 #[.val (.int pi0), .val (.int pi1), .val (.int (0 : Int32)), .unset, .unset, .unset, .unset, .unset, .unset, .unset, .unset] [(.int pi1)])) _
      refine XS.iconst X0.here hx rfl (hb hby at_13) ?_
      show Steps p.tables e below (s₁.setTop (mkF m 14 #[.val (.int pi0), .val (.int pi1), .val (.int (0 : Int32)), .unset, .unset, .unset, .unset, .unset, .unset, .unset, .unset] [(.int (1 : Int32)), (.int pi1)])) _
      refine XS.iand X0.here hx rfl (hb hby at_14) rfl ?_
      show Steps p.tables e below (s₁.setTop (mkF m 15 #[.val (.int pi0), .val (.int pi1), .val (.int (0 : Int32)), .unset, .unset, .unset, .unset, .unset, .unset, .unset, .unset] [(.int (pi1 &&& (1 : Int32)))])) _
      exact kt
    by_cases hc4 : (pi1 &&& (1 : Int32)) = (0 : Int32)
    · skip
      obtain ⟨_, _, ⟨T5, L5, k5, n5⟩, -, X5, ⟨Lc5, hQ5, l5, y5, z5⟩, st5⟩ := Jvm.LawKit.callS X0 hx (y := (⟨"com/example/corsia/corsia/engine/RecordResult$Outcome", "of", "(ZZ)Lcom/example/corsia/corsia/engine/RecordResult$Outcome;"⟩ : MethodName)) hown (mvT hZ (hw _ (List.mem_of_getElem? (i := 0) rfl))) (mvT hZ (hw _ (List.mem_of_getElem? (i := 1) rfl))) (mvT hZ (hw _ (List.mem_of_getElem? (i := 2) rfl))) (mvT hZ (hw _ (List.mem_of_getElem? (i := 3) rfl))) (by decide) (backOf (W := 0) (own_of_CLEAN l Z a0 hw [] (0 : Int32) c0 h0 n0 Z0 P0) hZ (hw _ (List.mem_of_getElem? (i := 3) rfl)) (hw _ (List.mem_of_getElem? (i := 2) rfl)) (by decide) (by decide)) (g := (mkF m 26 #[.val (.int pi0), .val (.int pi1), .val (.int (0 : Int32)), .val (.int (0 : Int32)), .unset, .unset, .unset, .unset, .unset, .unset, .unset] [(.int (0 : Int32)), (.int (0 : Int32))])) rfl (by rw [hml]; rfl) (argsL := [(.int (0 : Int32)), (.int (0 : Int32))]) (rest := []) (lenOf pd_3 rfl) rfl (by show 2 * 0 + _ ≤ _; exact Nat.le_of_eq rfl) (hb hby at_26) (fun _ _ => ⟨rfl, e0, (by decide : 0 + 0 ≤ _), (by decide : 0 + 0 ≤ _)⟩)
      dsimp only [Pt.U, Pt.locs, Pt.cells, Pt.slots] at X5 l5 y5 z5 st5 hQ5
      subst l5 y5 z5
      obtain ⟨rfl, Nq5, e5⟩ := hQ5
      have N5 := Fr.app N0 Nq5
      obtain ⟨T6, X6, e6, st6⟩ := getS2 X5 hx hZ hown (host := "") (Or.inl (hw _ (List.mem_of_getElem? (i := 6) rfl))) Via.refl e5 P0 (g := (mkF m 40 #[.val (.int pi0), .val (.int pi1), .val (.int (0 : Int32)), .val (.int (0 : Int32)), .val (.ref c0), .unset, .unset, .unset, .unset, .unset, .unset] [(.ref c0)])) rfl (hb hby at_40)
      obtain ⟨T7, X7, e7, st7⟩ := getS2 X6 hx hZ hown (host := "") (Or.inl (hw _ (List.mem_of_getElem? (i := 7) rfl))) Via.refl e6 P2 (g := (mkF m 55 #[.val (.int pi0), .val (.int pi1), .val (.int (0 : Int32)), .val (.int (0 : Int32)), .val (.ref c0), .val (.int (1 : Int32)), .unset, .unset, .unset, .unset, .unset] [(.ref c0)])) rfl (hb hby at_55)
      obtain ⟨T8, X8, e8, st8⟩ := getS2 X7 hx hZ hown (host := "") (Or.inl (hw _ (List.mem_of_getElem? (i := 9) rfl))) Via.refl e7 P4 (g := (mkF m 70 #[.val (.int pi0), .val (.int pi1), .val (.int (0 : Int32)), .val (.int (0 : Int32)), .val (.ref c0), .val (.int (1 : Int32)), .val (.int (0 : Int32)), .unset, .unset, .unset, .unset] [(.ref c0)])) rfl (hb hby at_70)
      have go9 : ∀ t, Steps p.tables e below (T8.setTop (mkF m 150 #[.val (.int pi0), .val (.int pi1), .val (.int (0 : Int32)), .val (.int (0 : Int32)), .val (.ref c0), .val (.int (1 : Int32)), .val (.int (0 : Int32)), .val (.int (0 : Int32)), .val (.int (1 : Int32)), .val (.int (0 : Int32)), .val (.int (0 : Int32))] [(.int (1 : Int32))])) t → Steps p.tables e below st0 t := by
        intro t kt
        refine go3 t ?_
        refine XS.ifYes X0.here hx rfl (pc0 := 15) (pc' := 22) rfl (hb hby at_15) rfl ((if0 _ _).trans (teq hc4).1) (by decide) (by decide) ?_
        show Steps p.tables e below (s₁.setTop (mkF m 22 #[.val (.int pi0), .val (.int pi1), .val (.int (0 : Int32)), .unset, .unset, .unset, .unset, .unset, .unset, .unset, .unset] [])) _
        refine XS.iconst X0.here hx rfl (hb hby at_22) ?_
        show Steps p.tables e below (s₁.setTop (mkF m 23 #[.val (.int pi0), .val (.int pi1), .val (.int (0 : Int32)), .unset, .unset, .unset, .unset, .unset, .unset, .unset, .unset] [(.int (0 : Int32))])) _
        refine XS.istoreN X0.here hx rfl (hb hby at_23) rfl (l' := #[.val (.int pi0), .val (.int pi1), .val (.int (0 : Int32)), .val (.int (0 : Int32)), .unset, .unset, .unset, .unset, .unset, .unset, .unset]) rfl ?_
        show Steps p.tables e below (s₁.setTop (mkF m 24 #[.val (.int pi0), .val (.int pi1), .val (.int (0 : Int32)), .val (.int (0 : Int32)), .unset, .unset, .unset, .unset, .unset, .unset, .unset] [])) _
        refine XS.iloadN X0.here hx rfl (hb hby at_24) rfl ?_
        show Steps p.tables e below (s₁.setTop (mkF m 25 #[.val (.int pi0), .val (.int pi1), .val (.int (0 : Int32)), .val (.int (0 : Int32)), .unset, .unset, .unset, .unset, .unset, .unset, .unset] [(.int (0 : Int32))])) _
        refine XS.iloadN X0.here hx rfl (hb hby at_25) rfl ?_
        show Steps p.tables e below (s₁.setTop (mkF m 26 #[.val (.int pi0), .val (.int pi1), .val (.int (0 : Int32)), .val (.int (0 : Int32)), .unset, .unset, .unset, .unset, .unset, .unset, .unset] [(.int (0 : Int32)), (.int (0 : Int32))])) _
        refine st5 _ ?_
        show Steps p.tables e below (T5.setTop (mkF m 29 #[.val (.int pi0), .val (.int pi1), .val (.int (0 : Int32)), .val (.int (0 : Int32)), .unset, .unset, .unset, .unset, .unset, .unset, .unset] [(.ref c0)])) _
        refine XS.astore X5.here hx rfl (hb hby at_29) rfl rfl (l' := #[.val (.int pi0), .val (.int pi1), .val (.int (0 : Int32)), .val (.int (0 : Int32)), .val (.ref c0), .unset, .unset, .unset, .unset, .unset, .unset]) rfl ?_
        show Steps p.tables e below (T5.setTop (mkF m 31 #[.val (.int pi0), .val (.int pi1), .val (.int (0 : Int32)), .val (.int (0 : Int32)), .val (.ref c0), .unset, .unset, .unset, .unset, .unset, .unset] [])) _
        refine XS.aload X5.here hx rfl (hb hby at_31) rfl rfl ?_
        show Steps p.tables e below (T5.setTop (mkF m 33 #[.val (.int pi0), .val (.int pi1), .val (.int (0 : Int32)), .val (.int (0 : Int32)), .val (.ref c0), .unset, .unset, .unset, .unset, .unset, .unset] [(.ref c0)])) _
        refine XS.ifnonnullYes X5.here hx rfl (pc0 := 33) (pc' := 38) rfl (hb hby at_33) rfl (by decide) (by decide) ?_
        show Steps p.tables e below (T5.setTop (mkF m 38 #[.val (.int pi0), .val (.int pi1), .val (.int (0 : Int32)), .val (.int (0 : Int32)), .val (.ref c0), .unset, .unset, .unset, .unset, .unset, .unset] [])) _
        refine XS.aload X5.here hx rfl (hb hby at_38) rfl rfl ?_
        show Steps p.tables e below (T5.setTop (mkF m 40 #[.val (.int pi0), .val (.int pi1), .val (.int (0 : Int32)), .val (.int (0 : Int32)), .val (.ref c0), .unset, .unset, .unset, .unset, .unset, .unset] [(.ref c0)])) _
        refine st6 _ ?_
        show Steps p.tables e below (T6.setTop (mkF m 43 #[.val (.int pi0), .val (.int pi1), .val (.int (0 : Int32)), .val (.int (0 : Int32)), .val (.ref c0), .unset, .unset, .unset, .unset, .unset, .unset] [(.ref c0), (.ref c0)])) _
        refine Jvm.RoadKit.acmp (g := (mkF m 43 #[.val (.int pi0), .val (.int pi1), .val (.int (0 : Int32)), .val (.int (0 : Int32)), .val (.ref c0), .unset, .unset, .unset, .unset, .unset, .unset] [(.ref c0), (.ref c0)])) X6 hx rfl rfl rfl (pc0 := 43) (pc' := 46) (same := true) rfl (hb hby at_43) rfl (decide_eq_true rfl) (by decide) (by decide) ?_
        show Steps p.tables e below (T6.setTop (mkF m 46 #[.val (.int pi0), .val (.int pi1), .val (.int (0 : Int32)), .val (.int (0 : Int32)), .val (.ref c0), .unset, .unset, .unset, .unset, .unset, .unset] [])) _
        refine XS.iconst X6.here hx rfl (hb hby at_46) ?_
        show Steps p.tables e below (T6.setTop (mkF m 47 #[.val (.int pi0), .val (.int pi1), .val (.int (0 : Int32)), .val (.int (0 : Int32)), .val (.ref c0), .unset, .unset, .unset, .unset, .unset, .unset] [(.int (1 : Int32))])) _
        refine XS.goto X6.here hx rfl (pc0 := 47) (pc' := 51) rfl (hb hby at_47) (by decide) (by decide) ?_
        show Steps p.tables e below (T6.setTop (mkF m 51 #[.val (.int pi0), .val (.int pi1), .val (.int (0 : Int32)), .val (.int (0 : Int32)), .val (.ref c0), .unset, .unset, .unset, .unset, .unset, .unset] [(.int (1 : Int32))])) _
        refine XS.istore X6.here hx rfl (hb hby at_51) rfl (l' := #[.val (.int pi0), .val (.int pi1), .val (.int (0 : Int32)), .val (.int (0 : Int32)), .val (.ref c0), .val (.int (1 : Int32)), .unset, .unset, .unset, .unset, .unset]) rfl ?_
        show Steps p.tables e below (T6.setTop (mkF m 53 #[.val (.int pi0), .val (.int pi1), .val (.int (0 : Int32)), .val (.int (0 : Int32)), .val (.ref c0), .val (.int (1 : Int32)), .unset, .unset, .unset, .unset, .unset] [])) _
        refine XS.aload X6.here hx rfl (hb hby at_53) rfl rfl ?_
        show Steps p.tables e below (T6.setTop (mkF m 55 #[.val (.int pi0), .val (.int pi1), .val (.int (0 : Int32)), .val (.int (0 : Int32)), .val (.ref c0), .val (.int (1 : Int32)), .unset, .unset, .unset, .unset, .unset] [(.ref c0)])) _
        refine st7 _ ?_
        show Steps p.tables e below (T7.setTop (mkF m 58 #[.val (.int pi0), .val (.int pi1), .val (.int (0 : Int32)), .val (.int (0 : Int32)), .val (.ref c0), .val (.int (1 : Int32)), .unset, .unset, .unset, .unset, .unset] [(.ref c1), (.ref c0)])) _
        refine Jvm.RoadKit.acmp (g := (mkF m 58 #[.val (.int pi0), .val (.int pi1), .val (.int (0 : Int32)), .val (.int (0 : Int32)), .val (.ref c0), .val (.int (1 : Int32)), .unset, .unset, .unset, .unset, .unset] [(.ref c1), (.ref c0)])) X7 hx rfl rfl rfl (pc0 := 58) (pc' := 65) (same := false) rfl (hb hby at_58) rfl (decide_eq_false fun q => P6 (Value.ref.inj q)) (by decide) (by decide) ?_
        show Steps p.tables e below (T7.setTop (mkF m 65 #[.val (.int pi0), .val (.int pi1), .val (.int (0 : Int32)), .val (.int (0 : Int32)), .val (.ref c0), .val (.int (1 : Int32)), .unset, .unset, .unset, .unset, .unset] [])) _
        refine XS.iconst X7.here hx rfl (hb hby at_65) ?_
        show Steps p.tables e below (T7.setTop (mkF m 66 #[.val (.int pi0), .val (.int pi1), .val (.int (0 : Int32)), .val (.int (0 : Int32)), .val (.ref c0), .val (.int (1 : Int32)), .unset, .unset, .unset, .unset, .unset] [(.int (0 : Int32))])) _
        refine XS.istore X7.here hx rfl (hb hby at_66) rfl (l' := #[.val (.int pi0), .val (.int pi1), .val (.int (0 : Int32)), .val (.int (0 : Int32)), .val (.ref c0), .val (.int (1 : Int32)), .val (.int (0 : Int32)), .unset, .unset, .unset, .unset]) rfl ?_
        show Steps p.tables e below (T7.setTop (mkF m 68 #[.val (.int pi0), .val (.int pi1), .val (.int (0 : Int32)), .val (.int (0 : Int32)), .val (.ref c0), .val (.int (1 : Int32)), .val (.int (0 : Int32)), .unset, .unset, .unset, .unset] [])) _
        refine XS.aload X7.here hx rfl (hb hby at_68) rfl rfl ?_
        show Steps p.tables e below (T7.setTop (mkF m 70 #[.val (.int pi0), .val (.int pi1), .val (.int (0 : Int32)), .val (.int (0 : Int32)), .val (.ref c0), .val (.int (1 : Int32)), .val (.int (0 : Int32)), .unset, .unset, .unset, .unset] [(.ref c0)])) _
        refine st8 _ ?_
        show Steps p.tables e below (T8.setTop (mkF m 73 #[.val (.int pi0), .val (.int pi1), .val (.int (0 : Int32)), .val (.int (0 : Int32)), .val (.ref c0), .val (.int (1 : Int32)), .val (.int (0 : Int32)), .unset, .unset, .unset, .unset] [(.ref c2), (.ref c0)])) _
        refine Jvm.RoadKit.acmp (g := (mkF m 73 #[.val (.int pi0), .val (.int pi1), .val (.int (0 : Int32)), .val (.int (0 : Int32)), .val (.ref c0), .val (.int (1 : Int32)), .val (.int (0 : Int32)), .unset, .unset, .unset, .unset] [(.ref c2), (.ref c0)])) X8 hx rfl rfl rfl (pc0 := 73) (pc' := 80) (same := false) rfl (hb hby at_73) rfl (decide_eq_false fun q => P7 (Value.ref.inj q)) (by decide) (by decide) ?_
        show Steps p.tables e below (T8.setTop (mkF m 80 #[.val (.int pi0), .val (.int pi1), .val (.int (0 : Int32)), .val (.int (0 : Int32)), .val (.ref c0), .val (.int (1 : Int32)), .val (.int (0 : Int32)), .unset, .unset, .unset, .unset] [])) _
        refine XS.iconst X8.here hx rfl (hb hby at_80) ?_
        show Steps p.tables e below (T8.setTop (mkF m 81 #[.val (.int pi0), .val (.int pi1), .val (.int (0 : Int32)), .val (.int (0 : Int32)), .val (.ref c0), .val (.int (1 : Int32)), .val (.int (0 : Int32)), .unset, .unset, .unset, .unset] [(.int (0 : Int32))])) _
        refine XS.istore X8.here hx rfl (hb hby at_81) rfl (l' := #[.val (.int pi0), .val (.int pi1), .val (.int (0 : Int32)), .val (.int (0 : Int32)), .val (.ref c0), .val (.int (1 : Int32)), .val (.int (0 : Int32)), .val (.int (0 : Int32)), .unset, .unset, .unset]) rfl ?_
        show Steps p.tables e below (T8.setTop (mkF m 83 #[.val (.int pi0), .val (.int pi1), .val (.int (0 : Int32)), .val (.int (0 : Int32)), .val (.ref c0), .val (.int (1 : Int32)), .val (.int (0 : Int32)), .val (.int (0 : Int32)), .unset, .unset, .unset] [])) _
        refine XS.iloadN X8.here hx rfl (hb hby at_83) rfl ?_
        show Steps p.tables e below (T8.setTop (mkF m 84 #[.val (.int pi0), .val (.int pi1), .val (.int (0 : Int32)), .val (.int (0 : Int32)), .val (.ref c0), .val (.int (1 : Int32)), .val (.int (0 : Int32)), .val (.int (0 : Int32)), .unset, .unset, .unset] [(.int (0 : Int32))])) _
        refine XS.ifNo X8.here hx rfl (hb hby at_84) rfl ((if0 _ _).trans (teq (by decide : (0 : Int32) = (0 : Int32))).2) ?_
        show Steps p.tables e below (T8.setTop (mkF m 87 #[.val (.int pi0), .val (.int pi1), .val (.int (0 : Int32)), .val (.int (0 : Int32)), .val (.ref c0), .val (.int (1 : Int32)), .val (.int (0 : Int32)), .val (.int (0 : Int32)), .unset, .unset, .unset] [])) _
        refine XS.iconst X8.here hx rfl (hb hby at_87) ?_
        show Steps p.tables e below (T8.setTop (mkF m 88 #[.val (.int pi0), .val (.int pi1), .val (.int (0 : Int32)), .val (.int (0 : Int32)), .val (.ref c0), .val (.int (1 : Int32)), .val (.int (0 : Int32)), .val (.int (0 : Int32)), .unset, .unset, .unset] [(.int (1 : Int32))])) _
        refine XS.goto X8.here hx rfl (pc0 := 88) (pc' := 92) rfl (hb hby at_88) (by decide) (by decide) ?_
        show Steps p.tables e below (T8.setTop (mkF m 92 #[.val (.int pi0), .val (.int pi1), .val (.int (0 : Int32)), .val (.int (0 : Int32)), .val (.ref c0), .val (.int (1 : Int32)), .val (.int (0 : Int32)), .val (.int (0 : Int32)), .unset, .unset, .unset] [(.int (1 : Int32))])) _
        refine XS.istore X8.here hx rfl (hb hby at_92) rfl (l' := #[.val (.int pi0), .val (.int pi1), .val (.int (0 : Int32)), .val (.int (0 : Int32)), .val (.ref c0), .val (.int (1 : Int32)), .val (.int (0 : Int32)), .val (.int (0 : Int32)), .val (.int (1 : Int32)), .unset, .unset]) rfl ?_
        show Steps p.tables e below (T8.setTop (mkF m 94 #[.val (.int pi0), .val (.int pi1), .val (.int (0 : Int32)), .val (.int (0 : Int32)), .val (.ref c0), .val (.int (1 : Int32)), .val (.int (0 : Int32)), .val (.int (0 : Int32)), .val (.int (1 : Int32)), .unset, .unset] [])) _
        refine XS.iloadN X8.here hx rfl (hb hby at_94) rfl ?_
        show Steps p.tables e below (T8.setTop (mkF m 95 #[.val (.int pi0), .val (.int pi1), .val (.int (0 : Int32)), .val (.int (0 : Int32)), .val (.ref c0), .val (.int (1 : Int32)), .val (.int (0 : Int32)), .val (.int (0 : Int32)), .val (.int (1 : Int32)), .unset, .unset] [(.int (0 : Int32))])) _
        refine XS.ifYes X8.here hx rfl (pc0 := 95) (pc' := 106) rfl (hb hby at_95) rfl ((if0 _ _).trans (teq (by decide : (0 : Int32) = (0 : Int32))).1) (by decide) (by decide) ?_
        show Steps p.tables e below (T8.setTop (mkF m 106 #[.val (.int pi0), .val (.int pi1), .val (.int (0 : Int32)), .val (.int (0 : Int32)), .val (.ref c0), .val (.int (1 : Int32)), .val (.int (0 : Int32)), .val (.int (0 : Int32)), .val (.int (1 : Int32)), .unset, .unset] [])) _
        refine XS.iconst X8.here hx rfl (hb hby at_106) ?_
        show Steps p.tables e below (T8.setTop (mkF m 107 #[.val (.int pi0), .val (.int pi1), .val (.int (0 : Int32)), .val (.int (0 : Int32)), .val (.ref c0), .val (.int (1 : Int32)), .val (.int (0 : Int32)), .val (.int (0 : Int32)), .val (.int (1 : Int32)), .unset, .unset] [(.int (0 : Int32))])) _
        refine XS.istore X8.here hx rfl (hb hby at_107) rfl (l' := #[.val (.int pi0), .val (.int pi1), .val (.int (0 : Int32)), .val (.int (0 : Int32)), .val (.ref c0), .val (.int (1 : Int32)), .val (.int (0 : Int32)), .val (.int (0 : Int32)), .val (.int (1 : Int32)), .val (.int (0 : Int32)), .unset]) rfl ?_
        show Steps p.tables e below (T8.setTop (mkF m 109 #[.val (.int pi0), .val (.int pi1), .val (.int (0 : Int32)), .val (.int (0 : Int32)), .val (.ref c0), .val (.int (1 : Int32)), .val (.int (0 : Int32)), .val (.int (0 : Int32)), .val (.int (1 : Int32)), .val (.int (0 : Int32)), .unset] [])) _
        refine XS.iloadN X8.here hx rfl (hb hby at_109) rfl ?_
        show Steps p.tables e below (T8.setTop (mkF m 110 #[.val (.int pi0), .val (.int pi1), .val (.int (0 : Int32)), .val (.int (0 : Int32)), .val (.ref c0), .val (.int (1 : Int32)), .val (.int (0 : Int32)), .val (.int (0 : Int32)), .val (.int (1 : Int32)), .val (.int (0 : Int32)), .unset] [(.int (0 : Int32))])) _
        refine XS.ifYes X8.here hx rfl (pc0 := 110) (pc' := 121) rfl (hb hby at_110) rfl ((if0 _ _).trans (teq (by decide : (0 : Int32) = (0 : Int32))).1) (by decide) (by decide) ?_
        show Steps p.tables e below (T8.setTop (mkF m 121 #[.val (.int pi0), .val (.int pi1), .val (.int (0 : Int32)), .val (.int (0 : Int32)), .val (.ref c0), .val (.int (1 : Int32)), .val (.int (0 : Int32)), .val (.int (0 : Int32)), .val (.int (1 : Int32)), .val (.int (0 : Int32)), .unset] [])) _
        refine XS.iconst X8.here hx rfl (hb hby at_121) ?_
        show Steps p.tables e below (T8.setTop (mkF m 122 #[.val (.int pi0), .val (.int pi1), .val (.int (0 : Int32)), .val (.int (0 : Int32)), .val (.ref c0), .val (.int (1 : Int32)), .val (.int (0 : Int32)), .val (.int (0 : Int32)), .val (.int (1 : Int32)), .val (.int (0 : Int32)), .unset] [(.int (0 : Int32))])) _
        refine XS.istore X8.here hx rfl (hb hby at_122) rfl (l' := #[.val (.int pi0), .val (.int pi1), .val (.int (0 : Int32)), .val (.int (0 : Int32)), .val (.ref c0), .val (.int (1 : Int32)), .val (.int (0 : Int32)), .val (.int (0 : Int32)), .val (.int (1 : Int32)), .val (.int (0 : Int32)), .val (.int (0 : Int32))]) rfl ?_
        show Steps p.tables e below (T8.setTop (mkF m 124 #[.val (.int pi0), .val (.int pi1), .val (.int (0 : Int32)), .val (.int (0 : Int32)), .val (.ref c0), .val (.int (1 : Int32)), .val (.int (0 : Int32)), .val (.int (0 : Int32)), .val (.int (1 : Int32)), .val (.int (0 : Int32)), .val (.int (0 : Int32))] [])) _
        refine XS.iload X8.here hx rfl (hb hby at_124) rfl ?_
        show Steps p.tables e below (T8.setTop (mkF m 126 #[.val (.int pi0), .val (.int pi1), .val (.int (0 : Int32)), .val (.int (0 : Int32)), .val (.ref c0), .val (.int (1 : Int32)), .val (.int (0 : Int32)), .val (.int (0 : Int32)), .val (.int (1 : Int32)), .val (.int (0 : Int32)), .val (.int (0 : Int32))] [(.int (1 : Int32))])) _
        refine XS.iload X8.here hx rfl (hb hby at_126) rfl ?_
        show Steps p.tables e below (T8.setTop (mkF m 128 #[.val (.int pi0), .val (.int pi1), .val (.int (0 : Int32)), .val (.int (0 : Int32)), .val (.ref c0), .val (.int (1 : Int32)), .val (.int (0 : Int32)), .val (.int (0 : Int32)), .val (.int (1 : Int32)), .val (.int (0 : Int32)), .val (.int (0 : Int32))] [(.int (1 : Int32)), (.int (1 : Int32))])) _
        refine XS.icmpNo X8.here hx rfl (hb hby at_128) rfl (teq (by decide : (1 : Int32) = (1 : Int32))).2 ?_
        show Steps p.tables e below (T8.setTop (mkF m 131 #[.val (.int pi0), .val (.int pi1), .val (.int (0 : Int32)), .val (.int (0 : Int32)), .val (.ref c0), .val (.int (1 : Int32)), .val (.int (0 : Int32)), .val (.int (0 : Int32)), .val (.int (1 : Int32)), .val (.int (0 : Int32)), .val (.int (0 : Int32))] [])) _
        refine XS.iload X8.here hx rfl (hb hby at_131) rfl ?_
        show Steps p.tables e below (T8.setTop (mkF m 133 #[.val (.int pi0), .val (.int pi1), .val (.int (0 : Int32)), .val (.int (0 : Int32)), .val (.ref c0), .val (.int (1 : Int32)), .val (.int (0 : Int32)), .val (.int (0 : Int32)), .val (.int (1 : Int32)), .val (.int (0 : Int32)), .val (.int (0 : Int32))] [(.int (0 : Int32))])) _
        refine XS.iload X8.here hx rfl (hb hby at_133) rfl ?_
        show Steps p.tables e below (T8.setTop (mkF m 135 #[.val (.int pi0), .val (.int pi1), .val (.int (0 : Int32)), .val (.int (0 : Int32)), .val (.ref c0), .val (.int (1 : Int32)), .val (.int (0 : Int32)), .val (.int (0 : Int32)), .val (.int (1 : Int32)), .val (.int (0 : Int32)), .val (.int (0 : Int32))] [(.int (0 : Int32)), (.int (0 : Int32))])) _
        refine XS.icmpNo X8.here hx rfl (hb hby at_135) rfl (teq (by decide : (0 : Int32) = (0 : Int32))).2 ?_
        show Steps p.tables e below (T8.setTop (mkF m 138 #[.val (.int pi0), .val (.int pi1), .val (.int (0 : Int32)), .val (.int (0 : Int32)), .val (.ref c0), .val (.int (1 : Int32)), .val (.int (0 : Int32)), .val (.int (0 : Int32)), .val (.int (1 : Int32)), .val (.int (0 : Int32)), .val (.int (0 : Int32))] [])) _
        refine XS.iload X8.here hx rfl (hb hby at_138) rfl ?_
        show Steps p.tables e below (T8.setTop (mkF m 140 #[.val (.int pi0), .val (.int pi1), .val (.int (0 : Int32)), .val (.int (0 : Int32)), .val (.ref c0), .val (.int (1 : Int32)), .val (.int (0 : Int32)), .val (.int (0 : Int32)), .val (.int (1 : Int32)), .val (.int (0 : Int32)), .val (.int (0 : Int32))] [(.int (0 : Int32))])) _
        refine XS.iload X8.here hx rfl (hb hby at_140) rfl ?_
        show Steps p.tables e below (T8.setTop (mkF m 142 #[.val (.int pi0), .val (.int pi1), .val (.int (0 : Int32)), .val (.int (0 : Int32)), .val (.ref c0), .val (.int (1 : Int32)), .val (.int (0 : Int32)), .val (.int (0 : Int32)), .val (.int (1 : Int32)), .val (.int (0 : Int32)), .val (.int (0 : Int32))] [(.int (0 : Int32)), (.int (0 : Int32))])) _
        refine XS.icmpNo X8.here hx rfl (hb hby at_142) rfl (teq (by decide : (0 : Int32) = (0 : Int32))).2 ?_
        show Steps p.tables e below (T8.setTop (mkF m 145 #[.val (.int pi0), .val (.int pi1), .val (.int (0 : Int32)), .val (.int (0 : Int32)), .val (.ref c0), .val (.int (1 : Int32)), .val (.int (0 : Int32)), .val (.int (0 : Int32)), .val (.int (1 : Int32)), .val (.int (0 : Int32)), .val (.int (0 : Int32))] [])) _
        refine XS.iconst X8.here hx rfl (hb hby at_145) ?_
        show Steps p.tables e below (T8.setTop (mkF m 146 #[.val (.int pi0), .val (.int pi1), .val (.int (0 : Int32)), .val (.int (0 : Int32)), .val (.ref c0), .val (.int (1 : Int32)), .val (.int (0 : Int32)), .val (.int (0 : Int32)), .val (.int (1 : Int32)), .val (.int (0 : Int32)), .val (.int (0 : Int32))] [(.int (1 : Int32))])) _
        refine XS.goto X8.here hx rfl (pc0 := 146) (pc' := 150) rfl (hb hby at_146) (by decide) (by decide) ?_
        show Steps p.tables e below (T8.setTop (mkF m 150 #[.val (.int pi0), .val (.int pi1), .val (.int (0 : Int32)), .val (.int (0 : Int32)), .val (.ref c0), .val (.int (1 : Int32)), .val (.int (0 : Int32)), .val (.int (0 : Int32)), .val (.int (1 : Int32)), .val (.int (0 : Int32)), .val (.int (0 : Int32))] [(.int (1 : Int32))])) _
        exact kt
      obtain ⟨fs, hr, hrun, hended, hW, hsame⟩ := X8.leave (v := some (.int (1 : Int32))) (fun h => by rw [Bd.returns] at h; cases h)
      refine ⟨_, _, go9 _ ?_, hrun, hended, _, _, rfl, ?_, ⟨_, rfl⟩, hW, hsame.mono (by decide) (by decide)⟩
      · exact retN X8 hx (t := .boolean) Bd.returns (by simp) (hb hby at_150) hr
      · show Q_own_law Z pi0 pi1 c0 c1 c2 h0 n0 _ T8.heap _
        rw [e8]
        exact ⟨rfl, N5⟩
    · skip
      obtain ⟨_, _, ⟨T10, L10, k10, n10⟩, -, X10, ⟨Lc10, hQ10, l10, y10, z10⟩, st10⟩ := Jvm.LawKit.callS X0 hx (y := (⟨"com/example/corsia/corsia/engine/RecordResult$Outcome", "of", "(ZZ)Lcom/example/corsia/corsia/engine/RecordResult$Outcome;"⟩ : MethodName)) hown (mvT hZ (hw _ (List.mem_of_getElem? (i := 0) rfl))) (mvT hZ (hw _ (List.mem_of_getElem? (i := 1) rfl))) (mvT hZ (hw _ (List.mem_of_getElem? (i := 2) rfl))) (mvT hZ (hw _ (List.mem_of_getElem? (i := 3) rfl))) (by decide) (backOf (W := 0) (own_of_CLEAN l Z a0 hw [] (1 : Int32) c0 h0 n0 Z0 P0) hZ (hw _ (List.mem_of_getElem? (i := 3) rfl)) (hw _ (List.mem_of_getElem? (i := 2) rfl)) (by decide) (by decide)) (g := (mkF m 26 #[.val (.int pi0), .val (.int pi1), .val (.int (0 : Int32)), .val (.int (1 : Int32)), .unset, .unset, .unset, .unset, .unset, .unset, .unset] [(.int (1 : Int32)), (.int (0 : Int32))])) rfl (by rw [hml]; rfl) (argsL := [(.int (0 : Int32)), (.int (1 : Int32))]) (rest := []) (lenOf pd_3 rfl) rfl (by show 2 * 0 + _ ≤ _; exact Nat.le_of_eq rfl) (hb hby at_26) (fun _ _ => ⟨rfl, e0, (by decide : 0 + 0 ≤ _), (by decide : 0 + 0 ≤ _)⟩)
      dsimp only [Pt.U, Pt.locs, Pt.cells, Pt.slots] at X10 l10 y10 z10 st10 hQ10
      subst l10 y10 z10
      obtain ⟨rfl, Nq10, e10⟩ := hQ10
      have N10 := Fr.app N0 Nq10
      obtain ⟨T11, X11, e11, st11⟩ := getS2 X10 hx hZ hown (host := "") (Or.inl (hw _ (List.mem_of_getElem? (i := 6) rfl))) Via.refl e10 P0 (g := (mkF m 40 #[.val (.int pi0), .val (.int pi1), .val (.int (0 : Int32)), .val (.int (1 : Int32)), .val (.ref c0), .unset, .unset, .unset, .unset, .unset, .unset] [(.ref c0)])) rfl (hb hby at_40)
      obtain ⟨T12, X12, e12, st12⟩ := getS2 X11 hx hZ hown (host := "") (Or.inl (hw _ (List.mem_of_getElem? (i := 7) rfl))) Via.refl e11 P2 (g := (mkF m 55 #[.val (.int pi0), .val (.int pi1), .val (.int (0 : Int32)), .val (.int (1 : Int32)), .val (.ref c0), .val (.int (1 : Int32)), .unset, .unset, .unset, .unset, .unset] [(.ref c0)])) rfl (hb hby at_55)
      obtain ⟨T13, X13, e13, st13⟩ := getS2 X12 hx hZ hown (host := "") (Or.inl (hw _ (List.mem_of_getElem? (i := 9) rfl))) Via.refl e12 P4 (g := (mkF m 70 #[.val (.int pi0), .val (.int pi1), .val (.int (0 : Int32)), .val (.int (1 : Int32)), .val (.ref c0), .val (.int (1 : Int32)), .val (.int (0 : Int32)), .unset, .unset, .unset, .unset] [(.ref c0)])) rfl (hb hby at_70)
      have go14 : ∀ t, Steps p.tables e below (T13.setTop (mkF m 150 #[.val (.int pi0), .val (.int pi1), .val (.int (0 : Int32)), .val (.int (1 : Int32)), .val (.ref c0), .val (.int (1 : Int32)), .val (.int (0 : Int32)), .val (.int (0 : Int32)), .val (.int (1 : Int32)), .val (.int (0 : Int32)), .val (.int (0 : Int32))] [(.int (1 : Int32))])) t → Steps p.tables e below st0 t := by
        intro t kt
        refine go3 t ?_
        refine XS.ifNo X0.here hx rfl (hb hby at_15) rfl ((if0 _ _).trans (feq hc4).1) ?_
        show Steps p.tables e below (s₁.setTop (mkF m 18 #[.val (.int pi0), .val (.int pi1), .val (.int (0 : Int32)), .unset, .unset, .unset, .unset, .unset, .unset, .unset, .unset] [])) _
        refine XS.iconst X0.here hx rfl (hb hby at_18) ?_
        show Steps p.tables e below (s₁.setTop (mkF m 19 #[.val (.int pi0), .val (.int pi1), .val (.int (0 : Int32)), .unset, .unset, .unset, .unset, .unset, .unset, .unset, .unset] [(.int (1 : Int32))])) _
        refine XS.goto X0.here hx rfl (pc0 := 19) (pc' := 23) rfl (hb hby at_19) (by decide) (by decide) ?_
        show Steps p.tables e below (s₁.setTop (mkF m 23 #[.val (.int pi0), .val (.int pi1), .val (.int (0 : Int32)), .unset, .unset, .unset, .unset, .unset, .unset, .unset, .unset] [(.int (1 : Int32))])) _
        refine XS.istoreN X0.here hx rfl (hb hby at_23) rfl (l' := #[.val (.int pi0), .val (.int pi1), .val (.int (0 : Int32)), .val (.int (1 : Int32)), .unset, .unset, .unset, .unset, .unset, .unset, .unset]) rfl ?_
        show Steps p.tables e below (s₁.setTop (mkF m 24 #[.val (.int pi0), .val (.int pi1), .val (.int (0 : Int32)), .val (.int (1 : Int32)), .unset, .unset, .unset, .unset, .unset, .unset, .unset] [])) _
        refine XS.iloadN X0.here hx rfl (hb hby at_24) rfl ?_
        show Steps p.tables e below (s₁.setTop (mkF m 25 #[.val (.int pi0), .val (.int pi1), .val (.int (0 : Int32)), .val (.int (1 : Int32)), .unset, .unset, .unset, .unset, .unset, .unset, .unset] [(.int (0 : Int32))])) _
        refine XS.iloadN X0.here hx rfl (hb hby at_25) rfl ?_
        show Steps p.tables e below (s₁.setTop (mkF m 26 #[.val (.int pi0), .val (.int pi1), .val (.int (0 : Int32)), .val (.int (1 : Int32)), .unset, .unset, .unset, .unset, .unset, .unset, .unset] [(.int (1 : Int32)), (.int (0 : Int32))])) _
        refine st10 _ ?_
        show Steps p.tables e below (T10.setTop (mkF m 29 #[.val (.int pi0), .val (.int pi1), .val (.int (0 : Int32)), .val (.int (1 : Int32)), .unset, .unset, .unset, .unset, .unset, .unset, .unset] [(.ref c0)])) _
        refine XS.astore X10.here hx rfl (hb hby at_29) rfl rfl (l' := #[.val (.int pi0), .val (.int pi1), .val (.int (0 : Int32)), .val (.int (1 : Int32)), .val (.ref c0), .unset, .unset, .unset, .unset, .unset, .unset]) rfl ?_
        show Steps p.tables e below (T10.setTop (mkF m 31 #[.val (.int pi0), .val (.int pi1), .val (.int (0 : Int32)), .val (.int (1 : Int32)), .val (.ref c0), .unset, .unset, .unset, .unset, .unset, .unset] [])) _
        refine XS.aload X10.here hx rfl (hb hby at_31) rfl rfl ?_
        show Steps p.tables e below (T10.setTop (mkF m 33 #[.val (.int pi0), .val (.int pi1), .val (.int (0 : Int32)), .val (.int (1 : Int32)), .val (.ref c0), .unset, .unset, .unset, .unset, .unset, .unset] [(.ref c0)])) _
        refine XS.ifnonnullYes X10.here hx rfl (pc0 := 33) (pc' := 38) rfl (hb hby at_33) rfl (by decide) (by decide) ?_
        show Steps p.tables e below (T10.setTop (mkF m 38 #[.val (.int pi0), .val (.int pi1), .val (.int (0 : Int32)), .val (.int (1 : Int32)), .val (.ref c0), .unset, .unset, .unset, .unset, .unset, .unset] [])) _
        refine XS.aload X10.here hx rfl (hb hby at_38) rfl rfl ?_
        show Steps p.tables e below (T10.setTop (mkF m 40 #[.val (.int pi0), .val (.int pi1), .val (.int (0 : Int32)), .val (.int (1 : Int32)), .val (.ref c0), .unset, .unset, .unset, .unset, .unset, .unset] [(.ref c0)])) _
        refine st11 _ ?_
        show Steps p.tables e below (T11.setTop (mkF m 43 #[.val (.int pi0), .val (.int pi1), .val (.int (0 : Int32)), .val (.int (1 : Int32)), .val (.ref c0), .unset, .unset, .unset, .unset, .unset, .unset] [(.ref c0), (.ref c0)])) _
        refine Jvm.RoadKit.acmp (g := (mkF m 43 #[.val (.int pi0), .val (.int pi1), .val (.int (0 : Int32)), .val (.int (1 : Int32)), .val (.ref c0), .unset, .unset, .unset, .unset, .unset, .unset] [(.ref c0), (.ref c0)])) X11 hx rfl rfl rfl (pc0 := 43) (pc' := 46) (same := true) rfl (hb hby at_43) rfl (decide_eq_true rfl) (by decide) (by decide) ?_
        show Steps p.tables e below (T11.setTop (mkF m 46 #[.val (.int pi0), .val (.int pi1), .val (.int (0 : Int32)), .val (.int (1 : Int32)), .val (.ref c0), .unset, .unset, .unset, .unset, .unset, .unset] [])) _
        refine XS.iconst X11.here hx rfl (hb hby at_46) ?_
        show Steps p.tables e below (T11.setTop (mkF m 47 #[.val (.int pi0), .val (.int pi1), .val (.int (0 : Int32)), .val (.int (1 : Int32)), .val (.ref c0), .unset, .unset, .unset, .unset, .unset, .unset] [(.int (1 : Int32))])) _
        refine XS.goto X11.here hx rfl (pc0 := 47) (pc' := 51) rfl (hb hby at_47) (by decide) (by decide) ?_
        show Steps p.tables e below (T11.setTop (mkF m 51 #[.val (.int pi0), .val (.int pi1), .val (.int (0 : Int32)), .val (.int (1 : Int32)), .val (.ref c0), .unset, .unset, .unset, .unset, .unset, .unset] [(.int (1 : Int32))])) _
        refine XS.istore X11.here hx rfl (hb hby at_51) rfl (l' := #[.val (.int pi0), .val (.int pi1), .val (.int (0 : Int32)), .val (.int (1 : Int32)), .val (.ref c0), .val (.int (1 : Int32)), .unset, .unset, .unset, .unset, .unset]) rfl ?_
        show Steps p.tables e below (T11.setTop (mkF m 53 #[.val (.int pi0), .val (.int pi1), .val (.int (0 : Int32)), .val (.int (1 : Int32)), .val (.ref c0), .val (.int (1 : Int32)), .unset, .unset, .unset, .unset, .unset] [])) _
        refine XS.aload X11.here hx rfl (hb hby at_53) rfl rfl ?_
        show Steps p.tables e below (T11.setTop (mkF m 55 #[.val (.int pi0), .val (.int pi1), .val (.int (0 : Int32)), .val (.int (1 : Int32)), .val (.ref c0), .val (.int (1 : Int32)), .unset, .unset, .unset, .unset, .unset] [(.ref c0)])) _
        refine st12 _ ?_
        show Steps p.tables e below (T12.setTop (mkF m 58 #[.val (.int pi0), .val (.int pi1), .val (.int (0 : Int32)), .val (.int (1 : Int32)), .val (.ref c0), .val (.int (1 : Int32)), .unset, .unset, .unset, .unset, .unset] [(.ref c1), (.ref c0)])) _
        refine Jvm.RoadKit.acmp (g := (mkF m 58 #[.val (.int pi0), .val (.int pi1), .val (.int (0 : Int32)), .val (.int (1 : Int32)), .val (.ref c0), .val (.int (1 : Int32)), .unset, .unset, .unset, .unset, .unset] [(.ref c1), (.ref c0)])) X12 hx rfl rfl rfl (pc0 := 58) (pc' := 65) (same := false) rfl (hb hby at_58) rfl (decide_eq_false fun q => P6 (Value.ref.inj q)) (by decide) (by decide) ?_
        show Steps p.tables e below (T12.setTop (mkF m 65 #[.val (.int pi0), .val (.int pi1), .val (.int (0 : Int32)), .val (.int (1 : Int32)), .val (.ref c0), .val (.int (1 : Int32)), .unset, .unset, .unset, .unset, .unset] [])) _
        refine XS.iconst X12.here hx rfl (hb hby at_65) ?_
        show Steps p.tables e below (T12.setTop (mkF m 66 #[.val (.int pi0), .val (.int pi1), .val (.int (0 : Int32)), .val (.int (1 : Int32)), .val (.ref c0), .val (.int (1 : Int32)), .unset, .unset, .unset, .unset, .unset] [(.int (0 : Int32))])) _
        refine XS.istore X12.here hx rfl (hb hby at_66) rfl (l' := #[.val (.int pi0), .val (.int pi1), .val (.int (0 : Int32)), .val (.int (1 : Int32)), .val (.ref c0), .val (.int (1 : Int32)), .val (.int (0 : Int32)), .unset, .unset, .unset, .unset]) rfl ?_
        show Steps p.tables e below (T12.setTop (mkF m 68 #[.val (.int pi0), .val (.int pi1), .val (.int (0 : Int32)), .val (.int (1 : Int32)), .val (.ref c0), .val (.int (1 : Int32)), .val (.int (0 : Int32)), .unset, .unset, .unset, .unset] [])) _
        refine XS.aload X12.here hx rfl (hb hby at_68) rfl rfl ?_
        show Steps p.tables e below (T12.setTop (mkF m 70 #[.val (.int pi0), .val (.int pi1), .val (.int (0 : Int32)), .val (.int (1 : Int32)), .val (.ref c0), .val (.int (1 : Int32)), .val (.int (0 : Int32)), .unset, .unset, .unset, .unset] [(.ref c0)])) _
        refine st13 _ ?_
        show Steps p.tables e below (T13.setTop (mkF m 73 #[.val (.int pi0), .val (.int pi1), .val (.int (0 : Int32)), .val (.int (1 : Int32)), .val (.ref c0), .val (.int (1 : Int32)), .val (.int (0 : Int32)), .unset, .unset, .unset, .unset] [(.ref c2), (.ref c0)])) _
        refine Jvm.RoadKit.acmp (g := (mkF m 73 #[.val (.int pi0), .val (.int pi1), .val (.int (0 : Int32)), .val (.int (1 : Int32)), .val (.ref c0), .val (.int (1 : Int32)), .val (.int (0 : Int32)), .unset, .unset, .unset, .unset] [(.ref c2), (.ref c0)])) X13 hx rfl rfl rfl (pc0 := 73) (pc' := 80) (same := false) rfl (hb hby at_73) rfl (decide_eq_false fun q => P7 (Value.ref.inj q)) (by decide) (by decide) ?_
        show Steps p.tables e below (T13.setTop (mkF m 80 #[.val (.int pi0), .val (.int pi1), .val (.int (0 : Int32)), .val (.int (1 : Int32)), .val (.ref c0), .val (.int (1 : Int32)), .val (.int (0 : Int32)), .unset, .unset, .unset, .unset] [])) _
        refine XS.iconst X13.here hx rfl (hb hby at_80) ?_
        show Steps p.tables e below (T13.setTop (mkF m 81 #[.val (.int pi0), .val (.int pi1), .val (.int (0 : Int32)), .val (.int (1 : Int32)), .val (.ref c0), .val (.int (1 : Int32)), .val (.int (0 : Int32)), .unset, .unset, .unset, .unset] [(.int (0 : Int32))])) _
        refine XS.istore X13.here hx rfl (hb hby at_81) rfl (l' := #[.val (.int pi0), .val (.int pi1), .val (.int (0 : Int32)), .val (.int (1 : Int32)), .val (.ref c0), .val (.int (1 : Int32)), .val (.int (0 : Int32)), .val (.int (0 : Int32)), .unset, .unset, .unset]) rfl ?_
        show Steps p.tables e below (T13.setTop (mkF m 83 #[.val (.int pi0), .val (.int pi1), .val (.int (0 : Int32)), .val (.int (1 : Int32)), .val (.ref c0), .val (.int (1 : Int32)), .val (.int (0 : Int32)), .val (.int (0 : Int32)), .unset, .unset, .unset] [])) _
        refine XS.iloadN X13.here hx rfl (hb hby at_83) rfl ?_
        show Steps p.tables e below (T13.setTop (mkF m 84 #[.val (.int pi0), .val (.int pi1), .val (.int (0 : Int32)), .val (.int (1 : Int32)), .val (.ref c0), .val (.int (1 : Int32)), .val (.int (0 : Int32)), .val (.int (0 : Int32)), .unset, .unset, .unset] [(.int (0 : Int32))])) _
        refine XS.ifNo X13.here hx rfl (hb hby at_84) rfl ((if0 _ _).trans (teq (by decide : (0 : Int32) = (0 : Int32))).2) ?_
        show Steps p.tables e below (T13.setTop (mkF m 87 #[.val (.int pi0), .val (.int pi1), .val (.int (0 : Int32)), .val (.int (1 : Int32)), .val (.ref c0), .val (.int (1 : Int32)), .val (.int (0 : Int32)), .val (.int (0 : Int32)), .unset, .unset, .unset] [])) _
        refine XS.iconst X13.here hx rfl (hb hby at_87) ?_
        show Steps p.tables e below (T13.setTop (mkF m 88 #[.val (.int pi0), .val (.int pi1), .val (.int (0 : Int32)), .val (.int (1 : Int32)), .val (.ref c0), .val (.int (1 : Int32)), .val (.int (0 : Int32)), .val (.int (0 : Int32)), .unset, .unset, .unset] [(.int (1 : Int32))])) _
        refine XS.goto X13.here hx rfl (pc0 := 88) (pc' := 92) rfl (hb hby at_88) (by decide) (by decide) ?_
        show Steps p.tables e below (T13.setTop (mkF m 92 #[.val (.int pi0), .val (.int pi1), .val (.int (0 : Int32)), .val (.int (1 : Int32)), .val (.ref c0), .val (.int (1 : Int32)), .val (.int (0 : Int32)), .val (.int (0 : Int32)), .unset, .unset, .unset] [(.int (1 : Int32))])) _
        refine XS.istore X13.here hx rfl (hb hby at_92) rfl (l' := #[.val (.int pi0), .val (.int pi1), .val (.int (0 : Int32)), .val (.int (1 : Int32)), .val (.ref c0), .val (.int (1 : Int32)), .val (.int (0 : Int32)), .val (.int (0 : Int32)), .val (.int (1 : Int32)), .unset, .unset]) rfl ?_
        show Steps p.tables e below (T13.setTop (mkF m 94 #[.val (.int pi0), .val (.int pi1), .val (.int (0 : Int32)), .val (.int (1 : Int32)), .val (.ref c0), .val (.int (1 : Int32)), .val (.int (0 : Int32)), .val (.int (0 : Int32)), .val (.int (1 : Int32)), .unset, .unset] [])) _
        refine XS.iloadN X13.here hx rfl (hb hby at_94) rfl ?_
        show Steps p.tables e below (T13.setTop (mkF m 95 #[.val (.int pi0), .val (.int pi1), .val (.int (0 : Int32)), .val (.int (1 : Int32)), .val (.ref c0), .val (.int (1 : Int32)), .val (.int (0 : Int32)), .val (.int (0 : Int32)), .val (.int (1 : Int32)), .unset, .unset] [(.int (0 : Int32))])) _
        refine XS.ifYes X13.here hx rfl (pc0 := 95) (pc' := 106) rfl (hb hby at_95) rfl ((if0 _ _).trans (teq (by decide : (0 : Int32) = (0 : Int32))).1) (by decide) (by decide) ?_
        show Steps p.tables e below (T13.setTop (mkF m 106 #[.val (.int pi0), .val (.int pi1), .val (.int (0 : Int32)), .val (.int (1 : Int32)), .val (.ref c0), .val (.int (1 : Int32)), .val (.int (0 : Int32)), .val (.int (0 : Int32)), .val (.int (1 : Int32)), .unset, .unset] [])) _
        refine XS.iconst X13.here hx rfl (hb hby at_106) ?_
        show Steps p.tables e below (T13.setTop (mkF m 107 #[.val (.int pi0), .val (.int pi1), .val (.int (0 : Int32)), .val (.int (1 : Int32)), .val (.ref c0), .val (.int (1 : Int32)), .val (.int (0 : Int32)), .val (.int (0 : Int32)), .val (.int (1 : Int32)), .unset, .unset] [(.int (0 : Int32))])) _
        refine XS.istore X13.here hx rfl (hb hby at_107) rfl (l' := #[.val (.int pi0), .val (.int pi1), .val (.int (0 : Int32)), .val (.int (1 : Int32)), .val (.ref c0), .val (.int (1 : Int32)), .val (.int (0 : Int32)), .val (.int (0 : Int32)), .val (.int (1 : Int32)), .val (.int (0 : Int32)), .unset]) rfl ?_
        show Steps p.tables e below (T13.setTop (mkF m 109 #[.val (.int pi0), .val (.int pi1), .val (.int (0 : Int32)), .val (.int (1 : Int32)), .val (.ref c0), .val (.int (1 : Int32)), .val (.int (0 : Int32)), .val (.int (0 : Int32)), .val (.int (1 : Int32)), .val (.int (0 : Int32)), .unset] [])) _
        refine XS.iloadN X13.here hx rfl (hb hby at_109) rfl ?_
        show Steps p.tables e below (T13.setTop (mkF m 110 #[.val (.int pi0), .val (.int pi1), .val (.int (0 : Int32)), .val (.int (1 : Int32)), .val (.ref c0), .val (.int (1 : Int32)), .val (.int (0 : Int32)), .val (.int (0 : Int32)), .val (.int (1 : Int32)), .val (.int (0 : Int32)), .unset] [(.int (0 : Int32))])) _
        refine XS.ifYes X13.here hx rfl (pc0 := 110) (pc' := 121) rfl (hb hby at_110) rfl ((if0 _ _).trans (teq (by decide : (0 : Int32) = (0 : Int32))).1) (by decide) (by decide) ?_
        show Steps p.tables e below (T13.setTop (mkF m 121 #[.val (.int pi0), .val (.int pi1), .val (.int (0 : Int32)), .val (.int (1 : Int32)), .val (.ref c0), .val (.int (1 : Int32)), .val (.int (0 : Int32)), .val (.int (0 : Int32)), .val (.int (1 : Int32)), .val (.int (0 : Int32)), .unset] [])) _
        refine XS.iconst X13.here hx rfl (hb hby at_121) ?_
        show Steps p.tables e below (T13.setTop (mkF m 122 #[.val (.int pi0), .val (.int pi1), .val (.int (0 : Int32)), .val (.int (1 : Int32)), .val (.ref c0), .val (.int (1 : Int32)), .val (.int (0 : Int32)), .val (.int (0 : Int32)), .val (.int (1 : Int32)), .val (.int (0 : Int32)), .unset] [(.int (0 : Int32))])) _
        refine XS.istore X13.here hx rfl (hb hby at_122) rfl (l' := #[.val (.int pi0), .val (.int pi1), .val (.int (0 : Int32)), .val (.int (1 : Int32)), .val (.ref c0), .val (.int (1 : Int32)), .val (.int (0 : Int32)), .val (.int (0 : Int32)), .val (.int (1 : Int32)), .val (.int (0 : Int32)), .val (.int (0 : Int32))]) rfl ?_
        show Steps p.tables e below (T13.setTop (mkF m 124 #[.val (.int pi0), .val (.int pi1), .val (.int (0 : Int32)), .val (.int (1 : Int32)), .val (.ref c0), .val (.int (1 : Int32)), .val (.int (0 : Int32)), .val (.int (0 : Int32)), .val (.int (1 : Int32)), .val (.int (0 : Int32)), .val (.int (0 : Int32))] [])) _
        refine XS.iload X13.here hx rfl (hb hby at_124) rfl ?_
        show Steps p.tables e below (T13.setTop (mkF m 126 #[.val (.int pi0), .val (.int pi1), .val (.int (0 : Int32)), .val (.int (1 : Int32)), .val (.ref c0), .val (.int (1 : Int32)), .val (.int (0 : Int32)), .val (.int (0 : Int32)), .val (.int (1 : Int32)), .val (.int (0 : Int32)), .val (.int (0 : Int32))] [(.int (1 : Int32))])) _
        refine XS.iload X13.here hx rfl (hb hby at_126) rfl ?_
        show Steps p.tables e below (T13.setTop (mkF m 128 #[.val (.int pi0), .val (.int pi1), .val (.int (0 : Int32)), .val (.int (1 : Int32)), .val (.ref c0), .val (.int (1 : Int32)), .val (.int (0 : Int32)), .val (.int (0 : Int32)), .val (.int (1 : Int32)), .val (.int (0 : Int32)), .val (.int (0 : Int32))] [(.int (1 : Int32)), (.int (1 : Int32))])) _
        refine XS.icmpNo X13.here hx rfl (hb hby at_128) rfl (teq (by decide : (1 : Int32) = (1 : Int32))).2 ?_
        show Steps p.tables e below (T13.setTop (mkF m 131 #[.val (.int pi0), .val (.int pi1), .val (.int (0 : Int32)), .val (.int (1 : Int32)), .val (.ref c0), .val (.int (1 : Int32)), .val (.int (0 : Int32)), .val (.int (0 : Int32)), .val (.int (1 : Int32)), .val (.int (0 : Int32)), .val (.int (0 : Int32))] [])) _
        refine XS.iload X13.here hx rfl (hb hby at_131) rfl ?_
        show Steps p.tables e below (T13.setTop (mkF m 133 #[.val (.int pi0), .val (.int pi1), .val (.int (0 : Int32)), .val (.int (1 : Int32)), .val (.ref c0), .val (.int (1 : Int32)), .val (.int (0 : Int32)), .val (.int (0 : Int32)), .val (.int (1 : Int32)), .val (.int (0 : Int32)), .val (.int (0 : Int32))] [(.int (0 : Int32))])) _
        refine XS.iload X13.here hx rfl (hb hby at_133) rfl ?_
        show Steps p.tables e below (T13.setTop (mkF m 135 #[.val (.int pi0), .val (.int pi1), .val (.int (0 : Int32)), .val (.int (1 : Int32)), .val (.ref c0), .val (.int (1 : Int32)), .val (.int (0 : Int32)), .val (.int (0 : Int32)), .val (.int (1 : Int32)), .val (.int (0 : Int32)), .val (.int (0 : Int32))] [(.int (0 : Int32)), (.int (0 : Int32))])) _
        refine XS.icmpNo X13.here hx rfl (hb hby at_135) rfl (teq (by decide : (0 : Int32) = (0 : Int32))).2 ?_
        show Steps p.tables e below (T13.setTop (mkF m 138 #[.val (.int pi0), .val (.int pi1), .val (.int (0 : Int32)), .val (.int (1 : Int32)), .val (.ref c0), .val (.int (1 : Int32)), .val (.int (0 : Int32)), .val (.int (0 : Int32)), .val (.int (1 : Int32)), .val (.int (0 : Int32)), .val (.int (0 : Int32))] [])) _
        refine XS.iload X13.here hx rfl (hb hby at_138) rfl ?_
        show Steps p.tables e below (T13.setTop (mkF m 140 #[.val (.int pi0), .val (.int pi1), .val (.int (0 : Int32)), .val (.int (1 : Int32)), .val (.ref c0), .val (.int (1 : Int32)), .val (.int (0 : Int32)), .val (.int (0 : Int32)), .val (.int (1 : Int32)), .val (.int (0 : Int32)), .val (.int (0 : Int32))] [(.int (0 : Int32))])) _
        refine XS.iload X13.here hx rfl (hb hby at_140) rfl ?_
        show Steps p.tables e below (T13.setTop (mkF m 142 #[.val (.int pi0), .val (.int pi1), .val (.int (0 : Int32)), .val (.int (1 : Int32)), .val (.ref c0), .val (.int (1 : Int32)), .val (.int (0 : Int32)), .val (.int (0 : Int32)), .val (.int (1 : Int32)), .val (.int (0 : Int32)), .val (.int (0 : Int32))] [(.int (0 : Int32)), (.int (0 : Int32))])) _
        refine XS.icmpNo X13.here hx rfl (hb hby at_142) rfl (teq (by decide : (0 : Int32) = (0 : Int32))).2 ?_
        show Steps p.tables e below (T13.setTop (mkF m 145 #[.val (.int pi0), .val (.int pi1), .val (.int (0 : Int32)), .val (.int (1 : Int32)), .val (.ref c0), .val (.int (1 : Int32)), .val (.int (0 : Int32)), .val (.int (0 : Int32)), .val (.int (1 : Int32)), .val (.int (0 : Int32)), .val (.int (0 : Int32))] [])) _
        refine XS.iconst X13.here hx rfl (hb hby at_145) ?_
        show Steps p.tables e below (T13.setTop (mkF m 146 #[.val (.int pi0), .val (.int pi1), .val (.int (0 : Int32)), .val (.int (1 : Int32)), .val (.ref c0), .val (.int (1 : Int32)), .val (.int (0 : Int32)), .val (.int (0 : Int32)), .val (.int (1 : Int32)), .val (.int (0 : Int32)), .val (.int (0 : Int32))] [(.int (1 : Int32))])) _
        refine XS.goto X13.here hx rfl (pc0 := 146) (pc' := 150) rfl (hb hby at_146) (by decide) (by decide) ?_
        show Steps p.tables e below (T13.setTop (mkF m 150 #[.val (.int pi0), .val (.int pi1), .val (.int (0 : Int32)), .val (.int (1 : Int32)), .val (.ref c0), .val (.int (1 : Int32)), .val (.int (0 : Int32)), .val (.int (0 : Int32)), .val (.int (1 : Int32)), .val (.int (0 : Int32)), .val (.int (0 : Int32))] [(.int (1 : Int32))])) _
        exact kt
      obtain ⟨fs, hr, hrun, hended, hW, hsame⟩ := X13.leave (v := some (.int (1 : Int32))) (fun h => by rw [Bd.returns] at h; cases h)
      refine ⟨_, _, go14 _ ?_, hrun, hended, _, _, rfl, ?_, ⟨_, rfl⟩, hW, hsame.mono (by decide) (by decide)⟩
      · exact retN X13 hx (t := .boolean) Bd.returns (by simp) (hb hby at_150) hr
      · show Q_own_law Z pi0 pi1 c0 c1 c2 h0 n0 _ T13.heap _
        rw [e13]
        exact ⟨rfl, N10⟩
  · skip
    have go15 : ∀ t, Steps p.tables e below (s₁.setTop (mkF m 15 #[.val (.int pi0), .val (.int pi1), .val (.int (1 : Int32)), .unset, .unset, .unset, .unset, .unset, .unset, .unset, .unset] [(.int (pi1 &&& (1 : Int32)))])) t → Steps p.tables e below st0 t := by
      intro t kt
      refine go1 t ?_
      refine XS.ifNo X0.here hx rfl (hb hby at_3) rfl ((if0 _ _).trans (feq hc2).1) ?_
      show Steps p.tables e below (s₁.setTop (mkF m 6 #[.val (.int pi0), .val (.int pi1), .unset, .unset, .unset, .unset, .unset, .unset, .unset, .unset, .unset] [])) _
      refine XS.iconst X0.here hx rfl (hb hby at_6) ?_
      show Steps p.tables e below (s₁.setTop (mkF m 7 #[.val (.int pi0), .val (.int pi1), .unset, .unset, .unset, .unset, .unset, .unset, .unset, .unset, .unset] [(.int (1 : Int32))])) _
      refine XS.goto X0.here hx rfl (pc0 := 7) (pc' := 11) rfl (hb hby at_7) (by decide) (by decide) ?_
      show Steps p.tables e below (s₁.setTop (mkF m 11 #[.val (.int pi0), .val (.int pi1), .unset, .unset, .unset, .unset, .unset, .unset, .unset, .unset, .unset] [(.int (1 : Int32))])) _
      refine XS.istoreN X0.here hx rfl (hb hby at_11) rfl (l' := #[.val (.int pi0), .val (.int pi1), .val (.int (1 : Int32)), .unset, .unset, .unset, .unset, .unset, .unset, .unset, .unset]) rfl ?_
      show Steps p.tables e below (s₁.setTop (mkF m 12 #[.val (.int pi0), .val (.int pi1), .val (.int (1 : Int32)), .unset, .unset, .unset, .unset, .unset, .unset, .unset, .unset] [])) _
      refine XS.iloadN X0.here hx rfl (hb hby at_12) rfl ?_
      show Steps p.tables e below (s₁.setTop (mkF m 13 #[.val (.int pi0), .val (.int pi1), .val (.int (1 : Int32)), .unset, .unset, .unset, .unset, .unset, .unset, .unset, .unset] [(.int pi1)])) _
      refine XS.iconst X0.here hx rfl (hb hby at_13) ?_
      show Steps p.tables e below (s₁.setTop (mkF m 14 #[.val (.int pi0), .val (.int pi1), .val (.int (1 : Int32)), .unset, .unset, .unset, .unset, .unset, .unset, .unset, .unset] [(.int (1 : Int32)), (.int pi1)])) _
      refine XS.iand X0.here hx rfl (hb hby at_14) rfl ?_
      show Steps p.tables e below (s₁.setTop (mkF m 15 #[.val (.int pi0), .val (.int pi1), .val (.int (1 : Int32)), .unset, .unset, .unset, .unset, .unset, .unset, .unset, .unset] [(.int (pi1 &&& (1 : Int32)))])) _
      exact kt
    by_cases hc16 : (pi1 &&& (1 : Int32)) = (0 : Int32)
    · skip
      obtain ⟨_, _, ⟨T17, L17, k17, n17⟩, -, X17, ⟨Lc17, hQ17, l17, y17, z17⟩, st17⟩ := Jvm.LawKit.callS X0 hx (y := (⟨"com/example/corsia/corsia/engine/RecordResult$Outcome", "of", "(ZZ)Lcom/example/corsia/corsia/engine/RecordResult$Outcome;"⟩ : MethodName)) hown (mvT hZ (hw _ (List.mem_of_getElem? (i := 0) rfl))) (mvT hZ (hw _ (List.mem_of_getElem? (i := 1) rfl))) (mvT hZ (hw _ (List.mem_of_getElem? (i := 2) rfl))) (mvT hZ (hw _ (List.mem_of_getElem? (i := 3) rfl))) (by decide) (backOf (W := 0) (own_of_FLAGGED l Z a0 hw [] c1 h0 n0 Z0 P2) hZ (hw _ (List.mem_of_getElem? (i := 3) rfl)) (hw _ (List.mem_of_getElem? (i := 2) rfl)) (by decide) (by decide)) (g := (mkF m 26 #[.val (.int pi0), .val (.int pi1), .val (.int (1 : Int32)), .val (.int (0 : Int32)), .unset, .unset, .unset, .unset, .unset, .unset, .unset] [(.int (0 : Int32)), (.int (1 : Int32))])) rfl (by rw [hml]; rfl) (argsL := [(.int (1 : Int32)), (.int (0 : Int32))]) (rest := []) (lenOf pd_3 rfl) rfl (by show 2 * 0 + _ ≤ _; exact Nat.le_of_eq rfl) (hb hby at_26) (fun _ _ => ⟨rfl, e0, (by decide : 0 + 0 ≤ _), (by decide : 0 + 0 ≤ _)⟩)
      dsimp only [Pt.U, Pt.locs, Pt.cells, Pt.slots] at X17 l17 y17 z17 st17 hQ17
      subst l17 y17 z17
      obtain ⟨rfl, Nq17, e17⟩ := hQ17
      have N17 := Fr.app N0 Nq17
      obtain ⟨T18, X18, e18, st18⟩ := getS2 X17 hx hZ hown (host := "") (Or.inl (hw _ (List.mem_of_getElem? (i := 6) rfl))) Via.refl e17 P0 (g := (mkF m 40 #[.val (.int pi0), .val (.int pi1), .val (.int (1 : Int32)), .val (.int (0 : Int32)), .val (.ref c1), .unset, .unset, .unset, .unset, .unset, .unset] [(.ref c1)])) rfl (hb hby at_40)
      obtain ⟨T19, X19, e19, st19⟩ := getS2 X18 hx hZ hown (host := "") (Or.inl (hw _ (List.mem_of_getElem? (i := 7) rfl))) Via.refl e18 P2 (g := (mkF m 55 #[.val (.int pi0), .val (.int pi1), .val (.int (1 : Int32)), .val (.int (0 : Int32)), .val (.ref c1), .val (.int (0 : Int32)), .unset, .unset, .unset, .unset, .unset] [(.ref c1)])) rfl (hb hby at_55)
      obtain ⟨T20, X20, e20, st20⟩ := getS2 X19 hx hZ hown (host := "") (Or.inl (hw _ (List.mem_of_getElem? (i := 9) rfl))) Via.refl e19 P4 (g := (mkF m 70 #[.val (.int pi0), .val (.int pi1), .val (.int (1 : Int32)), .val (.int (0 : Int32)), .val (.ref c1), .val (.int (0 : Int32)), .val (.int (1 : Int32)), .unset, .unset, .unset, .unset] [(.ref c1)])) rfl (hb hby at_70)
      have go21 : ∀ t, Steps p.tables e below (T20.setTop (mkF m 150 #[.val (.int pi0), .val (.int pi1), .val (.int (1 : Int32)), .val (.int (0 : Int32)), .val (.ref c1), .val (.int (0 : Int32)), .val (.int (1 : Int32)), .val (.int (0 : Int32)), .val (.int (0 : Int32)), .val (.int (0 : Int32)), .val (.int (1 : Int32))] [(.int (1 : Int32))])) t → Steps p.tables e below st0 t := by
        intro t kt
        refine go15 t ?_
        refine XS.ifYes X0.here hx rfl (pc0 := 15) (pc' := 22) rfl (hb hby at_15) rfl ((if0 _ _).trans (teq hc16).1) (by decide) (by decide) ?_
        show Steps p.tables e below (s₁.setTop (mkF m 22 #[.val (.int pi0), .val (.int pi1), .val (.int (1 : Int32)), .unset, .unset, .unset, .unset, .unset, .unset, .unset, .unset] [])) _
        refine XS.iconst X0.here hx rfl (hb hby at_22) ?_
        show Steps p.tables e below (s₁.setTop (mkF m 23 #[.val (.int pi0), .val (.int pi1), .val (.int (1 : Int32)), .unset, .unset, .unset, .unset, .unset, .unset, .unset, .unset] [(.int (0 : Int32))])) _
        refine XS.istoreN X0.here hx rfl (hb hby at_23) rfl (l' := #[.val (.int pi0), .val (.int pi1), .val (.int (1 : Int32)), .val (.int (0 : Int32)), .unset, .unset, .unset, .unset, .unset, .unset, .unset]) rfl ?_
        show Steps p.tables e below (s₁.setTop (mkF m 24 #[.val (.int pi0), .val (.int pi1), .val (.int (1 : Int32)), .val (.int (0 : Int32)), .unset, .unset, .unset, .unset, .unset, .unset, .unset] [])) _
        refine XS.iloadN X0.here hx rfl (hb hby at_24) rfl ?_
        show Steps p.tables e below (s₁.setTop (mkF m 25 #[.val (.int pi0), .val (.int pi1), .val (.int (1 : Int32)), .val (.int (0 : Int32)), .unset, .unset, .unset, .unset, .unset, .unset, .unset] [(.int (1 : Int32))])) _
        refine XS.iloadN X0.here hx rfl (hb hby at_25) rfl ?_
        show Steps p.tables e below (s₁.setTop (mkF m 26 #[.val (.int pi0), .val (.int pi1), .val (.int (1 : Int32)), .val (.int (0 : Int32)), .unset, .unset, .unset, .unset, .unset, .unset, .unset] [(.int (0 : Int32)), (.int (1 : Int32))])) _
        refine st17 _ ?_
        show Steps p.tables e below (T17.setTop (mkF m 29 #[.val (.int pi0), .val (.int pi1), .val (.int (1 : Int32)), .val (.int (0 : Int32)), .unset, .unset, .unset, .unset, .unset, .unset, .unset] [(.ref c1)])) _
        refine XS.astore X17.here hx rfl (hb hby at_29) rfl rfl (l' := #[.val (.int pi0), .val (.int pi1), .val (.int (1 : Int32)), .val (.int (0 : Int32)), .val (.ref c1), .unset, .unset, .unset, .unset, .unset, .unset]) rfl ?_
        show Steps p.tables e below (T17.setTop (mkF m 31 #[.val (.int pi0), .val (.int pi1), .val (.int (1 : Int32)), .val (.int (0 : Int32)), .val (.ref c1), .unset, .unset, .unset, .unset, .unset, .unset] [])) _
        refine XS.aload X17.here hx rfl (hb hby at_31) rfl rfl ?_
        show Steps p.tables e below (T17.setTop (mkF m 33 #[.val (.int pi0), .val (.int pi1), .val (.int (1 : Int32)), .val (.int (0 : Int32)), .val (.ref c1), .unset, .unset, .unset, .unset, .unset, .unset] [(.ref c1)])) _
        refine XS.ifnonnullYes X17.here hx rfl (pc0 := 33) (pc' := 38) rfl (hb hby at_33) rfl (by decide) (by decide) ?_
        show Steps p.tables e below (T17.setTop (mkF m 38 #[.val (.int pi0), .val (.int pi1), .val (.int (1 : Int32)), .val (.int (0 : Int32)), .val (.ref c1), .unset, .unset, .unset, .unset, .unset, .unset] [])) _
        refine XS.aload X17.here hx rfl (hb hby at_38) rfl rfl ?_
        show Steps p.tables e below (T17.setTop (mkF m 40 #[.val (.int pi0), .val (.int pi1), .val (.int (1 : Int32)), .val (.int (0 : Int32)), .val (.ref c1), .unset, .unset, .unset, .unset, .unset, .unset] [(.ref c1)])) _
        refine st18 _ ?_
        show Steps p.tables e below (T18.setTop (mkF m 43 #[.val (.int pi0), .val (.int pi1), .val (.int (1 : Int32)), .val (.int (0 : Int32)), .val (.ref c1), .unset, .unset, .unset, .unset, .unset, .unset] [(.ref c0), (.ref c1)])) _
        refine Jvm.RoadKit.acmp (g := (mkF m 43 #[.val (.int pi0), .val (.int pi1), .val (.int (1 : Int32)), .val (.int (0 : Int32)), .val (.ref c1), .unset, .unset, .unset, .unset, .unset, .unset] [(.ref c0), (.ref c1)])) X18 hx rfl rfl rfl (pc0 := 43) (pc' := 50) (same := false) rfl (hb hby at_43) rfl (decide_eq_false fun q => (Ne.symm P6) (Value.ref.inj q)) (by decide) (by decide) ?_
        show Steps p.tables e below (T18.setTop (mkF m 50 #[.val (.int pi0), .val (.int pi1), .val (.int (1 : Int32)), .val (.int (0 : Int32)), .val (.ref c1), .unset, .unset, .unset, .unset, .unset, .unset] [])) _
        refine XS.iconst X18.here hx rfl (hb hby at_50) ?_
        show Steps p.tables e below (T18.setTop (mkF m 51 #[.val (.int pi0), .val (.int pi1), .val (.int (1 : Int32)), .val (.int (0 : Int32)), .val (.ref c1), .unset, .unset, .unset, .unset, .unset, .unset] [(.int (0 : Int32))])) _
        refine XS.istore X18.here hx rfl (hb hby at_51) rfl (l' := #[.val (.int pi0), .val (.int pi1), .val (.int (1 : Int32)), .val (.int (0 : Int32)), .val (.ref c1), .val (.int (0 : Int32)), .unset, .unset, .unset, .unset, .unset]) rfl ?_
        show Steps p.tables e below (T18.setTop (mkF m 53 #[.val (.int pi0), .val (.int pi1), .val (.int (1 : Int32)), .val (.int (0 : Int32)), .val (.ref c1), .val (.int (0 : Int32)), .unset, .unset, .unset, .unset, .unset] [])) _
        refine XS.aload X18.here hx rfl (hb hby at_53) rfl rfl ?_
        show Steps p.tables e below (T18.setTop (mkF m 55 #[.val (.int pi0), .val (.int pi1), .val (.int (1 : Int32)), .val (.int (0 : Int32)), .val (.ref c1), .val (.int (0 : Int32)), .unset, .unset, .unset, .unset, .unset] [(.ref c1)])) _
        refine st19 _ ?_
        show Steps p.tables e below (T19.setTop (mkF m 58 #[.val (.int pi0), .val (.int pi1), .val (.int (1 : Int32)), .val (.int (0 : Int32)), .val (.ref c1), .val (.int (0 : Int32)), .unset, .unset, .unset, .unset, .unset] [(.ref c1), (.ref c1)])) _
        refine Jvm.RoadKit.acmp (g := (mkF m 58 #[.val (.int pi0), .val (.int pi1), .val (.int (1 : Int32)), .val (.int (0 : Int32)), .val (.ref c1), .val (.int (0 : Int32)), .unset, .unset, .unset, .unset, .unset] [(.ref c1), (.ref c1)])) X19 hx rfl rfl rfl (pc0 := 58) (pc' := 61) (same := true) rfl (hb hby at_58) rfl (decide_eq_true rfl) (by decide) (by decide) ?_
        show Steps p.tables e below (T19.setTop (mkF m 61 #[.val (.int pi0), .val (.int pi1), .val (.int (1 : Int32)), .val (.int (0 : Int32)), .val (.ref c1), .val (.int (0 : Int32)), .unset, .unset, .unset, .unset, .unset] [])) _
        refine XS.iconst X19.here hx rfl (hb hby at_61) ?_
        show Steps p.tables e below (T19.setTop (mkF m 62 #[.val (.int pi0), .val (.int pi1), .val (.int (1 : Int32)), .val (.int (0 : Int32)), .val (.ref c1), .val (.int (0 : Int32)), .unset, .unset, .unset, .unset, .unset] [(.int (1 : Int32))])) _
        refine XS.goto X19.here hx rfl (pc0 := 62) (pc' := 66) rfl (hb hby at_62) (by decide) (by decide) ?_
        show Steps p.tables e below (T19.setTop (mkF m 66 #[.val (.int pi0), .val (.int pi1), .val (.int (1 : Int32)), .val (.int (0 : Int32)), .val (.ref c1), .val (.int (0 : Int32)), .unset, .unset, .unset, .unset, .unset] [(.int (1 : Int32))])) _
        refine XS.istore X19.here hx rfl (hb hby at_66) rfl (l' := #[.val (.int pi0), .val (.int pi1), .val (.int (1 : Int32)), .val (.int (0 : Int32)), .val (.ref c1), .val (.int (0 : Int32)), .val (.int (1 : Int32)), .unset, .unset, .unset, .unset]) rfl ?_
        show Steps p.tables e below (T19.setTop (mkF m 68 #[.val (.int pi0), .val (.int pi1), .val (.int (1 : Int32)), .val (.int (0 : Int32)), .val (.ref c1), .val (.int (0 : Int32)), .val (.int (1 : Int32)), .unset, .unset, .unset, .unset] [])) _
        refine XS.aload X19.here hx rfl (hb hby at_68) rfl rfl ?_
        show Steps p.tables e below (T19.setTop (mkF m 70 #[.val (.int pi0), .val (.int pi1), .val (.int (1 : Int32)), .val (.int (0 : Int32)), .val (.ref c1), .val (.int (0 : Int32)), .val (.int (1 : Int32)), .unset, .unset, .unset, .unset] [(.ref c1)])) _
        refine st20 _ ?_
        show Steps p.tables e below (T20.setTop (mkF m 73 #[.val (.int pi0), .val (.int pi1), .val (.int (1 : Int32)), .val (.int (0 : Int32)), .val (.ref c1), .val (.int (0 : Int32)), .val (.int (1 : Int32)), .unset, .unset, .unset, .unset] [(.ref c2), (.ref c1)])) _
        refine Jvm.RoadKit.acmp (g := (mkF m 73 #[.val (.int pi0), .val (.int pi1), .val (.int (1 : Int32)), .val (.int (0 : Int32)), .val (.ref c1), .val (.int (0 : Int32)), .val (.int (1 : Int32)), .unset, .unset, .unset, .unset] [(.ref c2), (.ref c1)])) X20 hx rfl rfl rfl (pc0 := 73) (pc' := 80) (same := false) rfl (hb hby at_73) rfl (decide_eq_false fun q => P8 (Value.ref.inj q)) (by decide) (by decide) ?_
        show Steps p.tables e below (T20.setTop (mkF m 80 #[.val (.int pi0), .val (.int pi1), .val (.int (1 : Int32)), .val (.int (0 : Int32)), .val (.ref c1), .val (.int (0 : Int32)), .val (.int (1 : Int32)), .unset, .unset, .unset, .unset] [])) _
        refine XS.iconst X20.here hx rfl (hb hby at_80) ?_
        show Steps p.tables e below (T20.setTop (mkF m 81 #[.val (.int pi0), .val (.int pi1), .val (.int (1 : Int32)), .val (.int (0 : Int32)), .val (.ref c1), .val (.int (0 : Int32)), .val (.int (1 : Int32)), .unset, .unset, .unset, .unset] [(.int (0 : Int32))])) _
        refine XS.istore X20.here hx rfl (hb hby at_81) rfl (l' := #[.val (.int pi0), .val (.int pi1), .val (.int (1 : Int32)), .val (.int (0 : Int32)), .val (.ref c1), .val (.int (0 : Int32)), .val (.int (1 : Int32)), .val (.int (0 : Int32)), .unset, .unset, .unset]) rfl ?_
        show Steps p.tables e below (T20.setTop (mkF m 83 #[.val (.int pi0), .val (.int pi1), .val (.int (1 : Int32)), .val (.int (0 : Int32)), .val (.ref c1), .val (.int (0 : Int32)), .val (.int (1 : Int32)), .val (.int (0 : Int32)), .unset, .unset, .unset] [])) _
        refine XS.iloadN X20.here hx rfl (hb hby at_83) rfl ?_
        show Steps p.tables e below (T20.setTop (mkF m 84 #[.val (.int pi0), .val (.int pi1), .val (.int (1 : Int32)), .val (.int (0 : Int32)), .val (.ref c1), .val (.int (0 : Int32)), .val (.int (1 : Int32)), .val (.int (0 : Int32)), .unset, .unset, .unset] [(.int (1 : Int32))])) _
        refine XS.ifYes X20.here hx rfl (pc0 := 84) (pc' := 91) rfl (hb hby at_84) rfl ((if0 _ _).trans (feq (by decide : ¬ ((1 : Int32) = (0 : Int32)))).2) (by decide) (by decide) ?_
        show Steps p.tables e below (T20.setTop (mkF m 91 #[.val (.int pi0), .val (.int pi1), .val (.int (1 : Int32)), .val (.int (0 : Int32)), .val (.ref c1), .val (.int (0 : Int32)), .val (.int (1 : Int32)), .val (.int (0 : Int32)), .unset, .unset, .unset] [])) _
        refine XS.iconst X20.here hx rfl (hb hby at_91) ?_
        show Steps p.tables e below (T20.setTop (mkF m 92 #[.val (.int pi0), .val (.int pi1), .val (.int (1 : Int32)), .val (.int (0 : Int32)), .val (.ref c1), .val (.int (0 : Int32)), .val (.int (1 : Int32)), .val (.int (0 : Int32)), .unset, .unset, .unset] [(.int (0 : Int32))])) _
        refine XS.istore X20.here hx rfl (hb hby at_92) rfl (l' := #[.val (.int pi0), .val (.int pi1), .val (.int (1 : Int32)), .val (.int (0 : Int32)), .val (.ref c1), .val (.int (0 : Int32)), .val (.int (1 : Int32)), .val (.int (0 : Int32)), .val (.int (0 : Int32)), .unset, .unset]) rfl ?_
        show Steps p.tables e below (T20.setTop (mkF m 94 #[.val (.int pi0), .val (.int pi1), .val (.int (1 : Int32)), .val (.int (0 : Int32)), .val (.ref c1), .val (.int (0 : Int32)), .val (.int (1 : Int32)), .val (.int (0 : Int32)), .val (.int (0 : Int32)), .unset, .unset] [])) _
        refine XS.iloadN X20.here hx rfl (hb hby at_94) rfl ?_
        show Steps p.tables e below (T20.setTop (mkF m 95 #[.val (.int pi0), .val (.int pi1), .val (.int (1 : Int32)), .val (.int (0 : Int32)), .val (.ref c1), .val (.int (0 : Int32)), .val (.int (1 : Int32)), .val (.int (0 : Int32)), .val (.int (0 : Int32)), .unset, .unset] [(.int (1 : Int32))])) _
        refine XS.ifNo X20.here hx rfl (hb hby at_95) rfl ((if0 _ _).trans (feq (by decide : ¬ ((1 : Int32) = (0 : Int32)))).1) ?_
        show Steps p.tables e below (T20.setTop (mkF m 98 #[.val (.int pi0), .val (.int pi1), .val (.int (1 : Int32)), .val (.int (0 : Int32)), .val (.ref c1), .val (.int (0 : Int32)), .val (.int (1 : Int32)), .val (.int (0 : Int32)), .val (.int (0 : Int32)), .unset, .unset] [])) _
        refine XS.iloadN X20.here hx rfl (hb hby at_98) rfl ?_
        show Steps p.tables e below (T20.setTop (mkF m 99 #[.val (.int pi0), .val (.int pi1), .val (.int (1 : Int32)), .val (.int (0 : Int32)), .val (.ref c1), .val (.int (0 : Int32)), .val (.int (1 : Int32)), .val (.int (0 : Int32)), .val (.int (0 : Int32)), .unset, .unset] [(.int (0 : Int32))])) _
        refine XS.ifYes X20.here hx rfl (pc0 := 99) (pc' := 106) rfl (hb hby at_99) rfl ((if0 _ _).trans (teq (by decide : (0 : Int32) = (0 : Int32))).1) (by decide) (by decide) ?_
        show Steps p.tables e below (T20.setTop (mkF m 106 #[.val (.int pi0), .val (.int pi1), .val (.int (1 : Int32)), .val (.int (0 : Int32)), .val (.ref c1), .val (.int (0 : Int32)), .val (.int (1 : Int32)), .val (.int (0 : Int32)), .val (.int (0 : Int32)), .unset, .unset] [])) _
        refine XS.iconst X20.here hx rfl (hb hby at_106) ?_
        show Steps p.tables e below (T20.setTop (mkF m 107 #[.val (.int pi0), .val (.int pi1), .val (.int (1 : Int32)), .val (.int (0 : Int32)), .val (.ref c1), .val (.int (0 : Int32)), .val (.int (1 : Int32)), .val (.int (0 : Int32)), .val (.int (0 : Int32)), .unset, .unset] [(.int (0 : Int32))])) _
        refine XS.istore X20.here hx rfl (hb hby at_107) rfl (l' := #[.val (.int pi0), .val (.int pi1), .val (.int (1 : Int32)), .val (.int (0 : Int32)), .val (.ref c1), .val (.int (0 : Int32)), .val (.int (1 : Int32)), .val (.int (0 : Int32)), .val (.int (0 : Int32)), .val (.int (0 : Int32)), .unset]) rfl ?_
        show Steps p.tables e below (T20.setTop (mkF m 109 #[.val (.int pi0), .val (.int pi1), .val (.int (1 : Int32)), .val (.int (0 : Int32)), .val (.ref c1), .val (.int (0 : Int32)), .val (.int (1 : Int32)), .val (.int (0 : Int32)), .val (.int (0 : Int32)), .val (.int (0 : Int32)), .unset] [])) _
        refine XS.iloadN X20.here hx rfl (hb hby at_109) rfl ?_
        show Steps p.tables e below (T20.setTop (mkF m 110 #[.val (.int pi0), .val (.int pi1), .val (.int (1 : Int32)), .val (.int (0 : Int32)), .val (.ref c1), .val (.int (0 : Int32)), .val (.int (1 : Int32)), .val (.int (0 : Int32)), .val (.int (0 : Int32)), .val (.int (0 : Int32)), .unset] [(.int (1 : Int32))])) _
        refine XS.ifNo X20.here hx rfl (hb hby at_110) rfl ((if0 _ _).trans (feq (by decide : ¬ ((1 : Int32) = (0 : Int32)))).1) ?_
        show Steps p.tables e below (T20.setTop (mkF m 113 #[.val (.int pi0), .val (.int pi1), .val (.int (1 : Int32)), .val (.int (0 : Int32)), .val (.ref c1), .val (.int (0 : Int32)), .val (.int (1 : Int32)), .val (.int (0 : Int32)), .val (.int (0 : Int32)), .val (.int (0 : Int32)), .unset] [])) _
        refine XS.iloadN X20.here hx rfl (hb hby at_113) rfl ?_
        show Steps p.tables e below (T20.setTop (mkF m 114 #[.val (.int pi0), .val (.int pi1), .val (.int (1 : Int32)), .val (.int (0 : Int32)), .val (.ref c1), .val (.int (0 : Int32)), .val (.int (1 : Int32)), .val (.int (0 : Int32)), .val (.int (0 : Int32)), .val (.int (0 : Int32)), .unset] [(.int (0 : Int32))])) _
        refine XS.ifNo X20.here hx rfl (hb hby at_114) rfl ((if0 _ _).trans (teq (by decide : (0 : Int32) = (0 : Int32))).2) ?_
        show Steps p.tables e below (T20.setTop (mkF m 117 #[.val (.int pi0), .val (.int pi1), .val (.int (1 : Int32)), .val (.int (0 : Int32)), .val (.ref c1), .val (.int (0 : Int32)), .val (.int (1 : Int32)), .val (.int (0 : Int32)), .val (.int (0 : Int32)), .val (.int (0 : Int32)), .unset] [])) _
        refine XS.iconst X20.here hx rfl (hb hby at_117) ?_
        show Steps p.tables e below (T20.setTop (mkF m 118 #[.val (.int pi0), .val (.int pi1), .val (.int (1 : Int32)), .val (.int (0 : Int32)), .val (.ref c1), .val (.int (0 : Int32)), .val (.int (1 : Int32)), .val (.int (0 : Int32)), .val (.int (0 : Int32)), .val (.int (0 : Int32)), .unset] [(.int (1 : Int32))])) _
        refine XS.goto X20.here hx rfl (pc0 := 118) (pc' := 122) rfl (hb hby at_118) (by decide) (by decide) ?_
        show Steps p.tables e below (T20.setTop (mkF m 122 #[.val (.int pi0), .val (.int pi1), .val (.int (1 : Int32)), .val (.int (0 : Int32)), .val (.ref c1), .val (.int (0 : Int32)), .val (.int (1 : Int32)), .val (.int (0 : Int32)), .val (.int (0 : Int32)), .val (.int (0 : Int32)), .unset] [(.int (1 : Int32))])) _
        refine XS.istore X20.here hx rfl (hb hby at_122) rfl (l' := #[.val (.int pi0), .val (.int pi1), .val (.int (1 : Int32)), .val (.int (0 : Int32)), .val (.ref c1), .val (.int (0 : Int32)), .val (.int (1 : Int32)), .val (.int (0 : Int32)), .val (.int (0 : Int32)), .val (.int (0 : Int32)), .val (.int (1 : Int32))]) rfl ?_
        show Steps p.tables e below (T20.setTop (mkF m 124 #[.val (.int pi0), .val (.int pi1), .val (.int (1 : Int32)), .val (.int (0 : Int32)), .val (.ref c1), .val (.int (0 : Int32)), .val (.int (1 : Int32)), .val (.int (0 : Int32)), .val (.int (0 : Int32)), .val (.int (0 : Int32)), .val (.int (1 : Int32))] [])) _
        refine XS.iload X20.here hx rfl (hb hby at_124) rfl ?_
        show Steps p.tables e below (T20.setTop (mkF m 126 #[.val (.int pi0), .val (.int pi1), .val (.int (1 : Int32)), .val (.int (0 : Int32)), .val (.ref c1), .val (.int (0 : Int32)), .val (.int (1 : Int32)), .val (.int (0 : Int32)), .val (.int (0 : Int32)), .val (.int (0 : Int32)), .val (.int (1 : Int32))] [(.int (0 : Int32))])) _
        refine XS.iload X20.here hx rfl (hb hby at_126) rfl ?_
        show Steps p.tables e below (T20.setTop (mkF m 128 #[.val (.int pi0), .val (.int pi1), .val (.int (1 : Int32)), .val (.int (0 : Int32)), .val (.ref c1), .val (.int (0 : Int32)), .val (.int (1 : Int32)), .val (.int (0 : Int32)), .val (.int (0 : Int32)), .val (.int (0 : Int32)), .val (.int (1 : Int32))] [(.int (0 : Int32)), (.int (0 : Int32))])) _
        refine XS.icmpNo X20.here hx rfl (hb hby at_128) rfl (teq (by decide : (0 : Int32) = (0 : Int32))).2 ?_
        show Steps p.tables e below (T20.setTop (mkF m 131 #[.val (.int pi0), .val (.int pi1), .val (.int (1 : Int32)), .val (.int (0 : Int32)), .val (.ref c1), .val (.int (0 : Int32)), .val (.int (1 : Int32)), .val (.int (0 : Int32)), .val (.int (0 : Int32)), .val (.int (0 : Int32)), .val (.int (1 : Int32))] [])) _
        refine XS.iload X20.here hx rfl (hb hby at_131) rfl ?_
        show Steps p.tables e below (T20.setTop (mkF m 133 #[.val (.int pi0), .val (.int pi1), .val (.int (1 : Int32)), .val (.int (0 : Int32)), .val (.ref c1), .val (.int (0 : Int32)), .val (.int (1 : Int32)), .val (.int (0 : Int32)), .val (.int (0 : Int32)), .val (.int (0 : Int32)), .val (.int (1 : Int32))] [(.int (1 : Int32))])) _
        refine XS.iload X20.here hx rfl (hb hby at_133) rfl ?_
        show Steps p.tables e below (T20.setTop (mkF m 135 #[.val (.int pi0), .val (.int pi1), .val (.int (1 : Int32)), .val (.int (0 : Int32)), .val (.ref c1), .val (.int (0 : Int32)), .val (.int (1 : Int32)), .val (.int (0 : Int32)), .val (.int (0 : Int32)), .val (.int (0 : Int32)), .val (.int (1 : Int32))] [(.int (1 : Int32)), (.int (1 : Int32))])) _
        refine XS.icmpNo X20.here hx rfl (hb hby at_135) rfl (teq (by decide : (1 : Int32) = (1 : Int32))).2 ?_
        show Steps p.tables e below (T20.setTop (mkF m 138 #[.val (.int pi0), .val (.int pi1), .val (.int (1 : Int32)), .val (.int (0 : Int32)), .val (.ref c1), .val (.int (0 : Int32)), .val (.int (1 : Int32)), .val (.int (0 : Int32)), .val (.int (0 : Int32)), .val (.int (0 : Int32)), .val (.int (1 : Int32))] [])) _
        refine XS.iload X20.here hx rfl (hb hby at_138) rfl ?_
        show Steps p.tables e below (T20.setTop (mkF m 140 #[.val (.int pi0), .val (.int pi1), .val (.int (1 : Int32)), .val (.int (0 : Int32)), .val (.ref c1), .val (.int (0 : Int32)), .val (.int (1 : Int32)), .val (.int (0 : Int32)), .val (.int (0 : Int32)), .val (.int (0 : Int32)), .val (.int (1 : Int32))] [(.int (0 : Int32))])) _
        refine XS.iload X20.here hx rfl (hb hby at_140) rfl ?_
        show Steps p.tables e below (T20.setTop (mkF m 142 #[.val (.int pi0), .val (.int pi1), .val (.int (1 : Int32)), .val (.int (0 : Int32)), .val (.ref c1), .val (.int (0 : Int32)), .val (.int (1 : Int32)), .val (.int (0 : Int32)), .val (.int (0 : Int32)), .val (.int (0 : Int32)), .val (.int (1 : Int32))] [(.int (0 : Int32)), (.int (0 : Int32))])) _
        refine XS.icmpNo X20.here hx rfl (hb hby at_142) rfl (teq (by decide : (0 : Int32) = (0 : Int32))).2 ?_
        show Steps p.tables e below (T20.setTop (mkF m 145 #[.val (.int pi0), .val (.int pi1), .val (.int (1 : Int32)), .val (.int (0 : Int32)), .val (.ref c1), .val (.int (0 : Int32)), .val (.int (1 : Int32)), .val (.int (0 : Int32)), .val (.int (0 : Int32)), .val (.int (0 : Int32)), .val (.int (1 : Int32))] [])) _
        refine XS.iconst X20.here hx rfl (hb hby at_145) ?_
        show Steps p.tables e below (T20.setTop (mkF m 146 #[.val (.int pi0), .val (.int pi1), .val (.int (1 : Int32)), .val (.int (0 : Int32)), .val (.ref c1), .val (.int (0 : Int32)), .val (.int (1 : Int32)), .val (.int (0 : Int32)), .val (.int (0 : Int32)), .val (.int (0 : Int32)), .val (.int (1 : Int32))] [(.int (1 : Int32))])) _
        refine XS.goto X20.here hx rfl (pc0 := 146) (pc' := 150) rfl (hb hby at_146) (by decide) (by decide) ?_
        show Steps p.tables e below (T20.setTop (mkF m 150 #[.val (.int pi0), .val (.int pi1), .val (.int (1 : Int32)), .val (.int (0 : Int32)), .val (.ref c1), .val (.int (0 : Int32)), .val (.int (1 : Int32)), .val (.int (0 : Int32)), .val (.int (0 : Int32)), .val (.int (0 : Int32)), .val (.int (1 : Int32))] [(.int (1 : Int32))])) _
        exact kt
      obtain ⟨fs, hr, hrun, hended, hW, hsame⟩ := X20.leave (v := some (.int (1 : Int32))) (fun h => by rw [Bd.returns] at h; cases h)
      refine ⟨_, _, go21 _ ?_, hrun, hended, _, _, rfl, ?_, ⟨_, rfl⟩, hW, hsame.mono (by decide) (by decide)⟩
      · exact retN X20 hx (t := .boolean) Bd.returns (by simp) (hb hby at_150) hr
      · show Q_own_law Z pi0 pi1 c0 c1 c2 h0 n0 _ T20.heap _
        rw [e20]
        exact ⟨rfl, N17⟩
    · skip
      obtain ⟨_, _, ⟨T22, L22, k22, n22⟩, -, X22, ⟨Lc22, hQ22, l22, y22, z22⟩, st22⟩ := Jvm.LawKit.callS X0 hx (y := (⟨"com/example/corsia/corsia/engine/RecordResult$Outcome", "of", "(ZZ)Lcom/example/corsia/corsia/engine/RecordResult$Outcome;"⟩ : MethodName)) hown (mvT hZ (hw _ (List.mem_of_getElem? (i := 0) rfl))) (mvT hZ (hw _ (List.mem_of_getElem? (i := 1) rfl))) (mvT hZ (hw _ (List.mem_of_getElem? (i := 2) rfl))) (mvT hZ (hw _ (List.mem_of_getElem? (i := 3) rfl))) (by decide) (backOf (W := 0) (own_of_DISCARDED l Z a0 hw [] c2 h0 n0 Z0 P4) hZ (hw _ (List.mem_of_getElem? (i := 3) rfl)) (hw _ (List.mem_of_getElem? (i := 2) rfl)) (by decide) (by decide)) (g := (mkF m 26 #[.val (.int pi0), .val (.int pi1), .val (.int (1 : Int32)), .val (.int (1 : Int32)), .unset, .unset, .unset, .unset, .unset, .unset, .unset] [(.int (1 : Int32)), (.int (1 : Int32))])) rfl (by rw [hml]; rfl) (argsL := [(.int (1 : Int32)), (.int (1 : Int32))]) (rest := []) (lenOf pd_3 rfl) rfl (by show 2 * 0 + _ ≤ _; exact Nat.le_of_eq rfl) (hb hby at_26) (fun _ _ => ⟨rfl, e0, (by decide : 0 + 0 ≤ _), (by decide : 0 + 0 ≤ _)⟩)
      dsimp only [Pt.U, Pt.locs, Pt.cells, Pt.slots] at X22 l22 y22 z22 st22 hQ22
      subst l22 y22 z22
      obtain ⟨rfl, Nq22, e22⟩ := hQ22
      have N22 := Fr.app N0 Nq22
      obtain ⟨T23, X23, e23, st23⟩ := getS2 X22 hx hZ hown (host := "") (Or.inl (hw _ (List.mem_of_getElem? (i := 6) rfl))) Via.refl e22 P0 (g := (mkF m 40 #[.val (.int pi0), .val (.int pi1), .val (.int (1 : Int32)), .val (.int (1 : Int32)), .val (.ref c2), .unset, .unset, .unset, .unset, .unset, .unset] [(.ref c2)])) rfl (hb hby at_40)
      obtain ⟨T24, X24, e24, st24⟩ := getS2 X23 hx hZ hown (host := "") (Or.inl (hw _ (List.mem_of_getElem? (i := 7) rfl))) Via.refl e23 P2 (g := (mkF m 55 #[.val (.int pi0), .val (.int pi1), .val (.int (1 : Int32)), .val (.int (1 : Int32)), .val (.ref c2), .val (.int (0 : Int32)), .unset, .unset, .unset, .unset, .unset] [(.ref c2)])) rfl (hb hby at_55)
      obtain ⟨T25, X25, e25, st25⟩ := getS2 X24 hx hZ hown (host := "") (Or.inl (hw _ (List.mem_of_getElem? (i := 9) rfl))) Via.refl e24 P4 (g := (mkF m 70 #[.val (.int pi0), .val (.int pi1), .val (.int (1 : Int32)), .val (.int (1 : Int32)), .val (.ref c2), .val (.int (0 : Int32)), .val (.int (0 : Int32)), .unset, .unset, .unset, .unset] [(.ref c2)])) rfl (hb hby at_70)
      have go26 : ∀ t, Steps p.tables e below (T25.setTop (mkF m 150 #[.val (.int pi0), .val (.int pi1), .val (.int (1 : Int32)), .val (.int (1 : Int32)), .val (.ref c2), .val (.int (0 : Int32)), .val (.int (0 : Int32)), .val (.int (1 : Int32)), .val (.int (0 : Int32)), .val (.int (1 : Int32)), .val (.int (0 : Int32))] [(.int (1 : Int32))])) t → Steps p.tables e below st0 t := by
        intro t kt
        refine go15 t ?_
        refine XS.ifNo X0.here hx rfl (hb hby at_15) rfl ((if0 _ _).trans (feq hc16).1) ?_
        show Steps p.tables e below (s₁.setTop (mkF m 18 #[.val (.int pi0), .val (.int pi1), .val (.int (1 : Int32)), .unset, .unset, .unset, .unset, .unset, .unset, .unset, .unset] [])) _
        refine XS.iconst X0.here hx rfl (hb hby at_18) ?_
        show Steps p.tables e below (s₁.setTop (mkF m 19 #[.val (.int pi0), .val (.int pi1), .val (.int (1 : Int32)), .unset, .unset, .unset, .unset, .unset, .unset, .unset, .unset] [(.int (1 : Int32))])) _
        refine XS.goto X0.here hx rfl (pc0 := 19) (pc' := 23) rfl (hb hby at_19) (by decide) (by decide) ?_
        show Steps p.tables e below (s₁.setTop (mkF m 23 #[.val (.int pi0), .val (.int pi1), .val (.int (1 : Int32)), .unset, .unset, .unset, .unset, .unset, .unset, .unset, .unset] [(.int (1 : Int32))])) _
        refine XS.istoreN X0.here hx rfl (hb hby at_23) rfl (l' := #[.val (.int pi0), .val (.int pi1), .val (.int (1 : Int32)), .val (.int (1 : Int32)), .unset, .unset, .unset, .unset, .unset, .unset, .unset]) rfl ?_
        show Steps p.tables e below (s₁.setTop (mkF m 24 #[.val (.int pi0), .val (.int pi1), .val (.int (1 : Int32)), .val (.int (1 : Int32)), .unset, .unset, .unset, .unset, .unset, .unset, .unset] [])) _
        refine XS.iloadN X0.here hx rfl (hb hby at_24) rfl ?_
        show Steps p.tables e below (s₁.setTop (mkF m 25 #[.val (.int pi0), .val (.int pi1), .val (.int (1 : Int32)), .val (.int (1 : Int32)), .unset, .unset, .unset, .unset, .unset, .unset, .unset] [(.int (1 : Int32))])) _
        refine XS.iloadN X0.here hx rfl (hb hby at_25) rfl ?_
        show Steps p.tables e below (s₁.setTop (mkF m 26 #[.val (.int pi0), .val (.int pi1), .val (.int (1 : Int32)), .val (.int (1 : Int32)), .unset, .unset, .unset, .unset, .unset, .unset, .unset] [(.int (1 : Int32)), (.int (1 : Int32))])) _
        refine st22 _ ?_
        show Steps p.tables e below (T22.setTop (mkF m 29 #[.val (.int pi0), .val (.int pi1), .val (.int (1 : Int32)), .val (.int (1 : Int32)), .unset, .unset, .unset, .unset, .unset, .unset, .unset] [(.ref c2)])) _
        refine XS.astore X22.here hx rfl (hb hby at_29) rfl rfl (l' := #[.val (.int pi0), .val (.int pi1), .val (.int (1 : Int32)), .val (.int (1 : Int32)), .val (.ref c2), .unset, .unset, .unset, .unset, .unset, .unset]) rfl ?_
        show Steps p.tables e below (T22.setTop (mkF m 31 #[.val (.int pi0), .val (.int pi1), .val (.int (1 : Int32)), .val (.int (1 : Int32)), .val (.ref c2), .unset, .unset, .unset, .unset, .unset, .unset] [])) _
        refine XS.aload X22.here hx rfl (hb hby at_31) rfl rfl ?_
        show Steps p.tables e below (T22.setTop (mkF m 33 #[.val (.int pi0), .val (.int pi1), .val (.int (1 : Int32)), .val (.int (1 : Int32)), .val (.ref c2), .unset, .unset, .unset, .unset, .unset, .unset] [(.ref c2)])) _
        refine XS.ifnonnullYes X22.here hx rfl (pc0 := 33) (pc' := 38) rfl (hb hby at_33) rfl (by decide) (by decide) ?_
        show Steps p.tables e below (T22.setTop (mkF m 38 #[.val (.int pi0), .val (.int pi1), .val (.int (1 : Int32)), .val (.int (1 : Int32)), .val (.ref c2), .unset, .unset, .unset, .unset, .unset, .unset] [])) _
        refine XS.aload X22.here hx rfl (hb hby at_38) rfl rfl ?_
        show Steps p.tables e below (T22.setTop (mkF m 40 #[.val (.int pi0), .val (.int pi1), .val (.int (1 : Int32)), .val (.int (1 : Int32)), .val (.ref c2), .unset, .unset, .unset, .unset, .unset, .unset] [(.ref c2)])) _
        refine st23 _ ?_
        show Steps p.tables e below (T23.setTop (mkF m 43 #[.val (.int pi0), .val (.int pi1), .val (.int (1 : Int32)), .val (.int (1 : Int32)), .val (.ref c2), .unset, .unset, .unset, .unset, .unset, .unset] [(.ref c0), (.ref c2)])) _
        refine Jvm.RoadKit.acmp (g := (mkF m 43 #[.val (.int pi0), .val (.int pi1), .val (.int (1 : Int32)), .val (.int (1 : Int32)), .val (.ref c2), .unset, .unset, .unset, .unset, .unset, .unset] [(.ref c0), (.ref c2)])) X23 hx rfl rfl rfl (pc0 := 43) (pc' := 50) (same := false) rfl (hb hby at_43) rfl (decide_eq_false fun q => (Ne.symm P7) (Value.ref.inj q)) (by decide) (by decide) ?_
        show Steps p.tables e below (T23.setTop (mkF m 50 #[.val (.int pi0), .val (.int pi1), .val (.int (1 : Int32)), .val (.int (1 : Int32)), .val (.ref c2), .unset, .unset, .unset, .unset, .unset, .unset] [])) _
        refine XS.iconst X23.here hx rfl (hb hby at_50) ?_
        show Steps p.tables e below (T23.setTop (mkF m 51 #[.val (.int pi0), .val (.int pi1), .val (.int (1 : Int32)), .val (.int (1 : Int32)), .val (.ref c2), .unset, .unset, .unset, .unset, .unset, .unset] [(.int (0 : Int32))])) _
        refine XS.istore X23.here hx rfl (hb hby at_51) rfl (l' := #[.val (.int pi0), .val (.int pi1), .val (.int (1 : Int32)), .val (.int (1 : Int32)), .val (.ref c2), .val (.int (0 : Int32)), .unset, .unset, .unset, .unset, .unset]) rfl ?_
        show Steps p.tables e below (T23.setTop (mkF m 53 #[.val (.int pi0), .val (.int pi1), .val (.int (1 : Int32)), .val (.int (1 : Int32)), .val (.ref c2), .val (.int (0 : Int32)), .unset, .unset, .unset, .unset, .unset] [])) _
        refine XS.aload X23.here hx rfl (hb hby at_53) rfl rfl ?_
        show Steps p.tables e below (T23.setTop (mkF m 55 #[.val (.int pi0), .val (.int pi1), .val (.int (1 : Int32)), .val (.int (1 : Int32)), .val (.ref c2), .val (.int (0 : Int32)), .unset, .unset, .unset, .unset, .unset] [(.ref c2)])) _
        refine st24 _ ?_
        show Steps p.tables e below (T24.setTop (mkF m 58 #[.val (.int pi0), .val (.int pi1), .val (.int (1 : Int32)), .val (.int (1 : Int32)), .val (.ref c2), .val (.int (0 : Int32)), .unset, .unset, .unset, .unset, .unset] [(.ref c1), (.ref c2)])) _
        refine Jvm.RoadKit.acmp (g := (mkF m 58 #[.val (.int pi0), .val (.int pi1), .val (.int (1 : Int32)), .val (.int (1 : Int32)), .val (.ref c2), .val (.int (0 : Int32)), .unset, .unset, .unset, .unset, .unset] [(.ref c1), (.ref c2)])) X24 hx rfl rfl rfl (pc0 := 58) (pc' := 65) (same := false) rfl (hb hby at_58) rfl (decide_eq_false fun q => (Ne.symm P8) (Value.ref.inj q)) (by decide) (by decide) ?_
        show Steps p.tables e below (T24.setTop (mkF m 65 #[.val (.int pi0), .val (.int pi1), .val (.int (1 : Int32)), .val (.int (1 : Int32)), .val (.ref c2), .val (.int (0 : Int32)), .unset, .unset, .unset, .unset, .unset] [])) _
        refine XS.iconst X24.here hx rfl (hb hby at_65) ?_
        show Steps p.tables e below (T24.setTop (mkF m 66 #[.val (.int pi0), .val (.int pi1), .val (.int (1 : Int32)), .val (.int (1 : Int32)), .val (.ref c2), .val (.int (0 : Int32)), .unset, .unset, .unset, .unset, .unset] [(.int (0 : Int32))])) _
        refine XS.istore X24.here hx rfl (hb hby at_66) rfl (l' := #[.val (.int pi0), .val (.int pi1), .val (.int (1 : Int32)), .val (.int (1 : Int32)), .val (.ref c2), .val (.int (0 : Int32)), .val (.int (0 : Int32)), .unset, .unset, .unset, .unset]) rfl ?_
        show Steps p.tables e below (T24.setTop (mkF m 68 #[.val (.int pi0), .val (.int pi1), .val (.int (1 : Int32)), .val (.int (1 : Int32)), .val (.ref c2), .val (.int (0 : Int32)), .val (.int (0 : Int32)), .unset, .unset, .unset, .unset] [])) _
        refine XS.aload X24.here hx rfl (hb hby at_68) rfl rfl ?_
        show Steps p.tables e below (T24.setTop (mkF m 70 #[.val (.int pi0), .val (.int pi1), .val (.int (1 : Int32)), .val (.int (1 : Int32)), .val (.ref c2), .val (.int (0 : Int32)), .val (.int (0 : Int32)), .unset, .unset, .unset, .unset] [(.ref c2)])) _
        refine st25 _ ?_
        show Steps p.tables e below (T25.setTop (mkF m 73 #[.val (.int pi0), .val (.int pi1), .val (.int (1 : Int32)), .val (.int (1 : Int32)), .val (.ref c2), .val (.int (0 : Int32)), .val (.int (0 : Int32)), .unset, .unset, .unset, .unset] [(.ref c2), (.ref c2)])) _
        refine Jvm.RoadKit.acmp (g := (mkF m 73 #[.val (.int pi0), .val (.int pi1), .val (.int (1 : Int32)), .val (.int (1 : Int32)), .val (.ref c2), .val (.int (0 : Int32)), .val (.int (0 : Int32)), .unset, .unset, .unset, .unset] [(.ref c2), (.ref c2)])) X25 hx rfl rfl rfl (pc0 := 73) (pc' := 76) (same := true) rfl (hb hby at_73) rfl (decide_eq_true rfl) (by decide) (by decide) ?_
        show Steps p.tables e below (T25.setTop (mkF m 76 #[.val (.int pi0), .val (.int pi1), .val (.int (1 : Int32)), .val (.int (1 : Int32)), .val (.ref c2), .val (.int (0 : Int32)), .val (.int (0 : Int32)), .unset, .unset, .unset, .unset] [])) _
        refine XS.iconst X25.here hx rfl (hb hby at_76) ?_
        show Steps p.tables e below (T25.setTop (mkF m 77 #[.val (.int pi0), .val (.int pi1), .val (.int (1 : Int32)), .val (.int (1 : Int32)), .val (.ref c2), .val (.int (0 : Int32)), .val (.int (0 : Int32)), .unset, .unset, .unset, .unset] [(.int (1 : Int32))])) _
        refine XS.goto X25.here hx rfl (pc0 := 77) (pc' := 81) rfl (hb hby at_77) (by decide) (by decide) ?_
        show Steps p.tables e below (T25.setTop (mkF m 81 #[.val (.int pi0), .val (.int pi1), .val (.int (1 : Int32)), .val (.int (1 : Int32)), .val (.ref c2), .val (.int (0 : Int32)), .val (.int (0 : Int32)), .unset, .unset, .unset, .unset] [(.int (1 : Int32))])) _
        refine XS.istore X25.here hx rfl (hb hby at_81) rfl (l' := #[.val (.int pi0), .val (.int pi1), .val (.int (1 : Int32)), .val (.int (1 : Int32)), .val (.ref c2), .val (.int (0 : Int32)), .val (.int (0 : Int32)), .val (.int (1 : Int32)), .unset, .unset, .unset]) rfl ?_
        show Steps p.tables e below (T25.setTop (mkF m 83 #[.val (.int pi0), .val (.int pi1), .val (.int (1 : Int32)), .val (.int (1 : Int32)), .val (.ref c2), .val (.int (0 : Int32)), .val (.int (0 : Int32)), .val (.int (1 : Int32)), .unset, .unset, .unset] [])) _
        refine XS.iloadN X25.here hx rfl (hb hby at_83) rfl ?_
        show Steps p.tables e below (T25.setTop (mkF m 84 #[.val (.int pi0), .val (.int pi1), .val (.int (1 : Int32)), .val (.int (1 : Int32)), .val (.ref c2), .val (.int (0 : Int32)), .val (.int (0 : Int32)), .val (.int (1 : Int32)), .unset, .unset, .unset] [(.int (1 : Int32))])) _
        refine XS.ifYes X25.here hx rfl (pc0 := 84) (pc' := 91) rfl (hb hby at_84) rfl ((if0 _ _).trans (feq (by decide : ¬ ((1 : Int32) = (0 : Int32)))).2) (by decide) (by decide) ?_
        show Steps p.tables e below (T25.setTop (mkF m 91 #[.val (.int pi0), .val (.int pi1), .val (.int (1 : Int32)), .val (.int (1 : Int32)), .val (.ref c2), .val (.int (0 : Int32)), .val (.int (0 : Int32)), .val (.int (1 : Int32)), .unset, .unset, .unset] [])) _
        refine XS.iconst X25.here hx rfl (hb hby at_91) ?_
        show Steps p.tables e below (T25.setTop (mkF m 92 #[.val (.int pi0), .val (.int pi1), .val (.int (1 : Int32)), .val (.int (1 : Int32)), .val (.ref c2), .val (.int (0 : Int32)), .val (.int (0 : Int32)), .val (.int (1 : Int32)), .unset, .unset, .unset] [(.int (0 : Int32))])) _
        refine XS.istore X25.here hx rfl (hb hby at_92) rfl (l' := #[.val (.int pi0), .val (.int pi1), .val (.int (1 : Int32)), .val (.int (1 : Int32)), .val (.ref c2), .val (.int (0 : Int32)), .val (.int (0 : Int32)), .val (.int (1 : Int32)), .val (.int (0 : Int32)), .unset, .unset]) rfl ?_
        show Steps p.tables e below (T25.setTop (mkF m 94 #[.val (.int pi0), .val (.int pi1), .val (.int (1 : Int32)), .val (.int (1 : Int32)), .val (.ref c2), .val (.int (0 : Int32)), .val (.int (0 : Int32)), .val (.int (1 : Int32)), .val (.int (0 : Int32)), .unset, .unset] [])) _
        refine XS.iloadN X25.here hx rfl (hb hby at_94) rfl ?_
        show Steps p.tables e below (T25.setTop (mkF m 95 #[.val (.int pi0), .val (.int pi1), .val (.int (1 : Int32)), .val (.int (1 : Int32)), .val (.ref c2), .val (.int (0 : Int32)), .val (.int (0 : Int32)), .val (.int (1 : Int32)), .val (.int (0 : Int32)), .unset, .unset] [(.int (1 : Int32))])) _
        refine XS.ifNo X25.here hx rfl (hb hby at_95) rfl ((if0 _ _).trans (feq (by decide : ¬ ((1 : Int32) = (0 : Int32)))).1) ?_
        show Steps p.tables e below (T25.setTop (mkF m 98 #[.val (.int pi0), .val (.int pi1), .val (.int (1 : Int32)), .val (.int (1 : Int32)), .val (.ref c2), .val (.int (0 : Int32)), .val (.int (0 : Int32)), .val (.int (1 : Int32)), .val (.int (0 : Int32)), .unset, .unset] [])) _
        refine XS.iloadN X25.here hx rfl (hb hby at_98) rfl ?_
        show Steps p.tables e below (T25.setTop (mkF m 99 #[.val (.int pi0), .val (.int pi1), .val (.int (1 : Int32)), .val (.int (1 : Int32)), .val (.ref c2), .val (.int (0 : Int32)), .val (.int (0 : Int32)), .val (.int (1 : Int32)), .val (.int (0 : Int32)), .unset, .unset] [(.int (1 : Int32))])) _
        refine XS.ifNo X25.here hx rfl (hb hby at_99) rfl ((if0 _ _).trans (feq (by decide : ¬ ((1 : Int32) = (0 : Int32)))).1) ?_
        show Steps p.tables e below (T25.setTop (mkF m 102 #[.val (.int pi0), .val (.int pi1), .val (.int (1 : Int32)), .val (.int (1 : Int32)), .val (.ref c2), .val (.int (0 : Int32)), .val (.int (0 : Int32)), .val (.int (1 : Int32)), .val (.int (0 : Int32)), .unset, .unset] [])) _
        refine XS.iconst X25.here hx rfl (hb hby at_102) ?_
        show Steps p.tables e below (T25.setTop (mkF m 103 #[.val (.int pi0), .val (.int pi1), .val (.int (1 : Int32)), .val (.int (1 : Int32)), .val (.ref c2), .val (.int (0 : Int32)), .val (.int (0 : Int32)), .val (.int (1 : Int32)), .val (.int (0 : Int32)), .unset, .unset] [(.int (1 : Int32))])) _
        refine XS.goto X25.here hx rfl (pc0 := 103) (pc' := 107) rfl (hb hby at_103) (by decide) (by decide) ?_
        show Steps p.tables e below (T25.setTop (mkF m 107 #[.val (.int pi0), .val (.int pi1), .val (.int (1 : Int32)), .val (.int (1 : Int32)), .val (.ref c2), .val (.int (0 : Int32)), .val (.int (0 : Int32)), .val (.int (1 : Int32)), .val (.int (0 : Int32)), .unset, .unset] [(.int (1 : Int32))])) _
        refine XS.istore X25.here hx rfl (hb hby at_107) rfl (l' := #[.val (.int pi0), .val (.int pi1), .val (.int (1 : Int32)), .val (.int (1 : Int32)), .val (.ref c2), .val (.int (0 : Int32)), .val (.int (0 : Int32)), .val (.int (1 : Int32)), .val (.int (0 : Int32)), .val (.int (1 : Int32)), .unset]) rfl ?_
        show Steps p.tables e below (T25.setTop (mkF m 109 #[.val (.int pi0), .val (.int pi1), .val (.int (1 : Int32)), .val (.int (1 : Int32)), .val (.ref c2), .val (.int (0 : Int32)), .val (.int (0 : Int32)), .val (.int (1 : Int32)), .val (.int (0 : Int32)), .val (.int (1 : Int32)), .unset] [])) _
        refine XS.iloadN X25.here hx rfl (hb hby at_109) rfl ?_
        show Steps p.tables e below (T25.setTop (mkF m 110 #[.val (.int pi0), .val (.int pi1), .val (.int (1 : Int32)), .val (.int (1 : Int32)), .val (.ref c2), .val (.int (0 : Int32)), .val (.int (0 : Int32)), .val (.int (1 : Int32)), .val (.int (0 : Int32)), .val (.int (1 : Int32)), .unset] [(.int (1 : Int32))])) _
        refine XS.ifNo X25.here hx rfl (hb hby at_110) rfl ((if0 _ _).trans (feq (by decide : ¬ ((1 : Int32) = (0 : Int32)))).1) ?_
        show Steps p.tables e below (T25.setTop (mkF m 113 #[.val (.int pi0), .val (.int pi1), .val (.int (1 : Int32)), .val (.int (1 : Int32)), .val (.ref c2), .val (.int (0 : Int32)), .val (.int (0 : Int32)), .val (.int (1 : Int32)), .val (.int (0 : Int32)), .val (.int (1 : Int32)), .unset] [])) _
        refine XS.iloadN X25.here hx rfl (hb hby at_113) rfl ?_
        show Steps p.tables e below (T25.setTop (mkF m 114 #[.val (.int pi0), .val (.int pi1), .val (.int (1 : Int32)), .val (.int (1 : Int32)), .val (.ref c2), .val (.int (0 : Int32)), .val (.int (0 : Int32)), .val (.int (1 : Int32)), .val (.int (0 : Int32)), .val (.int (1 : Int32)), .unset] [(.int (1 : Int32))])) _
        refine XS.ifYes X25.here hx rfl (pc0 := 114) (pc' := 121) rfl (hb hby at_114) rfl ((if0 _ _).trans (feq (by decide : ¬ ((1 : Int32) = (0 : Int32)))).2) (by decide) (by decide) ?_
        show Steps p.tables e below (T25.setTop (mkF m 121 #[.val (.int pi0), .val (.int pi1), .val (.int (1 : Int32)), .val (.int (1 : Int32)), .val (.ref c2), .val (.int (0 : Int32)), .val (.int (0 : Int32)), .val (.int (1 : Int32)), .val (.int (0 : Int32)), .val (.int (1 : Int32)), .unset] [])) _
        refine XS.iconst X25.here hx rfl (hb hby at_121) ?_
        show Steps p.tables e below (T25.setTop (mkF m 122 #[.val (.int pi0), .val (.int pi1), .val (.int (1 : Int32)), .val (.int (1 : Int32)), .val (.ref c2), .val (.int (0 : Int32)), .val (.int (0 : Int32)), .val (.int (1 : Int32)), .val (.int (0 : Int32)), .val (.int (1 : Int32)), .unset] [(.int (0 : Int32))])) _
        refine XS.istore X25.here hx rfl (hb hby at_122) rfl (l' := #[.val (.int pi0), .val (.int pi1), .val (.int (1 : Int32)), .val (.int (1 : Int32)), .val (.ref c2), .val (.int (0 : Int32)), .val (.int (0 : Int32)), .val (.int (1 : Int32)), .val (.int (0 : Int32)), .val (.int (1 : Int32)), .val (.int (0 : Int32))]) rfl ?_
        show Steps p.tables e below (T25.setTop (mkF m 124 #[.val (.int pi0), .val (.int pi1), .val (.int (1 : Int32)), .val (.int (1 : Int32)), .val (.ref c2), .val (.int (0 : Int32)), .val (.int (0 : Int32)), .val (.int (1 : Int32)), .val (.int (0 : Int32)), .val (.int (1 : Int32)), .val (.int (0 : Int32))] [])) _
        refine XS.iload X25.here hx rfl (hb hby at_124) rfl ?_
        show Steps p.tables e below (T25.setTop (mkF m 126 #[.val (.int pi0), .val (.int pi1), .val (.int (1 : Int32)), .val (.int (1 : Int32)), .val (.ref c2), .val (.int (0 : Int32)), .val (.int (0 : Int32)), .val (.int (1 : Int32)), .val (.int (0 : Int32)), .val (.int (1 : Int32)), .val (.int (0 : Int32))] [(.int (0 : Int32))])) _
        refine XS.iload X25.here hx rfl (hb hby at_126) rfl ?_
        show Steps p.tables e below (T25.setTop (mkF m 128 #[.val (.int pi0), .val (.int pi1), .val (.int (1 : Int32)), .val (.int (1 : Int32)), .val (.ref c2), .val (.int (0 : Int32)), .val (.int (0 : Int32)), .val (.int (1 : Int32)), .val (.int (0 : Int32)), .val (.int (1 : Int32)), .val (.int (0 : Int32))] [(.int (0 : Int32)), (.int (0 : Int32))])) _
        refine XS.icmpNo X25.here hx rfl (hb hby at_128) rfl (teq (by decide : (0 : Int32) = (0 : Int32))).2 ?_
        show Steps p.tables e below (T25.setTop (mkF m 131 #[.val (.int pi0), .val (.int pi1), .val (.int (1 : Int32)), .val (.int (1 : Int32)), .val (.ref c2), .val (.int (0 : Int32)), .val (.int (0 : Int32)), .val (.int (1 : Int32)), .val (.int (0 : Int32)), .val (.int (1 : Int32)), .val (.int (0 : Int32))] [])) _
        refine XS.iload X25.here hx rfl (hb hby at_131) rfl ?_
        show Steps p.tables e below (T25.setTop (mkF m 133 #[.val (.int pi0), .val (.int pi1), .val (.int (1 : Int32)), .val (.int (1 : Int32)), .val (.ref c2), .val (.int (0 : Int32)), .val (.int (0 : Int32)), .val (.int (1 : Int32)), .val (.int (0 : Int32)), .val (.int (1 : Int32)), .val (.int (0 : Int32))] [(.int (0 : Int32))])) _
        refine XS.iload X25.here hx rfl (hb hby at_133) rfl ?_
        show Steps p.tables e below (T25.setTop (mkF m 135 #[.val (.int pi0), .val (.int pi1), .val (.int (1 : Int32)), .val (.int (1 : Int32)), .val (.ref c2), .val (.int (0 : Int32)), .val (.int (0 : Int32)), .val (.int (1 : Int32)), .val (.int (0 : Int32)), .val (.int (1 : Int32)), .val (.int (0 : Int32))] [(.int (0 : Int32)), (.int (0 : Int32))])) _
        refine XS.icmpNo X25.here hx rfl (hb hby at_135) rfl (teq (by decide : (0 : Int32) = (0 : Int32))).2 ?_
        show Steps p.tables e below (T25.setTop (mkF m 138 #[.val (.int pi0), .val (.int pi1), .val (.int (1 : Int32)), .val (.int (1 : Int32)), .val (.ref c2), .val (.int (0 : Int32)), .val (.int (0 : Int32)), .val (.int (1 : Int32)), .val (.int (0 : Int32)), .val (.int (1 : Int32)), .val (.int (0 : Int32))] [])) _
        refine XS.iload X25.here hx rfl (hb hby at_138) rfl ?_
        show Steps p.tables e below (T25.setTop (mkF m 140 #[.val (.int pi0), .val (.int pi1), .val (.int (1 : Int32)), .val (.int (1 : Int32)), .val (.ref c2), .val (.int (0 : Int32)), .val (.int (0 : Int32)), .val (.int (1 : Int32)), .val (.int (0 : Int32)), .val (.int (1 : Int32)), .val (.int (0 : Int32))] [(.int (1 : Int32))])) _
        refine XS.iload X25.here hx rfl (hb hby at_140) rfl ?_
        show Steps p.tables e below (T25.setTop (mkF m 142 #[.val (.int pi0), .val (.int pi1), .val (.int (1 : Int32)), .val (.int (1 : Int32)), .val (.ref c2), .val (.int (0 : Int32)), .val (.int (0 : Int32)), .val (.int (1 : Int32)), .val (.int (0 : Int32)), .val (.int (1 : Int32)), .val (.int (0 : Int32))] [(.int (1 : Int32)), (.int (1 : Int32))])) _
        refine XS.icmpNo X25.here hx rfl (hb hby at_142) rfl (teq (by decide : (1 : Int32) = (1 : Int32))).2 ?_
        show Steps p.tables e below (T25.setTop (mkF m 145 #[.val (.int pi0), .val (.int pi1), .val (.int (1 : Int32)), .val (.int (1 : Int32)), .val (.ref c2), .val (.int (0 : Int32)), .val (.int (0 : Int32)), .val (.int (1 : Int32)), .val (.int (0 : Int32)), .val (.int (1 : Int32)), .val (.int (0 : Int32))] [])) _
        refine XS.iconst X25.here hx rfl (hb hby at_145) ?_
        show Steps p.tables e below (T25.setTop (mkF m 146 #[.val (.int pi0), .val (.int pi1), .val (.int (1 : Int32)), .val (.int (1 : Int32)), .val (.ref c2), .val (.int (0 : Int32)), .val (.int (0 : Int32)), .val (.int (1 : Int32)), .val (.int (0 : Int32)), .val (.int (1 : Int32)), .val (.int (0 : Int32))] [(.int (1 : Int32))])) _
        refine XS.goto X25.here hx rfl (pc0 := 146) (pc' := 150) rfl (hb hby at_146) (by decide) (by decide) ?_
        show Steps p.tables e below (T25.setTop (mkF m 150 #[.val (.int pi0), .val (.int pi1), .val (.int (1 : Int32)), .val (.int (1 : Int32)), .val (.ref c2), .val (.int (0 : Int32)), .val (.int (0 : Int32)), .val (.int (1 : Int32)), .val (.int (0 : Int32)), .val (.int (1 : Int32)), .val (.int (0 : Int32))] [(.int (1 : Int32))])) _
        exact kt
      obtain ⟨fs, hr, hrun, hended, hW, hsame⟩ := X25.leave (v := some (.int (1 : Int32))) (fun h => by rw [Bd.returns] at h; cases h)
      refine ⟨_, _, go26 _ ?_, hrun, hended, _, _, rfl, ?_, ⟨_, rfl⟩, hW, hsame.mono (by decide) (by decide)⟩
      · exact retN X25 hx (t := .boolean) Bd.returns (by simp) (hb hby at_150) hr
      · show Q_own_law Z pi0 pi1 c0 c1 c2 h0 n0 _ T25.heap _
        rw [e25]
        exact ⟨rfl, N22⟩
set_option maxRecDepth 65536 in
set_option maxHeartbeats 40000000 in
theorem comes_1 {Post : Tables → Env → Array Value → State → Outcome → State → Prop} (hpost : ∀ tb e args s v u, (limb_1_1.after args s (.returned v) u = true ∧ limb_1_2.after args s (.returned v) u = true ∧ True) → FrameEnd s (.returned v) u (Jvm.fieldLocs frame_1_writes args s ++ Jvm.arrayLocs frame_1_arrays args s ++ Jvm.staticLocs frame_1_statics s) 0 0 → Post tb e args s (.returned v) u) :
    ArmFor flags0 classFile x code maxLocals ret World_1 tables_1 room_1 Calls_1 rest_1 Pre_1 Post := by
  intro l hfl _ _ p e ha hc hk s m args below hf hA hF happ hP
  obtain ⟨hcalls, hrest, hpre⟩ := hP
  obtain ⟨-, -, -, hnamed, -, -, -, hat⟩ := (Spec.applies_iff hf).mp happ
  obtain ⟨hg, hn⟩ := and_e (Cond.before_iff.mp (show (Jvm.Cond.and given_1 narrow_1).before args s = true from hpre))
  obtain ⟨g1a, g1b⟩ := and_e hg
  obtain ⟨g2a, g2b⟩ := and_e g1b
  obtain ⟨w0, w1, rfl⟩ : ∃ w0 w1 : Value, args = #[w0, w1] := by
    have hs : args.size = 2 := by simpa [Cond.value, given_1] using g1a
    obtain ⟨L⟩ := args
    match L, hs with
    | [w0, w1], _ => exact ⟨w0, w1, rfl⟩
  have hw := fun d (hd : d ∈ tables_1) => atoms_spec (ws := Jvm.Cond.code x code maxLocals ret :: tables_1) hat d (List.mem_cons_of_mem _ hd)
  have hfit : Fit s := fun {y c} hc i hi => by
    obtain ⟨ha, rfl⟩ := Array.getElem?_eq_some_iff.mp hc
    have q := List.all_eq_true.mp ((Array.all_eq_true_iff_forall_mem.mp hF) _ (Array.getElem_mem ha)) i (List.mem_range.mpr hi)
    simpa [Array.getElem?_eq_getElem hi] using q
  obtain ⟨i0, ei0⟩ := is_v g2a
  obtain rfl : w0 = (.int i0) := Option.some.inj ei0
  obtain ⟨i1, ei1⟩ := is_v g2b
  obtain rfl : w1 = (.int i1) := Option.some.inj ei1
  obtain ⟨g3a, g3b⟩ := and_e hn
  obtain ⟨g4a, g4b⟩ := and_e g3b
  obtain ⟨g5a, g5b⟩ := and_e g4b
  obtain ⟨g6a, g6b⟩ := and_e g5b
  obtain ⟨g7a, g7b⟩ := and_e g6b
  obtain ⟨v_RecordResult_Outcome_CLEAN, ev_v_RecordResult_Outcome_CLEAN⟩ := exa_v g3a
  have E_v_RecordResult_Outcome_CLEAN : Exa s s.heap v_RecordResult_Outcome_CLEAN "com/example/corsia/corsia/engine/RecordResult$Outcome" := Exa.start ev_v_RecordResult_Outcome_CLEAN g3a
  have S_v_RecordResult_Outcome_CLEAN : Sta s s.heap "com/example/corsia/corsia/engine/RecordResult$Outcome" "CLEAN" "Lcom/example/corsia/corsia/engine/RecordResult$Outcome;" (.ref v_RecordResult_Outcome_CLEAN) := Sta.start ev_v_RecordResult_Outcome_CLEAN (Or.inr ⟨(hw _ (List.mem_of_getElem? (i := 2) rfl)), (hw _ (List.mem_of_getElem? (i := 5) rfl))⟩)
  obtain ⟨v_RecordResult_Outcome_FLAGGED, ev_v_RecordResult_Outcome_FLAGGED⟩ := exa_v g4a
  have E_v_RecordResult_Outcome_FLAGGED : Exa s s.heap v_RecordResult_Outcome_FLAGGED "com/example/corsia/corsia/engine/RecordResult$Outcome" := Exa.start ev_v_RecordResult_Outcome_FLAGGED g4a
  have S_v_RecordResult_Outcome_FLAGGED : Sta s s.heap "com/example/corsia/corsia/engine/RecordResult$Outcome" "FLAGGED" "Lcom/example/corsia/corsia/engine/RecordResult$Outcome;" (.ref v_RecordResult_Outcome_FLAGGED) := Sta.start ev_v_RecordResult_Outcome_FLAGGED (Or.inr ⟨(hw _ (List.mem_of_getElem? (i := 2) rfl)), (hw _ (List.mem_of_getElem? (i := 8) rfl))⟩)
  obtain ⟨v_RecordResult_Outcome_DISCARDED, ev_v_RecordResult_Outcome_DISCARDED⟩ := exa_v g7a
  have E_v_RecordResult_Outcome_DISCARDED : Exa s s.heap v_RecordResult_Outcome_DISCARDED "com/example/corsia/corsia/engine/RecordResult$Outcome" := Exa.start ev_v_RecordResult_Outcome_DISCARDED g7a
  have S_v_RecordResult_Outcome_DISCARDED : Sta s s.heap "com/example/corsia/corsia/engine/RecordResult$Outcome" "DISCARDED" "Lcom/example/corsia/corsia/engine/RecordResult$Outcome;" (.ref v_RecordResult_Outcome_DISCARDED) := Sta.start ev_v_RecordResult_Outcome_DISCARDED (Or.inr ⟨(hw _ (List.mem_of_getElem? (i := 2) rfl)), (hw _ (List.mem_of_getElem? (i := 10) rfl))⟩)
  have F_v_RecordResult_Outcome_CLEAN_ordinal : Fld s s.heap v_RecordResult_Outcome_CLEAN "java/lang/Enum" "ordinal" "I" (.int (0 : Int32)) := own_fldI ev_v_RecordResult_Outcome_CLEAN g5a
  have F_v_RecordResult_Outcome_FLAGGED_ordinal : Fld s s.heap v_RecordResult_Outcome_FLAGGED "java/lang/Enum" "ordinal" "I" (.int (1 : Int32)) := own_fldI ev_v_RecordResult_Outcome_FLAGGED g6a
  have F_v_RecordResult_Outcome_DISCARDED_ordinal : Fld s s.heap v_RecordResult_Outcome_DISCARDED "java/lang/Enum" "ordinal" "I" (.int (2 : Int32)) := own_fldI ev_v_RecordResult_Outcome_DISCARDED g7b
  obtain ⟨n, o, h1, h2, h3, _, L, rfl, ⟨rfl, N⟩, hq⟩ := own_law l s _ hw tables_1 i0 i1 v_RecordResult_Outcome_CLEAN v_RecordResult_Outcome_FLAGGED v_RecordResult_Outcome_DISCARDED s.heap s.heap.size (Nat.le_refl _) S_v_RecordResult_Outcome_CLEAN E_v_RecordResult_Outcome_CLEAN S_v_RecordResult_Outcome_FLAGGED E_v_RecordResult_Outcome_FLAGGED S_v_RecordResult_Outcome_DISCARDED E_v_RecordResult_Outcome_DISCARDED (F_v_RecordResult_Outcome_CLEAN_ordinal.ne F_v_RecordResult_Outcome_FLAGGED_ordinal (by decide)) (F_v_RecordResult_Outcome_CLEAN_ordinal.ne F_v_RecordResult_Outcome_DISCARDED_ordinal (by decide)) (F_v_RecordResult_Outcome_FLAGGED_ordinal.ne F_v_RecordResult_Outcome_DISCARDED_ordinal (by decide)) p e ha hc hk s m _ below hf ((Spec.applies_iff_loose hf).mp happ).1 ⟨rfl, State.Warmed39.refl s, rfl⟩ trivial
  refine ⟨n, _, h1, h2, h3, hpost _ _ _ _ _ _ ⟨Cond.after_iff.mpr rfl, Cond.after_iff.mpr (eq_i res_at (Term.int_eval (1)) rfl), trivial⟩ ⟨hq.1, hq.2.1, (hq.2.2.sift fun y hy => Or.inr (N y hy)).mono (by decide) (by decide)⟩⟩
theorem main_1_1 : Claimed_1_1 := comes_1 fun _ _ _ _ _ _ h hF => ⟨h.1, hF⟩
theorem main_1_2 : Claimed_1_2 := comes_1 fun _ _ _ _ _ _ h hF => ⟨h.2.1, hF⟩
end Jvm.Pilot.@@N@@
namespace Jvm.Pilot.@@N@@
open Jvm Jvm.ClassFile Sem Op Lib Jvm.Free Jvm.Stand Jvm.Pilot.@@N@@.Jvm.D
/-! MADE BY PROGRAM (witnessworld.py) out of the Statement's table words and the real class files: 12 classes; the members and pool entries that the words name. The judged class is class 1, her method 1. -/
namespace start1
open Jvm.ClassFile
def u (s : String) : CpInfo := .utf8 (stringToUtf16 s)
/-- a pool by its gaps: so many unusable entries, then the entry; so many at the end -/
def gap : Nat → List CpInfo → List CpInfo
  | 0, r => r
  | n + 1, r => .unusable :: gap n r
def poolList (es : List (Nat × CpInfo)) (last : Nat) : List CpInfo := es.foldr (fun e r => gap e.1 (e.2 :: r)) (gap last [])
def pool (es : List (Nat × CpInfo)) (last : Nat) : Array CpInfo := ⟨poolList es last⟩
def fileOf (pool : Array CpInfo) (this : Nat) (attrs : Array Attribute := #[]) (ms : Array MethodInfo := #[]) (fl : Nat := 33) (sup : Nat := 0) (ifs : Array Nat := #[]) (fds : Array FieldInfo := #[]) : ClassFile where
  minorVersion := 0
  majorVersion := 65
  constantPool := pool
  accessFlags := fl
  thisClass := this
  superClass := sup
  interfaces := ifs
  fields := fds
  methods := ms
  attributes := attrs
def plain (name : String) (sup : Option ClassId) : Class where
  name := name
  kind := .ordinary
  loader := none
  accessFlags := 33
  super := sup
  interfaces := #[]
  cf := none
  fields := #[]
  methods := #[]
  instanceTypes := #[]
  staticTypes := #[]
  resolved := #[]
  callSites := []
  init := .initialized
  statics := none
  mirror := none

def pool0 : Array CpInfo := pool [(5, u "<init>"), (0, u "()V"), (1, .class_ 10), (1, u "java/lang/Object")] 113

def k0m0 : Method := { name := "<init>", desc := "()V", sig := { parameters := [], returnType := none }, accessFlags := 1, code := none }
/-- java/lang/Object -/
def k0 : Class := { plain "java/lang/Object" none with
  accessFlags := 33
  interfaces := #[]
  cf := some (fileOf pool0 8 #[] #[{ accessFlags := 1, nameIndex := 5, descriptorIndex := 6, attributes := #[] }] 33 0 #[] #[])
  fields := #[]
  methods := #[k0m0]
  instanceTypes := #[]
  staticTypes := #[]
  resolved := Array.replicate 124 none
  statics := none }

def pool1 : Array CpInfo := pool [(2, .class_ 4), (1, u "java/lang/Object"), (0, u "<init>"), (0, u "()V"), (0, .methodref 8 9), (0, .class_ 10), (0, .nameAndType 11 12), (0, u "com/example/corsia/corsia/engine/RecordResult$Outcome"), (0, u "of"), (0, u "(ZZ)Lcom/example/corsia/corsia/engine/RecordResult$Outcome;"), (0, .fieldref 8 14), (0, .nameAndType 15 16), (0, u "CLEAN"), (0, u "Lcom/example/corsia/corsia/engine/RecordResult$Outcome;"), (0, .fieldref 8 18), (0, .nameAndType 19 16), (0, u "FLAGGED"), (0, .fieldref 8 21), (0, .nameAndType 22 16), (0, u "DISCARDED"), (0, .class_ 24), (0, u "com/example/corsia/corsia/engine/OutcomeOfPinLaw"), (2, u "law"), (0, u "(II)Z")] 7

def k1m0 : Method := { name := "<init>", desc := "()V", sig := { parameters := [], returnType := none }, accessFlags := 1, code := none }
def k1c1 : Code := { maxStack := 2, maxLocals := 11, code := code, exceptionTable := #[], attributes := #[] }
def k1m1 : Method := { name := "law", desc := "(II)Z", sig := { parameters := [.int, .int], returnType := some .boolean }, accessFlags := 9, code := some k1c1 }
/-- com/example/corsia/corsia/engine/OutcomeOfPinLaw -/
def k1 : Class := { plain "com/example/corsia/corsia/engine/OutcomeOfPinLaw" (some 0) with
  accessFlags := 49
  interfaces := #[]
  cf := some (fileOf pool1 23 #[] #[{ accessFlags := 1, nameIndex := 5, descriptorIndex := 6, attributes := #[] }, { accessFlags := 9, nameIndex := 27, descriptorIndex := 28, attributes := #[] }] 49 2 #[] #[])
  fields := #[]
  methods := #[k1m0, k1m1]
  instanceTypes := #[]
  staticTypes := #[]
  resolved := Array.replicate 36 none
  statics := none }

def pool2 : Array CpInfo := pool [(1, .class_ 2), (0, u "java/lang/constant/Constable"), (0, .class_ 4), (0, u "java/lang/Object")] 6

/-- java/lang/constant/Constable -/
def k2 : Class := { plain "java/lang/constant/Constable" (some 0) with
  accessFlags := 1537
  interfaces := #[]
  cf := some (fileOf pool2 1 #[] #[] 1537 3 #[] #[])
  fields := #[]
  methods := #[]
  instanceTypes := #[]
  staticTypes := #[]
  resolved := Array.replicate 11 none
  statics := none }

def pool3 : Array CpInfo := pool [(1, .class_ 2), (0, u "java/lang/Comparable"), (0, .class_ 4), (0, u "java/lang/Object")] 7

/-- java/lang/Comparable -/
def k3 : Class := { plain "java/lang/Comparable" (some 0) with
  accessFlags := 1537
  interfaces := #[]
  cf := some (fileOf pool3 1 #[] #[] 1537 3 #[] #[])
  fields := #[]
  methods := #[]
  instanceTypes := #[]
  staticTypes := #[]
  resolved := Array.replicate 12 none
  statics := none }

def pool4 : Array CpInfo := pool [(1, .class_ 2), (0, u "java/io/Serializable"), (0, .class_ 4), (0, u "java/lang/Object")] 2

/-- java/io/Serializable -/
def k4 : Class := { plain "java/io/Serializable" (some 0) with
  accessFlags := 1537
  interfaces := #[]
  cf := some (fileOf pool4 1 #[] #[] 1537 3 #[] #[])
  fields := #[]
  methods := #[]
  instanceTypes := #[]
  staticTypes := #[]
  resolved := Array.replicate 7 none
  statics := none }

def pool5 : Array CpInfo := pool [(2, .class_ 4), (1, u "java/lang/Enum"), (0, u "name"), (0, u "Ljava/lang/String;"), (2, u "ordinal"), (0, u "I"), (1, .class_ 14), (1, u "java/lang/Object"), (4, u "hash"), (86, .class_ 108), (1, u "java/lang/Enum$EnumDesc"), (2, .class_ 112), (0, u "java/lang/constant/Constable"), (0, .class_ 114), (0, u "java/lang/Comparable"), (0, .class_ 116), (0, u "java/io/Serializable")] 87

/-- java/lang/Enum -/
def k5 : Class := { plain "java/lang/Enum" (some 0) with
  accessFlags := 1057
  interfaces := #[2, 3, 4]
  cf := some (fileOf pool5 2 #[.nestMembers #[106]] #[] 1057 12 #[111, 113, 115] #[{ accessFlags := 18, nameIndex := 5, descriptorIndex := 6, attributes := #[] }, { accessFlags := 18, nameIndex := 9, descriptorIndex := 10, attributes := #[] }, { accessFlags := 2, nameIndex := 19, descriptorIndex := 10, attributes := #[] }])
  fields := #[{ name := "name", type := (.object "java/lang/String"), accessFlags := 18, slot := 0, constantValue := 0 }, { name := "ordinal", type := .int, accessFlags := 18, slot := 1, constantValue := 0 }, { name := "hash", type := .int, accessFlags := 2, slot := 2, constantValue := 0 }]
  methods := #[]
  instanceTypes := #[(.object "java/lang/String"), .int, .int]
  staticTypes := #[]
  resolved := Array.replicate 204 none
  statics := none }

def pool6 : Array CpInfo := pool [(1, .class_ 2), (0, u "com/example/corsia/corsia/engine/RecordResult$Outcome"), (0, .fieldref 1 4), (0, .nameAndType 5 6), (0, u "CLEAN"), (0, u "Lcom/example/corsia/corsia/engine/RecordResult$Outcome;"), (0, .fieldref 1 8), (0, .nameAndType 9 6), (0, u "FLAGGED"), (0, .fieldref 1 11), (0, .nameAndType 12 6), (0, u "DISCARDED"), (2, u "$VALUES"), (0, u "[Lcom/example/corsia/corsia/engine/RecordResult$Outcome;"), (6, .class_ 25), (1, u "java/lang/Enum"), (24, u "label"), (0, u "Ljava/lang/String;"), (15, u "of"), (0, u "(ZZ)Lcom/example/corsia/corsia/engine/RecordResult$Outcome;"), (6, .class_ 76), (0, u "com/example/corsia/corsia/engine/RecordResult")] 2

def k6c0 : Code := { maxStack := 1, maxLocals := 2, code := prog_90_method_5_code, exceptionTable := #[], attributes := #[] }
def k6m0 : Method := { name := "of", desc := "(ZZ)Lcom/example/corsia/corsia/engine/RecordResult$Outcome;", sig := { parameters := [.boolean, .boolean], returnType := some (.object "com/example/corsia/corsia/engine/RecordResult$Outcome") }, accessFlags := 8, code := some k6c0 }
/-- com/example/corsia/corsia/engine/RecordResult$Outcome -/
def k6 : Class := { plain "com/example/corsia/corsia/engine/RecordResult$Outcome" (some 5) with
  accessFlags := 16433
  interfaces := #[]
  cf := some (fileOf pool6 1 #[.nestHost 75] #[{ accessFlags := 8, nameIndex := 67, descriptorIndex := 68, attributes := #[] }] 16433 23 #[] #[{ accessFlags := 16409, nameIndex := 5, descriptorIndex := 6, attributes := #[] }, { accessFlags := 16409, nameIndex := 9, descriptorIndex := 6, attributes := #[] }, { accessFlags := 16409, nameIndex := 12, descriptorIndex := 6, attributes := #[] }, { accessFlags := 18, nameIndex := 50, descriptorIndex := 51, attributes := #[] }, { accessFlags := 4122, nameIndex := 15, descriptorIndex := 16, attributes := #[] }])
  fields := #[{ name := "CLEAN", type := (.object "com/example/corsia/corsia/engine/RecordResult$Outcome"), accessFlags := 16409, slot := 0, constantValue := 0 }, { name := "FLAGGED", type := (.object "com/example/corsia/corsia/engine/RecordResult$Outcome"), accessFlags := 16409, slot := 1, constantValue := 0 }, { name := "DISCARDED", type := (.object "com/example/corsia/corsia/engine/RecordResult$Outcome"), accessFlags := 16409, slot := 2, constantValue := 0 }, { name := "label", type := (.object "java/lang/String"), accessFlags := 18, slot := 3, constantValue := 0 }, { name := "$VALUES", type := (.array (.object "com/example/corsia/corsia/engine/RecordResult$Outcome")), accessFlags := 4122, slot := 3, constantValue := 0 }]
  methods := #[k6m0]
  instanceTypes := #[(.object "java/lang/String"), .int, .int, (.object "java/lang/String")]
  staticTypes := #[(.object "com/example/corsia/corsia/engine/RecordResult$Outcome"), (.object "com/example/corsia/corsia/engine/RecordResult$Outcome"), (.object "com/example/corsia/corsia/engine/RecordResult$Outcome"), (.array (.object "com/example/corsia/corsia/engine/RecordResult$Outcome"))]
  resolved := Array.replicate 79 none
  statics := some 0 }

def pool7 : Array CpInfo := pool [(1, u "java/lang/Cloneable"), (0, .class_ 1), (0, u "java/lang/Object"), (0, .class_ 3)] 3

/-- java/lang/Cloneable -/
def k7 : Class := { plain "java/lang/Cloneable" (some 0) with
  accessFlags := 1537
  interfaces := #[]
  cf := some (fileOf pool7 2 #[] #[] 1537 4 #[] #[])
  fields := #[]
  methods := #[]
  instanceTypes := #[]
  staticTypes := #[]
  resolved := Array.replicate 8 none
  statics := none }

/-- the primitive byte -/
def k8 : Class := { plain "byte" none with kind := .primitive 'B', accessFlags := 0x411 }
/-- [B -/
def k9 : Class := { plain "[B" (some 0) with kind := .array 8 .byte, interfaces := #[7, 4], accessFlags := 1041 }

/-- the primitive int -/
def k10 : Class := { plain "int" none with kind := .primitive 'I', accessFlags := 0x411 }
/-- [I -/
def k11 : Class := { plain "[I" (some 0) with kind := .array 10 .int, interfaces := #[7, 4], accessFlags := 1041 }

def heap : Heap := #[{ cls := 6, slots := #[.ref 1, .ref 2, .ref 3, .null], vm := .statics 6 },
  { cls := 6, slots := #[.null, .int 0, .int 0, .null], vm := .none },
  { cls := 6, slots := #[.null, .int 1, .int 0, .null], vm := .none },
  { cls := 6, slots := #[.null, .int 2, .int 0, .null], vm := .none }]
def classes : Array Class := #[k0, k1, k2, k3, k4, k5, k6, k7, k8, k9, k10, k11]
def interned : List (Array UInt16 × Addr) := []
def slotsUsed : Nat := 16
def theMethod : MethodId := ⟨1, 1⟩
def args0 : Array Value := #[.int 5, .int 2]
def aboutOver (below : List Frame) : State where
  vm := { classes := classes, interned := interned.toArray }
  heap := heap
  slotsUsed := slotsUsed
  threads := #[{ frames := .invoking theMethod args0 :: below }]
def below0 : List Frame := [.native { method := ⟨0, 0⟩, args := #[] }]
def about1 : State := aboutOver below0
def p0 : Program := .bare "" "" ""
def e0 : Env := launch0.env 0 0 0
theorem w_frames : about1.frames = Frame.invoking theMethod args0 :: below0 := rfl
set_option maxRecDepth 65536 in
theorem w_args : argsFit about1.vm theMethod args0 = true := by decide +kernel
set_option maxRecDepth 65536 in
theorem w_heap : heapFits about1 = true := by decide +kernel
set_option maxRecDepth 65536 in
theorem w_runnable : about1.curStatus? = some .runnable := by decide +kernel
set_option maxRecDepth 65536 in
theorem w_alone : about1.alone = true := by decide +kernel
set_option maxRecDepth 65536 in
theorem w_named : about1.methodNamed? x = some theMethod := by decide +kernel
set_option maxRecDepth 65536 in
theorem w_hears : about1.hears theMethod below0 = true := by decide +kernel
set_option maxRecDepth 65536 in
theorem w_ripe : about1.ripe theMethod args0 below0 = true := by decide +kernel
theorem w_running : about1.status = .running := rfl
set_option maxRecDepth 65536 in
theorem w_room : about1.hasRoom e0.platform room_1 = true :=
  launch0.hasRoom_least _ room_1 (by decide +kernel) (by decide +kernel) (by decide +kernel) (by decide +kernel) (by decide +kernel) (by decide +kernel)
theorem allAtoms_all (ts : List Jvm.Cond) (a : Array Jvm.Value) (st : Jvm.State) : (allAtoms ts).before a st = ts.all (fun c => c.before a st) := by
  induction ts with
  | nil => rfl
  | cons c t ih =>
    show (Jvm.Cond.and c (allAtoms t)).before a st = _
    rw [Jvm.Cond.before_and, ih, List.all_cons]
def words1 : List Jvm.Cond := Jvm.Cond.code x code maxLocals ret :: tables_1
/-- a 'code' word, met by the world's own term for the bytes: nothing is compared byte by byte -/
theorem code_word {y : MethodName} {bytes : ByteArray} {mx : Nat} {rt : Option FieldType} {a : Array Value} {s : State} {m : MethodId} {meth : Method} {c : Code} (h1 : s.methodNamed? y = some m) (h2 : s.vm.method? m = some meth) (h3 : meth.code = some c) (h4 : c.code = bytes)
    (h5 : (c.maxLocals == mx && c.exceptionTable.isEmpty && decide (c.maxStack ≤ mostOperands) && decide (meth.sig.returnType = rt) && !meth.locks && decide (parseMethodDescriptor y.desc = some meth.sig)) = true) : (Jvm.Cond.code y bytes mx rt).before a s = true := by
  simp only [Bool.and_eq_true, beq_iff_eq, Bool.not_eq_true', decide_eq_true_eq] at h5
  obtain ⟨⟨⟨⟨⟨g1, g2⟩, g3⟩, g4⟩, g5⟩, g6⟩ := h5
  simp [Cond.before, Cond.holds, Cond.value, h1, h2, h3, h4, g1, g2, g3, g4, g5, g6]
def isCode : Jvm.Cond → Bool
  | .code _ _ _ _ => true
  | _ => false
theorem all_split {L : List Jvm.Cond} {P : Jvm.Cond → Bool} (h1 : L.all (fun c => isCode c || P c) = true) (h2 : ∀ c ∈ L.filter isCode, P c = true) : L.all P = true := by
  refine List.all_eq_true.mpr fun c hc => ?_
  have h := List.all_eq_true.mp h1 c hc
  rcases Bool.eq_false_or_eq_true (isCode c) with hi | hi
  · exact h2 c (List.mem_filter.mpr ⟨hc, hi⟩)
  · simpa [hi] using h
set_option maxRecDepth 65536 in
theorem w_c0 : (Jvm.Cond.code x code maxLocals ret).before args0 about1 = true := code_word (m := ⟨1, 1⟩) (meth := k1m1) (c := k1c1) (by decide +kernel) rfl rfl rfl (by decide +kernel)
set_option maxRecDepth 65536 in
theorem w_c1 : (Jvm.Cond.code ({ cls := "com/example/corsia/corsia/engine/RecordResult$Outcome", name := "of", desc := "(ZZ)Lcom/example/corsia/corsia/engine/RecordResult$Outcome;" } : Jvm.MethodName) prog_90_method_5_code (2 : Nat) (Option.some (Jvm.ClassFile.FieldType.object "com/example/corsia/corsia/engine/RecordResult$Outcome"))).before args0 about1 = true := code_word (m := ⟨6, 0⟩) (meth := k6m0) (c := k6c0) (by decide +kernel) rfl rfl rfl (by decide +kernel)
def codes1 : List Jvm.Cond := [Jvm.Cond.code x code maxLocals ret, Jvm.Cond.code ({ cls := "com/example/corsia/corsia/engine/RecordResult$Outcome", name := "of", desc := "(ZZ)Lcom/example/corsia/corsia/engine/RecordResult$Outcome;" } : Jvm.MethodName) prog_90_method_5_code (2 : Nat) (Option.some (Jvm.ClassFile.FieldType.object "com/example/corsia/corsia/engine/RecordResult$Outcome"))]
set_option maxRecDepth 65536 in
theorem codes_eq : words1.filter isCode = codes1 := rfl
theorem w_codes : ∀ c ∈ words1.filter isCode, c.before args0 about1 = true := by
  rw [codes_eq]
  intro c hc
  simp only [codes1, List.mem_cons, List.not_mem_nil, or_false] at hc
  rcases hc with rfl | rfl
  · exact w_c0
  · exact w_c1
set_option maxRecDepth 65536 in
theorem w_t1 : words1.all (fun c => isCode c || c.before args0 about1) = true := by decide +kernel
theorem w_tables : (allAtoms (Jvm.Cond.code x code maxLocals ret :: tables_1)).before args0 about1 = true := by
  rw [allAtoms_all]
  show words1.all (fun c => c.before args0 about1) = true
  refine all_split ?_ w_codes
  rw [w_t1]
set_option maxRecDepth 65536 in
theorem w_case : (Jvm.Cond.and given_1 narrow_1).before args0 about1 = true := by decide +kernel
theorem w_applies : (headSpec (Jvm.Cond.code x code maxLocals ret :: tables_1) room_1).applies x e0.platform about1 = true :=
  (Spec.applies_iff w_frames).mpr ⟨w_running, w_runnable, w_alone, w_named, w_hears, w_ripe, w_room, w_tables⟩
theorem atStart : AtStart classFile x code maxLocals ret World_1 tables_1 room_1 Calls_1 rest_1 Pre_1 launch0 p0 e0 about1 theMethod args0 below0 :=
  ⟨lists_1, trivial, launch0.admits_env _ _ _, launch0.least_env, fairChoices_fair.cas, fairChoices_fair.clock, w_frames, w_args, w_heap, w_applies, trivial, trivial, w_case⟩
end start1
theorem witness_1 : WitnessClaimed_1 := ⟨start1.p0, start1.e0, start1.about1, start1.theMethod, start1.args0, start1.below0, start1.atStart⟩
end Jvm.Pilot.@@N@@
