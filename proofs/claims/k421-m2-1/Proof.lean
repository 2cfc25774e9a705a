import JvmDerived
import JvmDerived.Pilot.@@N@@Statement
import JvmDerived.Pilot.@@N@@Code
set_option linter.unusedVariables false
set_option linter.unusedSimpArgs false
namespace Jvm.RoadKit
open Sem ClassFile Op Lib Jvm.Stand Jvm.Free Jvm.LawKit
section New
variable {p : Program} {l : Launch} {e : Env} {R : Room} {s : State} {m : MethodId} {args : Array Value} {below : List Frame} {meth : Method} {c : Code} {T : State} {locs : List Loc} {cells slots : Nat}
theorem retI (X : Stand p l e R s m args below meth c T locs cells slots) (hx : p.tables.exec = Jvm.exec) {pc : Nat} {Ls : Array Slot} {z : Int32} {rest : List Value} (hret : meth.sig.returnType = some .int) (hd : decode c.code pc = .ok (.ireturn, 1)) {fs : List Frame}
    (hl : ∀ (f : JFrame) (acts : List Action), f.method = m → f.locked = none → f.entered = [] → (doReturn e (T.setTop f) acts (some (.int z))).1 = T.setFrames fs) : Steps p.tables e below (T.setTop (mkF m pc Ls (.int z :: rest))) (T.setFrames fs) := by
  have hm' : T.vm.method? m = some meth := X.method'
  have hn : narrow .int (.int z) = .int z := rfl
  show Steps p.tables e below (T.setTop { method := m, pc := pc, locals := Ls, stack := _ :: rest, locked := none }) _
  jvm_step X.here [X.here.top, hx, hd, hm', hret, hn]
  first | (intro acts; rw [hl _ acts rfl rfl rfl]) | rw [hl _ _ rfl rfl rfl]
  exact Steps.refl _
end New
end Jvm.RoadKit
namespace Jvm.Pilot.@@N@@
open Jvm Jvm.ClassFile Sem Op Lib Jvm.Free Jvm.Stand Jvm.LawKit Jvm.RoadKit Bundle Jvm.Pilot.@@N@@.Jvm.D
theorem own_fldI {s : State} {args : Array Value} {t : Term} {x : Addr} {C n d : String} {k : Int32} (ev : t.eval args s none [] s = some (.ref x)) (h : (Cond.eq (.field t C n d) (.int k)).value args s none s [] = some true) : Fld s s.heap x C n d (.int k) := by
  refine Fld.start ?_
  have e := fld_at (C := C) (n := n) (dd := d) ev
  cases hq : s.fieldOf? x C n d with
  | none => rw [hq] at e; simp [Cond.value, e] at h
  | some v =>
    rw [hq] at e
    have e2 : (Term.int k).eval args s none [] s = some (.int k) := rfl
    cases v <;> simp [Cond.value, e, e2] at h
    rw [h]
theorem own_fldN {s : State} {args : Array Value} {t : Term} {x : Addr} {C n d : String} (ev : t.eval args s none [] s = some (.ref x)) (h : (Cond.eq (.field t C n d) .null).value args s none s [] = some true) : Fld s s.heap x C n d .null := by
  refine Fld.start ?_
  rw [← fld_at (C := C) (n := n) (dd := d) ev]
  exact null_v h
theorem own_fldR {s : State} {args : Array Value} {t u : Term} {x y : Addr} {C n d : String} (ev : t.eval args s none [] s = some (.ref x)) (eu : u.eval args s none [] s = some (.ref y)) (h : (Cond.eq (.field t C n d) u).value args s none s [] = some true) : Fld s s.heap x C n d (.ref y) := by
  refine Fld.start ?_
  have e := fld_at (C := C) (n := n) (dd := d) ev
  cases hq : s.fieldOf? x C n d with
  | none => rw [hq] at e; simp [Cond.value, e] at h
  | some v =>
    rw [hq] at e
    cases v <;> simp [Cond.value, e, eu] at h
    rw [h]
theorem own_staI {s : State} {args : Array Value} {C n d : String} {k : Int32} (h : (Cond.eq (.static C n d) (.int k)).value args s none s [] = some true) : (Term.static C n d).eval args s none [] s = some (.int k) := by
  cases hq : (Term.static C n d).eval args s none [] s with
  | none => simp [Cond.value, hq] at h
  | some v =>
    have e2 : (Term.int k).eval args s none [] s = some (.int k) := rfl
    cases v <;> simp [Cond.value, hq, e2] at h
    rw [h]
theorem own_elemR {s : State} {args : Array Value} {t u : Term} {x y : Addr} {cl : Cell} {j : Int32} (ev : t.eval args s none [] s = some (.ref x)) (eu : u.eval args s none [] s = some (.ref y)) (hc : s.heap[x]? = some cl) (h : (Cond.eq (.elem t (.int j)) u).value args s none s [] = some true) : cl.slots[j.toNatClampNeg]? = some (.ref y) := by
  cases hq : (Term.elem t (.int j)).eval args s none [] s with
  | none => simp [Cond.value, hq] at h
  | some v =>
    have e := (elem_in hq ev rfl hc).2
    cases v <;> simp [Cond.value, hq, eu] at h
    rw [e, h]
theorem own_fresh {Z : State} {h : Heap} {a b : Addr} {C n d : String} {v w : Value} (F : Fld Z h a C n d v) (G : Fld Z h b C n d w) (q : v ≠ w) : a ≠ b := F.ne G q
theorem own_sta_keep {Z : State} {h h' : Heap} {C n d : String} {v : Value} {ws : List Addr} (F : Sta Z h C n d v) (K : Keep h h' ws) (q : ∀ x ∈ ws, ∀ c : Cell, h[x]? = some c → c.vm.isStatics = false) : Sta Z h' C n d v := by
  obtain ⟨cf, i, k, f, st, cell, h1, h2, h3, h4, h5, h6, h7⟩ := F
  refine ⟨cf, i, k, f, st, cell, h1, h2, h3, h4, K.2.1 st cell h5 (fun hm => ?_), h6, h7⟩
  rw [q st hm cell h5] at h6; cases h6
theorem own_mono {p : Program} {l : Launch} {e : Env} {R : Room} {s : State} {m : MethodId} {args : Array Value} {below : List Frame} {meth : Method} {c : Code} {T : State} {locs : List Loc} {k j k' j' : Nat} (X : Stand p l e R s m args below meth c T locs k j) (hk : k ≤ k') (hj : j ≤ j') : Stand p l e R s m args below meth c T locs k' j' := { X with same := X.same.mono hk hj }
theorem own_nost {Z : State} {h : Heap} {a : Addr} {C : String} (F : Exa Z h a C) : ∀ c : Cell, h[a]? = some c → c.vm.isStatics = false := fun c hc => by
  obtain ⟨c', _, h1, -, -, h4, -⟩ := F
  cases h1.symm.trans hc; exact h4
theorem own_nostV {Z : State} {h : Heap} {a : Addr} {k : ClassId} {ty : FieldType} {z : Int32} {vs : List Value} {dv : Value} (F : Arv Z h a k ty z vs dv) : ∀ c : Cell, h[a]? = some c → c.vm.isStatics = false := fun c hc => by
  obtain ⟨c', A, -⟩ := F
  cases A.1.symm.trans hc; exact A.plain
theorem d0_0 : decode method_2_code 0 = .ok (.iload_n 0, 1) := by decide +kernel
theorem d0_1 : decode method_2_code 1 = .ok (.ifCond .ne 5, 3) := by decide +kernel
theorem d0_4 : decode method_2_code 4 = .ok (.iconst (-1), 1) := by decide +kernel
theorem d0_5 : decode method_2_code 5 = .ok (.ireturn, 1) := by decide +kernel
theorem pn_1 : plainName "com/example/tracewright/tracewright/engine/expr/UnaryOpAcceptsPinLaw" = true := by first | (simp [plainName, overriddenIn]; done) | decide +kernel
theorem d0_6 : decode method_2_code 6 = .ok (.iload_n 0, 1) := by decide +kernel
theorem d0_7 : decode method_2_code 7 = .ok (.iconst 3, 1) := by decide +kernel
theorem d0_8 : decode method_2_code 8 = .ok (.if_icmp .gt 5, 3) := by decide +kernel
theorem d0_11 : decode method_2_code 11 = .ok (.iconst 0, 1) := by decide +kernel
theorem d0_12 : decode method_2_code 12 = .ok (.ireturn, 1) := by decide +kernel
theorem d0_13 : decode method_2_code 13 = .ok (.iload_n 0, 1) := by decide +kernel
theorem d0_14 : decode method_2_code 14 = .ok (.bipush 6, 2) := by decide +kernel
theorem d0_16 : decode method_2_code 16 = .ok (.if_icmp .gt 5, 3) := by decide +kernel
theorem d0_19 : decode method_2_code 19 = .ok (.iconst 1, 1) := by decide +kernel
theorem d0_20 : decode method_2_code 20 = .ok (.ireturn, 1) := by decide +kernel
theorem d0_21 : decode method_2_code 21 = .ok (.iload_n 0, 1) := by decide +kernel
theorem d0_22 : decode method_2_code 22 = .ok (.bipush 9, 2) := by decide +kernel
theorem d0_24 : decode method_2_code 24 = .ok (.if_icmp .gt 5, 3) := by decide +kernel
theorem d0_27 : decode method_2_code 27 = .ok (.iconst 2, 1) := by decide +kernel
theorem d0_28 : decode method_2_code 28 = .ok (.ireturn, 1) := by decide +kernel
theorem d0_29 : decode method_2_code 29 = .ok (.iload_n 0, 1) := by decide +kernel
theorem d0_30 : decode method_2_code 30 = .ok (.bipush 12, 2) := by decide +kernel
theorem d0_32 : decode method_2_code 32 = .ok (.if_icmp .gt 5, 3) := by decide +kernel
theorem d0_35 : decode method_2_code 35 = .ok (.iconst 3, 1) := by decide +kernel
theorem d0_36 : decode method_2_code 36 = .ok (.ireturn, 1) := by decide +kernel
theorem d0_37 : decode method_2_code 37 = .ok (.iconst 0, 1) := by decide +kernel
theorem d0_38 : decode method_2_code 38 = .ok (.ireturn, 1) := by decide +kernel
theorem d2_0 : decode prog_43_method_5_code 0 = .ok (.aload_n 0, 1) := by decide +kernel
theorem d2_1 : decode prog_43_method_5_code 1 = .ok (.getfield 71, 3) := by decide +kernel
theorem d2_4 : decode prog_43_method_5_code 4 = .ok (.ifnull 11, 3) := by decide +kernel
theorem d2_15 : decode prog_43_method_5_code 15 = .ok (.iconst 1, 1) := by decide +kernel
theorem d2_16 : decode prog_43_method_5_code 16 = .ok (.goto 4, 3) := by decide +kernel
theorem d2_20 : decode prog_43_method_5_code 20 = .ok (.ireturn, 1) := by decide +kernel
theorem pn_3 : plainName "com/example/tracewright/tracewright/engine/expr/UnaryOp" = true := by first | (simp [plainName, overriddenIn]; done) | decide +kernel
theorem d2_7 : decode prog_43_method_5_code 7 = .ok (.aload_n 0, 1) := by decide +kernel
theorem d2_8 : decode prog_43_method_5_code 8 = .ok (.getfield 71, 3) := by decide +kernel
theorem d2_11 : decode prog_43_method_5_code 11 = .ok (.aload_n 1, 1) := by decide +kernel
theorem d2_12 : decode prog_43_method_5_code 12 = .ok (.if_acmp .ne 7, 3) := by decide +kernel
theorem d2_19 : decode prog_43_method_5_code 19 = .ok (.iconst 0, 1) := by decide +kernel
theorem pd_5 : parseMethodDescriptor "(Lcom/example/tracewright/tracewright/engine/expr/Kind;)Z" = some ⟨[(.object "com/example/tracewright/tracewright/engine/expr/Kind")], some .boolean⟩ := by decide +kernel
theorem pd_6 : parseMethodDescriptor "(I)I" = some ⟨[.int], some .int⟩ := by decide +kernel
theorem own_andle (x m : Int32) : (x &&& m).toBitVec.toNat ≤ m.toBitVec.toNat := by
  rw [Int32.toBitVec_and, BitVec.toNat_and]; exact Nat.and_le_right
theorem own_cases {y : Int32} {n : Nat} (h : y.toBitVec.toNat ≤ n) : ∃ k, k ≤ n ∧ y = Int32.ofNat k := ⟨y.toBitVec.toNat, h, by
  apply Int32.toBitVec_inj.mp
  show _ = BitVec.ofNat 32 _
  simp⟩
theorem own_and3 (x : Int32) : x &&& (3 : Int32) = (0 : Int32) ∨ x &&& (3 : Int32) = (1 : Int32) ∨ x &&& (3 : Int32) = (2 : Int32) ∨ x &&& (3 : Int32) = (3 : Int32) := by
  obtain ⟨k, hk, e⟩ := own_cases (own_andle x 3)
  have hk' : k ≤ 3 := hk
  rw [e]
  have : k = 0 ∨ k = 1 ∨ k = 2 ∨ k = 3 := by omega
  rcases this with rfl | rfl | rfl | rfl <;> decide
theorem own_and15 (x : Int32) : x &&& (15 : Int32) = (0 : Int32) ∨ x &&& (15 : Int32) = (1 : Int32) ∨ x &&& (15 : Int32) = (2 : Int32) ∨ x &&& (15 : Int32) = (3 : Int32) ∨ x &&& (15 : Int32) = (4 : Int32) ∨ x &&& (15 : Int32) = (5 : Int32) ∨ x &&& (15 : Int32) = (6 : Int32) ∨ x &&& (15 : Int32) = (7 : Int32) ∨ x &&& (15 : Int32) = (8 : Int32) ∨ x &&& (15 : Int32) = (9 : Int32) ∨ x &&& (15 : Int32) = (10 : Int32) ∨ x &&& (15 : Int32) = (11 : Int32) ∨ x &&& (15 : Int32) = (12 : Int32) ∨ x &&& (15 : Int32) = (13 : Int32) ∨ x &&& (15 : Int32) = (14 : Int32) ∨ x &&& (15 : Int32) = (15 : Int32) := by
  obtain ⟨k, hk, e⟩ := own_cases (own_andle x 15)
  have hk' : k ≤ 15 := hk
  rw [e]
  have : k = 0 ∨ k = 1 ∨ k = 2 ∨ k = 3 ∨ k = 4 ∨ k = 5 ∨ k = 6 ∨ k = 7 ∨ k = 8 ∨ k = 9 ∨ k = 10 ∨ k = 11 ∨ k = 12 ∨ k = 13 ∨ k = 14 ∨ k = 15 := by omega
  rcases this with rfl | rfl | rfl | rfl | rfl | rfl | rfl | rfl | rfl | rfl | rfl | rfl | rfl | rfl | rfl | rfl <;> decide
theorem ef_own_src0 (m : MethodId)  : entryFrame m #[(.int (0 : Int32))] 1 = mkF m 0 #[.val (.int (0 : Int32))] [] := by first | (simp [entryFrame, mkF, argsToLocals, Value.category]; done) | rfl
def Q_own_src0 (Z : State)   (h0 : Heap) (n0 : Nat) (v : Option Value) (h : Heap) (L : List Loc) : Prop := v = some (.int (-1 : Int32)) ∧ Fr n0 L ∧ h = h0
set_option maxRecDepth 65536 in
set_option maxHeartbeats 40000000 in
theorem own_src0 (l : Launch) (Z : State) (a0 : Array Value) (hw : ∀ d ∈ tables_1, d.before a0 Z = true) (ws : List Jvm.Cond)   (h0 : Heap) (n0 : Nat) (Z0 : n0 ≤ h0.size) :
    MetFree l (⟨"com/example/tracewright/tracewright/engine/expr/UnaryOpAcceptsPinLaw", "sourceKindIndex", "(I)I"⟩ : MethodName) (head1 (Jvm.Cond.code (⟨"com/example/tracewright/tracewright/engine/expr/UnaryOpAcceptsPinLaw", "sourceKindIndex", "(I)I"⟩ : MethodName) method_2_code 1 (some .int) :: ws) ({ frames := 0, cells := 0, slots := 0, locals := 0 } : Room)) (fun a U => a = #[(.int (0 : Int32))] ∧ Z.Warmed39 U.vm ∧ U.heap = h0) (fun _ _ _ _ _ => True) (fun _ U o U' => ∃ v L, o = .returned v ∧ Q_own_src0 Z  h0 n0 v U'.heap L ∧ FrameEnd U o U' L ({ frames := 0, cells := 0, slots := 0, locals := 0 } : Room).cells ({ frames := 0, cells := 0, slots := 0, locals := 0 } : Room).slots) := by
  refine MetFree.of_bodySF (plainFor_of_name pn_1) hisR ?_
  intro p e s m args below meth c s₁ Bd hml0 hP hK
  obtain ⟨rfl, hZ, hh⟩ := hP
  have hx := Bd.exec
  have hby := Bd.bytes
  have hml : c.maxLocals = 1 := hml0
  have hown : s.vm.findClass "com/example/tracewright/tracewright/engine/expr/UnaryOpAcceptsPinLaw" = some m.cls := findClass_of_methodNamed Bd.named
  have hnm := (name_of_methodNamed Bd.named Bd.method).1
  have X0 : Stand p l e ({ frames := 0, cells := 0, slots := 0, locals := 0 } : Room) s m #[(.int (0 : Int32))] below meth c s₁ [] 0 0 := Stand.of_body Bd
  have e0 : s₁.heap = h0 := by rw [← hh, Bd.state]; rfl
  have N0 := Fr.nil n0
  have go0 : ∀ t, Steps p.tables e below (s₁.setTop (mkF m 0 #[.val (.int (0 : Int32))] [])) t → Steps p.tables e below (s₁.setTop (entryFrame m #[(.int (0 : Int32))] 1)) t := fun t k => castTop (ef_own_src0 m ) k
  revert go0
  generalize s₁.setTop (entryFrame m #[(.int (0 : Int32))] 1) = st0
  intro go0
  have go1 : ∀ t, Steps p.tables e below (s₁.setTop (mkF m 5 #[.val (.int (0 : Int32))] [(.int (-1 : Int32))])) t → Steps p.tables e below st0 t := by
    intro t kt
    refine go0 t ?_
    refine XS.iloadN X0.here hx rfl (hb hby d0_0) rfl ?_
    show Steps p.tables e below (s₁.setTop (mkF m 1 #[.val (.int (0 : Int32))] [(.int (0 : Int32))])) _
    refine XS.ifNo X0.here hx rfl (hb hby d0_1) rfl ((if0 _ _).trans (teq (by decide : (0 : Int32) = (0 : Int32))).2) ?_
    show Steps p.tables e below (s₁.setTop (mkF m 4 #[.val (.int (0 : Int32))] [])) _
    refine XS.iconst X0.here hx rfl (hb hby d0_4) ?_
    show Steps p.tables e below (s₁.setTop (mkF m 5 #[.val (.int (0 : Int32))] [(.int (-1 : Int32))])) _
    exact kt
  obtain ⟨fs, hr, hrun, hended, hW, hsame⟩ := X0.leave (v := some (.int (-1 : Int32))) (fun h => by rw [Bd.returns] at h; cases h)
  refine ⟨_, _, go1 _ ?_, hrun, hended, _, _, rfl, ?_, ⟨_, rfl⟩, hW, hsame.mono (by decide) (by decide)⟩
  · exact retI X0 hx Bd.returns (hb hby d0_5) hr
  · show Q_own_src0 Z  h0 n0 _ s₁.heap _
    rw [e0]
    exact ⟨rfl, N0, rfl⟩
theorem ef_own_src1 (m : MethodId)  : entryFrame m #[(.int (1 : Int32))] 1 = mkF m 0 #[.val (.int (1 : Int32))] [] := by first | (simp [entryFrame, mkF, argsToLocals, Value.category]; done) | rfl
def Q_own_src1 (Z : State)   (h0 : Heap) (n0 : Nat) (v : Option Value) (h : Heap) (L : List Loc) : Prop := v = some (.int (0 : Int32)) ∧ Fr n0 L ∧ h = h0
set_option maxRecDepth 65536 in
set_option maxHeartbeats 40000000 in
theorem own_src1 (l : Launch) (Z : State) (a0 : Array Value) (hw : ∀ d ∈ tables_1, d.before a0 Z = true) (ws : List Jvm.Cond)   (h0 : Heap) (n0 : Nat) (Z0 : n0 ≤ h0.size) :
    MetFree l (⟨"com/example/tracewright/tracewright/engine/expr/UnaryOpAcceptsPinLaw", "sourceKindIndex", "(I)I"⟩ : MethodName) (head1 (Jvm.Cond.code (⟨"com/example/tracewright/tracewright/engine/expr/UnaryOpAcceptsPinLaw", "sourceKindIndex", "(I)I"⟩ : MethodName) method_2_code 1 (some .int) :: ws) ({ frames := 0, cells := 0, slots := 0, locals := 0 } : Room)) (fun a U => a = #[(.int (1 : Int32))] ∧ Z.Warmed39 U.vm ∧ U.heap = h0) (fun _ _ _ _ _ => True) (fun _ U o U' => ∃ v L, o = .returned v ∧ Q_own_src1 Z  h0 n0 v U'.heap L ∧ FrameEnd U o U' L ({ frames := 0, cells := 0, slots := 0, locals := 0 } : Room).cells ({ frames := 0, cells := 0, slots := 0, locals := 0 } : Room).slots) := by
  refine MetFree.of_bodySF (plainFor_of_name pn_1) hisR ?_
  intro p e s m args below meth c s₁ Bd hml0 hP hK
  obtain ⟨rfl, hZ, hh⟩ := hP
  have hx := Bd.exec
  have hby := Bd.bytes
  have hml : c.maxLocals = 1 := hml0
  have hown : s.vm.findClass "com/example/tracewright/tracewright/engine/expr/UnaryOpAcceptsPinLaw" = some m.cls := findClass_of_methodNamed Bd.named
  have hnm := (name_of_methodNamed Bd.named Bd.method).1
  have X0 : Stand p l e ({ frames := 0, cells := 0, slots := 0, locals := 0 } : Room) s m #[(.int (1 : Int32))] below meth c s₁ [] 0 0 := Stand.of_body Bd
  have e0 : s₁.heap = h0 := by rw [← hh, Bd.state]; rfl
  have N0 := Fr.nil n0
  have go0 : ∀ t, Steps p.tables e below (s₁.setTop (mkF m 0 #[.val (.int (1 : Int32))] [])) t → Steps p.tables e below (s₁.setTop (entryFrame m #[(.int (1 : Int32))] 1)) t := fun t k => castTop (ef_own_src1 m ) k
  revert go0
  generalize s₁.setTop (entryFrame m #[(.int (1 : Int32))] 1) = st0
  intro go0
  have go1 : ∀ t, Steps p.tables e below (s₁.setTop (mkF m 12 #[.val (.int (1 : Int32))] [(.int (0 : Int32))])) t → Steps p.tables e below st0 t := by
    intro t kt
    refine go0 t ?_
    refine XS.iloadN X0.here hx rfl (hb hby d0_0) rfl ?_
    show Steps p.tables e below (s₁.setTop (mkF m 1 #[.val (.int (1 : Int32))] [(.int (1 : Int32))])) _
    refine XS.ifYes X0.here hx rfl (pc0 := 1) (pc' := 6) rfl (hb hby d0_1) rfl ((if0 _ _).trans (feq (by decide : ¬ ((1 : Int32) = (0 : Int32)))).2) (by decide) (by decide) ?_
    show Steps p.tables e below (s₁.setTop (mkF m 6 #[.val (.int (1 : Int32))] [])) _
    refine XS.iloadN X0.here hx rfl (hb hby d0_6) rfl ?_
    show Steps p.tables e below (s₁.setTop (mkF m 7 #[.val (.int (1 : Int32))] [(.int (1 : Int32))])) _
    refine XS.iconst X0.here hx rfl (hb hby d0_7) ?_
    show Steps p.tables e below (s₁.setTop (mkF m 8 #[.val (.int (1 : Int32))] [(.int (3 : Int32)), (.int (1 : Int32))])) _
    refine XS.icmpNo X0.here hx rfl (hb hby d0_8) rfl (flt (by decide : ¬ ((3 : Int32) < (1 : Int32)))).2.2.1 ?_
    show Steps p.tables e below (s₁.setTop (mkF m 11 #[.val (.int (1 : Int32))] [])) _
    refine XS.iconst X0.here hx rfl (hb hby d0_11) ?_
    show Steps p.tables e below (s₁.setTop (mkF m 12 #[.val (.int (1 : Int32))] [(.int (0 : Int32))])) _
    exact kt
  obtain ⟨fs, hr, hrun, hended, hW, hsame⟩ := X0.leave (v := some (.int (0 : Int32))) (fun h => by rw [Bd.returns] at h; cases h)
  refine ⟨_, _, go1 _ ?_, hrun, hended, _, _, rfl, ?_, ⟨_, rfl⟩, hW, hsame.mono (by decide) (by decide)⟩
  · exact retI X0 hx Bd.returns (hb hby d0_12) hr
  · show Q_own_src1 Z  h0 n0 _ s₁.heap _
    rw [e0]
    exact ⟨rfl, N0, rfl⟩
theorem ef_own_src2 (m : MethodId)  : entryFrame m #[(.int (2 : Int32))] 1 = mkF m 0 #[.val (.int (2 : Int32))] [] := by first | (simp [entryFrame, mkF, argsToLocals, Value.category]; done) | rfl
def Q_own_src2 (Z : State)   (h0 : Heap) (n0 : Nat) (v : Option Value) (h : Heap) (L : List Loc) : Prop := v = some (.int (0 : Int32)) ∧ Fr n0 L ∧ h = h0
set_option maxRecDepth 65536 in
set_option maxHeartbeats 40000000 in
theorem own_src2 (l : Launch) (Z : State) (a0 : Array Value) (hw : ∀ d ∈ tables_1, d.before a0 Z = true) (ws : List Jvm.Cond)   (h0 : Heap) (n0 : Nat) (Z0 : n0 ≤ h0.size) :
    MetFree l (⟨"com/example/tracewright/tracewright/engine/expr/UnaryOpAcceptsPinLaw", "sourceKindIndex", "(I)I"⟩ : MethodName) (head1 (Jvm.Cond.code (⟨"com/example/tracewright/tracewright/engine/expr/UnaryOpAcceptsPinLaw", "sourceKindIndex", "(I)I"⟩ : MethodName) method_2_code 1 (some .int) :: ws) ({ frames := 0, cells := 0, slots := 0, locals := 0 } : Room)) (fun a U => a = #[(.int (2 : Int32))] ∧ Z.Warmed39 U.vm ∧ U.heap = h0) (fun _ _ _ _ _ => True) (fun _ U o U' => ∃ v L, o = .returned v ∧ Q_own_src2 Z  h0 n0 v U'.heap L ∧ FrameEnd U o U' L ({ frames := 0, cells := 0, slots := 0, locals := 0 } : Room).cells ({ frames := 0, cells := 0, slots := 0, locals := 0 } : Room).slots) := by
  refine MetFree.of_bodySF (plainFor_of_name pn_1) hisR ?_
  intro p e s m args below meth c s₁ Bd hml0 hP hK
  obtain ⟨rfl, hZ, hh⟩ := hP
  have hx := Bd.exec
  have hby := Bd.bytes
  have hml : c.maxLocals = 1 := hml0
  have hown : s.vm.findClass "com/example/tracewright/tracewright/engine/expr/UnaryOpAcceptsPinLaw" = some m.cls := findClass_of_methodNamed Bd.named
  have hnm := (name_of_methodNamed Bd.named Bd.method).1
  have X0 : Stand p l e ({ frames := 0, cells := 0, slots := 0, locals := 0 } : Room) s m #[(.int (2 : Int32))] below meth c s₁ [] 0 0 := Stand.of_body Bd
  have e0 : s₁.heap = h0 := by rw [← hh, Bd.state]; rfl
  have N0 := Fr.nil n0
  have go0 : ∀ t, Steps p.tables e below (s₁.setTop (mkF m 0 #[.val (.int (2 : Int32))] [])) t → Steps p.tables e below (s₁.setTop (entryFrame m #[(.int (2 : Int32))] 1)) t := fun t k => castTop (ef_own_src2 m ) k
  revert go0
  generalize s₁.setTop (entryFrame m #[(.int (2 : Int32))] 1) = st0
  intro go0
  have go1 : ∀ t, Steps p.tables e below (s₁.setTop (mkF m 12 #[.val (.int (2 : Int32))] [(.int (0 : Int32))])) t → Steps p.tables e below st0 t := by
    intro t kt
    refine go0 t ?_
    refine XS.iloadN X0.here hx rfl (hb hby d0_0) rfl ?_
    show Steps p.tables e below (s₁.setTop (mkF m 1 #[.val (.int (2 : Int32))] [(.int (2 : Int32))])) _
    refine XS.ifYes X0.here hx rfl (pc0 := 1) (pc' := 6) rfl (hb hby d0_1) rfl ((if0 _ _).trans (feq (by decide : ¬ ((2 : Int32) = (0 : Int32)))).2) (by decide) (by decide) ?_
    show Steps p.tables e below (s₁.setTop (mkF m 6 #[.val (.int (2 : Int32))] [])) _
    refine XS.iloadN X0.here hx rfl (hb hby d0_6) rfl ?_
    show Steps p.tables e below (s₁.setTop (mkF m 7 #[.val (.int (2 : Int32))] [(.int (2 : Int32))])) _
    refine XS.iconst X0.here hx rfl (hb hby d0_7) ?_
    show Steps p.tables e below (s₁.setTop (mkF m 8 #[.val (.int (2 : Int32))] [(.int (3 : Int32)), (.int (2 : Int32))])) _
    refine XS.icmpNo X0.here hx rfl (hb hby d0_8) rfl (flt (by decide : ¬ ((3 : Int32) < (2 : Int32)))).2.2.1 ?_
    show Steps p.tables e below (s₁.setTop (mkF m 11 #[.val (.int (2 : Int32))] [])) _
    refine XS.iconst X0.here hx rfl (hb hby d0_11) ?_
    show Steps p.tables e below (s₁.setTop (mkF m 12 #[.val (.int (2 : Int32))] [(.int (0 : Int32))])) _
    exact kt
  obtain ⟨fs, hr, hrun, hended, hW, hsame⟩ := X0.leave (v := some (.int (0 : Int32))) (fun h => by rw [Bd.returns] at h; cases h)
  refine ⟨_, _, go1 _ ?_, hrun, hended, _, _, rfl, ?_, ⟨_, rfl⟩, hW, hsame.mono (by decide) (by decide)⟩
  · exact retI X0 hx Bd.returns (hb hby d0_12) hr
  · show Q_own_src2 Z  h0 n0 _ s₁.heap _
    rw [e0]
    exact ⟨rfl, N0, rfl⟩
theorem ef_own_src3 (m : MethodId)  : entryFrame m #[(.int (3 : Int32))] 1 = mkF m 0 #[.val (.int (3 : Int32))] [] := by first | (simp [entryFrame, mkF, argsToLocals, Value.category]; done) | rfl
def Q_own_src3 (Z : State)   (h0 : Heap) (n0 : Nat) (v : Option Value) (h : Heap) (L : List Loc) : Prop := v = some (.int (0 : Int32)) ∧ Fr n0 L ∧ h = h0
set_option maxRecDepth 65536 in
set_option maxHeartbeats 40000000 in
theorem own_src3 (l : Launch) (Z : State) (a0 : Array Value) (hw : ∀ d ∈ tables_1, d.before a0 Z = true) (ws : List Jvm.Cond)   (h0 : Heap) (n0 : Nat) (Z0 : n0 ≤ h0.size) :
    MetFree l (⟨"com/example/tracewright/tracewright/engine/expr/UnaryOpAcceptsPinLaw", "sourceKindIndex", "(I)I"⟩ : MethodName) (head1 (Jvm.Cond.code (⟨"com/example/tracewright/tracewright/engine/expr/UnaryOpAcceptsPinLaw", "sourceKindIndex", "(I)I"⟩ : MethodName) method_2_code 1 (some .int) :: ws) ({ frames := 0, cells := 0, slots := 0, locals := 0 } : Room)) (fun a U => a = #[(.int (3 : Int32))] ∧ Z.Warmed39 U.vm ∧ U.heap = h0) (fun _ _ _ _ _ => True) (fun _ U o U' => ∃ v L, o = .returned v ∧ Q_own_src3 Z  h0 n0 v U'.heap L ∧ FrameEnd U o U' L ({ frames := 0, cells := 0, slots := 0, locals := 0 } : Room).cells ({ frames := 0, cells := 0, slots := 0, locals := 0 } : Room).slots) := by
  refine MetFree.of_bodySF (plainFor_of_name pn_1) hisR ?_
  intro p e s m args below meth c s₁ Bd hml0 hP hK
  obtain ⟨rfl, hZ, hh⟩ := hP
  have hx := Bd.exec
  have hby := Bd.bytes
  have hml : c.maxLocals = 1 := hml0
  have hown : s.vm.findClass "com/example/tracewright/tracewright/engine/expr/UnaryOpAcceptsPinLaw" = some m.cls := findClass_of_methodNamed Bd.named
  have hnm := (name_of_methodNamed Bd.named Bd.method).1
  have X0 : Stand p l e ({ frames := 0, cells := 0, slots := 0, locals := 0 } : Room) s m #[(.int (3 : Int32))] below meth c s₁ [] 0 0 := Stand.of_body Bd
  have e0 : s₁.heap = h0 := by rw [← hh, Bd.state]; rfl
  have N0 := Fr.nil n0
  have go0 : ∀ t, Steps p.tables e below (s₁.setTop (mkF m 0 #[.val (.int (3 : Int32))] [])) t → Steps p.tables e below (s₁.setTop (entryFrame m #[(.int (3 : Int32))] 1)) t := fun t k => castTop (ef_own_src3 m ) k
  revert go0
  generalize s₁.setTop (entryFrame m #[(.int (3 : Int32))] 1) = st0
  intro go0
  have go1 : ∀ t, Steps p.tables e below (s₁.setTop (mkF m 12 #[.val (.int (3 : Int32))] [(.int (0 : Int32))])) t → Steps p.tables e below st0 t := by
    intro t kt
    refine go0 t ?_
    refine XS.iloadN X0.here hx rfl (hb hby d0_0) rfl ?_
    show Steps p.tables e below (s₁.setTop (mkF m 1 #[.val (.int (3 : Int32))] [(.int (3 : Int32))])) _
    refine XS.ifYes X0.here hx rfl (pc0 := 1) (pc' := 6) rfl (hb hby d0_1) rfl ((if0 _ _).trans (feq (by decide : ¬ ((3 : Int32) = (0 : Int32)))).2) (by decide) (by decide) ?_
    show Steps p.tables e below (s₁.setTop (mkF m 6 #[.val (.int (3 : Int32))] [])) _
    refine XS.iloadN X0.here hx rfl (hb hby d0_6) rfl ?_
    show Steps p.tables e below (s₁.setTop (mkF m 7 #[.val (.int (3 : Int32))] [(.int (3 : Int32))])) _
    refine XS.iconst X0.here hx rfl (hb hby d0_7) ?_
    show Steps p.tables e below (s₁.setTop (mkF m 8 #[.val (.int (3 : Int32))] [(.int (3 : Int32)), (.int (3 : Int32))])) _
    refine XS.icmpNo X0.here hx rfl (hb hby d0_8) rfl (flt (by decide : ¬ ((3 : Int32) < (3 : Int32)))).2.2.1 ?_
    show Steps p.tables e below (s₁.setTop (mkF m 11 #[.val (.int (3 : Int32))] [])) _
    refine XS.iconst X0.here hx rfl (hb hby d0_11) ?_
    show Steps p.tables e below (s₁.setTop (mkF m 12 #[.val (.int (3 : Int32))] [(.int (0 : Int32))])) _
    exact kt
  obtain ⟨fs, hr, hrun, hended, hW, hsame⟩ := X0.leave (v := some (.int (0 : Int32))) (fun h => by rw [Bd.returns] at h; cases h)
  refine ⟨_, _, go1 _ ?_, hrun, hended, _, _, rfl, ?_, ⟨_, rfl⟩, hW, hsame.mono (by decide) (by decide)⟩
  · exact retI X0 hx Bd.returns (hb hby d0_12) hr
  · show Q_own_src3 Z  h0 n0 _ s₁.heap _
    rw [e0]
    exact ⟨rfl, N0, rfl⟩
theorem ef_own_src4 (m : MethodId)  : entryFrame m #[(.int (4 : Int32))] 1 = mkF m 0 #[.val (.int (4 : Int32))] [] := by first | (simp [entryFrame, mkF, argsToLocals, Value.category]; done) | rfl
def Q_own_src4 (Z : State)   (h0 : Heap) (n0 : Nat) (v : Option Value) (h : Heap) (L : List Loc) : Prop := v = some (.int (1 : Int32)) ∧ Fr n0 L ∧ h = h0
set_option maxRecDepth 65536 in
set_option maxHeartbeats 40000000 in
theorem own_src4 (l : Launch) (Z : State) (a0 : Array Value) (hw : ∀ d ∈ tables_1, d.before a0 Z = true) (ws : List Jvm.Cond)   (h0 : Heap) (n0 : Nat) (Z0 : n0 ≤ h0.size) :
    MetFree l (⟨"com/example/tracewright/tracewright/engine/expr/UnaryOpAcceptsPinLaw", "sourceKindIndex", "(I)I"⟩ : MethodName) (head1 (Jvm.Cond.code (⟨"com/example/tracewright/tracewright/engine/expr/UnaryOpAcceptsPinLaw", "sourceKindIndex", "(I)I"⟩ : MethodName) method_2_code 1 (some .int) :: ws) ({ frames := 0, cells := 0, slots := 0, locals := 0 } : Room)) (fun a U => a = #[(.int (4 : Int32))] ∧ Z.Warmed39 U.vm ∧ U.heap = h0) (fun _ _ _ _ _ => True) (fun _ U o U' => ∃ v L, o = .returned v ∧ Q_own_src4 Z  h0 n0 v U'.heap L ∧ FrameEnd U o U' L ({ frames := 0, cells := 0, slots := 0, locals := 0 } : Room).cells ({ frames := 0, cells := 0, slots := 0, locals := 0 } : Room).slots) := by
  refine MetFree.of_bodySF (plainFor_of_name pn_1) hisR ?_
  intro p e s m args below meth c s₁ Bd hml0 hP hK
  obtain ⟨rfl, hZ, hh⟩ := hP
  have hx := Bd.exec
  have hby := Bd.bytes
  have hml : c.maxLocals = 1 := hml0
  have hown : s.vm.findClass "com/example/tracewright/tracewright/engine/expr/UnaryOpAcceptsPinLaw" = some m.cls := findClass_of_methodNamed Bd.named
  have hnm := (name_of_methodNamed Bd.named Bd.method).1
  have X0 : Stand p l e ({ frames := 0, cells := 0, slots := 0, locals := 0 } : Room) s m #[(.int (4 : Int32))] below meth c s₁ [] 0 0 := Stand.of_body Bd
  have e0 : s₁.heap = h0 := by rw [← hh, Bd.state]; rfl
  have N0 := Fr.nil n0
  have go0 : ∀ t, Steps p.tables e below (s₁.setTop (mkF m 0 #[.val (.int (4 : Int32))] [])) t → Steps p.tables e below (s₁.setTop (entryFrame m #[(.int (4 : Int32))] 1)) t := fun t k => castTop (ef_own_src4 m ) k
  revert go0
  generalize s₁.setTop (entryFrame m #[(.int (4 : Int32))] 1) = st0
  intro go0
  have go1 : ∀ t, Steps p.tables e below (s₁.setTop (mkF m 20 #[.val (.int (4 : Int32))] [(.int (1 : Int32))])) t → Steps p.tables e below st0 t := by
    intro t kt
    refine go0 t ?_
    refine XS.iloadN X0.here hx rfl (hb hby d0_0) rfl ?_
    show Steps p.tables e below (s₁.setTop (mkF m 1 #[.val (.int (4 : Int32))] [(.int (4 : Int32))])) _
    refine XS.ifYes X0.here hx rfl (pc0 := 1) (pc' := 6) rfl (hb hby d0_1) rfl ((if0 _ _).trans (feq (by decide : ¬ ((4 : Int32) = (0 : Int32)))).2) (by decide) (by decide) ?_
    show Steps p.tables e below (s₁.setTop (mkF m 6 #[.val (.int (4 : Int32))] [])) _
    refine XS.iloadN X0.here hx rfl (hb hby d0_6) rfl ?_
    show Steps p.tables e below (s₁.setTop (mkF m 7 #[.val (.int (4 : Int32))] [(.int (4 : Int32))])) _
    refine XS.iconst X0.here hx rfl (hb hby d0_7) ?_
    show Steps p.tables e below (s₁.setTop (mkF m 8 #[.val (.int (4 : Int32))] [(.int (3 : Int32)), (.int (4 : Int32))])) _
    refine XS.icmpYes X0.here hx rfl (pc0 := 8) (pc' := 13) rfl (hb hby d0_8) rfl (tlt (by decide : (3 : Int32) < (4 : Int32))).2.2.1 (by decide) (by decide) ?_
    show Steps p.tables e below (s₁.setTop (mkF m 13 #[.val (.int (4 : Int32))] [])) _
    refine XS.iloadN X0.here hx rfl (hb hby d0_13) rfl ?_
    show Steps p.tables e below (s₁.setTop (mkF m 14 #[.val (.int (4 : Int32))] [(.int (4 : Int32))])) _
    refine XS.bipush X0.here hx rfl (hb hby d0_14) ?_
    show Steps p.tables e below (s₁.setTop (mkF m 16 #[.val (.int (4 : Int32))] [(.int (6 : Int32)), (.int (4 : Int32))])) _
    refine XS.icmpNo X0.here hx rfl (hb hby d0_16) rfl (flt (by decide : ¬ ((6 : Int32) < (4 : Int32)))).2.2.1 ?_
    show Steps p.tables e below (s₁.setTop (mkF m 19 #[.val (.int (4 : Int32))] [])) _
    refine XS.iconst X0.here hx rfl (hb hby d0_19) ?_
    show Steps p.tables e below (s₁.setTop (mkF m 20 #[.val (.int (4 : Int32))] [(.int (1 : Int32))])) _
    exact kt
  obtain ⟨fs, hr, hrun, hended, hW, hsame⟩ := X0.leave (v := some (.int (1 : Int32))) (fun h => by rw [Bd.returns] at h; cases h)
  refine ⟨_, _, go1 _ ?_, hrun, hended, _, _, rfl, ?_, ⟨_, rfl⟩, hW, hsame.mono (by decide) (by decide)⟩
  · exact retI X0 hx Bd.returns (hb hby d0_20) hr
  · show Q_own_src4 Z  h0 n0 _ s₁.heap _
    rw [e0]
    exact ⟨rfl, N0, rfl⟩
theorem ef_own_src5 (m : MethodId)  : entryFrame m #[(.int (5 : Int32))] 1 = mkF m 0 #[.val (.int (5 : Int32))] [] := by first | (simp [entryFrame, mkF, argsToLocals, Value.category]; done) | rfl
def Q_own_src5 (Z : State)   (h0 : Heap) (n0 : Nat) (v : Option Value) (h : Heap) (L : List Loc) : Prop := v = some (.int (1 : Int32)) ∧ Fr n0 L ∧ h = h0
set_option maxRecDepth 65536 in
set_option maxHeartbeats 40000000 in
theorem own_src5 (l : Launch) (Z : State) (a0 : Array Value) (hw : ∀ d ∈ tables_1, d.before a0 Z = true) (ws : List Jvm.Cond)   (h0 : Heap) (n0 : Nat) (Z0 : n0 ≤ h0.size) :
    MetFree l (⟨"com/example/tracewright/tracewright/engine/expr/UnaryOpAcceptsPinLaw", "sourceKindIndex", "(I)I"⟩ : MethodName) (head1 (Jvm.Cond.code (⟨"com/example/tracewright/tracewright/engine/expr/UnaryOpAcceptsPinLaw", "sourceKindIndex", "(I)I"⟩ : MethodName) method_2_code 1 (some .int) :: ws) ({ frames := 0, cells := 0, slots := 0, locals := 0 } : Room)) (fun a U => a = #[(.int (5 : Int32))] ∧ Z.Warmed39 U.vm ∧ U.heap = h0) (fun _ _ _ _ _ => True) (fun _ U o U' => ∃ v L, o = .returned v ∧ Q_own_src5 Z  h0 n0 v U'.heap L ∧ FrameEnd U o U' L ({ frames := 0, cells := 0, slots := 0, locals := 0 } : Room).cells ({ frames := 0, cells := 0, slots := 0, locals := 0 } : Room).slots) := by
  refine MetFree.of_bodySF (plainFor_of_name pn_1) hisR ?_
  intro p e s m args below meth c s₁ Bd hml0 hP hK
  obtain ⟨rfl, hZ, hh⟩ := hP
  have hx := Bd.exec
  have hby := Bd.bytes
  have hml : c.maxLocals = 1 := hml0
  have hown : s.vm.findClass "com/example/tracewright/tracewright/engine/expr/UnaryOpAcceptsPinLaw" = some m.cls := findClass_of_methodNamed Bd.named
  have hnm := (name_of_methodNamed Bd.named Bd.method).1
  have X0 : Stand p l e ({ frames := 0, cells := 0, slots := 0, locals := 0 } : Room) s m #[(.int (5 : Int32))] below meth c s₁ [] 0 0 := Stand.of_body Bd
  have e0 : s₁.heap = h0 := by rw [← hh, Bd.state]; rfl
  have N0 := Fr.nil n0
  have go0 : ∀ t, Steps p.tables e below (s₁.setTop (mkF m 0 #[.val (.int (5 : Int32))] [])) t → Steps p.tables e below (s₁.setTop (entryFrame m #[(.int (5 : Int32))] 1)) t := fun t k => castTop (ef_own_src5 m ) k
  revert go0
  generalize s₁.setTop (entryFrame m #[(.int (5 : Int32))] 1) = st0
  intro go0
  have go1 : ∀ t, Steps p.tables e below (s₁.setTop (mkF m 20 #[.val (.int (5 : Int32))] [(.int (1 : Int32))])) t → Steps p.tables e below st0 t := by
    intro t kt
    refine go0 t ?_
    refine XS.iloadN X0.here hx rfl (hb hby d0_0) rfl ?_
    show Steps p.tables e below (s₁.setTop (mkF m 1 #[.val (.int (5 : Int32))] [(.int (5 : Int32))])) _
    refine XS.ifYes X0.here hx rfl (pc0 := 1) (pc' := 6) rfl (hb hby d0_1) rfl ((if0 _ _).trans (feq (by decide : ¬ ((5 : Int32) = (0 : Int32)))).2) (by decide) (by decide) ?_
    show Steps p.tables e below (s₁.setTop (mkF m 6 #[.val (.int (5 : Int32))] [])) _
    refine XS.iloadN X0.here hx rfl (hb hby d0_6) rfl ?_
    show Steps p.tables e below (s₁.setTop (mkF m 7 #[.val (.int (5 : Int32))] [(.int (5 : Int32))])) _
    refine XS.iconst X0.here hx rfl (hb hby d0_7) ?_
    show Steps p.tables e below (s₁.setTop (mkF m 8 #[.val (.int (5 : Int32))] [(.int (3 : Int32)), (.int (5 : Int32))])) _
    refine XS.icmpYes X0.here hx rfl (pc0 := 8) (pc' := 13) rfl (hb hby d0_8) rfl (tlt (by decide : (3 : Int32) < (5 : Int32))).2.2.1 (by decide) (by decide) ?_
    show Steps p.tables e below (s₁.setTop (mkF m 13 #[.val (.int (5 : Int32))] [])) _
    refine XS.iloadN X0.here hx rfl (hb hby d0_13) rfl ?_
    show Steps p.tables e below (s₁.setTop (mkF m 14 #[.val (.int (5 : Int32))] [(.int (5 : Int32))])) _
    refine XS.bipush X0.here hx rfl (hb hby d0_14) ?_
    show Steps p.tables e below (s₁.setTop (mkF m 16 #[.val (.int (5 : Int32))] [(.int (6 : Int32)), (.int (5 : Int32))])) _
    refine XS.icmpNo X0.here hx rfl (hb hby d0_16) rfl (flt (by decide : ¬ ((6 : Int32) < (5 : Int32)))).2.2.1 ?_
    show Steps p.tables e below (s₁.setTop (mkF m 19 #[.val (.int (5 : Int32))] [])) _
    refine XS.iconst X0.here hx rfl (hb hby d0_19) ?_
    show Steps p.tables e below (s₁.setTop (mkF m 20 #[.val (.int (5 : Int32))] [(.int (1 : Int32))])) _
    exact kt
  obtain ⟨fs, hr, hrun, hended, hW, hsame⟩ := X0.leave (v := some (.int (1 : Int32))) (fun h => by rw [Bd.returns] at h; cases h)
  refine ⟨_, _, go1 _ ?_, hrun, hended, _, _, rfl, ?_, ⟨_, rfl⟩, hW, hsame.mono (by decide) (by decide)⟩
  · exact retI X0 hx Bd.returns (hb hby d0_20) hr
  · show Q_own_src5 Z  h0 n0 _ s₁.heap _
    rw [e0]
    exact ⟨rfl, N0, rfl⟩
theorem ef_own_src6 (m : MethodId)  : entryFrame m #[(.int (6 : Int32))] 1 = mkF m 0 #[.val (.int (6 : Int32))] [] := by first | (simp [entryFrame, mkF, argsToLocals, Value.category]; done) | rfl
def Q_own_src6 (Z : State)   (h0 : Heap) (n0 : Nat) (v : Option Value) (h : Heap) (L : List Loc) : Prop := v = some (.int (1 : Int32)) ∧ Fr n0 L ∧ h = h0
set_option maxRecDepth 65536 in
set_option maxHeartbeats 40000000 in
theorem own_src6 (l : Launch) (Z : State) (a0 : Array Value) (hw : ∀ d ∈ tables_1, d.before a0 Z = true) (ws : List Jvm.Cond)   (h0 : Heap) (n0 : Nat) (Z0 : n0 ≤ h0.size) :
    MetFree l (⟨"com/example/tracewright/tracewright/engine/expr/UnaryOpAcceptsPinLaw", "sourceKindIndex", "(I)I"⟩ : MethodName) (head1 (Jvm.Cond.code (⟨"com/example/tracewright/tracewright/engine/expr/UnaryOpAcceptsPinLaw", "sourceKindIndex", "(I)I"⟩ : MethodName) method_2_code 1 (some .int) :: ws) ({ frames := 0, cells := 0, slots := 0, locals := 0 } : Room)) (fun a U => a = #[(.int (6 : Int32))] ∧ Z.Warmed39 U.vm ∧ U.heap = h0) (fun _ _ _ _ _ => True) (fun _ U o U' => ∃ v L, o = .returned v ∧ Q_own_src6 Z  h0 n0 v U'.heap L ∧ FrameEnd U o U' L ({ frames := 0, cells := 0, slots := 0, locals := 0 } : Room).cells ({ frames := 0, cells := 0, slots := 0, locals := 0 } : Room).slots) := by
  refine MetFree.of_bodySF (plainFor_of_name pn_1) hisR ?_
  intro p e s m args below meth c s₁ Bd hml0 hP hK
  obtain ⟨rfl, hZ, hh⟩ := hP
  have hx := Bd.exec
  have hby := Bd.bytes
  have hml : c.maxLocals = 1 := hml0
  have hown : s.vm.findClass "com/example/tracewright/tracewright/engine/expr/UnaryOpAcceptsPinLaw" = some m.cls := findClass_of_methodNamed Bd.named
  have hnm := (name_of_methodNamed Bd.named Bd.method).1
  have X0 : Stand p l e ({ frames := 0, cells := 0, slots := 0, locals := 0 } : Room) s m #[(.int (6 : Int32))] below meth c s₁ [] 0 0 := Stand.of_body Bd
  have e0 : s₁.heap = h0 := by rw [← hh, Bd.state]; rfl
  have N0 := Fr.nil n0
  have go0 : ∀ t, Steps p.tables e below (s₁.setTop (mkF m 0 #[.val (.int (6 : Int32))] [])) t → Steps p.tables e below (s₁.setTop (entryFrame m #[(.int (6 : Int32))] 1)) t := fun t k => castTop (ef_own_src6 m ) k
  revert go0
  generalize s₁.setTop (entryFrame m #[(.int (6 : Int32))] 1) = st0
  intro go0
  have go1 : ∀ t, Steps p.tables e below (s₁.setTop (mkF m 20 #[.val (.int (6 : Int32))] [(.int (1 : Int32))])) t → Steps p.tables e below st0 t := by
    intro t kt
    refine go0 t ?_
    refine XS.iloadN X0.here hx rfl (hb hby d0_0) rfl ?_
    show Steps p.tables e below (s₁.setTop (mkF m 1 #[.val (.int (6 : Int32))] [(.int (6 : Int32))])) _
    refine XS.ifYes X0.here hx rfl (pc0 := 1) (pc' := 6) rfl (hb hby d0_1) rfl ((if0 _ _).trans (feq (by decide : ¬ ((6 : Int32) = (0 : Int32)))).2) (by decide) (by decide) ?_
    show Steps p.tables e below (s₁.setTop (mkF m 6 #[.val (.int (6 : Int32))] [])) _
    refine XS.iloadN X0.here hx rfl (hb hby d0_6) rfl ?_
    show Steps p.tables e below (s₁.setTop (mkF m 7 #[.val (.int (6 : Int32))] [(.int (6 : Int32))])) _
    refine XS.iconst X0.here hx rfl (hb hby d0_7) ?_
    show Steps p.tables e below (s₁.setTop (mkF m 8 #[.val (.int (6 : Int32))] [(.int (3 : Int32)), (.int (6 : Int32))])) _
    refine XS.icmpYes X0.here hx rfl (pc0 := 8) (pc' := 13) rfl (hb hby d0_8) rfl (tlt (by decide : (3 : Int32) < (6 : Int32))).2.2.1 (by decide) (by decide) ?_
    show Steps p.tables e below (s₁.setTop (mkF m 13 #[.val (.int (6 : Int32))] [])) _
    refine XS.iloadN X0.here hx rfl (hb hby d0_13) rfl ?_
    show Steps p.tables e below (s₁.setTop (mkF m 14 #[.val (.int (6 : Int32))] [(.int (6 : Int32))])) _
    refine XS.bipush X0.here hx rfl (hb hby d0_14) ?_
    show Steps p.tables e below (s₁.setTop (mkF m 16 #[.val (.int (6 : Int32))] [(.int (6 : Int32)), (.int (6 : Int32))])) _
    refine XS.icmpNo X0.here hx rfl (hb hby d0_16) rfl (flt (by decide : ¬ ((6 : Int32) < (6 : Int32)))).2.2.1 ?_
    show Steps p.tables e below (s₁.setTop (mkF m 19 #[.val (.int (6 : Int32))] [])) _
    refine XS.iconst X0.here hx rfl (hb hby d0_19) ?_
    show Steps p.tables e below (s₁.setTop (mkF m 20 #[.val (.int (6 : Int32))] [(.int (1 : Int32))])) _
    exact kt
  obtain ⟨fs, hr, hrun, hended, hW, hsame⟩ := X0.leave (v := some (.int (1 : Int32))) (fun h => by rw [Bd.returns] at h; cases h)
  refine ⟨_, _, go1 _ ?_, hrun, hended, _, _, rfl, ?_, ⟨_, rfl⟩, hW, hsame.mono (by decide) (by decide)⟩
  · exact retI X0 hx Bd.returns (hb hby d0_20) hr
  · show Q_own_src6 Z  h0 n0 _ s₁.heap _
    rw [e0]
    exact ⟨rfl, N0, rfl⟩
theorem ef_own_src7 (m : MethodId)  : entryFrame m #[(.int (7 : Int32))] 1 = mkF m 0 #[.val (.int (7 : Int32))] [] := by first | (simp [entryFrame, mkF, argsToLocals, Value.category]; done) | rfl
def Q_own_src7 (Z : State)   (h0 : Heap) (n0 : Nat) (v : Option Value) (h : Heap) (L : List Loc) : Prop := v = some (.int (2 : Int32)) ∧ Fr n0 L ∧ h = h0
set_option maxRecDepth 65536 in
set_option maxHeartbeats 40000000 in
theorem own_src7 (l : Launch) (Z : State) (a0 : Array Value) (hw : ∀ d ∈ tables_1, d.before a0 Z = true) (ws : List Jvm.Cond)   (h0 : Heap) (n0 : Nat) (Z0 : n0 ≤ h0.size) :
    MetFree l (⟨"com/example/tracewright/tracewright/engine/expr/UnaryOpAcceptsPinLaw", "sourceKindIndex", "(I)I"⟩ : MethodName) (head1 (Jvm.Cond.code (⟨"com/example/tracewright/tracewright/engine/expr/UnaryOpAcceptsPinLaw", "sourceKindIndex", "(I)I"⟩ : MethodName) method_2_code 1 (some .int) :: ws) ({ frames := 0, cells := 0, slots := 0, locals := 0 } : Room)) (fun a U => a = #[(.int (7 : Int32))] ∧ Z.Warmed39 U.vm ∧ U.heap = h0) (fun _ _ _ _ _ => True) (fun _ U o U' => ∃ v L, o = .returned v ∧ Q_own_src7 Z  h0 n0 v U'.heap L ∧ FrameEnd U o U' L ({ frames := 0, cells := 0, slots := 0, locals := 0 } : Room).cells ({ frames := 0, cells := 0, slots := 0, locals := 0 } : Room).slots) := by
  refine MetFree.of_bodySF (plainFor_of_name pn_1) hisR ?_
  intro p e s m args below meth c s₁ Bd hml0 hP hK
  obtain ⟨rfl, hZ, hh⟩ := hP
  have hx := Bd.exec
  have hby := Bd.bytes
  have hml : c.maxLocals = 1 := hml0
  have hown : s.vm.findClass "com/example/tracewright/tracewright/engine/expr/UnaryOpAcceptsPinLaw" = some m.cls := findClass_of_methodNamed Bd.named
  have hnm := (name_of_methodNamed Bd.named Bd.method).1
  have X0 : Stand p l e ({ frames := 0, cells := 0, slots := 0, locals := 0 } : Room) s m #[(.int (7 : Int32))] below meth c s₁ [] 0 0 := Stand.of_body Bd
  have e0 : s₁.heap = h0 := by rw [← hh, Bd.state]; rfl
  have N0 := Fr.nil n0
  have go0 : ∀ t, Steps p.tables e below (s₁.setTop (mkF m 0 #[.val (.int (7 : Int32))] [])) t → Steps p.tables e below (s₁.setTop (entryFrame m #[(.int (7 : Int32))] 1)) t := fun t k => castTop (ef_own_src7 m ) k
  revert go0
  generalize s₁.setTop (entryFrame m #[(.int (7 : Int32))] 1) = st0
  intro go0
  have go1 : ∀ t, Steps p.tables e below (s₁.setTop (mkF m 28 #[.val (.int (7 : Int32))] [(.int (2 : Int32))])) t → Steps p.tables e below st0 t := by
    intro t kt
    refine go0 t ?_
    refine XS.iloadN X0.here hx rfl (hb hby d0_0) rfl ?_
    show Steps p.tables e below (s₁.setTop (mkF m 1 #[.val (.int (7 : Int32))] [(.int (7 : Int32))])) _
    refine XS.ifYes X0.here hx rfl (pc0 := 1) (pc' := 6) rfl (hb hby d0_1) rfl ((if0 _ _).trans (feq (by decide : ¬ ((7 : Int32) = (0 : Int32)))).2) (by decide) (by decide) ?_
    show Steps p.tables e below (s₁.setTop (mkF m 6 #[.val (.int (7 : Int32))] [])) _
    refine XS.iloadN X0.here hx rfl (hb hby d0_6) rfl ?_
    show Steps p.tables e below (s₁.setTop (mkF m 7 #[.val (.int (7 : Int32))] [(.int (7 : Int32))])) _
    refine XS.iconst X0.here hx rfl (hb hby d0_7) ?_
    show Steps p.tables e below (s₁.setTop (mkF m 8 #[.val (.int (7 : Int32))] [(.int (3 : Int32)), (.int (7 : Int32))])) _
    refine XS.icmpYes X0.here hx rfl (pc0 := 8) (pc' := 13) rfl (hb hby d0_8) rfl (tlt (by decide : (3 : Int32) < (7 : Int32))).2.2.1 (by decide) (by decide) ?_
    show Steps p.tables e below (s₁.setTop (mkF m 13 #[.val (.int (7 : Int32))] [])) _
    refine XS.iloadN X0.here hx rfl (hb hby d0_13) rfl ?_
    show Steps p.tables e below (s₁.setTop (mkF m 14 #[.val (.int (7 : Int32))] [(.int (7 : Int32))])) _
    refine XS.bipush X0.here hx rfl (hb hby d0_14) ?_
    show Steps p.tables e below (s₁.setTop (mkF m 16 #[.val (.int (7 : Int32))] [(.int (6 : Int32)), (.int (7 : Int32))])) _
    refine XS.icmpYes X0.here hx rfl (pc0 := 16) (pc' := 21) rfl (hb hby d0_16) rfl (tlt (by decide : (6 : Int32) < (7 : Int32))).2.2.1 (by decide) (by decide) ?_
    show Steps p.tables e below (s₁.setTop (mkF m 21 #[.val (.int (7 : Int32))] [])) _
    refine XS.iloadN X0.here hx rfl (hb hby d0_21) rfl ?_
    show Steps p.tables e below (s₁.setTop (mkF m 22 #[.val (.int (7 : Int32))] [(.int (7 : Int32))])) _
    refine XS.bipush X0.here hx rfl (hb hby d0_22) ?_
    show Steps p.tables e below (s₁.setTop (mkF m 24 #[.val (.int (7 : Int32))] [(.int (9 : Int32)), (.int (7 : Int32))])) _
    refine XS.icmpNo X0.here hx rfl (hb hby d0_24) rfl (flt (by decide : ¬ ((9 : Int32) < (7 : Int32)))).2.2.1 ?_
    show Steps p.tables e below (s₁.setTop (mkF m 27 #[.val (.int (7 : Int32))] [])) _
    refine XS.iconst X0.here hx rfl (hb hby d0_27) ?_
    show Steps p.tables e below (s₁.setTop (mkF m 28 #[.val (.int (7 : Int32))] [(.int (2 : Int32))])) _
    exact kt
  obtain ⟨fs, hr, hrun, hended, hW, hsame⟩ := X0.leave (v := some (.int (2 : Int32))) (fun h => by rw [Bd.returns] at h; cases h)
  refine ⟨_, _, go1 _ ?_, hrun, hended, _, _, rfl, ?_, ⟨_, rfl⟩, hW, hsame.mono (by decide) (by decide)⟩
  · exact retI X0 hx Bd.returns (hb hby d0_28) hr
  · show Q_own_src7 Z  h0 n0 _ s₁.heap _
    rw [e0]
    exact ⟨rfl, N0, rfl⟩
theorem ef_own_src8 (m : MethodId)  : entryFrame m #[(.int (8 : Int32))] 1 = mkF m 0 #[.val (.int (8 : Int32))] [] := by first | (simp [entryFrame, mkF, argsToLocals, Value.category]; done) | rfl
def Q_own_src8 (Z : State)   (h0 : Heap) (n0 : Nat) (v : Option Value) (h : Heap) (L : List Loc) : Prop := v = some (.int (2 : Int32)) ∧ Fr n0 L ∧ h = h0
set_option maxRecDepth 65536 in
set_option maxHeartbeats 40000000 in
theorem own_src8 (l : Launch) (Z : State) (a0 : Array Value) (hw : ∀ d ∈ tables_1, d.before a0 Z = true) (ws : List Jvm.Cond)   (h0 : Heap) (n0 : Nat) (Z0 : n0 ≤ h0.size) :
    MetFree l (⟨"com/example/tracewright/tracewright/engine/expr/UnaryOpAcceptsPinLaw", "sourceKindIndex", "(I)I"⟩ : MethodName) (head1 (Jvm.Cond.code (⟨"com/example/tracewright/tracewright/engine/expr/UnaryOpAcceptsPinLaw", "sourceKindIndex", "(I)I"⟩ : MethodName) method_2_code 1 (some .int) :: ws) ({ frames := 0, cells := 0, slots := 0, locals := 0 } : Room)) (fun a U => a = #[(.int (8 : Int32))] ∧ Z.Warmed39 U.vm ∧ U.heap = h0) (fun _ _ _ _ _ => True) (fun _ U o U' => ∃ v L, o = .returned v ∧ Q_own_src8 Z  h0 n0 v U'.heap L ∧ FrameEnd U o U' L ({ frames := 0, cells := 0, slots := 0, locals := 0 } : Room).cells ({ frames := 0, cells := 0, slots := 0, locals := 0 } : Room).slots) := by
  refine MetFree.of_bodySF (plainFor_of_name pn_1) hisR ?_
  intro p e s m args below meth c s₁ Bd hml0 hP hK
  obtain ⟨rfl, hZ, hh⟩ := hP
  have hx := Bd.exec
  have hby := Bd.bytes
  have hml : c.maxLocals = 1 := hml0
  have hown : s.vm.findClass "com/example/tracewright/tracewright/engine/expr/UnaryOpAcceptsPinLaw" = some m.cls := findClass_of_methodNamed Bd.named
  have hnm := (name_of_methodNamed Bd.named Bd.method).1
  have X0 : Stand p l e ({ frames := 0, cells := 0, slots := 0, locals := 0 } : Room) s m #[(.int (8 : Int32))] below meth c s₁ [] 0 0 := Stand.of_body Bd
  have e0 : s₁.heap = h0 := by rw [← hh, Bd.state]; rfl
  have N0 := Fr.nil n0
  have go0 : ∀ t, Steps p.tables e below (s₁.setTop (mkF m 0 #[.val (.int (8 : Int32))] [])) t → Steps p.tables e below (s₁.setTop (entryFrame m #[(.int (8 : Int32))] 1)) t := fun t k => castTop (ef_own_src8 m ) k
  revert go0
  generalize s₁.setTop (entryFrame m #[(.int (8 : Int32))] 1) = st0
  intro go0
  have go1 : ∀ t, Steps p.tables e below (s₁.setTop (mkF m 28 #[.val (.int (8 : Int32))] [(.int (2 : Int32))])) t → Steps p.tables e below st0 t := by
    intro t kt
    refine go0 t ?_
    refine XS.iloadN X0.here hx rfl (hb hby d0_0) rfl ?_
    show Steps p.tables e below (s₁.setTop (mkF m 1 #[.val (.int (8 : Int32))] [(.int (8 : Int32))])) _
    refine XS.ifYes X0.here hx rfl (pc0 := 1) (pc' := 6) rfl (hb hby d0_1) rfl ((if0 _ _).trans (feq (by decide : ¬ ((8 : Int32) = (0 : Int32)))).2) (by decide) (by decide) ?_
    show Steps p.tables e below (s₁.setTop (mkF m 6 #[.val (.int (8 : Int32))] [])) _
    refine XS.iloadN X0.here hx rfl (hb hby d0_6) rfl ?_
    show Steps p.tables e below (s₁.setTop (mkF m 7 #[.val (.int (8 : Int32))] [(.int (8 : Int32))])) _
    refine XS.iconst X0.here hx rfl (hb hby d0_7) ?_
    show Steps p.tables e below (s₁.setTop (mkF m 8 #[.val (.int (8 : Int32))] [(.int (3 : Int32)), (.int (8 : Int32))])) _
    refine XS.icmpYes X0.here hx rfl (pc0 := 8) (pc' := 13) rfl (hb hby d0_8) rfl (tlt (by decide : (3 : Int32) < (8 : Int32))).2.2.1 (by decide) (by decide) ?_
    show Steps p.tables e below (s₁.setTop (mkF m 13 #[.val (.int (8 : Int32))] [])) _
    refine XS.iloadN X0.here hx rfl (hb hby d0_13) rfl ?_
    show Steps p.tables e below (s₁.setTop (mkF m 14 #[.val (.int (8 : Int32))] [(.int (8 : Int32))])) _
    refine XS.bipush X0.here hx rfl (hb hby d0_14) ?_
    show Steps p.tables e below (s₁.setTop (mkF m 16 #[.val (.int (8 : Int32))] [(.int (6 : Int32)), (.int (8 : Int32))])) _
    refine XS.icmpYes X0.here hx rfl (pc0 := 16) (pc' := 21) rfl (hb hby d0_16) rfl (tlt (by decide : (6 : Int32) < (8 : Int32))).2.2.1 (by decide) (by decide) ?_
    show Steps p.tables e below (s₁.setTop (mkF m 21 #[.val (.int (8 : Int32))] [])) _
    refine XS.iloadN X0.here hx rfl (hb hby d0_21) rfl ?_
    show Steps p.tables e below (s₁.setTop (mkF m 22 #[.val (.int (8 : Int32))] [(.int (8 : Int32))])) _
    refine XS.bipush X0.here hx rfl (hb hby d0_22) ?_
    show Steps p.tables e below (s₁.setTop (mkF m 24 #[.val (.int (8 : Int32))] [(.int (9 : Int32)), (.int (8 : Int32))])) _
    refine XS.icmpNo X0.here hx rfl (hb hby d0_24) rfl (flt (by decide : ¬ ((9 : Int32) < (8 : Int32)))).2.2.1 ?_
    show Steps p.tables e below (s₁.setTop (mkF m 27 #[.val (.int (8 : Int32))] [])) _
    refine XS.iconst X0.here hx rfl (hb hby d0_27) ?_
    show Steps p.tables e below (s₁.setTop (mkF m 28 #[.val (.int (8 : Int32))] [(.int (2 : Int32))])) _
    exact kt
  obtain ⟨fs, hr, hrun, hended, hW, hsame⟩ := X0.leave (v := some (.int (2 : Int32))) (fun h => by rw [Bd.returns] at h; cases h)
  refine ⟨_, _, go1 _ ?_, hrun, hended, _, _, rfl, ?_, ⟨_, rfl⟩, hW, hsame.mono (by decide) (by decide)⟩
  · exact retI X0 hx Bd.returns (hb hby d0_28) hr
  · show Q_own_src8 Z  h0 n0 _ s₁.heap _
    rw [e0]
    exact ⟨rfl, N0, rfl⟩
theorem ef_own_src9 (m : MethodId)  : entryFrame m #[(.int (9 : Int32))] 1 = mkF m 0 #[.val (.int (9 : Int32))] [] := by first | (simp [entryFrame, mkF, argsToLocals, Value.category]; done) | rfl
def Q_own_src9 (Z : State)   (h0 : Heap) (n0 : Nat) (v : Option Value) (h : Heap) (L : List Loc) : Prop := v = some (.int (2 : Int32)) ∧ Fr n0 L ∧ h = h0
set_option maxRecDepth 65536 in
set_option maxHeartbeats 40000000 in
theorem own_src9 (l : Launch) (Z : State) (a0 : Array Value) (hw : ∀ d ∈ tables_1, d.before a0 Z = true) (ws : List Jvm.Cond)   (h0 : Heap) (n0 : Nat) (Z0 : n0 ≤ h0.size) :
    MetFree l (⟨"com/example/tracewright/tracewright/engine/expr/UnaryOpAcceptsPinLaw", "sourceKindIndex", "(I)I"⟩ : MethodName) (head1 (Jvm.Cond.code (⟨"com/example/tracewright/tracewright/engine/expr/UnaryOpAcceptsPinLaw", "sourceKindIndex", "(I)I"⟩ : MethodName) method_2_code 1 (some .int) :: ws) ({ frames := 0, cells := 0, slots := 0, locals := 0 } : Room)) (fun a U => a = #[(.int (9 : Int32))] ∧ Z.Warmed39 U.vm ∧ U.heap = h0) (fun _ _ _ _ _ => True) (fun _ U o U' => ∃ v L, o = .returned v ∧ Q_own_src9 Z  h0 n0 v U'.heap L ∧ FrameEnd U o U' L ({ frames := 0, cells := 0, slots := 0, locals := 0 } : Room).cells ({ frames := 0, cells := 0, slots := 0, locals := 0 } : Room).slots) := by
  refine MetFree.of_bodySF (plainFor_of_name pn_1) hisR ?_
  intro p e s m args below meth c s₁ Bd hml0 hP hK
  obtain ⟨rfl, hZ, hh⟩ := hP
  have hx := Bd.exec
  have hby := Bd.bytes
  have hml : c.maxLocals = 1 := hml0
  have hown : s.vm.findClass "com/example/tracewright/tracewright/engine/expr/UnaryOpAcceptsPinLaw" = some m.cls := findClass_of_methodNamed Bd.named
  have hnm := (name_of_methodNamed Bd.named Bd.method).1
  have X0 : Stand p l e ({ frames := 0, cells := 0, slots := 0, locals := 0 } : Room) s m #[(.int (9 : Int32))] below meth c s₁ [] 0 0 := Stand.of_body Bd
  have e0 : s₁.heap = h0 := by rw [← hh, Bd.state]; rfl
  have N0 := Fr.nil n0
  have go0 : ∀ t, Steps p.tables e below (s₁.setTop (mkF m 0 #[.val (.int (9 : Int32))] [])) t → Steps p.tables e below (s₁.setTop (entryFrame m #[(.int (9 : Int32))] 1)) t := fun t k => castTop (ef_own_src9 m ) k
  revert go0
  generalize s₁.setTop (entryFrame m #[(.int (9 : Int32))] 1) = st0
  intro go0
  have go1 : ∀ t, Steps p.tables e below (s₁.setTop (mkF m 28 #[.val (.int (9 : Int32))] [(.int (2 : Int32))])) t → Steps p.tables e below st0 t := by
    intro t kt
    refine go0 t ?_
    refine XS.iloadN X0.here hx rfl (hb hby d0_0) rfl ?_
    show Steps p.tables e below (s₁.setTop (mkF m 1 #[.val (.int (9 : Int32))] [(.int (9 : Int32))])) _
    refine XS.ifYes X0.here hx rfl (pc0 := 1) (pc' := 6) rfl (hb hby d0_1) rfl ((if0 _ _).trans (feq (by decide : ¬ ((9 : Int32) = (0 : Int32)))).2) (by decide) (by decide) ?_
    show Steps p.tables e below (s₁.setTop (mkF m 6 #[.val (.int (9 : Int32))] [])) _
    refine XS.iloadN X0.here hx rfl (hb hby d0_6) rfl ?_
    show Steps p.tables e below (s₁.setTop (mkF m 7 #[.val (.int (9 : Int32))] [(.int (9 : Int32))])) _
    refine XS.iconst X0.here hx rfl (hb hby d0_7) ?_
    show Steps p.tables e below (s₁.setTop (mkF m 8 #[.val (.int (9 : Int32))] [(.int (3 : Int32)), (.int (9 : Int32))])) _
    refine XS.icmpYes X0.here hx rfl (pc0 := 8) (pc' := 13) rfl (hb hby d0_8) rfl (tlt (by decide : (3 : Int32) < (9 : Int32))).2.2.1 (by decide) (by decide) ?_
    show Steps p.tables e below (s₁.setTop (mkF m 13 #[.val (.int (9 : Int32))] [])) _
    refine XS.iloadN X0.here hx rfl (hb hby d0_13) rfl ?_
    show Steps p.tables e below (s₁.setTop (mkF m 14 #[.val (.int (9 : Int32))] [(.int (9 : Int32))])) _
    refine XS.bipush X0.here hx rfl (hb hby d0_14) ?_
    show Steps p.tables e below (s₁.setTop (mkF m 16 #[.val (.int (9 : Int32))] [(.int (6 : Int32)), (.int (9 : Int32))])) _
    refine XS.icmpYes X0.here hx rfl (pc0 := 16) (pc' := 21) rfl (hb hby d0_16) rfl (tlt (by decide : (6 : Int32) < (9 : Int32))).2.2.1 (by decide) (by decide) ?_
    show Steps p.tables e below (s₁.setTop (mkF m 21 #[.val (.int (9 : Int32))] [])) _
    refine XS.iloadN X0.here hx rfl (hb hby d0_21) rfl ?_
    show Steps p.tables e below (s₁.setTop (mkF m 22 #[.val (.int (9 : Int32))] [(.int (9 : Int32))])) _
    refine XS.bipush X0.here hx rfl (hb hby d0_22) ?_
    show Steps p.tables e below (s₁.setTop (mkF m 24 #[.val (.int (9 : Int32))] [(.int (9 : Int32)), (.int (9 : Int32))])) _
    refine XS.icmpNo X0.here hx rfl (hb hby d0_24) rfl (flt (by decide : ¬ ((9 : Int32) < (9 : Int32)))).2.2.1 ?_
    show Steps p.tables e below (s₁.setTop (mkF m 27 #[.val (.int (9 : Int32))] [])) _
    refine XS.iconst X0.here hx rfl (hb hby d0_27) ?_
    show Steps p.tables e below (s₁.setTop (mkF m 28 #[.val (.int (9 : Int32))] [(.int (2 : Int32))])) _
    exact kt
  obtain ⟨fs, hr, hrun, hended, hW, hsame⟩ := X0.leave (v := some (.int (2 : Int32))) (fun h => by rw [Bd.returns] at h; cases h)
  refine ⟨_, _, go1 _ ?_, hrun, hended, _, _, rfl, ?_, ⟨_, rfl⟩, hW, hsame.mono (by decide) (by decide)⟩
  · exact retI X0 hx Bd.returns (hb hby d0_28) hr
  · show Q_own_src9 Z  h0 n0 _ s₁.heap _
    rw [e0]
    exact ⟨rfl, N0, rfl⟩
theorem ef_own_src10 (m : MethodId)  : entryFrame m #[(.int (10 : Int32))] 1 = mkF m 0 #[.val (.int (10 : Int32))] [] := by first | (simp [entryFrame, mkF, argsToLocals, Value.category]; done) | rfl
def Q_own_src10 (Z : State)   (h0 : Heap) (n0 : Nat) (v : Option Value) (h : Heap) (L : List Loc) : Prop := v = some (.int (3 : Int32)) ∧ Fr n0 L ∧ h = h0
set_option maxRecDepth 65536 in
set_option maxHeartbeats 40000000 in
theorem own_src10 (l : Launch) (Z : State) (a0 : Array Value) (hw : ∀ d ∈ tables_1, d.before a0 Z = true) (ws : List Jvm.Cond)   (h0 : Heap) (n0 : Nat) (Z0 : n0 ≤ h0.size) :
    MetFree l (⟨"com/example/tracewright/tracewright/engine/expr/UnaryOpAcceptsPinLaw", "sourceKindIndex", "(I)I"⟩ : MethodName) (head1 (Jvm.Cond.code (⟨"com/example/tracewright/tracewright/engine/expr/UnaryOpAcceptsPinLaw", "sourceKindIndex", "(I)I"⟩ : MethodName) method_2_code 1 (some .int) :: ws) ({ frames := 0, cells := 0, slots := 0, locals := 0 } : Room)) (fun a U => a = #[(.int (10 : Int32))] ∧ Z.Warmed39 U.vm ∧ U.heap = h0) (fun _ _ _ _ _ => True) (fun _ U o U' => ∃ v L, o = .returned v ∧ Q_own_src10 Z  h0 n0 v U'.heap L ∧ FrameEnd U o U' L ({ frames := 0, cells := 0, slots := 0, locals := 0 } : Room).cells ({ frames := 0, cells := 0, slots := 0, locals := 0 } : Room).slots) := by
  refine MetFree.of_bodySF (plainFor_of_name pn_1) hisR ?_
  intro p e s m args below meth c s₁ Bd hml0 hP hK
  obtain ⟨rfl, hZ, hh⟩ := hP
  have hx := Bd.exec
  have hby := Bd.bytes
  have hml : c.maxLocals = 1 := hml0
  have hown : s.vm.findClass "com/example/tracewright/tracewright/engine/expr/UnaryOpAcceptsPinLaw" = some m.cls := findClass_of_methodNamed Bd.named
  have hnm := (name_of_methodNamed Bd.named Bd.method).1
  have X0 : Stand p l e ({ frames := 0, cells := 0, slots := 0, locals := 0 } : Room) s m #[(.int (10 : Int32))] below meth c s₁ [] 0 0 := Stand.of_body Bd
  have e0 : s₁.heap = h0 := by rw [← hh, Bd.state]; rfl
  have N0 := Fr.nil n0
  have go0 : ∀ t, Steps p.tables e below (s₁.setTop (mkF m 0 #[.val (.int (10 : Int32))] [])) t → Steps p.tables e below (s₁.setTop (entryFrame m #[(.int (10 : Int32))] 1)) t := fun t k => castTop (ef_own_src10 m ) k
  revert go0
  generalize s₁.setTop (entryFrame m #[(.int (10 : Int32))] 1) = st0
  intro go0
  have go1 : ∀ t, Steps p.tables e below (s₁.setTop (mkF m 36 #[.val (.int (10 : Int32))] [(.int (3 : Int32))])) t → Steps p.tables e below st0 t := by
    intro t kt
    refine go0 t ?_
    refine XS.iloadN X0.here hx rfl (hb hby d0_0) rfl ?_
    show Steps p.tables e below (s₁.setTop (mkF m 1 #[.val (.int (10 : Int32))] [(.int (10 : Int32))])) _
    refine XS.ifYes X0.here hx rfl (pc0 := 1) (pc' := 6) rfl (hb hby d0_1) rfl ((if0 _ _).trans (feq (by decide : ¬ ((10 : Int32) = (0 : Int32)))).2) (by decide) (by decide) ?_
    show Steps p.tables e below (s₁.setTop (mkF m 6 #[.val (.int (10 : Int32))] [])) _
    refine XS.iloadN X0.here hx rfl (hb hby d0_6) rfl ?_
    show Steps p.tables e below (s₁.setTop (mkF m 7 #[.val (.int (10 : Int32))] [(.int (10 : Int32))])) _
    refine XS.iconst X0.here hx rfl (hb hby d0_7) ?_
    show Steps p.tables e below (s₁.setTop (mkF m 8 #[.val (.int (10 : Int32))] [(.int (3 : Int32)), (.int (10 : Int32))])) _
    refine XS.icmpYes X0.here hx rfl (pc0 := 8) (pc' := 13) rfl (hb hby d0_8) rfl (tlt (by decide : (3 : Int32) < (10 : Int32))).2.2.1 (by decide) (by decide) ?_
    show Steps p.tables e below (s₁.setTop (mkF m 13 #[.val (.int (10 : Int32))] [])) _
    refine XS.iloadN X0.here hx rfl (hb hby d0_13) rfl ?_
    show Steps p.tables e below (s₁.setTop (mkF m 14 #[.val (.int (10 : Int32))] [(.int (10 : Int32))])) _
    refine XS.bipush X0.here hx rfl (hb hby d0_14) ?_
    show Steps p.tables e below (s₁.setTop (mkF m 16 #[.val (.int (10 : Int32))] [(.int (6 : Int32)), (.int (10 : Int32))])) _
    refine XS.icmpYes X0.here hx rfl (pc0 := 16) (pc' := 21) rfl (hb hby d0_16) rfl (tlt (by decide : (6 : Int32) < (10 : Int32))).2.2.1 (by decide) (by decide) ?_
    show Steps p.tables e below (s₁.setTop (mkF m 21 #[.val (.int (10 : Int32))] [])) _
    refine XS.iloadN X0.here hx rfl (hb hby d0_21) rfl ?_
    show Steps p.tables e below (s₁.setTop (mkF m 22 #[.val (.int (10 : Int32))] [(.int (10 : Int32))])) _
    refine XS.bipush X0.here hx rfl (hb hby d0_22) ?_
    show Steps p.tables e below (s₁.setTop (mkF m 24 #[.val (.int (10 : Int32))] [(.int (9 : Int32)), (.int (10 : Int32))])) _
    refine XS.icmpYes X0.here hx rfl (pc0 := 24) (pc' := 29) rfl (hb hby d0_24) rfl (tlt (by decide : (9 : Int32) < (10 : Int32))).2.2.1 (by decide) (by decide) ?_
    show Steps p.tables e below (s₁.setTop (mkF m 29 #[.val (.int (10 : Int32))] [])) _
    refine XS.iloadN X0.here hx rfl (hb hby d0_29) rfl ?_
    show Steps p.tables e below (s₁.setTop (mkF m 30 #[.val (.int (10 : Int32))] [(.int (10 : Int32))])) _
    refine XS.bipush X0.here hx rfl (hb hby d0_30) ?_
    show Steps p.tables e below (s₁.setTop (mkF m 32 #[.val (.int (10 : Int32))] [(.int (12 : Int32)), (.int (10 : Int32))])) _
    refine XS.icmpNo X0.here hx rfl (hb hby d0_32) rfl (flt (by decide : ¬ ((12 : Int32) < (10 : Int32)))).2.2.1 ?_
    show Steps p.tables e below (s₁.setTop (mkF m 35 #[.val (.int (10 : Int32))] [])) _
    refine XS.iconst X0.here hx rfl (hb hby d0_35) ?_
    show Steps p.tables e below (s₁.setTop (mkF m 36 #[.val (.int (10 : Int32))] [(.int (3 : Int32))])) _
    exact kt
  obtain ⟨fs, hr, hrun, hended, hW, hsame⟩ := X0.leave (v := some (.int (3 : Int32))) (fun h => by rw [Bd.returns] at h; cases h)
  refine ⟨_, _, go1 _ ?_, hrun, hended, _, _, rfl, ?_, ⟨_, rfl⟩, hW, hsame.mono (by decide) (by decide)⟩
  · exact retI X0 hx Bd.returns (hb hby d0_36) hr
  · show Q_own_src10 Z  h0 n0 _ s₁.heap _
    rw [e0]
    exact ⟨rfl, N0, rfl⟩
theorem ef_own_src11 (m : MethodId)  : entryFrame m #[(.int (11 : Int32))] 1 = mkF m 0 #[.val (.int (11 : Int32))] [] := by first | (simp [entryFrame, mkF, argsToLocals, Value.category]; done) | rfl
def Q_own_src11 (Z : State)   (h0 : Heap) (n0 : Nat) (v : Option Value) (h : Heap) (L : List Loc) : Prop := v = some (.int (3 : Int32)) ∧ Fr n0 L ∧ h = h0
set_option maxRecDepth 65536 in
set_option maxHeartbeats 40000000 in
theorem own_src11 (l : Launch) (Z : State) (a0 : Array Value) (hw : ∀ d ∈ tables_1, d.before a0 Z = true) (ws : List Jvm.Cond)   (h0 : Heap) (n0 : Nat) (Z0 : n0 ≤ h0.size) :
    MetFree l (⟨"com/example/tracewright/tracewright/engine/expr/UnaryOpAcceptsPinLaw", "sourceKindIndex", "(I)I"⟩ : MethodName) (head1 (Jvm.Cond.code (⟨"com/example/tracewright/tracewright/engine/expr/UnaryOpAcceptsPinLaw", "sourceKindIndex", "(I)I"⟩ : MethodName) method_2_code 1 (some .int) :: ws) ({ frames := 0, cells := 0, slots := 0, locals := 0 } : Room)) (fun a U => a = #[(.int (11 : Int32))] ∧ Z.Warmed39 U.vm ∧ U.heap = h0) (fun _ _ _ _ _ => True) (fun _ U o U' => ∃ v L, o = .returned v ∧ Q_own_src11 Z  h0 n0 v U'.heap L ∧ FrameEnd U o U' L ({ frames := 0, cells := 0, slots := 0, locals := 0 } : Room).cells ({ frames := 0, cells := 0, slots := 0, locals := 0 } : Room).slots) := by
  refine MetFree.of_bodySF (plainFor_of_name pn_1) hisR ?_
  intro p e s m args below meth c s₁ Bd hml0 hP hK
  obtain ⟨rfl, hZ, hh⟩ := hP
  have hx := Bd.exec
  have hby := Bd.bytes
  have hml : c.maxLocals = 1 := hml0
  have hown : s.vm.findClass "com/example/tracewright/tracewright/engine/expr/UnaryOpAcceptsPinLaw" = some m.cls := findClass_of_methodNamed Bd.named
  have hnm := (name_of_methodNamed Bd.named Bd.method).1
  have X0 : Stand p l e ({ frames := 0, cells := 0, slots := 0, locals := 0 } : Room) s m #[(.int (11 : Int32))] below meth c s₁ [] 0 0 := Stand.of_body Bd
  have e0 : s₁.heap = h0 := by rw [← hh, Bd.state]; rfl
  have N0 := Fr.nil n0
  have go0 : ∀ t, Steps p.tables e below (s₁.setTop (mkF m 0 #[.val (.int (11 : Int32))] [])) t → Steps p.tables e below (s₁.setTop (entryFrame m #[(.int (11 : Int32))] 1)) t := fun t k => castTop (ef_own_src11 m ) k
  revert go0
  generalize s₁.setTop (entryFrame m #[(.int (11 : Int32))] 1) = st0
  intro go0
  have go1 : ∀ t, Steps p.tables e below (s₁.setTop (mkF m 36 #[.val (.int (11 : Int32))] [(.int (3 : Int32))])) t → Steps p.tables e below st0 t := by
    intro t kt
    refine go0 t ?_
    refine XS.iloadN X0.here hx rfl (hb hby d0_0) rfl ?_
    show Steps p.tables e below (s₁.setTop (mkF m 1 #[.val (.int (11 : Int32))] [(.int (11 : Int32))])) _
    refine XS.ifYes X0.here hx rfl (pc0 := 1) (pc' := 6) rfl (hb hby d0_1) rfl ((if0 _ _).trans (feq (by decide : ¬ ((11 : Int32) = (0 : Int32)))).2) (by decide) (by decide) ?_
    show Steps p.tables e below (s₁.setTop (mkF m 6 #[.val (.int (11 : Int32))] [])) _
    refine XS.iloadN X0.here hx rfl (hb hby d0_6) rfl ?_
    show Steps p.tables e below (s₁.setTop (mkF m 7 #[.val (.int (11 : Int32))] [(.int (11 : Int32))])) _
    refine XS.iconst X0.here hx rfl (hb hby d0_7) ?_
    show Steps p.tables e below (s₁.setTop (mkF m 8 #[.val (.int (11 : Int32))] [(.int (3 : Int32)), (.int (11 : Int32))])) _
    refine XS.icmpYes X0.here hx rfl (pc0 := 8) (pc' := 13) rfl (hb hby d0_8) rfl (tlt (by decide : (3 : Int32) < (11 : Int32))).2.2.1 (by decide) (by decide) ?_
    show Steps p.tables e below (s₁.setTop (mkF m 13 #[.val (.int (11 : Int32))] [])) _
    refine XS.iloadN X0.here hx rfl (hb hby d0_13) rfl ?_
    show Steps p.tables e below (s₁.setTop (mkF m 14 #[.val (.int (11 : Int32))] [(.int (11 : Int32))])) _
    refine XS.bipush X0.here hx rfl (hb hby d0_14) ?_
    show Steps p.tables e below (s₁.setTop (mkF m 16 #[.val (.int (11 : Int32))] [(.int (6 : Int32)), (.int (11 : Int32))])) _
    refine XS.icmpYes X0.here hx rfl (pc0 := 16) (pc' := 21) rfl (hb hby d0_16) rfl (tlt (by decide : (6 : Int32) < (11 : Int32))).2.2.1 (by decide) (by decide) ?_
    show Steps p.tables e below (s₁.setTop (mkF m 21 #[.val (.int (11 : Int32))] [])) _
    refine XS.iloadN X0.here hx rfl (hb hby d0_21) rfl ?_
    show Steps p.tables e below (s₁.setTop (mkF m 22 #[.val (.int (11 : Int32))] [(.int (11 : Int32))])) _
    refine XS.bipush X0.here hx rfl (hb hby d0_22) ?_
    show Steps p.tables e below (s₁.setTop (mkF m 24 #[.val (.int (11 : Int32))] [(.int (9 : Int32)), (.int (11 : Int32))])) _
    refine XS.icmpYes X0.here hx rfl (pc0 := 24) (pc' := 29) rfl (hb hby d0_24) rfl (tlt (by decide : (9 : Int32) < (11 : Int32))).2.2.1 (by decide) (by decide) ?_
    show Steps p.tables e below (s₁.setTop (mkF m 29 #[.val (.int (11 : Int32))] [])) _
    refine XS.iloadN X0.here hx rfl (hb hby d0_29) rfl ?_
    show Steps p.tables e below (s₁.setTop (mkF m 30 #[.val (.int (11 : Int32))] [(.int (11 : Int32))])) _
    refine XS.bipush X0.here hx rfl (hb hby d0_30) ?_
    show Steps p.tables e below (s₁.setTop (mkF m 32 #[.val (.int (11 : Int32))] [(.int (12 : Int32)), (.int (11 : Int32))])) _
    refine XS.icmpNo X0.here hx rfl (hb hby d0_32) rfl (flt (by decide : ¬ ((12 : Int32) < (11 : Int32)))).2.2.1 ?_
    show Steps p.tables e below (s₁.setTop (mkF m 35 #[.val (.int (11 : Int32))] [])) _
    refine XS.iconst X0.here hx rfl (hb hby d0_35) ?_
    show Steps p.tables e below (s₁.setTop (mkF m 36 #[.val (.int (11 : Int32))] [(.int (3 : Int32))])) _
    exact kt
  obtain ⟨fs, hr, hrun, hended, hW, hsame⟩ := X0.leave (v := some (.int (3 : Int32))) (fun h => by rw [Bd.returns] at h; cases h)
  refine ⟨_, _, go1 _ ?_, hrun, hended, _, _, rfl, ?_, ⟨_, rfl⟩, hW, hsame.mono (by decide) (by decide)⟩
  · exact retI X0 hx Bd.returns (hb hby d0_36) hr
  · show Q_own_src11 Z  h0 n0 _ s₁.heap _
    rw [e0]
    exact ⟨rfl, N0, rfl⟩
theorem ef_own_src12 (m : MethodId)  : entryFrame m #[(.int (12 : Int32))] 1 = mkF m 0 #[.val (.int (12 : Int32))] [] := by first | (simp [entryFrame, mkF, argsToLocals, Value.category]; done) | rfl
def Q_own_src12 (Z : State)   (h0 : Heap) (n0 : Nat) (v : Option Value) (h : Heap) (L : List Loc) : Prop := v = some (.int (3 : Int32)) ∧ Fr n0 L ∧ h = h0
set_option maxRecDepth 65536 in
set_option maxHeartbeats 40000000 in
theorem own_src12 (l : Launch) (Z : State) (a0 : Array Value) (hw : ∀ d ∈ tables_1, d.before a0 Z = true) (ws : List Jvm.Cond)   (h0 : Heap) (n0 : Nat) (Z0 : n0 ≤ h0.size) :
    MetFree l (⟨"com/example/tracewright/tracewright/engine/expr/UnaryOpAcceptsPinLaw", "sourceKindIndex", "(I)I"⟩ : MethodName) (head1 (Jvm.Cond.code (⟨"com/example/tracewright/tracewright/engine/expr/UnaryOpAcceptsPinLaw", "sourceKindIndex", "(I)I"⟩ : MethodName) method_2_code 1 (some .int) :: ws) ({ frames := 0, cells := 0, slots := 0, locals := 0 } : Room)) (fun a U => a = #[(.int (12 : Int32))] ∧ Z.Warmed39 U.vm ∧ U.heap = h0) (fun _ _ _ _ _ => True) (fun _ U o U' => ∃ v L, o = .returned v ∧ Q_own_src12 Z  h0 n0 v U'.heap L ∧ FrameEnd U o U' L ({ frames := 0, cells := 0, slots := 0, locals := 0 } : Room).cells ({ frames := 0, cells := 0, slots := 0, locals := 0 } : Room).slots) := by
  refine MetFree.of_bodySF (plainFor_of_name pn_1) hisR ?_
  intro p e s m args below meth c s₁ Bd hml0 hP hK
  obtain ⟨rfl, hZ, hh⟩ := hP
  have hx := Bd.exec
  have hby := Bd.bytes
  have hml : c.maxLocals = 1 := hml0
  have hown : s.vm.findClass "com/example/tracewright/tracewright/engine/expr/UnaryOpAcceptsPinLaw" = some m.cls := findClass_of_methodNamed Bd.named
  have hnm := (name_of_methodNamed Bd.named Bd.method).1
  have X0 : Stand p l e ({ frames := 0, cells := 0, slots := 0, locals := 0 } : Room) s m #[(.int (12 : Int32))] below meth c s₁ [] 0 0 := Stand.of_body Bd
  have e0 : s₁.heap = h0 := by rw [← hh, Bd.state]; rfl
  have N0 := Fr.nil n0
  have go0 : ∀ t, Steps p.tables e below (s₁.setTop (mkF m 0 #[.val (.int (12 : Int32))] [])) t → Steps p.tables e below (s₁.setTop (entryFrame m #[(.int (12 : Int32))] 1)) t := fun t k => castTop (ef_own_src12 m ) k
  revert go0
  generalize s₁.setTop (entryFrame m #[(.int (12 : Int32))] 1) = st0
  intro go0
  have go1 : ∀ t, Steps p.tables e below (s₁.setTop (mkF m 36 #[.val (.int (12 : Int32))] [(.int (3 : Int32))])) t → Steps p.tables e below st0 t := by
    intro t kt
    refine go0 t ?_
    refine XS.iloadN X0.here hx rfl (hb hby d0_0) rfl ?_
    show Steps p.tables e below (s₁.setTop (mkF m 1 #[.val (.int (12 : Int32))] [(.int (12 : Int32))])) _
    refine XS.ifYes X0.here hx rfl (pc0 := 1) (pc' := 6) rfl (hb hby d0_1) rfl ((if0 _ _).trans (feq (by decide : ¬ ((12 : Int32) = (0 : Int32)))).2) (by decide) (by decide) ?_
    show Steps p.tables e below (s₁.setTop (mkF m 6 #[.val (.int (12 : Int32))] [])) _
    refine XS.iloadN X0.here hx rfl (hb hby d0_6) rfl ?_
    show Steps p.tables e below (s₁.setTop (mkF m 7 #[.val (.int (12 : Int32))] [(.int (12 : Int32))])) _
    refine XS.iconst X0.here hx rfl (hb hby d0_7) ?_
    show Steps p.tables e below (s₁.setTop (mkF m 8 #[.val (.int (12 : Int32))] [(.int (3 : Int32)), (.int (12 : Int32))])) _
    refine XS.icmpYes X0.here hx rfl (pc0 := 8) (pc' := 13) rfl (hb hby d0_8) rfl (tlt (by decide : (3 : Int32) < (12 : Int32))).2.2.1 (by decide) (by decide) ?_
    show Steps p.tables e below (s₁.setTop (mkF m 13 #[.val (.int (12 : Int32))] [])) _
    refine XS.iloadN X0.here hx rfl (hb hby d0_13) rfl ?_
    show Steps p.tables e below (s₁.setTop (mkF m 14 #[.val (.int (12 : Int32))] [(.int (12 : Int32))])) _
    refine XS.bipush X0.here hx rfl (hb hby d0_14) ?_
    show Steps p.tables e below (s₁.setTop (mkF m 16 #[.val (.int (12 : Int32))] [(.int (6 : Int32)), (.int (12 : Int32))])) _
    refine XS.icmpYes X0.here hx rfl (pc0 := 16) (pc' := 21) rfl (hb hby d0_16) rfl (tlt (by decide : (6 : Int32) < (12 : Int32))).2.2.1 (by decide) (by decide) ?_
    show Steps p.tables e below (s₁.setTop (mkF m 21 #[.val (.int (12 : Int32))] [])) _
    refine XS.iloadN X0.here hx rfl (hb hby d0_21) rfl ?_
    show Steps p.tables e below (s₁.setTop (mkF m 22 #[.val (.int (12 : Int32))] [(.int (12 : Int32))])) _
    refine XS.bipush X0.here hx rfl (hb hby d0_22) ?_
    show Steps p.tables e below (s₁.setTop (mkF m 24 #[.val (.int (12 : Int32))] [(.int (9 : Int32)), (.int (12 : Int32))])) _
    refine XS.icmpYes X0.here hx rfl (pc0 := 24) (pc' := 29) rfl (hb hby d0_24) rfl (tlt (by decide : (9 : Int32) < (12 : Int32))).2.2.1 (by decide) (by decide) ?_
    show Steps p.tables e below (s₁.setTop (mkF m 29 #[.val (.int (12 : Int32))] [])) _
    refine XS.iloadN X0.here hx rfl (hb hby d0_29) rfl ?_
    show Steps p.tables e below (s₁.setTop (mkF m 30 #[.val (.int (12 : Int32))] [(.int (12 : Int32))])) _
    refine XS.bipush X0.here hx rfl (hb hby d0_30) ?_
    show Steps p.tables e below (s₁.setTop (mkF m 32 #[.val (.int (12 : Int32))] [(.int (12 : Int32)), (.int (12 : Int32))])) _
    refine XS.icmpNo X0.here hx rfl (hb hby d0_32) rfl (flt (by decide : ¬ ((12 : Int32) < (12 : Int32)))).2.2.1 ?_
    show Steps p.tables e below (s₁.setTop (mkF m 35 #[.val (.int (12 : Int32))] [])) _
    refine XS.iconst X0.here hx rfl (hb hby d0_35) ?_
    show Steps p.tables e below (s₁.setTop (mkF m 36 #[.val (.int (12 : Int32))] [(.int (3 : Int32))])) _
    exact kt
  obtain ⟨fs, hr, hrun, hended, hW, hsame⟩ := X0.leave (v := some (.int (3 : Int32))) (fun h => by rw [Bd.returns] at h; cases h)
  refine ⟨_, _, go1 _ ?_, hrun, hended, _, _, rfl, ?_, ⟨_, rfl⟩, hW, hsame.mono (by decide) (by decide)⟩
  · exact retI X0 hx Bd.returns (hb hby d0_36) hr
  · show Q_own_src12 Z  h0 n0 _ s₁.heap _
    rw [e0]
    exact ⟨rfl, N0, rfl⟩
theorem ef_own_src13 (m : MethodId)  : entryFrame m #[(.int (13 : Int32))] 1 = mkF m 0 #[.val (.int (13 : Int32))] [] := by first | (simp [entryFrame, mkF, argsToLocals, Value.category]; done) | rfl
def Q_own_src13 (Z : State)   (h0 : Heap) (n0 : Nat) (v : Option Value) (h : Heap) (L : List Loc) : Prop := v = some (.int (0 : Int32)) ∧ Fr n0 L ∧ h = h0
set_option maxRecDepth 65536 in
set_option maxHeartbeats 40000000 in
theorem own_src13 (l : Launch) (Z : State) (a0 : Array Value) (hw : ∀ d ∈ tables_1, d.before a0 Z = true) (ws : List Jvm.Cond)   (h0 : Heap) (n0 : Nat) (Z0 : n0 ≤ h0.size) :
    MetFree l (⟨"com/example/tracewright/tracewright/engine/expr/UnaryOpAcceptsPinLaw", "sourceKindIndex", "(I)I"⟩ : MethodName) (head1 (Jvm.Cond.code (⟨"com/example/tracewright/tracewright/engine/expr/UnaryOpAcceptsPinLaw", "sourceKindIndex", "(I)I"⟩ : MethodName) method_2_code 1 (some .int) :: ws) ({ frames := 0, cells := 0, slots := 0, locals := 0 } : Room)) (fun a U => a = #[(.int (13 : Int32))] ∧ Z.Warmed39 U.vm ∧ U.heap = h0) (fun _ _ _ _ _ => True) (fun _ U o U' => ∃ v L, o = .returned v ∧ Q_own_src13 Z  h0 n0 v U'.heap L ∧ FrameEnd U o U' L ({ frames := 0, cells := 0, slots := 0, locals := 0 } : Room).cells ({ frames := 0, cells := 0, slots := 0, locals := 0 } : Room).slots) := by
  refine MetFree.of_bodySF (plainFor_of_name pn_1) hisR ?_
  intro p e s m args below meth c s₁ Bd hml0 hP hK
  obtain ⟨rfl, hZ, hh⟩ := hP
  have hx := Bd.exec
  have hby := Bd.bytes
  have hml : c.maxLocals = 1 := hml0
  have hown : s.vm.findClass "com/example/tracewright/tracewright/engine/expr/UnaryOpAcceptsPinLaw" = some m.cls := findClass_of_methodNamed Bd.named
  have hnm := (name_of_methodNamed Bd.named Bd.method).1
  have X0 : Stand p l e ({ frames := 0, cells := 0, slots := 0, locals := 0 } : Room) s m #[(.int (13 : Int32))] below meth c s₁ [] 0 0 := Stand.of_body Bd
  have e0 : s₁.heap = h0 := by rw [← hh, Bd.state]; rfl
  have N0 := Fr.nil n0
  have go0 : ∀ t, Steps p.tables e below (s₁.setTop (mkF m 0 #[.val (.int (13 : Int32))] [])) t → Steps p.tables e below (s₁.setTop (entryFrame m #[(.int (13 : Int32))] 1)) t := fun t k => castTop (ef_own_src13 m ) k
  revert go0
  generalize s₁.setTop (entryFrame m #[(.int (13 : Int32))] 1) = st0
  intro go0
  have go1 : ∀ t, Steps p.tables e below (s₁.setTop (mkF m 38 #[.val (.int (13 : Int32))] [(.int (0 : Int32))])) t → Steps p.tables e below st0 t := by
    intro t kt
    refine go0 t ?_
    refine XS.iloadN X0.here hx rfl (hb hby d0_0) rfl ?_
    show Steps p.tables e below (s₁.setTop (mkF m 1 #[.val (.int (13 : Int32))] [(.int (13 : Int32))])) _
    refine XS.ifYes X0.here hx rfl (pc0 := 1) (pc' := 6) rfl (hb hby d0_1) rfl ((if0 _ _).trans (feq (by decide : ¬ ((13 : Int32) = (0 : Int32)))).2) (by decide) (by decide) ?_
    show Steps p.tables e below (s₁.setTop (mkF m 6 #[.val (.int (13 : Int32))] [])) _
    refine XS.iloadN X0.here hx rfl (hb hby d0_6) rfl ?_
    show Steps p.tables e below (s₁.setTop (mkF m 7 #[.val (.int (13 : Int32))] [(.int (13 : Int32))])) _
    refine XS.iconst X0.here hx rfl (hb hby d0_7) ?_
    show Steps p.tables e below (s₁.setTop (mkF m 8 #[.val (.int (13 : Int32))] [(.int (3 : Int32)), (.int (13 : Int32))])) _
    refine XS.icmpYes X0.here hx rfl (pc0 := 8) (pc' := 13) rfl (hb hby d0_8) rfl (tlt (by decide : (3 : Int32) < (13 : Int32))).2.2.1 (by decide) (by decide) ?_
    show Steps p.tables e below (s₁.setTop (mkF m 13 #[.val (.int (13 : Int32))] [])) _
    refine XS.iloadN X0.here hx rfl (hb hby d0_13) rfl ?_
    show Steps p.tables e below (s₁.setTop (mkF m 14 #[.val (.int (13 : Int32))] [(.int (13 : Int32))])) _
    refine XS.bipush X0.here hx rfl (hb hby d0_14) ?_
    show Steps p.tables e below (s₁.setTop (mkF m 16 #[.val (.int (13 : Int32))] [(.int (6 : Int32)), (.int (13 : Int32))])) _
    refine XS.icmpYes X0.here hx rfl (pc0 := 16) (pc' := 21) rfl (hb hby d0_16) rfl (tlt (by decide : (6 : Int32) < (13 : Int32))).2.2.1 (by decide) (by decide) ?_
    show Steps p.tables e below (s₁.setTop (mkF m 21 #[.val (.int (13 : Int32))] [])) _
    refine XS.iloadN X0.here hx rfl (hb hby d0_21) rfl ?_
    show Steps p.tables e below (s₁.setTop (mkF m 22 #[.val (.int (13 : Int32))] [(.int (13 : Int32))])) _
    refine XS.bipush X0.here hx rfl (hb hby d0_22) ?_
    show Steps p.tables e below (s₁.setTop (mkF m 24 #[.val (.int (13 : Int32))] [(.int (9 : Int32)), (.int (13 : Int32))])) _
    refine XS.icmpYes X0.here hx rfl (pc0 := 24) (pc' := 29) rfl (hb hby d0_24) rfl (tlt (by decide : (9 : Int32) < (13 : Int32))).2.2.1 (by decide) (by decide) ?_
    show Steps p.tables e below (s₁.setTop (mkF m 29 #[.val (.int (13 : Int32))] [])) _
    refine XS.iloadN X0.here hx rfl (hb hby d0_29) rfl ?_
    show Steps p.tables e below (s₁.setTop (mkF m 30 #[.val (.int (13 : Int32))] [(.int (13 : Int32))])) _
    refine XS.bipush X0.here hx rfl (hb hby d0_30) ?_
    show Steps p.tables e below (s₁.setTop (mkF m 32 #[.val (.int (13 : Int32))] [(.int (12 : Int32)), (.int (13 : Int32))])) _
    refine XS.icmpYes X0.here hx rfl (pc0 := 32) (pc' := 37) rfl (hb hby d0_32) rfl (tlt (by decide : (12 : Int32) < (13 : Int32))).2.2.1 (by decide) (by decide) ?_
    show Steps p.tables e below (s₁.setTop (mkF m 37 #[.val (.int (13 : Int32))] [])) _
    refine XS.iconst X0.here hx rfl (hb hby d0_37) ?_
    show Steps p.tables e below (s₁.setTop (mkF m 38 #[.val (.int (13 : Int32))] [(.int (0 : Int32))])) _
    exact kt
  obtain ⟨fs, hr, hrun, hended, hW, hsame⟩ := X0.leave (v := some (.int (0 : Int32))) (fun h => by rw [Bd.returns] at h; cases h)
  refine ⟨_, _, go1 _ ?_, hrun, hended, _, _, rfl, ?_, ⟨_, rfl⟩, hW, hsame.mono (by decide) (by decide)⟩
  · exact retI X0 hx Bd.returns (hb hby d0_38) hr
  · show Q_own_src13 Z  h0 n0 _ s₁.heap _
    rw [e0]
    exact ⟨rfl, N0, rfl⟩
theorem ef_own_src14 (m : MethodId)  : entryFrame m #[(.int (14 : Int32))] 1 = mkF m 0 #[.val (.int (14 : Int32))] [] := by first | (simp [entryFrame, mkF, argsToLocals, Value.category]; done) | rfl
def Q_own_src14 (Z : State)   (h0 : Heap) (n0 : Nat) (v : Option Value) (h : Heap) (L : List Loc) : Prop := v = some (.int (0 : Int32)) ∧ Fr n0 L ∧ h = h0
set_option maxRecDepth 65536 in
set_option maxHeartbeats 40000000 in
theorem own_src14 (l : Launch) (Z : State) (a0 : Array Value) (hw : ∀ d ∈ tables_1, d.before a0 Z = true) (ws : List Jvm.Cond)   (h0 : Heap) (n0 : Nat) (Z0 : n0 ≤ h0.size) :
    MetFree l (⟨"com/example/tracewright/tracewright/engine/expr/UnaryOpAcceptsPinLaw", "sourceKindIndex", "(I)I"⟩ : MethodName) (head1 (Jvm.Cond.code (⟨"com/example/tracewright/tracewright/engine/expr/UnaryOpAcceptsPinLaw", "sourceKindIndex", "(I)I"⟩ : MethodName) method_2_code 1 (some .int) :: ws) ({ frames := 0, cells := 0, slots := 0, locals := 0 } : Room)) (fun a U => a = #[(.int (14 : Int32))] ∧ Z.Warmed39 U.vm ∧ U.heap = h0) (fun _ _ _ _ _ => True) (fun _ U o U' => ∃ v L, o = .returned v ∧ Q_own_src14 Z  h0 n0 v U'.heap L ∧ FrameEnd U o U' L ({ frames := 0, cells := 0, slots := 0, locals := 0 } : Room).cells ({ frames := 0, cells := 0, slots := 0, locals := 0 } : Room).slots) := by
  refine MetFree.of_bodySF (plainFor_of_name pn_1) hisR ?_
  intro p e s m args below meth c s₁ Bd hml0 hP hK
  obtain ⟨rfl, hZ, hh⟩ := hP
  have hx := Bd.exec
  have hby := Bd.bytes
  have hml : c.maxLocals = 1 := hml0
  have hown : s.vm.findClass "com/example/tracewright/tracewright/engine/expr/UnaryOpAcceptsPinLaw" = some m.cls := findClass_of_methodNamed Bd.named
  have hnm := (name_of_methodNamed Bd.named Bd.method).1
  have X0 : Stand p l e ({ frames := 0, cells := 0, slots := 0, locals := 0 } : Room) s m #[(.int (14 : Int32))] below meth c s₁ [] 0 0 := Stand.of_body Bd
  have e0 : s₁.heap = h0 := by rw [← hh, Bd.state]; rfl
  have N0 := Fr.nil n0
  have go0 : ∀ t, Steps p.tables e below (s₁.setTop (mkF m 0 #[.val (.int (14 : Int32))] [])) t → Steps p.tables e below (s₁.setTop (entryFrame m #[(.int (14 : Int32))] 1)) t := fun t k => castTop (ef_own_src14 m ) k
  revert go0
  generalize s₁.setTop (entryFrame m #[(.int (14 : Int32))] 1) = st0
  intro go0
  have go1 : ∀ t, Steps p.tables e below (s₁.setTop (mkF m 38 #[.val (.int (14 : Int32))] [(.int (0 : Int32))])) t → Steps p.tables e below st0 t := by
    intro t kt
    refine go0 t ?_
    refine XS.iloadN X0.here hx rfl (hb hby d0_0) rfl ?_
    show Steps p.tables e below (s₁.setTop (mkF m 1 #[.val (.int (14 : Int32))] [(.int (14 : Int32))])) _
    refine XS.ifYes X0.here hx rfl (pc0 := 1) (pc' := 6) rfl (hb hby d0_1) rfl ((if0 _ _).trans (feq (by decide : ¬ ((14 : Int32) = (0 : Int32)))).2) (by decide) (by decide) ?_
    show Steps p.tables e below (s₁.setTop (mkF m 6 #[.val (.int (14 : Int32))] [])) _
    refine XS.iloadN X0.here hx rfl (hb hby d0_6) rfl ?_
    show Steps p.tables e below (s₁.setTop (mkF m 7 #[.val (.int (14 : Int32))] [(.int (14 : Int32))])) _
    refine XS.iconst X0.here hx rfl (hb hby d0_7) ?_
    show Steps p.tables e below (s₁.setTop (mkF m 8 #[.val (.int (14 : Int32))] [(.int (3 : Int32)), (.int (14 : Int32))])) _
    refine XS.icmpYes X0.here hx rfl (pc0 := 8) (pc' := 13) rfl (hb hby d0_8) rfl (tlt (by decide : (3 : Int32) < (14 : Int32))).2.2.1 (by decide) (by decide) ?_
    show Steps p.tables e below (s₁.setTop (mkF m 13 #[.val (.int (14 : Int32))] [])) _
    refine XS.iloadN X0.here hx rfl (hb hby d0_13) rfl ?_
    show Steps p.tables e below (s₁.setTop (mkF m 14 #[.val (.int (14 : Int32))] [(.int (14 : Int32))])) _
    refine XS.bipush X0.here hx rfl (hb hby d0_14) ?_
    show Steps p.tables e below (s₁.setTop (mkF m 16 #[.val (.int (14 : Int32))] [(.int (6 : Int32)), (.int (14 : Int32))])) _
    refine XS.icmpYes X0.here hx rfl (pc0 := 16) (pc' := 21) rfl (hb hby d0_16) rfl (tlt (by decide : (6 : Int32) < (14 : Int32))).2.2.1 (by decide) (by decide) ?_
    show Steps p.tables e below (s₁.setTop (mkF m 21 #[.val (.int (14 : Int32))] [])) _
    refine XS.iloadN X0.here hx rfl (hb hby d0_21) rfl ?_
    show Steps p.tables e below (s₁.setTop (mkF m 22 #[.val (.int (14 : Int32))] [(.int (14 : Int32))])) _
    refine XS.bipush X0.here hx rfl (hb hby d0_22) ?_
    show Steps p.tables e below (s₁.setTop (mkF m 24 #[.val (.int (14 : Int32))] [(.int (9 : Int32)), (.int (14 : Int32))])) _
    refine XS.icmpYes X0.here hx rfl (pc0 := 24) (pc' := 29) rfl (hb hby d0_24) rfl (tlt (by decide : (9 : Int32) < (14 : Int32))).2.2.1 (by decide) (by decide) ?_
    show Steps p.tables e below (s₁.setTop (mkF m 29 #[.val (.int (14 : Int32))] [])) _
    refine XS.iloadN X0.here hx rfl (hb hby d0_29) rfl ?_
    show Steps p.tables e below (s₁.setTop (mkF m 30 #[.val (.int (14 : Int32))] [(.int (14 : Int32))])) _
    refine XS.bipush X0.here hx rfl (hb hby d0_30) ?_
    show Steps p.tables e below (s₁.setTop (mkF m 32 #[.val (.int (14 : Int32))] [(.int (12 : Int32)), (.int (14 : Int32))])) _
    refine XS.icmpYes X0.here hx rfl (pc0 := 32) (pc' := 37) rfl (hb hby d0_32) rfl (tlt (by decide : (12 : Int32) < (14 : Int32))).2.2.1 (by decide) (by decide) ?_
    show Steps p.tables e below (s₁.setTop (mkF m 37 #[.val (.int (14 : Int32))] [])) _
    refine XS.iconst X0.here hx rfl (hb hby d0_37) ?_
    show Steps p.tables e below (s₁.setTop (mkF m 38 #[.val (.int (14 : Int32))] [(.int (0 : Int32))])) _
    exact kt
  obtain ⟨fs, hr, hrun, hended, hW, hsame⟩ := X0.leave (v := some (.int (0 : Int32))) (fun h => by rw [Bd.returns] at h; cases h)
  refine ⟨_, _, go1 _ ?_, hrun, hended, _, _, rfl, ?_, ⟨_, rfl⟩, hW, hsame.mono (by decide) (by decide)⟩
  · exact retI X0 hx Bd.returns (hb hby d0_38) hr
  · show Q_own_src14 Z  h0 n0 _ s₁.heap _
    rw [e0]
    exact ⟨rfl, N0, rfl⟩
theorem ef_own_src15 (m : MethodId)  : entryFrame m #[(.int (15 : Int32))] 1 = mkF m 0 #[.val (.int (15 : Int32))] [] := by first | (simp [entryFrame, mkF, argsToLocals, Value.category]; done) | rfl
def Q_own_src15 (Z : State)   (h0 : Heap) (n0 : Nat) (v : Option Value) (h : Heap) (L : List Loc) : Prop := v = some (.int (0 : Int32)) ∧ Fr n0 L ∧ h = h0
set_option maxRecDepth 65536 in
set_option maxHeartbeats 40000000 in
theorem own_src15 (l : Launch) (Z : State) (a0 : Array Value) (hw : ∀ d ∈ tables_1, d.before a0 Z = true) (ws : List Jvm.Cond)   (h0 : Heap) (n0 : Nat) (Z0 : n0 ≤ h0.size) :
    MetFree l (⟨"com/example/tracewright/tracewright/engine/expr/UnaryOpAcceptsPinLaw", "sourceKindIndex", "(I)I"⟩ : MethodName) (head1 (Jvm.Cond.code (⟨"com/example/tracewright/tracewright/engine/expr/UnaryOpAcceptsPinLaw", "sourceKindIndex", "(I)I"⟩ : MethodName) method_2_code 1 (some .int) :: ws) ({ frames := 0, cells := 0, slots := 0, locals := 0 } : Room)) (fun a U => a = #[(.int (15 : Int32))] ∧ Z.Warmed39 U.vm ∧ U.heap = h0) (fun _ _ _ _ _ => True) (fun _ U o U' => ∃ v L, o = .returned v ∧ Q_own_src15 Z  h0 n0 v U'.heap L ∧ FrameEnd U o U' L ({ frames := 0, cells := 0, slots := 0, locals := 0 } : Room).cells ({ frames := 0, cells := 0, slots := 0, locals := 0 } : Room).slots) := by
  refine MetFree.of_bodySF (plainFor_of_name pn_1) hisR ?_
  intro p e s m args below meth c s₁ Bd hml0 hP hK
  obtain ⟨rfl, hZ, hh⟩ := hP
  have hx := Bd.exec
  have hby := Bd.bytes
  have hml : c.maxLocals = 1 := hml0
  have hown : s.vm.findClass "com/example/tracewright/tracewright/engine/expr/UnaryOpAcceptsPinLaw" = some m.cls := findClass_of_methodNamed Bd.named
  have hnm := (name_of_methodNamed Bd.named Bd.method).1
  have X0 : Stand p l e ({ frames := 0, cells := 0, slots := 0, locals := 0 } : Room) s m #[(.int (15 : Int32))] below meth c s₁ [] 0 0 := Stand.of_body Bd
  have e0 : s₁.heap = h0 := by rw [← hh, Bd.state]; rfl
  have N0 := Fr.nil n0
  have go0 : ∀ t, Steps p.tables e below (s₁.setTop (mkF m 0 #[.val (.int (15 : Int32))] [])) t → Steps p.tables e below (s₁.setTop (entryFrame m #[(.int (15 : Int32))] 1)) t := fun t k => castTop (ef_own_src15 m ) k
  revert go0
  generalize s₁.setTop (entryFrame m #[(.int (15 : Int32))] 1) = st0
  intro go0
  have go1 : ∀ t, Steps p.tables e below (s₁.setTop (mkF m 38 #[.val (.int (15 : Int32))] [(.int (0 : Int32))])) t → Steps p.tables e below st0 t := by
    intro t kt
    refine go0 t ?_
    refine XS.iloadN X0.here hx rfl (hb hby d0_0) rfl ?_
    show Steps p.tables e below (s₁.setTop (mkF m 1 #[.val (.int (15 : Int32))] [(.int (15 : Int32))])) _
    refine XS.ifYes X0.here hx rfl (pc0 := 1) (pc' := 6) rfl (hb hby d0_1) rfl ((if0 _ _).trans (feq (by decide : ¬ ((15 : Int32) = (0 : Int32)))).2) (by decide) (by decide) ?_
    show Steps p.tables e below (s₁.setTop (mkF m 6 #[.val (.int (15 : Int32))] [])) _
    refine XS.iloadN X0.here hx rfl (hb hby d0_6) rfl ?_
    show Steps p.tables e below (s₁.setTop (mkF m 7 #[.val (.int (15 : Int32))] [(.int (15 : Int32))])) _
    refine XS.iconst X0.here hx rfl (hb hby d0_7) ?_
    show Steps p.tables e below (s₁.setTop (mkF m 8 #[.val (.int (15 : Int32))] [(.int (3 : Int32)), (.int (15 : Int32))])) _
    refine XS.icmpYes X0.here hx rfl (pc0 := 8) (pc' := 13) rfl (hb hby d0_8) rfl (tlt (by decide : (3 : Int32) < (15 : Int32))).2.2.1 (by decide) (by decide) ?_
    show Steps p.tables e below (s₁.setTop (mkF m 13 #[.val (.int (15 : Int32))] [])) _
    refine XS.iloadN X0.here hx rfl (hb hby d0_13) rfl ?_
    show Steps p.tables e below (s₁.setTop (mkF m 14 #[.val (.int (15 : Int32))] [(.int (15 : Int32))])) _
    refine XS.bipush X0.here hx rfl (hb hby d0_14) ?_
    show Steps p.tables e below (s₁.setTop (mkF m 16 #[.val (.int (15 : Int32))] [(.int (6 : Int32)), (.int (15 : Int32))])) _
    refine XS.icmpYes X0.here hx rfl (pc0 := 16) (pc' := 21) rfl (hb hby d0_16) rfl (tlt (by decide : (6 : Int32) < (15 : Int32))).2.2.1 (by decide) (by decide) ?_
    show Steps p.tables e below (s₁.setTop (mkF m 21 #[.val (.int (15 : Int32))] [])) _
    refine XS.iloadN X0.here hx rfl (hb hby d0_21) rfl ?_
    show Steps p.tables e below (s₁.setTop (mkF m 22 #[.val (.int (15 : Int32))] [(.int (15 : Int32))])) _
    refine XS.bipush X0.here hx rfl (hb hby d0_22) ?_
    show Steps p.tables e below (s₁.setTop (mkF m 24 #[.val (.int (15 : Int32))] [(.int (9 : Int32)), (.int (15 : Int32))])) _
    refine XS.icmpYes X0.here hx rfl (pc0 := 24) (pc' := 29) rfl (hb hby d0_24) rfl (tlt (by decide : (9 : Int32) < (15 : Int32))).2.2.1 (by decide) (by decide) ?_
    show Steps p.tables e below (s₁.setTop (mkF m 29 #[.val (.int (15 : Int32))] [])) _
    refine XS.iloadN X0.here hx rfl (hb hby d0_29) rfl ?_
    show Steps p.tables e below (s₁.setTop (mkF m 30 #[.val (.int (15 : Int32))] [(.int (15 : Int32))])) _
    refine XS.bipush X0.here hx rfl (hb hby d0_30) ?_
    show Steps p.tables e below (s₁.setTop (mkF m 32 #[.val (.int (15 : Int32))] [(.int (12 : Int32)), (.int (15 : Int32))])) _
    refine XS.icmpYes X0.here hx rfl (pc0 := 32) (pc' := 37) rfl (hb hby d0_32) rfl (tlt (by decide : (12 : Int32) < (15 : Int32))).2.2.1 (by decide) (by decide) ?_
    show Steps p.tables e below (s₁.setTop (mkF m 37 #[.val (.int (15 : Int32))] [])) _
    refine XS.iconst X0.here hx rfl (hb hby d0_37) ?_
    show Steps p.tables e below (s₁.setTop (mkF m 38 #[.val (.int (15 : Int32))] [(.int (0 : Int32))])) _
    exact kt
  obtain ⟨fs, hr, hrun, hended, hW, hsame⟩ := X0.leave (v := some (.int (0 : Int32))) (fun h => by rw [Bd.returns] at h; cases h)
  refine ⟨_, _, go1 _ ?_, hrun, hended, _, _, rfl, ?_, ⟨_, rfl⟩, hW, hsame.mono (by decide) (by decide)⟩
  · exact retI X0 hx Bd.returns (hb hby d0_38) hr
  · show Q_own_src15 Z  h0 n0 _ s₁.heap _
    rw [e0]
    exact ⟨rfl, N0, rfl⟩
theorem ef_own_acc0 (m : MethodId) (pr0 : Addr) (pr1 : Addr) : entryFrame m #[(.ref pr0), (.ref pr1)] 2 = mkF m 0 #[.val (.ref pr0), .val (.ref pr1)] [] := by first | (simp [entryFrame, mkF, argsToLocals, Value.category]; done) | rfl
def Q_own_acc0 (Z : State) (pr0 : Addr) (pr1 : Addr)  (h0 : Heap) (n0 : Nat) (v : Option Value) (h : Heap) (L : List Loc) : Prop := v = some (.int (1 : Int32)) ∧ Fr n0 L ∧ h = h0
set_option maxRecDepth 65536 in
set_option maxHeartbeats 40000000 in
theorem own_acc0 (l : Launch) (Z : State) (a0 : Array Value) (hw : ∀ d ∈ tables_1, d.before a0 Z = true) (ws : List Jvm.Cond) (pr0 : Addr) (pr1 : Addr)  (h0 : Heap) (n0 : Nat) (Z0 : n0 ≤ h0.size) (P0 : Fld Z h0 pr0 "com/example/tracewright/tracewright/engine/expr/UnaryOp" "from" "Lcom/example/tracewright/tracewright/engine/expr/Kind;" .null) :
    MetFree l (⟨"com/example/tracewright/tracewright/engine/expr/UnaryOp", "accepts", "(Lcom/example/tracewright/tracewright/engine/expr/Kind;)Z"⟩ : MethodName) (head1 (Jvm.Cond.code (⟨"com/example/tracewright/tracewright/engine/expr/UnaryOp", "accepts", "(Lcom/example/tracewright/tracewright/engine/expr/Kind;)Z"⟩ : MethodName) prog_43_method_5_code 2 (some .boolean) :: ws) ({ frames := 0, cells := 0, slots := 0, locals := 0 } : Room)) (fun a U => a = #[(.ref pr0), (.ref pr1)] ∧ Z.Warmed39 U.vm ∧ U.heap = h0) (fun _ _ _ _ _ => True) (fun _ U o U' => ∃ v L, o = .returned v ∧ Q_own_acc0 Z pr0 pr1 h0 n0 v U'.heap L ∧ FrameEnd U o U' L ({ frames := 0, cells := 0, slots := 0, locals := 0 } : Room).cells ({ frames := 0, cells := 0, slots := 0, locals := 0 } : Room).slots) := by
  refine MetFree.of_bodySF (plainFor_of_name pn_3) hisR ?_
  intro p e s m args below meth c s₁ Bd hml0 hP hK
  obtain ⟨rfl, hZ, hh⟩ := hP
  have hx := Bd.exec
  have hby := Bd.bytes
  have hml : c.maxLocals = 2 := hml0
  have hown : s.vm.findClass "com/example/tracewright/tracewright/engine/expr/UnaryOp" = some m.cls := findClass_of_methodNamed Bd.named
  have hnm := (name_of_methodNamed Bd.named Bd.method).1
  have X0 : Stand p l e ({ frames := 0, cells := 0, slots := 0, locals := 0 } : Room) s m #[(.ref pr0), (.ref pr1)] below meth c s₁ [] 0 0 := Stand.of_body Bd
  have e0 : s₁.heap = h0 := by rw [← hh, Bd.state]; rfl
  have N0 := Fr.nil n0
  have go0 : ∀ t, Steps p.tables e below (s₁.setTop (mkF m 0 #[.val (.ref pr0), .val (.ref pr1)] [])) t → Steps p.tables e below (s₁.setTop (entryFrame m #[(.ref pr0), (.ref pr1)] 2)) t := fun t k => castTop (ef_own_acc0 m pr0 pr1) k
  revert go0
  generalize s₁.setTop (entryFrame m #[(.ref pr0), (.ref pr1)] 2) = st0
  intro go0
  obtain ⟨T1, X1, e1, st1⟩ := getF X0 hx hZ hown (host := "") (Or.inl (hw _ (List.mem_of_getElem? (i := 57) rfl))) Via.refl e0 P0 (g := (mkF m 1 #[.val (.ref pr0), .val (.ref pr1)] [(.ref pr0)])) rfl rfl (hb hby d2_1)
  have go2 : ∀ t, Steps p.tables e below (T1.setTop (mkF m 20 #[.val (.ref pr0), .val (.ref pr1)] [(.int (1 : Int32))])) t → Steps p.tables e below st0 t := by
    intro t kt
    refine go0 t ?_
    refine XS.aloadN X0.here hx rfl (hb hby d2_0) rfl rfl ?_
    show Steps p.tables e below (s₁.setTop (mkF m 1 #[.val (.ref pr0), .val (.ref pr1)] [(.ref pr0)])) _
    refine st1 _ ?_
    show Steps p.tables e below (T1.setTop (mkF m 4 #[.val (.ref pr0), .val (.ref pr1)] [.null])) _
    refine XS.ifnullYes X1.here hx rfl (pc0 := 4) (pc' := 15) rfl (hb hby d2_4) rfl (by decide) (by decide) ?_
    show Steps p.tables e below (T1.setTop (mkF m 15 #[.val (.ref pr0), .val (.ref pr1)] [])) _
    refine XS.iconst X1.here hx rfl (hb hby d2_15) ?_
    show Steps p.tables e below (T1.setTop (mkF m 16 #[.val (.ref pr0), .val (.ref pr1)] [(.int (1 : Int32))])) _
    refine XS.goto X1.here hx rfl (pc0 := 16) (pc' := 20) rfl (hb hby d2_16) (by decide) (by decide) ?_
    show Steps p.tables e below (T1.setTop (mkF m 20 #[.val (.ref pr0), .val (.ref pr1)] [(.int (1 : Int32))])) _
    exact kt
  obtain ⟨fs, hr, hrun, hended, hW, hsame⟩ := X1.leave (v := some (.int (1 : Int32))) (fun h => by rw [Bd.returns] at h; cases h)
  refine ⟨_, _, go2 _ ?_, hrun, hended, _, _, rfl, ?_, ⟨_, rfl⟩, hW, hsame.mono (by decide) (by decide)⟩
  · exact retN X1 hx (t := .boolean) Bd.returns (by simp) (hb hby d2_20) hr
  · show Q_own_acc0 Z pr0 pr1 h0 n0 _ T1.heap _
    rw [e1]
    exact ⟨rfl, N0, rfl⟩
theorem ef_own_acc1 (m : MethodId) (pr0 : Addr) (pr1 : Addr) : entryFrame m #[(.ref pr0), (.ref pr1)] 2 = mkF m 0 #[.val (.ref pr0), .val (.ref pr1)] [] := by first | (simp [entryFrame, mkF, argsToLocals, Value.category]; done) | rfl
def Q_own_acc1 (Z : State) (pr0 : Addr) (pr1 : Addr)  (h0 : Heap) (n0 : Nat) (v : Option Value) (h : Heap) (L : List Loc) : Prop := v = some (.int (1 : Int32)) ∧ Fr n0 L ∧ h = h0
set_option maxRecDepth 65536 in
set_option maxHeartbeats 40000000 in
theorem own_acc1 (l : Launch) (Z : State) (a0 : Array Value) (hw : ∀ d ∈ tables_1, d.before a0 Z = true) (ws : List Jvm.Cond) (pr0 : Addr) (pr1 : Addr)  (h0 : Heap) (n0 : Nat) (Z0 : n0 ≤ h0.size) (P0 : Fld Z h0 pr0 "com/example/tracewright/tracewright/engine/expr/UnaryOp" "from" "Lcom/example/tracewright/tracewright/engine/expr/Kind;" (.ref pr1)) :
    MetFree l (⟨"com/example/tracewright/tracewright/engine/expr/UnaryOp", "accepts", "(Lcom/example/tracewright/tracewright/engine/expr/Kind;)Z"⟩ : MethodName) (head1 (Jvm.Cond.code (⟨"com/example/tracewright/tracewright/engine/expr/UnaryOp", "accepts", "(Lcom/example/tracewright/tracewright/engine/expr/Kind;)Z"⟩ : MethodName) prog_43_method_5_code 2 (some .boolean) :: ws) ({ frames := 0, cells := 0, slots := 0, locals := 0 } : Room)) (fun a U => a = #[(.ref pr0), (.ref pr1)] ∧ Z.Warmed39 U.vm ∧ U.heap = h0) (fun _ _ _ _ _ => True) (fun _ U o U' => ∃ v L, o = .returned v ∧ Q_own_acc1 Z pr0 pr1 h0 n0 v U'.heap L ∧ FrameEnd U o U' L ({ frames := 0, cells := 0, slots := 0, locals := 0 } : Room).cells ({ frames := 0, cells := 0, slots := 0, locals := 0 } : Room).slots) := by
  refine MetFree.of_bodySF (plainFor_of_name pn_3) hisR ?_
  intro p e s m args below meth c s₁ Bd hml0 hP hK
  obtain ⟨rfl, hZ, hh⟩ := hP
  have hx := Bd.exec
  have hby := Bd.bytes
  have hml : c.maxLocals = 2 := hml0
  have hown : s.vm.findClass "com/example/tracewright/tracewright/engine/expr/UnaryOp" = some m.cls := findClass_of_methodNamed Bd.named
  have hnm := (name_of_methodNamed Bd.named Bd.method).1
  have X0 : Stand p l e ({ frames := 0, cells := 0, slots := 0, locals := 0 } : Room) s m #[(.ref pr0), (.ref pr1)] below meth c s₁ [] 0 0 := Stand.of_body Bd
  have e0 : s₁.heap = h0 := by rw [← hh, Bd.state]; rfl
  have N0 := Fr.nil n0
  have go0 : ∀ t, Steps p.tables e below (s₁.setTop (mkF m 0 #[.val (.ref pr0), .val (.ref pr1)] [])) t → Steps p.tables e below (s₁.setTop (entryFrame m #[(.ref pr0), (.ref pr1)] 2)) t := fun t k => castTop (ef_own_acc1 m pr0 pr1) k
  revert go0
  generalize s₁.setTop (entryFrame m #[(.ref pr0), (.ref pr1)] 2) = st0
  intro go0
  obtain ⟨T1, X1, e1, st1⟩ := getF X0 hx hZ hown (host := "") (Or.inl (hw _ (List.mem_of_getElem? (i := 57) rfl))) Via.refl e0 P0 (g := (mkF m 1 #[.val (.ref pr0), .val (.ref pr1)] [(.ref pr0)])) rfl rfl (hb hby d2_1)
  obtain ⟨T2, X2, e2, st2⟩ := getF X1 hx hZ hown (host := "") (Or.inl (hw _ (List.mem_of_getElem? (i := 57) rfl))) Via.refl e1 P0 (g := (mkF m 8 #[.val (.ref pr0), .val (.ref pr1)] [(.ref pr0)])) rfl rfl (hb hby d2_8)
  have go3 : ∀ t, Steps p.tables e below (T2.setTop (mkF m 20 #[.val (.ref pr0), .val (.ref pr1)] [(.int (1 : Int32))])) t → Steps p.tables e below st0 t := by
    intro t kt
    refine go0 t ?_
    refine XS.aloadN X0.here hx rfl (hb hby d2_0) rfl rfl ?_
    show Steps p.tables e below (s₁.setTop (mkF m 1 #[.val (.ref pr0), .val (.ref pr1)] [(.ref pr0)])) _
    refine st1 _ ?_
    show Steps p.tables e below (T1.setTop (mkF m 4 #[.val (.ref pr0), .val (.ref pr1)] [(.ref pr1)])) _
    refine XS.ifnullNo X1.here hx rfl (hb hby d2_4) rfl ?_
    show Steps p.tables e below (T1.setTop (mkF m 7 #[.val (.ref pr0), .val (.ref pr1)] [])) _
    refine XS.aloadN X1.here hx rfl (hb hby d2_7) rfl rfl ?_
    show Steps p.tables e below (T1.setTop (mkF m 8 #[.val (.ref pr0), .val (.ref pr1)] [(.ref pr0)])) _
    refine st2 _ ?_
    show Steps p.tables e below (T2.setTop (mkF m 11 #[.val (.ref pr0), .val (.ref pr1)] [(.ref pr1)])) _
    refine XS.aloadN X2.here hx rfl (hb hby d2_11) rfl rfl ?_
    show Steps p.tables e below (T2.setTop (mkF m 12 #[.val (.ref pr0), .val (.ref pr1)] [(.ref pr1), (.ref pr1)])) _
    refine Jvm.RoadKit.acmp (g := (mkF m 12 #[.val (.ref pr0), .val (.ref pr1)] [(.ref pr1), (.ref pr1)])) X2 hx rfl rfl rfl (pc0 := 12) (pc' := 15) (same := true) rfl (hb hby d2_12) rfl (decide_eq_true rfl) (by decide) (by decide) ?_
    show Steps p.tables e below (T2.setTop (mkF m 15 #[.val (.ref pr0), .val (.ref pr1)] [])) _
    refine XS.iconst X2.here hx rfl (hb hby d2_15) ?_
    show Steps p.tables e below (T2.setTop (mkF m 16 #[.val (.ref pr0), .val (.ref pr1)] [(.int (1 : Int32))])) _
    refine XS.goto X2.here hx rfl (pc0 := 16) (pc' := 20) rfl (hb hby d2_16) (by decide) (by decide) ?_
    show Steps p.tables e below (T2.setTop (mkF m 20 #[.val (.ref pr0), .val (.ref pr1)] [(.int (1 : Int32))])) _
    exact kt
  obtain ⟨fs, hr, hrun, hended, hW, hsame⟩ := X2.leave (v := some (.int (1 : Int32))) (fun h => by rw [Bd.returns] at h; cases h)
  refine ⟨_, _, go3 _ ?_, hrun, hended, _, _, rfl, ?_, ⟨_, rfl⟩, hW, hsame.mono (by decide) (by decide)⟩
  · exact retN X2 hx (t := .boolean) Bd.returns (by simp) (hb hby d2_20) hr
  · show Q_own_acc1 Z pr0 pr1 h0 n0 _ T2.heap _
    rw [e2]
    exact ⟨rfl, N0, rfl⟩
theorem ef_own_acc2 (m : MethodId) (pr0 : Addr) (pr1 : Addr) : entryFrame m #[(.ref pr0), (.ref pr1)] 2 = mkF m 0 #[.val (.ref pr0), .val (.ref pr1)] [] := by first | (simp [entryFrame, mkF, argsToLocals, Value.category]; done) | rfl
def Q_own_acc2 (Z : State) (pr0 : Addr) (pr1 : Addr) (k0 : Addr) (h0 : Heap) (n0 : Nat) (v : Option Value) (h : Heap) (L : List Loc) : Prop := v = some (.int (0 : Int32)) ∧ Fr n0 L ∧ h = h0
set_option maxRecDepth 65536 in
set_option maxHeartbeats 40000000 in
theorem own_acc2 (l : Launch) (Z : State) (a0 : Array Value) (hw : ∀ d ∈ tables_1, d.before a0 Z = true) (ws : List Jvm.Cond) (pr0 : Addr) (pr1 : Addr) (k0 : Addr) (h0 : Heap) (n0 : Nat) (Z0 : n0 ≤ h0.size) (P0 : Fld Z h0 pr0 "com/example/tracewright/tracewright/engine/expr/UnaryOp" "from" "Lcom/example/tracewright/tracewright/engine/expr/Kind;" (.ref k0)) (P1 : ¬ (k0 = pr1)) :
    MetFree l (⟨"com/example/tracewright/tracewright/engine/expr/UnaryOp", "accepts", "(Lcom/example/tracewright/tracewright/engine/expr/Kind;)Z"⟩ : MethodName) (head1 (Jvm.Cond.code (⟨"com/example/tracewright/tracewright/engine/expr/UnaryOp", "accepts", "(Lcom/example/tracewright/tracewright/engine/expr/Kind;)Z"⟩ : MethodName) prog_43_method_5_code 2 (some .boolean) :: ws) ({ frames := 0, cells := 0, slots := 0, locals := 0 } : Room)) (fun a U => a = #[(.ref pr0), (.ref pr1)] ∧ Z.Warmed39 U.vm ∧ U.heap = h0) (fun _ _ _ _ _ => True) (fun _ U o U' => ∃ v L, o = .returned v ∧ Q_own_acc2 Z pr0 pr1 k0 h0 n0 v U'.heap L ∧ FrameEnd U o U' L ({ frames := 0, cells := 0, slots := 0, locals := 0 } : Room).cells ({ frames := 0, cells := 0, slots := 0, locals := 0 } : Room).slots) := by
  refine MetFree.of_bodySF (plainFor_of_name pn_3) hisR ?_
  intro p e s m args below meth c s₁ Bd hml0 hP hK
  obtain ⟨rfl, hZ, hh⟩ := hP
  have hx := Bd.exec
  have hby := Bd.bytes
  have hml : c.maxLocals = 2 := hml0
  have hown : s.vm.findClass "com/example/tracewright/tracewright/engine/expr/UnaryOp" = some m.cls := findClass_of_methodNamed Bd.named
  have hnm := (name_of_methodNamed Bd.named Bd.method).1
  have X0 : Stand p l e ({ frames := 0, cells := 0, slots := 0, locals := 0 } : Room) s m #[(.ref pr0), (.ref pr1)] below meth c s₁ [] 0 0 := Stand.of_body Bd
  have e0 : s₁.heap = h0 := by rw [← hh, Bd.state]; rfl
  have N0 := Fr.nil n0
  have go0 : ∀ t, Steps p.tables e below (s₁.setTop (mkF m 0 #[.val (.ref pr0), .val (.ref pr1)] [])) t → Steps p.tables e below (s₁.setTop (entryFrame m #[(.ref pr0), (.ref pr1)] 2)) t := fun t k => castTop (ef_own_acc2 m pr0 pr1) k
  revert go0
  generalize s₁.setTop (entryFrame m #[(.ref pr0), (.ref pr1)] 2) = st0
  intro go0
  obtain ⟨T1, X1, e1, st1⟩ := getF X0 hx hZ hown (host := "") (Or.inl (hw _ (List.mem_of_getElem? (i := 57) rfl))) Via.refl e0 P0 (g := (mkF m 1 #[.val (.ref pr0), .val (.ref pr1)] [(.ref pr0)])) rfl rfl (hb hby d2_1)
  obtain ⟨T2, X2, e2, st2⟩ := getF X1 hx hZ hown (host := "") (Or.inl (hw _ (List.mem_of_getElem? (i := 57) rfl))) Via.refl e1 P0 (g := (mkF m 8 #[.val (.ref pr0), .val (.ref pr1)] [(.ref pr0)])) rfl rfl (hb hby d2_8)
  have go3 : ∀ t, Steps p.tables e below (T2.setTop (mkF m 20 #[.val (.ref pr0), .val (.ref pr1)] [(.int (0 : Int32))])) t → Steps p.tables e below st0 t := by
    intro t kt
    refine go0 t ?_
    refine XS.aloadN X0.here hx rfl (hb hby d2_0) rfl rfl ?_
    show Steps p.tables e below (s₁.setTop (mkF m 1 #[.val (.ref pr0), .val (.ref pr1)] [(.ref pr0)])) _
    refine st1 _ ?_
    show Steps p.tables e below (T1.setTop (mkF m 4 #[.val (.ref pr0), .val (.ref pr1)] [(.ref k0)])) _
    refine XS.ifnullNo X1.here hx rfl (hb hby d2_4) rfl ?_
    show Steps p.tables e below (T1.setTop (mkF m 7 #[.val (.ref pr0), .val (.ref pr1)] [])) _
    refine XS.aloadN X1.here hx rfl (hb hby d2_7) rfl rfl ?_
    show Steps p.tables e below (T1.setTop (mkF m 8 #[.val (.ref pr0), .val (.ref pr1)] [(.ref pr0)])) _
    refine st2 _ ?_
    show Steps p.tables e below (T2.setTop (mkF m 11 #[.val (.ref pr0), .val (.ref pr1)] [(.ref k0)])) _
    refine XS.aloadN X2.here hx rfl (hb hby d2_11) rfl rfl ?_
    show Steps p.tables e below (T2.setTop (mkF m 12 #[.val (.ref pr0), .val (.ref pr1)] [(.ref pr1), (.ref k0)])) _
    refine Jvm.RoadKit.acmp (g := (mkF m 12 #[.val (.ref pr0), .val (.ref pr1)] [(.ref pr1), (.ref k0)])) X2 hx rfl rfl rfl (pc0 := 12) (pc' := 19) (same := false) rfl (hb hby d2_12) rfl (decide_eq_false fun q => P1 (Value.ref.inj q)) (by decide) (by decide) ?_
    show Steps p.tables e below (T2.setTop (mkF m 19 #[.val (.ref pr0), .val (.ref pr1)] [])) _
    refine XS.iconst X2.here hx rfl (hb hby d2_19) ?_
    show Steps p.tables e below (T2.setTop (mkF m 20 #[.val (.ref pr0), .val (.ref pr1)] [(.int (0 : Int32))])) _
    exact kt
  obtain ⟨fs, hr, hrun, hended, hW, hsame⟩ := X2.leave (v := some (.int (0 : Int32))) (fun h => by rw [Bd.returns] at h; cases h)
  refine ⟨_, _, go3 _ ?_, hrun, hended, _, _, rfl, ?_, ⟨_, rfl⟩, hW, hsame.mono (by decide) (by decide)⟩
  · exact retN X2 hx (t := .boolean) Bd.returns (by simp) (hb hby d2_20) hr
  · show Q_own_acc2 Z pr0 pr1 k0 h0 n0 _ T2.heap _
    rw [e2]
    exact ⟨rfl, N0, rfl⟩
set_option maxRecDepth 65536 in
set_option maxHeartbeats 40000000 in
theorem own_tail0 {p : Program} {l : Launch} {e : Env} {s : State} {m : MethodId} {args : Array Value} {below : List Frame} {meth : Method} {c : Code} {T0 : State} {locs : List Loc} {Z : State} {a0 : Array Value} {h0 : Heap} {n0 : Nat} (xa : Int32) (xb : Int32) (bo : Addr) (bk : Addr) (op : Int32) (kx : Int32) (sx : Int32) (ko : ClassId) (kk : ClassId) (vo : List Value) (vk : List Value) (ca : Addr) (da : Addr) (X0 : Stand p l e room_1 s m args below meth c T0 locs 2 20) (hx : p.tables.exec = Jvm.exec) (hZ : Z.Warmed39 s.vm) (hw : ∀ d ∈ tables_1, d.before a0 Z = true) (hby : c.code = code) (hml : c.maxLocals = 8) (hown : s.vm.findClass "com/example/tracewright/tracewright/engine/expr/UnaryOpAcceptsPinLaw" = some m.cls) (e0 : T0.heap = h0) (N0 : Fr n0 locs) (Z0 : n0 ≤ h0.size) (hret : meth.sig.returnType = some .boolean) (hlk : meth.locks = false) (P0 : Arv Z h0 bo ko (.object "com/example/tracewright/tracewright/engine/expr/UnaryOp") (16 : Int32) vo .null) (P1 : Arv Z h0 bk kk (.object "com/example/tracewright/tracewright/engine/expr/Kind") (4 : Int32) vk .null) (P2 : Exa Z h0 ca "com/example/tracewright/tracewright/engine/expr/UnaryOp") (P3 : Fld Z h0 ca "com/example/tracewright/tracewright/engine/expr/UnaryOp" "from" "Lcom/example/tracewright/tracewright/engine/expr/Kind;" .null) (P4 : ¬ op < 0 ∧ op < (16 : Int32)) (P5 : vo.getD op.toNatClampNeg .null = .ref ca) (P6 : ¬ kx < 0 ∧ kx < (4 : Int32)) (P7 : vk.getD kx.toNatClampNeg .null = .ref da) :
    ∃ s₂ o, Steps p.tables e below (T0.setTop (mkF m 178 #[.val (.int xa), .val (.int xb), .val (.ref bo), .val (.ref bk), .val (.int op), .val (.int kx), .val (.int sx), .val (.int (1 : Int32))] [])) s₂ ∧ s₂.status = .running ∧ Ended s₂ below o ∧ ∃ v L, o = .returned v ∧ (v = some (.int (1 : Int32)) ∧ Fr n0 L) ∧ FrameEnd s o s₂ L room_1.cells room_1.slots := by
  obtain ⟨st0, hst0⟩ : ∃ zst, zst = T0.setTop (mkF m 178 #[.val (.int xa), .val (.int xb), .val (.ref bo), .val (.ref bk), .val (.int op), .val (.int kx), .val (.int sx), .val (.int (1 : Int32))] []) := ⟨_, rfl⟩
  have go0 : ∀ t, Steps p.tables e below (T0.setTop (mkF m 178 #[.val (.int xa), .val (.int xb), .val (.ref bo), .val (.ref bk), .val (.int op), .val (.int kx), .val (.int sx), .val (.int (1 : Int32))] [])) t → Steps p.tables e below st0 t := fun t k => by rw [hst0]; exact k
  rw [← hst0]
  obtain ⟨cl1, Ar1, q1, S1, N1, H1, G1⟩ := id P0
  have hin1 : ¬ (op < 0 ∨ cl1.slots.size ≤ (op).toNatClampNeg) := inb_of S1 P4
  have hat1 : cl1.slots[(op).toNatClampNeg]? = some (.ref ca) := Has.at H1 hin1 P5
  obtain ⟨cl2, Ar2, q2, S2, N2, H2, G2⟩ := id P1
  have hin2 : ¬ (kx < 0 ∨ cl2.slots.size ≤ (kx).toNatClampNeg) := inb_of S2 P6
  have hat2 : cl2.slots[(kx).toNatClampNeg]? = some (.ref da) := Has.at H2 hin2 P7
  obtain ⟨cq3, kq3, q3a, q3b, q3c⟩ := isOf hZ e0 P2
  obtain ⟨_, _, ⟨T3, L3, k3, n3⟩, -, X3, ⟨Lc3, hQ3, l3, y3, z3⟩, st3⟩ := X0.virtualBack hx (y := (⟨"com/example/tracewright/tracewright/engine/expr/UnaryOp", "accepts", "(Lcom/example/tracewright/tracewright/engine/expr/Kind;)Z"⟩ : MethodName)) (z := (⟨"com/example/tracewright/tracewright/engine/expr/UnaryOp", "accepts", "(Lcom/example/tracewright/tracewright/engine/expr/Kind;)Z"⟩ : MethodName)) hown (mvT hZ (hw _ (List.mem_of_getElem? (i := 52) rfl))) (mvT hZ (hw _ (List.mem_of_getElem? (i := 53) rfl))) (notFace_of_selects (args := #[]) (mvT hZ (hw _ (List.mem_of_getElem? (i := 55) rfl)))) (mvT hZ (hw _ (List.mem_of_getElem? (i := 55) rfl))) (mvT hZ (hw _ (List.mem_of_getElem? (i := 54) rfl))) (by decide) (backOf (W := 0) (own_acc0 l Z a0 hw [] ca da h0 n0 Z0 P3) hZ (hw _ (List.mem_of_getElem? (i := 56) rfl)) (hw _ (List.mem_of_getElem? (i := 3) rfl)) (by decide) (by decide)) q3a q3c (g := (mkF m 186 #[.val (.int xa), .val (.int xb), .val (.ref bo), .val (.ref bk), .val (.int op), .val (.int kx), .val (.int sx), .val (.int (1 : Int32))] [(.ref da), (.ref ca)])) rfl (by rw [hml]; rfl) (Steps.refl _) (argsL := [(.ref da)]) (rest := []) (lenOf pd_5 rfl) rfl (by show 2 * 0 + _ ≤ _; exact Nat.le_of_eq rfl) (hb hby at_186) (fun _ _ => ⟨rfl, e0, (by decide : 2 + 0 ≤ _), (by decide : 20 + 0 ≤ _)⟩)
  dsimp only [Pt.U, Pt.locs, Pt.cells, Pt.slots] at X3 l3 y3 z3 st3 hQ3
  subst l3 y3 z3
  obtain ⟨rfl, Nq3, e3⟩ := hQ3
  have N3 := Fr.app N0 Nq3
  have go4 : ∀ t, Steps p.tables e below (T3.setTop (mkF m 199 #[.val (.int xa), .val (.int xb), .val (.ref bo), .val (.ref bk), .val (.int op), .val (.int kx), .val (.int sx), .val (.int (1 : Int32))] [(.int (1 : Int32))])) t → Steps p.tables e below st0 t := by
    intro t kt
    refine go0 t ?_
    refine XS.aloadN X0.here hx rfl (hb hby at_178) rfl rfl ?_
    show Steps p.tables e below (T0.setTop (mkF m 179 #[.val (.int xa), .val (.int xb), .val (.ref bo), .val (.ref bk), .val (.int op), .val (.int kx), .val (.int sx), .val (.int (1 : Int32))] [(.ref bo)])) _
    refine XS.iload X0.here hx rfl (hb hby at_179) rfl ?_
    show Steps p.tables e below (T0.setTop (mkF m 181 #[.val (.int xa), .val (.int xb), .val (.ref bo), .val (.ref bk), .val (.int op), .val (.int kx), .val (.int sx), .val (.int (1 : Int32))] [(.int op), (.ref bo)])) _
    refine X0.aaload hx (j := op) (v := (.ref ca)) (by rw [e0]; exact Ar1.1) (State.isArrayOf_alike hZ.alike Ar1.2.1) rfl Ar1.2.2 hin1 hat1 (g := (mkF m 181 #[.val (.int xa), .val (.int xb), .val (.ref bo), .val (.ref bk), .val (.int op), .val (.int kx), .val (.int sx), .val (.int (1 : Int32))] [(.int op), (.ref bo)])) rfl rfl (hb hby at_181) _ ?_
    show Steps p.tables e below (T0.setTop (mkF m 182 #[.val (.int xa), .val (.int xb), .val (.ref bo), .val (.ref bk), .val (.int op), .val (.int kx), .val (.int sx), .val (.int (1 : Int32))] [(.ref ca)])) _
    refine XS.aloadN X0.here hx rfl (hb hby at_182) rfl rfl ?_
    show Steps p.tables e below (T0.setTop (mkF m 183 #[.val (.int xa), .val (.int xb), .val (.ref bo), .val (.ref bk), .val (.int op), .val (.int kx), .val (.int sx), .val (.int (1 : Int32))] [(.ref bk), (.ref ca)])) _
    refine XS.iload X0.here hx rfl (hb hby at_183) rfl ?_
    show Steps p.tables e below (T0.setTop (mkF m 185 #[.val (.int xa), .val (.int xb), .val (.ref bo), .val (.ref bk), .val (.int op), .val (.int kx), .val (.int sx), .val (.int (1 : Int32))] [(.int kx), (.ref bk), (.ref ca)])) _
    refine X0.aaload hx (j := kx) (v := (.ref da)) (by rw [e0]; exact Ar2.1) (State.isArrayOf_alike hZ.alike Ar2.2.1) rfl Ar2.2.2 hin2 hat2 (g := (mkF m 185 #[.val (.int xa), .val (.int xb), .val (.ref bo), .val (.ref bk), .val (.int op), .val (.int kx), .val (.int sx), .val (.int (1 : Int32))] [(.int kx), (.ref bk), (.ref ca)])) rfl rfl (hb hby at_185) _ ?_
    show Steps p.tables e below (T0.setTop (mkF m 186 #[.val (.int xa), .val (.int xb), .val (.ref bo), .val (.ref bk), .val (.int op), .val (.int kx), .val (.int sx), .val (.int (1 : Int32))] [(.ref da), (.ref ca)])) _
    refine st3.trans ?_
    show Steps p.tables e below (T3.setTop (mkF m 189 #[.val (.int xa), .val (.int xb), .val (.ref bo), .val (.ref bk), .val (.int op), .val (.int kx), .val (.int sx), .val (.int (1 : Int32))] [(.int (1 : Int32))])) _
    refine XS.iload X3.here hx rfl (hb hby at_189) rfl ?_
    show Steps p.tables e below (T3.setTop (mkF m 191 #[.val (.int xa), .val (.int xb), .val (.ref bo), .val (.ref bk), .val (.int op), .val (.int kx), .val (.int sx), .val (.int (1 : Int32))] [(.int (1 : Int32)), (.int (1 : Int32))])) _
    refine XS.icmpNo X3.here hx rfl (hb hby at_191) rfl (teq (by decide : (1 : Int32) = (1 : Int32))).2 ?_
    show Steps p.tables e below (T3.setTop (mkF m 194 #[.val (.int xa), .val (.int xb), .val (.ref bo), .val (.ref bk), .val (.int op), .val (.int kx), .val (.int sx), .val (.int (1 : Int32))] [])) _
    refine XS.iconst X3.here hx rfl (hb hby at_194) ?_
    show Steps p.tables e below (T3.setTop (mkF m 195 #[.val (.int xa), .val (.int xb), .val (.ref bo), .val (.ref bk), .val (.int op), .val (.int kx), .val (.int sx), .val (.int (1 : Int32))] [(.int (1 : Int32))])) _
    refine XS.goto X3.here hx rfl (pc0 := 195) (pc' := 199) rfl (hb hby at_195) (by decide) (by decide) ?_
    show Steps p.tables e below (T3.setTop (mkF m 199 #[.val (.int xa), .val (.int xb), .val (.ref bo), .val (.ref bk), .val (.int op), .val (.int kx), .val (.int sx), .val (.int (1 : Int32))] [(.int (1 : Int32))])) _
    exact kt
  obtain ⟨fs, hr, hrun, hended, hW, hsame⟩ := X3.leave (v := some (.int (1 : Int32))) (fun h => by rw [hret] at h; cases h) hlk
  refine ⟨_, _, go4 _ ?_, hrun, hended, _, _, rfl, ⟨rfl, N3⟩, ⟨_, rfl⟩, hW, hsame.mono (by decide) (by decide)⟩
  exact retN X3 hx (t := .boolean) hret (by simp) (hb hby at_199) hr
set_option maxRecDepth 65536 in
set_option maxHeartbeats 40000000 in
theorem own_tail1 {p : Program} {l : Launch} {e : Env} {s : State} {m : MethodId} {args : Array Value} {below : List Frame} {meth : Method} {c : Code} {T0 : State} {locs : List Loc} {Z : State} {a0 : Array Value} {h0 : Heap} {n0 : Nat} (xa : Int32) (xb : Int32) (bo : Addr) (bk : Addr) (op : Int32) (kx : Int32) (sx : Int32) (ko : ClassId) (kk : ClassId) (vo : List Value) (vk : List Value) (ca : Addr) (da : Addr) (X0 : Stand p l e room_1 s m args below meth c T0 locs 2 20) (hx : p.tables.exec = Jvm.exec) (hZ : Z.Warmed39 s.vm) (hw : ∀ d ∈ tables_1, d.before a0 Z = true) (hby : c.code = code) (hml : c.maxLocals = 8) (hown : s.vm.findClass "com/example/tracewright/tracewright/engine/expr/UnaryOpAcceptsPinLaw" = some m.cls) (e0 : T0.heap = h0) (N0 : Fr n0 locs) (Z0 : n0 ≤ h0.size) (hret : meth.sig.returnType = some .boolean) (hlk : meth.locks = false) (P0 : Arv Z h0 bo ko (.object "com/example/tracewright/tracewright/engine/expr/UnaryOp") (16 : Int32) vo .null) (P1 : Arv Z h0 bk kk (.object "com/example/tracewright/tracewright/engine/expr/Kind") (4 : Int32) vk .null) (P2 : Exa Z h0 ca "com/example/tracewright/tracewright/engine/expr/UnaryOp") (P3 : Fld Z h0 ca "com/example/tracewright/tracewright/engine/expr/UnaryOp" "from" "Lcom/example/tracewright/tracewright/engine/expr/Kind;" (.ref da)) (P4 : ¬ op < 0 ∧ op < (16 : Int32)) (P5 : vo.getD op.toNatClampNeg .null = .ref ca) (P6 : ¬ kx < 0 ∧ kx < (4 : Int32)) (P7 : vk.getD kx.toNatClampNeg .null = .ref da) :
    ∃ s₂ o, Steps p.tables e below (T0.setTop (mkF m 178 #[.val (.int xa), .val (.int xb), .val (.ref bo), .val (.ref bk), .val (.int op), .val (.int kx), .val (.int sx), .val (.int (1 : Int32))] [])) s₂ ∧ s₂.status = .running ∧ Ended s₂ below o ∧ ∃ v L, o = .returned v ∧ (v = some (.int (1 : Int32)) ∧ Fr n0 L) ∧ FrameEnd s o s₂ L room_1.cells room_1.slots := by
  obtain ⟨st0, hst0⟩ : ∃ zst, zst = T0.setTop (mkF m 178 #[.val (.int xa), .val (.int xb), .val (.ref bo), .val (.ref bk), .val (.int op), .val (.int kx), .val (.int sx), .val (.int (1 : Int32))] []) := ⟨_, rfl⟩
  have go0 : ∀ t, Steps p.tables e below (T0.setTop (mkF m 178 #[.val (.int xa), .val (.int xb), .val (.ref bo), .val (.ref bk), .val (.int op), .val (.int kx), .val (.int sx), .val (.int (1 : Int32))] [])) t → Steps p.tables e below st0 t := fun t k => by rw [hst0]; exact k
  rw [← hst0]
  obtain ⟨cl1, Ar1, q1, S1, N1, H1, G1⟩ := id P0
  have hin1 : ¬ (op < 0 ∨ cl1.slots.size ≤ (op).toNatClampNeg) := inb_of S1 P4
  have hat1 : cl1.slots[(op).toNatClampNeg]? = some (.ref ca) := Has.at H1 hin1 P5
  obtain ⟨cl2, Ar2, q2, S2, N2, H2, G2⟩ := id P1
  have hin2 : ¬ (kx < 0 ∨ cl2.slots.size ≤ (kx).toNatClampNeg) := inb_of S2 P6
  have hat2 : cl2.slots[(kx).toNatClampNeg]? = some (.ref da) := Has.at H2 hin2 P7
  obtain ⟨cq3, kq3, q3a, q3b, q3c⟩ := isOf hZ e0 P2
  obtain ⟨_, _, ⟨T3, L3, k3, n3⟩, -, X3, ⟨Lc3, hQ3, l3, y3, z3⟩, st3⟩ := X0.virtualBack hx (y := (⟨"com/example/tracewright/tracewright/engine/expr/UnaryOp", "accepts", "(Lcom/example/tracewright/tracewright/engine/expr/Kind;)Z"⟩ : MethodName)) (z := (⟨"com/example/tracewright/tracewright/engine/expr/UnaryOp", "accepts", "(Lcom/example/tracewright/tracewright/engine/expr/Kind;)Z"⟩ : MethodName)) hown (mvT hZ (hw _ (List.mem_of_getElem? (i := 52) rfl))) (mvT hZ (hw _ (List.mem_of_getElem? (i := 53) rfl))) (notFace_of_selects (args := #[]) (mvT hZ (hw _ (List.mem_of_getElem? (i := 55) rfl)))) (mvT hZ (hw _ (List.mem_of_getElem? (i := 55) rfl))) (mvT hZ (hw _ (List.mem_of_getElem? (i := 54) rfl))) (by decide) (backOf (W := 0) (own_acc1 l Z a0 hw [] ca da h0 n0 Z0 P3) hZ (hw _ (List.mem_of_getElem? (i := 56) rfl)) (hw _ (List.mem_of_getElem? (i := 3) rfl)) (by decide) (by decide)) q3a q3c (g := (mkF m 186 #[.val (.int xa), .val (.int xb), .val (.ref bo), .val (.ref bk), .val (.int op), .val (.int kx), .val (.int sx), .val (.int (1 : Int32))] [(.ref da), (.ref ca)])) rfl (by rw [hml]; rfl) (Steps.refl _) (argsL := [(.ref da)]) (rest := []) (lenOf pd_5 rfl) rfl (by show 2 * 0 + _ ≤ _; exact Nat.le_of_eq rfl) (hb hby at_186) (fun _ _ => ⟨rfl, e0, (by decide : 2 + 0 ≤ _), (by decide : 20 + 0 ≤ _)⟩)
  dsimp only [Pt.U, Pt.locs, Pt.cells, Pt.slots] at X3 l3 y3 z3 st3 hQ3
  subst l3 y3 z3
  obtain ⟨rfl, Nq3, e3⟩ := hQ3
  have N3 := Fr.app N0 Nq3
  have go4 : ∀ t, Steps p.tables e below (T3.setTop (mkF m 199 #[.val (.int xa), .val (.int xb), .val (.ref bo), .val (.ref bk), .val (.int op), .val (.int kx), .val (.int sx), .val (.int (1 : Int32))] [(.int (1 : Int32))])) t → Steps p.tables e below st0 t := by
    intro t kt
    refine go0 t ?_
    refine XS.aloadN X0.here hx rfl (hb hby at_178) rfl rfl ?_
    show Steps p.tables e below (T0.setTop (mkF m 179 #[.val (.int xa), .val (.int xb), .val (.ref bo), .val (.ref bk), .val (.int op), .val (.int kx), .val (.int sx), .val (.int (1 : Int32))] [(.ref bo)])) _
    refine XS.iload X0.here hx rfl (hb hby at_179) rfl ?_
    show Steps p.tables e below (T0.setTop (mkF m 181 #[.val (.int xa), .val (.int xb), .val (.ref bo), .val (.ref bk), .val (.int op), .val (.int kx), .val (.int sx), .val (.int (1 : Int32))] [(.int op), (.ref bo)])) _
    refine X0.aaload hx (j := op) (v := (.ref ca)) (by rw [e0]; exact Ar1.1) (State.isArrayOf_alike hZ.alike Ar1.2.1) rfl Ar1.2.2 hin1 hat1 (g := (mkF m 181 #[.val (.int xa), .val (.int xb), .val (.ref bo), .val (.ref bk), .val (.int op), .val (.int kx), .val (.int sx), .val (.int (1 : Int32))] [(.int op), (.ref bo)])) rfl rfl (hb hby at_181) _ ?_
    show Steps p.tables e below (T0.setTop (mkF m 182 #[.val (.int xa), .val (.int xb), .val (.ref bo), .val (.ref bk), .val (.int op), .val (.int kx), .val (.int sx), .val (.int (1 : Int32))] [(.ref ca)])) _
    refine XS.aloadN X0.here hx rfl (hb hby at_182) rfl rfl ?_
    show Steps p.tables e below (T0.setTop (mkF m 183 #[.val (.int xa), .val (.int xb), .val (.ref bo), .val (.ref bk), .val (.int op), .val (.int kx), .val (.int sx), .val (.int (1 : Int32))] [(.ref bk), (.ref ca)])) _
    refine XS.iload X0.here hx rfl (hb hby at_183) rfl ?_
    show Steps p.tables e below (T0.setTop (mkF m 185 #[.val (.int xa), .val (.int xb), .val (.ref bo), .val (.ref bk), .val (.int op), .val (.int kx), .val (.int sx), .val (.int (1 : Int32))] [(.int kx), (.ref bk), (.ref ca)])) _
    refine X0.aaload hx (j := kx) (v := (.ref da)) (by rw [e0]; exact Ar2.1) (State.isArrayOf_alike hZ.alike Ar2.2.1) rfl Ar2.2.2 hin2 hat2 (g := (mkF m 185 #[.val (.int xa), .val (.int xb), .val (.ref bo), .val (.ref bk), .val (.int op), .val (.int kx), .val (.int sx), .val (.int (1 : Int32))] [(.int kx), (.ref bk), (.ref ca)])) rfl rfl (hb hby at_185) _ ?_
    show Steps p.tables e below (T0.setTop (mkF m 186 #[.val (.int xa), .val (.int xb), .val (.ref bo), .val (.ref bk), .val (.int op), .val (.int kx), .val (.int sx), .val (.int (1 : Int32))] [(.ref da), (.ref ca)])) _
    refine st3.trans ?_
    show Steps p.tables e below (T3.setTop (mkF m 189 #[.val (.int xa), .val (.int xb), .val (.ref bo), .val (.ref bk), .val (.int op), .val (.int kx), .val (.int sx), .val (.int (1 : Int32))] [(.int (1 : Int32))])) _
    refine XS.iload X3.here hx rfl (hb hby at_189) rfl ?_
    show Steps p.tables e below (T3.setTop (mkF m 191 #[.val (.int xa), .val (.int xb), .val (.ref bo), .val (.ref bk), .val (.int op), .val (.int kx), .val (.int sx), .val (.int (1 : Int32))] [(.int (1 : Int32)), (.int (1 : Int32))])) _
    refine XS.icmpNo X3.here hx rfl (hb hby at_191) rfl (teq (by decide : (1 : Int32) = (1 : Int32))).2 ?_
    show Steps p.tables e below (T3.setTop (mkF m 194 #[.val (.int xa), .val (.int xb), .val (.ref bo), .val (.ref bk), .val (.int op), .val (.int kx), .val (.int sx), .val (.int (1 : Int32))] [])) _
    refine XS.iconst X3.here hx rfl (hb hby at_194) ?_
    show Steps p.tables e below (T3.setTop (mkF m 195 #[.val (.int xa), .val (.int xb), .val (.ref bo), .val (.ref bk), .val (.int op), .val (.int kx), .val (.int sx), .val (.int (1 : Int32))] [(.int (1 : Int32))])) _
    refine XS.goto X3.here hx rfl (pc0 := 195) (pc' := 199) rfl (hb hby at_195) (by decide) (by decide) ?_
    show Steps p.tables e below (T3.setTop (mkF m 199 #[.val (.int xa), .val (.int xb), .val (.ref bo), .val (.ref bk), .val (.int op), .val (.int kx), .val (.int sx), .val (.int (1 : Int32))] [(.int (1 : Int32))])) _
    exact kt
  obtain ⟨fs, hr, hrun, hended, hW, hsame⟩ := X3.leave (v := some (.int (1 : Int32))) (fun h => by rw [hret] at h; cases h) hlk
  refine ⟨_, _, go4 _ ?_, hrun, hended, _, _, rfl, ⟨rfl, N3⟩, ⟨_, rfl⟩, hW, hsame.mono (by decide) (by decide)⟩
  exact retN X3 hx (t := .boolean) hret (by simp) (hb hby at_199) hr
set_option maxRecDepth 65536 in
set_option maxHeartbeats 40000000 in
theorem own_tail2 {p : Program} {l : Launch} {e : Env} {s : State} {m : MethodId} {args : Array Value} {below : List Frame} {meth : Method} {c : Code} {T0 : State} {locs : List Loc} {Z : State} {a0 : Array Value} {h0 : Heap} {n0 : Nat} (xa : Int32) (xb : Int32) (bo : Addr) (bk : Addr) (op : Int32) (kx : Int32) (sx : Int32) (ko : ClassId) (kk : ClassId) (vo : List Value) (vk : List Value) (ca : Addr) (da : Addr) (db : Addr) (X0 : Stand p l e room_1 s m args below meth c T0 locs 2 20) (hx : p.tables.exec = Jvm.exec) (hZ : Z.Warmed39 s.vm) (hw : ∀ d ∈ tables_1, d.before a0 Z = true) (hby : c.code = code) (hml : c.maxLocals = 8) (hown : s.vm.findClass "com/example/tracewright/tracewright/engine/expr/UnaryOpAcceptsPinLaw" = some m.cls) (e0 : T0.heap = h0) (N0 : Fr n0 locs) (Z0 : n0 ≤ h0.size) (hret : meth.sig.returnType = some .boolean) (hlk : meth.locks = false) (P0 : Arv Z h0 bo ko (.object "com/example/tracewright/tracewright/engine/expr/UnaryOp") (16 : Int32) vo .null) (P1 : Arv Z h0 bk kk (.object "com/example/tracewright/tracewright/engine/expr/Kind") (4 : Int32) vk .null) (P2 : Exa Z h0 ca "com/example/tracewright/tracewright/engine/expr/UnaryOp") (P3 : Fld Z h0 ca "com/example/tracewright/tracewright/engine/expr/UnaryOp" "from" "Lcom/example/tracewright/tracewright/engine/expr/Kind;" (.ref db)) (P4 : ¬ op < 0 ∧ op < (16 : Int32)) (P5 : vo.getD op.toNatClampNeg .null = .ref ca) (P6 : ¬ kx < 0 ∧ kx < (4 : Int32)) (P7 : vk.getD kx.toNatClampNeg .null = .ref da) (P8 : db ≠ da) :
    ∃ s₂ o, Steps p.tables e below (T0.setTop (mkF m 178 #[.val (.int xa), .val (.int xb), .val (.ref bo), .val (.ref bk), .val (.int op), .val (.int kx), .val (.int sx), .val (.int (0 : Int32))] [])) s₂ ∧ s₂.status = .running ∧ Ended s₂ below o ∧ ∃ v L, o = .returned v ∧ (v = some (.int (1 : Int32)) ∧ Fr n0 L) ∧ FrameEnd s o s₂ L room_1.cells room_1.slots := by
  obtain ⟨st0, hst0⟩ : ∃ zst, zst = T0.setTop (mkF m 178 #[.val (.int xa), .val (.int xb), .val (.ref bo), .val (.ref bk), .val (.int op), .val (.int kx), .val (.int sx), .val (.int (0 : Int32))] []) := ⟨_, rfl⟩
  have go0 : ∀ t, Steps p.tables e below (T0.setTop (mkF m 178 #[.val (.int xa), .val (.int xb), .val (.ref bo), .val (.ref bk), .val (.int op), .val (.int kx), .val (.int sx), .val (.int (0 : Int32))] [])) t → Steps p.tables e below st0 t := fun t k => by rw [hst0]; exact k
  rw [← hst0]
  obtain ⟨cl1, Ar1, q1, S1, N1, H1, G1⟩ := id P0
  have hin1 : ¬ (op < 0 ∨ cl1.slots.size ≤ (op).toNatClampNeg) := inb_of S1 P4
  have hat1 : cl1.slots[(op).toNatClampNeg]? = some (.ref ca) := Has.at H1 hin1 P5
  obtain ⟨cl2, Ar2, q2, S2, N2, H2, G2⟩ := id P1
  have hin2 : ¬ (kx < 0 ∨ cl2.slots.size ≤ (kx).toNatClampNeg) := inb_of S2 P6
  have hat2 : cl2.slots[(kx).toNatClampNeg]? = some (.ref da) := Has.at H2 hin2 P7
  obtain ⟨cq3, kq3, q3a, q3b, q3c⟩ := isOf hZ e0 P2
  obtain ⟨_, _, ⟨T3, L3, k3, n3⟩, -, X3, ⟨Lc3, hQ3, l3, y3, z3⟩, st3⟩ := X0.virtualBack hx (y := (⟨"com/example/tracewright/tracewright/engine/expr/UnaryOp", "accepts", "(Lcom/example/tracewright/tracewright/engine/expr/Kind;)Z"⟩ : MethodName)) (z := (⟨"com/example/tracewright/tracewright/engine/expr/UnaryOp", "accepts", "(Lcom/example/tracewright/tracewright/engine/expr/Kind;)Z"⟩ : MethodName)) hown (mvT hZ (hw _ (List.mem_of_getElem? (i := 52) rfl))) (mvT hZ (hw _ (List.mem_of_getElem? (i := 53) rfl))) (notFace_of_selects (args := #[]) (mvT hZ (hw _ (List.mem_of_getElem? (i := 55) rfl)))) (mvT hZ (hw _ (List.mem_of_getElem? (i := 55) rfl))) (mvT hZ (hw _ (List.mem_of_getElem? (i := 54) rfl))) (by decide) (backOf (W := 0) (own_acc2 l Z a0 hw [] ca da db h0 n0 Z0 P3 P8) hZ (hw _ (List.mem_of_getElem? (i := 56) rfl)) (hw _ (List.mem_of_getElem? (i := 3) rfl)) (by decide) (by decide)) q3a q3c (g := (mkF m 186 #[.val (.int xa), .val (.int xb), .val (.ref bo), .val (.ref bk), .val (.int op), .val (.int kx), .val (.int sx), .val (.int (0 : Int32))] [(.ref da), (.ref ca)])) rfl (by rw [hml]; rfl) (Steps.refl _) (argsL := [(.ref da)]) (rest := []) (lenOf pd_5 rfl) rfl (by show 2 * 0 + _ ≤ _; exact Nat.le_of_eq rfl) (hb hby at_186) (fun _ _ => ⟨rfl, e0, (by decide : 2 + 0 ≤ _), (by decide : 20 + 0 ≤ _)⟩)
  dsimp only [Pt.U, Pt.locs, Pt.cells, Pt.slots] at X3 l3 y3 z3 st3 hQ3
  subst l3 y3 z3
  obtain ⟨rfl, Nq3, e3⟩ := hQ3
  have N3 := Fr.app N0 Nq3
  have go4 : ∀ t, Steps p.tables e below (T3.setTop (mkF m 199 #[.val (.int xa), .val (.int xb), .val (.ref bo), .val (.ref bk), .val (.int op), .val (.int kx), .val (.int sx), .val (.int (0 : Int32))] [(.int (1 : Int32))])) t → Steps p.tables e below st0 t := by
    intro t kt
    refine go0 t ?_
    refine XS.aloadN X0.here hx rfl (hb hby at_178) rfl rfl ?_
    show Steps p.tables e below (T0.setTop (mkF m 179 #[.val (.int xa), .val (.int xb), .val (.ref bo), .val (.ref bk), .val (.int op), .val (.int kx), .val (.int sx), .val (.int (0 : Int32))] [(.ref bo)])) _
    refine XS.iload X0.here hx rfl (hb hby at_179) rfl ?_
    show Steps p.tables e below (T0.setTop (mkF m 181 #[.val (.int xa), .val (.int xb), .val (.ref bo), .val (.ref bk), .val (.int op), .val (.int kx), .val (.int sx), .val (.int (0 : Int32))] [(.int op), (.ref bo)])) _
    refine X0.aaload hx (j := op) (v := (.ref ca)) (by rw [e0]; exact Ar1.1) (State.isArrayOf_alike hZ.alike Ar1.2.1) rfl Ar1.2.2 hin1 hat1 (g := (mkF m 181 #[.val (.int xa), .val (.int xb), .val (.ref bo), .val (.ref bk), .val (.int op), .val (.int kx), .val (.int sx), .val (.int (0 : Int32))] [(.int op), (.ref bo)])) rfl rfl (hb hby at_181) _ ?_
    show Steps p.tables e below (T0.setTop (mkF m 182 #[.val (.int xa), .val (.int xb), .val (.ref bo), .val (.ref bk), .val (.int op), .val (.int kx), .val (.int sx), .val (.int (0 : Int32))] [(.ref ca)])) _
    refine XS.aloadN X0.here hx rfl (hb hby at_182) rfl rfl ?_
    show Steps p.tables e below (T0.setTop (mkF m 183 #[.val (.int xa), .val (.int xb), .val (.ref bo), .val (.ref bk), .val (.int op), .val (.int kx), .val (.int sx), .val (.int (0 : Int32))] [(.ref bk), (.ref ca)])) _
    refine XS.iload X0.here hx rfl (hb hby at_183) rfl ?_
    show Steps p.tables e below (T0.setTop (mkF m 185 #[.val (.int xa), .val (.int xb), .val (.ref bo), .val (.ref bk), .val (.int op), .val (.int kx), .val (.int sx), .val (.int (0 : Int32))] [(.int kx), (.ref bk), (.ref ca)])) _
    refine X0.aaload hx (j := kx) (v := (.ref da)) (by rw [e0]; exact Ar2.1) (State.isArrayOf_alike hZ.alike Ar2.2.1) rfl Ar2.2.2 hin2 hat2 (g := (mkF m 185 #[.val (.int xa), .val (.int xb), .val (.ref bo), .val (.ref bk), .val (.int op), .val (.int kx), .val (.int sx), .val (.int (0 : Int32))] [(.int kx), (.ref bk), (.ref ca)])) rfl rfl (hb hby at_185) _ ?_
    show Steps p.tables e below (T0.setTop (mkF m 186 #[.val (.int xa), .val (.int xb), .val (.ref bo), .val (.ref bk), .val (.int op), .val (.int kx), .val (.int sx), .val (.int (0 : Int32))] [(.ref da), (.ref ca)])) _
    refine st3.trans ?_
    show Steps p.tables e below (T3.setTop (mkF m 189 #[.val (.int xa), .val (.int xb), .val (.ref bo), .val (.ref bk), .val (.int op), .val (.int kx), .val (.int sx), .val (.int (0 : Int32))] [(.int (0 : Int32))])) _
    refine XS.iload X3.here hx rfl (hb hby at_189) rfl ?_
    show Steps p.tables e below (T3.setTop (mkF m 191 #[.val (.int xa), .val (.int xb), .val (.ref bo), .val (.ref bk), .val (.int op), .val (.int kx), .val (.int sx), .val (.int (0 : Int32))] [(.int (0 : Int32)), (.int (0 : Int32))])) _
    refine XS.icmpNo X3.here hx rfl (hb hby at_191) rfl (teq (by decide : (0 : Int32) = (0 : Int32))).2 ?_
    show Steps p.tables e below (T3.setTop (mkF m 194 #[.val (.int xa), .val (.int xb), .val (.ref bo), .val (.ref bk), .val (.int op), .val (.int kx), .val (.int sx), .val (.int (0 : Int32))] [])) _
    refine XS.iconst X3.here hx rfl (hb hby at_194) ?_
    show Steps p.tables e below (T3.setTop (mkF m 195 #[.val (.int xa), .val (.int xb), .val (.ref bo), .val (.ref bk), .val (.int op), .val (.int kx), .val (.int sx), .val (.int (0 : Int32))] [(.int (1 : Int32))])) _
    refine XS.goto X3.here hx rfl (pc0 := 195) (pc' := 199) rfl (hb hby at_195) (by decide) (by decide) ?_
    show Steps p.tables e below (T3.setTop (mkF m 199 #[.val (.int xa), .val (.int xb), .val (.ref bo), .val (.ref bk), .val (.int op), .val (.int kx), .val (.int sx), .val (.int (0 : Int32))] [(.int (1 : Int32))])) _
    exact kt
  obtain ⟨fs, hr, hrun, hended, hW, hsame⟩ := X3.leave (v := some (.int (1 : Int32))) (fun h => by rw [hret] at h; cases h) hlk
  refine ⟨_, _, go4 _ ?_, hrun, hended, _, _, rfl, ⟨rfl, N3⟩, ⟨_, rfl⟩, hW, hsame.mono (by decide) (by decide)⟩
  exact retN X3 hx (t := .boolean) hret (by simp) (hb hby at_199) hr
set_option maxRecDepth 65536 in
set_option maxHeartbeats 40000000 in
theorem own_mid0 {p : Program} {l : Launch} {e : Env} {s : State} {m : MethodId} {args : Array Value} {below : List Frame} {meth : Method} {c : Code} {T0 : State} {locs : List Loc} {Z : State} {a0 : Array Value} {h0 : Heap} {n0 : Nat} (xa : Int32) (xb : Int32) (bo : Addr) (bk : Addr) (kx : Int32) (c0 : Addr) (c1 : Addr) (c2 : Addr) (c3 : Addr) (c4 : Addr) (c5 : Addr) (c6 : Addr) (c7 : Addr) (c8 : Addr) (c9 : Addr) (c10 : Addr) (c11 : Addr) (c12 : Addr) (c13 : Addr) (c14 : Addr) (c15 : Addr) (d0 : Addr) (d1 : Addr) (d2 : Addr) (d3 : Addr) (ko : ClassId) (kk : ClassId) (X0 : Stand p l e room_1 s m args below meth c T0 locs 2 20) (hx : p.tables.exec = Jvm.exec) (hZ : Z.Warmed39 s.vm) (hw : ∀ d ∈ tables_1, d.before a0 Z = true) (hby : c.code = code) (hml : c.maxLocals = 8) (hown : s.vm.findClass "com/example/tracewright/tracewright/engine/expr/UnaryOpAcceptsPinLaw" = some m.cls) (e0 : T0.heap = h0) (N0 : Fr n0 locs) (Z0 : n0 ≤ h0.size) (hret : meth.sig.returnType = some .boolean) (hlk : meth.locks = false) (P0 : Arv Z h0 bo ko (.object "com/example/tracewright/tracewright/engine/expr/UnaryOp") (16 : Int32) [(.ref c0), (.ref c1), (.ref c2), (.ref c3), (.ref c4), (.ref c5), (.ref c6), (.ref c7), (.ref c8), (.ref c9), (.ref c10), (.ref c11), (.ref c12), (.ref c13), (.ref c14), (.ref c15)] .null) (P1 : Arv Z h0 bk kk (.object "com/example/tracewright/tracewright/engine/expr/Kind") (4 : Int32) [(.ref d0), (.ref d1), (.ref d2), (.ref d3)] .null) (P2 : Exa Z h0 c0 "com/example/tracewright/tracewright/engine/expr/UnaryOp") (P3 : Fld Z h0 c0 "com/example/tracewright/tracewright/engine/expr/UnaryOp" "from" "Lcom/example/tracewright/tracewright/engine/expr/Kind;" .null) (P4 : d0 ≠ d1) (P5 : d0 ≠ d2) (P6 : d0 ≠ d3) (P7 : d1 ≠ d2) (P8 : d1 ≠ d3) (P9 : d2 ≠ d3) (hK : kx = (0 : Int32) ∨ kx = (1 : Int32) ∨ kx = (2 : Int32) ∨ kx = (3 : Int32)) :
    ∃ s₂ o, Steps p.tables e below (T0.setTop (mkF m 152 #[.val (.int xa), .val (.int xb), .val (.ref bo), .val (.ref bk), .val (.int (0 : Int32)), .val (.int kx), .unset, .unset] [])) s₂ ∧ s₂.status = .running ∧ Ended s₂ below o ∧ ∃ v L, o = .returned v ∧ (v = some (.int (1 : Int32)) ∧ Fr n0 L) ∧ FrameEnd s o s₂ L room_1.cells room_1.slots := by
  obtain ⟨st0, hst0⟩ : ∃ zst, zst = T0.setTop (mkF m 152 #[.val (.int xa), .val (.int xb), .val (.ref bo), .val (.ref bk), .val (.int (0 : Int32)), .val (.int kx), .unset, .unset] []) := ⟨_, rfl⟩
  have go0 : ∀ t, Steps p.tables e below (T0.setTop (mkF m 152 #[.val (.int xa), .val (.int xb), .val (.ref bo), .val (.ref bk), .val (.int (0 : Int32)), .val (.int kx), .unset, .unset] [])) t → Steps p.tables e below st0 t := fun t k => by rw [hst0]; exact k
  rw [← hst0]
  rcases hK with rfl | rfl | rfl | rfl
  · skip
    obtain ⟨_, _, ⟨T2, L2, k2, n2⟩, -, X2, ⟨Lc2, hQ2, l2, y2, z2⟩, st2⟩ := Jvm.LawKit.callS X0 hx (y := (⟨"com/example/tracewright/tracewright/engine/expr/UnaryOpAcceptsPinLaw", "sourceKindIndex", "(I)I"⟩ : MethodName)) hown (mvT hZ (hw _ (List.mem_of_getElem? (i := 48) rfl))) (mvT hZ (hw _ (List.mem_of_getElem? (i := 49) rfl))) (mvT hZ (hw _ (List.mem_of_getElem? (i := 50) rfl))) (mvT hZ (hw _ (List.mem_of_getElem? (i := 51) rfl))) (by decide) (backOf (W := 0) (own_src0 l Z a0 hw []  h0 n0 Z0 ) hZ (hw _ (List.mem_of_getElem? (i := 51) rfl)) (hw _ (List.mem_of_getElem? (i := 50) rfl)) (by decide) (by decide)) (g := (mkF m 154 #[.val (.int xa), .val (.int xb), .val (.ref bo), .val (.ref bk), .val (.int (0 : Int32)), .val (.int (0 : Int32)), .unset, .unset] [(.int (0 : Int32))])) rfl (by rw [hml]; rfl) (argsL := [(.int (0 : Int32))]) (rest := []) (lenOf pd_6 rfl) rfl (by show 2 * 0 + _ ≤ _; exact Nat.le_of_eq rfl) (hb hby at_154) (fun _ _ => ⟨rfl, e0, (by decide : 2 + 0 ≤ _), (by decide : 20 + 0 ≤ _)⟩)
    dsimp only [Pt.U, Pt.locs, Pt.cells, Pt.slots] at X2 l2 y2 z2 st2 hQ2
    subst l2 y2 z2
    obtain ⟨rfl, Nq2, e2⟩ := hQ2
    have N2 := Fr.app N0 Nq2
    have go4 : ∀ t, Steps p.tables e below (T2.setTop (mkF m 178 #[.val (.int xa), .val (.int xb), .val (.ref bo), .val (.ref bk), .val (.int (0 : Int32)), .val (.int (0 : Int32)), .val (.int (-1 : Int32)), .val (.int (1 : Int32))] [])) t → Steps p.tables e below st0 t := by
      intro t kt
      refine go0 t ?_
      refine XS.iload X0.here hx rfl (hb hby at_152) rfl ?_
      show Steps p.tables e below (T0.setTop (mkF m 154 #[.val (.int xa), .val (.int xb), .val (.ref bo), .val (.ref bk), .val (.int (0 : Int32)), .val (.int (0 : Int32)), .unset, .unset] [(.int (0 : Int32))])) _
      refine st2 _ ?_
      show Steps p.tables e below (T2.setTop (mkF m 157 #[.val (.int xa), .val (.int xb), .val (.ref bo), .val (.ref bk), .val (.int (0 : Int32)), .val (.int (0 : Int32)), .unset, .unset] [(.int (-1 : Int32))])) _
      refine XS.istore X2.here hx rfl (hb hby at_157) rfl (l' := #[.val (.int xa), .val (.int xb), .val (.ref bo), .val (.ref bk), .val (.int (0 : Int32)), .val (.int (0 : Int32)), .val (.int (-1 : Int32)), .unset]) rfl ?_
      show Steps p.tables e below (T2.setTop (mkF m 159 #[.val (.int xa), .val (.int xb), .val (.ref bo), .val (.ref bk), .val (.int (0 : Int32)), .val (.int (0 : Int32)), .val (.int (-1 : Int32)), .unset] [])) _
      refine XS.iload X2.here hx rfl (hb hby at_159) rfl ?_
      show Steps p.tables e below (T2.setTop (mkF m 161 #[.val (.int xa), .val (.int xb), .val (.ref bo), .val (.ref bk), .val (.int (0 : Int32)), .val (.int (0 : Int32)), .val (.int (-1 : Int32)), .unset] [(.int (-1 : Int32))])) _
      refine XS.ifYes X2.here hx rfl (pc0 := 161) (pc' := 171) rfl (hb hby at_161) rfl ((if0 _ _).trans (tlt (by decide : (-1 : Int32) < (0 : Int32))).1) (by decide) (by decide) ?_
      show Steps p.tables e below (T2.setTop (mkF m 171 #[.val (.int xa), .val (.int xb), .val (.ref bo), .val (.ref bk), .val (.int (0 : Int32)), .val (.int (0 : Int32)), .val (.int (-1 : Int32)), .unset] [])) _
      refine XS.iconst X2.here hx rfl (hb hby at_171) ?_
      show Steps p.tables e below (T2.setTop (mkF m 172 #[.val (.int xa), .val (.int xb), .val (.ref bo), .val (.ref bk), .val (.int (0 : Int32)), .val (.int (0 : Int32)), .val (.int (-1 : Int32)), .unset] [(.int (1 : Int32))])) _
      refine XS.goto X2.here hx rfl (pc0 := 172) (pc' := 176) rfl (hb hby at_172) (by decide) (by decide) ?_
      show Steps p.tables e below (T2.setTop (mkF m 176 #[.val (.int xa), .val (.int xb), .val (.ref bo), .val (.ref bk), .val (.int (0 : Int32)), .val (.int (0 : Int32)), .val (.int (-1 : Int32)), .unset] [(.int (1 : Int32))])) _
      refine XS.istore X2.here hx rfl (hb hby at_176) rfl (l' := #[.val (.int xa), .val (.int xb), .val (.ref bo), .val (.ref bk), .val (.int (0 : Int32)), .val (.int (0 : Int32)), .val (.int (-1 : Int32)), .val (.int (1 : Int32))]) rfl ?_
      show Steps p.tables e below (T2.setTop (mkF m 178 #[.val (.int xa), .val (.int xb), .val (.ref bo), .val (.ref bk), .val (.int (0 : Int32)), .val (.int (0 : Int32)), .val (.int (-1 : Int32)), .val (.int (1 : Int32))] [])) _
      exact kt
    obtain ⟨s₂, o₂, hs₂, hr₂⟩ := own_tail0 xa xb bo bk (0 : Int32) (0 : Int32) (-1 : Int32) ko kk [(.ref c0), (.ref c1), (.ref c2), (.ref c3), (.ref c4), (.ref c5), (.ref c6), (.ref c7), (.ref c8), (.ref c9), (.ref c10), (.ref c11), (.ref c12), (.ref c13), (.ref c14), (.ref c15)] [(.ref d0), (.ref d1), (.ref d2), (.ref d3)] c0 d0 X2 hx hZ hw hby hml hown e2 N2 Z0 hret hlk P0 P1 P2 P3 (by decide) rfl (by decide) rfl
    exact ⟨s₂, o₂, go4 _ hs₂, hr₂⟩
  · skip
    obtain ⟨_, _, ⟨T5, L5, k5, n5⟩, -, X5, ⟨Lc5, hQ5, l5, y5, z5⟩, st5⟩ := Jvm.LawKit.callS X0 hx (y := (⟨"com/example/tracewright/tracewright/engine/expr/UnaryOpAcceptsPinLaw", "sourceKindIndex", "(I)I"⟩ : MethodName)) hown (mvT hZ (hw _ (List.mem_of_getElem? (i := 48) rfl))) (mvT hZ (hw _ (List.mem_of_getElem? (i := 49) rfl))) (mvT hZ (hw _ (List.mem_of_getElem? (i := 50) rfl))) (mvT hZ (hw _ (List.mem_of_getElem? (i := 51) rfl))) (by decide) (backOf (W := 0) (own_src0 l Z a0 hw []  h0 n0 Z0 ) hZ (hw _ (List.mem_of_getElem? (i := 51) rfl)) (hw _ (List.mem_of_getElem? (i := 50) rfl)) (by decide) (by decide)) (g := (mkF m 154 #[.val (.int xa), .val (.int xb), .val (.ref bo), .val (.ref bk), .val (.int (0 : Int32)), .val (.int (1 : Int32)), .unset, .unset] [(.int (0 : Int32))])) rfl (by rw [hml]; rfl) (argsL := [(.int (0 : Int32))]) (rest := []) (lenOf pd_6 rfl) rfl (by show 2 * 0 + _ ≤ _; exact Nat.le_of_eq rfl) (hb hby at_154) (fun _ _ => ⟨rfl, e0, (by decide : 2 + 0 ≤ _), (by decide : 20 + 0 ≤ _)⟩)
    dsimp only [Pt.U, Pt.locs, Pt.cells, Pt.slots] at X5 l5 y5 z5 st5 hQ5
    subst l5 y5 z5
    obtain ⟨rfl, Nq5, e5⟩ := hQ5
    have N5 := Fr.app N0 Nq5
    have go7 : ∀ t, Steps p.tables e below (T5.setTop (mkF m 178 #[.val (.int xa), .val (.int xb), .val (.ref bo), .val (.ref bk), .val (.int (0 : Int32)), .val (.int (1 : Int32)), .val (.int (-1 : Int32)), .val (.int (1 : Int32))] [])) t → Steps p.tables e below st0 t := by
      intro t kt
      refine go0 t ?_
      refine XS.iload X0.here hx rfl (hb hby at_152) rfl ?_
      show Steps p.tables e below (T0.setTop (mkF m 154 #[.val (.int xa), .val (.int xb), .val (.ref bo), .val (.ref bk), .val (.int (0 : Int32)), .val (.int (1 : Int32)), .unset, .unset] [(.int (0 : Int32))])) _
      refine st5 _ ?_
      show Steps p.tables e below (T5.setTop (mkF m 157 #[.val (.int xa), .val (.int xb), .val (.ref bo), .val (.ref bk), .val (.int (0 : Int32)), .val (.int (1 : Int32)), .unset, .unset] [(.int (-1 : Int32))])) _
      refine XS.istore X5.here hx rfl (hb hby at_157) rfl (l' := #[.val (.int xa), .val (.int xb), .val (.ref bo), .val (.ref bk), .val (.int (0 : Int32)), .val (.int (1 : Int32)), .val (.int (-1 : Int32)), .unset]) rfl ?_
      show Steps p.tables e below (T5.setTop (mkF m 159 #[.val (.int xa), .val (.int xb), .val (.ref bo), .val (.ref bk), .val (.int (0 : Int32)), .val (.int (1 : Int32)), .val (.int (-1 : Int32)), .unset] [])) _
      refine XS.iload X5.here hx rfl (hb hby at_159) rfl ?_
      show Steps p.tables e below (T5.setTop (mkF m 161 #[.val (.int xa), .val (.int xb), .val (.ref bo), .val (.ref bk), .val (.int (0 : Int32)), .val (.int (1 : Int32)), .val (.int (-1 : Int32)), .unset] [(.int (-1 : Int32))])) _
      refine XS.ifYes X5.here hx rfl (pc0 := 161) (pc' := 171) rfl (hb hby at_161) rfl ((if0 _ _).trans (tlt (by decide : (-1 : Int32) < (0 : Int32))).1) (by decide) (by decide) ?_
      show Steps p.tables e below (T5.setTop (mkF m 171 #[.val (.int xa), .val (.int xb), .val (.ref bo), .val (.ref bk), .val (.int (0 : Int32)), .val (.int (1 : Int32)), .val (.int (-1 : Int32)), .unset] [])) _
      refine XS.iconst X5.here hx rfl (hb hby at_171) ?_
      show Steps p.tables e below (T5.setTop (mkF m 172 #[.val (.int xa), .val (.int xb), .val (.ref bo), .val (.ref bk), .val (.int (0 : Int32)), .val (.int (1 : Int32)), .val (.int (-1 : Int32)), .unset] [(.int (1 : Int32))])) _
      refine XS.goto X5.here hx rfl (pc0 := 172) (pc' := 176) rfl (hb hby at_172) (by decide) (by decide) ?_
      show Steps p.tables e below (T5.setTop (mkF m 176 #[.val (.int xa), .val (.int xb), .val (.ref bo), .val (.ref bk), .val (.int (0 : Int32)), .val (.int (1 : Int32)), .val (.int (-1 : Int32)), .unset] [(.int (1 : Int32))])) _
      refine XS.istore X5.here hx rfl (hb hby at_176) rfl (l' := #[.val (.int xa), .val (.int xb), .val (.ref bo), .val (.ref bk), .val (.int (0 : Int32)), .val (.int (1 : Int32)), .val (.int (-1 : Int32)), .val (.int (1 : Int32))]) rfl ?_
      show Steps p.tables e below (T5.setTop (mkF m 178 #[.val (.int xa), .val (.int xb), .val (.ref bo), .val (.ref bk), .val (.int (0 : Int32)), .val (.int (1 : Int32)), .val (.int (-1 : Int32)), .val (.int (1 : Int32))] [])) _
      exact kt
    obtain ⟨s₂, o₂, hs₂, hr₂⟩ := own_tail0 xa xb bo bk (0 : Int32) (1 : Int32) (-1 : Int32) ko kk [(.ref c0), (.ref c1), (.ref c2), (.ref c3), (.ref c4), (.ref c5), (.ref c6), (.ref c7), (.ref c8), (.ref c9), (.ref c10), (.ref c11), (.ref c12), (.ref c13), (.ref c14), (.ref c15)] [(.ref d0), (.ref d1), (.ref d2), (.ref d3)] c0 d1 X5 hx hZ hw hby hml hown e5 N5 Z0 hret hlk P0 P1 P2 P3 (by decide) rfl (by decide) rfl
    exact ⟨s₂, o₂, go7 _ hs₂, hr₂⟩
  · skip
    obtain ⟨_, _, ⟨T8, L8, k8, n8⟩, -, X8, ⟨Lc8, hQ8, l8, y8, z8⟩, st8⟩ := Jvm.LawKit.callS X0 hx (y := (⟨"com/example/tracewright/tracewright/engine/expr/UnaryOpAcceptsPinLaw", "sourceKindIndex", "(I)I"⟩ : MethodName)) hown (mvT hZ (hw _ (List.mem_of_getElem? (i := 48) rfl))) (mvT hZ (hw _ (List.mem_of_getElem? (i := 49) rfl))) (mvT hZ (hw _ (List.mem_of_getElem? (i := 50) rfl))) (mvT hZ (hw _ (List.mem_of_getElem? (i := 51) rfl))) (by decide) (backOf (W := 0) (own_src0 l Z a0 hw []  h0 n0 Z0 ) hZ (hw _ (List.mem_of_getElem? (i := 51) rfl)) (hw _ (List.mem_of_getElem? (i := 50) rfl)) (by decide) (by decide)) (g := (mkF m 154 #[.val (.int xa), .val (.int xb), .val (.ref bo), .val (.ref bk), .val (.int (0 : Int32)), .val (.int (2 : Int32)), .unset, .unset] [(.int (0 : Int32))])) rfl (by rw [hml]; rfl) (argsL := [(.int (0 : Int32))]) (rest := []) (lenOf pd_6 rfl) rfl (by show 2 * 0 + _ ≤ _; exact Nat.le_of_eq rfl) (hb hby at_154) (fun _ _ => ⟨rfl, e0, (by decide : 2 + 0 ≤ _), (by decide : 20 + 0 ≤ _)⟩)
    dsimp only [Pt.U, Pt.locs, Pt.cells, Pt.slots] at X8 l8 y8 z8 st8 hQ8
    subst l8 y8 z8
    obtain ⟨rfl, Nq8, e8⟩ := hQ8
    have N8 := Fr.app N0 Nq8
    have go10 : ∀ t, Steps p.tables e below (T8.setTop (mkF m 178 #[.val (.int xa), .val (.int xb), .val (.ref bo), .val (.ref bk), .val (.int (0 : Int32)), .val (.int (2 : Int32)), .val (.int (-1 : Int32)), .val (.int (1 : Int32))] [])) t → Steps p.tables e below st0 t := by
      intro t kt
      refine go0 t ?_
      refine XS.iload X0.here hx rfl (hb hby at_152) rfl ?_
      show Steps p.tables e below (T0.setTop (mkF m 154 #[.val (.int xa), .val (.int xb), .val (.ref bo), .val (.ref bk), .val (.int (0 : Int32)), .val (.int (2 : Int32)), .unset, .unset] [(.int (0 : Int32))])) _
      refine st8 _ ?_
      show Steps p.tables e below (T8.setTop (mkF m 157 #[.val (.int xa), .val (.int xb), .val (.ref bo), .val (.ref bk), .val (.int (0 : Int32)), .val (.int (2 : Int32)), .unset, .unset] [(.int (-1 : Int32))])) _
      refine XS.istore X8.here hx rfl (hb hby at_157) rfl (l' := #[.val (.int xa), .val (.int xb), .val (.ref bo), .val (.ref bk), .val (.int (0 : Int32)), .val (.int (2 : Int32)), .val (.int (-1 : Int32)), .unset]) rfl ?_
      show Steps p.tables e below (T8.setTop (mkF m 159 #[.val (.int xa), .val (.int xb), .val (.ref bo), .val (.ref bk), .val (.int (0 : Int32)), .val (.int (2 : Int32)), .val (.int (-1 : Int32)), .unset] [])) _
      refine XS.iload X8.here hx rfl (hb hby at_159) rfl ?_
      show Steps p.tables e below (T8.setTop (mkF m 161 #[.val (.int xa), .val (.int xb), .val (.ref bo), .val (.ref bk), .val (.int (0 : Int32)), .val (.int (2 : Int32)), .val (.int (-1 : Int32)), .unset] [(.int (-1 : Int32))])) _
      refine XS.ifYes X8.here hx rfl (pc0 := 161) (pc' := 171) rfl (hb hby at_161) rfl ((if0 _ _).trans (tlt (by decide : (-1 : Int32) < (0 : Int32))).1) (by decide) (by decide) ?_
      show Steps p.tables e below (T8.setTop (mkF m 171 #[.val (.int xa), .val (.int xb), .val (.ref bo), .val (.ref bk), .val (.int (0 : Int32)), .val (.int (2 : Int32)), .val (.int (-1 : Int32)), .unset] [])) _
      refine XS.iconst X8.here hx rfl (hb hby at_171) ?_
      show Steps p.tables e below (T8.setTop (mkF m 172 #[.val (.int xa), .val (.int xb), .val (.ref bo), .val (.ref bk), .val (.int (0 : Int32)), .val (.int (2 : Int32)), .val (.int (-1 : Int32)), .unset] [(.int (1 : Int32))])) _
      refine XS.goto X8.here hx rfl (pc0 := 172) (pc' := 176) rfl (hb hby at_172) (by decide) (by decide) ?_
      show Steps p.tables e below (T8.setTop (mkF m 176 #[.val (.int xa), .val (.int xb), .val (.ref bo), .val (.ref bk), .val (.int (0 : Int32)), .val (.int (2 : Int32)), .val (.int (-1 : Int32)), .unset] [(.int (1 : Int32))])) _
      refine XS.istore X8.here hx rfl (hb hby at_176) rfl (l' := #[.val (.int xa), .val (.int xb), .val (.ref bo), .val (.ref bk), .val (.int (0 : Int32)), .val (.int (2 : Int32)), .val (.int (-1 : Int32)), .val (.int (1 : Int32))]) rfl ?_
      show Steps p.tables e below (T8.setTop (mkF m 178 #[.val (.int xa), .val (.int xb), .val (.ref bo), .val (.ref bk), .val (.int (0 : Int32)), .val (.int (2 : Int32)), .val (.int (-1 : Int32)), .val (.int (1 : Int32))] [])) _
      exact kt
    obtain ⟨s₂, o₂, hs₂, hr₂⟩ := own_tail0 xa xb bo bk (0 : Int32) (2 : Int32) (-1 : Int32) ko kk [(.ref c0), (.ref c1), (.ref c2), (.ref c3), (.ref c4), (.ref c5), (.ref c6), (.ref c7), (.ref c8), (.ref c9), (.ref c10), (.ref c11), (.ref c12), (.ref c13), (.ref c14), (.ref c15)] [(.ref d0), (.ref d1), (.ref d2), (.ref d3)] c0 d2 X8 hx hZ hw hby hml hown e8 N8 Z0 hret hlk P0 P1 P2 P3 (by decide) rfl (by decide) rfl
    exact ⟨s₂, o₂, go10 _ hs₂, hr₂⟩
  · skip
    obtain ⟨_, _, ⟨T11, L11, k11, n11⟩, -, X11, ⟨Lc11, hQ11, l11, y11, z11⟩, st11⟩ := Jvm.LawKit.callS X0 hx (y := (⟨"com/example/tracewright/tracewright/engine/expr/UnaryOpAcceptsPinLaw", "sourceKindIndex", "(I)I"⟩ : MethodName)) hown (mvT hZ (hw _ (List.mem_of_getElem? (i := 48) rfl))) (mvT hZ (hw _ (List.mem_of_getElem? (i := 49) rfl))) (mvT hZ (hw _ (List.mem_of_getElem? (i := 50) rfl))) (mvT hZ (hw _ (List.mem_of_getElem? (i := 51) rfl))) (by decide) (backOf (W := 0) (own_src0 l Z a0 hw []  h0 n0 Z0 ) hZ (hw _ (List.mem_of_getElem? (i := 51) rfl)) (hw _ (List.mem_of_getElem? (i := 50) rfl)) (by decide) (by decide)) (g := (mkF m 154 #[.val (.int xa), .val (.int xb), .val (.ref bo), .val (.ref bk), .val (.int (0 : Int32)), .val (.int (3 : Int32)), .unset, .unset] [(.int (0 : Int32))])) rfl (by rw [hml]; rfl) (argsL := [(.int (0 : Int32))]) (rest := []) (lenOf pd_6 rfl) rfl (by show 2 * 0 + _ ≤ _; exact Nat.le_of_eq rfl) (hb hby at_154) (fun _ _ => ⟨rfl, e0, (by decide : 2 + 0 ≤ _), (by decide : 20 + 0 ≤ _)⟩)
    dsimp only [Pt.U, Pt.locs, Pt.cells, Pt.slots] at X11 l11 y11 z11 st11 hQ11
    subst l11 y11 z11
    obtain ⟨rfl, Nq11, e11⟩ := hQ11
    have N11 := Fr.app N0 Nq11
    have go13 : ∀ t, Steps p.tables e below (T11.setTop (mkF m 178 #[.val (.int xa), .val (.int xb), .val (.ref bo), .val (.ref bk), .val (.int (0 : Int32)), .val (.int (3 : Int32)), .val (.int (-1 : Int32)), .val (.int (1 : Int32))] [])) t → Steps p.tables e below st0 t := by
      intro t kt
      refine go0 t ?_
      refine XS.iload X0.here hx rfl (hb hby at_152) rfl ?_
      show Steps p.tables e below (T0.setTop (mkF m 154 #[.val (.int xa), .val (.int xb), .val (.ref bo), .val (.ref bk), .val (.int (0 : Int32)), .val (.int (3 : Int32)), .unset, .unset] [(.int (0 : Int32))])) _
      refine st11 _ ?_
      show Steps p.tables e below (T11.setTop (mkF m 157 #[.val (.int xa), .val (.int xb), .val (.ref bo), .val (.ref bk), .val (.int (0 : Int32)), .val (.int (3 : Int32)), .unset, .unset] [(.int (-1 : Int32))])) _
      refine XS.istore X11.here hx rfl (hb hby at_157) rfl (l' := #[.val (.int xa), .val (.int xb), .val (.ref bo), .val (.ref bk), .val (.int (0 : Int32)), .val (.int (3 : Int32)), .val (.int (-1 : Int32)), .unset]) rfl ?_
      show Steps p.tables e below (T11.setTop (mkF m 159 #[.val (.int xa), .val (.int xb), .val (.ref bo), .val (.ref bk), .val (.int (0 : Int32)), .val (.int (3 : Int32)), .val (.int (-1 : Int32)), .unset] [])) _
      refine XS.iload X11.here hx rfl (hb hby at_159) rfl ?_
      show Steps p.tables e below (T11.setTop (mkF m 161 #[.val (.int xa), .val (.int xb), .val (.ref bo), .val (.ref bk), .val (.int (0 : Int32)), .val (.int (3 : Int32)), .val (.int (-1 : Int32)), .unset] [(.int (-1 : Int32))])) _
      refine XS.ifYes X11.here hx rfl (pc0 := 161) (pc' := 171) rfl (hb hby at_161) rfl ((if0 _ _).trans (tlt (by decide : (-1 : Int32) < (0 : Int32))).1) (by decide) (by decide) ?_
      show Steps p.tables e below (T11.setTop (mkF m 171 #[.val (.int xa), .val (.int xb), .val (.ref bo), .val (.ref bk), .val (.int (0 : Int32)), .val (.int (3 : Int32)), .val (.int (-1 : Int32)), .unset] [])) _
      refine XS.iconst X11.here hx rfl (hb hby at_171) ?_
      show Steps p.tables e below (T11.setTop (mkF m 172 #[.val (.int xa), .val (.int xb), .val (.ref bo), .val (.ref bk), .val (.int (0 : Int32)), .val (.int (3 : Int32)), .val (.int (-1 : Int32)), .unset] [(.int (1 : Int32))])) _
      refine XS.goto X11.here hx rfl (pc0 := 172) (pc' := 176) rfl (hb hby at_172) (by decide) (by decide) ?_
      show Steps p.tables e below (T11.setTop (mkF m 176 #[.val (.int xa), .val (.int xb), .val (.ref bo), .val (.ref bk), .val (.int (0 : Int32)), .val (.int (3 : Int32)), .val (.int (-1 : Int32)), .unset] [(.int (1 : Int32))])) _
      refine XS.istore X11.here hx rfl (hb hby at_176) rfl (l' := #[.val (.int xa), .val (.int xb), .val (.ref bo), .val (.ref bk), .val (.int (0 : Int32)), .val (.int (3 : Int32)), .val (.int (-1 : Int32)), .val (.int (1 : Int32))]) rfl ?_
      show Steps p.tables e below (T11.setTop (mkF m 178 #[.val (.int xa), .val (.int xb), .val (.ref bo), .val (.ref bk), .val (.int (0 : Int32)), .val (.int (3 : Int32)), .val (.int (-1 : Int32)), .val (.int (1 : Int32))] [])) _
      exact kt
    obtain ⟨s₂, o₂, hs₂, hr₂⟩ := own_tail0 xa xb bo bk (0 : Int32) (3 : Int32) (-1 : Int32) ko kk [(.ref c0), (.ref c1), (.ref c2), (.ref c3), (.ref c4), (.ref c5), (.ref c6), (.ref c7), (.ref c8), (.ref c9), (.ref c10), (.ref c11), (.ref c12), (.ref c13), (.ref c14), (.ref c15)] [(.ref d0), (.ref d1), (.ref d2), (.ref d3)] c0 d3 X11 hx hZ hw hby hml hown e11 N11 Z0 hret hlk P0 P1 P2 P3 (by decide) rfl (by decide) rfl
    exact ⟨s₂, o₂, go13 _ hs₂, hr₂⟩
set_option maxRecDepth 65536 in
set_option maxHeartbeats 40000000 in
theorem own_mid1 {p : Program} {l : Launch} {e : Env} {s : State} {m : MethodId} {args : Array Value} {below : List Frame} {meth : Method} {c : Code} {T0 : State} {locs : List Loc} {Z : State} {a0 : Array Value} {h0 : Heap} {n0 : Nat} (xa : Int32) (xb : Int32) (bo : Addr) (bk : Addr) (kx : Int32) (c0 : Addr) (c1 : Addr) (c2 : Addr) (c3 : Addr) (c4 : Addr) (c5 : Addr) (c6 : Addr) (c7 : Addr) (c8 : Addr) (c9 : Addr) (c10 : Addr) (c11 : Addr) (c12 : Addr) (c13 : Addr) (c14 : Addr) (c15 : Addr) (d0 : Addr) (d1 : Addr) (d2 : Addr) (d3 : Addr) (ko : ClassId) (kk : ClassId) (X0 : Stand p l e room_1 s m args below meth c T0 locs 2 20) (hx : p.tables.exec = Jvm.exec) (hZ : Z.Warmed39 s.vm) (hw : ∀ d ∈ tables_1, d.before a0 Z = true) (hby : c.code = code) (hml : c.maxLocals = 8) (hown : s.vm.findClass "com/example/tracewright/tracewright/engine/expr/UnaryOpAcceptsPinLaw" = some m.cls) (e0 : T0.heap = h0) (N0 : Fr n0 locs) (Z0 : n0 ≤ h0.size) (hret : meth.sig.returnType = some .boolean) (hlk : meth.locks = false) (P0 : Arv Z h0 bo ko (.object "com/example/tracewright/tracewright/engine/expr/UnaryOp") (16 : Int32) [(.ref c0), (.ref c1), (.ref c2), (.ref c3), (.ref c4), (.ref c5), (.ref c6), (.ref c7), (.ref c8), (.ref c9), (.ref c10), (.ref c11), (.ref c12), (.ref c13), (.ref c14), (.ref c15)] .null) (P1 : Arv Z h0 bk kk (.object "com/example/tracewright/tracewright/engine/expr/Kind") (4 : Int32) [(.ref d0), (.ref d1), (.ref d2), (.ref d3)] .null) (P2 : Exa Z h0 c1 "com/example/tracewright/tracewright/engine/expr/UnaryOp") (P3 : Fld Z h0 c1 "com/example/tracewright/tracewright/engine/expr/UnaryOp" "from" "Lcom/example/tracewright/tracewright/engine/expr/Kind;" (.ref d0)) (P4 : d0 ≠ d1) (P5 : d0 ≠ d2) (P6 : d0 ≠ d3) (P7 : d1 ≠ d2) (P8 : d1 ≠ d3) (P9 : d2 ≠ d3) (hK : kx = (0 : Int32) ∨ kx = (1 : Int32) ∨ kx = (2 : Int32) ∨ kx = (3 : Int32)) :
    ∃ s₂ o, Steps p.tables e below (T0.setTop (mkF m 152 #[.val (.int xa), .val (.int xb), .val (.ref bo), .val (.ref bk), .val (.int (1 : Int32)), .val (.int kx), .unset, .unset] [])) s₂ ∧ s₂.status = .running ∧ Ended s₂ below o ∧ ∃ v L, o = .returned v ∧ (v = some (.int (1 : Int32)) ∧ Fr n0 L) ∧ FrameEnd s o s₂ L room_1.cells room_1.slots := by
  obtain ⟨st0, hst0⟩ : ∃ zst, zst = T0.setTop (mkF m 152 #[.val (.int xa), .val (.int xb), .val (.ref bo), .val (.ref bk), .val (.int (1 : Int32)), .val (.int kx), .unset, .unset] []) := ⟨_, rfl⟩
  have go0 : ∀ t, Steps p.tables e below (T0.setTop (mkF m 152 #[.val (.int xa), .val (.int xb), .val (.ref bo), .val (.ref bk), .val (.int (1 : Int32)), .val (.int kx), .unset, .unset] [])) t → Steps p.tables e below st0 t := fun t k => by rw [hst0]; exact k
  rw [← hst0]
  rcases hK with rfl | rfl | rfl | rfl
  · skip
    obtain ⟨_, _, ⟨T2, L2, k2, n2⟩, -, X2, ⟨Lc2, hQ2, l2, y2, z2⟩, st2⟩ := Jvm.LawKit.callS X0 hx (y := (⟨"com/example/tracewright/tracewright/engine/expr/UnaryOpAcceptsPinLaw", "sourceKindIndex", "(I)I"⟩ : MethodName)) hown (mvT hZ (hw _ (List.mem_of_getElem? (i := 48) rfl))) (mvT hZ (hw _ (List.mem_of_getElem? (i := 49) rfl))) (mvT hZ (hw _ (List.mem_of_getElem? (i := 50) rfl))) (mvT hZ (hw _ (List.mem_of_getElem? (i := 51) rfl))) (by decide) (backOf (W := 0) (own_src1 l Z a0 hw []  h0 n0 Z0 ) hZ (hw _ (List.mem_of_getElem? (i := 51) rfl)) (hw _ (List.mem_of_getElem? (i := 50) rfl)) (by decide) (by decide)) (g := (mkF m 154 #[.val (.int xa), .val (.int xb), .val (.ref bo), .val (.ref bk), .val (.int (1 : Int32)), .val (.int (0 : Int32)), .unset, .unset] [(.int (1 : Int32))])) rfl (by rw [hml]; rfl) (argsL := [(.int (1 : Int32))]) (rest := []) (lenOf pd_6 rfl) rfl (by show 2 * 0 + _ ≤ _; exact Nat.le_of_eq rfl) (hb hby at_154) (fun _ _ => ⟨rfl, e0, (by decide : 2 + 0 ≤ _), (by decide : 20 + 0 ≤ _)⟩)
    dsimp only [Pt.U, Pt.locs, Pt.cells, Pt.slots] at X2 l2 y2 z2 st2 hQ2
    subst l2 y2 z2
    obtain ⟨rfl, Nq2, e2⟩ := hQ2
    have N2 := Fr.app N0 Nq2
    have go4 : ∀ t, Steps p.tables e below (T2.setTop (mkF m 178 #[.val (.int xa), .val (.int xb), .val (.ref bo), .val (.ref bk), .val (.int (1 : Int32)), .val (.int (0 : Int32)), .val (.int (0 : Int32)), .val (.int (1 : Int32))] [])) t → Steps p.tables e below st0 t := by
      intro t kt
      refine go0 t ?_
      refine XS.iload X0.here hx rfl (hb hby at_152) rfl ?_
      show Steps p.tables e below (T0.setTop (mkF m 154 #[.val (.int xa), .val (.int xb), .val (.ref bo), .val (.ref bk), .val (.int (1 : Int32)), .val (.int (0 : Int32)), .unset, .unset] [(.int (1 : Int32))])) _
      refine st2 _ ?_
      show Steps p.tables e below (T2.setTop (mkF m 157 #[.val (.int xa), .val (.int xb), .val (.ref bo), .val (.ref bk), .val (.int (1 : Int32)), .val (.int (0 : Int32)), .unset, .unset] [(.int (0 : Int32))])) _
      refine XS.istore X2.here hx rfl (hb hby at_157) rfl (l' := #[.val (.int xa), .val (.int xb), .val (.ref bo), .val (.ref bk), .val (.int (1 : Int32)), .val (.int (0 : Int32)), .val (.int (0 : Int32)), .unset]) rfl ?_
      show Steps p.tables e below (T2.setTop (mkF m 159 #[.val (.int xa), .val (.int xb), .val (.ref bo), .val (.ref bk), .val (.int (1 : Int32)), .val (.int (0 : Int32)), .val (.int (0 : Int32)), .unset] [])) _
      refine XS.iload X2.here hx rfl (hb hby at_159) rfl ?_
      show Steps p.tables e below (T2.setTop (mkF m 161 #[.val (.int xa), .val (.int xb), .val (.ref bo), .val (.ref bk), .val (.int (1 : Int32)), .val (.int (0 : Int32)), .val (.int (0 : Int32)), .unset] [(.int (0 : Int32))])) _
      refine XS.ifNo X2.here hx rfl (hb hby at_161) rfl ((if0 _ _).trans (flt (by decide : ¬ ((0 : Int32) < (0 : Int32)))).1) ?_
      show Steps p.tables e below (T2.setTop (mkF m 164 #[.val (.int xa), .val (.int xb), .val (.ref bo), .val (.ref bk), .val (.int (1 : Int32)), .val (.int (0 : Int32)), .val (.int (0 : Int32)), .unset] [])) _
      refine XS.iload X2.here hx rfl (hb hby at_164) rfl ?_
      show Steps p.tables e below (T2.setTop (mkF m 166 #[.val (.int xa), .val (.int xb), .val (.ref bo), .val (.ref bk), .val (.int (1 : Int32)), .val (.int (0 : Int32)), .val (.int (0 : Int32)), .unset] [(.int (0 : Int32))])) _
      refine XS.iload X2.here hx rfl (hb hby at_166) rfl ?_
      show Steps p.tables e below (T2.setTop (mkF m 168 #[.val (.int xa), .val (.int xb), .val (.ref bo), .val (.ref bk), .val (.int (1 : Int32)), .val (.int (0 : Int32)), .val (.int (0 : Int32)), .unset] [(.int (0 : Int32)), (.int (0 : Int32))])) _
      refine XS.icmpNo X2.here hx rfl (hb hby at_168) rfl (teq (by decide : (0 : Int32) = (0 : Int32))).2 ?_
      show Steps p.tables e below (T2.setTop (mkF m 171 #[.val (.int xa), .val (.int xb), .val (.ref bo), .val (.ref bk), .val (.int (1 : Int32)), .val (.int (0 : Int32)), .val (.int (0 : Int32)), .unset] [])) _
      refine XS.iconst X2.here hx rfl (hb hby at_171) ?_
      show Steps p.tables e below (T2.setTop (mkF m 172 #[.val (.int xa), .val (.int xb), .val (.ref bo), .val (.ref bk), .val (.int (1 : Int32)), .val (.int (0 : Int32)), .val (.int (0 : Int32)), .unset] [(.int (1 : Int32))])) _
      refine XS.goto X2.here hx rfl (pc0 := 172) (pc' := 176) rfl (hb hby at_172) (by decide) (by decide) ?_
      show Steps p.tables e below (T2.setTop (mkF m 176 #[.val (.int xa), .val (.int xb), .val (.ref bo), .val (.ref bk), .val (.int (1 : Int32)), .val (.int (0 : Int32)), .val (.int (0 : Int32)), .unset] [(.int (1 : Int32))])) _
      refine XS.istore X2.here hx rfl (hb hby at_176) rfl (l' := #[.val (.int xa), .val (.int xb), .val (.ref bo), .val (.ref bk), .val (.int (1 : Int32)), .val (.int (0 : Int32)), .val (.int (0 : Int32)), .val (.int (1 : Int32))]) rfl ?_
      show Steps p.tables e below (T2.setTop (mkF m 178 #[.val (.int xa), .val (.int xb), .val (.ref bo), .val (.ref bk), .val (.int (1 : Int32)), .val (.int (0 : Int32)), .val (.int (0 : Int32)), .val (.int (1 : Int32))] [])) _
      exact kt
    obtain ⟨s₂, o₂, hs₂, hr₂⟩ := own_tail1 xa xb bo bk (1 : Int32) (0 : Int32) (0 : Int32) ko kk [(.ref c0), (.ref c1), (.ref c2), (.ref c3), (.ref c4), (.ref c5), (.ref c6), (.ref c7), (.ref c8), (.ref c9), (.ref c10), (.ref c11), (.ref c12), (.ref c13), (.ref c14), (.ref c15)] [(.ref d0), (.ref d1), (.ref d2), (.ref d3)] c1 d0 X2 hx hZ hw hby hml hown e2 N2 Z0 hret hlk P0 P1 P2 P3 (by decide) rfl (by decide) rfl
    exact ⟨s₂, o₂, go4 _ hs₂, hr₂⟩
  · skip
    obtain ⟨_, _, ⟨T5, L5, k5, n5⟩, -, X5, ⟨Lc5, hQ5, l5, y5, z5⟩, st5⟩ := Jvm.LawKit.callS X0 hx (y := (⟨"com/example/tracewright/tracewright/engine/expr/UnaryOpAcceptsPinLaw", "sourceKindIndex", "(I)I"⟩ : MethodName)) hown (mvT hZ (hw _ (List.mem_of_getElem? (i := 48) rfl))) (mvT hZ (hw _ (List.mem_of_getElem? (i := 49) rfl))) (mvT hZ (hw _ (List.mem_of_getElem? (i := 50) rfl))) (mvT hZ (hw _ (List.mem_of_getElem? (i := 51) rfl))) (by decide) (backOf (W := 0) (own_src1 l Z a0 hw []  h0 n0 Z0 ) hZ (hw _ (List.mem_of_getElem? (i := 51) rfl)) (hw _ (List.mem_of_getElem? (i := 50) rfl)) (by decide) (by decide)) (g := (mkF m 154 #[.val (.int xa), .val (.int xb), .val (.ref bo), .val (.ref bk), .val (.int (1 : Int32)), .val (.int (1 : Int32)), .unset, .unset] [(.int (1 : Int32))])) rfl (by rw [hml]; rfl) (argsL := [(.int (1 : Int32))]) (rest := []) (lenOf pd_6 rfl) rfl (by show 2 * 0 + _ ≤ _; exact Nat.le_of_eq rfl) (hb hby at_154) (fun _ _ => ⟨rfl, e0, (by decide : 2 + 0 ≤ _), (by decide : 20 + 0 ≤ _)⟩)
    dsimp only [Pt.U, Pt.locs, Pt.cells, Pt.slots] at X5 l5 y5 z5 st5 hQ5
    subst l5 y5 z5
    obtain ⟨rfl, Nq5, e5⟩ := hQ5
    have N5 := Fr.app N0 Nq5
    have go7 : ∀ t, Steps p.tables e below (T5.setTop (mkF m 178 #[.val (.int xa), .val (.int xb), .val (.ref bo), .val (.ref bk), .val (.int (1 : Int32)), .val (.int (1 : Int32)), .val (.int (0 : Int32)), .val (.int (0 : Int32))] [])) t → Steps p.tables e below st0 t := by
      intro t kt
      refine go0 t ?_
      refine XS.iload X0.here hx rfl (hb hby at_152) rfl ?_
      show Steps p.tables e below (T0.setTop (mkF m 154 #[.val (.int xa), .val (.int xb), .val (.ref bo), .val (.ref bk), .val (.int (1 : Int32)), .val (.int (1 : Int32)), .unset, .unset] [(.int (1 : Int32))])) _
      refine st5 _ ?_
      show Steps p.tables e below (T5.setTop (mkF m 157 #[.val (.int xa), .val (.int xb), .val (.ref bo), .val (.ref bk), .val (.int (1 : Int32)), .val (.int (1 : Int32)), .unset, .unset] [(.int (0 : Int32))])) _
      refine XS.istore X5.here hx rfl (hb hby at_157) rfl (l' := #[.val (.int xa), .val (.int xb), .val (.ref bo), .val (.ref bk), .val (.int (1 : Int32)), .val (.int (1 : Int32)), .val (.int (0 : Int32)), .unset]) rfl ?_
      show Steps p.tables e below (T5.setTop (mkF m 159 #[.val (.int xa), .val (.int xb), .val (.ref bo), .val (.ref bk), .val (.int (1 : Int32)), .val (.int (1 : Int32)), .val (.int (0 : Int32)), .unset] [])) _
      refine XS.iload X5.here hx rfl (hb hby at_159) rfl ?_
      show Steps p.tables e below (T5.setTop (mkF m 161 #[.val (.int xa), .val (.int xb), .val (.ref bo), .val (.ref bk), .val (.int (1 : Int32)), .val (.int (1 : Int32)), .val (.int (0 : Int32)), .unset] [(.int (0 : Int32))])) _
      refine XS.ifNo X5.here hx rfl (hb hby at_161) rfl ((if0 _ _).trans (flt (by decide : ¬ ((0 : Int32) < (0 : Int32)))).1) ?_
      show Steps p.tables e below (T5.setTop (mkF m 164 #[.val (.int xa), .val (.int xb), .val (.ref bo), .val (.ref bk), .val (.int (1 : Int32)), .val (.int (1 : Int32)), .val (.int (0 : Int32)), .unset] [])) _
      refine XS.iload X5.here hx rfl (hb hby at_164) rfl ?_
      show Steps p.tables e below (T5.setTop (mkF m 166 #[.val (.int xa), .val (.int xb), .val (.ref bo), .val (.ref bk), .val (.int (1 : Int32)), .val (.int (1 : Int32)), .val (.int (0 : Int32)), .unset] [(.int (0 : Int32))])) _
      refine XS.iload X5.here hx rfl (hb hby at_166) rfl ?_
      show Steps p.tables e below (T5.setTop (mkF m 168 #[.val (.int xa), .val (.int xb), .val (.ref bo), .val (.ref bk), .val (.int (1 : Int32)), .val (.int (1 : Int32)), .val (.int (0 : Int32)), .unset] [(.int (1 : Int32)), (.int (0 : Int32))])) _
      refine XS.icmpYes X5.here hx rfl (pc0 := 168) (pc' := 175) rfl (hb hby at_168) rfl (feq (by decide : ¬ ((0 : Int32) = (1 : Int32)))).2 (by decide) (by decide) ?_
      show Steps p.tables e below (T5.setTop (mkF m 175 #[.val (.int xa), .val (.int xb), .val (.ref bo), .val (.ref bk), .val (.int (1 : Int32)), .val (.int (1 : Int32)), .val (.int (0 : Int32)), .unset] [])) _
      refine XS.iconst X5.here hx rfl (hb hby at_175) ?_
      show Steps p.tables e below (T5.setTop (mkF m 176 #[.val (.int xa), .val (.int xb), .val (.ref bo), .val (.ref bk), .val (.int (1 : Int32)), .val (.int (1 : Int32)), .val (.int (0 : Int32)), .unset] [(.int (0 : Int32))])) _
      refine XS.istore X5.here hx rfl (hb hby at_176) rfl (l' := #[.val (.int xa), .val (.int xb), .val (.ref bo), .val (.ref bk), .val (.int (1 : Int32)), .val (.int (1 : Int32)), .val (.int (0 : Int32)), .val (.int (0 : Int32))]) rfl ?_
      show Steps p.tables e below (T5.setTop (mkF m 178 #[.val (.int xa), .val (.int xb), .val (.ref bo), .val (.ref bk), .val (.int (1 : Int32)), .val (.int (1 : Int32)), .val (.int (0 : Int32)), .val (.int (0 : Int32))] [])) _
      exact kt
    obtain ⟨s₂, o₂, hs₂, hr₂⟩ := own_tail2 xa xb bo bk (1 : Int32) (1 : Int32) (0 : Int32) ko kk [(.ref c0), (.ref c1), (.ref c2), (.ref c3), (.ref c4), (.ref c5), (.ref c6), (.ref c7), (.ref c8), (.ref c9), (.ref c10), (.ref c11), (.ref c12), (.ref c13), (.ref c14), (.ref c15)] [(.ref d0), (.ref d1), (.ref d2), (.ref d3)] c1 d1 d0 X5 hx hZ hw hby hml hown e5 N5 Z0 hret hlk P0 P1 P2 P3 (by decide) rfl (by decide) rfl P4
    exact ⟨s₂, o₂, go7 _ hs₂, hr₂⟩
  · skip
    obtain ⟨_, _, ⟨T8, L8, k8, n8⟩, -, X8, ⟨Lc8, hQ8, l8, y8, z8⟩, st8⟩ := Jvm.LawKit.callS X0 hx (y := (⟨"com/example/tracewright/tracewright/engine/expr/UnaryOpAcceptsPinLaw", "sourceKindIndex", "(I)I"⟩ : MethodName)) hown (mvT hZ (hw _ (List.mem_of_getElem? (i := 48) rfl))) (mvT hZ (hw _ (List.mem_of_getElem? (i := 49) rfl))) (mvT hZ (hw _ (List.mem_of_getElem? (i := 50) rfl))) (mvT hZ (hw _ (List.mem_of_getElem? (i := 51) rfl))) (by decide) (backOf (W := 0) (own_src1 l Z a0 hw []  h0 n0 Z0 ) hZ (hw _ (List.mem_of_getElem? (i := 51) rfl)) (hw _ (List.mem_of_getElem? (i := 50) rfl)) (by decide) (by decide)) (g := (mkF m 154 #[.val (.int xa), .val (.int xb), .val (.ref bo), .val (.ref bk), .val (.int (1 : Int32)), .val (.int (2 : Int32)), .unset, .unset] [(.int (1 : Int32))])) rfl (by rw [hml]; rfl) (argsL := [(.int (1 : Int32))]) (rest := []) (lenOf pd_6 rfl) rfl (by show 2 * 0 + _ ≤ _; exact Nat.le_of_eq rfl) (hb hby at_154) (fun _ _ => ⟨rfl, e0, (by decide : 2 + 0 ≤ _), (by decide : 20 + 0 ≤ _)⟩)
    dsimp only [Pt.U, Pt.locs, Pt.cells, Pt.slots] at X8 l8 y8 z8 st8 hQ8
    subst l8 y8 z8
    obtain ⟨rfl, Nq8, e8⟩ := hQ8
    have N8 := Fr.app N0 Nq8
    have go10 : ∀ t, Steps p.tables e below (T8.setTop (mkF m 178 #[.val (.int xa), .val (.int xb), .val (.ref bo), .val (.ref bk), .val (.int (1 : Int32)), .val (.int (2 : Int32)), .val (.int (0 : Int32)), .val (.int (0 : Int32))] [])) t → Steps p.tables e below st0 t := by
      intro t kt
      refine go0 t ?_
      refine XS.iload X0.here hx rfl (hb hby at_152) rfl ?_
      show Steps p.tables e below (T0.setTop (mkF m 154 #[.val (.int xa), .val (.int xb), .val (.ref bo), .val (.ref bk), .val (.int (1 : Int32)), .val (.int (2 : Int32)), .unset, .unset] [(.int (1 : Int32))])) _
      refine st8 _ ?_
      show Steps p.tables e below (T8.setTop (mkF m 157 #[.val (.int xa), .val (.int xb), .val (.ref bo), .val (.ref bk), .val (.int (1 : Int32)), .val (.int (2 : Int32)), .unset, .unset] [(.int (0 : Int32))])) _
      refine XS.istore X8.here hx rfl (hb hby at_157) rfl (l' := #[.val (.int xa), .val (.int xb), .val (.ref bo), .val (.ref bk), .val (.int (1 : Int32)), .val (.int (2 : Int32)), .val (.int (0 : Int32)), .unset]) rfl ?_
      show Steps p.tables e below (T8.setTop (mkF m 159 #[.val (.int xa), .val (.int xb), .val (.ref bo), .val (.ref bk), .val (.int (1 : Int32)), .val (.int (2 : Int32)), .val (.int (0 : Int32)), .unset] [])) _
      refine XS.iload X8.here hx rfl (hb hby at_159) rfl ?_
      show Steps p.tables e below (T8.setTop (mkF m 161 #[.val (.int xa), .val (.int xb), .val (.ref bo), .val (.ref bk), .val (.int (1 : Int32)), .val (.int (2 : Int32)), .val (.int (0 : Int32)), .unset] [(.int (0 : Int32))])) _
      refine XS.ifNo X8.here hx rfl (hb hby at_161) rfl ((if0 _ _).trans (flt (by decide : ¬ ((0 : Int32) < (0 : Int32)))).1) ?_
      show Steps p.tables e below (T8.setTop (mkF m 164 #[.val (.int xa), .val (.int xb), .val (.ref bo), .val (.ref bk), .val (.int (1 : Int32)), .val (.int (2 : Int32)), .val (.int (0 : Int32)), .unset] [])) _
      refine XS.iload X8.here hx rfl (hb hby at_164) rfl ?_
      show Steps p.tables e below (T8.setTop (mkF m 166 #[.val (.int xa), .val (.int xb), .val (.ref bo), .val (.ref bk), .val (.int (1 : Int32)), .val (.int (2 : Int32)), .val (.int (0 : Int32)), .unset] [(.int (0 : Int32))])) _
      refine XS.iload X8.here hx rfl (hb hby at_166) rfl ?_
      show Steps p.tables e below (T8.setTop (mkF m 168 #[.val (.int xa), .val (.int xb), .val (.ref bo), .val (.ref bk), .val (.int (1 : Int32)), .val (.int (2 : Int32)), .val (.int (0 : Int32)), .unset] [(.int (2 : Int32)), (.int (0 : Int32))])) _
      refine XS.icmpYes X8.here hx rfl (pc0 := 168) (pc' := 175) rfl (hb hby at_168) rfl (feq (by decide : ¬ ((0 : Int32) = (2 : Int32)))).2 (by decide) (by decide) ?_
      show Steps p.tables e below (T8.setTop (mkF m 175 #[.val (.int xa), .val (.int xb), .val (.ref bo), .val (.ref bk), .val (.int (1 : Int32)), .val (.int (2 : Int32)), .val (.int (0 : Int32)), .unset] [])) _
      refine XS.iconst X8.here hx rfl (hb hby at_175) ?_
      show Steps p.tables e below (T8.setTop (mkF m 176 #[.val (.int xa), .val (.int xb), .val (.ref bo), .val (.ref bk), .val (.int (1 : Int32)), .val (.int (2 : Int32)), .val (.int (0 : Int32)), .unset] [(.int (0 : Int32))])) _
      refine XS.istore X8.here hx rfl (hb hby at_176) rfl (l' := #[.val (.int xa), .val (.int xb), .val (.ref bo), .val (.ref bk), .val (.int (1 : Int32)), .val (.int (2 : Int32)), .val (.int (0 : Int32)), .val (.int (0 : Int32))]) rfl ?_
      show Steps p.tables e below (T8.setTop (mkF m 178 #[.val (.int xa), .val (.int xb), .val (.ref bo), .val (.ref bk), .val (.int (1 : Int32)), .val (.int (2 : Int32)), .val (.int (0 : Int32)), .val (.int (0 : Int32))] [])) _
      exact kt
    obtain ⟨s₂, o₂, hs₂, hr₂⟩ := own_tail2 xa xb bo bk (1 : Int32) (2 : Int32) (0 : Int32) ko kk [(.ref c0), (.ref c1), (.ref c2), (.ref c3), (.ref c4), (.ref c5), (.ref c6), (.ref c7), (.ref c8), (.ref c9), (.ref c10), (.ref c11), (.ref c12), (.ref c13), (.ref c14), (.ref c15)] [(.ref d0), (.ref d1), (.ref d2), (.ref d3)] c1 d2 d0 X8 hx hZ hw hby hml hown e8 N8 Z0 hret hlk P0 P1 P2 P3 (by decide) rfl (by decide) rfl P5
    exact ⟨s₂, o₂, go10 _ hs₂, hr₂⟩
  · skip
    obtain ⟨_, _, ⟨T11, L11, k11, n11⟩, -, X11, ⟨Lc11, hQ11, l11, y11, z11⟩, st11⟩ := Jvm.LawKit.callS X0 hx (y := (⟨"com/example/tracewright/tracewright/engine/expr/UnaryOpAcceptsPinLaw", "sourceKindIndex", "(I)I"⟩ : MethodName)) hown (mvT hZ (hw _ (List.mem_of_getElem? (i := 48) rfl))) (mvT hZ (hw _ (List.mem_of_getElem? (i := 49) rfl))) (mvT hZ (hw _ (List.mem_of_getElem? (i := 50) rfl))) (mvT hZ (hw _ (List.mem_of_getElem? (i := 51) rfl))) (by decide) (backOf (W := 0) (own_src1 l Z a0 hw []  h0 n0 Z0 ) hZ (hw _ (List.mem_of_getElem? (i := 51) rfl)) (hw _ (List.mem_of_getElem? (i := 50) rfl)) (by decide) (by decide)) (g := (mkF m 154 #[.val (.int xa), .val (.int xb), .val (.ref bo), .val (.ref bk), .val (.int (1 : Int32)), .val (.int (3 : Int32)), .unset, .unset] [(.int (1 : Int32))])) rfl (by rw [hml]; rfl) (argsL := [(.int (1 : Int32))]) (rest := []) (lenOf pd_6 rfl) rfl (by show 2 * 0 + _ ≤ _; exact Nat.le_of_eq rfl) (hb hby at_154) (fun _ _ => ⟨rfl, e0, (by decide : 2 + 0 ≤ _), (by decide : 20 + 0 ≤ _)⟩)
    dsimp only [Pt.U, Pt.locs, Pt.cells, Pt.slots] at X11 l11 y11 z11 st11 hQ11
    subst l11 y11 z11
    obtain ⟨rfl, Nq11, e11⟩ := hQ11
    have N11 := Fr.app N0 Nq11
    have go13 : ∀ t, Steps p.tables e below (T11.setTop (mkF m 178 #[.val (.int xa), .val (.int xb), .val (.ref bo), .val (.ref bk), .val (.int (1 : Int32)), .val (.int (3 : Int32)), .val (.int (0 : Int32)), .val (.int (0 : Int32))] [])) t → Steps p.tables e below st0 t := by
      intro t kt
      refine go0 t ?_
      refine XS.iload X0.here hx rfl (hb hby at_152) rfl ?_
      show Steps p.tables e below (T0.setTop (mkF m 154 #[.val (.int xa), .val (.int xb), .val (.ref bo), .val (.ref bk), .val (.int (1 : Int32)), .val (.int (3 : Int32)), .unset, .unset] [(.int (1 : Int32))])) _
      refine st11 _ ?_
      show Steps p.tables e below (T11.setTop (mkF m 157 #[.val (.int xa), .val (.int xb), .val (.ref bo), .val (.ref bk), .val (.int (1 : Int32)), .val (.int (3 : Int32)), .unset, .unset] [(.int (0 : Int32))])) _
      refine XS.istore X11.here hx rfl (hb hby at_157) rfl (l' := #[.val (.int xa), .val (.int xb), .val (.ref bo), .val (.ref bk), .val (.int (1 : Int32)), .val (.int (3 : Int32)), .val (.int (0 : Int32)), .unset]) rfl ?_
      show Steps p.tables e below (T11.setTop (mkF m 159 #[.val (.int xa), .val (.int xb), .val (.ref bo), .val (.ref bk), .val (.int (1 : Int32)), .val (.int (3 : Int32)), .val (.int (0 : Int32)), .unset] [])) _
      refine XS.iload X11.here hx rfl (hb hby at_159) rfl ?_
      show Steps p.tables e below (T11.setTop (mkF m 161 #[.val (.int xa), .val (.int xb), .val (.ref bo), .val (.ref bk), .val (.int (1 : Int32)), .val (.int (3 : Int32)), .val (.int (0 : Int32)), .unset] [(.int (0 : Int32))])) _
      refine XS.ifNo X11.here hx rfl (hb hby at_161) rfl ((if0 _ _).trans (flt (by decide : ¬ ((0 : Int32) < (0 : Int32)))).1) ?_
      show Steps p.tables e below (T11.setTop (mkF m 164 #[.val (.int xa), .val (.int xb), .val (.ref bo), .val (.ref bk), .val (.int (1 : Int32)), .val (.int (3 : Int32)), .val (.int (0 : Int32)), .unset] [])) _
      refine XS.iload X11.here hx rfl (hb hby at_164) rfl ?_
      show Steps p.tables e below (T11.setTop (mkF m 166 #[.val (.int xa), .val (.int xb), .val (.ref bo), .val (.ref bk), .val (.int (1 : Int32)), .val (.int (3 : Int32)), .val (.int (0 : Int32)), .unset] [(.int (0 : Int32))])) _
      refine XS.iload X11.here hx rfl (hb hby at_166) rfl ?_
      show Steps p.tables e below (T11.setTop (mkF m 168 #[.val (.int xa), .val (.int xb), .val (.ref bo), .val (.ref bk), .val (.int (1 : Int32)), .val (.int (3 : Int32)), .val (.int (0 : Int32)), .unset] [(.int (3 : Int32)), (.int (0 : Int32))])) _
      refine XS.icmpYes X11.here hx rfl (pc0 := 168) (pc' := 175) rfl (hb hby at_168) rfl (feq (by decide : ¬ ((0 : Int32) = (3 : Int32)))).2 (by decide) (by decide) ?_
      show Steps p.tables e below (T11.setTop (mkF m 175 #[.val (.int xa), .val (.int xb), .val (.ref bo), .val (.ref bk), .val (.int (1 : Int32)), .val (.int (3 : Int32)), .val (.int (0 : Int32)), .unset] [])) _
      refine XS.iconst X11.here hx rfl (hb hby at_175) ?_
      show Steps p.tables e below (T11.setTop (mkF m 176 #[.val (.int xa), .val (.int xb), .val (.ref bo), .val (.ref bk), .val (.int (1 : Int32)), .val (.int (3 : Int32)), .val (.int (0 : Int32)), .unset] [(.int (0 : Int32))])) _
      refine XS.istore X11.here hx rfl (hb hby at_176) rfl (l' := #[.val (.int xa), .val (.int xb), .val (.ref bo), .val (.ref bk), .val (.int (1 : Int32)), .val (.int (3 : Int32)), .val (.int (0 : Int32)), .val (.int (0 : Int32))]) rfl ?_
      show Steps p.tables e below (T11.setTop (mkF m 178 #[.val (.int xa), .val (.int xb), .val (.ref bo), .val (.ref bk), .val (.int (1 : Int32)), .val (.int (3 : Int32)), .val (.int (0 : Int32)), .val (.int (0 : Int32))] [])) _
      exact kt
    obtain ⟨s₂, o₂, hs₂, hr₂⟩ := own_tail2 xa xb bo bk (1 : Int32) (3 : Int32) (0 : Int32) ko kk [(.ref c0), (.ref c1), (.ref c2), (.ref c3), (.ref c4), (.ref c5), (.ref c6), (.ref c7), (.ref c8), (.ref c9), (.ref c10), (.ref c11), (.ref c12), (.ref c13), (.ref c14), (.ref c15)] [(.ref d0), (.ref d1), (.ref d2), (.ref d3)] c1 d3 d0 X11 hx hZ hw hby hml hown e11 N11 Z0 hret hlk P0 P1 P2 P3 (by decide) rfl (by decide) rfl P6
    exact ⟨s₂, o₂, go13 _ hs₂, hr₂⟩
set_option maxRecDepth 65536 in
set_option maxHeartbeats 40000000 in
theorem own_mid2 {p : Program} {l : Launch} {e : Env} {s : State} {m : MethodId} {args : Array Value} {below : List Frame} {meth : Method} {c : Code} {T0 : State} {locs : List Loc} {Z : State} {a0 : Array Value} {h0 : Heap} {n0 : Nat} (xa : Int32) (xb : Int32) (bo : Addr) (bk : Addr) (kx : Int32) (c0 : Addr) (c1 : Addr) (c2 : Addr) (c3 : Addr) (c4 : Addr) (c5 : Addr) (c6 : Addr) (c7 : Addr) (c8 : Addr) (c9 : Addr) (c10 : Addr) (c11 : Addr) (c12 : Addr) (c13 : Addr) (c14 : Addr) (c15 : Addr) (d0 : Addr) (d1 : Addr) (d2 : Addr) (d3 : Addr) (ko : ClassId) (kk : ClassId) (X0 : Stand p l e room_1 s m args below meth c T0 locs 2 20) (hx : p.tables.exec = Jvm.exec) (hZ : Z.Warmed39 s.vm) (hw : ∀ d ∈ tables_1, d.before a0 Z = true) (hby : c.code = code) (hml : c.maxLocals = 8) (hown : s.vm.findClass "com/example/tracewright/tracewright/engine/expr/UnaryOpAcceptsPinLaw" = some m.cls) (e0 : T0.heap = h0) (N0 : Fr n0 locs) (Z0 : n0 ≤ h0.size) (hret : meth.sig.returnType = some .boolean) (hlk : meth.locks = false) (P0 : Arv Z h0 bo ko (.object "com/example/tracewright/tracewright/engine/expr/UnaryOp") (16 : Int32) [(.ref c0), (.ref c1), (.ref c2), (.ref c3), (.ref c4), (.ref c5), (.ref c6), (.ref c7), (.ref c8), (.ref c9), (.ref c10), (.ref c11), (.ref c12), (.ref c13), (.ref c14), (.ref c15)] .null) (P1 : Arv Z h0 bk kk (.object "com/example/tracewright/tracewright/engine/expr/Kind") (4 : Int32) [(.ref d0), (.ref d1), (.ref d2), (.ref d3)] .null) (P2 : Exa Z h0 c2 "com/example/tracewright/tracewright/engine/expr/UnaryOp") (P3 : Fld Z h0 c2 "com/example/tracewright/tracewright/engine/expr/UnaryOp" "from" "Lcom/example/tracewright/tracewright/engine/expr/Kind;" (.ref d0)) (P4 : d0 ≠ d1) (P5 : d0 ≠ d2) (P6 : d0 ≠ d3) (P7 : d1 ≠ d2) (P8 : d1 ≠ d3) (P9 : d2 ≠ d3) (hK : kx = (0 : Int32) ∨ kx = (1 : Int32) ∨ kx = (2 : Int32) ∨ kx = (3 : Int32)) :
    ∃ s₂ o, Steps p.tables e below (T0.setTop (mkF m 152 #[.val (.int xa), .val (.int xb), .val (.ref bo), .val (.ref bk), .val (.int (2 : Int32)), .val (.int kx), .unset, .unset] [])) s₂ ∧ s₂.status = .running ∧ Ended s₂ below o ∧ ∃ v L, o = .returned v ∧ (v = some (.int (1 : Int32)) ∧ Fr n0 L) ∧ FrameEnd s o s₂ L room_1.cells room_1.slots := by
  obtain ⟨st0, hst0⟩ : ∃ zst, zst = T0.setTop (mkF m 152 #[.val (.int xa), .val (.int xb), .val (.ref bo), .val (.ref bk), .val (.int (2 : Int32)), .val (.int kx), .unset, .unset] []) := ⟨_, rfl⟩
  have go0 : ∀ t, Steps p.tables e below (T0.setTop (mkF m 152 #[.val (.int xa), .val (.int xb), .val (.ref bo), .val (.ref bk), .val (.int (2 : Int32)), .val (.int kx), .unset, .unset] [])) t → Steps p.tables e below st0 t := fun t k => by rw [hst0]; exact k
  rw [← hst0]
  rcases hK with rfl | rfl | rfl | rfl
  · skip
    obtain ⟨_, _, ⟨T2, L2, k2, n2⟩, -, X2, ⟨Lc2, hQ2, l2, y2, z2⟩, st2⟩ := Jvm.LawKit.callS X0 hx (y := (⟨"com/example/tracewright/tracewright/engine/expr/UnaryOpAcceptsPinLaw", "sourceKindIndex", "(I)I"⟩ : MethodName)) hown (mvT hZ (hw _ (List.mem_of_getElem? (i := 48) rfl))) (mvT hZ (hw _ (List.mem_of_getElem? (i := 49) rfl))) (mvT hZ (hw _ (List.mem_of_getElem? (i := 50) rfl))) (mvT hZ (hw _ (List.mem_of_getElem? (i := 51) rfl))) (by decide) (backOf (W := 0) (own_src2 l Z a0 hw []  h0 n0 Z0 ) hZ (hw _ (List.mem_of_getElem? (i := 51) rfl)) (hw _ (List.mem_of_getElem? (i := 50) rfl)) (by decide) (by decide)) (g := (mkF m 154 #[.val (.int xa), .val (.int xb), .val (.ref bo), .val (.ref bk), .val (.int (2 : Int32)), .val (.int (0 : Int32)), .unset, .unset] [(.int (2 : Int32))])) rfl (by rw [hml]; rfl) (argsL := [(.int (2 : Int32))]) (rest := []) (lenOf pd_6 rfl) rfl (by show 2 * 0 + _ ≤ _; exact Nat.le_of_eq rfl) (hb hby at_154) (fun _ _ => ⟨rfl, e0, (by decide : 2 + 0 ≤ _), (by decide : 20 + 0 ≤ _)⟩)
    dsimp only [Pt.U, Pt.locs, Pt.cells, Pt.slots] at X2 l2 y2 z2 st2 hQ2
    subst l2 y2 z2
    obtain ⟨rfl, Nq2, e2⟩ := hQ2
    have N2 := Fr.app N0 Nq2
    have go4 : ∀ t, Steps p.tables e below (T2.setTop (mkF m 178 #[.val (.int xa), .val (.int xb), .val (.ref bo), .val (.ref bk), .val (.int (2 : Int32)), .val (.int (0 : Int32)), .val (.int (0 : Int32)), .val (.int (1 : Int32))] [])) t → Steps p.tables e below st0 t := by
      intro t kt
      refine go0 t ?_
      refine XS.iload X0.here hx rfl (hb hby at_152) rfl ?_
      show Steps p.tables e below (T0.setTop (mkF m 154 #[.val (.int xa), .val (.int xb), .val (.ref bo), .val (.ref bk), .val (.int (2 : Int32)), .val (.int (0 : Int32)), .unset, .unset] [(.int (2 : Int32))])) _
      refine st2 _ ?_
      show Steps p.tables e below (T2.setTop (mkF m 157 #[.val (.int xa), .val (.int xb), .val (.ref bo), .val (.ref bk), .val (.int (2 : Int32)), .val (.int (0 : Int32)), .unset, .unset] [(.int (0 : Int32))])) _
      refine XS.istore X2.here hx rfl (hb hby at_157) rfl (l' := #[.val (.int xa), .val (.int xb), .val (.ref bo), .val (.ref bk), .val (.int (2 : Int32)), .val (.int (0 : Int32)), .val (.int (0 : Int32)), .unset]) rfl ?_
      show Steps p.tables e below (T2.setTop (mkF m 159 #[.val (.int xa), .val (.int xb), .val (.ref bo), .val (.ref bk), .val (.int (2 : Int32)), .val (.int (0 : Int32)), .val (.int (0 : Int32)), .unset] [])) _
      refine XS.iload X2.here hx rfl (hb hby at_159) rfl ?_
      show Steps p.tables e below (T2.setTop (mkF m 161 #[.val (.int xa), .val (.int xb), .val (.ref bo), .val (.ref bk), .val (.int (2 : Int32)), .val (.int (0 : Int32)), .val (.int (0 : Int32)), .unset] [(.int (0 : Int32))])) _
      refine XS.ifNo X2.here hx rfl (hb hby at_161) rfl ((if0 _ _).trans (flt (by decide : ¬ ((0 : Int32) < (0 : Int32)))).1) ?_
      show Steps p.tables e below (T2.setTop (mkF m 164 #[.val (.int xa), .val (.int xb), .val (.ref bo), .val (.ref bk), .val (.int (2 : Int32)), .val (.int (0 : Int32)), .val (.int (0 : Int32)), .unset] [])) _
      refine XS.iload X2.here hx rfl (hb hby at_164) rfl ?_
      show Steps p.tables e below (T2.setTop (mkF m 166 #[.val (.int xa), .val (.int xb), .val (.ref bo), .val (.ref bk), .val (.int (2 : Int32)), .val (.int (0 : Int32)), .val (.int (0 : Int32)), .unset] [(.int (0 : Int32))])) _
      refine XS.iload X2.here hx rfl (hb hby at_166) rfl ?_
      show Steps p.tables e below (T2.setTop (mkF m 168 #[.val (.int xa), .val (.int xb), .val (.ref bo), .val (.ref bk), .val (.int (2 : Int32)), .val (.int (0 : Int32)), .val (.int (0 : Int32)), .unset] [(.int (0 : Int32)), (.int (0 : Int32))])) _
      refine XS.icmpNo X2.here hx rfl (hb hby at_168) rfl (teq (by decide : (0 : Int32) = (0 : Int32))).2 ?_
      show Steps p.tables e below (T2.setTop (mkF m 171 #[.val (.int xa), .val (.int xb), .val (.ref bo), .val (.ref bk), .val (.int (2 : Int32)), .val (.int (0 : Int32)), .val (.int (0 : Int32)), .unset] [])) _
      refine XS.iconst X2.here hx rfl (hb hby at_171) ?_
      show Steps p.tables e below (T2.setTop (mkF m 172 #[.val (.int xa), .val (.int xb), .val (.ref bo), .val (.ref bk), .val (.int (2 : Int32)), .val (.int (0 : Int32)), .val (.int (0 : Int32)), .unset] [(.int (1 : Int32))])) _
      refine XS.goto X2.here hx rfl (pc0 := 172) (pc' := 176) rfl (hb hby at_172) (by decide) (by decide) ?_
      show Steps p.tables e below (T2.setTop (mkF m 176 #[.val (.int xa), .val (.int xb), .val (.ref bo), .val (.ref bk), .val (.int (2 : Int32)), .val (.int (0 : Int32)), .val (.int (0 : Int32)), .unset] [(.int (1 : Int32))])) _
      refine XS.istore X2.here hx rfl (hb hby at_176) rfl (l' := #[.val (.int xa), .val (.int xb), .val (.ref bo), .val (.ref bk), .val (.int (2 : Int32)), .val (.int (0 : Int32)), .val (.int (0 : Int32)), .val (.int (1 : Int32))]) rfl ?_
      show Steps p.tables e below (T2.setTop (mkF m 178 #[.val (.int xa), .val (.int xb), .val (.ref bo), .val (.ref bk), .val (.int (2 : Int32)), .val (.int (0 : Int32)), .val (.int (0 : Int32)), .val (.int (1 : Int32))] [])) _
      exact kt
    obtain ⟨s₂, o₂, hs₂, hr₂⟩ := own_tail1 xa xb bo bk (2 : Int32) (0 : Int32) (0 : Int32) ko kk [(.ref c0), (.ref c1), (.ref c2), (.ref c3), (.ref c4), (.ref c5), (.ref c6), (.ref c7), (.ref c8), (.ref c9), (.ref c10), (.ref c11), (.ref c12), (.ref c13), (.ref c14), (.ref c15)] [(.ref d0), (.ref d1), (.ref d2), (.ref d3)] c2 d0 X2 hx hZ hw hby hml hown e2 N2 Z0 hret hlk P0 P1 P2 P3 (by decide) rfl (by decide) rfl
    exact ⟨s₂, o₂, go4 _ hs₂, hr₂⟩
  · skip
    obtain ⟨_, _, ⟨T5, L5, k5, n5⟩, -, X5, ⟨Lc5, hQ5, l5, y5, z5⟩, st5⟩ := Jvm.LawKit.callS X0 hx (y := (⟨"com/example/tracewright/tracewright/engine/expr/UnaryOpAcceptsPinLaw", "sourceKindIndex", "(I)I"⟩ : MethodName)) hown (mvT hZ (hw _ (List.mem_of_getElem? (i := 48) rfl))) (mvT hZ (hw _ (List.mem_of_getElem? (i := 49) rfl))) (mvT hZ (hw _ (List.mem_of_getElem? (i := 50) rfl))) (mvT hZ (hw _ (List.mem_of_getElem? (i := 51) rfl))) (by decide) (backOf (W := 0) (own_src2 l Z a0 hw []  h0 n0 Z0 ) hZ (hw _ (List.mem_of_getElem? (i := 51) rfl)) (hw _ (List.mem_of_getElem? (i := 50) rfl)) (by decide) (by decide)) (g := (mkF m 154 #[.val (.int xa), .val (.int xb), .val (.ref bo), .val (.ref bk), .val (.int (2 : Int32)), .val (.int (1 : Int32)), .unset, .unset] [(.int (2 : Int32))])) rfl (by rw [hml]; rfl) (argsL := [(.int (2 : Int32))]) (rest := []) (lenOf pd_6 rfl) rfl (by show 2 * 0 + _ ≤ _; exact Nat.le_of_eq rfl) (hb hby at_154) (fun _ _ => ⟨rfl, e0, (by decide : 2 + 0 ≤ _), (by decide : 20 + 0 ≤ _)⟩)
    dsimp only [Pt.U, Pt.locs, Pt.cells, Pt.slots] at X5 l5 y5 z5 st5 hQ5
    subst l5 y5 z5
    obtain ⟨rfl, Nq5, e5⟩ := hQ5
    have N5 := Fr.app N0 Nq5
    have go7 : ∀ t, Steps p.tables e below (T5.setTop (mkF m 178 #[.val (.int xa), .val (.int xb), .val (.ref bo), .val (.ref bk), .val (.int (2 : Int32)), .val (.int (1 : Int32)), .val (.int (0 : Int32)), .val (.int (0 : Int32))] [])) t → Steps p.tables e below st0 t := by
      intro t kt
      refine go0 t ?_
      refine XS.iload X0.here hx rfl (hb hby at_152) rfl ?_
      show Steps p.tables e below (T0.setTop (mkF m 154 #[.val (.int xa), .val (.int xb), .val (.ref bo), .val (.ref bk), .val (.int (2 : Int32)), .val (.int (1 : Int32)), .unset, .unset] [(.int (2 : Int32))])) _
      refine st5 _ ?_
      show Steps p.tables e below (T5.setTop (mkF m 157 #[.val (.int xa), .val (.int xb), .val (.ref bo), .val (.ref bk), .val (.int (2 : Int32)), .val (.int (1 : Int32)), .unset, .unset] [(.int (0 : Int32))])) _
      refine XS.istore X5.here hx rfl (hb hby at_157) rfl (l' := #[.val (.int xa), .val (.int xb), .val (.ref bo), .val (.ref bk), .val (.int (2 : Int32)), .val (.int (1 : Int32)), .val (.int (0 : Int32)), .unset]) rfl ?_
      show Steps p.tables e below (T5.setTop (mkF m 159 #[.val (.int xa), .val (.int xb), .val (.ref bo), .val (.ref bk), .val (.int (2 : Int32)), .val (.int (1 : Int32)), .val (.int (0 : Int32)), .unset] [])) _
      refine XS.iload X5.here hx rfl (hb hby at_159) rfl ?_
      show Steps p.tables e below (T5.setTop (mkF m 161 #[.val (.int xa), .val (.int xb), .val (.ref bo), .val (.ref bk), .val (.int (2 : Int32)), .val (.int (1 : Int32)), .val (.int (0 : Int32)), .unset] [(.int (0 : Int32))])) _
      refine XS.ifNo X5.here hx rfl (hb hby at_161) rfl ((if0 _ _).trans (flt (by decide : ¬ ((0 : Int32) < (0 : Int32)))).1) ?_
      show Steps p.tables e below (T5.setTop (mkF m 164 #[.val (.int xa), .val (.int xb), .val (.ref bo), .val (.ref bk), .val (.int (2 : Int32)), .val (.int (1 : Int32)), .val (.int (0 : Int32)), .unset] [])) _
      refine XS.iload X5.here hx rfl (hb hby at_164) rfl ?_
      show Steps p.tables e below (T5.setTop (mkF m 166 #[.val (.int xa), .val (.int xb), .val (.ref bo), .val (.ref bk), .val (.int (2 : Int32)), .val (.int (1 : Int32)), .val (.int (0 : Int32)), .unset] [(.int (0 : Int32))])) _
      refine XS.iload X5.here hx rfl (hb hby at_166) rfl ?_
      show Steps p.tables e below (T5.setTop (mkF m 168 #[.val (.int xa), .val (.int xb), .val (.ref bo), .val (.ref bk), .val (.int (2 : Int32)), .val (.int (1 : Int32)), .val (.int (0 : Int32)), .unset] [(.int (1 : Int32)), (.int (0 : Int32))])) _
      refine XS.icmpYes X5.here hx rfl (pc0 := 168) (pc' := 175) rfl (hb hby at_168) rfl (feq (by decide : ¬ ((0 : Int32) = (1 : Int32)))).2 (by decide) (by decide) ?_
      show Steps p.tables e below (T5.setTop (mkF m 175 #[.val (.int xa), .val (.int xb), .val (.ref bo), .val (.ref bk), .val (.int (2 : Int32)), .val (.int (1 : Int32)), .val (.int (0 : Int32)), .unset] [])) _
      refine XS.iconst X5.here hx rfl (hb hby at_175) ?_
      show Steps p.tables e below (T5.setTop (mkF m 176 #[.val (.int xa), .val (.int xb), .val (.ref bo), .val (.ref bk), .val (.int (2 : Int32)), .val (.int (1 : Int32)), .val (.int (0 : Int32)), .unset] [(.int (0 : Int32))])) _
      refine XS.istore X5.here hx rfl (hb hby at_176) rfl (l' := #[.val (.int xa), .val (.int xb), .val (.ref bo), .val (.ref bk), .val (.int (2 : Int32)), .val (.int (1 : Int32)), .val (.int (0 : Int32)), .val (.int (0 : Int32))]) rfl ?_
      show Steps p.tables e below (T5.setTop (mkF m 178 #[.val (.int xa), .val (.int xb), .val (.ref bo), .val (.ref bk), .val (.int (2 : Int32)), .val (.int (1 : Int32)), .val (.int (0 : Int32)), .val (.int (0 : Int32))] [])) _
      exact kt
    obtain ⟨s₂, o₂, hs₂, hr₂⟩ := own_tail2 xa xb bo bk (2 : Int32) (1 : Int32) (0 : Int32) ko kk [(.ref c0), (.ref c1), (.ref c2), (.ref c3), (.ref c4), (.ref c5), (.ref c6), (.ref c7), (.ref c8), (.ref c9), (.ref c10), (.ref c11), (.ref c12), (.ref c13), (.ref c14), (.ref c15)] [(.ref d0), (.ref d1), (.ref d2), (.ref d3)] c2 d1 d0 X5 hx hZ hw hby hml hown e5 N5 Z0 hret hlk P0 P1 P2 P3 (by decide) rfl (by decide) rfl P4
    exact ⟨s₂, o₂, go7 _ hs₂, hr₂⟩
  · skip
    obtain ⟨_, _, ⟨T8, L8, k8, n8⟩, -, X8, ⟨Lc8, hQ8, l8, y8, z8⟩, st8⟩ := Jvm.LawKit.callS X0 hx (y := (⟨"com/example/tracewright/tracewright/engine/expr/UnaryOpAcceptsPinLaw", "sourceKindIndex", "(I)I"⟩ : MethodName)) hown (mvT hZ (hw _ (List.mem_of_getElem? (i := 48) rfl))) (mvT hZ (hw _ (List.mem_of_getElem? (i := 49) rfl))) (mvT hZ (hw _ (List.mem_of_getElem? (i := 50) rfl))) (mvT hZ (hw _ (List.mem_of_getElem? (i := 51) rfl))) (by decide) (backOf (W := 0) (own_src2 l Z a0 hw []  h0 n0 Z0 ) hZ (hw _ (List.mem_of_getElem? (i := 51) rfl)) (hw _ (List.mem_of_getElem? (i := 50) rfl)) (by decide) (by decide)) (g := (mkF m 154 #[.val (.int xa), .val (.int xb), .val (.ref bo), .val (.ref bk), .val (.int (2 : Int32)), .val (.int (2 : Int32)), .unset, .unset] [(.int (2 : Int32))])) rfl (by rw [hml]; rfl) (argsL := [(.int (2 : Int32))]) (rest := []) (lenOf pd_6 rfl) rfl (by show 2 * 0 + _ ≤ _; exact Nat.le_of_eq rfl) (hb hby at_154) (fun _ _ => ⟨rfl, e0, (by decide : 2 + 0 ≤ _), (by decide : 20 + 0 ≤ _)⟩)
    dsimp only [Pt.U, Pt.locs, Pt.cells, Pt.slots] at X8 l8 y8 z8 st8 hQ8
    subst l8 y8 z8
    obtain ⟨rfl, Nq8, e8⟩ := hQ8
    have N8 := Fr.app N0 Nq8
    have go10 : ∀ t, Steps p.tables e below (T8.setTop (mkF m 178 #[.val (.int xa), .val (.int xb), .val (.ref bo), .val (.ref bk), .val (.int (2 : Int32)), .val (.int (2 : Int32)), .val (.int (0 : Int32)), .val (.int (0 : Int32))] [])) t → Steps p.tables e below st0 t := by
      intro t kt
      refine go0 t ?_
      refine XS.iload X0.here hx rfl (hb hby at_152) rfl ?_
      show Steps p.tables e below (T0.setTop (mkF m 154 #[.val (.int xa), .val (.int xb), .val (.ref bo), .val (.ref bk), .val (.int (2 : Int32)), .val (.int (2 : Int32)), .unset, .unset] [(.int (2 : Int32))])) _
      refine st8 _ ?_
      show Steps p.tables e below (T8.setTop (mkF m 157 #[.val (.int xa), .val (.int xb), .val (.ref bo), .val (.ref bk), .val (.int (2 : Int32)), .val (.int (2 : Int32)), .unset, .unset] [(.int (0 : Int32))])) _
      refine XS.istore X8.here hx rfl (hb hby at_157) rfl (l' := #[.val (.int xa), .val (.int xb), .val (.ref bo), .val (.ref bk), .val (.int (2 : Int32)), .val (.int (2 : Int32)), .val (.int (0 : Int32)), .unset]) rfl ?_
      show Steps p.tables e below (T8.setTop (mkF m 159 #[.val (.int xa), .val (.int xb), .val (.ref bo), .val (.ref bk), .val (.int (2 : Int32)), .val (.int (2 : Int32)), .val (.int (0 : Int32)), .unset] [])) _
      refine XS.iload X8.here hx rfl (hb hby at_159) rfl ?_
      show Steps p.tables e below (T8.setTop (mkF m 161 #[.val (.int xa), .val (.int xb), .val (.ref bo), .val (.ref bk), .val (.int (2 : Int32)), .val (.int (2 : Int32)), .val (.int (0 : Int32)), .unset] [(.int (0 : Int32))])) _
      refine XS.ifNo X8.here hx rfl (hb hby at_161) rfl ((if0 _ _).trans (flt (by decide : ¬ ((0 : Int32) < (0 : Int32)))).1) ?_
      show Steps p.tables e below (T8.setTop (mkF m 164 #[.val (.int xa), .val (.int xb), .val (.ref bo), .val (.ref bk), .val (.int (2 : Int32)), .val (.int (2 : Int32)), .val (.int (0 : Int32)), .unset] [])) _
      refine XS.iload X8.here hx rfl (hb hby at_164) rfl ?_
      show Steps p.tables e below (T8.setTop (mkF m 166 #[.val (.int xa), .val (.int xb), .val (.ref bo), .val (.ref bk), .val (.int (2 : Int32)), .val (.int (2 : Int32)), .val (.int (0 : Int32)), .unset] [(.int (0 : Int32))])) _
      refine XS.iload X8.here hx rfl (hb hby at_166) rfl ?_
      show Steps p.tables e below (T8.setTop (mkF m 168 #[.val (.int xa), .val (.int xb), .val (.ref bo), .val (.ref bk), .val (.int (2 : Int32)), .val (.int (2 : Int32)), .val (.int (0 : Int32)), .unset] [(.int (2 : Int32)), (.int (0 : Int32))])) _
      refine XS.icmpYes X8.here hx rfl (pc0 := 168) (pc' := 175) rfl (hb hby at_168) rfl (feq (by decide : ¬ ((0 : Int32) = (2 : Int32)))).2 (by decide) (by decide) ?_
      show Steps p.tables e below (T8.setTop (mkF m 175 #[.val (.int xa), .val (.int xb), .val (.ref bo), .val (.ref bk), .val (.int (2 : Int32)), .val (.int (2 : Int32)), .val (.int (0 : Int32)), .unset] [])) _
      refine XS.iconst X8.here hx rfl (hb hby at_175) ?_
      show Steps p.tables e below (T8.setTop (mkF m 176 #[.val (.int xa), .val (.int xb), .val (.ref bo), .val (.ref bk), .val (.int (2 : Int32)), .val (.int (2 : Int32)), .val (.int (0 : Int32)), .unset] [(.int (0 : Int32))])) _
      refine XS.istore X8.here hx rfl (hb hby at_176) rfl (l' := #[.val (.int xa), .val (.int xb), .val (.ref bo), .val (.ref bk), .val (.int (2 : Int32)), .val (.int (2 : Int32)), .val (.int (0 : Int32)), .val (.int (0 : Int32))]) rfl ?_
      show Steps p.tables e below (T8.setTop (mkF m 178 #[.val (.int xa), .val (.int xb), .val (.ref bo), .val (.ref bk), .val (.int (2 : Int32)), .val (.int (2 : Int32)), .val (.int (0 : Int32)), .val (.int (0 : Int32))] [])) _
      exact kt
    obtain ⟨s₂, o₂, hs₂, hr₂⟩ := own_tail2 xa xb bo bk (2 : Int32) (2 : Int32) (0 : Int32) ko kk [(.ref c0), (.ref c1), (.ref c2), (.ref c3), (.ref c4), (.ref c5), (.ref c6), (.ref c7), (.ref c8), (.ref c9), (.ref c10), (.ref c11), (.ref c12), (.ref c13), (.ref c14), (.ref c15)] [(.ref d0), (.ref d1), (.ref d2), (.ref d3)] c2 d2 d0 X8 hx hZ hw hby hml hown e8 N8 Z0 hret hlk P0 P1 P2 P3 (by decide) rfl (by decide) rfl P5
    exact ⟨s₂, o₂, go10 _ hs₂, hr₂⟩
  · skip
    obtain ⟨_, _, ⟨T11, L11, k11, n11⟩, -, X11, ⟨Lc11, hQ11, l11, y11, z11⟩, st11⟩ := Jvm.LawKit.callS X0 hx (y := (⟨"com/example/tracewright/tracewright/engine/expr/UnaryOpAcceptsPinLaw", "sourceKindIndex", "(I)I"⟩ : MethodName)) hown (mvT hZ (hw _ (List.mem_of_getElem? (i := 48) rfl))) (mvT hZ (hw _ (List.mem_of_getElem? (i := 49) rfl))) (mvT hZ (hw _ (List.mem_of_getElem? (i := 50) rfl))) (mvT hZ (hw _ (List.mem_of_getElem? (i := 51) rfl))) (by decide) (backOf (W := 0) (own_src2 l Z a0 hw []  h0 n0 Z0 ) hZ (hw _ (List.mem_of_getElem? (i := 51) rfl)) (hw _ (List.mem_of_getElem? (i := 50) rfl)) (by decide) (by decide)) (g := (mkF m 154 #[.val (.int xa), .val (.int xb), .val (.ref bo), .val (.ref bk), .val (.int (2 : Int32)), .val (.int (3 : Int32)), .unset, .unset] [(.int (2 : Int32))])) rfl (by rw [hml]; rfl) (argsL := [(.int (2 : Int32))]) (rest := []) (lenOf pd_6 rfl) rfl (by show 2 * 0 + _ ≤ _; exact Nat.le_of_eq rfl) (hb hby at_154) (fun _ _ => ⟨rfl, e0, (by decide : 2 + 0 ≤ _), (by decide : 20 + 0 ≤ _)⟩)
    dsimp only [Pt.U, Pt.locs, Pt.cells, Pt.slots] at X11 l11 y11 z11 st11 hQ11
    subst l11 y11 z11
    obtain ⟨rfl, Nq11, e11⟩ := hQ11
    have N11 := Fr.app N0 Nq11
    have go13 : ∀ t, Steps p.tables e below (T11.setTop (mkF m 178 #[.val (.int xa), .val (.int xb), .val (.ref bo), .val (.ref bk), .val (.int (2 : Int32)), .val (.int (3 : Int32)), .val (.int (0 : Int32)), .val (.int (0 : Int32))] [])) t → Steps p.tables e below st0 t := by
      intro t kt
      refine go0 t ?_
      refine XS.iload X0.here hx rfl (hb hby at_152) rfl ?_
      show Steps p.tables e below (T0.setTop (mkF m 154 #[.val (.int xa), .val (.int xb), .val (.ref bo), .val (.ref bk), .val (.int (2 : Int32)), .val (.int (3 : Int32)), .unset, .unset] [(.int (2 : Int32))])) _
      refine st11 _ ?_
      show Steps p.tables e below (T11.setTop (mkF m 157 #[.val (.int xa), .val (.int xb), .val (.ref bo), .val (.ref bk), .val (.int (2 : Int32)), .val (.int (3 : Int32)), .unset, .unset] [(.int (0 : Int32))])) _
      refine XS.istore X11.here hx rfl (hb hby at_157) rfl (l' := #[.val (.int xa), .val (.int xb), .val (.ref bo), .val (.ref bk), .val (.int (2 : Int32)), .val (.int (3 : Int32)), .val (.int (0 : Int32)), .unset]) rfl ?_
      show Steps p.tables e below (T11.setTop (mkF m 159 #[.val (.int xa), .val (.int xb), .val (.ref bo), .val (.ref bk), .val (.int (2 : Int32)), .val (.int (3 : Int32)), .val (.int (0 : Int32)), .unset] [])) _
      refine XS.iload X11.here hx rfl (hb hby at_159) rfl ?_
      show Steps p.tables e below (T11.setTop (mkF m 161 #[.val (.int xa), .val (.int xb), .val (.ref bo), .val (.ref bk), .val (.int (2 : Int32)), .val (.int (3 : Int32)), .val (.int (0 : Int32)), .unset] [(.int (0 : Int32))])) _
      refine XS.ifNo X11.here hx rfl (hb hby at_161) rfl ((if0 _ _).trans (flt (by decide : ¬ ((0 : Int32) < (0 : Int32)))).1) ?_
      show Steps p.tables e below (T11.setTop (mkF m 164 #[.val (.int xa), .val (.int xb), .val (.ref bo), .val (.ref bk), .val (.int (2 : Int32)), .val (.int (3 : Int32)), .val (.int (0 : Int32)), .unset] [])) _
      refine XS.iload X11.here hx rfl (hb hby at_164) rfl ?_
      show Steps p.tables e below (T11.setTop (mkF m 166 #[.val (.int xa), .val (.int xb), .val (.ref bo), .val (.ref bk), .val (.int (2 : Int32)), .val (.int (3 : Int32)), .val (.int (0 : Int32)), .unset] [(.int (0 : Int32))])) _
      refine XS.iload X11.here hx rfl (hb hby at_166) rfl ?_
      show Steps p.tables e below (T11.setTop (mkF m 168 #[.val (.int xa), .val (.int xb), .val (.ref bo), .val (.ref bk), .val (.int (2 : Int32)), .val (.int (3 : Int32)), .val (.int (0 : Int32)), .unset] [(.int (3 : Int32)), (.int (0 : Int32))])) _
      refine XS.icmpYes X11.here hx rfl (pc0 := 168) (pc' := 175) rfl (hb hby at_168) rfl (feq (by decide : ¬ ((0 : Int32) = (3 : Int32)))).2 (by decide) (by decide) ?_
      show Steps p.tables e below (T11.setTop (mkF m 175 #[.val (.int xa), .val (.int xb), .val (.ref bo), .val (.ref bk), .val (.int (2 : Int32)), .val (.int (3 : Int32)), .val (.int (0 : Int32)), .unset] [])) _
      refine XS.iconst X11.here hx rfl (hb hby at_175) ?_
      show Steps p.tables e below (T11.setTop (mkF m 176 #[.val (.int xa), .val (.int xb), .val (.ref bo), .val (.ref bk), .val (.int (2 : Int32)), .val (.int (3 : Int32)), .val (.int (0 : Int32)), .unset] [(.int (0 : Int32))])) _
      refine XS.istore X11.here hx rfl (hb hby at_176) rfl (l' := #[.val (.int xa), .val (.int xb), .val (.ref bo), .val (.ref bk), .val (.int (2 : Int32)), .val (.int (3 : Int32)), .val (.int (0 : Int32)), .val (.int (0 : Int32))]) rfl ?_
      show Steps p.tables e below (T11.setTop (mkF m 178 #[.val (.int xa), .val (.int xb), .val (.ref bo), .val (.ref bk), .val (.int (2 : Int32)), .val (.int (3 : Int32)), .val (.int (0 : Int32)), .val (.int (0 : Int32))] [])) _
      exact kt
    obtain ⟨s₂, o₂, hs₂, hr₂⟩ := own_tail2 xa xb bo bk (2 : Int32) (3 : Int32) (0 : Int32) ko kk [(.ref c0), (.ref c1), (.ref c2), (.ref c3), (.ref c4), (.ref c5), (.ref c6), (.ref c7), (.ref c8), (.ref c9), (.ref c10), (.ref c11), (.ref c12), (.ref c13), (.ref c14), (.ref c15)] [(.ref d0), (.ref d1), (.ref d2), (.ref d3)] c2 d3 d0 X11 hx hZ hw hby hml hown e11 N11 Z0 hret hlk P0 P1 P2 P3 (by decide) rfl (by decide) rfl P6
    exact ⟨s₂, o₂, go13 _ hs₂, hr₂⟩
set_option maxRecDepth 65536 in
set_option maxHeartbeats 40000000 in
theorem own_mid3 {p : Program} {l : Launch} {e : Env} {s : State} {m : MethodId} {args : Array Value} {below : List Frame} {meth : Method} {c : Code} {T0 : State} {locs : List Loc} {Z : State} {a0 : Array Value} {h0 : Heap} {n0 : Nat} (xa : Int32) (xb : Int32) (bo : Addr) (bk : Addr) (kx : Int32) (c0 : Addr) (c1 : Addr) (c2 : Addr) (c3 : Addr) (c4 : Addr) (c5 : Addr) (c6 : Addr) (c7 : Addr) (c8 : Addr) (c9 : Addr) (c10 : Addr) (c11 : Addr) (c12 : Addr) (c13 : Addr) (c14 : Addr) (c15 : Addr) (d0 : Addr) (d1 : Addr) (d2 : Addr) (d3 : Addr) (ko : ClassId) (kk : ClassId) (X0 : Stand p l e room_1 s m args below meth c T0 locs 2 20) (hx : p.tables.exec = Jvm.exec) (hZ : Z.Warmed39 s.vm) (hw : ∀ d ∈ tables_1, d.before a0 Z = true) (hby : c.code = code) (hml : c.maxLocals = 8) (hown : s.vm.findClass "com/example/tracewright/tracewright/engine/expr/UnaryOpAcceptsPinLaw" = some m.cls) (e0 : T0.heap = h0) (N0 : Fr n0 locs) (Z0 : n0 ≤ h0.size) (hret : meth.sig.returnType = some .boolean) (hlk : meth.locks = false) (P0 : Arv Z h0 bo ko (.object "com/example/tracewright/tracewright/engine/expr/UnaryOp") (16 : Int32) [(.ref c0), (.ref c1), (.ref c2), (.ref c3), (.ref c4), (.ref c5), (.ref c6), (.ref c7), (.ref c8), (.ref c9), (.ref c10), (.ref c11), (.ref c12), (.ref c13), (.ref c14), (.ref c15)] .null) (P1 : Arv Z h0 bk kk (.object "com/example/tracewright/tracewright/engine/expr/Kind") (4 : Int32) [(.ref d0), (.ref d1), (.ref d2), (.ref d3)] .null) (P2 : Exa Z h0 c3 "com/example/tracewright/tracewright/engine/expr/UnaryOp") (P3 : Fld Z h0 c3 "com/example/tracewright/tracewright/engine/expr/UnaryOp" "from" "Lcom/example/tracewright/tracewright/engine/expr/Kind;" (.ref d0)) (P4 : d0 ≠ d1) (P5 : d0 ≠ d2) (P6 : d0 ≠ d3) (P7 : d1 ≠ d2) (P8 : d1 ≠ d3) (P9 : d2 ≠ d3) (hK : kx = (0 : Int32) ∨ kx = (1 : Int32) ∨ kx = (2 : Int32) ∨ kx = (3 : Int32)) :
    ∃ s₂ o, Steps p.tables e below (T0.setTop (mkF m 152 #[.val (.int xa), .val (.int xb), .val (.ref bo), .val (.ref bk), .val (.int (3 : Int32)), .val (.int kx), .unset, .unset] [])) s₂ ∧ s₂.status = .running ∧ Ended s₂ below o ∧ ∃ v L, o = .returned v ∧ (v = some (.int (1 : Int32)) ∧ Fr n0 L) ∧ FrameEnd s o s₂ L room_1.cells room_1.slots := by
  obtain ⟨st0, hst0⟩ : ∃ zst, zst = T0.setTop (mkF m 152 #[.val (.int xa), .val (.int xb), .val (.ref bo), .val (.ref bk), .val (.int (3 : Int32)), .val (.int kx), .unset, .unset] []) := ⟨_, rfl⟩
  have go0 : ∀ t, Steps p.tables e below (T0.setTop (mkF m 152 #[.val (.int xa), .val (.int xb), .val (.ref bo), .val (.ref bk), .val (.int (3 : Int32)), .val (.int kx), .unset, .unset] [])) t → Steps p.tables e below st0 t := fun t k => by rw [hst0]; exact k
  rw [← hst0]
  rcases hK with rfl | rfl | rfl | rfl
  · skip
    obtain ⟨_, _, ⟨T2, L2, k2, n2⟩, -, X2, ⟨Lc2, hQ2, l2, y2, z2⟩, st2⟩ := Jvm.LawKit.callS X0 hx (y := (⟨"com/example/tracewright/tracewright/engine/expr/UnaryOpAcceptsPinLaw", "sourceKindIndex", "(I)I"⟩ : MethodName)) hown (mvT hZ (hw _ (List.mem_of_getElem? (i := 48) rfl))) (mvT hZ (hw _ (List.mem_of_getElem? (i := 49) rfl))) (mvT hZ (hw _ (List.mem_of_getElem? (i := 50) rfl))) (mvT hZ (hw _ (List.mem_of_getElem? (i := 51) rfl))) (by decide) (backOf (W := 0) (own_src3 l Z a0 hw []  h0 n0 Z0 ) hZ (hw _ (List.mem_of_getElem? (i := 51) rfl)) (hw _ (List.mem_of_getElem? (i := 50) rfl)) (by decide) (by decide)) (g := (mkF m 154 #[.val (.int xa), .val (.int xb), .val (.ref bo), .val (.ref bk), .val (.int (3 : Int32)), .val (.int (0 : Int32)), .unset, .unset] [(.int (3 : Int32))])) rfl (by rw [hml]; rfl) (argsL := [(.int (3 : Int32))]) (rest := []) (lenOf pd_6 rfl) rfl (by show 2 * 0 + _ ≤ _; exact Nat.le_of_eq rfl) (hb hby at_154) (fun _ _ => ⟨rfl, e0, (by decide : 2 + 0 ≤ _), (by decide : 20 + 0 ≤ _)⟩)
    dsimp only [Pt.U, Pt.locs, Pt.cells, Pt.slots] at X2 l2 y2 z2 st2 hQ2
    subst l2 y2 z2
    obtain ⟨rfl, Nq2, e2⟩ := hQ2
    have N2 := Fr.app N0 Nq2
    have go4 : ∀ t, Steps p.tables e below (T2.setTop (mkF m 178 #[.val (.int xa), .val (.int xb), .val (.ref bo), .val (.ref bk), .val (.int (3 : Int32)), .val (.int (0 : Int32)), .val (.int (0 : Int32)), .val (.int (1 : Int32))] [])) t → Steps p.tables e below st0 t := by
      intro t kt
      refine go0 t ?_
      refine XS.iload X0.here hx rfl (hb hby at_152) rfl ?_
      show Steps p.tables e below (T0.setTop (mkF m 154 #[.val (.int xa), .val (.int xb), .val (.ref bo), .val (.ref bk), .val (.int (3 : Int32)), .val (.int (0 : Int32)), .unset, .unset] [(.int (3 : Int32))])) _
      refine st2 _ ?_
      show Steps p.tables e below (T2.setTop (mkF m 157 #[.val (.int xa), .val (.int xb), .val (.ref bo), .val (.ref bk), .val (.int (3 : Int32)), .val (.int (0 : Int32)), .unset, .unset] [(.int (0 : Int32))])) _
      refine XS.istore X2.here hx rfl (hb hby at_157) rfl (l' := #[.val (.int xa), .val (.int xb), .val (.ref bo), .val (.ref bk), .val (.int (3 : Int32)), .val (.int (0 : Int32)), .val (.int (0 : Int32)), .unset]) rfl ?_
      show Steps p.tables e below (T2.setTop (mkF m 159 #[.val (.int xa), .val (.int xb), .val (.ref bo), .val (.ref bk), .val (.int (3 : Int32)), .val (.int (0 : Int32)), .val (.int (0 : Int32)), .unset] [])) _
      refine XS.iload X2.here hx rfl (hb hby at_159) rfl ?_
      show Steps p.tables e below (T2.setTop (mkF m 161 #[.val (.int xa), .val (.int xb), .val (.ref bo), .val (.ref bk), .val (.int (3 : Int32)), .val (.int (0 : Int32)), .val (.int (0 : Int32)), .unset] [(.int (0 : Int32))])) _
      refine XS.ifNo X2.here hx rfl (hb hby at_161) rfl ((if0 _ _).trans (flt (by decide : ¬ ((0 : Int32) < (0 : Int32)))).1) ?_
      show Steps p.tables e below (T2.setTop (mkF m 164 #[.val (.int xa), .val (.int xb), .val (.ref bo), .val (.ref bk), .val (.int (3 : Int32)), .val (.int (0 : Int32)), .val (.int (0 : Int32)), .unset] [])) _
      refine XS.iload X2.here hx rfl (hb hby at_164) rfl ?_
      show Steps p.tables e below (T2.setTop (mkF m 166 #[.val (.int xa), .val (.int xb), .val (.ref bo), .val (.ref bk), .val (.int (3 : Int32)), .val (.int (0 : Int32)), .val (.int (0 : Int32)), .unset] [(.int (0 : Int32))])) _
      refine XS.iload X2.here hx rfl (hb hby at_166) rfl ?_
      show Steps p.tables e below (T2.setTop (mkF m 168 #[.val (.int xa), .val (.int xb), .val (.ref bo), .val (.ref bk), .val (.int (3 : Int32)), .val (.int (0 : Int32)), .val (.int (0 : Int32)), .unset] [(.int (0 : Int32)), (.int (0 : Int32))])) _
      refine XS.icmpNo X2.here hx rfl (hb hby at_168) rfl (teq (by decide : (0 : Int32) = (0 : Int32))).2 ?_
      show Steps p.tables e below (T2.setTop (mkF m 171 #[.val (.int xa), .val (.int xb), .val (.ref bo), .val (.ref bk), .val (.int (3 : Int32)), .val (.int (0 : Int32)), .val (.int (0 : Int32)), .unset] [])) _
      refine XS.iconst X2.here hx rfl (hb hby at_171) ?_
      show Steps p.tables e below (T2.setTop (mkF m 172 #[.val (.int xa), .val (.int xb), .val (.ref bo), .val (.ref bk), .val (.int (3 : Int32)), .val (.int (0 : Int32)), .val (.int (0 : Int32)), .unset] [(.int (1 : Int32))])) _
      refine XS.goto X2.here hx rfl (pc0 := 172) (pc' := 176) rfl (hb hby at_172) (by decide) (by decide) ?_
      show Steps p.tables e below (T2.setTop (mkF m 176 #[.val (.int xa), .val (.int xb), .val (.ref bo), .val (.ref bk), .val (.int (3 : Int32)), .val (.int (0 : Int32)), .val (.int (0 : Int32)), .unset] [(.int (1 : Int32))])) _
      refine XS.istore X2.here hx rfl (hb hby at_176) rfl (l' := #[.val (.int xa), .val (.int xb), .val (.ref bo), .val (.ref bk), .val (.int (3 : Int32)), .val (.int (0 : Int32)), .val (.int (0 : Int32)), .val (.int (1 : Int32))]) rfl ?_
      show Steps p.tables e below (T2.setTop (mkF m 178 #[.val (.int xa), .val (.int xb), .val (.ref bo), .val (.ref bk), .val (.int (3 : Int32)), .val (.int (0 : Int32)), .val (.int (0 : Int32)), .val (.int (1 : Int32))] [])) _
      exact kt
    obtain ⟨s₂, o₂, hs₂, hr₂⟩ := own_tail1 xa xb bo bk (3 : Int32) (0 : Int32) (0 : Int32) ko kk [(.ref c0), (.ref c1), (.ref c2), (.ref c3), (.ref c4), (.ref c5), (.ref c6), (.ref c7), (.ref c8), (.ref c9), (.ref c10), (.ref c11), (.ref c12), (.ref c13), (.ref c14), (.ref c15)] [(.ref d0), (.ref d1), (.ref d2), (.ref d3)] c3 d0 X2 hx hZ hw hby hml hown e2 N2 Z0 hret hlk P0 P1 P2 P3 (by decide) rfl (by decide) rfl
    exact ⟨s₂, o₂, go4 _ hs₂, hr₂⟩
  · skip
    obtain ⟨_, _, ⟨T5, L5, k5, n5⟩, -, X5, ⟨Lc5, hQ5, l5, y5, z5⟩, st5⟩ := Jvm.LawKit.callS X0 hx (y := (⟨"com/example/tracewright/tracewright/engine/expr/UnaryOpAcceptsPinLaw", "sourceKindIndex", "(I)I"⟩ : MethodName)) hown (mvT hZ (hw _ (List.mem_of_getElem? (i := 48) rfl))) (mvT hZ (hw _ (List.mem_of_getElem? (i := 49) rfl))) (mvT hZ (hw _ (List.mem_of_getElem? (i := 50) rfl))) (mvT hZ (hw _ (List.mem_of_getElem? (i := 51) rfl))) (by decide) (backOf (W := 0) (own_src3 l Z a0 hw []  h0 n0 Z0 ) hZ (hw _ (List.mem_of_getElem? (i := 51) rfl)) (hw _ (List.mem_of_getElem? (i := 50) rfl)) (by decide) (by decide)) (g := (mkF m 154 #[.val (.int xa), .val (.int xb), .val (.ref bo), .val (.ref bk), .val (.int (3 : Int32)), .val (.int (1 : Int32)), .unset, .unset] [(.int (3 : Int32))])) rfl (by rw [hml]; rfl) (argsL := [(.int (3 : Int32))]) (rest := []) (lenOf pd_6 rfl) rfl (by show 2 * 0 + _ ≤ _; exact Nat.le_of_eq rfl) (hb hby at_154) (fun _ _ => ⟨rfl, e0, (by decide : 2 + 0 ≤ _), (by decide : 20 + 0 ≤ _)⟩)
    dsimp only [Pt.U, Pt.locs, Pt.cells, Pt.slots] at X5 l5 y5 z5 st5 hQ5
    subst l5 y5 z5
    obtain ⟨rfl, Nq5, e5⟩ := hQ5
    have N5 := Fr.app N0 Nq5
    have go7 : ∀ t, Steps p.tables e below (T5.setTop (mkF m 178 #[.val (.int xa), .val (.int xb), .val (.ref bo), .val (.ref bk), .val (.int (3 : Int32)), .val (.int (1 : Int32)), .val (.int (0 : Int32)), .val (.int (0 : Int32))] [])) t → Steps p.tables e below st0 t := by
      intro t kt
      refine go0 t ?_
      refine XS.iload X0.here hx rfl (hb hby at_152) rfl ?_
      show Steps p.tables e below (T0.setTop (mkF m 154 #[.val (.int xa), .val (.int xb), .val (.ref bo), .val (.ref bk), .val (.int (3 : Int32)), .val (.int (1 : Int32)), .unset, .unset] [(.int (3 : Int32))])) _
      refine st5 _ ?_
      show Steps p.tables e below (T5.setTop (mkF m 157 #[.val (.int xa), .val (.int xb), .val (.ref bo), .val (.ref bk), .val (.int (3 : Int32)), .val (.int (1 : Int32)), .unset, .unset] [(.int (0 : Int32))])) _
      refine XS.istore X5.here hx rfl (hb hby at_157) rfl (l' := #[.val (.int xa), .val (.int xb), .val (.ref bo), .val (.ref bk), .val (.int (3 : Int32)), .val (.int (1 : Int32)), .val (.int (0 : Int32)), .unset]) rfl ?_
      show Steps p.tables e below (T5.setTop (mkF m 159 #[.val (.int xa), .val (.int xb), .val (.ref bo), .val (.ref bk), .val (.int (3 : Int32)), .val (.int (1 : Int32)), .val (.int (0 : Int32)), .unset] [])) _
      refine XS.iload X5.here hx rfl (hb hby at_159) rfl ?_
      show Steps p.tables e below (T5.setTop (mkF m 161 #[.val (.int xa), .val (.int xb), .val (.ref bo), .val (.ref bk), .val (.int (3 : Int32)), .val (.int (1 : Int32)), .val (.int (0 : Int32)), .unset] [(.int (0 : Int32))])) _
      refine XS.ifNo X5.here hx rfl (hb hby at_161) rfl ((if0 _ _).trans (flt (by decide : ¬ ((0 : Int32) < (0 : Int32)))).1) ?_
      show Steps p.tables e below (T5.setTop (mkF m 164 #[.val (.int xa), .val (.int xb), .val (.ref bo), .val (.ref bk), .val (.int (3 : Int32)), .val (.int (1 : Int32)), .val (.int (0 : Int32)), .unset] [])) _
      refine XS.iload X5.here hx rfl (hb hby at_164) rfl ?_
      show Steps p.tables e below (T5.setTop (mkF m 166 #[.val (.int xa), .val (.int xb), .val (.ref bo), .val (.ref bk), .val (.int (3 : Int32)), .val (.int (1 : Int32)), .val (.int (0 : Int32)), .unset] [(.int (0 : Int32))])) _
      refine XS.iload X5.here hx rfl (hb hby at_166) rfl ?_
      show Steps p.tables e below (T5.setTop (mkF m 168 #[.val (.int xa), .val (.int xb), .val (.ref bo), .val (.ref bk), .val (.int (3 : Int32)), .val (.int (1 : Int32)), .val (.int (0 : Int32)), .unset] [(.int (1 : Int32)), (.int (0 : Int32))])) _
      refine XS.icmpYes X5.here hx rfl (pc0 := 168) (pc' := 175) rfl (hb hby at_168) rfl (feq (by decide : ¬ ((0 : Int32) = (1 : Int32)))).2 (by decide) (by decide) ?_
      show Steps p.tables e below (T5.setTop (mkF m 175 #[.val (.int xa), .val (.int xb), .val (.ref bo), .val (.ref bk), .val (.int (3 : Int32)), .val (.int (1 : Int32)), .val (.int (0 : Int32)), .unset] [])) _
      refine XS.iconst X5.here hx rfl (hb hby at_175) ?_
      show Steps p.tables e below (T5.setTop (mkF m 176 #[.val (.int xa), .val (.int xb), .val (.ref bo), .val (.ref bk), .val (.int (3 : Int32)), .val (.int (1 : Int32)), .val (.int (0 : Int32)), .unset] [(.int (0 : Int32))])) _
      refine XS.istore X5.here hx rfl (hb hby at_176) rfl (l' := #[.val (.int xa), .val (.int xb), .val (.ref bo), .val (.ref bk), .val (.int (3 : Int32)), .val (.int (1 : Int32)), .val (.int (0 : Int32)), .val (.int (0 : Int32))]) rfl ?_
      show Steps p.tables e below (T5.setTop (mkF m 178 #[.val (.int xa), .val (.int xb), .val (.ref bo), .val (.ref bk), .val (.int (3 : Int32)), .val (.int (1 : Int32)), .val (.int (0 : Int32)), .val (.int (0 : Int32))] [])) _
      exact kt
    obtain ⟨s₂, o₂, hs₂, hr₂⟩ := own_tail2 xa xb bo bk (3 : Int32) (1 : Int32) (0 : Int32) ko kk [(.ref c0), (.ref c1), (.ref c2), (.ref c3), (.ref c4), (.ref c5), (.ref c6), (.ref c7), (.ref c8), (.ref c9), (.ref c10), (.ref c11), (.ref c12), (.ref c13), (.ref c14), (.ref c15)] [(.ref d0), (.ref d1), (.ref d2), (.ref d3)] c3 d1 d0 X5 hx hZ hw hby hml hown e5 N5 Z0 hret hlk P0 P1 P2 P3 (by decide) rfl (by decide) rfl P4
    exact ⟨s₂, o₂, go7 _ hs₂, hr₂⟩
  · skip
    obtain ⟨_, _, ⟨T8, L8, k8, n8⟩, -, X8, ⟨Lc8, hQ8, l8, y8, z8⟩, st8⟩ := Jvm.LawKit.callS X0 hx (y := (⟨"com/example/tracewright/tracewright/engine/expr/UnaryOpAcceptsPinLaw", "sourceKindIndex", "(I)I"⟩ : MethodName)) hown (mvT hZ (hw _ (List.mem_of_getElem? (i := 48) rfl))) (mvT hZ (hw _ (List.mem_of_getElem? (i := 49) rfl))) (mvT hZ (hw _ (List.mem_of_getElem? (i := 50) rfl))) (mvT hZ (hw _ (List.mem_of_getElem? (i := 51) rfl))) (by decide) (backOf (W := 0) (own_src3 l Z a0 hw []  h0 n0 Z0 ) hZ (hw _ (List.mem_of_getElem? (i := 51) rfl)) (hw _ (List.mem_of_getElem? (i := 50) rfl)) (by decide) (by decide)) (g := (mkF m 154 #[.val (.int xa), .val (.int xb), .val (.ref bo), .val (.ref bk), .val (.int (3 : Int32)), .val (.int (2 : Int32)), .unset, .unset] [(.int (3 : Int32))])) rfl (by rw [hml]; rfl) (argsL := [(.int (3 : Int32))]) (rest := []) (lenOf pd_6 rfl) rfl (by show 2 * 0 + _ ≤ _; exact Nat.le_of_eq rfl) (hb hby at_154) (fun _ _ => ⟨rfl, e0, (by decide : 2 + 0 ≤ _), (by decide : 20 + 0 ≤ _)⟩)
    dsimp only [Pt.U, Pt.locs, Pt.cells, Pt.slots] at X8 l8 y8 z8 st8 hQ8
    subst l8 y8 z8
    obtain ⟨rfl, Nq8, e8⟩ := hQ8
    have N8 := Fr.app N0 Nq8
    have go10 : ∀ t, Steps p.tables e below (T8.setTop (mkF m 178 #[.val (.int xa), .val (.int xb), .val (.ref bo), .val (.ref bk), .val (.int (3 : Int32)), .val (.int (2 : Int32)), .val (.int (0 : Int32)), .val (.int (0 : Int32))] [])) t → Steps p.tables e below st0 t := by
      intro t kt
      refine go0 t ?_
      refine XS.iload X0.here hx rfl (hb hby at_152) rfl ?_
      show Steps p.tables e below (T0.setTop (mkF m 154 #[.val (.int xa), .val (.int xb), .val (.ref bo), .val (.ref bk), .val (.int (3 : Int32)), .val (.int (2 : Int32)), .unset, .unset] [(.int (3 : Int32))])) _
      refine st8 _ ?_
      show Steps p.tables e below (T8.setTop (mkF m 157 #[.val (.int xa), .val (.int xb), .val (.ref bo), .val (.ref bk), .val (.int (3 : Int32)), .val (.int (2 : Int32)), .unset, .unset] [(.int (0 : Int32))])) _
      refine XS.istore X8.here hx rfl (hb hby at_157) rfl (l' := #[.val (.int xa), .val (.int xb), .val (.ref bo), .val (.ref bk), .val (.int (3 : Int32)), .val (.int (2 : Int32)), .val (.int (0 : Int32)), .unset]) rfl ?_
      show Steps p.tables e below (T8.setTop (mkF m 159 #[.val (.int xa), .val (.int xb), .val (.ref bo), .val (.ref bk), .val (.int (3 : Int32)), .val (.int (2 : Int32)), .val (.int (0 : Int32)), .unset] [])) _
      refine XS.iload X8.here hx rfl (hb hby at_159) rfl ?_
      show Steps p.tables e below (T8.setTop (mkF m 161 #[.val (.int xa), .val (.int xb), .val (.ref bo), .val (.ref bk), .val (.int (3 : Int32)), .val (.int (2 : Int32)), .val (.int (0 : Int32)), .unset] [(.int (0 : Int32))])) _
      refine XS.ifNo X8.here hx rfl (hb hby at_161) rfl ((if0 _ _).trans (flt (by decide : ¬ ((0 : Int32) < (0 : Int32)))).1) ?_
      show Steps p.tables e below (T8.setTop (mkF m 164 #[.val (.int xa), .val (.int xb), .val (.ref bo), .val (.ref bk), .val (.int (3 : Int32)), .val (.int (2 : Int32)), .val (.int (0 : Int32)), .unset] [])) _
      refine XS.iload X8.here hx rfl (hb hby at_164) rfl ?_
      show Steps p.tables e below (T8.setTop (mkF m 166 #[.val (.int xa), .val (.int xb), .val (.ref bo), .val (.ref bk), .val (.int (3 : Int32)), .val (.int (2 : Int32)), .val (.int (0 : Int32)), .unset] [(.int (0 : Int32))])) _
      refine XS.iload X8.here hx rfl (hb hby at_166) rfl ?_
      show Steps p.tables e below (T8.setTop (mkF m 168 #[.val (.int xa), .val (.int xb), .val (.ref bo), .val (.ref bk), .val (.int (3 : Int32)), .val (.int (2 : Int32)), .val (.int (0 : Int32)), .unset] [(.int (2 : Int32)), (.int (0 : Int32))])) _
      refine XS.icmpYes X8.here hx rfl (pc0 := 168) (pc' := 175) rfl (hb hby at_168) rfl (feq (by decide : ¬ ((0 : Int32) = (2 : Int32)))).2 (by decide) (by decide) ?_
      show Steps p.tables e below (T8.setTop (mkF m 175 #[.val (.int xa), .val (.int xb), .val (.ref bo), .val (.ref bk), .val (.int (3 : Int32)), .val (.int (2 : Int32)), .val (.int (0 : Int32)), .unset] [])) _
      refine XS.iconst X8.here hx rfl (hb hby at_175) ?_
      show Steps p.tables e below (T8.setTop (mkF m 176 #[.val (.int xa), .val (.int xb), .val (.ref bo), .val (.ref bk), .val (.int (3 : Int32)), .val (.int (2 : Int32)), .val (.int (0 : Int32)), .unset] [(.int (0 : Int32))])) _
      refine XS.istore X8.here hx rfl (hb hby at_176) rfl (l' := #[.val (.int xa), .val (.int xb), .val (.ref bo), .val (.ref bk), .val (.int (3 : Int32)), .val (.int (2 : Int32)), .val (.int (0 : Int32)), .val (.int (0 : Int32))]) rfl ?_
      show Steps p.tables e below (T8.setTop (mkF m 178 #[.val (.int xa), .val (.int xb), .val (.ref bo), .val (.ref bk), .val (.int (3 : Int32)), .val (.int (2 : Int32)), .val (.int (0 : Int32)), .val (.int (0 : Int32))] [])) _
      exact kt
    obtain ⟨s₂, o₂, hs₂, hr₂⟩ := own_tail2 xa xb bo bk (3 : Int32) (2 : Int32) (0 : Int32) ko kk [(.ref c0), (.ref c1), (.ref c2), (.ref c3), (.ref c4), (.ref c5), (.ref c6), (.ref c7), (.ref c8), (.ref c9), (.ref c10), (.ref c11), (.ref c12), (.ref c13), (.ref c14), (.ref c15)] [(.ref d0), (.ref d1), (.ref d2), (.ref d3)] c3 d2 d0 X8 hx hZ hw hby hml hown e8 N8 Z0 hret hlk P0 P1 P2 P3 (by decide) rfl (by decide) rfl P5
    exact ⟨s₂, o₂, go10 _ hs₂, hr₂⟩
  · skip
    obtain ⟨_, _, ⟨T11, L11, k11, n11⟩, -, X11, ⟨Lc11, hQ11, l11, y11, z11⟩, st11⟩ := Jvm.LawKit.callS X0 hx (y := (⟨"com/example/tracewright/tracewright/engine/expr/UnaryOpAcceptsPinLaw", "sourceKindIndex", "(I)I"⟩ : MethodName)) hown (mvT hZ (hw _ (List.mem_of_getElem? (i := 48) rfl))) (mvT hZ (hw _ (List.mem_of_getElem? (i := 49) rfl))) (mvT hZ (hw _ (List.mem_of_getElem? (i := 50) rfl))) (mvT hZ (hw _ (List.mem_of_getElem? (i := 51) rfl))) (by decide) (backOf (W := 0) (own_src3 l Z a0 hw []  h0 n0 Z0 ) hZ (hw _ (List.mem_of_getElem? (i := 51) rfl)) (hw _ (List.mem_of_getElem? (i := 50) rfl)) (by decide) (by decide)) (g := (mkF m 154 #[.val (.int xa), .val (.int xb), .val (.ref bo), .val (.ref bk), .val (.int (3 : Int32)), .val (.int (3 : Int32)), .unset, .unset] [(.int (3 : Int32))])) rfl (by rw [hml]; rfl) (argsL := [(.int (3 : Int32))]) (rest := []) (lenOf pd_6 rfl) rfl (by show 2 * 0 + _ ≤ _; exact Nat.le_of_eq rfl) (hb hby at_154) (fun _ _ => ⟨rfl, e0, (by decide : 2 + 0 ≤ _), (by decide : 20 + 0 ≤ _)⟩)
    dsimp only [Pt.U, Pt.locs, Pt.cells, Pt.slots] at X11 l11 y11 z11 st11 hQ11
    subst l11 y11 z11
    obtain ⟨rfl, Nq11, e11⟩ := hQ11
    have N11 := Fr.app N0 Nq11
    have go13 : ∀ t, Steps p.tables e below (T11.setTop (mkF m 178 #[.val (.int xa), .val (.int xb), .val (.ref bo), .val (.ref bk), .val (.int (3 : Int32)), .val (.int (3 : Int32)), .val (.int (0 : Int32)), .val (.int (0 : Int32))] [])) t → Steps p.tables e below st0 t := by
      intro t kt
      refine go0 t ?_
      refine XS.iload X0.here hx rfl (hb hby at_152) rfl ?_
      show Steps p.tables e below (T0.setTop (mkF m 154 #[.val (.int xa), .val (.int xb), .val (.ref bo), .val (.ref bk), .val (.int (3 : Int32)), .val (.int (3 : Int32)), .unset, .unset] [(.int (3 : Int32))])) _
      refine st11 _ ?_
      show Steps p.tables e below (T11.setTop (mkF m 157 #[.val (.int xa), .val (.int xb), .val (.ref bo), .val (.ref bk), .val (.int (3 : Int32)), .val (.int (3 : Int32)), .unset, .unset] [(.int (0 : Int32))])) _
      refine XS.istore X11.here hx rfl (hb hby at_157) rfl (l' := #[.val (.int xa), .val (.int xb), .val (.ref bo), .val (.ref bk), .val (.int (3 : Int32)), .val (.int (3 : Int32)), .val (.int (0 : Int32)), .unset]) rfl ?_
      show Steps p.tables e below (T11.setTop (mkF m 159 #[.val (.int xa), .val (.int xb), .val (.ref bo), .val (.ref bk), .val (.int (3 : Int32)), .val (.int (3 : Int32)), .val (.int (0 : Int32)), .unset] [])) _
      refine XS.iload X11.here hx rfl (hb hby at_159) rfl ?_
      show Steps p.tables e below (T11.setTop (mkF m 161 #[.val (.int xa), .val (.int xb), .val (.ref bo), .val (.ref bk), .val (.int (3 : Int32)), .val (.int (3 : Int32)), .val (.int (0 : Int32)), .unset] [(.int (0 : Int32))])) _
      refine XS.ifNo X11.here hx rfl (hb hby at_161) rfl ((if0 _ _).trans (flt (by decide : ¬ ((0 : Int32) < (0 : Int32)))).1) ?_
      show Steps p.tables e below (T11.setTop (mkF m 164 #[.val (.int xa), .val (.int xb), .val (.ref bo), .val (.ref bk), .val (.int (3 : Int32)), .val (.int (3 : Int32)), .val (.int (0 : Int32)), .unset] [])) _
      refine XS.iload X11.here hx rfl (hb hby at_164) rfl ?_
      show Steps p.tables e below (T11.setTop (mkF m 166 #[.val (.int xa), .val (.int xb), .val (.ref bo), .val (.ref bk), .val (.int (3 : Int32)), .val (.int (3 : Int32)), .val (.int (0 : Int32)), .unset] [(.int (0 : Int32))])) _
      refine XS.iload X11.here hx rfl (hb hby at_166) rfl ?_
      show Steps p.tables e below (T11.setTop (mkF m 168 #[.val (.int xa), .val (.int xb), .val (.ref bo), .val (.ref bk), .val (.int (3 : Int32)), .val (.int (3 : Int32)), .val (.int (0 : Int32)), .unset] [(.int (3 : Int32)), (.int (0 : Int32))])) _
      refine XS.icmpYes X11.here hx rfl (pc0 := 168) (pc' := 175) rfl (hb hby at_168) rfl (feq (by decide : ¬ ((0 : Int32) = (3 : Int32)))).2 (by decide) (by decide) ?_
      show Steps p.tables e below (T11.setTop (mkF m 175 #[.val (.int xa), .val (.int xb), .val (.ref bo), .val (.ref bk), .val (.int (3 : Int32)), .val (.int (3 : Int32)), .val (.int (0 : Int32)), .unset] [])) _
      refine XS.iconst X11.here hx rfl (hb hby at_175) ?_
      show Steps p.tables e below (T11.setTop (mkF m 176 #[.val (.int xa), .val (.int xb), .val (.ref bo), .val (.ref bk), .val (.int (3 : Int32)), .val (.int (3 : Int32)), .val (.int (0 : Int32)), .unset] [(.int (0 : Int32))])) _
      refine XS.istore X11.here hx rfl (hb hby at_176) rfl (l' := #[.val (.int xa), .val (.int xb), .val (.ref bo), .val (.ref bk), .val (.int (3 : Int32)), .val (.int (3 : Int32)), .val (.int (0 : Int32)), .val (.int (0 : Int32))]) rfl ?_
      show Steps p.tables e below (T11.setTop (mkF m 178 #[.val (.int xa), .val (.int xb), .val (.ref bo), .val (.ref bk), .val (.int (3 : Int32)), .val (.int (3 : Int32)), .val (.int (0 : Int32)), .val (.int (0 : Int32))] [])) _
      exact kt
    obtain ⟨s₂, o₂, hs₂, hr₂⟩ := own_tail2 xa xb bo bk (3 : Int32) (3 : Int32) (0 : Int32) ko kk [(.ref c0), (.ref c1), (.ref c2), (.ref c3), (.ref c4), (.ref c5), (.ref c6), (.ref c7), (.ref c8), (.ref c9), (.ref c10), (.ref c11), (.ref c12), (.ref c13), (.ref c14), (.ref c15)] [(.ref d0), (.ref d1), (.ref d2), (.ref d3)] c3 d3 d0 X11 hx hZ hw hby hml hown e11 N11 Z0 hret hlk P0 P1 P2 P3 (by decide) rfl (by decide) rfl P6
    exact ⟨s₂, o₂, go13 _ hs₂, hr₂⟩
set_option maxRecDepth 65536 in
set_option maxHeartbeats 40000000 in
theorem own_mid4 {p : Program} {l : Launch} {e : Env} {s : State} {m : MethodId} {args : Array Value} {below : List Frame} {meth : Method} {c : Code} {T0 : State} {locs : List Loc} {Z : State} {a0 : Array Value} {h0 : Heap} {n0 : Nat} (xa : Int32) (xb : Int32) (bo : Addr) (bk : Addr) (kx : Int32) (c0 : Addr) (c1 : Addr) (c2 : Addr) (c3 : Addr) (c4 : Addr) (c5 : Addr) (c6 : Addr) (c7 : Addr) (c8 : Addr) (c9 : Addr) (c10 : Addr) (c11 : Addr) (c12 : Addr) (c13 : Addr) (c14 : Addr) (c15 : Addr) (d0 : Addr) (d1 : Addr) (d2 : Addr) (d3 : Addr) (ko : ClassId) (kk : ClassId) (X0 : Stand p l e room_1 s m args below meth c T0 locs 2 20) (hx : p.tables.exec = Jvm.exec) (hZ : Z.Warmed39 s.vm) (hw : ∀ d ∈ tables_1, d.before a0 Z = true) (hby : c.code = code) (hml : c.maxLocals = 8) (hown : s.vm.findClass "com/example/tracewright/tracewright/engine/expr/UnaryOpAcceptsPinLaw" = some m.cls) (e0 : T0.heap = h0) (N0 : Fr n0 locs) (Z0 : n0 ≤ h0.size) (hret : meth.sig.returnType = some .boolean) (hlk : meth.locks = false) (P0 : Arv Z h0 bo ko (.object "com/example/tracewright/tracewright/engine/expr/UnaryOp") (16 : Int32) [(.ref c0), (.ref c1), (.ref c2), (.ref c3), (.ref c4), (.ref c5), (.ref c6), (.ref c7), (.ref c8), (.ref c9), (.ref c10), (.ref c11), (.ref c12), (.ref c13), (.ref c14), (.ref c15)] .null) (P1 : Arv Z h0 bk kk (.object "com/example/tracewright/tracewright/engine/expr/Kind") (4 : Int32) [(.ref d0), (.ref d1), (.ref d2), (.ref d3)] .null) (P2 : Exa Z h0 c4 "com/example/tracewright/tracewright/engine/expr/UnaryOp") (P3 : Fld Z h0 c4 "com/example/tracewright/tracewright/engine/expr/UnaryOp" "from" "Lcom/example/tracewright/tracewright/engine/expr/Kind;" (.ref d1)) (P4 : d0 ≠ d1) (P5 : d0 ≠ d2) (P6 : d0 ≠ d3) (P7 : d1 ≠ d2) (P8 : d1 ≠ d3) (P9 : d2 ≠ d3) (hK : kx = (0 : Int32) ∨ kx = (1 : Int32) ∨ kx = (2 : Int32) ∨ kx = (3 : Int32)) :
    ∃ s₂ o, Steps p.tables e below (T0.setTop (mkF m 152 #[.val (.int xa), .val (.int xb), .val (.ref bo), .val (.ref bk), .val (.int (4 : Int32)), .val (.int kx), .unset, .unset] [])) s₂ ∧ s₂.status = .running ∧ Ended s₂ below o ∧ ∃ v L, o = .returned v ∧ (v = some (.int (1 : Int32)) ∧ Fr n0 L) ∧ FrameEnd s o s₂ L room_1.cells room_1.slots := by
  obtain ⟨st0, hst0⟩ : ∃ zst, zst = T0.setTop (mkF m 152 #[.val (.int xa), .val (.int xb), .val (.ref bo), .val (.ref bk), .val (.int (4 : Int32)), .val (.int kx), .unset, .unset] []) := ⟨_, rfl⟩
  have go0 : ∀ t, Steps p.tables e below (T0.setTop (mkF m 152 #[.val (.int xa), .val (.int xb), .val (.ref bo), .val (.ref bk), .val (.int (4 : Int32)), .val (.int kx), .unset, .unset] [])) t → Steps p.tables e below st0 t := fun t k => by rw [hst0]; exact k
  rw [← hst0]
  rcases hK with rfl | rfl | rfl | rfl
  · skip
    obtain ⟨_, _, ⟨T2, L2, k2, n2⟩, -, X2, ⟨Lc2, hQ2, l2, y2, z2⟩, st2⟩ := Jvm.LawKit.callS X0 hx (y := (⟨"com/example/tracewright/tracewright/engine/expr/UnaryOpAcceptsPinLaw", "sourceKindIndex", "(I)I"⟩ : MethodName)) hown (mvT hZ (hw _ (List.mem_of_getElem? (i := 48) rfl))) (mvT hZ (hw _ (List.mem_of_getElem? (i := 49) rfl))) (mvT hZ (hw _ (List.mem_of_getElem? (i := 50) rfl))) (mvT hZ (hw _ (List.mem_of_getElem? (i := 51) rfl))) (by decide) (backOf (W := 0) (own_src4 l Z a0 hw []  h0 n0 Z0 ) hZ (hw _ (List.mem_of_getElem? (i := 51) rfl)) (hw _ (List.mem_of_getElem? (i := 50) rfl)) (by decide) (by decide)) (g := (mkF m 154 #[.val (.int xa), .val (.int xb), .val (.ref bo), .val (.ref bk), .val (.int (4 : Int32)), .val (.int (0 : Int32)), .unset, .unset] [(.int (4 : Int32))])) rfl (by rw [hml]; rfl) (argsL := [(.int (4 : Int32))]) (rest := []) (lenOf pd_6 rfl) rfl (by show 2 * 0 + _ ≤ _; exact Nat.le_of_eq rfl) (hb hby at_154) (fun _ _ => ⟨rfl, e0, (by decide : 2 + 0 ≤ _), (by decide : 20 + 0 ≤ _)⟩)
    dsimp only [Pt.U, Pt.locs, Pt.cells, Pt.slots] at X2 l2 y2 z2 st2 hQ2
    subst l2 y2 z2
    obtain ⟨rfl, Nq2, e2⟩ := hQ2
    have N2 := Fr.app N0 Nq2
    have go4 : ∀ t, Steps p.tables e below (T2.setTop (mkF m 178 #[.val (.int xa), .val (.int xb), .val (.ref bo), .val (.ref bk), .val (.int (4 : Int32)), .val (.int (0 : Int32)), .val (.int (1 : Int32)), .val (.int (0 : Int32))] [])) t → Steps p.tables e below st0 t := by
      intro t kt
      refine go0 t ?_
      refine XS.iload X0.here hx rfl (hb hby at_152) rfl ?_
      show Steps p.tables e below (T0.setTop (mkF m 154 #[.val (.int xa), .val (.int xb), .val (.ref bo), .val (.ref bk), .val (.int (4 : Int32)), .val (.int (0 : Int32)), .unset, .unset] [(.int (4 : Int32))])) _
      refine st2 _ ?_
      show Steps p.tables e below (T2.setTop (mkF m 157 #[.val (.int xa), .val (.int xb), .val (.ref bo), .val (.ref bk), .val (.int (4 : Int32)), .val (.int (0 : Int32)), .unset, .unset] [(.int (1 : Int32))])) _
      refine XS.istore X2.here hx rfl (hb hby at_157) rfl (l' := #[.val (.int xa), .val (.int xb), .val (.ref bo), .val (.ref bk), .val (.int (4 : Int32)), .val (.int (0 : Int32)), .val (.int (1 : Int32)), .unset]) rfl ?_
      show Steps p.tables e below (T2.setTop (mkF m 159 #[.val (.int xa), .val (.int xb), .val (.ref bo), .val (.ref bk), .val (.int (4 : Int32)), .val (.int (0 : Int32)), .val (.int (1 : Int32)), .unset] [])) _
      refine XS.iload X2.here hx rfl (hb hby at_159) rfl ?_
      show Steps p.tables e below (T2.setTop (mkF m 161 #[.val (.int xa), .val (.int xb), .val (.ref bo), .val (.ref bk), .val (.int (4 : Int32)), .val (.int (0 : Int32)), .val (.int (1 : Int32)), .unset] [(.int (1 : Int32))])) _
      refine XS.ifNo X2.here hx rfl (hb hby at_161) rfl ((if0 _ _).trans (flt (by decide : ¬ ((1 : Int32) < (0 : Int32)))).1) ?_
      show Steps p.tables e below (T2.setTop (mkF m 164 #[.val (.int xa), .val (.int xb), .val (.ref bo), .val (.ref bk), .val (.int (4 : Int32)), .val (.int (0 : Int32)), .val (.int (1 : Int32)), .unset] [])) _
      refine XS.iload X2.here hx rfl (hb hby at_164) rfl ?_
      show Steps p.tables e below (T2.setTop (mkF m 166 #[.val (.int xa), .val (.int xb), .val (.ref bo), .val (.ref bk), .val (.int (4 : Int32)), .val (.int (0 : Int32)), .val (.int (1 : Int32)), .unset] [(.int (1 : Int32))])) _
      refine XS.iload X2.here hx rfl (hb hby at_166) rfl ?_
      show Steps p.tables e below (T2.setTop (mkF m 168 #[.val (.int xa), .val (.int xb), .val (.ref bo), .val (.ref bk), .val (.int (4 : Int32)), .val (.int (0 : Int32)), .val (.int (1 : Int32)), .unset] [(.int (0 : Int32)), (.int (1 : Int32))])) _
      refine XS.icmpYes X2.here hx rfl (pc0 := 168) (pc' := 175) rfl (hb hby at_168) rfl (feq (by decide : ¬ ((1 : Int32) = (0 : Int32)))).2 (by decide) (by decide) ?_
      show Steps p.tables e below (T2.setTop (mkF m 175 #[.val (.int xa), .val (.int xb), .val (.ref bo), .val (.ref bk), .val (.int (4 : Int32)), .val (.int (0 : Int32)), .val (.int (1 : Int32)), .unset] [])) _
      refine XS.iconst X2.here hx rfl (hb hby at_175) ?_
      show Steps p.tables e below (T2.setTop (mkF m 176 #[.val (.int xa), .val (.int xb), .val (.ref bo), .val (.ref bk), .val (.int (4 : Int32)), .val (.int (0 : Int32)), .val (.int (1 : Int32)), .unset] [(.int (0 : Int32))])) _
      refine XS.istore X2.here hx rfl (hb hby at_176) rfl (l' := #[.val (.int xa), .val (.int xb), .val (.ref bo), .val (.ref bk), .val (.int (4 : Int32)), .val (.int (0 : Int32)), .val (.int (1 : Int32)), .val (.int (0 : Int32))]) rfl ?_
      show Steps p.tables e below (T2.setTop (mkF m 178 #[.val (.int xa), .val (.int xb), .val (.ref bo), .val (.ref bk), .val (.int (4 : Int32)), .val (.int (0 : Int32)), .val (.int (1 : Int32)), .val (.int (0 : Int32))] [])) _
      exact kt
    obtain ⟨s₂, o₂, hs₂, hr₂⟩ := own_tail2 xa xb bo bk (4 : Int32) (0 : Int32) (1 : Int32) ko kk [(.ref c0), (.ref c1), (.ref c2), (.ref c3), (.ref c4), (.ref c5), (.ref c6), (.ref c7), (.ref c8), (.ref c9), (.ref c10), (.ref c11), (.ref c12), (.ref c13), (.ref c14), (.ref c15)] [(.ref d0), (.ref d1), (.ref d2), (.ref d3)] c4 d0 d1 X2 hx hZ hw hby hml hown e2 N2 Z0 hret hlk P0 P1 P2 P3 (by decide) rfl (by decide) rfl (Ne.symm P4)
    exact ⟨s₂, o₂, go4 _ hs₂, hr₂⟩
  · skip
    obtain ⟨_, _, ⟨T5, L5, k5, n5⟩, -, X5, ⟨Lc5, hQ5, l5, y5, z5⟩, st5⟩ := Jvm.LawKit.callS X0 hx (y := (⟨"com/example/tracewright/tracewright/engine/expr/UnaryOpAcceptsPinLaw", "sourceKindIndex", "(I)I"⟩ : MethodName)) hown (mvT hZ (hw _ (List.mem_of_getElem? (i := 48) rfl))) (mvT hZ (hw _ (List.mem_of_getElem? (i := 49) rfl))) (mvT hZ (hw _ (List.mem_of_getElem? (i := 50) rfl))) (mvT hZ (hw _ (List.mem_of_getElem? (i := 51) rfl))) (by decide) (backOf (W := 0) (own_src4 l Z a0 hw []  h0 n0 Z0 ) hZ (hw _ (List.mem_of_getElem? (i := 51) rfl)) (hw _ (List.mem_of_getElem? (i := 50) rfl)) (by decide) (by decide)) (g := (mkF m 154 #[.val (.int xa), .val (.int xb), .val (.ref bo), .val (.ref bk), .val (.int (4 : Int32)), .val (.int (1 : Int32)), .unset, .unset] [(.int (4 : Int32))])) rfl (by rw [hml]; rfl) (argsL := [(.int (4 : Int32))]) (rest := []) (lenOf pd_6 rfl) rfl (by show 2 * 0 + _ ≤ _; exact Nat.le_of_eq rfl) (hb hby at_154) (fun _ _ => ⟨rfl, e0, (by decide : 2 + 0 ≤ _), (by decide : 20 + 0 ≤ _)⟩)
    dsimp only [Pt.U, Pt.locs, Pt.cells, Pt.slots] at X5 l5 y5 z5 st5 hQ5
    subst l5 y5 z5
    obtain ⟨rfl, Nq5, e5⟩ := hQ5
    have N5 := Fr.app N0 Nq5
    have go7 : ∀ t, Steps p.tables e below (T5.setTop (mkF m 178 #[.val (.int xa), .val (.int xb), .val (.ref bo), .val (.ref bk), .val (.int (4 : Int32)), .val (.int (1 : Int32)), .val (.int (1 : Int32)), .val (.int (1 : Int32))] [])) t → Steps p.tables e below st0 t := by
      intro t kt
      refine go0 t ?_
      refine XS.iload X0.here hx rfl (hb hby at_152) rfl ?_
      show Steps p.tables e below (T0.setTop (mkF m 154 #[.val (.int xa), .val (.int xb), .val (.ref bo), .val (.ref bk), .val (.int (4 : Int32)), .val (.int (1 : Int32)), .unset, .unset] [(.int (4 : Int32))])) _
      refine st5 _ ?_
      show Steps p.tables e below (T5.setTop (mkF m 157 #[.val (.int xa), .val (.int xb), .val (.ref bo), .val (.ref bk), .val (.int (4 : Int32)), .val (.int (1 : Int32)), .unset, .unset] [(.int (1 : Int32))])) _
      refine XS.istore X5.here hx rfl (hb hby at_157) rfl (l' := #[.val (.int xa), .val (.int xb), .val (.ref bo), .val (.ref bk), .val (.int (4 : Int32)), .val (.int (1 : Int32)), .val (.int (1 : Int32)), .unset]) rfl ?_
      show Steps p.tables e below (T5.setTop (mkF m 159 #[.val (.int xa), .val (.int xb), .val (.ref bo), .val (.ref bk), .val (.int (4 : Int32)), .val (.int (1 : Int32)), .val (.int (1 : Int32)), .unset] [])) _
      refine XS.iload X5.here hx rfl (hb hby at_159) rfl ?_
      show Steps p.tables e below (T5.setTop (mkF m 161 #[.val (.int xa), .val (.int xb), .val (.ref bo), .val (.ref bk), .val (.int (4 : Int32)), .val (.int (1 : Int32)), .val (.int (1 : Int32)), .unset] [(.int (1 : Int32))])) _
      refine XS.ifNo X5.here hx rfl (hb hby at_161) rfl ((if0 _ _).trans (flt (by decide : ¬ ((1 : Int32) < (0 : Int32)))).1) ?_
      show Steps p.tables e below (T5.setTop (mkF m 164 #[.val (.int xa), .val (.int xb), .val (.ref bo), .val (.ref bk), .val (.int (4 : Int32)), .val (.int (1 : Int32)), .val (.int (1 : Int32)), .unset] [])) _
      refine XS.iload X5.here hx rfl (hb hby at_164) rfl ?_
      show Steps p.tables e below (T5.setTop (mkF m 166 #[.val (.int xa), .val (.int xb), .val (.ref bo), .val (.ref bk), .val (.int (4 : Int32)), .val (.int (1 : Int32)), .val (.int (1 : Int32)), .unset] [(.int (1 : Int32))])) _
      refine XS.iload X5.here hx rfl (hb hby at_166) rfl ?_
      show Steps p.tables e below (T5.setTop (mkF m 168 #[.val (.int xa), .val (.int xb), .val (.ref bo), .val (.ref bk), .val (.int (4 : Int32)), .val (.int (1 : Int32)), .val (.int (1 : Int32)), .unset] [(.int (1 : Int32)), (.int (1 : Int32))])) _
      refine XS.icmpNo X5.here hx rfl (hb hby at_168) rfl (teq (by decide : (1 : Int32) = (1 : Int32))).2 ?_
      show Steps p.tables e below (T5.setTop (mkF m 171 #[.val (.int xa), .val (.int xb), .val (.ref bo), .val (.ref bk), .val (.int (4 : Int32)), .val (.int (1 : Int32)), .val (.int (1 : Int32)), .unset] [])) _
      refine XS.iconst X5.here hx rfl (hb hby at_171) ?_
      show Steps p.tables e below (T5.setTop (mkF m 172 #[.val (.int xa), .val (.int xb), .val (.ref bo), .val (.ref bk), .val (.int (4 : Int32)), .val (.int (1 : Int32)), .val (.int (1 : Int32)), .unset] [(.int (1 : Int32))])) _
      refine XS.goto X5.here hx rfl (pc0 := 172) (pc' := 176) rfl (hb hby at_172) (by decide) (by decide) ?_
      show Steps p.tables e below (T5.setTop (mkF m 176 #[.val (.int xa), .val (.int xb), .val (.ref bo), .val (.ref bk), .val (.int (4 : Int32)), .val (.int (1 : Int32)), .val (.int (1 : Int32)), .unset] [(.int (1 : Int32))])) _
      refine XS.istore X5.here hx rfl (hb hby at_176) rfl (l' := #[.val (.int xa), .val (.int xb), .val (.ref bo), .val (.ref bk), .val (.int (4 : Int32)), .val (.int (1 : Int32)), .val (.int (1 : Int32)), .val (.int (1 : Int32))]) rfl ?_
      show Steps p.tables e below (T5.setTop (mkF m 178 #[.val (.int xa), .val (.int xb), .val (.ref bo), .val (.ref bk), .val (.int (4 : Int32)), .val (.int (1 : Int32)), .val (.int (1 : Int32)), .val (.int (1 : Int32))] [])) _
      exact kt
    obtain ⟨s₂, o₂, hs₂, hr₂⟩ := own_tail1 xa xb bo bk (4 : Int32) (1 : Int32) (1 : Int32) ko kk [(.ref c0), (.ref c1), (.ref c2), (.ref c3), (.ref c4), (.ref c5), (.ref c6), (.ref c7), (.ref c8), (.ref c9), (.ref c10), (.ref c11), (.ref c12), (.ref c13), (.ref c14), (.ref c15)] [(.ref d0), (.ref d1), (.ref d2), (.ref d3)] c4 d1 X5 hx hZ hw hby hml hown e5 N5 Z0 hret hlk P0 P1 P2 P3 (by decide) rfl (by decide) rfl
    exact ⟨s₂, o₂, go7 _ hs₂, hr₂⟩
  · skip
    obtain ⟨_, _, ⟨T8, L8, k8, n8⟩, -, X8, ⟨Lc8, hQ8, l8, y8, z8⟩, st8⟩ := Jvm.LawKit.callS X0 hx (y := (⟨"com/example/tracewright/tracewright/engine/expr/UnaryOpAcceptsPinLaw", "sourceKindIndex", "(I)I"⟩ : MethodName)) hown (mvT hZ (hw _ (List.mem_of_getElem? (i := 48) rfl))) (mvT hZ (hw _ (List.mem_of_getElem? (i := 49) rfl))) (mvT hZ (hw _ (List.mem_of_getElem? (i := 50) rfl))) (mvT hZ (hw _ (List.mem_of_getElem? (i := 51) rfl))) (by decide) (backOf (W := 0) (own_src4 l Z a0 hw []  h0 n0 Z0 ) hZ (hw _ (List.mem_of_getElem? (i := 51) rfl)) (hw _ (List.mem_of_getElem? (i := 50) rfl)) (by decide) (by decide)) (g := (mkF m 154 #[.val (.int xa), .val (.int xb), .val (.ref bo), .val (.ref bk), .val (.int (4 : Int32)), .val (.int (2 : Int32)), .unset, .unset] [(.int (4 : Int32))])) rfl (by rw [hml]; rfl) (argsL := [(.int (4 : Int32))]) (rest := []) (lenOf pd_6 rfl) rfl (by show 2 * 0 + _ ≤ _; exact Nat.le_of_eq rfl) (hb hby at_154) (fun _ _ => ⟨rfl, e0, (by decide : 2 + 0 ≤ _), (by decide : 20 + 0 ≤ _)⟩)
    dsimp only [Pt.U, Pt.locs, Pt.cells, Pt.slots] at X8 l8 y8 z8 st8 hQ8
    subst l8 y8 z8
    obtain ⟨rfl, Nq8, e8⟩ := hQ8
    have N8 := Fr.app N0 Nq8
    have go10 : ∀ t, Steps p.tables e below (T8.setTop (mkF m 178 #[.val (.int xa), .val (.int xb), .val (.ref bo), .val (.ref bk), .val (.int (4 : Int32)), .val (.int (2 : Int32)), .val (.int (1 : Int32)), .val (.int (0 : Int32))] [])) t → Steps p.tables e below st0 t := by
      intro t kt
      refine go0 t ?_
      refine XS.iload X0.here hx rfl (hb hby at_152) rfl ?_
      show Steps p.tables e below (T0.setTop (mkF m 154 #[.val (.int xa), .val (.int xb), .val (.ref bo), .val (.ref bk), .val (.int (4 : Int32)), .val (.int (2 : Int32)), .unset, .unset] [(.int (4 : Int32))])) _
      refine st8 _ ?_
      show Steps p.tables e below (T8.setTop (mkF m 157 #[.val (.int xa), .val (.int xb), .val (.ref bo), .val (.ref bk), .val (.int (4 : Int32)), .val (.int (2 : Int32)), .unset, .unset] [(.int (1 : Int32))])) _
      refine XS.istore X8.here hx rfl (hb hby at_157) rfl (l' := #[.val (.int xa), .val (.int xb), .val (.ref bo), .val (.ref bk), .val (.int (4 : Int32)), .val (.int (2 : Int32)), .val (.int (1 : Int32)), .unset]) rfl ?_
      show Steps p.tables e below (T8.setTop (mkF m 159 #[.val (.int xa), .val (.int xb), .val (.ref bo), .val (.ref bk), .val (.int (4 : Int32)), .val (.int (2 : Int32)), .val (.int (1 : Int32)), .unset] [])) _
      refine XS.iload X8.here hx rfl (hb hby at_159) rfl ?_
      show Steps p.tables e below (T8.setTop (mkF m 161 #[.val (.int xa), .val (.int xb), .val (.ref bo), .val (.ref bk), .val (.int (4 : Int32)), .val (.int (2 : Int32)), .val (.int (1 : Int32)), .unset] [(.int (1 : Int32))])) _
      refine XS.ifNo X8.here hx rfl (hb hby at_161) rfl ((if0 _ _).trans (flt (by decide : ¬ ((1 : Int32) < (0 : Int32)))).1) ?_
      show Steps p.tables e below (T8.setTop (mkF m 164 #[.val (.int xa), .val (.int xb), .val (.ref bo), .val (.ref bk), .val (.int (4 : Int32)), .val (.int (2 : Int32)), .val (.int (1 : Int32)), .unset] [])) _
      refine XS.iload X8.here hx rfl (hb hby at_164) rfl ?_
      show Steps p.tables e below (T8.setTop (mkF m 166 #[.val (.int xa), .val (.int xb), .val (.ref bo), .val (.ref bk), .val (.int (4 : Int32)), .val (.int (2 : Int32)), .val (.int (1 : Int32)), .unset] [(.int (1 : Int32))])) _
      refine XS.iload X8.here hx rfl (hb hby at_166) rfl ?_
      show Steps p.tables e below (T8.setTop (mkF m 168 #[.val (.int xa), .val (.int xb), .val (.ref bo), .val (.ref bk), .val (.int (4 : Int32)), .val (.int (2 : Int32)), .val (.int (1 : Int32)), .unset] [(.int (2 : Int32)), (.int (1 : Int32))])) _
      refine XS.icmpYes X8.here hx rfl (pc0 := 168) (pc' := 175) rfl (hb hby at_168) rfl (feq (by decide : ¬ ((1 : Int32) = (2 : Int32)))).2 (by decide) (by decide) ?_
      show Steps p.tables e below (T8.setTop (mkF m 175 #[.val (.int xa), .val (.int xb), .val (.ref bo), .val (.ref bk), .val (.int (4 : Int32)), .val (.int (2 : Int32)), .val (.int (1 : Int32)), .unset] [])) _
      refine XS.iconst X8.here hx rfl (hb hby at_175) ?_
      show Steps p.tables e below (T8.setTop (mkF m 176 #[.val (.int xa), .val (.int xb), .val (.ref bo), .val (.ref bk), .val (.int (4 : Int32)), .val (.int (2 : Int32)), .val (.int (1 : Int32)), .unset] [(.int (0 : Int32))])) _
      refine XS.istore X8.here hx rfl (hb hby at_176) rfl (l' := #[.val (.int xa), .val (.int xb), .val (.ref bo), .val (.ref bk), .val (.int (4 : Int32)), .val (.int (2 : Int32)), .val (.int (1 : Int32)), .val (.int (0 : Int32))]) rfl ?_
      show Steps p.tables e below (T8.setTop (mkF m 178 #[.val (.int xa), .val (.int xb), .val (.ref bo), .val (.ref bk), .val (.int (4 : Int32)), .val (.int (2 : Int32)), .val (.int (1 : Int32)), .val (.int (0 : Int32))] [])) _
      exact kt
    obtain ⟨s₂, o₂, hs₂, hr₂⟩ := own_tail2 xa xb bo bk (4 : Int32) (2 : Int32) (1 : Int32) ko kk [(.ref c0), (.ref c1), (.ref c2), (.ref c3), (.ref c4), (.ref c5), (.ref c6), (.ref c7), (.ref c8), (.ref c9), (.ref c10), (.ref c11), (.ref c12), (.ref c13), (.ref c14), (.ref c15)] [(.ref d0), (.ref d1), (.ref d2), (.ref d3)] c4 d2 d1 X8 hx hZ hw hby hml hown e8 N8 Z0 hret hlk P0 P1 P2 P3 (by decide) rfl (by decide) rfl P7
    exact ⟨s₂, o₂, go10 _ hs₂, hr₂⟩
  · skip
    obtain ⟨_, _, ⟨T11, L11, k11, n11⟩, -, X11, ⟨Lc11, hQ11, l11, y11, z11⟩, st11⟩ := Jvm.LawKit.callS X0 hx (y := (⟨"com/example/tracewright/tracewright/engine/expr/UnaryOpAcceptsPinLaw", "sourceKindIndex", "(I)I"⟩ : MethodName)) hown (mvT hZ (hw _ (List.mem_of_getElem? (i := 48) rfl))) (mvT hZ (hw _ (List.mem_of_getElem? (i := 49) rfl))) (mvT hZ (hw _ (List.mem_of_getElem? (i := 50) rfl))) (mvT hZ (hw _ (List.mem_of_getElem? (i := 51) rfl))) (by decide) (backOf (W := 0) (own_src4 l Z a0 hw []  h0 n0 Z0 ) hZ (hw _ (List.mem_of_getElem? (i := 51) rfl)) (hw _ (List.mem_of_getElem? (i := 50) rfl)) (by decide) (by decide)) (g := (mkF m 154 #[.val (.int xa), .val (.int xb), .val (.ref bo), .val (.ref bk), .val (.int (4 : Int32)), .val (.int (3 : Int32)), .unset, .unset] [(.int (4 : Int32))])) rfl (by rw [hml]; rfl) (argsL := [(.int (4 : Int32))]) (rest := []) (lenOf pd_6 rfl) rfl (by show 2 * 0 + _ ≤ _; exact Nat.le_of_eq rfl) (hb hby at_154) (fun _ _ => ⟨rfl, e0, (by decide : 2 + 0 ≤ _), (by decide : 20 + 0 ≤ _)⟩)
    dsimp only [Pt.U, Pt.locs, Pt.cells, Pt.slots] at X11 l11 y11 z11 st11 hQ11
    subst l11 y11 z11
    obtain ⟨rfl, Nq11, e11⟩ := hQ11
    have N11 := Fr.app N0 Nq11
    have go13 : ∀ t, Steps p.tables e below (T11.setTop (mkF m 178 #[.val (.int xa), .val (.int xb), .val (.ref bo), .val (.ref bk), .val (.int (4 : Int32)), .val (.int (3 : Int32)), .val (.int (1 : Int32)), .val (.int (0 : Int32))] [])) t → Steps p.tables e below st0 t := by
      intro t kt
      refine go0 t ?_
      refine XS.iload X0.here hx rfl (hb hby at_152) rfl ?_
      show Steps p.tables e below (T0.setTop (mkF m 154 #[.val (.int xa), .val (.int xb), .val (.ref bo), .val (.ref bk), .val (.int (4 : Int32)), .val (.int (3 : Int32)), .unset, .unset] [(.int (4 : Int32))])) _
      refine st11 _ ?_
      show Steps p.tables e below (T11.setTop (mkF m 157 #[.val (.int xa), .val (.int xb), .val (.ref bo), .val (.ref bk), .val (.int (4 : Int32)), .val (.int (3 : Int32)), .unset, .unset] [(.int (1 : Int32))])) _
      refine XS.istore X11.here hx rfl (hb hby at_157) rfl (l' := #[.val (.int xa), .val (.int xb), .val (.ref bo), .val (.ref bk), .val (.int (4 : Int32)), .val (.int (3 : Int32)), .val (.int (1 : Int32)), .unset]) rfl ?_
      show Steps p.tables e below (T11.setTop (mkF m 159 #[.val (.int xa), .val (.int xb), .val (.ref bo), .val (.ref bk), .val (.int (4 : Int32)), .val (.int (3 : Int32)), .val (.int (1 : Int32)), .unset] [])) _
      refine XS.iload X11.here hx rfl (hb hby at_159) rfl ?_
      show Steps p.tables e below (T11.setTop (mkF m 161 #[.val (.int xa), .val (.int xb), .val (.ref bo), .val (.ref bk), .val (.int (4 : Int32)), .val (.int (3 : Int32)), .val (.int (1 : Int32)), .unset] [(.int (1 : Int32))])) _
      refine XS.ifNo X11.here hx rfl (hb hby at_161) rfl ((if0 _ _).trans (flt (by decide : ¬ ((1 : Int32) < (0 : Int32)))).1) ?_
      show Steps p.tables e below (T11.setTop (mkF m 164 #[.val (.int xa), .val (.int xb), .val (.ref bo), .val (.ref bk), .val (.int (4 : Int32)), .val (.int (3 : Int32)), .val (.int (1 : Int32)), .unset] [])) _
      refine XS.iload X11.here hx rfl (hb hby at_164) rfl ?_
      show Steps p.tables e below (T11.setTop (mkF m 166 #[.val (.int xa), .val (.int xb), .val (.ref bo), .val (.ref bk), .val (.int (4 : Int32)), .val (.int (3 : Int32)), .val (.int (1 : Int32)), .unset] [(.int (1 : Int32))])) _
      refine XS.iload X11.here hx rfl (hb hby at_166) rfl ?_
      show Steps p.tables e below (T11.setTop (mkF m 168 #[.val (.int xa), .val (.int xb), .val (.ref bo), .val (.ref bk), .val (.int (4 : Int32)), .val (.int (3 : Int32)), .val (.int (1 : Int32)), .unset] [(.int (3 : Int32)), (.int (1 : Int32))])) _
      refine XS.icmpYes X11.here hx rfl (pc0 := 168) (pc' := 175) rfl (hb hby at_168) rfl (feq (by decide : ¬ ((1 : Int32) = (3 : Int32)))).2 (by decide) (by decide) ?_
      show Steps p.tables e below (T11.setTop (mkF m 175 #[.val (.int xa), .val (.int xb), .val (.ref bo), .val (.ref bk), .val (.int (4 : Int32)), .val (.int (3 : Int32)), .val (.int (1 : Int32)), .unset] [])) _
      refine XS.iconst X11.here hx rfl (hb hby at_175) ?_
      show Steps p.tables e below (T11.setTop (mkF m 176 #[.val (.int xa), .val (.int xb), .val (.ref bo), .val (.ref bk), .val (.int (4 : Int32)), .val (.int (3 : Int32)), .val (.int (1 : Int32)), .unset] [(.int (0 : Int32))])) _
      refine XS.istore X11.here hx rfl (hb hby at_176) rfl (l' := #[.val (.int xa), .val (.int xb), .val (.ref bo), .val (.ref bk), .val (.int (4 : Int32)), .val (.int (3 : Int32)), .val (.int (1 : Int32)), .val (.int (0 : Int32))]) rfl ?_
      show Steps p.tables e below (T11.setTop (mkF m 178 #[.val (.int xa), .val (.int xb), .val (.ref bo), .val (.ref bk), .val (.int (4 : Int32)), .val (.int (3 : Int32)), .val (.int (1 : Int32)), .val (.int (0 : Int32))] [])) _
      exact kt
    obtain ⟨s₂, o₂, hs₂, hr₂⟩ := own_tail2 xa xb bo bk (4 : Int32) (3 : Int32) (1 : Int32) ko kk [(.ref c0), (.ref c1), (.ref c2), (.ref c3), (.ref c4), (.ref c5), (.ref c6), (.ref c7), (.ref c8), (.ref c9), (.ref c10), (.ref c11), (.ref c12), (.ref c13), (.ref c14), (.ref c15)] [(.ref d0), (.ref d1), (.ref d2), (.ref d3)] c4 d3 d1 X11 hx hZ hw hby hml hown e11 N11 Z0 hret hlk P0 P1 P2 P3 (by decide) rfl (by decide) rfl P8
    exact ⟨s₂, o₂, go13 _ hs₂, hr₂⟩
set_option maxRecDepth 65536 in
set_option maxHeartbeats 40000000 in
theorem own_mid5 {p : Program} {l : Launch} {e : Env} {s : State} {m : MethodId} {args : Array Value} {below : List Frame} {meth : Method} {c : Code} {T0 : State} {locs : List Loc} {Z : State} {a0 : Array Value} {h0 : Heap} {n0 : Nat} (xa : Int32) (xb : Int32) (bo : Addr) (bk : Addr) (kx : Int32) (c0 : Addr) (c1 : Addr) (c2 : Addr) (c3 : Addr) (c4 : Addr) (c5 : Addr) (c6 : Addr) (c7 : Addr) (c8 : Addr) (c9 : Addr) (c10 : Addr) (c11 : Addr) (c12 : Addr) (c13 : Addr) (c14 : Addr) (c15 : Addr) (d0 : Addr) (d1 : Addr) (d2 : Addr) (d3 : Addr) (ko : ClassId) (kk : ClassId) (X0 : Stand p l e room_1 s m args below meth c T0 locs 2 20) (hx : p.tables.exec = Jvm.exec) (hZ : Z.Warmed39 s.vm) (hw : ∀ d ∈ tables_1, d.before a0 Z = true) (hby : c.code = code) (hml : c.maxLocals = 8) (hown : s.vm.findClass "com/example/tracewright/tracewright/engine/expr/UnaryOpAcceptsPinLaw" = some m.cls) (e0 : T0.heap = h0) (N0 : Fr n0 locs) (Z0 : n0 ≤ h0.size) (hret : meth.sig.returnType = some .boolean) (hlk : meth.locks = false) (P0 : Arv Z h0 bo ko (.object "com/example/tracewright/tracewright/engine/expr/UnaryOp") (16 : Int32) [(.ref c0), (.ref c1), (.ref c2), (.ref c3), (.ref c4), (.ref c5), (.ref c6), (.ref c7), (.ref c8), (.ref c9), (.ref c10), (.ref c11), (.ref c12), (.ref c13), (.ref c14), (.ref c15)] .null) (P1 : Arv Z h0 bk kk (.object "com/example/tracewright/tracewright/engine/expr/Kind") (4 : Int32) [(.ref d0), (.ref d1), (.ref d2), (.ref d3)] .null) (P2 : Exa Z h0 c5 "com/example/tracewright/tracewright/engine/expr/UnaryOp") (P3 : Fld Z h0 c5 "com/example/tracewright/tracewright/engine/expr/UnaryOp" "from" "Lcom/example/tracewright/tracewright/engine/expr/Kind;" (.ref d1)) (P4 : d0 ≠ d1) (P5 : d0 ≠ d2) (P6 : d0 ≠ d3) (P7 : d1 ≠ d2) (P8 : d1 ≠ d3) (P9 : d2 ≠ d3) (hK : kx = (0 : Int32) ∨ kx = (1 : Int32) ∨ kx = (2 : Int32) ∨ kx = (3 : Int32)) :
    ∃ s₂ o, Steps p.tables e below (T0.setTop (mkF m 152 #[.val (.int xa), .val (.int xb), .val (.ref bo), .val (.ref bk), .val (.int (5 : Int32)), .val (.int kx), .unset, .unset] [])) s₂ ∧ s₂.status = .running ∧ Ended s₂ below o ∧ ∃ v L, o = .returned v ∧ (v = some (.int (1 : Int32)) ∧ Fr n0 L) ∧ FrameEnd s o s₂ L room_1.cells room_1.slots := by
  obtain ⟨st0, hst0⟩ : ∃ zst, zst = T0.setTop (mkF m 152 #[.val (.int xa), .val (.int xb), .val (.ref bo), .val (.ref bk), .val (.int (5 : Int32)), .val (.int kx), .unset, .unset] []) := ⟨_, rfl⟩
  have go0 : ∀ t, Steps p.tables e below (T0.setTop (mkF m 152 #[.val (.int xa), .val (.int xb), .val (.ref bo), .val (.ref bk), .val (.int (5 : Int32)), .val (.int kx), .unset, .unset] [])) t → Steps p.tables e below st0 t := fun t k => by rw [hst0]; exact k
  rw [← hst0]
  rcases hK with rfl | rfl | rfl | rfl
  · skip
    obtain ⟨_, _, ⟨T2, L2, k2, n2⟩, -, X2, ⟨Lc2, hQ2, l2, y2, z2⟩, st2⟩ := Jvm.LawKit.callS X0 hx (y := (⟨"com/example/tracewright/tracewright/engine/expr/UnaryOpAcceptsPinLaw", "sourceKindIndex", "(I)I"⟩ : MethodName)) hown (mvT hZ (hw _ (List.mem_of_getElem? (i := 48) rfl))) (mvT hZ (hw _ (List.mem_of_getElem? (i := 49) rfl))) (mvT hZ (hw _ (List.mem_of_getElem? (i := 50) rfl))) (mvT hZ (hw _ (List.mem_of_getElem? (i := 51) rfl))) (by decide) (backOf (W := 0) (own_src5 l Z a0 hw []  h0 n0 Z0 ) hZ (hw _ (List.mem_of_getElem? (i := 51) rfl)) (hw _ (List.mem_of_getElem? (i := 50) rfl)) (by decide) (by decide)) (g := (mkF m 154 #[.val (.int xa), .val (.int xb), .val (.ref bo), .val (.ref bk), .val (.int (5 : Int32)), .val (.int (0 : Int32)), .unset, .unset] [(.int (5 : Int32))])) rfl (by rw [hml]; rfl) (argsL := [(.int (5 : Int32))]) (rest := []) (lenOf pd_6 rfl) rfl (by show 2 * 0 + _ ≤ _; exact Nat.le_of_eq rfl) (hb hby at_154) (fun _ _ => ⟨rfl, e0, (by decide : 2 + 0 ≤ _), (by decide : 20 + 0 ≤ _)⟩)
    dsimp only [Pt.U, Pt.locs, Pt.cells, Pt.slots] at X2 l2 y2 z2 st2 hQ2
    subst l2 y2 z2
    obtain ⟨rfl, Nq2, e2⟩ := hQ2
    have N2 := Fr.app N0 Nq2
    have go4 : ∀ t, Steps p.tables e below (T2.setTop (mkF m 178 #[.val (.int xa), .val (.int xb), .val (.ref bo), .val (.ref bk), .val (.int (5 : Int32)), .val (.int (0 : Int32)), .val (.int (1 : Int32)), .val (.int (0 : Int32))] [])) t → Steps p.tables e below st0 t := by
      intro t kt
      refine go0 t ?_
      refine XS.iload X0.here hx rfl (hb hby at_152) rfl ?_
      show Steps p.tables e below (T0.setTop (mkF m 154 #[.val (.int xa), .val (.int xb), .val (.ref bo), .val (.ref bk), .val (.int (5 : Int32)), .val (.int (0 : Int32)), .unset, .unset] [(.int (5 : Int32))])) _
      refine st2 _ ?_
      show Steps p.tables e below (T2.setTop (mkF m 157 #[.val (.int xa), .val (.int xb), .val (.ref bo), .val (.ref bk), .val (.int (5 : Int32)), .val (.int (0 : Int32)), .unset, .unset] [(.int (1 : Int32))])) _
      refine XS.istore X2.here hx rfl (hb hby at_157) rfl (l' := #[.val (.int xa), .val (.int xb), .val (.ref bo), .val (.ref bk), .val (.int (5 : Int32)), .val (.int (0 : Int32)), .val (.int (1 : Int32)), .unset]) rfl ?_
      show Steps p.tables e below (T2.setTop (mkF m 159 #[.val (.int xa), .val (.int xb), .val (.ref bo), .val (.ref bk), .val (.int (5 : Int32)), .val (.int (0 : Int32)), .val (.int (1 : Int32)), .unset] [])) _
      refine XS.iload X2.here hx rfl (hb hby at_159) rfl ?_
      show Steps p.tables e below (T2.setTop (mkF m 161 #[.val (.int xa), .val (.int xb), .val (.ref bo), .val (.ref bk), .val (.int (5 : Int32)), .val (.int (0 : Int32)), .val (.int (1 : Int32)), .unset] [(.int (1 : Int32))])) _
      refine XS.ifNo X2.here hx rfl (hb hby at_161) rfl ((if0 _ _).trans (flt (by decide : ¬ ((1 : Int32) < (0 : Int32)))).1) ?_
      show Steps p.tables e below (T2.setTop (mkF m 164 #[.val (.int xa), .val (.int xb), .val (.ref bo), .val (.ref bk), .val (.int (5 : Int32)), .val (.int (0 : Int32)), .val (.int (1 : Int32)), .unset] [])) _
      refine XS.iload X2.here hx rfl (hb hby at_164) rfl ?_
      show Steps p.tables e below (T2.setTop (mkF m 166 #[.val (.int xa), .val (.int xb), .val (.ref bo), .val (.ref bk), .val (.int (5 : Int32)), .val (.int (0 : Int32)), .val (.int (1 : Int32)), .unset] [(.int (1 : Int32))])) _
      refine XS.iload X2.here hx rfl (hb hby at_166) rfl ?_
      show Steps p.tables e below (T2.setTop (mkF m 168 #[.val (.int xa), .val (.int xb), .val (.ref bo), .val (.ref bk), .val (.int (5 : Int32)), .val (.int (0 : Int32)), .val (.int (1 : Int32)), .unset] [(.int (0 : Int32)), (.int (1 : Int32))])) _
      refine XS.icmpYes X2.here hx rfl (pc0 := 168) (pc' := 175) rfl (hb hby at_168) rfl (feq (by decide : ¬ ((1 : Int32) = (0 : Int32)))).2 (by decide) (by decide) ?_
      show Steps p.tables e below (T2.setTop (mkF m 175 #[.val (.int xa), .val (.int xb), .val (.ref bo), .val (.ref bk), .val (.int (5 : Int32)), .val (.int (0 : Int32)), .val (.int (1 : Int32)), .unset] [])) _
      refine XS.iconst X2.here hx rfl (hb hby at_175) ?_
      show Steps p.tables e below (T2.setTop (mkF m 176 #[.val (.int xa), .val (.int xb), .val (.ref bo), .val (.ref bk), .val (.int (5 : Int32)), .val (.int (0 : Int32)), .val (.int (1 : Int32)), .unset] [(.int (0 : Int32))])) _
      refine XS.istore X2.here hx rfl (hb hby at_176) rfl (l' := #[.val (.int xa), .val (.int xb), .val (.ref bo), .val (.ref bk), .val (.int (5 : Int32)), .val (.int (0 : Int32)), .val (.int (1 : Int32)), .val (.int (0 : Int32))]) rfl ?_
      show Steps p.tables e below (T2.setTop (mkF m 178 #[.val (.int xa), .val (.int xb), .val (.ref bo), .val (.ref bk), .val (.int (5 : Int32)), .val (.int (0 : Int32)), .val (.int (1 : Int32)), .val (.int (0 : Int32))] [])) _
      exact kt
    obtain ⟨s₂, o₂, hs₂, hr₂⟩ := own_tail2 xa xb bo bk (5 : Int32) (0 : Int32) (1 : Int32) ko kk [(.ref c0), (.ref c1), (.ref c2), (.ref c3), (.ref c4), (.ref c5), (.ref c6), (.ref c7), (.ref c8), (.ref c9), (.ref c10), (.ref c11), (.ref c12), (.ref c13), (.ref c14), (.ref c15)] [(.ref d0), (.ref d1), (.ref d2), (.ref d3)] c5 d0 d1 X2 hx hZ hw hby hml hown e2 N2 Z0 hret hlk P0 P1 P2 P3 (by decide) rfl (by decide) rfl (Ne.symm P4)
    exact ⟨s₂, o₂, go4 _ hs₂, hr₂⟩
  · skip
    obtain ⟨_, _, ⟨T5, L5, k5, n5⟩, -, X5, ⟨Lc5, hQ5, l5, y5, z5⟩, st5⟩ := Jvm.LawKit.callS X0 hx (y := (⟨"com/example/tracewright/tracewright/engine/expr/UnaryOpAcceptsPinLaw", "sourceKindIndex", "(I)I"⟩ : MethodName)) hown (mvT hZ (hw _ (List.mem_of_getElem? (i := 48) rfl))) (mvT hZ (hw _ (List.mem_of_getElem? (i := 49) rfl))) (mvT hZ (hw _ (List.mem_of_getElem? (i := 50) rfl))) (mvT hZ (hw _ (List.mem_of_getElem? (i := 51) rfl))) (by decide) (backOf (W := 0) (own_src5 l Z a0 hw []  h0 n0 Z0 ) hZ (hw _ (List.mem_of_getElem? (i := 51) rfl)) (hw _ (List.mem_of_getElem? (i := 50) rfl)) (by decide) (by decide)) (g := (mkF m 154 #[.val (.int xa), .val (.int xb), .val (.ref bo), .val (.ref bk), .val (.int (5 : Int32)), .val (.int (1 : Int32)), .unset, .unset] [(.int (5 : Int32))])) rfl (by rw [hml]; rfl) (argsL := [(.int (5 : Int32))]) (rest := []) (lenOf pd_6 rfl) rfl (by show 2 * 0 + _ ≤ _; exact Nat.le_of_eq rfl) (hb hby at_154) (fun _ _ => ⟨rfl, e0, (by decide : 2 + 0 ≤ _), (by decide : 20 + 0 ≤ _)⟩)
    dsimp only [Pt.U, Pt.locs, Pt.cells, Pt.slots] at X5 l5 y5 z5 st5 hQ5
    subst l5 y5 z5
    obtain ⟨rfl, Nq5, e5⟩ := hQ5
    have N5 := Fr.app N0 Nq5
    have go7 : ∀ t, Steps p.tables e below (T5.setTop (mkF m 178 #[.val (.int xa), .val (.int xb), .val (.ref bo), .val (.ref bk), .val (.int (5 : Int32)), .val (.int (1 : Int32)), .val (.int (1 : Int32)), .val (.int (1 : Int32))] [])) t → Steps p.tables e below st0 t := by
      intro t kt
      refine go0 t ?_
      refine XS.iload X0.here hx rfl (hb hby at_152) rfl ?_
      show Steps p.tables e below (T0.setTop (mkF m 154 #[.val (.int xa), .val (.int xb), .val (.ref bo), .val (.ref bk), .val (.int (5 : Int32)), .val (.int (1 : Int32)), .unset, .unset] [(.int (5 : Int32))])) _
      refine st5 _ ?_
      show Steps p.tables e below (T5.setTop (mkF m 157 #[.val (.int xa), .val (.int xb), .val (.ref bo), .val (.ref bk), .val (.int (5 : Int32)), .val (.int (1 : Int32)), .unset, .unset] [(.int (1 : Int32))])) _
      refine XS.istore X5.here hx rfl (hb hby at_157) rfl (l' := #[.val (.int xa), .val (.int xb), .val (.ref bo), .val (.ref bk), .val (.int (5 : Int32)), .val (.int (1 : Int32)), .val (.int (1 : Int32)), .unset]) rfl ?_
      show Steps p.tables e below (T5.setTop (mkF m 159 #[.val (.int xa), .val (.int xb), .val (.ref bo), .val (.ref bk), .val (.int (5 : Int32)), .val (.int (1 : Int32)), .val (.int (1 : Int32)), .unset] [])) _
      refine XS.iload X5.here hx rfl (hb hby at_159) rfl ?_
      show Steps p.tables e below (T5.setTop (mkF m 161 #[.val (.int xa), .val (.int xb), .val (.ref bo), .val (.ref bk), .val (.int (5 : Int32)), .val (.int (1 : Int32)), .val (.int (1 : Int32)), .unset] [(.int (1 : Int32))])) _
      refine XS.ifNo X5.here hx rfl (hb hby at_161) rfl ((if0 _ _).trans (flt (by decide : ¬ ((1 : Int32) < (0 : Int32)))).1) ?_
      show Steps p.tables e below (T5.setTop (mkF m 164 #[.val (.int xa), .val (.int xb), .val (.ref bo), .val (.ref bk), .val (.int (5 : Int32)), .val (.int (1 : Int32)), .val (.int (1 : Int32)), .unset] [])) _
      refine XS.iload X5.here hx rfl (hb hby at_164) rfl ?_
      show Steps p.tables e below (T5.setTop (mkF m 166 #[.val (.int xa), .val (.int xb), .val (.ref bo), .val (.ref bk), .val (.int (5 : Int32)), .val (.int (1 : Int32)), .val (.int (1 : Int32)), .unset] [(.int (1 : Int32))])) _
      refine XS.iload X5.here hx rfl (hb hby at_166) rfl ?_
      show Steps p.tables e below (T5.setTop (mkF m 168 #[.val (.int xa), .val (.int xb), .val (.ref bo), .val (.ref bk), .val (.int (5 : Int32)), .val (.int (1 : Int32)), .val (.int (1 : Int32)), .unset] [(.int (1 : Int32)), (.int (1 : Int32))])) _
      refine XS.icmpNo X5.here hx rfl (hb hby at_168) rfl (teq (by decide : (1 : Int32) = (1 : Int32))).2 ?_
      show Steps p.tables e below (T5.setTop (mkF m 171 #[.val (.int xa), .val (.int xb), .val (.ref bo), .val (.ref bk), .val (.int (5 : Int32)), .val (.int (1 : Int32)), .val (.int (1 : Int32)), .unset] [])) _
      refine XS.iconst X5.here hx rfl (hb hby at_171) ?_
      show Steps p.tables e below (T5.setTop (mkF m 172 #[.val (.int xa), .val (.int xb), .val (.ref bo), .val (.ref bk), .val (.int (5 : Int32)), .val (.int (1 : Int32)), .val (.int (1 : Int32)), .unset] [(.int (1 : Int32))])) _
      refine XS.goto X5.here hx rfl (pc0 := 172) (pc' := 176) rfl (hb hby at_172) (by decide) (by decide) ?_
      show Steps p.tables e below (T5.setTop (mkF m 176 #[.val (.int xa), .val (.int xb), .val (.ref bo), .val (.ref bk), .val (.int (5 : Int32)), .val (.int (1 : Int32)), .val (.int (1 : Int32)), .unset] [(.int (1 : Int32))])) _
      refine XS.istore X5.here hx rfl (hb hby at_176) rfl (l' := #[.val (.int xa), .val (.int xb), .val (.ref bo), .val (.ref bk), .val (.int (5 : Int32)), .val (.int (1 : Int32)), .val (.int (1 : Int32)), .val (.int (1 : Int32))]) rfl ?_
      show Steps p.tables e below (T5.setTop (mkF m 178 #[.val (.int xa), .val (.int xb), .val (.ref bo), .val (.ref bk), .val (.int (5 : Int32)), .val (.int (1 : Int32)), .val (.int (1 : Int32)), .val (.int (1 : Int32))] [])) _
      exact kt
    obtain ⟨s₂, o₂, hs₂, hr₂⟩ := own_tail1 xa xb bo bk (5 : Int32) (1 : Int32) (1 : Int32) ko kk [(.ref c0), (.ref c1), (.ref c2), (.ref c3), (.ref c4), (.ref c5), (.ref c6), (.ref c7), (.ref c8), (.ref c9), (.ref c10), (.ref c11), (.ref c12), (.ref c13), (.ref c14), (.ref c15)] [(.ref d0), (.ref d1), (.ref d2), (.ref d3)] c5 d1 X5 hx hZ hw hby hml hown e5 N5 Z0 hret hlk P0 P1 P2 P3 (by decide) rfl (by decide) rfl
    exact ⟨s₂, o₂, go7 _ hs₂, hr₂⟩
  · skip
    obtain ⟨_, _, ⟨T8, L8, k8, n8⟩, -, X8, ⟨Lc8, hQ8, l8, y8, z8⟩, st8⟩ := Jvm.LawKit.callS X0 hx (y := (⟨"com/example/tracewright/tracewright/engine/expr/UnaryOpAcceptsPinLaw", "sourceKindIndex", "(I)I"⟩ : MethodName)) hown (mvT hZ (hw _ (List.mem_of_getElem? (i := 48) rfl))) (mvT hZ (hw _ (List.mem_of_getElem? (i := 49) rfl))) (mvT hZ (hw _ (List.mem_of_getElem? (i := 50) rfl))) (mvT hZ (hw _ (List.mem_of_getElem? (i := 51) rfl))) (by decide) (backOf (W := 0) (own_src5 l Z a0 hw []  h0 n0 Z0 ) hZ (hw _ (List.mem_of_getElem? (i := 51) rfl)) (hw _ (List.mem_of_getElem? (i := 50) rfl)) (by decide) (by decide)) (g := (mkF m 154 #[.val (.int xa), .val (.int xb), .val (.ref bo), .val (.ref bk), .val (.int (5 : Int32)), .val (.int (2 : Int32)), .unset, .unset] [(.int (5 : Int32))])) rfl (by rw [hml]; rfl) (argsL := [(.int (5 : Int32))]) (rest := []) (lenOf pd_6 rfl) rfl (by show 2 * 0 + _ ≤ _; exact Nat.le_of_eq rfl) (hb hby at_154) (fun _ _ => ⟨rfl, e0, (by decide : 2 + 0 ≤ _), (by decide : 20 + 0 ≤ _)⟩)
    dsimp only [Pt.U, Pt.locs, Pt.cells, Pt.slots] at X8 l8 y8 z8 st8 hQ8
    subst l8 y8 z8
    obtain ⟨rfl, Nq8, e8⟩ := hQ8
    have N8 := Fr.app N0 Nq8
    have go10 : ∀ t, Steps p.tables e below (T8.setTop (mkF m 178 #[.val (.int xa), .val (.int xb), .val (.ref bo), .val (.ref bk), .val (.int (5 : Int32)), .val (.int (2 : Int32)), .val (.int (1 : Int32)), .val (.int (0 : Int32))] [])) t → Steps p.tables e below st0 t := by
      intro t kt
      refine go0 t ?_
      refine XS.iload X0.here hx rfl (hb hby at_152) rfl ?_
      show Steps p.tables e below (T0.setTop (mkF m 154 #[.val (.int xa), .val (.int xb), .val (.ref bo), .val (.ref bk), .val (.int (5 : Int32)), .val (.int (2 : Int32)), .unset, .unset] [(.int (5 : Int32))])) _
      refine st8 _ ?_
      show Steps p.tables e below (T8.setTop (mkF m 157 #[.val (.int xa), .val (.int xb), .val (.ref bo), .val (.ref bk), .val (.int (5 : Int32)), .val (.int (2 : Int32)), .unset, .unset] [(.int (1 : Int32))])) _
      refine XS.istore X8.here hx rfl (hb hby at_157) rfl (l' := #[.val (.int xa), .val (.int xb), .val (.ref bo), .val (.ref bk), .val (.int (5 : Int32)), .val (.int (2 : Int32)), .val (.int (1 : Int32)), .unset]) rfl ?_
      show Steps p.tables e below (T8.setTop (mkF m 159 #[.val (.int xa), .val (.int xb), .val (.ref bo), .val (.ref bk), .val (.int (5 : Int32)), .val (.int (2 : Int32)), .val (.int (1 : Int32)), .unset] [])) _
      refine XS.iload X8.here hx rfl (hb hby at_159) rfl ?_
      show Steps p.tables e below (T8.setTop (mkF m 161 #[.val (.int xa), .val (.int xb), .val (.ref bo), .val (.ref bk), .val (.int (5 : Int32)), .val (.int (2 : Int32)), .val (.int (1 : Int32)), .unset] [(.int (1 : Int32))])) _
      refine XS.ifNo X8.here hx rfl (hb hby at_161) rfl ((if0 _ _).trans (flt (by decide : ¬ ((1 : Int32) < (0 : Int32)))).1) ?_
      show Steps p.tables e below (T8.setTop (mkF m 164 #[.val (.int xa), .val (.int xb), .val (.ref bo), .val (.ref bk), .val (.int (5 : Int32)), .val (.int (2 : Int32)), .val (.int (1 : Int32)), .unset] [])) _
      refine XS.iload X8.here hx rfl (hb hby at_164) rfl ?_
      show Steps p.tables e below (T8.setTop (mkF m 166 #[.val (.int xa), .val (.int xb), .val (.ref bo), .val (.ref bk), .val (.int (5 : Int32)), .val (.int (2 : Int32)), .val (.int (1 : Int32)), .unset] [(.int (1 : Int32))])) _
      refine XS.iload X8.here hx rfl (hb hby at_166) rfl ?_
      show Steps p.tables e below (T8.setTop (mkF m 168 #[.val (.int xa), .val (.int xb), .val (.ref bo), .val (.ref bk), .val (.int (5 : Int32)), .val (.int (2 : Int32)), .val (.int (1 : Int32)), .unset] [(.int (2 : Int32)), (.int (1 : Int32))])) _
      refine XS.icmpYes X8.here hx rfl (pc0 := 168) (pc' := 175) rfl (hb hby at_168) rfl (feq (by decide : ¬ ((1 : Int32) = (2 : Int32)))).2 (by decide) (by decide) ?_
      show Steps p.tables e below (T8.setTop (mkF m 175 #[.val (.int xa), .val (.int xb), .val (.ref bo), .val (.ref bk), .val (.int (5 : Int32)), .val (.int (2 : Int32)), .val (.int (1 : Int32)), .unset] [])) _
      refine XS.iconst X8.here hx rfl (hb hby at_175) ?_
      show Steps p.tables e below (T8.setTop (mkF m 176 #[.val (.int xa), .val (.int xb), .val (.ref bo), .val (.ref bk), .val (.int (5 : Int32)), .val (.int (2 : Int32)), .val (.int (1 : Int32)), .unset] [(.int (0 : Int32))])) _
      refine XS.istore X8.here hx rfl (hb hby at_176) rfl (l' := #[.val (.int xa), .val (.int xb), .val (.ref bo), .val (.ref bk), .val (.int (5 : Int32)), .val (.int (2 : Int32)), .val (.int (1 : Int32)), .val (.int (0 : Int32))]) rfl ?_
      show Steps p.tables e below (T8.setTop (mkF m 178 #[.val (.int xa), .val (.int xb), .val (.ref bo), .val (.ref bk), .val (.int (5 : Int32)), .val (.int (2 : Int32)), .val (.int (1 : Int32)), .val (.int (0 : Int32))] [])) _
      exact kt
    obtain ⟨s₂, o₂, hs₂, hr₂⟩ := own_tail2 xa xb bo bk (5 : Int32) (2 : Int32) (1 : Int32) ko kk [(.ref c0), (.ref c1), (.ref c2), (.ref c3), (.ref c4), (.ref c5), (.ref c6), (.ref c7), (.ref c8), (.ref c9), (.ref c10), (.ref c11), (.ref c12), (.ref c13), (.ref c14), (.ref c15)] [(.ref d0), (.ref d1), (.ref d2), (.ref d3)] c5 d2 d1 X8 hx hZ hw hby hml hown e8 N8 Z0 hret hlk P0 P1 P2 P3 (by decide) rfl (by decide) rfl P7
    exact ⟨s₂, o₂, go10 _ hs₂, hr₂⟩
  · skip
    obtain ⟨_, _, ⟨T11, L11, k11, n11⟩, -, X11, ⟨Lc11, hQ11, l11, y11, z11⟩, st11⟩ := Jvm.LawKit.callS X0 hx (y := (⟨"com/example/tracewright/tracewright/engine/expr/UnaryOpAcceptsPinLaw", "sourceKindIndex", "(I)I"⟩ : MethodName)) hown (mvT hZ (hw _ (List.mem_of_getElem? (i := 48) rfl))) (mvT hZ (hw _ (List.mem_of_getElem? (i := 49) rfl))) (mvT hZ (hw _ (List.mem_of_getElem? (i := 50) rfl))) (mvT hZ (hw _ (List.mem_of_getElem? (i := 51) rfl))) (by decide) (backOf (W := 0) (own_src5 l Z a0 hw []  h0 n0 Z0 ) hZ (hw _ (List.mem_of_getElem? (i := 51) rfl)) (hw _ (List.mem_of_getElem? (i := 50) rfl)) (by decide) (by decide)) (g := (mkF m 154 #[.val (.int xa), .val (.int xb), .val (.ref bo), .val (.ref bk), .val (.int (5 : Int32)), .val (.int (3 : Int32)), .unset, .unset] [(.int (5 : Int32))])) rfl (by rw [hml]; rfl) (argsL := [(.int (5 : Int32))]) (rest := []) (lenOf pd_6 rfl) rfl (by show 2 * 0 + _ ≤ _; exact Nat.le_of_eq rfl) (hb hby at_154) (fun _ _ => ⟨rfl, e0, (by decide : 2 + 0 ≤ _), (by decide : 20 + 0 ≤ _)⟩)
    dsimp only [Pt.U, Pt.locs, Pt.cells, Pt.slots] at X11 l11 y11 z11 st11 hQ11
    subst l11 y11 z11
    obtain ⟨rfl, Nq11, e11⟩ := hQ11
    have N11 := Fr.app N0 Nq11
    have go13 : ∀ t, Steps p.tables e below (T11.setTop (mkF m 178 #[.val (.int xa), .val (.int xb), .val (.ref bo), .val (.ref bk), .val (.int (5 : Int32)), .val (.int (3 : Int32)), .val (.int (1 : Int32)), .val (.int (0 : Int32))] [])) t → Steps p.tables e below st0 t := by
      intro t kt
      refine go0 t ?_
      refine XS.iload X0.here hx rfl (hb hby at_152) rfl ?_
      show Steps p.tables e below (T0.setTop (mkF m 154 #[.val (.int xa), .val (.int xb), .val (.ref bo), .val (.ref bk), .val (.int (5 : Int32)), .val (.int (3 : Int32)), .unset, .unset] [(.int (5 : Int32))])) _
      refine st11 _ ?_
      show Steps p.tables e below (T11.setTop (mkF m 157 #[.val (.int xa), .val (.int xb), .val (.ref bo), .val (.ref bk), .val (.int (5 : Int32)), .val (.int (3 : Int32)), .unset, .unset] [(.int (1 : Int32))])) _
      refine XS.istore X11.here hx rfl (hb hby at_157) rfl (l' := #[.val (.int xa), .val (.int xb), .val (.ref bo), .val (.ref bk), .val (.int (5 : Int32)), .val (.int (3 : Int32)), .val (.int (1 : Int32)), .unset]) rfl ?_
      show Steps p.tables e below (T11.setTop (mkF m 159 #[.val (.int xa), .val (.int xb), .val (.ref bo), .val (.ref bk), .val (.int (5 : Int32)), .val (.int (3 : Int32)), .val (.int (1 : Int32)), .unset] [])) _
      refine XS.iload X11.here hx rfl (hb hby at_159) rfl ?_
      show Steps p.tables e below (T11.setTop (mkF m 161 #[.val (.int xa), .val (.int xb), .val (.ref bo), .val (.ref bk), .val (.int (5 : Int32)), .val (.int (3 : Int32)), .val (.int (1 : Int32)), .unset] [(.int (1 : Int32))])) _
      refine XS.ifNo X11.here hx rfl (hb hby at_161) rfl ((if0 _ _).trans (flt (by decide : ¬ ((1 : Int32) < (0 : Int32)))).1) ?_
      show Steps p.tables e below (T11.setTop (mkF m 164 #[.val (.int xa), .val (.int xb), .val (.ref bo), .val (.ref bk), .val (.int (5 : Int32)), .val (.int (3 : Int32)), .val (.int (1 : Int32)), .unset] [])) _
      refine XS.iload X11.here hx rfl (hb hby at_164) rfl ?_
      show Steps p.tables e below (T11.setTop (mkF m 166 #[.val (.int xa), .val (.int xb), .val (.ref bo), .val (.ref bk), .val (.int (5 : Int32)), .val (.int (3 : Int32)), .val (.int (1 : Int32)), .unset] [(.int (1 : Int32))])) _
      refine XS.iload X11.here hx rfl (hb hby at_166) rfl ?_
      show Steps p.tables e below (T11.setTop (mkF m 168 #[.val (.int xa), .val (.int xb), .val (.ref bo), .val (.ref bk), .val (.int (5 : Int32)), .val (.int (3 : Int32)), .val (.int (1 : Int32)), .unset] [(.int (3 : Int32)), (.int (1 : Int32))])) _
      refine XS.icmpYes X11.here hx rfl (pc0 := 168) (pc' := 175) rfl (hb hby at_168) rfl (feq (by decide : ¬ ((1 : Int32) = (3 : Int32)))).2 (by decide) (by decide) ?_
      show Steps p.tables e below (T11.setTop (mkF m 175 #[.val (.int xa), .val (.int xb), .val (.ref bo), .val (.ref bk), .val (.int (5 : Int32)), .val (.int (3 : Int32)), .val (.int (1 : Int32)), .unset] [])) _
      refine XS.iconst X11.here hx rfl (hb hby at_175) ?_
      show Steps p.tables e below (T11.setTop (mkF m 176 #[.val (.int xa), .val (.int xb), .val (.ref bo), .val (.ref bk), .val (.int (5 : Int32)), .val (.int (3 : Int32)), .val (.int (1 : Int32)), .unset] [(.int (0 : Int32))])) _
      refine XS.istore X11.here hx rfl (hb hby at_176) rfl (l' := #[.val (.int xa), .val (.int xb), .val (.ref bo), .val (.ref bk), .val (.int (5 : Int32)), .val (.int (3 : Int32)), .val (.int (1 : Int32)), .val (.int (0 : Int32))]) rfl ?_
      show Steps p.tables e below (T11.setTop (mkF m 178 #[.val (.int xa), .val (.int xb), .val (.ref bo), .val (.ref bk), .val (.int (5 : Int32)), .val (.int (3 : Int32)), .val (.int (1 : Int32)), .val (.int (0 : Int32))] [])) _
      exact kt
    obtain ⟨s₂, o₂, hs₂, hr₂⟩ := own_tail2 xa xb bo bk (5 : Int32) (3 : Int32) (1 : Int32) ko kk [(.ref c0), (.ref c1), (.ref c2), (.ref c3), (.ref c4), (.ref c5), (.ref c6), (.ref c7), (.ref c8), (.ref c9), (.ref c10), (.ref c11), (.ref c12), (.ref c13), (.ref c14), (.ref c15)] [(.ref d0), (.ref d1), (.ref d2), (.ref d3)] c5 d3 d1 X11 hx hZ hw hby hml hown e11 N11 Z0 hret hlk P0 P1 P2 P3 (by decide) rfl (by decide) rfl P8
    exact ⟨s₂, o₂, go13 _ hs₂, hr₂⟩
set_option maxRecDepth 65536 in
set_option maxHeartbeats 40000000 in
theorem own_mid6 {p : Program} {l : Launch} {e : Env} {s : State} {m : MethodId} {args : Array Value} {below : List Frame} {meth : Method} {c : Code} {T0 : State} {locs : List Loc} {Z : State} {a0 : Array Value} {h0 : Heap} {n0 : Nat} (xa : Int32) (xb : Int32) (bo : Addr) (bk : Addr) (kx : Int32) (c0 : Addr) (c1 : Addr) (c2 : Addr) (c3 : Addr) (c4 : Addr) (c5 : Addr) (c6 : Addr) (c7 : Addr) (c8 : Addr) (c9 : Addr) (c10 : Addr) (c11 : Addr) (c12 : Addr) (c13 : Addr) (c14 : Addr) (c15 : Addr) (d0 : Addr) (d1 : Addr) (d2 : Addr) (d3 : Addr) (ko : ClassId) (kk : ClassId) (X0 : Stand p l e room_1 s m args below meth c T0 locs 2 20) (hx : p.tables.exec = Jvm.exec) (hZ : Z.Warmed39 s.vm) (hw : ∀ d ∈ tables_1, d.before a0 Z = true) (hby : c.code = code) (hml : c.maxLocals = 8) (hown : s.vm.findClass "com/example/tracewright/tracewright/engine/expr/UnaryOpAcceptsPinLaw" = some m.cls) (e0 : T0.heap = h0) (N0 : Fr n0 locs) (Z0 : n0 ≤ h0.size) (hret : meth.sig.returnType = some .boolean) (hlk : meth.locks = false) (P0 : Arv Z h0 bo ko (.object "com/example/tracewright/tracewright/engine/expr/UnaryOp") (16 : Int32) [(.ref c0), (.ref c1), (.ref c2), (.ref c3), (.ref c4), (.ref c5), (.ref c6), (.ref c7), (.ref c8), (.ref c9), (.ref c10), (.ref c11), (.ref c12), (.ref c13), (.ref c14), (.ref c15)] .null) (P1 : Arv Z h0 bk kk (.object "com/example/tracewright/tracewright/engine/expr/Kind") (4 : Int32) [(.ref d0), (.ref d1), (.ref d2), (.ref d3)] .null) (P2 : Exa Z h0 c6 "com/example/tracewright/tracewright/engine/expr/UnaryOp") (P3 : Fld Z h0 c6 "com/example/tracewright/tracewright/engine/expr/UnaryOp" "from" "Lcom/example/tracewright/tracewright/engine/expr/Kind;" (.ref d1)) (P4 : d0 ≠ d1) (P5 : d0 ≠ d2) (P6 : d0 ≠ d3) (P7 : d1 ≠ d2) (P8 : d1 ≠ d3) (P9 : d2 ≠ d3) (hK : kx = (0 : Int32) ∨ kx = (1 : Int32) ∨ kx = (2 : Int32) ∨ kx = (3 : Int32)) :
    ∃ s₂ o, Steps p.tables e below (T0.setTop (mkF m 152 #[.val (.int xa), .val (.int xb), .val (.ref bo), .val (.ref bk), .val (.int (6 : Int32)), .val (.int kx), .unset, .unset] [])) s₂ ∧ s₂.status = .running ∧ Ended s₂ below o ∧ ∃ v L, o = .returned v ∧ (v = some (.int (1 : Int32)) ∧ Fr n0 L) ∧ FrameEnd s o s₂ L room_1.cells room_1.slots := by
  obtain ⟨st0, hst0⟩ : ∃ zst, zst = T0.setTop (mkF m 152 #[.val (.int xa), .val (.int xb), .val (.ref bo), .val (.ref bk), .val (.int (6 : Int32)), .val (.int kx), .unset, .unset] []) := ⟨_, rfl⟩
  have go0 : ∀ t, Steps p.tables e below (T0.setTop (mkF m 152 #[.val (.int xa), .val (.int xb), .val (.ref bo), .val (.ref bk), .val (.int (6 : Int32)), .val (.int kx), .unset, .unset] [])) t → Steps p.tables e below st0 t := fun t k => by rw [hst0]; exact k
  rw [← hst0]
  rcases hK with rfl | rfl | rfl | rfl
  · skip
    obtain ⟨_, _, ⟨T2, L2, k2, n2⟩, -, X2, ⟨Lc2, hQ2, l2, y2, z2⟩, st2⟩ := Jvm.LawKit.callS X0 hx (y := (⟨"com/example/tracewright/tracewright/engine/expr/UnaryOpAcceptsPinLaw", "sourceKindIndex", "(I)I"⟩ : MethodName)) hown (mvT hZ (hw _ (List.mem_of_getElem? (i := 48) rfl))) (mvT hZ (hw _ (List.mem_of_getElem? (i := 49) rfl))) (mvT hZ (hw _ (List.mem_of_getElem? (i := 50) rfl))) (mvT hZ (hw _ (List.mem_of_getElem? (i := 51) rfl))) (by decide) (backOf (W := 0) (own_src6 l Z a0 hw []  h0 n0 Z0 ) hZ (hw _ (List.mem_of_getElem? (i := 51) rfl)) (hw _ (List.mem_of_getElem? (i := 50) rfl)) (by decide) (by decide)) (g := (mkF m 154 #[.val (.int xa), .val (.int xb), .val (.ref bo), .val (.ref bk), .val (.int (6 : Int32)), .val (.int (0 : Int32)), .unset, .unset] [(.int (6 : Int32))])) rfl (by rw [hml]; rfl) (argsL := [(.int (6 : Int32))]) (rest := []) (lenOf pd_6 rfl) rfl (by show 2 * 0 + _ ≤ _; exact Nat.le_of_eq rfl) (hb hby at_154) (fun _ _ => ⟨rfl, e0, (by decide : 2 + 0 ≤ _), (by decide : 20 + 0 ≤ _)⟩)
    dsimp only [Pt.U, Pt.locs, Pt.cells, Pt.slots] at X2 l2 y2 z2 st2 hQ2
    subst l2 y2 z2
    obtain ⟨rfl, Nq2, e2⟩ := hQ2
    have N2 := Fr.app N0 Nq2
    have go4 : ∀ t, Steps p.tables e below (T2.setTop (mkF m 178 #[.val (.int xa), .val (.int xb), .val (.ref bo), .val (.ref bk), .val (.int (6 : Int32)), .val (.int (0 : Int32)), .val (.int (1 : Int32)), .val (.int (0 : Int32))] [])) t → Steps p.tables e below st0 t := by
      intro t kt
      refine go0 t ?_
      refine XS.iload X0.here hx rfl (hb hby at_152) rfl ?_
      show Steps p.tables e below (T0.setTop (mkF m 154 #[.val (.int xa), .val (.int xb), .val (.ref bo), .val (.ref bk), .val (.int (6 : Int32)), .val (.int (0 : Int32)), .unset, .unset] [(.int (6 : Int32))])) _
      refine st2 _ ?_
      show Steps p.tables e below (T2.setTop (mkF m 157 #[.val (.int xa), .val (.int xb), .val (.ref bo), .val (.ref bk), .val (.int (6 : Int32)), .val (.int (0 : Int32)), .unset, .unset] [(.int (1 : Int32))])) _
      refine XS.istore X2.here hx rfl (hb hby at_157) rfl (l' := #[.val (.int xa), .val (.int xb), .val (.ref bo), .val (.ref bk), .val (.int (6 : Int32)), .val (.int (0 : Int32)), .val (.int (1 : Int32)), .unset]) rfl ?_
      show Steps p.tables e below (T2.setTop (mkF m 159 #[.val (.int xa), .val (.int xb), .val (.ref bo), .val (.ref bk), .val (.int (6 : Int32)), .val (.int (0 : Int32)), .val (.int (1 : Int32)), .unset] [])) _
      refine XS.iload X2.here hx rfl (hb hby at_159) rfl ?_
      show Steps p.tables e below (T2.setTop (mkF m 161 #[.val (.int xa), .val (.int xb), .val (.ref bo), .val (.ref bk), .val (.int (6 : Int32)), .val (.int (0 : Int32)), .val (.int (1 : Int32)), .unset] [(.int (1 : Int32))])) _
      refine XS.ifNo X2.here hx rfl (hb hby at_161) rfl ((if0 _ _).trans (flt (by decide : ¬ ((1 : Int32) < (0 : Int32)))).1) ?_
      show Steps p.tables e below (T2.setTop (mkF m 164 #[.val (.int xa), .val (.int xb), .val (.ref bo), .val (.ref bk), .val (.int (6 : Int32)), .val (.int (0 : Int32)), .val (.int (1 : Int32)), .unset] [])) _
      refine XS.iload X2.here hx rfl (hb hby at_164) rfl ?_
      show Steps p.tables e below (T2.setTop (mkF m 166 #[.val (.int xa), .val (.int xb), .val (.ref bo), .val (.ref bk), .val (.int (6 : Int32)), .val (.int (0 : Int32)), .val (.int (1 : Int32)), .unset] [(.int (1 : Int32))])) _
      refine XS.iload X2.here hx rfl (hb hby at_166) rfl ?_
      show Steps p.tables e below (T2.setTop (mkF m 168 #[.val (.int xa), .val (.int xb), .val (.ref bo), .val (.ref bk), .val (.int (6 : Int32)), .val (.int (0 : Int32)), .val (.int (1 : Int32)), .unset] [(.int (0 : Int32)), (.int (1 : Int32))])) _
      refine XS.icmpYes X2.here hx rfl (pc0 := 168) (pc' := 175) rfl (hb hby at_168) rfl (feq (by decide : ¬ ((1 : Int32) = (0 : Int32)))).2 (by decide) (by decide) ?_
      show Steps p.tables e below (T2.setTop (mkF m 175 #[.val (.int xa), .val (.int xb), .val (.ref bo), .val (.ref bk), .val (.int (6 : Int32)), .val (.int (0 : Int32)), .val (.int (1 : Int32)), .unset] [])) _
      refine XS.iconst X2.here hx rfl (hb hby at_175) ?_
      show Steps p.tables e below (T2.setTop (mkF m 176 #[.val (.int xa), .val (.int xb), .val (.ref bo), .val (.ref bk), .val (.int (6 : Int32)), .val (.int (0 : Int32)), .val (.int (1 : Int32)), .unset] [(.int (0 : Int32))])) _
      refine XS.istore X2.here hx rfl (hb hby at_176) rfl (l' := #[.val (.int xa), .val (.int xb), .val (.ref bo), .val (.ref bk), .val (.int (6 : Int32)), .val (.int (0 : Int32)), .val (.int (1 : Int32)), .val (.int (0 : Int32))]) rfl ?_
      show Steps p.tables e below (T2.setTop (mkF m 178 #[.val (.int xa), .val (.int xb), .val (.ref bo), .val (.ref bk), .val (.int (6 : Int32)), .val (.int (0 : Int32)), .val (.int (1 : Int32)), .val (.int (0 : Int32))] [])) _
      exact kt
    obtain ⟨s₂, o₂, hs₂, hr₂⟩ := own_tail2 xa xb bo bk (6 : Int32) (0 : Int32) (1 : Int32) ko kk [(.ref c0), (.ref c1), (.ref c2), (.ref c3), (.ref c4), (.ref c5), (.ref c6), (.ref c7), (.ref c8), (.ref c9), (.ref c10), (.ref c11), (.ref c12), (.ref c13), (.ref c14), (.ref c15)] [(.ref d0), (.ref d1), (.ref d2), (.ref d3)] c6 d0 d1 X2 hx hZ hw hby hml hown e2 N2 Z0 hret hlk P0 P1 P2 P3 (by decide) rfl (by decide) rfl (Ne.symm P4)
    exact ⟨s₂, o₂, go4 _ hs₂, hr₂⟩
  · skip
    obtain ⟨_, _, ⟨T5, L5, k5, n5⟩, -, X5, ⟨Lc5, hQ5, l5, y5, z5⟩, st5⟩ := Jvm.LawKit.callS X0 hx (y := (⟨"com/example/tracewright/tracewright/engine/expr/UnaryOpAcceptsPinLaw", "sourceKindIndex", "(I)I"⟩ : MethodName)) hown (mvT hZ (hw _ (List.mem_of_getElem? (i := 48) rfl))) (mvT hZ (hw _ (List.mem_of_getElem? (i := 49) rfl))) (mvT hZ (hw _ (List.mem_of_getElem? (i := 50) rfl))) (mvT hZ (hw _ (List.mem_of_getElem? (i := 51) rfl))) (by decide) (backOf (W := 0) (own_src6 l Z a0 hw []  h0 n0 Z0 ) hZ (hw _ (List.mem_of_getElem? (i := 51) rfl)) (hw _ (List.mem_of_getElem? (i := 50) rfl)) (by decide) (by decide)) (g := (mkF m 154 #[.val (.int xa), .val (.int xb), .val (.ref bo), .val (.ref bk), .val (.int (6 : Int32)), .val (.int (1 : Int32)), .unset, .unset] [(.int (6 : Int32))])) rfl (by rw [hml]; rfl) (argsL := [(.int (6 : Int32))]) (rest := []) (lenOf pd_6 rfl) rfl (by show 2 * 0 + _ ≤ _; exact Nat.le_of_eq rfl) (hb hby at_154) (fun _ _ => ⟨rfl, e0, (by decide : 2 + 0 ≤ _), (by decide : 20 + 0 ≤ _)⟩)
    dsimp only [Pt.U, Pt.locs, Pt.cells, Pt.slots] at X5 l5 y5 z5 st5 hQ5
    subst l5 y5 z5
    obtain ⟨rfl, Nq5, e5⟩ := hQ5
    have N5 := Fr.app N0 Nq5
    have go7 : ∀ t, Steps p.tables e below (T5.setTop (mkF m 178 #[.val (.int xa), .val (.int xb), .val (.ref bo), .val (.ref bk), .val (.int (6 : Int32)), .val (.int (1 : Int32)), .val (.int (1 : Int32)), .val (.int (1 : Int32))] [])) t → Steps p.tables e below st0 t := by
      intro t kt
      refine go0 t ?_
      refine XS.iload X0.here hx rfl (hb hby at_152) rfl ?_
      show Steps p.tables e below (T0.setTop (mkF m 154 #[.val (.int xa), .val (.int xb), .val (.ref bo), .val (.ref bk), .val (.int (6 : Int32)), .val (.int (1 : Int32)), .unset, .unset] [(.int (6 : Int32))])) _
      refine st5 _ ?_
      show Steps p.tables e below (T5.setTop (mkF m 157 #[.val (.int xa), .val (.int xb), .val (.ref bo), .val (.ref bk), .val (.int (6 : Int32)), .val (.int (1 : Int32)), .unset, .unset] [(.int (1 : Int32))])) _
      refine XS.istore X5.here hx rfl (hb hby at_157) rfl (l' := #[.val (.int xa), .val (.int xb), .val (.ref bo), .val (.ref bk), .val (.int (6 : Int32)), .val (.int (1 : Int32)), .val (.int (1 : Int32)), .unset]) rfl ?_
      show Steps p.tables e below (T5.setTop (mkF m 159 #[.val (.int xa), .val (.int xb), .val (.ref bo), .val (.ref bk), .val (.int (6 : Int32)), .val (.int (1 : Int32)), .val (.int (1 : Int32)), .unset] [])) _
      refine XS.iload X5.here hx rfl (hb hby at_159) rfl ?_
      show Steps p.tables e below (T5.setTop (mkF m 161 #[.val (.int xa), .val (.int xb), .val (.ref bo), .val (.ref bk), .val (.int (6 : Int32)), .val (.int (1 : Int32)), .val (.int (1 : Int32)), .unset] [(.int (1 : Int32))])) _
      refine XS.ifNo X5.here hx rfl (hb hby at_161) rfl ((if0 _ _).trans (flt (by decide : ¬ ((1 : Int32) < (0 : Int32)))).1) ?_
      show Steps p.tables e below (T5.setTop (mkF m 164 #[.val (.int xa), .val (.int xb), .val (.ref bo), .val (.ref bk), .val (.int (6 : Int32)), .val (.int (1 : Int32)), .val (.int (1 : Int32)), .unset] [])) _
      refine XS.iload X5.here hx rfl (hb hby at_164) rfl ?_
      show Steps p.tables e below (T5.setTop (mkF m 166 #[.val (.int xa), .val (.int xb), .val (.ref bo), .val (.ref bk), .val (.int (6 : Int32)), .val (.int (1 : Int32)), .val (.int (1 : Int32)), .unset] [(.int (1 : Int32))])) _
      refine XS.iload X5.here hx rfl (hb hby at_166) rfl ?_
      show Steps p.tables e below (T5.setTop (mkF m 168 #[.val (.int xa), .val (.int xb), .val (.ref bo), .val (.ref bk), .val (.int (6 : Int32)), .val (.int (1 : Int32)), .val (.int (1 : Int32)), .unset] [(.int (1 : Int32)), (.int (1 : Int32))])) _
      refine XS.icmpNo X5.here hx rfl (hb hby at_168) rfl (teq (by decide : (1 : Int32) = (1 : Int32))).2 ?_
      show Steps p.tables e below (T5.setTop (mkF m 171 #[.val (.int xa), .val (.int xb), .val (.ref bo), .val (.ref bk), .val (.int (6 : Int32)), .val (.int (1 : Int32)), .val (.int (1 : Int32)), .unset] [])) _
      refine XS.iconst X5.here hx rfl (hb hby at_171) ?_
      show Steps p.tables e below (T5.setTop (mkF m 172 #[.val (.int xa), .val (.int xb), .val (.ref bo), .val (.ref bk), .val (.int (6 : Int32)), .val (.int (1 : Int32)), .val (.int (1 : Int32)), .unset] [(.int (1 : Int32))])) _
      refine XS.goto X5.here hx rfl (pc0 := 172) (pc' := 176) rfl (hb hby at_172) (by decide) (by decide) ?_
      show Steps p.tables e below (T5.setTop (mkF m 176 #[.val (.int xa), .val (.int xb), .val (.ref bo), .val (.ref bk), .val (.int (6 : Int32)), .val (.int (1 : Int32)), .val (.int (1 : Int32)), .unset] [(.int (1 : Int32))])) _
      refine XS.istore X5.here hx rfl (hb hby at_176) rfl (l' := #[.val (.int xa), .val (.int xb), .val (.ref bo), .val (.ref bk), .val (.int (6 : Int32)), .val (.int (1 : Int32)), .val (.int (1 : Int32)), .val (.int (1 : Int32))]) rfl ?_
      show Steps p.tables e below (T5.setTop (mkF m 178 #[.val (.int xa), .val (.int xb), .val (.ref bo), .val (.ref bk), .val (.int (6 : Int32)), .val (.int (1 : Int32)), .val (.int (1 : Int32)), .val (.int (1 : Int32))] [])) _
      exact kt
    obtain ⟨s₂, o₂, hs₂, hr₂⟩ := own_tail1 xa xb bo bk (6 : Int32) (1 : Int32) (1 : Int32) ko kk [(.ref c0), (.ref c1), (.ref c2), (.ref c3), (.ref c4), (.ref c5), (.ref c6), (.ref c7), (.ref c8), (.ref c9), (.ref c10), (.ref c11), (.ref c12), (.ref c13), (.ref c14), (.ref c15)] [(.ref d0), (.ref d1), (.ref d2), (.ref d3)] c6 d1 X5 hx hZ hw hby hml hown e5 N5 Z0 hret hlk P0 P1 P2 P3 (by decide) rfl (by decide) rfl
    exact ⟨s₂, o₂, go7 _ hs₂, hr₂⟩
  · skip
    obtain ⟨_, _, ⟨T8, L8, k8, n8⟩, -, X8, ⟨Lc8, hQ8, l8, y8, z8⟩, st8⟩ := Jvm.LawKit.callS X0 hx (y := (⟨"com/example/tracewright/tracewright/engine/expr/UnaryOpAcceptsPinLaw", "sourceKindIndex", "(I)I"⟩ : MethodName)) hown (mvT hZ (hw _ (List.mem_of_getElem? (i := 48) rfl))) (mvT hZ (hw _ (List.mem_of_getElem? (i := 49) rfl))) (mvT hZ (hw _ (List.mem_of_getElem? (i := 50) rfl))) (mvT hZ (hw _ (List.mem_of_getElem? (i := 51) rfl))) (by decide) (backOf (W := 0) (own_src6 l Z a0 hw []  h0 n0 Z0 ) hZ (hw _ (List.mem_of_getElem? (i := 51) rfl)) (hw _ (List.mem_of_getElem? (i := 50) rfl)) (by decide) (by decide)) (g := (mkF m 154 #[.val (.int xa), .val (.int xb), .val (.ref bo), .val (.ref bk), .val (.int (6 : Int32)), .val (.int (2 : Int32)), .unset, .unset] [(.int (6 : Int32))])) rfl (by rw [hml]; rfl) (argsL := [(.int (6 : Int32))]) (rest := []) (lenOf pd_6 rfl) rfl (by show 2 * 0 + _ ≤ _; exact Nat.le_of_eq rfl) (hb hby at_154) (fun _ _ => ⟨rfl, e0, (by decide : 2 + 0 ≤ _), (by decide : 20 + 0 ≤ _)⟩)
    dsimp only [Pt.U, Pt.locs, Pt.cells, Pt.slots] at X8 l8 y8 z8 st8 hQ8
    subst l8 y8 z8
    obtain ⟨rfl, Nq8, e8⟩ := hQ8
    have N8 := Fr.app N0 Nq8
    have go10 : ∀ t, Steps p.tables e below (T8.setTop (mkF m 178 #[.val (.int xa), .val (.int xb), .val (.ref bo), .val (.ref bk), .val (.int (6 : Int32)), .val (.int (2 : Int32)), .val (.int (1 : Int32)), .val (.int (0 : Int32))] [])) t → Steps p.tables e below st0 t := by
      intro t kt
      refine go0 t ?_
      refine XS.iload X0.here hx rfl (hb hby at_152) rfl ?_
      show Steps p.tables e below (T0.setTop (mkF m 154 #[.val (.int xa), .val (.int xb), .val (.ref bo), .val (.ref bk), .val (.int (6 : Int32)), .val (.int (2 : Int32)), .unset, .unset] [(.int (6 : Int32))])) _
      refine st8 _ ?_
      show Steps p.tables e below (T8.setTop (mkF m 157 #[.val (.int xa), .val (.int xb), .val (.ref bo), .val (.ref bk), .val (.int (6 : Int32)), .val (.int (2 : Int32)), .unset, .unset] [(.int (1 : Int32))])) _
      refine XS.istore X8.here hx rfl (hb hby at_157) rfl (l' := #[.val (.int xa), .val (.int xb), .val (.ref bo), .val (.ref bk), .val (.int (6 : Int32)), .val (.int (2 : Int32)), .val (.int (1 : Int32)), .unset]) rfl ?_
      show Steps p.tables e below (T8.setTop (mkF m 159 #[.val (.int xa), .val (.int xb), .val (.ref bo), .val (.ref bk), .val (.int (6 : Int32)), .val (.int (2 : Int32)), .val (.int (1 : Int32)), .unset] [])) _
      refine XS.iload X8.here hx rfl (hb hby at_159) rfl ?_
      show Steps p.tables e below (T8.setTop (mkF m 161 #[.val (.int xa), .val (.int xb), .val (.ref bo), .val (.ref bk), .val (.int (6 : Int32)), .val (.int (2 : Int32)), .val (.int (1 : Int32)), .unset] [(.int (1 : Int32))])) _
      refine XS.ifNo X8.here hx rfl (hb hby at_161) rfl ((if0 _ _).trans (flt (by decide : ¬ ((1 : Int32) < (0 : Int32)))).1) ?_
      show Steps p.tables e below (T8.setTop (mkF m 164 #[.val (.int xa), .val (.int xb), .val (.ref bo), .val (.ref bk), .val (.int (6 : Int32)), .val (.int (2 : Int32)), .val (.int (1 : Int32)), .unset] [])) _
      refine XS.iload X8.here hx rfl (hb hby at_164) rfl ?_
      show Steps p.tables e below (T8.setTop (mkF m 166 #[.val (.int xa), .val (.int xb), .val (.ref bo), .val (.ref bk), .val (.int (6 : Int32)), .val (.int (2 : Int32)), .val (.int (1 : Int32)), .unset] [(.int (1 : Int32))])) _
      refine XS.iload X8.here hx rfl (hb hby at_166) rfl ?_
      show Steps p.tables e below (T8.setTop (mkF m 168 #[.val (.int xa), .val (.int xb), .val (.ref bo), .val (.ref bk), .val (.int (6 : Int32)), .val (.int (2 : Int32)), .val (.int (1 : Int32)), .unset] [(.int (2 : Int32)), (.int (1 : Int32))])) _
      refine XS.icmpYes X8.here hx rfl (pc0 := 168) (pc' := 175) rfl (hb hby at_168) rfl (feq (by decide : ¬ ((1 : Int32) = (2 : Int32)))).2 (by decide) (by decide) ?_
      show Steps p.tables e below (T8.setTop (mkF m 175 #[.val (.int xa), .val (.int xb), .val (.ref bo), .val (.ref bk), .val (.int (6 : Int32)), .val (.int (2 : Int32)), .val (.int (1 : Int32)), .unset] [])) _
      refine XS.iconst X8.here hx rfl (hb hby at_175) ?_
      show Steps p.tables e below (T8.setTop (mkF m 176 #[.val (.int xa), .val (.int xb), .val (.ref bo), .val (.ref bk), .val (.int (6 : Int32)), .val (.int (2 : Int32)), .val (.int (1 : Int32)), .unset] [(.int (0 : Int32))])) _
      refine XS.istore X8.here hx rfl (hb hby at_176) rfl (l' := #[.val (.int xa), .val (.int xb), .val (.ref bo), .val (.ref bk), .val (.int (6 : Int32)), .val (.int (2 : Int32)), .val (.int (1 : Int32)), .val (.int (0 : Int32))]) rfl ?_
      show Steps p.tables e below (T8.setTop (mkF m 178 #[.val (.int xa), .val (.int xb), .val (.ref bo), .val (.ref bk), .val (.int (6 : Int32)), .val (.int (2 : Int32)), .val (.int (1 : Int32)), .val (.int (0 : Int32))] [])) _
      exact kt
    obtain ⟨s₂, o₂, hs₂, hr₂⟩ := own_tail2 xa xb bo bk (6 : Int32) (2 : Int32) (1 : Int32) ko kk [(.ref c0), (.ref c1), (.ref c2), (.ref c3), (.ref c4), (.ref c5), (.ref c6), (.ref c7), (.ref c8), (.ref c9), (.ref c10), (.ref c11), (.ref c12), (.ref c13), (.ref c14), (.ref c15)] [(.ref d0), (.ref d1), (.ref d2), (.ref d3)] c6 d2 d1 X8 hx hZ hw hby hml hown e8 N8 Z0 hret hlk P0 P1 P2 P3 (by decide) rfl (by decide) rfl P7
    exact ⟨s₂, o₂, go10 _ hs₂, hr₂⟩
  · skip
    obtain ⟨_, _, ⟨T11, L11, k11, n11⟩, -, X11, ⟨Lc11, hQ11, l11, y11, z11⟩, st11⟩ := Jvm.LawKit.callS X0 hx (y := (⟨"com/example/tracewright/tracewright/engine/expr/UnaryOpAcceptsPinLaw", "sourceKindIndex", "(I)I"⟩ : MethodName)) hown (mvT hZ (hw _ (List.mem_of_getElem? (i := 48) rfl))) (mvT hZ (hw _ (List.mem_of_getElem? (i := 49) rfl))) (mvT hZ (hw _ (List.mem_of_getElem? (i := 50) rfl))) (mvT hZ (hw _ (List.mem_of_getElem? (i := 51) rfl))) (by decide) (backOf (W := 0) (own_src6 l Z a0 hw []  h0 n0 Z0 ) hZ (hw _ (List.mem_of_getElem? (i := 51) rfl)) (hw _ (List.mem_of_getElem? (i := 50) rfl)) (by decide) (by decide)) (g := (mkF m 154 #[.val (.int xa), .val (.int xb), .val (.ref bo), .val (.ref bk), .val (.int (6 : Int32)), .val (.int (3 : Int32)), .unset, .unset] [(.int (6 : Int32))])) rfl (by rw [hml]; rfl) (argsL := [(.int (6 : Int32))]) (rest := []) (lenOf pd_6 rfl) rfl (by show 2 * 0 + _ ≤ _; exact Nat.le_of_eq rfl) (hb hby at_154) (fun _ _ => ⟨rfl, e0, (by decide : 2 + 0 ≤ _), (by decide : 20 + 0 ≤ _)⟩)
    dsimp only [Pt.U, Pt.locs, Pt.cells, Pt.slots] at X11 l11 y11 z11 st11 hQ11
    subst l11 y11 z11
    obtain ⟨rfl, Nq11, e11⟩ := hQ11
    have N11 := Fr.app N0 Nq11
    have go13 : ∀ t, Steps p.tables e below (T11.setTop (mkF m 178 #[.val (.int xa), .val (.int xb), .val (.ref bo), .val (.ref bk), .val (.int (6 : Int32)), .val (.int (3 : Int32)), .val (.int (1 : Int32)), .val (.int (0 : Int32))] [])) t → Steps p.tables e below st0 t := by
      intro t kt
      refine go0 t ?_
      refine XS.iload X0.here hx rfl (hb hby at_152) rfl ?_
      show Steps p.tables e below (T0.setTop (mkF m 154 #[.val (.int xa), .val (.int xb), .val (.ref bo), .val (.ref bk), .val (.int (6 : Int32)), .val (.int (3 : Int32)), .unset, .unset] [(.int (6 : Int32))])) _
      refine st11 _ ?_
      show Steps p.tables e below (T11.setTop (mkF m 157 #[.val (.int xa), .val (.int xb), .val (.ref bo), .val (.ref bk), .val (.int (6 : Int32)), .val (.int (3 : Int32)), .unset, .unset] [(.int (1 : Int32))])) _
      refine XS.istore X11.here hx rfl (hb hby at_157) rfl (l' := #[.val (.int xa), .val (.int xb), .val (.ref bo), .val (.ref bk), .val (.int (6 : Int32)), .val (.int (3 : Int32)), .val (.int (1 : Int32)), .unset]) rfl ?_
      show Steps p.tables e below (T11.setTop (mkF m 159 #[.val (.int xa), .val (.int xb), .val (.ref bo), .val (.ref bk), .val (.int (6 : Int32)), .val (.int (3 : Int32)), .val (.int (1 : Int32)), .unset] [])) _
      refine XS.iload X11.here hx rfl (hb hby at_159) rfl ?_
      show Steps p.tables e below (T11.setTop (mkF m 161 #[.val (.int xa), .val (.int xb), .val (.ref bo), .val (.ref bk), .val (.int (6 : Int32)), .val (.int (3 : Int32)), .val (.int (1 : Int32)), .unset] [(.int (1 : Int32))])) _
      refine XS.ifNo X11.here hx rfl (hb hby at_161) rfl ((if0 _ _).trans (flt (by decide : ¬ ((1 : Int32) < (0 : Int32)))).1) ?_
      show Steps p.tables e below (T11.setTop (mkF m 164 #[.val (.int xa), .val (.int xb), .val (.ref bo), .val (.ref bk), .val (.int (6 : Int32)), .val (.int (3 : Int32)), .val (.int (1 : Int32)), .unset] [])) _
      refine XS.iload X11.here hx rfl (hb hby at_164) rfl ?_
      show Steps p.tables e below (T11.setTop (mkF m 166 #[.val (.int xa), .val (.int xb), .val (.ref bo), .val (.ref bk), .val (.int (6 : Int32)), .val (.int (3 : Int32)), .val (.int (1 : Int32)), .unset] [(.int (1 : Int32))])) _
      refine XS.iload X11.here hx rfl (hb hby at_166) rfl ?_
      show Steps p.tables e below (T11.setTop (mkF m 168 #[.val (.int xa), .val (.int xb), .val (.ref bo), .val (.ref bk), .val (.int (6 : Int32)), .val (.int (3 : Int32)), .val (.int (1 : Int32)), .unset] [(.int (3 : Int32)), (.int (1 : Int32))])) _
      refine XS.icmpYes X11.here hx rfl (pc0 := 168) (pc' := 175) rfl (hb hby at_168) rfl (feq (by decide : ¬ ((1 : Int32) = (3 : Int32)))).2 (by decide) (by decide) ?_
      show Steps p.tables e below (T11.setTop (mkF m 175 #[.val (.int xa), .val (.int xb), .val (.ref bo), .val (.ref bk), .val (.int (6 : Int32)), .val (.int (3 : Int32)), .val (.int (1 : Int32)), .unset] [])) _
      refine XS.iconst X11.here hx rfl (hb hby at_175) ?_
      show Steps p.tables e below (T11.setTop (mkF m 176 #[.val (.int xa), .val (.int xb), .val (.ref bo), .val (.ref bk), .val (.int (6 : Int32)), .val (.int (3 : Int32)), .val (.int (1 : Int32)), .unset] [(.int (0 : Int32))])) _
      refine XS.istore X11.here hx rfl (hb hby at_176) rfl (l' := #[.val (.int xa), .val (.int xb), .val (.ref bo), .val (.ref bk), .val (.int (6 : Int32)), .val (.int (3 : Int32)), .val (.int (1 : Int32)), .val (.int (0 : Int32))]) rfl ?_
      show Steps p.tables e below (T11.setTop (mkF m 178 #[.val (.int xa), .val (.int xb), .val (.ref bo), .val (.ref bk), .val (.int (6 : Int32)), .val (.int (3 : Int32)), .val (.int (1 : Int32)), .val (.int (0 : Int32))] [])) _
      exact kt
    obtain ⟨s₂, o₂, hs₂, hr₂⟩ := own_tail2 xa xb bo bk (6 : Int32) (3 : Int32) (1 : Int32) ko kk [(.ref c0), (.ref c1), (.ref c2), (.ref c3), (.ref c4), (.ref c5), (.ref c6), (.ref c7), (.ref c8), (.ref c9), (.ref c10), (.ref c11), (.ref c12), (.ref c13), (.ref c14), (.ref c15)] [(.ref d0), (.ref d1), (.ref d2), (.ref d3)] c6 d3 d1 X11 hx hZ hw hby hml hown e11 N11 Z0 hret hlk P0 P1 P2 P3 (by decide) rfl (by decide) rfl P8
    exact ⟨s₂, o₂, go13 _ hs₂, hr₂⟩
set_option maxRecDepth 65536 in
set_option maxHeartbeats 40000000 in
theorem own_mid7 {p : Program} {l : Launch} {e : Env} {s : State} {m : MethodId} {args : Array Value} {below : List Frame} {meth : Method} {c : Code} {T0 : State} {locs : List Loc} {Z : State} {a0 : Array Value} {h0 : Heap} {n0 : Nat} (xa : Int32) (xb : Int32) (bo : Addr) (bk : Addr) (kx : Int32) (c0 : Addr) (c1 : Addr) (c2 : Addr) (c3 : Addr) (c4 : Addr) (c5 : Addr) (c6 : Addr) (c7 : Addr) (c8 : Addr) (c9 : Addr) (c10 : Addr) (c11 : Addr) (c12 : Addr) (c13 : Addr) (c14 : Addr) (c15 : Addr) (d0 : Addr) (d1 : Addr) (d2 : Addr) (d3 : Addr) (ko : ClassId) (kk : ClassId) (X0 : Stand p l e room_1 s m args below meth c T0 locs 2 20) (hx : p.tables.exec = Jvm.exec) (hZ : Z.Warmed39 s.vm) (hw : ∀ d ∈ tables_1, d.before a0 Z = true) (hby : c.code = code) (hml : c.maxLocals = 8) (hown : s.vm.findClass "com/example/tracewright/tracewright/engine/expr/UnaryOpAcceptsPinLaw" = some m.cls) (e0 : T0.heap = h0) (N0 : Fr n0 locs) (Z0 : n0 ≤ h0.size) (hret : meth.sig.returnType = some .boolean) (hlk : meth.locks = false) (P0 : Arv Z h0 bo ko (.object "com/example/tracewright/tracewright/engine/expr/UnaryOp") (16 : Int32) [(.ref c0), (.ref c1), (.ref c2), (.ref c3), (.ref c4), (.ref c5), (.ref c6), (.ref c7), (.ref c8), (.ref c9), (.ref c10), (.ref c11), (.ref c12), (.ref c13), (.ref c14), (.ref c15)] .null) (P1 : Arv Z h0 bk kk (.object "com/example/tracewright/tracewright/engine/expr/Kind") (4 : Int32) [(.ref d0), (.ref d1), (.ref d2), (.ref d3)] .null) (P2 : Exa Z h0 c7 "com/example/tracewright/tracewright/engine/expr/UnaryOp") (P3 : Fld Z h0 c7 "com/example/tracewright/tracewright/engine/expr/UnaryOp" "from" "Lcom/example/tracewright/tracewright/engine/expr/Kind;" (.ref d2)) (P4 : d0 ≠ d1) (P5 : d0 ≠ d2) (P6 : d0 ≠ d3) (P7 : d1 ≠ d2) (P8 : d1 ≠ d3) (P9 : d2 ≠ d3) (hK : kx = (0 : Int32) ∨ kx = (1 : Int32) ∨ kx = (2 : Int32) ∨ kx = (3 : Int32)) :
    ∃ s₂ o, Steps p.tables e below (T0.setTop (mkF m 152 #[.val (.int xa), .val (.int xb), .val (.ref bo), .val (.ref bk), .val (.int (7 : Int32)), .val (.int kx), .unset, .unset] [])) s₂ ∧ s₂.status = .running ∧ Ended s₂ below o ∧ ∃ v L, o = .returned v ∧ (v = some (.int (1 : Int32)) ∧ Fr n0 L) ∧ FrameEnd s o s₂ L room_1.cells room_1.slots := by
  obtain ⟨st0, hst0⟩ : ∃ zst, zst = T0.setTop (mkF m 152 #[.val (.int xa), .val (.int xb), .val (.ref bo), .val (.ref bk), .val (.int (7 : Int32)), .val (.int kx), .unset, .unset] []) := ⟨_, rfl⟩
  have go0 : ∀ t, Steps p.tables e below (T0.setTop (mkF m 152 #[.val (.int xa), .val (.int xb), .val (.ref bo), .val (.ref bk), .val (.int (7 : Int32)), .val (.int kx), .unset, .unset] [])) t → Steps p.tables e below st0 t := fun t k => by rw [hst0]; exact k
  rw [← hst0]
  rcases hK with rfl | rfl | rfl | rfl
  · skip
    obtain ⟨_, _, ⟨T2, L2, k2, n2⟩, -, X2, ⟨Lc2, hQ2, l2, y2, z2⟩, st2⟩ := Jvm.LawKit.callS X0 hx (y := (⟨"com/example/tracewright/tracewright/engine/expr/UnaryOpAcceptsPinLaw", "sourceKindIndex", "(I)I"⟩ : MethodName)) hown (mvT hZ (hw _ (List.mem_of_getElem? (i := 48) rfl))) (mvT hZ (hw _ (List.mem_of_getElem? (i := 49) rfl))) (mvT hZ (hw _ (List.mem_of_getElem? (i := 50) rfl))) (mvT hZ (hw _ (List.mem_of_getElem? (i := 51) rfl))) (by decide) (backOf (W := 0) (own_src7 l Z a0 hw []  h0 n0 Z0 ) hZ (hw _ (List.mem_of_getElem? (i := 51) rfl)) (hw _ (List.mem_of_getElem? (i := 50) rfl)) (by decide) (by decide)) (g := (mkF m 154 #[.val (.int xa), .val (.int xb), .val (.ref bo), .val (.ref bk), .val (.int (7 : Int32)), .val (.int (0 : Int32)), .unset, .unset] [(.int (7 : Int32))])) rfl (by rw [hml]; rfl) (argsL := [(.int (7 : Int32))]) (rest := []) (lenOf pd_6 rfl) rfl (by show 2 * 0 + _ ≤ _; exact Nat.le_of_eq rfl) (hb hby at_154) (fun _ _ => ⟨rfl, e0, (by decide : 2 + 0 ≤ _), (by decide : 20 + 0 ≤ _)⟩)
    dsimp only [Pt.U, Pt.locs, Pt.cells, Pt.slots] at X2 l2 y2 z2 st2 hQ2
    subst l2 y2 z2
    obtain ⟨rfl, Nq2, e2⟩ := hQ2
    have N2 := Fr.app N0 Nq2
    have go4 : ∀ t, Steps p.tables e below (T2.setTop (mkF m 178 #[.val (.int xa), .val (.int xb), .val (.ref bo), .val (.ref bk), .val (.int (7 : Int32)), .val (.int (0 : Int32)), .val (.int (2 : Int32)), .val (.int (0 : Int32))] [])) t → Steps p.tables e below st0 t := by
      intro t kt
      refine go0 t ?_
      refine XS.iload X0.here hx rfl (hb hby at_152) rfl ?_
      show Steps p.tables e below (T0.setTop (mkF m 154 #[.val (.int xa), .val (.int xb), .val (.ref bo), .val (.ref bk), .val (.int (7 : Int32)), .val (.int (0 : Int32)), .unset, .unset] [(.int (7 : Int32))])) _
      refine st2 _ ?_
      show Steps p.tables e below (T2.setTop (mkF m 157 #[.val (.int xa), .val (.int xb), .val (.ref bo), .val (.ref bk), .val (.int (7 : Int32)), .val (.int (0 : Int32)), .unset, .unset] [(.int (2 : Int32))])) _
      refine XS.istore X2.here hx rfl (hb hby at_157) rfl (l' := #[.val (.int xa), .val (.int xb), .val (.ref bo), .val (.ref bk), .val (.int (7 : Int32)), .val (.int (0 : Int32)), .val (.int (2 : Int32)), .unset]) rfl ?_
      show Steps p.tables e below (T2.setTop (mkF m 159 #[.val (.int xa), .val (.int xb), .val (.ref bo), .val (.ref bk), .val (.int (7 : Int32)), .val (.int (0 : Int32)), .val (.int (2 : Int32)), .unset] [])) _
      refine XS.iload X2.here hx rfl (hb hby at_159) rfl ?_
      show Steps p.tables e below (T2.setTop (mkF m 161 #[.val (.int xa), .val (.int xb), .val (.ref bo), .val (.ref bk), .val (.int (7 : Int32)), .val (.int (0 : Int32)), .val (.int (2 : Int32)), .unset] [(.int (2 : Int32))])) _
      refine XS.ifNo X2.here hx rfl (hb hby at_161) rfl ((if0 _ _).trans (flt (by decide : ¬ ((2 : Int32) < (0 : Int32)))).1) ?_
      show Steps p.tables e below (T2.setTop (mkF m 164 #[.val (.int xa), .val (.int xb), .val (.ref bo), .val (.ref bk), .val (.int (7 : Int32)), .val (.int (0 : Int32)), .val (.int (2 : Int32)), .unset] [])) _
      refine XS.iload X2.here hx rfl (hb hby at_164) rfl ?_
      show Steps p.tables e below (T2.setTop (mkF m 166 #[.val (.int xa), .val (.int xb), .val (.ref bo), .val (.ref bk), .val (.int (7 : Int32)), .val (.int (0 : Int32)), .val (.int (2 : Int32)), .unset] [(.int (2 : Int32))])) _
      refine XS.iload X2.here hx rfl (hb hby at_166) rfl ?_
      show Steps p.tables e below (T2.setTop (mkF m 168 #[.val (.int xa), .val (.int xb), .val (.ref bo), .val (.ref bk), .val (.int (7 : Int32)), .val (.int (0 : Int32)), .val (.int (2 : Int32)), .unset] [(.int (0 : Int32)), (.int (2 : Int32))])) _
      refine XS.icmpYes X2.here hx rfl (pc0 := 168) (pc' := 175) rfl (hb hby at_168) rfl (feq (by decide : ¬ ((2 : Int32) = (0 : Int32)))).2 (by decide) (by decide) ?_
      show Steps p.tables e below (T2.setTop (mkF m 175 #[.val (.int xa), .val (.int xb), .val (.ref bo), .val (.ref bk), .val (.int (7 : Int32)), .val (.int (0 : Int32)), .val (.int (2 : Int32)), .unset] [])) _
      refine XS.iconst X2.here hx rfl (hb hby at_175) ?_
      show Steps p.tables e below (T2.setTop (mkF m 176 #[.val (.int xa), .val (.int xb), .val (.ref bo), .val (.ref bk), .val (.int (7 : Int32)), .val (.int (0 : Int32)), .val (.int (2 : Int32)), .unset] [(.int (0 : Int32))])) _
      refine XS.istore X2.here hx rfl (hb hby at_176) rfl (l' := #[.val (.int xa), .val (.int xb), .val (.ref bo), .val (.ref bk), .val (.int (7 : Int32)), .val (.int (0 : Int32)), .val (.int (2 : Int32)), .val (.int (0 : Int32))]) rfl ?_
      show Steps p.tables e below (T2.setTop (mkF m 178 #[.val (.int xa), .val (.int xb), .val (.ref bo), .val (.ref bk), .val (.int (7 : Int32)), .val (.int (0 : Int32)), .val (.int (2 : Int32)), .val (.int (0 : Int32))] [])) _
      exact kt
    obtain ⟨s₂, o₂, hs₂, hr₂⟩ := own_tail2 xa xb bo bk (7 : Int32) (0 : Int32) (2 : Int32) ko kk [(.ref c0), (.ref c1), (.ref c2), (.ref c3), (.ref c4), (.ref c5), (.ref c6), (.ref c7), (.ref c8), (.ref c9), (.ref c10), (.ref c11), (.ref c12), (.ref c13), (.ref c14), (.ref c15)] [(.ref d0), (.ref d1), (.ref d2), (.ref d3)] c7 d0 d2 X2 hx hZ hw hby hml hown e2 N2 Z0 hret hlk P0 P1 P2 P3 (by decide) rfl (by decide) rfl (Ne.symm P5)
    exact ⟨s₂, o₂, go4 _ hs₂, hr₂⟩
  · skip
    obtain ⟨_, _, ⟨T5, L5, k5, n5⟩, -, X5, ⟨Lc5, hQ5, l5, y5, z5⟩, st5⟩ := Jvm.LawKit.callS X0 hx (y := (⟨"com/example/tracewright/tracewright/engine/expr/UnaryOpAcceptsPinLaw", "sourceKindIndex", "(I)I"⟩ : MethodName)) hown (mvT hZ (hw _ (List.mem_of_getElem? (i := 48) rfl))) (mvT hZ (hw _ (List.mem_of_getElem? (i := 49) rfl))) (mvT hZ (hw _ (List.mem_of_getElem? (i := 50) rfl))) (mvT hZ (hw _ (List.mem_of_getElem? (i := 51) rfl))) (by decide) (backOf (W := 0) (own_src7 l Z a0 hw []  h0 n0 Z0 ) hZ (hw _ (List.mem_of_getElem? (i := 51) rfl)) (hw _ (List.mem_of_getElem? (i := 50) rfl)) (by decide) (by decide)) (g := (mkF m 154 #[.val (.int xa), .val (.int xb), .val (.ref bo), .val (.ref bk), .val (.int (7 : Int32)), .val (.int (1 : Int32)), .unset, .unset] [(.int (7 : Int32))])) rfl (by rw [hml]; rfl) (argsL := [(.int (7 : Int32))]) (rest := []) (lenOf pd_6 rfl) rfl (by show 2 * 0 + _ ≤ _; exact Nat.le_of_eq rfl) (hb hby at_154) (fun _ _ => ⟨rfl, e0, (by decide : 2 + 0 ≤ _), (by decide : 20 + 0 ≤ _)⟩)
    dsimp only [Pt.U, Pt.locs, Pt.cells, Pt.slots] at X5 l5 y5 z5 st5 hQ5
    subst l5 y5 z5
    obtain ⟨rfl, Nq5, e5⟩ := hQ5
    have N5 := Fr.app N0 Nq5
    have go7 : ∀ t, Steps p.tables e below (T5.setTop (mkF m 178 #[.val (.int xa), .val (.int xb), .val (.ref bo), .val (.ref bk), .val (.int (7 : Int32)), .val (.int (1 : Int32)), .val (.int (2 : Int32)), .val (.int (0 : Int32))] [])) t → Steps p.tables e below st0 t := by
      intro t kt
      refine go0 t ?_
      refine XS.iload X0.here hx rfl (hb hby at_152) rfl ?_
      show Steps p.tables e below (T0.setTop (mkF m 154 #[.val (.int xa), .val (.int xb), .val (.ref bo), .val (.ref bk), .val (.int (7 : Int32)), .val (.int (1 : Int32)), .unset, .unset] [(.int (7 : Int32))])) _
      refine st5 _ ?_
      show Steps p.tables e below (T5.setTop (mkF m 157 #[.val (.int xa), .val (.int xb), .val (.ref bo), .val (.ref bk), .val (.int (7 : Int32)), .val (.int (1 : Int32)), .unset, .unset] [(.int (2 : Int32))])) _
      refine XS.istore X5.here hx rfl (hb hby at_157) rfl (l' := #[.val (.int xa), .val (.int xb), .val (.ref bo), .val (.ref bk), .val (.int (7 : Int32)), .val (.int (1 : Int32)), .val (.int (2 : Int32)), .unset]) rfl ?_
      show Steps p.tables e below (T5.setTop (mkF m 159 #[.val (.int xa), .val (.int xb), .val (.ref bo), .val (.ref bk), .val (.int (7 : Int32)), .val (.int (1 : Int32)), .val (.int (2 : Int32)), .unset] [])) _
      refine XS.iload X5.here hx rfl (hb hby at_159) rfl ?_
      show Steps p.tables e below (T5.setTop (mkF m 161 #[.val (.int xa), .val (.int xb), .val (.ref bo), .val (.ref bk), .val (.int (7 : Int32)), .val (.int (1 : Int32)), .val (.int (2 : Int32)), .unset] [(.int (2 : Int32))])) _
      refine XS.ifNo X5.here hx rfl (hb hby at_161) rfl ((if0 _ _).trans (flt (by decide : ¬ ((2 : Int32) < (0 : Int32)))).1) ?_
      show Steps p.tables e below (T5.setTop (mkF m 164 #[.val (.int xa), .val (.int xb), .val (.ref bo), .val (.ref bk), .val (.int (7 : Int32)), .val (.int (1 : Int32)), .val (.int (2 : Int32)), .unset] [])) _
      refine XS.iload X5.here hx rfl (hb hby at_164) rfl ?_
      show Steps p.tables e below (T5.setTop (mkF m 166 #[.val (.int xa), .val (.int xb), .val (.ref bo), .val (.ref bk), .val (.int (7 : Int32)), .val (.int (1 : Int32)), .val (.int (2 : Int32)), .unset] [(.int (2 : Int32))])) _
      refine XS.iload X5.here hx rfl (hb hby at_166) rfl ?_
      show Steps p.tables e below (T5.setTop (mkF m 168 #[.val (.int xa), .val (.int xb), .val (.ref bo), .val (.ref bk), .val (.int (7 : Int32)), .val (.int (1 : Int32)), .val (.int (2 : Int32)), .unset] [(.int (1 : Int32)), (.int (2 : Int32))])) _
      refine XS.icmpYes X5.here hx rfl (pc0 := 168) (pc' := 175) rfl (hb hby at_168) rfl (feq (by decide : ¬ ((2 : Int32) = (1 : Int32)))).2 (by decide) (by decide) ?_
      show Steps p.tables e below (T5.setTop (mkF m 175 #[.val (.int xa), .val (.int xb), .val (.ref bo), .val (.ref bk), .val (.int (7 : Int32)), .val (.int (1 : Int32)), .val (.int (2 : Int32)), .unset] [])) _
      refine XS.iconst X5.here hx rfl (hb hby at_175) ?_
      show Steps p.tables e below (T5.setTop (mkF m 176 #[.val (.int xa), .val (.int xb), .val (.ref bo), .val (.ref bk), .val (.int (7 : Int32)), .val (.int (1 : Int32)), .val (.int (2 : Int32)), .unset] [(.int (0 : Int32))])) _
      refine XS.istore X5.here hx rfl (hb hby at_176) rfl (l' := #[.val (.int xa), .val (.int xb), .val (.ref bo), .val (.ref bk), .val (.int (7 : Int32)), .val (.int (1 : Int32)), .val (.int (2 : Int32)), .val (.int (0 : Int32))]) rfl ?_
      show Steps p.tables e below (T5.setTop (mkF m 178 #[.val (.int xa), .val (.int xb), .val (.ref bo), .val (.ref bk), .val (.int (7 : Int32)), .val (.int (1 : Int32)), .val (.int (2 : Int32)), .val (.int (0 : Int32))] [])) _
      exact kt
    obtain ⟨s₂, o₂, hs₂, hr₂⟩ := own_tail2 xa xb bo bk (7 : Int32) (1 : Int32) (2 : Int32) ko kk [(.ref c0), (.ref c1), (.ref c2), (.ref c3), (.ref c4), (.ref c5), (.ref c6), (.ref c7), (.ref c8), (.ref c9), (.ref c10), (.ref c11), (.ref c12), (.ref c13), (.ref c14), (.ref c15)] [(.ref d0), (.ref d1), (.ref d2), (.ref d3)] c7 d1 d2 X5 hx hZ hw hby hml hown e5 N5 Z0 hret hlk P0 P1 P2 P3 (by decide) rfl (by decide) rfl (Ne.symm P7)
    exact ⟨s₂, o₂, go7 _ hs₂, hr₂⟩
  · skip
    obtain ⟨_, _, ⟨T8, L8, k8, n8⟩, -, X8, ⟨Lc8, hQ8, l8, y8, z8⟩, st8⟩ := Jvm.LawKit.callS X0 hx (y := (⟨"com/example/tracewright/tracewright/engine/expr/UnaryOpAcceptsPinLaw", "sourceKindIndex", "(I)I"⟩ : MethodName)) hown (mvT hZ (hw _ (List.mem_of_getElem? (i := 48) rfl))) (mvT hZ (hw _ (List.mem_of_getElem? (i := 49) rfl))) (mvT hZ (hw _ (List.mem_of_getElem? (i := 50) rfl))) (mvT hZ (hw _ (List.mem_of_getElem? (i := 51) rfl))) (by decide) (backOf (W := 0) (own_src7 l Z a0 hw []  h0 n0 Z0 ) hZ (hw _ (List.mem_of_getElem? (i := 51) rfl)) (hw _ (List.mem_of_getElem? (i := 50) rfl)) (by decide) (by decide)) (g := (mkF m 154 #[.val (.int xa), .val (.int xb), .val (.ref bo), .val (.ref bk), .val (.int (7 : Int32)), .val (.int (2 : Int32)), .unset, .unset] [(.int (7 : Int32))])) rfl (by rw [hml]; rfl) (argsL := [(.int (7 : Int32))]) (rest := []) (lenOf pd_6 rfl) rfl (by show 2 * 0 + _ ≤ _; exact Nat.le_of_eq rfl) (hb hby at_154) (fun _ _ => ⟨rfl, e0, (by decide : 2 + 0 ≤ _), (by decide : 20 + 0 ≤ _)⟩)
    dsimp only [Pt.U, Pt.locs, Pt.cells, Pt.slots] at X8 l8 y8 z8 st8 hQ8
    subst l8 y8 z8
    obtain ⟨rfl, Nq8, e8⟩ := hQ8
    have N8 := Fr.app N0 Nq8
    have go10 : ∀ t, Steps p.tables e below (T8.setTop (mkF m 178 #[.val (.int xa), .val (.int xb), .val (.ref bo), .val (.ref bk), .val (.int (7 : Int32)), .val (.int (2 : Int32)), .val (.int (2 : Int32)), .val (.int (1 : Int32))] [])) t → Steps p.tables e below st0 t := by
      intro t kt
      refine go0 t ?_
      refine XS.iload X0.here hx rfl (hb hby at_152) rfl ?_
      show Steps p.tables e below (T0.setTop (mkF m 154 #[.val (.int xa), .val (.int xb), .val (.ref bo), .val (.ref bk), .val (.int (7 : Int32)), .val (.int (2 : Int32)), .unset, .unset] [(.int (7 : Int32))])) _
      refine st8 _ ?_
      show Steps p.tables e below (T8.setTop (mkF m 157 #[.val (.int xa), .val (.int xb), .val (.ref bo), .val (.ref bk), .val (.int (7 : Int32)), .val (.int (2 : Int32)), .unset, .unset] [(.int (2 : Int32))])) _
      refine XS.istore X8.here hx rfl (hb hby at_157) rfl (l' := #[.val (.int xa), .val (.int xb), .val (.ref bo), .val (.ref bk), .val (.int (7 : Int32)), .val (.int (2 : Int32)), .val (.int (2 : Int32)), .unset]) rfl ?_
      show Steps p.tables e below (T8.setTop (mkF m 159 #[.val (.int xa), .val (.int xb), .val (.ref bo), .val (.ref bk), .val (.int (7 : Int32)), .val (.int (2 : Int32)), .val (.int (2 : Int32)), .unset] [])) _
      refine XS.iload X8.here hx rfl (hb hby at_159) rfl ?_
      show Steps p.tables e below (T8.setTop (mkF m 161 #[.val (.int xa), .val (.int xb), .val (.ref bo), .val (.ref bk), .val (.int (7 : Int32)), .val (.int (2 : Int32)), .val (.int (2 : Int32)), .unset] [(.int (2 : Int32))])) _
      refine XS.ifNo X8.here hx rfl (hb hby at_161) rfl ((if0 _ _).trans (flt (by decide : ¬ ((2 : Int32) < (0 : Int32)))).1) ?_
      show Steps p.tables e below (T8.setTop (mkF m 164 #[.val (.int xa), .val (.int xb), .val (.ref bo), .val (.ref bk), .val (.int (7 : Int32)), .val (.int (2 : Int32)), .val (.int (2 : Int32)), .unset] [])) _
      refine XS.iload X8.here hx rfl (hb hby at_164) rfl ?_
      show Steps p.tables e below (T8.setTop (mkF m 166 #[.val (.int xa), .val (.int xb), .val (.ref bo), .val (.ref bk), .val (.int (7 : Int32)), .val (.int (2 : Int32)), .val (.int (2 : Int32)), .unset] [(.int (2 : Int32))])) _
      refine XS.iload X8.here hx rfl (hb hby at_166) rfl ?_
      show Steps p.tables e below (T8.setTop (mkF m 168 #[.val (.int xa), .val (.int xb), .val (.ref bo), .val (.ref bk), .val (.int (7 : Int32)), .val (.int (2 : Int32)), .val (.int (2 : Int32)), .unset] [(.int (2 : Int32)), (.int (2 : Int32))])) _
      refine XS.icmpNo X8.here hx rfl (hb hby at_168) rfl (teq (by decide : (2 : Int32) = (2 : Int32))).2 ?_
      show Steps p.tables e below (T8.setTop (mkF m 171 #[.val (.int xa), .val (.int xb), .val (.ref bo), .val (.ref bk), .val (.int (7 : Int32)), .val (.int (2 : Int32)), .val (.int (2 : Int32)), .unset] [])) _
      refine XS.iconst X8.here hx rfl (hb hby at_171) ?_
      show Steps p.tables e below (T8.setTop (mkF m 172 #[.val (.int xa), .val (.int xb), .val (.ref bo), .val (.ref bk), .val (.int (7 : Int32)), .val (.int (2 : Int32)), .val (.int (2 : Int32)), .unset] [(.int (1 : Int32))])) _
      refine XS.goto X8.here hx rfl (pc0 := 172) (pc' := 176) rfl (hb hby at_172) (by decide) (by decide) ?_
      show Steps p.tables e below (T8.setTop (mkF m 176 #[.val (.int xa), .val (.int xb), .val (.ref bo), .val (.ref bk), .val (.int (7 : Int32)), .val (.int (2 : Int32)), .val (.int (2 : Int32)), .unset] [(.int (1 : Int32))])) _
      refine XS.istore X8.here hx rfl (hb hby at_176) rfl (l' := #[.val (.int xa), .val (.int xb), .val (.ref bo), .val (.ref bk), .val (.int (7 : Int32)), .val (.int (2 : Int32)), .val (.int (2 : Int32)), .val (.int (1 : Int32))]) rfl ?_
      show Steps p.tables e below (T8.setTop (mkF m 178 #[.val (.int xa), .val (.int xb), .val (.ref bo), .val (.ref bk), .val (.int (7 : Int32)), .val (.int (2 : Int32)), .val (.int (2 : Int32)), .val (.int (1 : Int32))] [])) _
      exact kt
    obtain ⟨s₂, o₂, hs₂, hr₂⟩ := own_tail1 xa xb bo bk (7 : Int32) (2 : Int32) (2 : Int32) ko kk [(.ref c0), (.ref c1), (.ref c2), (.ref c3), (.ref c4), (.ref c5), (.ref c6), (.ref c7), (.ref c8), (.ref c9), (.ref c10), (.ref c11), (.ref c12), (.ref c13), (.ref c14), (.ref c15)] [(.ref d0), (.ref d1), (.ref d2), (.ref d3)] c7 d2 X8 hx hZ hw hby hml hown e8 N8 Z0 hret hlk P0 P1 P2 P3 (by decide) rfl (by decide) rfl
    exact ⟨s₂, o₂, go10 _ hs₂, hr₂⟩
  · skip
    obtain ⟨_, _, ⟨T11, L11, k11, n11⟩, -, X11, ⟨Lc11, hQ11, l11, y11, z11⟩, st11⟩ := Jvm.LawKit.callS X0 hx (y := (⟨"com/example/tracewright/tracewright/engine/expr/UnaryOpAcceptsPinLaw", "sourceKindIndex", "(I)I"⟩ : MethodName)) hown (mvT hZ (hw _ (List.mem_of_getElem? (i := 48) rfl))) (mvT hZ (hw _ (List.mem_of_getElem? (i := 49) rfl))) (mvT hZ (hw _ (List.mem_of_getElem? (i := 50) rfl))) (mvT hZ (hw _ (List.mem_of_getElem? (i := 51) rfl))) (by decide) (backOf (W := 0) (own_src7 l Z a0 hw []  h0 n0 Z0 ) hZ (hw _ (List.mem_of_getElem? (i := 51) rfl)) (hw _ (List.mem_of_getElem? (i := 50) rfl)) (by decide) (by decide)) (g := (mkF m 154 #[.val (.int xa), .val (.int xb), .val (.ref bo), .val (.ref bk), .val (.int (7 : Int32)), .val (.int (3 : Int32)), .unset, .unset] [(.int (7 : Int32))])) rfl (by rw [hml]; rfl) (argsL := [(.int (7 : Int32))]) (rest := []) (lenOf pd_6 rfl) rfl (by show 2 * 0 + _ ≤ _; exact Nat.le_of_eq rfl) (hb hby at_154) (fun _ _ => ⟨rfl, e0, (by decide : 2 + 0 ≤ _), (by decide : 20 + 0 ≤ _)⟩)
    dsimp only [Pt.U, Pt.locs, Pt.cells, Pt.slots] at X11 l11 y11 z11 st11 hQ11
    subst l11 y11 z11
    obtain ⟨rfl, Nq11, e11⟩ := hQ11
    have N11 := Fr.app N0 Nq11
    have go13 : ∀ t, Steps p.tables e below (T11.setTop (mkF m 178 #[.val (.int xa), .val (.int xb), .val (.ref bo), .val (.ref bk), .val (.int (7 : Int32)), .val (.int (3 : Int32)), .val (.int (2 : Int32)), .val (.int (0 : Int32))] [])) t → Steps p.tables e below st0 t := by
      intro t kt
      refine go0 t ?_
      refine XS.iload X0.here hx rfl (hb hby at_152) rfl ?_
      show Steps p.tables e below (T0.setTop (mkF m 154 #[.val (.int xa), .val (.int xb), .val (.ref bo), .val (.ref bk), .val (.int (7 : Int32)), .val (.int (3 : Int32)), .unset, .unset] [(.int (7 : Int32))])) _
      refine st11 _ ?_
      show Steps p.tables e below (T11.setTop (mkF m 157 #[.val (.int xa), .val (.int xb), .val (.ref bo), .val (.ref bk), .val (.int (7 : Int32)), .val (.int (3 : Int32)), .unset, .unset] [(.int (2 : Int32))])) _
      refine XS.istore X11.here hx rfl (hb hby at_157) rfl (l' := #[.val (.int xa), .val (.int xb), .val (.ref bo), .val (.ref bk), .val (.int (7 : Int32)), .val (.int (3 : Int32)), .val (.int (2 : Int32)), .unset]) rfl ?_
      show Steps p.tables e below (T11.setTop (mkF m 159 #[.val (.int xa), .val (.int xb), .val (.ref bo), .val (.ref bk), .val (.int (7 : Int32)), .val (.int (3 : Int32)), .val (.int (2 : Int32)), .unset] [])) _
      refine XS.iload X11.here hx rfl (hb hby at_159) rfl ?_
      show Steps p.tables e below (T11.setTop (mkF m 161 #[.val (.int xa), .val (.int xb), .val (.ref bo), .val (.ref bk), .val (.int (7 : Int32)), .val (.int (3 : Int32)), .val (.int (2 : Int32)), .unset] [(.int (2 : Int32))])) _
      refine XS.ifNo X11.here hx rfl (hb hby at_161) rfl ((if0 _ _).trans (flt (by decide : ¬ ((2 : Int32) < (0 : Int32)))).1) ?_
      show Steps p.tables e below (T11.setTop (mkF m 164 #[.val (.int xa), .val (.int xb), .val (.ref bo), .val (.ref bk), .val (.int (7 : Int32)), .val (.int (3 : Int32)), .val (.int (2 : Int32)), .unset] [])) _
      refine XS.iload X11.here hx rfl (hb hby at_164) rfl ?_
      show Steps p.tables e below (T11.setTop (mkF m 166 #[.val (.int xa), .val (.int xb), .val (.ref bo), .val (.ref bk), .val (.int (7 : Int32)), .val (.int (3 : Int32)), .val (.int (2 : Int32)), .unset] [(.int (2 : Int32))])) _
      refine XS.iload X11.here hx rfl (hb hby at_166) rfl ?_
      show Steps p.tables e below (T11.setTop (mkF m 168 #[.val (.int xa), .val (.int xb), .val (.ref bo), .val (.ref bk), .val (.int (7 : Int32)), .val (.int (3 : Int32)), .val (.int (2 : Int32)), .unset] [(.int (3 : Int32)), (.int (2 : Int32))])) _
      refine XS.icmpYes X11.here hx rfl (pc0 := 168) (pc' := 175) rfl (hb hby at_168) rfl (feq (by decide : ¬ ((2 : Int32) = (3 : Int32)))).2 (by decide) (by decide) ?_
      show Steps p.tables e below (T11.setTop (mkF m 175 #[.val (.int xa), .val (.int xb), .val (.ref bo), .val (.ref bk), .val (.int (7 : Int32)), .val (.int (3 : Int32)), .val (.int (2 : Int32)), .unset] [])) _
      refine XS.iconst X11.here hx rfl (hb hby at_175) ?_
      show Steps p.tables e below (T11.setTop (mkF m 176 #[.val (.int xa), .val (.int xb), .val (.ref bo), .val (.ref bk), .val (.int (7 : Int32)), .val (.int (3 : Int32)), .val (.int (2 : Int32)), .unset] [(.int (0 : Int32))])) _
      refine XS.istore X11.here hx rfl (hb hby at_176) rfl (l' := #[.val (.int xa), .val (.int xb), .val (.ref bo), .val (.ref bk), .val (.int (7 : Int32)), .val (.int (3 : Int32)), .val (.int (2 : Int32)), .val (.int (0 : Int32))]) rfl ?_
      show Steps p.tables e below (T11.setTop (mkF m 178 #[.val (.int xa), .val (.int xb), .val (.ref bo), .val (.ref bk), .val (.int (7 : Int32)), .val (.int (3 : Int32)), .val (.int (2 : Int32)), .val (.int (0 : Int32))] [])) _
      exact kt
    obtain ⟨s₂, o₂, hs₂, hr₂⟩ := own_tail2 xa xb bo bk (7 : Int32) (3 : Int32) (2 : Int32) ko kk [(.ref c0), (.ref c1), (.ref c2), (.ref c3), (.ref c4), (.ref c5), (.ref c6), (.ref c7), (.ref c8), (.ref c9), (.ref c10), (.ref c11), (.ref c12), (.ref c13), (.ref c14), (.ref c15)] [(.ref d0), (.ref d1), (.ref d2), (.ref d3)] c7 d3 d2 X11 hx hZ hw hby hml hown e11 N11 Z0 hret hlk P0 P1 P2 P3 (by decide) rfl (by decide) rfl P9
    exact ⟨s₂, o₂, go13 _ hs₂, hr₂⟩
set_option maxRecDepth 65536 in
set_option maxHeartbeats 40000000 in
theorem own_mid8 {p : Program} {l : Launch} {e : Env} {s : State} {m : MethodId} {args : Array Value} {below : List Frame} {meth : Method} {c : Code} {T0 : State} {locs : List Loc} {Z : State} {a0 : Array Value} {h0 : Heap} {n0 : Nat} (xa : Int32) (xb : Int32) (bo : Addr) (bk : Addr) (kx : Int32) (c0 : Addr) (c1 : Addr) (c2 : Addr) (c3 : Addr) (c4 : Addr) (c5 : Addr) (c6 : Addr) (c7 : Addr) (c8 : Addr) (c9 : Addr) (c10 : Addr) (c11 : Addr) (c12 : Addr) (c13 : Addr) (c14 : Addr) (c15 : Addr) (d0 : Addr) (d1 : Addr) (d2 : Addr) (d3 : Addr) (ko : ClassId) (kk : ClassId) (X0 : Stand p l e room_1 s m args below meth c T0 locs 2 20) (hx : p.tables.exec = Jvm.exec) (hZ : Z.Warmed39 s.vm) (hw : ∀ d ∈ tables_1, d.before a0 Z = true) (hby : c.code = code) (hml : c.maxLocals = 8) (hown : s.vm.findClass "com/example/tracewright/tracewright/engine/expr/UnaryOpAcceptsPinLaw" = some m.cls) (e0 : T0.heap = h0) (N0 : Fr n0 locs) (Z0 : n0 ≤ h0.size) (hret : meth.sig.returnType = some .boolean) (hlk : meth.locks = false) (P0 : Arv Z h0 bo ko (.object "com/example/tracewright/tracewright/engine/expr/UnaryOp") (16 : Int32) [(.ref c0), (.ref c1), (.ref c2), (.ref c3), (.ref c4), (.ref c5), (.ref c6), (.ref c7), (.ref c8), (.ref c9), (.ref c10), (.ref c11), (.ref c12), (.ref c13), (.ref c14), (.ref c15)] .null) (P1 : Arv Z h0 bk kk (.object "com/example/tracewright/tracewright/engine/expr/Kind") (4 : Int32) [(.ref d0), (.ref d1), (.ref d2), (.ref d3)] .null) (P2 : Exa Z h0 c8 "com/example/tracewright/tracewright/engine/expr/UnaryOp") (P3 : Fld Z h0 c8 "com/example/tracewright/tracewright/engine/expr/UnaryOp" "from" "Lcom/example/tracewright/tracewright/engine/expr/Kind;" (.ref d2)) (P4 : d0 ≠ d1) (P5 : d0 ≠ d2) (P6 : d0 ≠ d3) (P7 : d1 ≠ d2) (P8 : d1 ≠ d3) (P9 : d2 ≠ d3) (hK : kx = (0 : Int32) ∨ kx = (1 : Int32) ∨ kx = (2 : Int32) ∨ kx = (3 : Int32)) :
    ∃ s₂ o, Steps p.tables e below (T0.setTop (mkF m 152 #[.val (.int xa), .val (.int xb), .val (.ref bo), .val (.ref bk), .val (.int (8 : Int32)), .val (.int kx), .unset, .unset] [])) s₂ ∧ s₂.status = .running ∧ Ended s₂ below o ∧ ∃ v L, o = .returned v ∧ (v = some (.int (1 : Int32)) ∧ Fr n0 L) ∧ FrameEnd s o s₂ L room_1.cells room_1.slots := by
  obtain ⟨st0, hst0⟩ : ∃ zst, zst = T0.setTop (mkF m 152 #[.val (.int xa), .val (.int xb), .val (.ref bo), .val (.ref bk), .val (.int (8 : Int32)), .val (.int kx), .unset, .unset] []) := ⟨_, rfl⟩
  have go0 : ∀ t, Steps p.tables e below (T0.setTop (mkF m 152 #[.val (.int xa), .val (.int xb), .val (.ref bo), .val (.ref bk), .val (.int (8 : Int32)), .val (.int kx), .unset, .unset] [])) t → Steps p.tables e below st0 t := fun t k => by rw [hst0]; exact k
  rw [← hst0]
  rcases hK with rfl | rfl | rfl | rfl
  · skip
    obtain ⟨_, _, ⟨T2, L2, k2, n2⟩, -, X2, ⟨Lc2, hQ2, l2, y2, z2⟩, st2⟩ := Jvm.LawKit.callS X0 hx (y := (⟨"com/example/tracewright/tracewright/engine/expr/UnaryOpAcceptsPinLaw", "sourceKindIndex", "(I)I"⟩ : MethodName)) hown (mvT hZ (hw _ (List.mem_of_getElem? (i := 48) rfl))) (mvT hZ (hw _ (List.mem_of_getElem? (i := 49) rfl))) (mvT hZ (hw _ (List.mem_of_getElem? (i := 50) rfl))) (mvT hZ (hw _ (List.mem_of_getElem? (i := 51) rfl))) (by decide) (backOf (W := 0) (own_src8 l Z a0 hw []  h0 n0 Z0 ) hZ (hw _ (List.mem_of_getElem? (i := 51) rfl)) (hw _ (List.mem_of_getElem? (i := 50) rfl)) (by decide) (by decide)) (g := (mkF m 154 #[.val (.int xa), .val (.int xb), .val (.ref bo), .val (.ref bk), .val (.int (8 : Int32)), .val (.int (0 : Int32)), .unset, .unset] [(.int (8 : Int32))])) rfl (by rw [hml]; rfl) (argsL := [(.int (8 : Int32))]) (rest := []) (lenOf pd_6 rfl) rfl (by show 2 * 0 + _ ≤ _; exact Nat.le_of_eq rfl) (hb hby at_154) (fun _ _ => ⟨rfl, e0, (by decide : 2 + 0 ≤ _), (by decide : 20 + 0 ≤ _)⟩)
    dsimp only [Pt.U, Pt.locs, Pt.cells, Pt.slots] at X2 l2 y2 z2 st2 hQ2
    subst l2 y2 z2
    obtain ⟨rfl, Nq2, e2⟩ := hQ2
    have N2 := Fr.app N0 Nq2
    have go4 : ∀ t, Steps p.tables e below (T2.setTop (mkF m 178 #[.val (.int xa), .val (.int xb), .val (.ref bo), .val (.ref bk), .val (.int (8 : Int32)), .val (.int (0 : Int32)), .val (.int (2 : Int32)), .val (.int (0 : Int32))] [])) t → Steps p.tables e below st0 t := by
      intro t kt
      refine go0 t ?_
      refine XS.iload X0.here hx rfl (hb hby at_152) rfl ?_
      show Steps p.tables e below (T0.setTop (mkF m 154 #[.val (.int xa), .val (.int xb), .val (.ref bo), .val (.ref bk), .val (.int (8 : Int32)), .val (.int (0 : Int32)), .unset, .unset] [(.int (8 : Int32))])) _
      refine st2 _ ?_
      show Steps p.tables e below (T2.setTop (mkF m 157 #[.val (.int xa), .val (.int xb), .val (.ref bo), .val (.ref bk), .val (.int (8 : Int32)), .val (.int (0 : Int32)), .unset, .unset] [(.int (2 : Int32))])) _
      refine XS.istore X2.here hx rfl (hb hby at_157) rfl (l' := #[.val (.int xa), .val (.int xb), .val (.ref bo), .val (.ref bk), .val (.int (8 : Int32)), .val (.int (0 : Int32)), .val (.int (2 : Int32)), .unset]) rfl ?_
      show Steps p.tables e below (T2.setTop (mkF m 159 #[.val (.int xa), .val (.int xb), .val (.ref bo), .val (.ref bk), .val (.int (8 : Int32)), .val (.int (0 : Int32)), .val (.int (2 : Int32)), .unset] [])) _
      refine XS.iload X2.here hx rfl (hb hby at_159) rfl ?_
      show Steps p.tables e below (T2.setTop (mkF m 161 #[.val (.int xa), .val (.int xb), .val (.ref bo), .val (.ref bk), .val (.int (8 : Int32)), .val (.int (0 : Int32)), .val (.int (2 : Int32)), .unset] [(.int (2 : Int32))])) _
      refine XS.ifNo X2.here hx rfl (hb hby at_161) rfl ((if0 _ _).trans (flt (by decide : ¬ ((2 : Int32) < (0 : Int32)))).1) ?_
      show Steps p.tables e below (T2.setTop (mkF m 164 #[.val (.int xa), .val (.int xb), .val (.ref bo), .val (.ref bk), .val (.int (8 : Int32)), .val (.int (0 : Int32)), .val (.int (2 : Int32)), .unset] [])) _
      refine XS.iload X2.here hx rfl (hb hby at_164) rfl ?_
      show Steps p.tables e below (T2.setTop (mkF m 166 #[.val (.int xa), .val (.int xb), .val (.ref bo), .val (.ref bk), .val (.int (8 : Int32)), .val (.int (0 : Int32)), .val (.int (2 : Int32)), .unset] [(.int (2 : Int32))])) _
      refine XS.iload X2.here hx rfl (hb hby at_166) rfl ?_
      show Steps p.tables e below (T2.setTop (mkF m 168 #[.val (.int xa), .val (.int xb), .val (.ref bo), .val (.ref bk), .val (.int (8 : Int32)), .val (.int (0 : Int32)), .val (.int (2 : Int32)), .unset] [(.int (0 : Int32)), (.int (2 : Int32))])) _
      refine XS.icmpYes X2.here hx rfl (pc0 := 168) (pc' := 175) rfl (hb hby at_168) rfl (feq (by decide : ¬ ((2 : Int32) = (0 : Int32)))).2 (by decide) (by decide) ?_
      show Steps p.tables e below (T2.setTop (mkF m 175 #[.val (.int xa), .val (.int xb), .val (.ref bo), .val (.ref bk), .val (.int (8 : Int32)), .val (.int (0 : Int32)), .val (.int (2 : Int32)), .unset] [])) _
      refine XS.iconst X2.here hx rfl (hb hby at_175) ?_
      show Steps p.tables e below (T2.setTop (mkF m 176 #[.val (.int xa), .val (.int xb), .val (.ref bo), .val (.ref bk), .val (.int (8 : Int32)), .val (.int (0 : Int32)), .val (.int (2 : Int32)), .unset] [(.int (0 : Int32))])) _
      refine XS.istore X2.here hx rfl (hb hby at_176) rfl (l' := #[.val (.int xa), .val (.int xb), .val (.ref bo), .val (.ref bk), .val (.int (8 : Int32)), .val (.int (0 : Int32)), .val (.int (2 : Int32)), .val (.int (0 : Int32))]) rfl ?_
      show Steps p.tables e below (T2.setTop (mkF m 178 #[.val (.int xa), .val (.int xb), .val (.ref bo), .val (.ref bk), .val (.int (8 : Int32)), .val (.int (0 : Int32)), .val (.int (2 : Int32)), .val (.int (0 : Int32))] [])) _
      exact kt
    obtain ⟨s₂, o₂, hs₂, hr₂⟩ := own_tail2 xa xb bo bk (8 : Int32) (0 : Int32) (2 : Int32) ko kk [(.ref c0), (.ref c1), (.ref c2), (.ref c3), (.ref c4), (.ref c5), (.ref c6), (.ref c7), (.ref c8), (.ref c9), (.ref c10), (.ref c11), (.ref c12), (.ref c13), (.ref c14), (.ref c15)] [(.ref d0), (.ref d1), (.ref d2), (.ref d3)] c8 d0 d2 X2 hx hZ hw hby hml hown e2 N2 Z0 hret hlk P0 P1 P2 P3 (by decide) rfl (by decide) rfl (Ne.symm P5)
    exact ⟨s₂, o₂, go4 _ hs₂, hr₂⟩
  · skip
    obtain ⟨_, _, ⟨T5, L5, k5, n5⟩, -, X5, ⟨Lc5, hQ5, l5, y5, z5⟩, st5⟩ := Jvm.LawKit.callS X0 hx (y := (⟨"com/example/tracewright/tracewright/engine/expr/UnaryOpAcceptsPinLaw", "sourceKindIndex", "(I)I"⟩ : MethodName)) hown (mvT hZ (hw _ (List.mem_of_getElem? (i := 48) rfl))) (mvT hZ (hw _ (List.mem_of_getElem? (i := 49) rfl))) (mvT hZ (hw _ (List.mem_of_getElem? (i := 50) rfl))) (mvT hZ (hw _ (List.mem_of_getElem? (i := 51) rfl))) (by decide) (backOf (W := 0) (own_src8 l Z a0 hw []  h0 n0 Z0 ) hZ (hw _ (List.mem_of_getElem? (i := 51) rfl)) (hw _ (List.mem_of_getElem? (i := 50) rfl)) (by decide) (by decide)) (g := (mkF m 154 #[.val (.int xa), .val (.int xb), .val (.ref bo), .val (.ref bk), .val (.int (8 : Int32)), .val (.int (1 : Int32)), .unset, .unset] [(.int (8 : Int32))])) rfl (by rw [hml]; rfl) (argsL := [(.int (8 : Int32))]) (rest := []) (lenOf pd_6 rfl) rfl (by show 2 * 0 + _ ≤ _; exact Nat.le_of_eq rfl) (hb hby at_154) (fun _ _ => ⟨rfl, e0, (by decide : 2 + 0 ≤ _), (by decide : 20 + 0 ≤ _)⟩)
    dsimp only [Pt.U, Pt.locs, Pt.cells, Pt.slots] at X5 l5 y5 z5 st5 hQ5
    subst l5 y5 z5
    obtain ⟨rfl, Nq5, e5⟩ := hQ5
    have N5 := Fr.app N0 Nq5
    have go7 : ∀ t, Steps p.tables e below (T5.setTop (mkF m 178 #[.val (.int xa), .val (.int xb), .val (.ref bo), .val (.ref bk), .val (.int (8 : Int32)), .val (.int (1 : Int32)), .val (.int (2 : Int32)), .val (.int (0 : Int32))] [])) t → Steps p.tables e below st0 t := by
      intro t kt
      refine go0 t ?_
      refine XS.iload X0.here hx rfl (hb hby at_152) rfl ?_
      show Steps p.tables e below (T0.setTop (mkF m 154 #[.val (.int xa), .val (.int xb), .val (.ref bo), .val (.ref bk), .val (.int (8 : Int32)), .val (.int (1 : Int32)), .unset, .unset] [(.int (8 : Int32))])) _
      refine st5 _ ?_
      show Steps p.tables e below (T5.setTop (mkF m 157 #[.val (.int xa), .val (.int xb), .val (.ref bo), .val (.ref bk), .val (.int (8 : Int32)), .val (.int (1 : Int32)), .unset, .unset] [(.int (2 : Int32))])) _
      refine XS.istore X5.here hx rfl (hb hby at_157) rfl (l' := #[.val (.int xa), .val (.int xb), .val (.ref bo), .val (.ref bk), .val (.int (8 : Int32)), .val (.int (1 : Int32)), .val (.int (2 : Int32)), .unset]) rfl ?_
      show Steps p.tables e below (T5.setTop (mkF m 159 #[.val (.int xa), .val (.int xb), .val (.ref bo), .val (.ref bk), .val (.int (8 : Int32)), .val (.int (1 : Int32)), .val (.int (2 : Int32)), .unset] [])) _
      refine XS.iload X5.here hx rfl (hb hby at_159) rfl ?_
      show Steps p.tables e below (T5.setTop (mkF m 161 #[.val (.int xa), .val (.int xb), .val (.ref bo), .val (.ref bk), .val (.int (8 : Int32)), .val (.int (1 : Int32)), .val (.int (2 : Int32)), .unset] [(.int (2 : Int32))])) _
      refine XS.ifNo X5.here hx rfl (hb hby at_161) rfl ((if0 _ _).trans (flt (by decide : ¬ ((2 : Int32) < (0 : Int32)))).1) ?_
      show Steps p.tables e below (T5.setTop (mkF m 164 #[.val (.int xa), .val (.int xb), .val (.ref bo), .val (.ref bk), .val (.int (8 : Int32)), .val (.int (1 : Int32)), .val (.int (2 : Int32)), .unset] [])) _
      refine XS.iload X5.here hx rfl (hb hby at_164) rfl ?_
      show Steps p.tables e below (T5.setTop (mkF m 166 #[.val (.int xa), .val (.int xb), .val (.ref bo), .val (.ref bk), .val (.int (8 : Int32)), .val (.int (1 : Int32)), .val (.int (2 : Int32)), .unset] [(.int (2 : Int32))])) _
      refine XS.iload X5.here hx rfl (hb hby at_166) rfl ?_
      show Steps p.tables e below (T5.setTop (mkF m 168 #[.val (.int xa), .val (.int xb), .val (.ref bo), .val (.ref bk), .val (.int (8 : Int32)), .val (.int (1 : Int32)), .val (.int (2 : Int32)), .unset] [(.int (1 : Int32)), (.int (2 : Int32))])) _
      refine XS.icmpYes X5.here hx rfl (pc0 := 168) (pc' := 175) rfl (hb hby at_168) rfl (feq (by decide : ¬ ((2 : Int32) = (1 : Int32)))).2 (by decide) (by decide) ?_
      show Steps p.tables e below (T5.setTop (mkF m 175 #[.val (.int xa), .val (.int xb), .val (.ref bo), .val (.ref bk), .val (.int (8 : Int32)), .val (.int (1 : Int32)), .val (.int (2 : Int32)), .unset] [])) _
      refine XS.iconst X5.here hx rfl (hb hby at_175) ?_
      show Steps p.tables e below (T5.setTop (mkF m 176 #[.val (.int xa), .val (.int xb), .val (.ref bo), .val (.ref bk), .val (.int (8 : Int32)), .val (.int (1 : Int32)), .val (.int (2 : Int32)), .unset] [(.int (0 : Int32))])) _
      refine XS.istore X5.here hx rfl (hb hby at_176) rfl (l' := #[.val (.int xa), .val (.int xb), .val (.ref bo), .val (.ref bk), .val (.int (8 : Int32)), .val (.int (1 : Int32)), .val (.int (2 : Int32)), .val (.int (0 : Int32))]) rfl ?_
      show Steps p.tables e below (T5.setTop (mkF m 178 #[.val (.int xa), .val (.int xb), .val (.ref bo), .val (.ref bk), .val (.int (8 : Int32)), .val (.int (1 : Int32)), .val (.int (2 : Int32)), .val (.int (0 : Int32))] [])) _
      exact kt
    obtain ⟨s₂, o₂, hs₂, hr₂⟩ := own_tail2 xa xb bo bk (8 : Int32) (1 : Int32) (2 : Int32) ko kk [(.ref c0), (.ref c1), (.ref c2), (.ref c3), (.ref c4), (.ref c5), (.ref c6), (.ref c7), (.ref c8), (.ref c9), (.ref c10), (.ref c11), (.ref c12), (.ref c13), (.ref c14), (.ref c15)] [(.ref d0), (.ref d1), (.ref d2), (.ref d3)] c8 d1 d2 X5 hx hZ hw hby hml hown e5 N5 Z0 hret hlk P0 P1 P2 P3 (by decide) rfl (by decide) rfl (Ne.symm P7)
    exact ⟨s₂, o₂, go7 _ hs₂, hr₂⟩
  · skip
    obtain ⟨_, _, ⟨T8, L8, k8, n8⟩, -, X8, ⟨Lc8, hQ8, l8, y8, z8⟩, st8⟩ := Jvm.LawKit.callS X0 hx (y := (⟨"com/example/tracewright/tracewright/engine/expr/UnaryOpAcceptsPinLaw", "sourceKindIndex", "(I)I"⟩ : MethodName)) hown (mvT hZ (hw _ (List.mem_of_getElem? (i := 48) rfl))) (mvT hZ (hw _ (List.mem_of_getElem? (i := 49) rfl))) (mvT hZ (hw _ (List.mem_of_getElem? (i := 50) rfl))) (mvT hZ (hw _ (List.mem_of_getElem? (i := 51) rfl))) (by decide) (backOf (W := 0) (own_src8 l Z a0 hw []  h0 n0 Z0 ) hZ (hw _ (List.mem_of_getElem? (i := 51) rfl)) (hw _ (List.mem_of_getElem? (i := 50) rfl)) (by decide) (by decide)) (g := (mkF m 154 #[.val (.int xa), .val (.int xb), .val (.ref bo), .val (.ref bk), .val (.int (8 : Int32)), .val (.int (2 : Int32)), .unset, .unset] [(.int (8 : Int32))])) rfl (by rw [hml]; rfl) (argsL := [(.int (8 : Int32))]) (rest := []) (lenOf pd_6 rfl) rfl (by show 2 * 0 + _ ≤ _; exact Nat.le_of_eq rfl) (hb hby at_154) (fun _ _ => ⟨rfl, e0, (by decide : 2 + 0 ≤ _), (by decide : 20 + 0 ≤ _)⟩)
    dsimp only [Pt.U, Pt.locs, Pt.cells, Pt.slots] at X8 l8 y8 z8 st8 hQ8
    subst l8 y8 z8
    obtain ⟨rfl, Nq8, e8⟩ := hQ8
    have N8 := Fr.app N0 Nq8
    have go10 : ∀ t, Steps p.tables e below (T8.setTop (mkF m 178 #[.val (.int xa), .val (.int xb), .val (.ref bo), .val (.ref bk), .val (.int (8 : Int32)), .val (.int (2 : Int32)), .val (.int (2 : Int32)), .val (.int (1 : Int32))] [])) t → Steps p.tables e below st0 t := by
      intro t kt
      refine go0 t ?_
      refine XS.iload X0.here hx rfl (hb hby at_152) rfl ?_
      show Steps p.tables e below (T0.setTop (mkF m 154 #[.val (.int xa), .val (.int xb), .val (.ref bo), .val (.ref bk), .val (.int (8 : Int32)), .val (.int (2 : Int32)), .unset, .unset] [(.int (8 : Int32))])) _
      refine st8 _ ?_
      show Steps p.tables e below (T8.setTop (mkF m 157 #[.val (.int xa), .val (.int xb), .val (.ref bo), .val (.ref bk), .val (.int (8 : Int32)), .val (.int (2 : Int32)), .unset, .unset] [(.int (2 : Int32))])) _
      refine XS.istore X8.here hx rfl (hb hby at_157) rfl (l' := #[.val (.int xa), .val (.int xb), .val (.ref bo), .val (.ref bk), .val (.int (8 : Int32)), .val (.int (2 : Int32)), .val (.int (2 : Int32)), .unset]) rfl ?_
      show Steps p.tables e below (T8.setTop (mkF m 159 #[.val (.int xa), .val (.int xb), .val (.ref bo), .val (.ref bk), .val (.int (8 : Int32)), .val (.int (2 : Int32)), .val (.int (2 : Int32)), .unset] [])) _
      refine XS.iload X8.here hx rfl (hb hby at_159) rfl ?_
      show Steps p.tables e below (T8.setTop (mkF m 161 #[.val (.int xa), .val (.int xb), .val (.ref bo), .val (.ref bk), .val (.int (8 : Int32)), .val (.int (2 : Int32)), .val (.int (2 : Int32)), .unset] [(.int (2 : Int32))])) _
      refine XS.ifNo X8.here hx rfl (hb hby at_161) rfl ((if0 _ _).trans (flt (by decide : ¬ ((2 : Int32) < (0 : Int32)))).1) ?_
      show Steps p.tables e below (T8.setTop (mkF m 164 #[.val (.int xa), .val (.int xb), .val (.ref bo), .val (.ref bk), .val (.int (8 : Int32)), .val (.int (2 : Int32)), .val (.int (2 : Int32)), .unset] [])) _
      refine XS.iload X8.here hx rfl (hb hby at_164) rfl ?_
      show Steps p.tables e below (T8.setTop (mkF m 166 #[.val (.int xa), .val (.int xb), .val (.ref bo), .val (.ref bk), .val (.int (8 : Int32)), .val (.int (2 : Int32)), .val (.int (2 : Int32)), .unset] [(.int (2 : Int32))])) _
      refine XS.iload X8.here hx rfl (hb hby at_166) rfl ?_
      show Steps p.tables e below (T8.setTop (mkF m 168 #[.val (.int xa), .val (.int xb), .val (.ref bo), .val (.ref bk), .val (.int (8 : Int32)), .val (.int (2 : Int32)), .val (.int (2 : Int32)), .unset] [(.int (2 : Int32)), (.int (2 : Int32))])) _
      refine XS.icmpNo X8.here hx rfl (hb hby at_168) rfl (teq (by decide : (2 : Int32) = (2 : Int32))).2 ?_
      show Steps p.tables e below (T8.setTop (mkF m 171 #[.val (.int xa), .val (.int xb), .val (.ref bo), .val (.ref bk), .val (.int (8 : Int32)), .val (.int (2 : Int32)), .val (.int (2 : Int32)), .unset] [])) _
      refine XS.iconst X8.here hx rfl (hb hby at_171) ?_
      show Steps p.tables e below (T8.setTop (mkF m 172 #[.val (.int xa), .val (.int xb), .val (.ref bo), .val (.ref bk), .val (.int (8 : Int32)), .val (.int (2 : Int32)), .val (.int (2 : Int32)), .unset] [(.int (1 : Int32))])) _
      refine XS.goto X8.here hx rfl (pc0 := 172) (pc' := 176) rfl (hb hby at_172) (by decide) (by decide) ?_
      show Steps p.tables e below (T8.setTop (mkF m 176 #[.val (.int xa), .val (.int xb), .val (.ref bo), .val (.ref bk), .val (.int (8 : Int32)), .val (.int (2 : Int32)), .val (.int (2 : Int32)), .unset] [(.int (1 : Int32))])) _
      refine XS.istore X8.here hx rfl (hb hby at_176) rfl (l' := #[.val (.int xa), .val (.int xb), .val (.ref bo), .val (.ref bk), .val (.int (8 : Int32)), .val (.int (2 : Int32)), .val (.int (2 : Int32)), .val (.int (1 : Int32))]) rfl ?_
      show Steps p.tables e below (T8.setTop (mkF m 178 #[.val (.int xa), .val (.int xb), .val (.ref bo), .val (.ref bk), .val (.int (8 : Int32)), .val (.int (2 : Int32)), .val (.int (2 : Int32)), .val (.int (1 : Int32))] [])) _
      exact kt
    obtain ⟨s₂, o₂, hs₂, hr₂⟩ := own_tail1 xa xb bo bk (8 : Int32) (2 : Int32) (2 : Int32) ko kk [(.ref c0), (.ref c1), (.ref c2), (.ref c3), (.ref c4), (.ref c5), (.ref c6), (.ref c7), (.ref c8), (.ref c9), (.ref c10), (.ref c11), (.ref c12), (.ref c13), (.ref c14), (.ref c15)] [(.ref d0), (.ref d1), (.ref d2), (.ref d3)] c8 d2 X8 hx hZ hw hby hml hown e8 N8 Z0 hret hlk P0 P1 P2 P3 (by decide) rfl (by decide) rfl
    exact ⟨s₂, o₂, go10 _ hs₂, hr₂⟩
  · skip
    obtain ⟨_, _, ⟨T11, L11, k11, n11⟩, -, X11, ⟨Lc11, hQ11, l11, y11, z11⟩, st11⟩ := Jvm.LawKit.callS X0 hx (y := (⟨"com/example/tracewright/tracewright/engine/expr/UnaryOpAcceptsPinLaw", "sourceKindIndex", "(I)I"⟩ : MethodName)) hown (mvT hZ (hw _ (List.mem_of_getElem? (i := 48) rfl))) (mvT hZ (hw _ (List.mem_of_getElem? (i := 49) rfl))) (mvT hZ (hw _ (List.mem_of_getElem? (i := 50) rfl))) (mvT hZ (hw _ (List.mem_of_getElem? (i := 51) rfl))) (by decide) (backOf (W := 0) (own_src8 l Z a0 hw []  h0 n0 Z0 ) hZ (hw _ (List.mem_of_getElem? (i := 51) rfl)) (hw _ (List.mem_of_getElem? (i := 50) rfl)) (by decide) (by decide)) (g := (mkF m 154 #[.val (.int xa), .val (.int xb), .val (.ref bo), .val (.ref bk), .val (.int (8 : Int32)), .val (.int (3 : Int32)), .unset, .unset] [(.int (8 : Int32))])) rfl (by rw [hml]; rfl) (argsL := [(.int (8 : Int32))]) (rest := []) (lenOf pd_6 rfl) rfl (by show 2 * 0 + _ ≤ _; exact Nat.le_of_eq rfl) (hb hby at_154) (fun _ _ => ⟨rfl, e0, (by decide : 2 + 0 ≤ _), (by decide : 20 + 0 ≤ _)⟩)
    dsimp only [Pt.U, Pt.locs, Pt.cells, Pt.slots] at X11 l11 y11 z11 st11 hQ11
    subst l11 y11 z11
    obtain ⟨rfl, Nq11, e11⟩ := hQ11
    have N11 := Fr.app N0 Nq11
    have go13 : ∀ t, Steps p.tables e below (T11.setTop (mkF m 178 #[.val (.int xa), .val (.int xb), .val (.ref bo), .val (.ref bk), .val (.int (8 : Int32)), .val (.int (3 : Int32)), .val (.int (2 : Int32)), .val (.int (0 : Int32))] [])) t → Steps p.tables e below st0 t := by
      intro t kt
      refine go0 t ?_
      refine XS.iload X0.here hx rfl (hb hby at_152) rfl ?_
      show Steps p.tables e below (T0.setTop (mkF m 154 #[.val (.int xa), .val (.int xb), .val (.ref bo), .val (.ref bk), .val (.int (8 : Int32)), .val (.int (3 : Int32)), .unset, .unset] [(.int (8 : Int32))])) _
      refine st11 _ ?_
      show Steps p.tables e below (T11.setTop (mkF m 157 #[.val (.int xa), .val (.int xb), .val (.ref bo), .val (.ref bk), .val (.int (8 : Int32)), .val (.int (3 : Int32)), .unset, .unset] [(.int (2 : Int32))])) _
      refine XS.istore X11.here hx rfl (hb hby at_157) rfl (l' := #[.val (.int xa), .val (.int xb), .val (.ref bo), .val (.ref bk), .val (.int (8 : Int32)), .val (.int (3 : Int32)), .val (.int (2 : Int32)), .unset]) rfl ?_
      show Steps p.tables e below (T11.setTop (mkF m 159 #[.val (.int xa), .val (.int xb), .val (.ref bo), .val (.ref bk), .val (.int (8 : Int32)), .val (.int (3 : Int32)), .val (.int (2 : Int32)), .unset] [])) _
      refine XS.iload X11.here hx rfl (hb hby at_159) rfl ?_
      show Steps p.tables e below (T11.setTop (mkF m 161 #[.val (.int xa), .val (.int xb), .val (.ref bo), .val (.ref bk), .val (.int (8 : Int32)), .val (.int (3 : Int32)), .val (.int (2 : Int32)), .unset] [(.int (2 : Int32))])) _
      refine XS.ifNo X11.here hx rfl (hb hby at_161) rfl ((if0 _ _).trans (flt (by decide : ¬ ((2 : Int32) < (0 : Int32)))).1) ?_
      show Steps p.tables e below (T11.setTop (mkF m 164 #[.val (.int xa), .val (.int xb), .val (.ref bo), .val (.ref bk), .val (.int (8 : Int32)), .val (.int (3 : Int32)), .val (.int (2 : Int32)), .unset] [])) _
      refine XS.iload X11.here hx rfl (hb hby at_164) rfl ?_
      show Steps p.tables e below (T11.setTop (mkF m 166 #[.val (.int xa), .val (.int xb), .val (.ref bo), .val (.ref bk), .val (.int (8 : Int32)), .val (.int (3 : Int32)), .val (.int (2 : Int32)), .unset] [(.int (2 : Int32))])) _
      refine XS.iload X11.here hx rfl (hb hby at_166) rfl ?_
      show Steps p.tables e below (T11.setTop (mkF m 168 #[.val (.int xa), .val (.int xb), .val (.ref bo), .val (.ref bk), .val (.int (8 : Int32)), .val (.int (3 : Int32)), .val (.int (2 : Int32)), .unset] [(.int (3 : Int32)), (.int (2 : Int32))])) _
      refine XS.icmpYes X11.here hx rfl (pc0 := 168) (pc' := 175) rfl (hb hby at_168) rfl (feq (by decide : ¬ ((2 : Int32) = (3 : Int32)))).2 (by decide) (by decide) ?_
      show Steps p.tables e below (T11.setTop (mkF m 175 #[.val (.int xa), .val (.int xb), .val (.ref bo), .val (.ref bk), .val (.int (8 : Int32)), .val (.int (3 : Int32)), .val (.int (2 : Int32)), .unset] [])) _
      refine XS.iconst X11.here hx rfl (hb hby at_175) ?_
      show Steps p.tables e below (T11.setTop (mkF m 176 #[.val (.int xa), .val (.int xb), .val (.ref bo), .val (.ref bk), .val (.int (8 : Int32)), .val (.int (3 : Int32)), .val (.int (2 : Int32)), .unset] [(.int (0 : Int32))])) _
      refine XS.istore X11.here hx rfl (hb hby at_176) rfl (l' := #[.val (.int xa), .val (.int xb), .val (.ref bo), .val (.ref bk), .val (.int (8 : Int32)), .val (.int (3 : Int32)), .val (.int (2 : Int32)), .val (.int (0 : Int32))]) rfl ?_
      show Steps p.tables e below (T11.setTop (mkF m 178 #[.val (.int xa), .val (.int xb), .val (.ref bo), .val (.ref bk), .val (.int (8 : Int32)), .val (.int (3 : Int32)), .val (.int (2 : Int32)), .val (.int (0 : Int32))] [])) _
      exact kt
    obtain ⟨s₂, o₂, hs₂, hr₂⟩ := own_tail2 xa xb bo bk (8 : Int32) (3 : Int32) (2 : Int32) ko kk [(.ref c0), (.ref c1), (.ref c2), (.ref c3), (.ref c4), (.ref c5), (.ref c6), (.ref c7), (.ref c8), (.ref c9), (.ref c10), (.ref c11), (.ref c12), (.ref c13), (.ref c14), (.ref c15)] [(.ref d0), (.ref d1), (.ref d2), (.ref d3)] c8 d3 d2 X11 hx hZ hw hby hml hown e11 N11 Z0 hret hlk P0 P1 P2 P3 (by decide) rfl (by decide) rfl P9
    exact ⟨s₂, o₂, go13 _ hs₂, hr₂⟩
set_option maxRecDepth 65536 in
set_option maxHeartbeats 40000000 in
theorem own_mid9 {p : Program} {l : Launch} {e : Env} {s : State} {m : MethodId} {args : Array Value} {below : List Frame} {meth : Method} {c : Code} {T0 : State} {locs : List Loc} {Z : State} {a0 : Array Value} {h0 : Heap} {n0 : Nat} (xa : Int32) (xb : Int32) (bo : Addr) (bk : Addr) (kx : Int32) (c0 : Addr) (c1 : Addr) (c2 : Addr) (c3 : Addr) (c4 : Addr) (c5 : Addr) (c6 : Addr) (c7 : Addr) (c8 : Addr) (c9 : Addr) (c10 : Addr) (c11 : Addr) (c12 : Addr) (c13 : Addr) (c14 : Addr) (c15 : Addr) (d0 : Addr) (d1 : Addr) (d2 : Addr) (d3 : Addr) (ko : ClassId) (kk : ClassId) (X0 : Stand p l e room_1 s m args below meth c T0 locs 2 20) (hx : p.tables.exec = Jvm.exec) (hZ : Z.Warmed39 s.vm) (hw : ∀ d ∈ tables_1, d.before a0 Z = true) (hby : c.code = code) (hml : c.maxLocals = 8) (hown : s.vm.findClass "com/example/tracewright/tracewright/engine/expr/UnaryOpAcceptsPinLaw" = some m.cls) (e0 : T0.heap = h0) (N0 : Fr n0 locs) (Z0 : n0 ≤ h0.size) (hret : meth.sig.returnType = some .boolean) (hlk : meth.locks = false) (P0 : Arv Z h0 bo ko (.object "com/example/tracewright/tracewright/engine/expr/UnaryOp") (16 : Int32) [(.ref c0), (.ref c1), (.ref c2), (.ref c3), (.ref c4), (.ref c5), (.ref c6), (.ref c7), (.ref c8), (.ref c9), (.ref c10), (.ref c11), (.ref c12), (.ref c13), (.ref c14), (.ref c15)] .null) (P1 : Arv Z h0 bk kk (.object "com/example/tracewright/tracewright/engine/expr/Kind") (4 : Int32) [(.ref d0), (.ref d1), (.ref d2), (.ref d3)] .null) (P2 : Exa Z h0 c9 "com/example/tracewright/tracewright/engine/expr/UnaryOp") (P3 : Fld Z h0 c9 "com/example/tracewright/tracewright/engine/expr/UnaryOp" "from" "Lcom/example/tracewright/tracewright/engine/expr/Kind;" (.ref d2)) (P4 : d0 ≠ d1) (P5 : d0 ≠ d2) (P6 : d0 ≠ d3) (P7 : d1 ≠ d2) (P8 : d1 ≠ d3) (P9 : d2 ≠ d3) (hK : kx = (0 : Int32) ∨ kx = (1 : Int32) ∨ kx = (2 : Int32) ∨ kx = (3 : Int32)) :
    ∃ s₂ o, Steps p.tables e below (T0.setTop (mkF m 152 #[.val (.int xa), .val (.int xb), .val (.ref bo), .val (.ref bk), .val (.int (9 : Int32)), .val (.int kx), .unset, .unset] [])) s₂ ∧ s₂.status = .running ∧ Ended s₂ below o ∧ ∃ v L, o = .returned v ∧ (v = some (.int (1 : Int32)) ∧ Fr n0 L) ∧ FrameEnd s o s₂ L room_1.cells room_1.slots := by
  obtain ⟨st0, hst0⟩ : ∃ zst, zst = T0.setTop (mkF m 152 #[.val (.int xa), .val (.int xb), .val (.ref bo), .val (.ref bk), .val (.int (9 : Int32)), .val (.int kx), .unset, .unset] []) := ⟨_, rfl⟩
  have go0 : ∀ t, Steps p.tables e below (T0.setTop (mkF m 152 #[.val (.int xa), .val (.int xb), .val (.ref bo), .val (.ref bk), .val (.int (9 : Int32)), .val (.int kx), .unset, .unset] [])) t → Steps p.tables e below st0 t := fun t k => by rw [hst0]; exact k
  rw [← hst0]
  rcases hK with rfl | rfl | rfl | rfl
  · skip
    obtain ⟨_, _, ⟨T2, L2, k2, n2⟩, -, X2, ⟨Lc2, hQ2, l2, y2, z2⟩, st2⟩ := Jvm.LawKit.callS X0 hx (y := (⟨"com/example/tracewright/tracewright/engine/expr/UnaryOpAcceptsPinLaw", "sourceKindIndex", "(I)I"⟩ : MethodName)) hown (mvT hZ (hw _ (List.mem_of_getElem? (i := 48) rfl))) (mvT hZ (hw _ (List.mem_of_getElem? (i := 49) rfl))) (mvT hZ (hw _ (List.mem_of_getElem? (i := 50) rfl))) (mvT hZ (hw _ (List.mem_of_getElem? (i := 51) rfl))) (by decide) (backOf (W := 0) (own_src9 l Z a0 hw []  h0 n0 Z0 ) hZ (hw _ (List.mem_of_getElem? (i := 51) rfl)) (hw _ (List.mem_of_getElem? (i := 50) rfl)) (by decide) (by decide)) (g := (mkF m 154 #[.val (.int xa), .val (.int xb), .val (.ref bo), .val (.ref bk), .val (.int (9 : Int32)), .val (.int (0 : Int32)), .unset, .unset] [(.int (9 : Int32))])) rfl (by rw [hml]; rfl) (argsL := [(.int (9 : Int32))]) (rest := []) (lenOf pd_6 rfl) rfl (by show 2 * 0 + _ ≤ _; exact Nat.le_of_eq rfl) (hb hby at_154) (fun _ _ => ⟨rfl, e0, (by decide : 2 + 0 ≤ _), (by decide : 20 + 0 ≤ _)⟩)
    dsimp only [Pt.U, Pt.locs, Pt.cells, Pt.slots] at X2 l2 y2 z2 st2 hQ2
    subst l2 y2 z2
    obtain ⟨rfl, Nq2, e2⟩ := hQ2
    have N2 := Fr.app N0 Nq2
    have go4 : ∀ t, Steps p.tables e below (T2.setTop (mkF m 178 #[.val (.int xa), .val (.int xb), .val (.ref bo), .val (.ref bk), .val (.int (9 : Int32)), .val (.int (0 : Int32)), .val (.int (2 : Int32)), .val (.int (0 : Int32))] [])) t → Steps p.tables e below st0 t := by
      intro t kt
      refine go0 t ?_
      refine XS.iload X0.here hx rfl (hb hby at_152) rfl ?_
      show Steps p.tables e below (T0.setTop (mkF m 154 #[.val (.int xa), .val (.int xb), .val (.ref bo), .val (.ref bk), .val (.int (9 : Int32)), .val (.int (0 : Int32)), .unset, .unset] [(.int (9 : Int32))])) _
      refine st2 _ ?_
      show Steps p.tables e below (T2.setTop (mkF m 157 #[.val (.int xa), .val (.int xb), .val (.ref bo), .val (.ref bk), .val (.int (9 : Int32)), .val (.int (0 : Int32)), .unset, .unset] [(.int (2 : Int32))])) _
      refine XS.istore X2.here hx rfl (hb hby at_157) rfl (l' := #[.val (.int xa), .val (.int xb), .val (.ref bo), .val (.ref bk), .val (.int (9 : Int32)), .val (.int (0 : Int32)), .val (.int (2 : Int32)), .unset]) rfl ?_
      show Steps p.tables e below (T2.setTop (mkF m 159 #[.val (.int xa), .val (.int xb), .val (.ref bo), .val (.ref bk), .val (.int (9 : Int32)), .val (.int (0 : Int32)), .val (.int (2 : Int32)), .unset] [])) _
      refine XS.iload X2.here hx rfl (hb hby at_159) rfl ?_
      show Steps p.tables e below (T2.setTop (mkF m 161 #[.val (.int xa), .val (.int xb), .val (.ref bo), .val (.ref bk), .val (.int (9 : Int32)), .val (.int (0 : Int32)), .val (.int (2 : Int32)), .unset] [(.int (2 : Int32))])) _
      refine XS.ifNo X2.here hx rfl (hb hby at_161) rfl ((if0 _ _).trans (flt (by decide : ¬ ((2 : Int32) < (0 : Int32)))).1) ?_
      show Steps p.tables e below (T2.setTop (mkF m 164 #[.val (.int xa), .val (.int xb), .val (.ref bo), .val (.ref bk), .val (.int (9 : Int32)), .val (.int (0 : Int32)), .val (.int (2 : Int32)), .unset] [])) _
      refine XS.iload X2.here hx rfl (hb hby at_164) rfl ?_
      show Steps p.tables e below (T2.setTop (mkF m 166 #[.val (.int xa), .val (.int xb), .val (.ref bo), .val (.ref bk), .val (.int (9 : Int32)), .val (.int (0 : Int32)), .val (.int (2 : Int32)), .unset] [(.int (2 : Int32))])) _
      refine XS.iload X2.here hx rfl (hb hby at_166) rfl ?_
      show Steps p.tables e below (T2.setTop (mkF m 168 #[.val (.int xa), .val (.int xb), .val (.ref bo), .val (.ref bk), .val (.int (9 : Int32)), .val (.int (0 : Int32)), .val (.int (2 : Int32)), .unset] [(.int (0 : Int32)), (.int (2 : Int32))])) _
      refine XS.icmpYes X2.here hx rfl (pc0 := 168) (pc' := 175) rfl (hb hby at_168) rfl (feq (by decide : ¬ ((2 : Int32) = (0 : Int32)))).2 (by decide) (by decide) ?_
      show Steps p.tables e below (T2.setTop (mkF m 175 #[.val (.int xa), .val (.int xb), .val (.ref bo), .val (.ref bk), .val (.int (9 : Int32)), .val (.int (0 : Int32)), .val (.int (2 : Int32)), .unset] [])) _
      refine XS.iconst X2.here hx rfl (hb hby at_175) ?_
      show Steps p.tables e below (T2.setTop (mkF m 176 #[.val (.int xa), .val (.int xb), .val (.ref bo), .val (.ref bk), .val (.int (9 : Int32)), .val (.int (0 : Int32)), .val (.int (2 : Int32)), .unset] [(.int (0 : Int32))])) _
      refine XS.istore X2.here hx rfl (hb hby at_176) rfl (l' := #[.val (.int xa), .val (.int xb), .val (.ref bo), .val (.ref bk), .val (.int (9 : Int32)), .val (.int (0 : Int32)), .val (.int (2 : Int32)), .val (.int (0 : Int32))]) rfl ?_
      show Steps p.tables e below (T2.setTop (mkF m 178 #[.val (.int xa), .val (.int xb), .val (.ref bo), .val (.ref bk), .val (.int (9 : Int32)), .val (.int (0 : Int32)), .val (.int (2 : Int32)), .val (.int (0 : Int32))] [])) _
      exact kt
    obtain ⟨s₂, o₂, hs₂, hr₂⟩ := own_tail2 xa xb bo bk (9 : Int32) (0 : Int32) (2 : Int32) ko kk [(.ref c0), (.ref c1), (.ref c2), (.ref c3), (.ref c4), (.ref c5), (.ref c6), (.ref c7), (.ref c8), (.ref c9), (.ref c10), (.ref c11), (.ref c12), (.ref c13), (.ref c14), (.ref c15)] [(.ref d0), (.ref d1), (.ref d2), (.ref d3)] c9 d0 d2 X2 hx hZ hw hby hml hown e2 N2 Z0 hret hlk P0 P1 P2 P3 (by decide) rfl (by decide) rfl (Ne.symm P5)
    exact ⟨s₂, o₂, go4 _ hs₂, hr₂⟩
  · skip
    obtain ⟨_, _, ⟨T5, L5, k5, n5⟩, -, X5, ⟨Lc5, hQ5, l5, y5, z5⟩, st5⟩ := Jvm.LawKit.callS X0 hx (y := (⟨"com/example/tracewright/tracewright/engine/expr/UnaryOpAcceptsPinLaw", "sourceKindIndex", "(I)I"⟩ : MethodName)) hown (mvT hZ (hw _ (List.mem_of_getElem? (i := 48) rfl))) (mvT hZ (hw _ (List.mem_of_getElem? (i := 49) rfl))) (mvT hZ (hw _ (List.mem_of_getElem? (i := 50) rfl))) (mvT hZ (hw _ (List.mem_of_getElem? (i := 51) rfl))) (by decide) (backOf (W := 0) (own_src9 l Z a0 hw []  h0 n0 Z0 ) hZ (hw _ (List.mem_of_getElem? (i := 51) rfl)) (hw _ (List.mem_of_getElem? (i := 50) rfl)) (by decide) (by decide)) (g := (mkF m 154 #[.val (.int xa), .val (.int xb), .val (.ref bo), .val (.ref bk), .val (.int (9 : Int32)), .val (.int (1 : Int32)), .unset, .unset] [(.int (9 : Int32))])) rfl (by rw [hml]; rfl) (argsL := [(.int (9 : Int32))]) (rest := []) (lenOf pd_6 rfl) rfl (by show 2 * 0 + _ ≤ _; exact Nat.le_of_eq rfl) (hb hby at_154) (fun _ _ => ⟨rfl, e0, (by decide : 2 + 0 ≤ _), (by decide : 20 + 0 ≤ _)⟩)
    dsimp only [Pt.U, Pt.locs, Pt.cells, Pt.slots] at X5 l5 y5 z5 st5 hQ5
    subst l5 y5 z5
    obtain ⟨rfl, Nq5, e5⟩ := hQ5
    have N5 := Fr.app N0 Nq5
    have go7 : ∀ t, Steps p.tables e below (T5.setTop (mkF m 178 #[.val (.int xa), .val (.int xb), .val (.ref bo), .val (.ref bk), .val (.int (9 : Int32)), .val (.int (1 : Int32)), .val (.int (2 : Int32)), .val (.int (0 : Int32))] [])) t → Steps p.tables e below st0 t := by
      intro t kt
      refine go0 t ?_
      refine XS.iload X0.here hx rfl (hb hby at_152) rfl ?_
      show Steps p.tables e below (T0.setTop (mkF m 154 #[.val (.int xa), .val (.int xb), .val (.ref bo), .val (.ref bk), .val (.int (9 : Int32)), .val (.int (1 : Int32)), .unset, .unset] [(.int (9 : Int32))])) _
      refine st5 _ ?_
      show Steps p.tables e below (T5.setTop (mkF m 157 #[.val (.int xa), .val (.int xb), .val (.ref bo), .val (.ref bk), .val (.int (9 : Int32)), .val (.int (1 : Int32)), .unset, .unset] [(.int (2 : Int32))])) _
      refine XS.istore X5.here hx rfl (hb hby at_157) rfl (l' := #[.val (.int xa), .val (.int xb), .val (.ref bo), .val (.ref bk), .val (.int (9 : Int32)), .val (.int (1 : Int32)), .val (.int (2 : Int32)), .unset]) rfl ?_
      show Steps p.tables e below (T5.setTop (mkF m 159 #[.val (.int xa), .val (.int xb), .val (.ref bo), .val (.ref bk), .val (.int (9 : Int32)), .val (.int (1 : Int32)), .val (.int (2 : Int32)), .unset] [])) _
      refine XS.iload X5.here hx rfl (hb hby at_159) rfl ?_
      show Steps p.tables e below (T5.setTop (mkF m 161 #[.val (.int xa), .val (.int xb), .val (.ref bo), .val (.ref bk), .val (.int (9 : Int32)), .val (.int (1 : Int32)), .val (.int (2 : Int32)), .unset] [(.int (2 : Int32))])) _
      refine XS.ifNo X5.here hx rfl (hb hby at_161) rfl ((if0 _ _).trans (flt (by decide : ¬ ((2 : Int32) < (0 : Int32)))).1) ?_
      show Steps p.tables e below (T5.setTop (mkF m 164 #[.val (.int xa), .val (.int xb), .val (.ref bo), .val (.ref bk), .val (.int (9 : Int32)), .val (.int (1 : Int32)), .val (.int (2 : Int32)), .unset] [])) _
      refine XS.iload X5.here hx rfl (hb hby at_164) rfl ?_
      show Steps p.tables e below (T5.setTop (mkF m 166 #[.val (.int xa), .val (.int xb), .val (.ref bo), .val (.ref bk), .val (.int (9 : Int32)), .val (.int (1 : Int32)), .val (.int (2 : Int32)), .unset] [(.int (2 : Int32))])) _
      refine XS.iload X5.here hx rfl (hb hby at_166) rfl ?_
      show Steps p.tables e below (T5.setTop (mkF m 168 #[.val (.int xa), .val (.int xb), .val (.ref bo), .val (.ref bk), .val (.int (9 : Int32)), .val (.int (1 : Int32)), .val (.int (2 : Int32)), .unset] [(.int (1 : Int32)), (.int (2 : Int32))])) _
      refine XS.icmpYes X5.here hx rfl (pc0 := 168) (pc' := 175) rfl (hb hby at_168) rfl (feq (by decide : ¬ ((2 : Int32) = (1 : Int32)))).2 (by decide) (by decide) ?_
      show Steps p.tables e below (T5.setTop (mkF m 175 #[.val (.int xa), .val (.int xb), .val (.ref bo), .val (.ref bk), .val (.int (9 : Int32)), .val (.int (1 : Int32)), .val (.int (2 : Int32)), .unset] [])) _
      refine XS.iconst X5.here hx rfl (hb hby at_175) ?_
      show Steps p.tables e below (T5.setTop (mkF m 176 #[.val (.int xa), .val (.int xb), .val (.ref bo), .val (.ref bk), .val (.int (9 : Int32)), .val (.int (1 : Int32)), .val (.int (2 : Int32)), .unset] [(.int (0 : Int32))])) _
      refine XS.istore X5.here hx rfl (hb hby at_176) rfl (l' := #[.val (.int xa), .val (.int xb), .val (.ref bo), .val (.ref bk), .val (.int (9 : Int32)), .val (.int (1 : Int32)), .val (.int (2 : Int32)), .val (.int (0 : Int32))]) rfl ?_
      show Steps p.tables e below (T5.setTop (mkF m 178 #[.val (.int xa), .val (.int xb), .val (.ref bo), .val (.ref bk), .val (.int (9 : Int32)), .val (.int (1 : Int32)), .val (.int (2 : Int32)), .val (.int (0 : Int32))] [])) _
      exact kt
    obtain ⟨s₂, o₂, hs₂, hr₂⟩ := own_tail2 xa xb bo bk (9 : Int32) (1 : Int32) (2 : Int32) ko kk [(.ref c0), (.ref c1), (.ref c2), (.ref c3), (.ref c4), (.ref c5), (.ref c6), (.ref c7), (.ref c8), (.ref c9), (.ref c10), (.ref c11), (.ref c12), (.ref c13), (.ref c14), (.ref c15)] [(.ref d0), (.ref d1), (.ref d2), (.ref d3)] c9 d1 d2 X5 hx hZ hw hby hml hown e5 N5 Z0 hret hlk P0 P1 P2 P3 (by decide) rfl (by decide) rfl (Ne.symm P7)
    exact ⟨s₂, o₂, go7 _ hs₂, hr₂⟩
  · skip
    obtain ⟨_, _, ⟨T8, L8, k8, n8⟩, -, X8, ⟨Lc8, hQ8, l8, y8, z8⟩, st8⟩ := Jvm.LawKit.callS X0 hx (y := (⟨"com/example/tracewright/tracewright/engine/expr/UnaryOpAcceptsPinLaw", "sourceKindIndex", "(I)I"⟩ : MethodName)) hown (mvT hZ (hw _ (List.mem_of_getElem? (i := 48) rfl))) (mvT hZ (hw _ (List.mem_of_getElem? (i := 49) rfl))) (mvT hZ (hw _ (List.mem_of_getElem? (i := 50) rfl))) (mvT hZ (hw _ (List.mem_of_getElem? (i := 51) rfl))) (by decide) (backOf (W := 0) (own_src9 l Z a0 hw []  h0 n0 Z0 ) hZ (hw _ (List.mem_of_getElem? (i := 51) rfl)) (hw _ (List.mem_of_getElem? (i := 50) rfl)) (by decide) (by decide)) (g := (mkF m 154 #[.val (.int xa), .val (.int xb), .val (.ref bo), .val (.ref bk), .val (.int (9 : Int32)), .val (.int (2 : Int32)), .unset, .unset] [(.int (9 : Int32))])) rfl (by rw [hml]; rfl) (argsL := [(.int (9 : Int32))]) (rest := []) (lenOf pd_6 rfl) rfl (by show 2 * 0 + _ ≤ _; exact Nat.le_of_eq rfl) (hb hby at_154) (fun _ _ => ⟨rfl, e0, (by decide : 2 + 0 ≤ _), (by decide : 20 + 0 ≤ _)⟩)
    dsimp only [Pt.U, Pt.locs, Pt.cells, Pt.slots] at X8 l8 y8 z8 st8 hQ8
    subst l8 y8 z8
    obtain ⟨rfl, Nq8, e8⟩ := hQ8
    have N8 := Fr.app N0 Nq8
    have go10 : ∀ t, Steps p.tables e below (T8.setTop (mkF m 178 #[.val (.int xa), .val (.int xb), .val (.ref bo), .val (.ref bk), .val (.int (9 : Int32)), .val (.int (2 : Int32)), .val (.int (2 : Int32)), .val (.int (1 : Int32))] [])) t → Steps p.tables e below st0 t := by
      intro t kt
      refine go0 t ?_
      refine XS.iload X0.here hx rfl (hb hby at_152) rfl ?_
      show Steps p.tables e below (T0.setTop (mkF m 154 #[.val (.int xa), .val (.int xb), .val (.ref bo), .val (.ref bk), .val (.int (9 : Int32)), .val (.int (2 : Int32)), .unset, .unset] [(.int (9 : Int32))])) _
      refine st8 _ ?_
      show Steps p.tables e below (T8.setTop (mkF m 157 #[.val (.int xa), .val (.int xb), .val (.ref bo), .val (.ref bk), .val (.int (9 : Int32)), .val (.int (2 : Int32)), .unset, .unset] [(.int (2 : Int32))])) _
      refine XS.istore X8.here hx rfl (hb hby at_157) rfl (l' := #[.val (.int xa), .val (.int xb), .val (.ref bo), .val (.ref bk), .val (.int (9 : Int32)), .val (.int (2 : Int32)), .val (.int (2 : Int32)), .unset]) rfl ?_
      show Steps p.tables e below (T8.setTop (mkF m 159 #[.val (.int xa), .val (.int xb), .val (.ref bo), .val (.ref bk), .val (.int (9 : Int32)), .val (.int (2 : Int32)), .val (.int (2 : Int32)), .unset] [])) _
      refine XS.iload X8.here hx rfl (hb hby at_159) rfl ?_
      show Steps p.tables e below (T8.setTop (mkF m 161 #[.val (.int xa), .val (.int xb), .val (.ref bo), .val (.ref bk), .val (.int (9 : Int32)), .val (.int (2 : Int32)), .val (.int (2 : Int32)), .unset] [(.int (2 : Int32))])) _
      refine XS.ifNo X8.here hx rfl (hb hby at_161) rfl ((if0 _ _).trans (flt (by decide : ¬ ((2 : Int32) < (0 : Int32)))).1) ?_
      show Steps p.tables e below (T8.setTop (mkF m 164 #[.val (.int xa), .val (.int xb), .val (.ref bo), .val (.ref bk), .val (.int (9 : Int32)), .val (.int (2 : Int32)), .val (.int (2 : Int32)), .unset] [])) _
      refine XS.iload X8.here hx rfl (hb hby at_164) rfl ?_
      show Steps p.tables e below (T8.setTop (mkF m 166 #[.val (.int xa), .val (.int xb), .val (.ref bo), .val (.ref bk), .val (.int (9 : Int32)), .val (.int (2 : Int32)), .val (.int (2 : Int32)), .unset] [(.int (2 : Int32))])) _
      refine XS.iload X8.here hx rfl (hb hby at_166) rfl ?_
      show Steps p.tables e below (T8.setTop (mkF m 168 #[.val (.int xa), .val (.int xb), .val (.ref bo), .val (.ref bk), .val (.int (9 : Int32)), .val (.int (2 : Int32)), .val (.int (2 : Int32)), .unset] [(.int (2 : Int32)), (.int (2 : Int32))])) _
      refine XS.icmpNo X8.here hx rfl (hb hby at_168) rfl (teq (by decide : (2 : Int32) = (2 : Int32))).2 ?_
      show Steps p.tables e below (T8.setTop (mkF m 171 #[.val (.int xa), .val (.int xb), .val (.ref bo), .val (.ref bk), .val (.int (9 : Int32)), .val (.int (2 : Int32)), .val (.int (2 : Int32)), .unset] [])) _
      refine XS.iconst X8.here hx rfl (hb hby at_171) ?_
      show Steps p.tables e below (T8.setTop (mkF m 172 #[.val (.int xa), .val (.int xb), .val (.ref bo), .val (.ref bk), .val (.int (9 : Int32)), .val (.int (2 : Int32)), .val (.int (2 : Int32)), .unset] [(.int (1 : Int32))])) _
      refine XS.goto X8.here hx rfl (pc0 := 172) (pc' := 176) rfl (hb hby at_172) (by decide) (by decide) ?_
      show Steps p.tables e below (T8.setTop (mkF m 176 #[.val (.int xa), .val (.int xb), .val (.ref bo), .val (.ref bk), .val (.int (9 : Int32)), .val (.int (2 : Int32)), .val (.int (2 : Int32)), .unset] [(.int (1 : Int32))])) _
      refine XS.istore X8.here hx rfl (hb hby at_176) rfl (l' := #[.val (.int xa), .val (.int xb), .val (.ref bo), .val (.ref bk), .val (.int (9 : Int32)), .val (.int (2 : Int32)), .val (.int (2 : Int32)), .val (.int (1 : Int32))]) rfl ?_
      show Steps p.tables e below (T8.setTop (mkF m 178 #[.val (.int xa), .val (.int xb), .val (.ref bo), .val (.ref bk), .val (.int (9 : Int32)), .val (.int (2 : Int32)), .val (.int (2 : Int32)), .val (.int (1 : Int32))] [])) _
      exact kt
    obtain ⟨s₂, o₂, hs₂, hr₂⟩ := own_tail1 xa xb bo bk (9 : Int32) (2 : Int32) (2 : Int32) ko kk [(.ref c0), (.ref c1), (.ref c2), (.ref c3), (.ref c4), (.ref c5), (.ref c6), (.ref c7), (.ref c8), (.ref c9), (.ref c10), (.ref c11), (.ref c12), (.ref c13), (.ref c14), (.ref c15)] [(.ref d0), (.ref d1), (.ref d2), (.ref d3)] c9 d2 X8 hx hZ hw hby hml hown e8 N8 Z0 hret hlk P0 P1 P2 P3 (by decide) rfl (by decide) rfl
    exact ⟨s₂, o₂, go10 _ hs₂, hr₂⟩
  · skip
    obtain ⟨_, _, ⟨T11, L11, k11, n11⟩, -, X11, ⟨Lc11, hQ11, l11, y11, z11⟩, st11⟩ := Jvm.LawKit.callS X0 hx (y := (⟨"com/example/tracewright/tracewright/engine/expr/UnaryOpAcceptsPinLaw", "sourceKindIndex", "(I)I"⟩ : MethodName)) hown (mvT hZ (hw _ (List.mem_of_getElem? (i := 48) rfl))) (mvT hZ (hw _ (List.mem_of_getElem? (i := 49) rfl))) (mvT hZ (hw _ (List.mem_of_getElem? (i := 50) rfl))) (mvT hZ (hw _ (List.mem_of_getElem? (i := 51) rfl))) (by decide) (backOf (W := 0) (own_src9 l Z a0 hw []  h0 n0 Z0 ) hZ (hw _ (List.mem_of_getElem? (i := 51) rfl)) (hw _ (List.mem_of_getElem? (i := 50) rfl)) (by decide) (by decide)) (g := (mkF m 154 #[.val (.int xa), .val (.int xb), .val (.ref bo), .val (.ref bk), .val (.int (9 : Int32)), .val (.int (3 : Int32)), .unset, .unset] [(.int (9 : Int32))])) rfl (by rw [hml]; rfl) (argsL := [(.int (9 : Int32))]) (rest := []) (lenOf pd_6 rfl) rfl (by show 2 * 0 + _ ≤ _; exact Nat.le_of_eq rfl) (hb hby at_154) (fun _ _ => ⟨rfl, e0, (by decide : 2 + 0 ≤ _), (by decide : 20 + 0 ≤ _)⟩)
    dsimp only [Pt.U, Pt.locs, Pt.cells, Pt.slots] at X11 l11 y11 z11 st11 hQ11
    subst l11 y11 z11
    obtain ⟨rfl, Nq11, e11⟩ := hQ11
    have N11 := Fr.app N0 Nq11
    have go13 : ∀ t, Steps p.tables e below (T11.setTop (mkF m 178 #[.val (.int xa), .val (.int xb), .val (.ref bo), .val (.ref bk), .val (.int (9 : Int32)), .val (.int (3 : Int32)), .val (.int (2 : Int32)), .val (.int (0 : Int32))] [])) t → Steps p.tables e below st0 t := by
      intro t kt
      refine go0 t ?_
      refine XS.iload X0.here hx rfl (hb hby at_152) rfl ?_
      show Steps p.tables e below (T0.setTop (mkF m 154 #[.val (.int xa), .val (.int xb), .val (.ref bo), .val (.ref bk), .val (.int (9 : Int32)), .val (.int (3 : Int32)), .unset, .unset] [(.int (9 : Int32))])) _
      refine st11 _ ?_
      show Steps p.tables e below (T11.setTop (mkF m 157 #[.val (.int xa), .val (.int xb), .val (.ref bo), .val (.ref bk), .val (.int (9 : Int32)), .val (.int (3 : Int32)), .unset, .unset] [(.int (2 : Int32))])) _
      refine XS.istore X11.here hx rfl (hb hby at_157) rfl (l' := #[.val (.int xa), .val (.int xb), .val (.ref bo), .val (.ref bk), .val (.int (9 : Int32)), .val (.int (3 : Int32)), .val (.int (2 : Int32)), .unset]) rfl ?_
      show Steps p.tables e below (T11.setTop (mkF m 159 #[.val (.int xa), .val (.int xb), .val (.ref bo), .val (.ref bk), .val (.int (9 : Int32)), .val (.int (3 : Int32)), .val (.int (2 : Int32)), .unset] [])) _
      refine XS.iload X11.here hx rfl (hb hby at_159) rfl ?_
      show Steps p.tables e below (T11.setTop (mkF m 161 #[.val (.int xa), .val (.int xb), .val (.ref bo), .val (.ref bk), .val (.int (9 : Int32)), .val (.int (3 : Int32)), .val (.int (2 : Int32)), .unset] [(.int (2 : Int32))])) _
      refine XS.ifNo X11.here hx rfl (hb hby at_161) rfl ((if0 _ _).trans (flt (by decide : ¬ ((2 : Int32) < (0 : Int32)))).1) ?_
      show Steps p.tables e below (T11.setTop (mkF m 164 #[.val (.int xa), .val (.int xb), .val (.ref bo), .val (.ref bk), .val (.int (9 : Int32)), .val (.int (3 : Int32)), .val (.int (2 : Int32)), .unset] [])) _
      refine XS.iload X11.here hx rfl (hb hby at_164) rfl ?_
      show Steps p.tables e below (T11.setTop (mkF m 166 #[.val (.int xa), .val (.int xb), .val (.ref bo), .val (.ref bk), .val (.int (9 : Int32)), .val (.int (3 : Int32)), .val (.int (2 : Int32)), .unset] [(.int (2 : Int32))])) _
      refine XS.iload X11.here hx rfl (hb hby at_166) rfl ?_
      show Steps p.tables e below (T11.setTop (mkF m 168 #[.val (.int xa), .val (.int xb), .val (.ref bo), .val (.ref bk), .val (.int (9 : Int32)), .val (.int (3 : Int32)), .val (.int (2 : Int32)), .unset] [(.int (3 : Int32)), (.int (2 : Int32))])) _
      refine XS.icmpYes X11.here hx rfl (pc0 := 168) (pc' := 175) rfl (hb hby at_168) rfl (feq (by decide : ¬ ((2 : Int32) = (3 : Int32)))).2 (by decide) (by decide) ?_
      show Steps p.tables e below (T11.setTop (mkF m 175 #[.val (.int xa), .val (.int xb), .val (.ref bo), .val (.ref bk), .val (.int (9 : Int32)), .val (.int (3 : Int32)), .val (.int (2 : Int32)), .unset] [])) _
      refine XS.iconst X11.here hx rfl (hb hby at_175) ?_
      show Steps p.tables e below (T11.setTop (mkF m 176 #[.val (.int xa), .val (.int xb), .val (.ref bo), .val (.ref bk), .val (.int (9 : Int32)), .val (.int (3 : Int32)), .val (.int (2 : Int32)), .unset] [(.int (0 : Int32))])) _
      refine XS.istore X11.here hx rfl (hb hby at_176) rfl (l' := #[.val (.int xa), .val (.int xb), .val (.ref bo), .val (.ref bk), .val (.int (9 : Int32)), .val (.int (3 : Int32)), .val (.int (2 : Int32)), .val (.int (0 : Int32))]) rfl ?_
      show Steps p.tables e below (T11.setTop (mkF m 178 #[.val (.int xa), .val (.int xb), .val (.ref bo), .val (.ref bk), .val (.int (9 : Int32)), .val (.int (3 : Int32)), .val (.int (2 : Int32)), .val (.int (0 : Int32))] [])) _
      exact kt
    obtain ⟨s₂, o₂, hs₂, hr₂⟩ := own_tail2 xa xb bo bk (9 : Int32) (3 : Int32) (2 : Int32) ko kk [(.ref c0), (.ref c1), (.ref c2), (.ref c3), (.ref c4), (.ref c5), (.ref c6), (.ref c7), (.ref c8), (.ref c9), (.ref c10), (.ref c11), (.ref c12), (.ref c13), (.ref c14), (.ref c15)] [(.ref d0), (.ref d1), (.ref d2), (.ref d3)] c9 d3 d2 X11 hx hZ hw hby hml hown e11 N11 Z0 hret hlk P0 P1 P2 P3 (by decide) rfl (by decide) rfl P9
    exact ⟨s₂, o₂, go13 _ hs₂, hr₂⟩
set_option maxRecDepth 65536 in
set_option maxHeartbeats 40000000 in
theorem own_mid10 {p : Program} {l : Launch} {e : Env} {s : State} {m : MethodId} {args : Array Value} {below : List Frame} {meth : Method} {c : Code} {T0 : State} {locs : List Loc} {Z : State} {a0 : Array Value} {h0 : Heap} {n0 : Nat} (xa : Int32) (xb : Int32) (bo : Addr) (bk : Addr) (kx : Int32) (c0 : Addr) (c1 : Addr) (c2 : Addr) (c3 : Addr) (c4 : Addr) (c5 : Addr) (c6 : Addr) (c7 : Addr) (c8 : Addr) (c9 : Addr) (c10 : Addr) (c11 : Addr) (c12 : Addr) (c13 : Addr) (c14 : Addr) (c15 : Addr) (d0 : Addr) (d1 : Addr) (d2 : Addr) (d3 : Addr) (ko : ClassId) (kk : ClassId) (X0 : Stand p l e room_1 s m args below meth c T0 locs 2 20) (hx : p.tables.exec = Jvm.exec) (hZ : Z.Warmed39 s.vm) (hw : ∀ d ∈ tables_1, d.before a0 Z = true) (hby : c.code = code) (hml : c.maxLocals = 8) (hown : s.vm.findClass "com/example/tracewright/tracewright/engine/expr/UnaryOpAcceptsPinLaw" = some m.cls) (e0 : T0.heap = h0) (N0 : Fr n0 locs) (Z0 : n0 ≤ h0.size) (hret : meth.sig.returnType = some .boolean) (hlk : meth.locks = false) (P0 : Arv Z h0 bo ko (.object "com/example/tracewright/tracewright/engine/expr/UnaryOp") (16 : Int32) [(.ref c0), (.ref c1), (.ref c2), (.ref c3), (.ref c4), (.ref c5), (.ref c6), (.ref c7), (.ref c8), (.ref c9), (.ref c10), (.ref c11), (.ref c12), (.ref c13), (.ref c14), (.ref c15)] .null) (P1 : Arv Z h0 bk kk (.object "com/example/tracewright/tracewright/engine/expr/Kind") (4 : Int32) [(.ref d0), (.ref d1), (.ref d2), (.ref d3)] .null) (P2 : Exa Z h0 c10 "com/example/tracewright/tracewright/engine/expr/UnaryOp") (P3 : Fld Z h0 c10 "com/example/tracewright/tracewright/engine/expr/UnaryOp" "from" "Lcom/example/tracewright/tracewright/engine/expr/Kind;" (.ref d3)) (P4 : d0 ≠ d1) (P5 : d0 ≠ d2) (P6 : d0 ≠ d3) (P7 : d1 ≠ d2) (P8 : d1 ≠ d3) (P9 : d2 ≠ d3) (hK : kx = (0 : Int32) ∨ kx = (1 : Int32) ∨ kx = (2 : Int32) ∨ kx = (3 : Int32)) :
    ∃ s₂ o, Steps p.tables e below (T0.setTop (mkF m 152 #[.val (.int xa), .val (.int xb), .val (.ref bo), .val (.ref bk), .val (.int (10 : Int32)), .val (.int kx), .unset, .unset] [])) s₂ ∧ s₂.status = .running ∧ Ended s₂ below o ∧ ∃ v L, o = .returned v ∧ (v = some (.int (1 : Int32)) ∧ Fr n0 L) ∧ FrameEnd s o s₂ L room_1.cells room_1.slots := by
  obtain ⟨st0, hst0⟩ : ∃ zst, zst = T0.setTop (mkF m 152 #[.val (.int xa), .val (.int xb), .val (.ref bo), .val (.ref bk), .val (.int (10 : Int32)), .val (.int kx), .unset, .unset] []) := ⟨_, rfl⟩
  have go0 : ∀ t, Steps p.tables e below (T0.setTop (mkF m 152 #[.val (.int xa), .val (.int xb), .val (.ref bo), .val (.ref bk), .val (.int (10 : Int32)), .val (.int kx), .unset, .unset] [])) t → Steps p.tables e below st0 t := fun t k => by rw [hst0]; exact k
  rw [← hst0]
  rcases hK with rfl | rfl | rfl | rfl
  · skip
    obtain ⟨_, _, ⟨T2, L2, k2, n2⟩, -, X2, ⟨Lc2, hQ2, l2, y2, z2⟩, st2⟩ := Jvm.LawKit.callS X0 hx (y := (⟨"com/example/tracewright/tracewright/engine/expr/UnaryOpAcceptsPinLaw", "sourceKindIndex", "(I)I"⟩ : MethodName)) hown (mvT hZ (hw _ (List.mem_of_getElem? (i := 48) rfl))) (mvT hZ (hw _ (List.mem_of_getElem? (i := 49) rfl))) (mvT hZ (hw _ (List.mem_of_getElem? (i := 50) rfl))) (mvT hZ (hw _ (List.mem_of_getElem? (i := 51) rfl))) (by decide) (backOf (W := 0) (own_src10 l Z a0 hw []  h0 n0 Z0 ) hZ (hw _ (List.mem_of_getElem? (i := 51) rfl)) (hw _ (List.mem_of_getElem? (i := 50) rfl)) (by decide) (by decide)) (g := (mkF m 154 #[.val (.int xa), .val (.int xb), .val (.ref bo), .val (.ref bk), .val (.int (10 : Int32)), .val (.int (0 : Int32)), .unset, .unset] [(.int (10 : Int32))])) rfl (by rw [hml]; rfl) (argsL := [(.int (10 : Int32))]) (rest := []) (lenOf pd_6 rfl) rfl (by show 2 * 0 + _ ≤ _; exact Nat.le_of_eq rfl) (hb hby at_154) (fun _ _ => ⟨rfl, e0, (by decide : 2 + 0 ≤ _), (by decide : 20 + 0 ≤ _)⟩)
    dsimp only [Pt.U, Pt.locs, Pt.cells, Pt.slots] at X2 l2 y2 z2 st2 hQ2
    subst l2 y2 z2
    obtain ⟨rfl, Nq2, e2⟩ := hQ2
    have N2 := Fr.app N0 Nq2
    have go4 : ∀ t, Steps p.tables e below (T2.setTop (mkF m 178 #[.val (.int xa), .val (.int xb), .val (.ref bo), .val (.ref bk), .val (.int (10 : Int32)), .val (.int (0 : Int32)), .val (.int (3 : Int32)), .val (.int (0 : Int32))] [])) t → Steps p.tables e below st0 t := by
      intro t kt
      refine go0 t ?_
      refine XS.iload X0.here hx rfl (hb hby at_152) rfl ?_
      show Steps p.tables e below (T0.setTop (mkF m 154 #[.val (.int xa), .val (.int xb), .val (.ref bo), .val (.ref bk), .val (.int (10 : Int32)), .val (.int (0 : Int32)), .unset, .unset] [(.int (10 : Int32))])) _
      refine st2 _ ?_
      show Steps p.tables e below (T2.setTop (mkF m 157 #[.val (.int xa), .val (.int xb), .val (.ref bo), .val (.ref bk), .val (.int (10 : Int32)), .val (.int (0 : Int32)), .unset, .unset] [(.int (3 : Int32))])) _
      refine XS.istore X2.here hx rfl (hb hby at_157) rfl (l' := #[.val (.int xa), .val (.int xb), .val (.ref bo), .val (.ref bk), .val (.int (10 : Int32)), .val (.int (0 : Int32)), .val (.int (3 : Int32)), .unset]) rfl ?_
      show Steps p.tables e below (T2.setTop (mkF m 159 #[.val (.int xa), .val (.int xb), .val (.ref bo), .val (.ref bk), .val (.int (10 : Int32)), .val (.int (0 : Int32)), .val (.int (3 : Int32)), .unset] [])) _
      refine XS.iload X2.here hx rfl (hb hby at_159) rfl ?_
      show Steps p.tables e below (T2.setTop (mkF m 161 #[.val (.int xa), .val (.int xb), .val (.ref bo), .val (.ref bk), .val (.int (10 : Int32)), .val (.int (0 : Int32)), .val (.int (3 : Int32)), .unset] [(.int (3 : Int32))])) _
      refine XS.ifNo X2.here hx rfl (hb hby at_161) rfl ((if0 _ _).trans (flt (by decide : ¬ ((3 : Int32) < (0 : Int32)))).1) ?_
      show Steps p.tables e below (T2.setTop (mkF m 164 #[.val (.int xa), .val (.int xb), .val (.ref bo), .val (.ref bk), .val (.int (10 : Int32)), .val (.int (0 : Int32)), .val (.int (3 : Int32)), .unset] [])) _
      refine XS.iload X2.here hx rfl (hb hby at_164) rfl ?_
      show Steps p.tables e below (T2.setTop (mkF m 166 #[.val (.int xa), .val (.int xb), .val (.ref bo), .val (.ref bk), .val (.int (10 : Int32)), .val (.int (0 : Int32)), .val (.int (3 : Int32)), .unset] [(.int (3 : Int32))])) _
      refine XS.iload X2.here hx rfl (hb hby at_166) rfl ?_
      show Steps p.tables e below (T2.setTop (mkF m 168 #[.val (.int xa), .val (.int xb), .val (.ref bo), .val (.ref bk), .val (.int (10 : Int32)), .val (.int (0 : Int32)), .val (.int (3 : Int32)), .unset] [(.int (0 : Int32)), (.int (3 : Int32))])) _
      refine XS.icmpYes X2.here hx rfl (pc0 := 168) (pc' := 175) rfl (hb hby at_168) rfl (feq (by decide : ¬ ((3 : Int32) = (0 : Int32)))).2 (by decide) (by decide) ?_
      show Steps p.tables e below (T2.setTop (mkF m 175 #[.val (.int xa), .val (.int xb), .val (.ref bo), .val (.ref bk), .val (.int (10 : Int32)), .val (.int (0 : Int32)), .val (.int (3 : Int32)), .unset] [])) _
      refine XS.iconst X2.here hx rfl (hb hby at_175) ?_
      show Steps p.tables e below (T2.setTop (mkF m 176 #[.val (.int xa), .val (.int xb), .val (.ref bo), .val (.ref bk), .val (.int (10 : Int32)), .val (.int (0 : Int32)), .val (.int (3 : Int32)), .unset] [(.int (0 : Int32))])) _
      refine XS.istore X2.here hx rfl (hb hby at_176) rfl (l' := #[.val (.int xa), .val (.int xb), .val (.ref bo), .val (.ref bk), .val (.int (10 : Int32)), .val (.int (0 : Int32)), .val (.int (3 : Int32)), .val (.int (0 : Int32))]) rfl ?_
      show Steps p.tables e below (T2.setTop (mkF m 178 #[.val (.int xa), .val (.int xb), .val (.ref bo), .val (.ref bk), .val (.int (10 : Int32)), .val (.int (0 : Int32)), .val (.int (3 : Int32)), .val (.int (0 : Int32))] [])) _
      exact kt
    obtain ⟨s₂, o₂, hs₂, hr₂⟩ := own_tail2 xa xb bo bk (10 : Int32) (0 : Int32) (3 : Int32) ko kk [(.ref c0), (.ref c1), (.ref c2), (.ref c3), (.ref c4), (.ref c5), (.ref c6), (.ref c7), (.ref c8), (.ref c9), (.ref c10), (.ref c11), (.ref c12), (.ref c13), (.ref c14), (.ref c15)] [(.ref d0), (.ref d1), (.ref d2), (.ref d3)] c10 d0 d3 X2 hx hZ hw hby hml hown e2 N2 Z0 hret hlk P0 P1 P2 P3 (by decide) rfl (by decide) rfl (Ne.symm P6)
    exact ⟨s₂, o₂, go4 _ hs₂, hr₂⟩
  · skip
    obtain ⟨_, _, ⟨T5, L5, k5, n5⟩, -, X5, ⟨Lc5, hQ5, l5, y5, z5⟩, st5⟩ := Jvm.LawKit.callS X0 hx (y := (⟨"com/example/tracewright/tracewright/engine/expr/UnaryOpAcceptsPinLaw", "sourceKindIndex", "(I)I"⟩ : MethodName)) hown (mvT hZ (hw _ (List.mem_of_getElem? (i := 48) rfl))) (mvT hZ (hw _ (List.mem_of_getElem? (i := 49) rfl))) (mvT hZ (hw _ (List.mem_of_getElem? (i := 50) rfl))) (mvT hZ (hw _ (List.mem_of_getElem? (i := 51) rfl))) (by decide) (backOf (W := 0) (own_src10 l Z a0 hw []  h0 n0 Z0 ) hZ (hw _ (List.mem_of_getElem? (i := 51) rfl)) (hw _ (List.mem_of_getElem? (i := 50) rfl)) (by decide) (by decide)) (g := (mkF m 154 #[.val (.int xa), .val (.int xb), .val (.ref bo), .val (.ref bk), .val (.int (10 : Int32)), .val (.int (1 : Int32)), .unset, .unset] [(.int (10 : Int32))])) rfl (by rw [hml]; rfl) (argsL := [(.int (10 : Int32))]) (rest := []) (lenOf pd_6 rfl) rfl (by show 2 * 0 + _ ≤ _; exact Nat.le_of_eq rfl) (hb hby at_154) (fun _ _ => ⟨rfl, e0, (by decide : 2 + 0 ≤ _), (by decide : 20 + 0 ≤ _)⟩)
    dsimp only [Pt.U, Pt.locs, Pt.cells, Pt.slots] at X5 l5 y5 z5 st5 hQ5
    subst l5 y5 z5
    obtain ⟨rfl, Nq5, e5⟩ := hQ5
    have N5 := Fr.app N0 Nq5
    have go7 : ∀ t, Steps p.tables e below (T5.setTop (mkF m 178 #[.val (.int xa), .val (.int xb), .val (.ref bo), .val (.ref bk), .val (.int (10 : Int32)), .val (.int (1 : Int32)), .val (.int (3 : Int32)), .val (.int (0 : Int32))] [])) t → Steps p.tables e below st0 t := by
      intro t kt
      refine go0 t ?_
      refine XS.iload X0.here hx rfl (hb hby at_152) rfl ?_
      show Steps p.tables e below (T0.setTop (mkF m 154 #[.val (.int xa), .val (.int xb), .val (.ref bo), .val (.ref bk), .val (.int (10 : Int32)), .val (.int (1 : Int32)), .unset, .unset] [(.int (10 : Int32))])) _
      refine st5 _ ?_
      show Steps p.tables e below (T5.setTop (mkF m 157 #[.val (.int xa), .val (.int xb), .val (.ref bo), .val (.ref bk), .val (.int (10 : Int32)), .val (.int (1 : Int32)), .unset, .unset] [(.int (3 : Int32))])) _
      refine XS.istore X5.here hx rfl (hb hby at_157) rfl (l' := #[.val (.int xa), .val (.int xb), .val (.ref bo), .val (.ref bk), .val (.int (10 : Int32)), .val (.int (1 : Int32)), .val (.int (3 : Int32)), .unset]) rfl ?_
      show Steps p.tables e below (T5.setTop (mkF m 159 #[.val (.int xa), .val (.int xb), .val (.ref bo), .val (.ref bk), .val (.int (10 : Int32)), .val (.int (1 : Int32)), .val (.int (3 : Int32)), .unset] [])) _
      refine XS.iload X5.here hx rfl (hb hby at_159) rfl ?_
      show Steps p.tables e below (T5.setTop (mkF m 161 #[.val (.int xa), .val (.int xb), .val (.ref bo), .val (.ref bk), .val (.int (10 : Int32)), .val (.int (1 : Int32)), .val (.int (3 : Int32)), .unset] [(.int (3 : Int32))])) _
      refine XS.ifNo X5.here hx rfl (hb hby at_161) rfl ((if0 _ _).trans (flt (by decide : ¬ ((3 : Int32) < (0 : Int32)))).1) ?_
      show Steps p.tables e below (T5.setTop (mkF m 164 #[.val (.int xa), .val (.int xb), .val (.ref bo), .val (.ref bk), .val (.int (10 : Int32)), .val (.int (1 : Int32)), .val (.int (3 : Int32)), .unset] [])) _
      refine XS.iload X5.here hx rfl (hb hby at_164) rfl ?_
      show Steps p.tables e below (T5.setTop (mkF m 166 #[.val (.int xa), .val (.int xb), .val (.ref bo), .val (.ref bk), .val (.int (10 : Int32)), .val (.int (1 : Int32)), .val (.int (3 : Int32)), .unset] [(.int (3 : Int32))])) _
      refine XS.iload X5.here hx rfl (hb hby at_166) rfl ?_
      show Steps p.tables e below (T5.setTop (mkF m 168 #[.val (.int xa), .val (.int xb), .val (.ref bo), .val (.ref bk), .val (.int (10 : Int32)), .val (.int (1 : Int32)), .val (.int (3 : Int32)), .unset] [(.int (1 : Int32)), (.int (3 : Int32))])) _
      refine XS.icmpYes X5.here hx rfl (pc0 := 168) (pc' := 175) rfl (hb hby at_168) rfl (feq (by decide : ¬ ((3 : Int32) = (1 : Int32)))).2 (by decide) (by decide) ?_
      show Steps p.tables e below (T5.setTop (mkF m 175 #[.val (.int xa), .val (.int xb), .val (.ref bo), .val (.ref bk), .val (.int (10 : Int32)), .val (.int (1 : Int32)), .val (.int (3 : Int32)), .unset] [])) _
      refine XS.iconst X5.here hx rfl (hb hby at_175) ?_
      show Steps p.tables e below (T5.setTop (mkF m 176 #[.val (.int xa), .val (.int xb), .val (.ref bo), .val (.ref bk), .val (.int (10 : Int32)), .val (.int (1 : Int32)), .val (.int (3 : Int32)), .unset] [(.int (0 : Int32))])) _
      refine XS.istore X5.here hx rfl (hb hby at_176) rfl (l' := #[.val (.int xa), .val (.int xb), .val (.ref bo), .val (.ref bk), .val (.int (10 : Int32)), .val (.int (1 : Int32)), .val (.int (3 : Int32)), .val (.int (0 : Int32))]) rfl ?_
      show Steps p.tables e below (T5.setTop (mkF m 178 #[.val (.int xa), .val (.int xb), .val (.ref bo), .val (.ref bk), .val (.int (10 : Int32)), .val (.int (1 : Int32)), .val (.int (3 : Int32)), .val (.int (0 : Int32))] [])) _
      exact kt
    obtain ⟨s₂, o₂, hs₂, hr₂⟩ := own_tail2 xa xb bo bk (10 : Int32) (1 : Int32) (3 : Int32) ko kk [(.ref c0), (.ref c1), (.ref c2), (.ref c3), (.ref c4), (.ref c5), (.ref c6), (.ref c7), (.ref c8), (.ref c9), (.ref c10), (.ref c11), (.ref c12), (.ref c13), (.ref c14), (.ref c15)] [(.ref d0), (.ref d1), (.ref d2), (.ref d3)] c10 d1 d3 X5 hx hZ hw hby hml hown e5 N5 Z0 hret hlk P0 P1 P2 P3 (by decide) rfl (by decide) rfl (Ne.symm P8)
    exact ⟨s₂, o₂, go7 _ hs₂, hr₂⟩
  · skip
    obtain ⟨_, _, ⟨T8, L8, k8, n8⟩, -, X8, ⟨Lc8, hQ8, l8, y8, z8⟩, st8⟩ := Jvm.LawKit.callS X0 hx (y := (⟨"com/example/tracewright/tracewright/engine/expr/UnaryOpAcceptsPinLaw", "sourceKindIndex", "(I)I"⟩ : MethodName)) hown (mvT hZ (hw _ (List.mem_of_getElem? (i := 48) rfl))) (mvT hZ (hw _ (List.mem_of_getElem? (i := 49) rfl))) (mvT hZ (hw _ (List.mem_of_getElem? (i := 50) rfl))) (mvT hZ (hw _ (List.mem_of_getElem? (i := 51) rfl))) (by decide) (backOf (W := 0) (own_src10 l Z a0 hw []  h0 n0 Z0 ) hZ (hw _ (List.mem_of_getElem? (i := 51) rfl)) (hw _ (List.mem_of_getElem? (i := 50) rfl)) (by decide) (by decide)) (g := (mkF m 154 #[.val (.int xa), .val (.int xb), .val (.ref bo), .val (.ref bk), .val (.int (10 : Int32)), .val (.int (2 : Int32)), .unset, .unset] [(.int (10 : Int32))])) rfl (by rw [hml]; rfl) (argsL := [(.int (10 : Int32))]) (rest := []) (lenOf pd_6 rfl) rfl (by show 2 * 0 + _ ≤ _; exact Nat.le_of_eq rfl) (hb hby at_154) (fun _ _ => ⟨rfl, e0, (by decide : 2 + 0 ≤ _), (by decide : 20 + 0 ≤ _)⟩)
    dsimp only [Pt.U, Pt.locs, Pt.cells, Pt.slots] at X8 l8 y8 z8 st8 hQ8
    subst l8 y8 z8
    obtain ⟨rfl, Nq8, e8⟩ := hQ8
    have N8 := Fr.app N0 Nq8
    have go10 : ∀ t, Steps p.tables e below (T8.setTop (mkF m 178 #[.val (.int xa), .val (.int xb), .val (.ref bo), .val (.ref bk), .val (.int (10 : Int32)), .val (.int (2 : Int32)), .val (.int (3 : Int32)), .val (.int (0 : Int32))] [])) t → Steps p.tables e below st0 t := by
      intro t kt
      refine go0 t ?_
      refine XS.iload X0.here hx rfl (hb hby at_152) rfl ?_
      show Steps p.tables e below (T0.setTop (mkF m 154 #[.val (.int xa), .val (.int xb), .val (.ref bo), .val (.ref bk), .val (.int (10 : Int32)), .val (.int (2 : Int32)), .unset, .unset] [(.int (10 : Int32))])) _
      refine st8 _ ?_
      show Steps p.tables e below (T8.setTop (mkF m 157 #[.val (.int xa), .val (.int xb), .val (.ref bo), .val (.ref bk), .val (.int (10 : Int32)), .val (.int (2 : Int32)), .unset, .unset] [(.int (3 : Int32))])) _
      refine XS.istore X8.here hx rfl (hb hby at_157) rfl (l' := #[.val (.int xa), .val (.int xb), .val (.ref bo), .val (.ref bk), .val (.int (10 : Int32)), .val (.int (2 : Int32)), .val (.int (3 : Int32)), .unset]) rfl ?_
      show Steps p.tables e below (T8.setTop (mkF m 159 #[.val (.int xa), .val (.int xb), .val (.ref bo), .val (.ref bk), .val (.int (10 : Int32)), .val (.int (2 : Int32)), .val (.int (3 : Int32)), .unset] [])) _
      refine XS.iload X8.here hx rfl (hb hby at_159) rfl ?_
      show Steps p.tables e below (T8.setTop (mkF m 161 #[.val (.int xa), .val (.int xb), .val (.ref bo), .val (.ref bk), .val (.int (10 : Int32)), .val (.int (2 : Int32)), .val (.int (3 : Int32)), .unset] [(.int (3 : Int32))])) _
      refine XS.ifNo X8.here hx rfl (hb hby at_161) rfl ((if0 _ _).trans (flt (by decide : ¬ ((3 : Int32) < (0 : Int32)))).1) ?_
      show Steps p.tables e below (T8.setTop (mkF m 164 #[.val (.int xa), .val (.int xb), .val (.ref bo), .val (.ref bk), .val (.int (10 : Int32)), .val (.int (2 : Int32)), .val (.int (3 : Int32)), .unset] [])) _
      refine XS.iload X8.here hx rfl (hb hby at_164) rfl ?_
      show Steps p.tables e below (T8.setTop (mkF m 166 #[.val (.int xa), .val (.int xb), .val (.ref bo), .val (.ref bk), .val (.int (10 : Int32)), .val (.int (2 : Int32)), .val (.int (3 : Int32)), .unset] [(.int (3 : Int32))])) _
      refine XS.iload X8.here hx rfl (hb hby at_166) rfl ?_
      show Steps p.tables e below (T8.setTop (mkF m 168 #[.val (.int xa), .val (.int xb), .val (.ref bo), .val (.ref bk), .val (.int (10 : Int32)), .val (.int (2 : Int32)), .val (.int (3 : Int32)), .unset] [(.int (2 : Int32)), (.int (3 : Int32))])) _
      refine XS.icmpYes X8.here hx rfl (pc0 := 168) (pc' := 175) rfl (hb hby at_168) rfl (feq (by decide : ¬ ((3 : Int32) = (2 : Int32)))).2 (by decide) (by decide) ?_
      show Steps p.tables e below (T8.setTop (mkF m 175 #[.val (.int xa), .val (.int xb), .val (.ref bo), .val (.ref bk), .val (.int (10 : Int32)), .val (.int (2 : Int32)), .val (.int (3 : Int32)), .unset] [])) _
      refine XS.iconst X8.here hx rfl (hb hby at_175) ?_
      show Steps p.tables e below (T8.setTop (mkF m 176 #[.val (.int xa), .val (.int xb), .val (.ref bo), .val (.ref bk), .val (.int (10 : Int32)), .val (.int (2 : Int32)), .val (.int (3 : Int32)), .unset] [(.int (0 : Int32))])) _
      refine XS.istore X8.here hx rfl (hb hby at_176) rfl (l' := #[.val (.int xa), .val (.int xb), .val (.ref bo), .val (.ref bk), .val (.int (10 : Int32)), .val (.int (2 : Int32)), .val (.int (3 : Int32)), .val (.int (0 : Int32))]) rfl ?_
      show Steps p.tables e below (T8.setTop (mkF m 178 #[.val (.int xa), .val (.int xb), .val (.ref bo), .val (.ref bk), .val (.int (10 : Int32)), .val (.int (2 : Int32)), .val (.int (3 : Int32)), .val (.int (0 : Int32))] [])) _
      exact kt
    obtain ⟨s₂, o₂, hs₂, hr₂⟩ := own_tail2 xa xb bo bk (10 : Int32) (2 : Int32) (3 : Int32) ko kk [(.ref c0), (.ref c1), (.ref c2), (.ref c3), (.ref c4), (.ref c5), (.ref c6), (.ref c7), (.ref c8), (.ref c9), (.ref c10), (.ref c11), (.ref c12), (.ref c13), (.ref c14), (.ref c15)] [(.ref d0), (.ref d1), (.ref d2), (.ref d3)] c10 d2 d3 X8 hx hZ hw hby hml hown e8 N8 Z0 hret hlk P0 P1 P2 P3 (by decide) rfl (by decide) rfl (Ne.symm P9)
    exact ⟨s₂, o₂, go10 _ hs₂, hr₂⟩
  · skip
    obtain ⟨_, _, ⟨T11, L11, k11, n11⟩, -, X11, ⟨Lc11, hQ11, l11, y11, z11⟩, st11⟩ := Jvm.LawKit.callS X0 hx (y := (⟨"com/example/tracewright/tracewright/engine/expr/UnaryOpAcceptsPinLaw", "sourceKindIndex", "(I)I"⟩ : MethodName)) hown (mvT hZ (hw _ (List.mem_of_getElem? (i := 48) rfl))) (mvT hZ (hw _ (List.mem_of_getElem? (i := 49) rfl))) (mvT hZ (hw _ (List.mem_of_getElem? (i := 50) rfl))) (mvT hZ (hw _ (List.mem_of_getElem? (i := 51) rfl))) (by decide) (backOf (W := 0) (own_src10 l Z a0 hw []  h0 n0 Z0 ) hZ (hw _ (List.mem_of_getElem? (i := 51) rfl)) (hw _ (List.mem_of_getElem? (i := 50) rfl)) (by decide) (by decide)) (g := (mkF m 154 #[.val (.int xa), .val (.int xb), .val (.ref bo), .val (.ref bk), .val (.int (10 : Int32)), .val (.int (3 : Int32)), .unset, .unset] [(.int (10 : Int32))])) rfl (by rw [hml]; rfl) (argsL := [(.int (10 : Int32))]) (rest := []) (lenOf pd_6 rfl) rfl (by show 2 * 0 + _ ≤ _; exact Nat.le_of_eq rfl) (hb hby at_154) (fun _ _ => ⟨rfl, e0, (by decide : 2 + 0 ≤ _), (by decide : 20 + 0 ≤ _)⟩)
    dsimp only [Pt.U, Pt.locs, Pt.cells, Pt.slots] at X11 l11 y11 z11 st11 hQ11
    subst l11 y11 z11
    obtain ⟨rfl, Nq11, e11⟩ := hQ11
    have N11 := Fr.app N0 Nq11
    have go13 : ∀ t, Steps p.tables e below (T11.setTop (mkF m 178 #[.val (.int xa), .val (.int xb), .val (.ref bo), .val (.ref bk), .val (.int (10 : Int32)), .val (.int (3 : Int32)), .val (.int (3 : Int32)), .val (.int (1 : Int32))] [])) t → Steps p.tables e below st0 t := by
      intro t kt
      refine go0 t ?_
      refine XS.iload X0.here hx rfl (hb hby at_152) rfl ?_
      show Steps p.tables e below (T0.setTop (mkF m 154 #[.val (.int xa), .val (.int xb), .val (.ref bo), .val (.ref bk), .val (.int (10 : Int32)), .val (.int (3 : Int32)), .unset, .unset] [(.int (10 : Int32))])) _
      refine st11 _ ?_
      show Steps p.tables e below (T11.setTop (mkF m 157 #[.val (.int xa), .val (.int xb), .val (.ref bo), .val (.ref bk), .val (.int (10 : Int32)), .val (.int (3 : Int32)), .unset, .unset] [(.int (3 : Int32))])) _
      refine XS.istore X11.here hx rfl (hb hby at_157) rfl (l' := #[.val (.int xa), .val (.int xb), .val (.ref bo), .val (.ref bk), .val (.int (10 : Int32)), .val (.int (3 : Int32)), .val (.int (3 : Int32)), .unset]) rfl ?_
      show Steps p.tables e below (T11.setTop (mkF m 159 #[.val (.int xa), .val (.int xb), .val (.ref bo), .val (.ref bk), .val (.int (10 : Int32)), .val (.int (3 : Int32)), .val (.int (3 : Int32)), .unset] [])) _
      refine XS.iload X11.here hx rfl (hb hby at_159) rfl ?_
      show Steps p.tables e below (T11.setTop (mkF m 161 #[.val (.int xa), .val (.int xb), .val (.ref bo), .val (.ref bk), .val (.int (10 : Int32)), .val (.int (3 : Int32)), .val (.int (3 : Int32)), .unset] [(.int (3 : Int32))])) _
      refine XS.ifNo X11.here hx rfl (hb hby at_161) rfl ((if0 _ _).trans (flt (by decide : ¬ ((3 : Int32) < (0 : Int32)))).1) ?_
      show Steps p.tables e below (T11.setTop (mkF m 164 #[.val (.int xa), .val (.int xb), .val (.ref bo), .val (.ref bk), .val (.int (10 : Int32)), .val (.int (3 : Int32)), .val (.int (3 : Int32)), .unset] [])) _
      refine XS.iload X11.here hx rfl (hb hby at_164) rfl ?_
      show Steps p.tables e below (T11.setTop (mkF m 166 #[.val (.int xa), .val (.int xb), .val (.ref bo), .val (.ref bk), .val (.int (10 : Int32)), .val (.int (3 : Int32)), .val (.int (3 : Int32)), .unset] [(.int (3 : Int32))])) _
      refine XS.iload X11.here hx rfl (hb hby at_166) rfl ?_
      show Steps p.tables e below (T11.setTop (mkF m 168 #[.val (.int xa), .val (.int xb), .val (.ref bo), .val (.ref bk), .val (.int (10 : Int32)), .val (.int (3 : Int32)), .val (.int (3 : Int32)), .unset] [(.int (3 : Int32)), (.int (3 : Int32))])) _
      refine XS.icmpNo X11.here hx rfl (hb hby at_168) rfl (teq (by decide : (3 : Int32) = (3 : Int32))).2 ?_
      show Steps p.tables e below (T11.setTop (mkF m 171 #[.val (.int xa), .val (.int xb), .val (.ref bo), .val (.ref bk), .val (.int (10 : Int32)), .val (.int (3 : Int32)), .val (.int (3 : Int32)), .unset] [])) _
      refine XS.iconst X11.here hx rfl (hb hby at_171) ?_
      show Steps p.tables e below (T11.setTop (mkF m 172 #[.val (.int xa), .val (.int xb), .val (.ref bo), .val (.ref bk), .val (.int (10 : Int32)), .val (.int (3 : Int32)), .val (.int (3 : Int32)), .unset] [(.int (1 : Int32))])) _
      refine XS.goto X11.here hx rfl (pc0 := 172) (pc' := 176) rfl (hb hby at_172) (by decide) (by decide) ?_
      show Steps p.tables e below (T11.setTop (mkF m 176 #[.val (.int xa), .val (.int xb), .val (.ref bo), .val (.ref bk), .val (.int (10 : Int32)), .val (.int (3 : Int32)), .val (.int (3 : Int32)), .unset] [(.int (1 : Int32))])) _
      refine XS.istore X11.here hx rfl (hb hby at_176) rfl (l' := #[.val (.int xa), .val (.int xb), .val (.ref bo), .val (.ref bk), .val (.int (10 : Int32)), .val (.int (3 : Int32)), .val (.int (3 : Int32)), .val (.int (1 : Int32))]) rfl ?_
      show Steps p.tables e below (T11.setTop (mkF m 178 #[.val (.int xa), .val (.int xb), .val (.ref bo), .val (.ref bk), .val (.int (10 : Int32)), .val (.int (3 : Int32)), .val (.int (3 : Int32)), .val (.int (1 : Int32))] [])) _
      exact kt
    obtain ⟨s₂, o₂, hs₂, hr₂⟩ := own_tail1 xa xb bo bk (10 : Int32) (3 : Int32) (3 : Int32) ko kk [(.ref c0), (.ref c1), (.ref c2), (.ref c3), (.ref c4), (.ref c5), (.ref c6), (.ref c7), (.ref c8), (.ref c9), (.ref c10), (.ref c11), (.ref c12), (.ref c13), (.ref c14), (.ref c15)] [(.ref d0), (.ref d1), (.ref d2), (.ref d3)] c10 d3 X11 hx hZ hw hby hml hown e11 N11 Z0 hret hlk P0 P1 P2 P3 (by decide) rfl (by decide) rfl
    exact ⟨s₂, o₂, go13 _ hs₂, hr₂⟩
set_option maxRecDepth 65536 in
set_option maxHeartbeats 40000000 in
theorem own_mid11 {p : Program} {l : Launch} {e : Env} {s : State} {m : MethodId} {args : Array Value} {below : List Frame} {meth : Method} {c : Code} {T0 : State} {locs : List Loc} {Z : State} {a0 : Array Value} {h0 : Heap} {n0 : Nat} (xa : Int32) (xb : Int32) (bo : Addr) (bk : Addr) (kx : Int32) (c0 : Addr) (c1 : Addr) (c2 : Addr) (c3 : Addr) (c4 : Addr) (c5 : Addr) (c6 : Addr) (c7 : Addr) (c8 : Addr) (c9 : Addr) (c10 : Addr) (c11 : Addr) (c12 : Addr) (c13 : Addr) (c14 : Addr) (c15 : Addr) (d0 : Addr) (d1 : Addr) (d2 : Addr) (d3 : Addr) (ko : ClassId) (kk : ClassId) (X0 : Stand p l e room_1 s m args below meth c T0 locs 2 20) (hx : p.tables.exec = Jvm.exec) (hZ : Z.Warmed39 s.vm) (hw : ∀ d ∈ tables_1, d.before a0 Z = true) (hby : c.code = code) (hml : c.maxLocals = 8) (hown : s.vm.findClass "com/example/tracewright/tracewright/engine/expr/UnaryOpAcceptsPinLaw" = some m.cls) (e0 : T0.heap = h0) (N0 : Fr n0 locs) (Z0 : n0 ≤ h0.size) (hret : meth.sig.returnType = some .boolean) (hlk : meth.locks = false) (P0 : Arv Z h0 bo ko (.object "com/example/tracewright/tracewright/engine/expr/UnaryOp") (16 : Int32) [(.ref c0), (.ref c1), (.ref c2), (.ref c3), (.ref c4), (.ref c5), (.ref c6), (.ref c7), (.ref c8), (.ref c9), (.ref c10), (.ref c11), (.ref c12), (.ref c13), (.ref c14), (.ref c15)] .null) (P1 : Arv Z h0 bk kk (.object "com/example/tracewright/tracewright/engine/expr/Kind") (4 : Int32) [(.ref d0), (.ref d1), (.ref d2), (.ref d3)] .null) (P2 : Exa Z h0 c11 "com/example/tracewright/tracewright/engine/expr/UnaryOp") (P3 : Fld Z h0 c11 "com/example/tracewright/tracewright/engine/expr/UnaryOp" "from" "Lcom/example/tracewright/tracewright/engine/expr/Kind;" (.ref d3)) (P4 : d0 ≠ d1) (P5 : d0 ≠ d2) (P6 : d0 ≠ d3) (P7 : d1 ≠ d2) (P8 : d1 ≠ d3) (P9 : d2 ≠ d3) (hK : kx = (0 : Int32) ∨ kx = (1 : Int32) ∨ kx = (2 : Int32) ∨ kx = (3 : Int32)) :
    ∃ s₂ o, Steps p.tables e below (T0.setTop (mkF m 152 #[.val (.int xa), .val (.int xb), .val (.ref bo), .val (.ref bk), .val (.int (11 : Int32)), .val (.int kx), .unset, .unset] [])) s₂ ∧ s₂.status = .running ∧ Ended s₂ below o ∧ ∃ v L, o = .returned v ∧ (v = some (.int (1 : Int32)) ∧ Fr n0 L) ∧ FrameEnd s o s₂ L room_1.cells room_1.slots := by
  obtain ⟨st0, hst0⟩ : ∃ zst, zst = T0.setTop (mkF m 152 #[.val (.int xa), .val (.int xb), .val (.ref bo), .val (.ref bk), .val (.int (11 : Int32)), .val (.int kx), .unset, .unset] []) := ⟨_, rfl⟩
  have go0 : ∀ t, Steps p.tables e below (T0.setTop (mkF m 152 #[.val (.int xa), .val (.int xb), .val (.ref bo), .val (.ref bk), .val (.int (11 : Int32)), .val (.int kx), .unset, .unset] [])) t → Steps p.tables e below st0 t := fun t k => by rw [hst0]; exact k
  rw [← hst0]
  rcases hK with rfl | rfl | rfl | rfl
  · skip
    obtain ⟨_, _, ⟨T2, L2, k2, n2⟩, -, X2, ⟨Lc2, hQ2, l2, y2, z2⟩, st2⟩ := Jvm.LawKit.callS X0 hx (y := (⟨"com/example/tracewright/tracewright/engine/expr/UnaryOpAcceptsPinLaw", "sourceKindIndex", "(I)I"⟩ : MethodName)) hown (mvT hZ (hw _ (List.mem_of_getElem? (i := 48) rfl))) (mvT hZ (hw _ (List.mem_of_getElem? (i := 49) rfl))) (mvT hZ (hw _ (List.mem_of_getElem? (i := 50) rfl))) (mvT hZ (hw _ (List.mem_of_getElem? (i := 51) rfl))) (by decide) (backOf (W := 0) (own_src11 l Z a0 hw []  h0 n0 Z0 ) hZ (hw _ (List.mem_of_getElem? (i := 51) rfl)) (hw _ (List.mem_of_getElem? (i := 50) rfl)) (by decide) (by decide)) (g := (mkF m 154 #[.val (.int xa), .val (.int xb), .val (.ref bo), .val (.ref bk), .val (.int (11 : Int32)), .val (.int (0 : Int32)), .unset, .unset] [(.int (11 : Int32))])) rfl (by rw [hml]; rfl) (argsL := [(.int (11 : Int32))]) (rest := []) (lenOf pd_6 rfl) rfl (by show 2 * 0 + _ ≤ _; exact Nat.le_of_eq rfl) (hb hby at_154) (fun _ _ => ⟨rfl, e0, (by decide : 2 + 0 ≤ _), (by decide : 20 + 0 ≤ _)⟩)
    dsimp only [Pt.U, Pt.locs, Pt.cells, Pt.slots] at X2 l2 y2 z2 st2 hQ2
    subst l2 y2 z2
    obtain ⟨rfl, Nq2, e2⟩ := hQ2
    have N2 := Fr.app N0 Nq2
    have go4 : ∀ t, Steps p.tables e below (T2.setTop (mkF m 178 #[.val (.int xa), .val (.int xb), .val (.ref bo), .val (.ref bk), .val (.int (11 : Int32)), .val (.int (0 : Int32)), .val (.int (3 : Int32)), .val (.int (0 : Int32))] [])) t → Steps p.tables e below st0 t := by
      intro t kt
      refine go0 t ?_
      refine XS.iload X0.here hx rfl (hb hby at_152) rfl ?_
      show Steps p.tables e below (T0.setTop (mkF m 154 #[.val (.int xa), .val (.int xb), .val (.ref bo), .val (.ref bk), .val (.int (11 : Int32)), .val (.int (0 : Int32)), .unset, .unset] [(.int (11 : Int32))])) _
      refine st2 _ ?_
      show Steps p.tables e below (T2.setTop (mkF m 157 #[.val (.int xa), .val (.int xb), .val (.ref bo), .val (.ref bk), .val (.int (11 : Int32)), .val (.int (0 : Int32)), .unset, .unset] [(.int (3 : Int32))])) _
      refine XS.istore X2.here hx rfl (hb hby at_157) rfl (l' := #[.val (.int xa), .val (.int xb), .val (.ref bo), .val (.ref bk), .val (.int (11 : Int32)), .val (.int (0 : Int32)), .val (.int (3 : Int32)), .unset]) rfl ?_
      show Steps p.tables e below (T2.setTop (mkF m 159 #[.val (.int xa), .val (.int xb), .val (.ref bo), .val (.ref bk), .val (.int (11 : Int32)), .val (.int (0 : Int32)), .val (.int (3 : Int32)), .unset] [])) _
      refine XS.iload X2.here hx rfl (hb hby at_159) rfl ?_
      show Steps p.tables e below (T2.setTop (mkF m 161 #[.val (.int xa), .val (.int xb), .val (.ref bo), .val (.ref bk), .val (.int (11 : Int32)), .val (.int (0 : Int32)), .val (.int (3 : Int32)), .unset] [(.int (3 : Int32))])) _
      refine XS.ifNo X2.here hx rfl (hb hby at_161) rfl ((if0 _ _).trans (flt (by decide : ¬ ((3 : Int32) < (0 : Int32)))).1) ?_
      show Steps p.tables e below (T2.setTop (mkF m 164 #[.val (.int xa), .val (.int xb), .val (.ref bo), .val (.ref bk), .val (.int (11 : Int32)), .val (.int (0 : Int32)), .val (.int (3 : Int32)), .unset] [])) _
      refine XS.iload X2.here hx rfl (hb hby at_164) rfl ?_
      show Steps p.tables e below (T2.setTop (mkF m 166 #[.val (.int xa), .val (.int xb), .val (.ref bo), .val (.ref bk), .val (.int (11 : Int32)), .val (.int (0 : Int32)), .val (.int (3 : Int32)), .unset] [(.int (3 : Int32))])) _
      refine XS.iload X2.here hx rfl (hb hby at_166) rfl ?_
      show Steps p.tables e below (T2.setTop (mkF m 168 #[.val (.int xa), .val (.int xb), .val (.ref bo), .val (.ref bk), .val (.int (11 : Int32)), .val (.int (0 : Int32)), .val (.int (3 : Int32)), .unset] [(.int (0 : Int32)), (.int (3 : Int32))])) _
      refine XS.icmpYes X2.here hx rfl (pc0 := 168) (pc' := 175) rfl (hb hby at_168) rfl (feq (by decide : ¬ ((3 : Int32) = (0 : Int32)))).2 (by decide) (by decide) ?_
      show Steps p.tables e below (T2.setTop (mkF m 175 #[.val (.int xa), .val (.int xb), .val (.ref bo), .val (.ref bk), .val (.int (11 : Int32)), .val (.int (0 : Int32)), .val (.int (3 : Int32)), .unset] [])) _
      refine XS.iconst X2.here hx rfl (hb hby at_175) ?_
      show Steps p.tables e below (T2.setTop (mkF m 176 #[.val (.int xa), .val (.int xb), .val (.ref bo), .val (.ref bk), .val (.int (11 : Int32)), .val (.int (0 : Int32)), .val (.int (3 : Int32)), .unset] [(.int (0 : Int32))])) _
      refine XS.istore X2.here hx rfl (hb hby at_176) rfl (l' := #[.val (.int xa), .val (.int xb), .val (.ref bo), .val (.ref bk), .val (.int (11 : Int32)), .val (.int (0 : Int32)), .val (.int (3 : Int32)), .val (.int (0 : Int32))]) rfl ?_
      show Steps p.tables e below (T2.setTop (mkF m 178 #[.val (.int xa), .val (.int xb), .val (.ref bo), .val (.ref bk), .val (.int (11 : Int32)), .val (.int (0 : Int32)), .val (.int (3 : Int32)), .val (.int (0 : Int32))] [])) _
      exact kt
    obtain ⟨s₂, o₂, hs₂, hr₂⟩ := own_tail2 xa xb bo bk (11 : Int32) (0 : Int32) (3 : Int32) ko kk [(.ref c0), (.ref c1), (.ref c2), (.ref c3), (.ref c4), (.ref c5), (.ref c6), (.ref c7), (.ref c8), (.ref c9), (.ref c10), (.ref c11), (.ref c12), (.ref c13), (.ref c14), (.ref c15)] [(.ref d0), (.ref d1), (.ref d2), (.ref d3)] c11 d0 d3 X2 hx hZ hw hby hml hown e2 N2 Z0 hret hlk P0 P1 P2 P3 (by decide) rfl (by decide) rfl (Ne.symm P6)
    exact ⟨s₂, o₂, go4 _ hs₂, hr₂⟩
  · skip
    obtain ⟨_, _, ⟨T5, L5, k5, n5⟩, -, X5, ⟨Lc5, hQ5, l5, y5, z5⟩, st5⟩ := Jvm.LawKit.callS X0 hx (y := (⟨"com/example/tracewright/tracewright/engine/expr/UnaryOpAcceptsPinLaw", "sourceKindIndex", "(I)I"⟩ : MethodName)) hown (mvT hZ (hw _ (List.mem_of_getElem? (i := 48) rfl))) (mvT hZ (hw _ (List.mem_of_getElem? (i := 49) rfl))) (mvT hZ (hw _ (List.mem_of_getElem? (i := 50) rfl))) (mvT hZ (hw _ (List.mem_of_getElem? (i := 51) rfl))) (by decide) (backOf (W := 0) (own_src11 l Z a0 hw []  h0 n0 Z0 ) hZ (hw _ (List.mem_of_getElem? (i := 51) rfl)) (hw _ (List.mem_of_getElem? (i := 50) rfl)) (by decide) (by decide)) (g := (mkF m 154 #[.val (.int xa), .val (.int xb), .val (.ref bo), .val (.ref bk), .val (.int (11 : Int32)), .val (.int (1 : Int32)), .unset, .unset] [(.int (11 : Int32))])) rfl (by rw [hml]; rfl) (argsL := [(.int (11 : Int32))]) (rest := []) (lenOf pd_6 rfl) rfl (by show 2 * 0 + _ ≤ _; exact Nat.le_of_eq rfl) (hb hby at_154) (fun _ _ => ⟨rfl, e0, (by decide : 2 + 0 ≤ _), (by decide : 20 + 0 ≤ _)⟩)
    dsimp only [Pt.U, Pt.locs, Pt.cells, Pt.slots] at X5 l5 y5 z5 st5 hQ5
    subst l5 y5 z5
    obtain ⟨rfl, Nq5, e5⟩ := hQ5
    have N5 := Fr.app N0 Nq5
    have go7 : ∀ t, Steps p.tables e below (T5.setTop (mkF m 178 #[.val (.int xa), .val (.int xb), .val (.ref bo), .val (.ref bk), .val (.int (11 : Int32)), .val (.int (1 : Int32)), .val (.int (3 : Int32)), .val (.int (0 : Int32))] [])) t → Steps p.tables e below st0 t := by
      intro t kt
      refine go0 t ?_
      refine XS.iload X0.here hx rfl (hb hby at_152) rfl ?_
      show Steps p.tables e below (T0.setTop (mkF m 154 #[.val (.int xa), .val (.int xb), .val (.ref bo), .val (.ref bk), .val (.int (11 : Int32)), .val (.int (1 : Int32)), .unset, .unset] [(.int (11 : Int32))])) _
      refine st5 _ ?_
      show Steps p.tables e below (T5.setTop (mkF m 157 #[.val (.int xa), .val (.int xb), .val (.ref bo), .val (.ref bk), .val (.int (11 : Int32)), .val (.int (1 : Int32)), .unset, .unset] [(.int (3 : Int32))])) _
      refine XS.istore X5.here hx rfl (hb hby at_157) rfl (l' := #[.val (.int xa), .val (.int xb), .val (.ref bo), .val (.ref bk), .val (.int (11 : Int32)), .val (.int (1 : Int32)), .val (.int (3 : Int32)), .unset]) rfl ?_
      show Steps p.tables e below (T5.setTop (mkF m 159 #[.val (.int xa), .val (.int xb), .val (.ref bo), .val (.ref bk), .val (.int (11 : Int32)), .val (.int (1 : Int32)), .val (.int (3 : Int32)), .unset] [])) _
      refine XS.iload X5.here hx rfl (hb hby at_159) rfl ?_
      show Steps p.tables e below (T5.setTop (mkF m 161 #[.val (.int xa), .val (.int xb), .val (.ref bo), .val (.ref bk), .val (.int (11 : Int32)), .val (.int (1 : Int32)), .val (.int (3 : Int32)), .unset] [(.int (3 : Int32))])) _
      refine XS.ifNo X5.here hx rfl (hb hby at_161) rfl ((if0 _ _).trans (flt (by decide : ¬ ((3 : Int32) < (0 : Int32)))).1) ?_
      show Steps p.tables e below (T5.setTop (mkF m 164 #[.val (.int xa), .val (.int xb), .val (.ref bo), .val (.ref bk), .val (.int (11 : Int32)), .val (.int (1 : Int32)), .val (.int (3 : Int32)), .unset] [])) _
      refine XS.iload X5.here hx rfl (hb hby at_164) rfl ?_
      show Steps p.tables e below (T5.setTop (mkF m 166 #[.val (.int xa), .val (.int xb), .val (.ref bo), .val (.ref bk), .val (.int (11 : Int32)), .val (.int (1 : Int32)), .val (.int (3 : Int32)), .unset] [(.int (3 : Int32))])) _
      refine XS.iload X5.here hx rfl (hb hby at_166) rfl ?_
      show Steps p.tables e below (T5.setTop (mkF m 168 #[.val (.int xa), .val (.int xb), .val (.ref bo), .val (.ref bk), .val (.int (11 : Int32)), .val (.int (1 : Int32)), .val (.int (3 : Int32)), .unset] [(.int (1 : Int32)), (.int (3 : Int32))])) _
      refine XS.icmpYes X5.here hx rfl (pc0 := 168) (pc' := 175) rfl (hb hby at_168) rfl (feq (by decide : ¬ ((3 : Int32) = (1 : Int32)))).2 (by decide) (by decide) ?_
      show Steps p.tables e below (T5.setTop (mkF m 175 #[.val (.int xa), .val (.int xb), .val (.ref bo), .val (.ref bk), .val (.int (11 : Int32)), .val (.int (1 : Int32)), .val (.int (3 : Int32)), .unset] [])) _
      refine XS.iconst X5.here hx rfl (hb hby at_175) ?_
      show Steps p.tables e below (T5.setTop (mkF m 176 #[.val (.int xa), .val (.int xb), .val (.ref bo), .val (.ref bk), .val (.int (11 : Int32)), .val (.int (1 : Int32)), .val (.int (3 : Int32)), .unset] [(.int (0 : Int32))])) _
      refine XS.istore X5.here hx rfl (hb hby at_176) rfl (l' := #[.val (.int xa), .val (.int xb), .val (.ref bo), .val (.ref bk), .val (.int (11 : Int32)), .val (.int (1 : Int32)), .val (.int (3 : Int32)), .val (.int (0 : Int32))]) rfl ?_
      show Steps p.tables e below (T5.setTop (mkF m 178 #[.val (.int xa), .val (.int xb), .val (.ref bo), .val (.ref bk), .val (.int (11 : Int32)), .val (.int (1 : Int32)), .val (.int (3 : Int32)), .val (.int (0 : Int32))] [])) _
      exact kt
    obtain ⟨s₂, o₂, hs₂, hr₂⟩ := own_tail2 xa xb bo bk (11 : Int32) (1 : Int32) (3 : Int32) ko kk [(.ref c0), (.ref c1), (.ref c2), (.ref c3), (.ref c4), (.ref c5), (.ref c6), (.ref c7), (.ref c8), (.ref c9), (.ref c10), (.ref c11), (.ref c12), (.ref c13), (.ref c14), (.ref c15)] [(.ref d0), (.ref d1), (.ref d2), (.ref d3)] c11 d1 d3 X5 hx hZ hw hby hml hown e5 N5 Z0 hret hlk P0 P1 P2 P3 (by decide) rfl (by decide) rfl (Ne.symm P8)
    exact ⟨s₂, o₂, go7 _ hs₂, hr₂⟩
  · skip
    obtain ⟨_, _, ⟨T8, L8, k8, n8⟩, -, X8, ⟨Lc8, hQ8, l8, y8, z8⟩, st8⟩ := Jvm.LawKit.callS X0 hx (y := (⟨"com/example/tracewright/tracewright/engine/expr/UnaryOpAcceptsPinLaw", "sourceKindIndex", "(I)I"⟩ : MethodName)) hown (mvT hZ (hw _ (List.mem_of_getElem? (i := 48) rfl))) (mvT hZ (hw _ (List.mem_of_getElem? (i := 49) rfl))) (mvT hZ (hw _ (List.mem_of_getElem? (i := 50) rfl))) (mvT hZ (hw _ (List.mem_of_getElem? (i := 51) rfl))) (by decide) (backOf (W := 0) (own_src11 l Z a0 hw []  h0 n0 Z0 ) hZ (hw _ (List.mem_of_getElem? (i := 51) rfl)) (hw _ (List.mem_of_getElem? (i := 50) rfl)) (by decide) (by decide)) (g := (mkF m 154 #[.val (.int xa), .val (.int xb), .val (.ref bo), .val (.ref bk), .val (.int (11 : Int32)), .val (.int (2 : Int32)), .unset, .unset] [(.int (11 : Int32))])) rfl (by rw [hml]; rfl) (argsL := [(.int (11 : Int32))]) (rest := []) (lenOf pd_6 rfl) rfl (by show 2 * 0 + _ ≤ _; exact Nat.le_of_eq rfl) (hb hby at_154) (fun _ _ => ⟨rfl, e0, (by decide : 2 + 0 ≤ _), (by decide : 20 + 0 ≤ _)⟩)
    dsimp only [Pt.U, Pt.locs, Pt.cells, Pt.slots] at X8 l8 y8 z8 st8 hQ8
    subst l8 y8 z8
    obtain ⟨rfl, Nq8, e8⟩ := hQ8
    have N8 := Fr.app N0 Nq8
    have go10 : ∀ t, Steps p.tables e below (T8.setTop (mkF m 178 #[.val (.int xa), .val (.int xb), .val (.ref bo), .val (.ref bk), .val (.int (11 : Int32)), .val (.int (2 : Int32)), .val (.int (3 : Int32)), .val (.int (0 : Int32))] [])) t → Steps p.tables e below st0 t := by
      intro t kt
      refine go0 t ?_
      refine XS.iload X0.here hx rfl (hb hby at_152) rfl ?_
      show Steps p.tables e below (T0.setTop (mkF m 154 #[.val (.int xa), .val (.int xb), .val (.ref bo), .val (.ref bk), .val (.int (11 : Int32)), .val (.int (2 : Int32)), .unset, .unset] [(.int (11 : Int32))])) _
      refine st8 _ ?_
      show Steps p.tables e below (T8.setTop (mkF m 157 #[.val (.int xa), .val (.int xb), .val (.ref bo), .val (.ref bk), .val (.int (11 : Int32)), .val (.int (2 : Int32)), .unset, .unset] [(.int (3 : Int32))])) _
      refine XS.istore X8.here hx rfl (hb hby at_157) rfl (l' := #[.val (.int xa), .val (.int xb), .val (.ref bo), .val (.ref bk), .val (.int (11 : Int32)), .val (.int (2 : Int32)), .val (.int (3 : Int32)), .unset]) rfl ?_
      show Steps p.tables e below (T8.setTop (mkF m 159 #[.val (.int xa), .val (.int xb), .val (.ref bo), .val (.ref bk), .val (.int (11 : Int32)), .val (.int (2 : Int32)), .val (.int (3 : Int32)), .unset] [])) _
      refine XS.iload X8.here hx rfl (hb hby at_159) rfl ?_
      show Steps p.tables e below (T8.setTop (mkF m 161 #[.val (.int xa), .val (.int xb), .val (.ref bo), .val (.ref bk), .val (.int (11 : Int32)), .val (.int (2 : Int32)), .val (.int (3 : Int32)), .unset] [(.int (3 : Int32))])) _
      refine XS.ifNo X8.here hx rfl (hb hby at_161) rfl ((if0 _ _).trans (flt (by decide : ¬ ((3 : Int32) < (0 : Int32)))).1) ?_
      show Steps p.tables e below (T8.setTop (mkF m 164 #[.val (.int xa), .val (.int xb), .val (.ref bo), .val (.ref bk), .val (.int (11 : Int32)), .val (.int (2 : Int32)), .val (.int (3 : Int32)), .unset] [])) _
      refine XS.iload X8.here hx rfl (hb hby at_164) rfl ?_
      show Steps p.tables e below (T8.setTop (mkF m 166 #[.val (.int xa), .val (.int xb), .val (.ref bo), .val (.ref bk), .val (.int (11 : Int32)), .val (.int (2 : Int32)), .val (.int (3 : Int32)), .unset] [(.int (3 : Int32))])) _
      refine XS.iload X8.here hx rfl (hb hby at_166) rfl ?_
      show Steps p.tables e below (T8.setTop (mkF m 168 #[.val (.int xa), .val (.int xb), .val (.ref bo), .val (.ref bk), .val (.int (11 : Int32)), .val (.int (2 : Int32)), .val (.int (3 : Int32)), .unset] [(.int (2 : Int32)), (.int (3 : Int32))])) _
      refine XS.icmpYes X8.here hx rfl (pc0 := 168) (pc' := 175) rfl (hb hby at_168) rfl (feq (by decide : ¬ ((3 : Int32) = (2 : Int32)))).2 (by decide) (by decide) ?_
      show Steps p.tables e below (T8.setTop (mkF m 175 #[.val (.int xa), .val (.int xb), .val (.ref bo), .val (.ref bk), .val (.int (11 : Int32)), .val (.int (2 : Int32)), .val (.int (3 : Int32)), .unset] [])) _
      refine XS.iconst X8.here hx rfl (hb hby at_175) ?_
      show Steps p.tables e below (T8.setTop (mkF m 176 #[.val (.int xa), .val (.int xb), .val (.ref bo), .val (.ref bk), .val (.int (11 : Int32)), .val (.int (2 : Int32)), .val (.int (3 : Int32)), .unset] [(.int (0 : Int32))])) _
      refine XS.istore X8.here hx rfl (hb hby at_176) rfl (l' := #[.val (.int xa), .val (.int xb), .val (.ref bo), .val (.ref bk), .val (.int (11 : Int32)), .val (.int (2 : Int32)), .val (.int (3 : Int32)), .val (.int (0 : Int32))]) rfl ?_
      show Steps p.tables e below (T8.setTop (mkF m 178 #[.val (.int xa), .val (.int xb), .val (.ref bo), .val (.ref bk), .val (.int (11 : Int32)), .val (.int (2 : Int32)), .val (.int (3 : Int32)), .val (.int (0 : Int32))] [])) _
      exact kt
    obtain ⟨s₂, o₂, hs₂, hr₂⟩ := own_tail2 xa xb bo bk (11 : Int32) (2 : Int32) (3 : Int32) ko kk [(.ref c0), (.ref c1), (.ref c2), (.ref c3), (.ref c4), (.ref c5), (.ref c6), (.ref c7), (.ref c8), (.ref c9), (.ref c10), (.ref c11), (.ref c12), (.ref c13), (.ref c14), (.ref c15)] [(.ref d0), (.ref d1), (.ref d2), (.ref d3)] c11 d2 d3 X8 hx hZ hw hby hml hown e8 N8 Z0 hret hlk P0 P1 P2 P3 (by decide) rfl (by decide) rfl (Ne.symm P9)
    exact ⟨s₂, o₂, go10 _ hs₂, hr₂⟩
  · skip
    obtain ⟨_, _, ⟨T11, L11, k11, n11⟩, -, X11, ⟨Lc11, hQ11, l11, y11, z11⟩, st11⟩ := Jvm.LawKit.callS X0 hx (y := (⟨"com/example/tracewright/tracewright/engine/expr/UnaryOpAcceptsPinLaw", "sourceKindIndex", "(I)I"⟩ : MethodName)) hown (mvT hZ (hw _ (List.mem_of_getElem? (i := 48) rfl))) (mvT hZ (hw _ (List.mem_of_getElem? (i := 49) rfl))) (mvT hZ (hw _ (List.mem_of_getElem? (i := 50) rfl))) (mvT hZ (hw _ (List.mem_of_getElem? (i := 51) rfl))) (by decide) (backOf (W := 0) (own_src11 l Z a0 hw []  h0 n0 Z0 ) hZ (hw _ (List.mem_of_getElem? (i := 51) rfl)) (hw _ (List.mem_of_getElem? (i := 50) rfl)) (by decide) (by decide)) (g := (mkF m 154 #[.val (.int xa), .val (.int xb), .val (.ref bo), .val (.ref bk), .val (.int (11 : Int32)), .val (.int (3 : Int32)), .unset, .unset] [(.int (11 : Int32))])) rfl (by rw [hml]; rfl) (argsL := [(.int (11 : Int32))]) (rest := []) (lenOf pd_6 rfl) rfl (by show 2 * 0 + _ ≤ _; exact Nat.le_of_eq rfl) (hb hby at_154) (fun _ _ => ⟨rfl, e0, (by decide : 2 + 0 ≤ _), (by decide : 20 + 0 ≤ _)⟩)
    dsimp only [Pt.U, Pt.locs, Pt.cells, Pt.slots] at X11 l11 y11 z11 st11 hQ11
    subst l11 y11 z11
    obtain ⟨rfl, Nq11, e11⟩ := hQ11
    have N11 := Fr.app N0 Nq11
    have go13 : ∀ t, Steps p.tables e below (T11.setTop (mkF m 178 #[.val (.int xa), .val (.int xb), .val (.ref bo), .val (.ref bk), .val (.int (11 : Int32)), .val (.int (3 : Int32)), .val (.int (3 : Int32)), .val (.int (1 : Int32))] [])) t → Steps p.tables e below st0 t := by
      intro t kt
      refine go0 t ?_
      refine XS.iload X0.here hx rfl (hb hby at_152) rfl ?_
      show Steps p.tables e below (T0.setTop (mkF m 154 #[.val (.int xa), .val (.int xb), .val (.ref bo), .val (.ref bk), .val (.int (11 : Int32)), .val (.int (3 : Int32)), .unset, .unset] [(.int (11 : Int32))])) _
      refine st11 _ ?_
      show Steps p.tables e below (T11.setTop (mkF m 157 #[.val (.int xa), .val (.int xb), .val (.ref bo), .val (.ref bk), .val (.int (11 : Int32)), .val (.int (3 : Int32)), .unset, .unset] [(.int (3 : Int32))])) _
      refine XS.istore X11.here hx rfl (hb hby at_157) rfl (l' := #[.val (.int xa), .val (.int xb), .val (.ref bo), .val (.ref bk), .val (.int (11 : Int32)), .val (.int (3 : Int32)), .val (.int (3 : Int32)), .unset]) rfl ?_
      show Steps p.tables e below (T11.setTop (mkF m 159 #[.val (.int xa), .val (.int xb), .val (.ref bo), .val (.ref bk), .val (.int (11 : Int32)), .val (.int (3 : Int32)), .val (.int (3 : Int32)), .unset] [])) _
      refine XS.iload X11.here hx rfl (hb hby at_159) rfl ?_
      show Steps p.tables e below (T11.setTop (mkF m 161 #[.val (.int xa), .val (.int xb), .val (.ref bo), .val (.ref bk), .val (.int (11 : Int32)), .val (.int (3 : Int32)), .val (.int (3 : Int32)), .unset] [(.int (3 : Int32))])) _
      refine XS.ifNo X11.here hx rfl (hb hby at_161) rfl ((if0 _ _).trans (flt (by decide : ¬ ((3 : Int32) < (0 : Int32)))).1) ?_
      show Steps p.tables e below (T11.setTop (mkF m 164 #[.val (.int xa), .val (.int xb), .val (.ref bo), .val (.ref bk), .val (.int (11 : Int32)), .val (.int (3 : Int32)), .val (.int (3 : Int32)), .unset] [])) _
      refine XS.iload X11.here hx rfl (hb hby at_164) rfl ?_
      show Steps p.tables e below (T11.setTop (mkF m 166 #[.val (.int xa), .val (.int xb), .val (.ref bo), .val (.ref bk), .val (.int (11 : Int32)), .val (.int (3 : Int32)), .val (.int (3 : Int32)), .unset] [(.int (3 : Int32))])) _
      refine XS.iload X11.here hx rfl (hb hby at_166) rfl ?_
      show Steps p.tables e below (T11.setTop (mkF m 168 #[.val (.int xa), .val (.int xb), .val (.ref bo), .val (.ref bk), .val (.int (11 : Int32)), .val (.int (3 : Int32)), .val (.int (3 : Int32)), .unset] [(.int (3 : Int32)), (.int (3 : Int32))])) _
      refine XS.icmpNo X11.here hx rfl (hb hby at_168) rfl (teq (by decide : (3 : Int32) = (3 : Int32))).2 ?_
      show Steps p.tables e below (T11.setTop (mkF m 171 #[.val (.int xa), .val (.int xb), .val (.ref bo), .val (.ref bk), .val (.int (11 : Int32)), .val (.int (3 : Int32)), .val (.int (3 : Int32)), .unset] [])) _
      refine XS.iconst X11.here hx rfl (hb hby at_171) ?_
      show Steps p.tables e below (T11.setTop (mkF m 172 #[.val (.int xa), .val (.int xb), .val (.ref bo), .val (.ref bk), .val (.int (11 : Int32)), .val (.int (3 : Int32)), .val (.int (3 : Int32)), .unset] [(.int (1 : Int32))])) _
      refine XS.goto X11.here hx rfl (pc0 := 172) (pc' := 176) rfl (hb hby at_172) (by decide) (by decide) ?_
      show Steps p.tables e below (T11.setTop (mkF m 176 #[.val (.int xa), .val (.int xb), .val (.ref bo), .val (.ref bk), .val (.int (11 : Int32)), .val (.int (3 : Int32)), .val (.int (3 : Int32)), .unset] [(.int (1 : Int32))])) _
      refine XS.istore X11.here hx rfl (hb hby at_176) rfl (l' := #[.val (.int xa), .val (.int xb), .val (.ref bo), .val (.ref bk), .val (.int (11 : Int32)), .val (.int (3 : Int32)), .val (.int (3 : Int32)), .val (.int (1 : Int32))]) rfl ?_
      show Steps p.tables e below (T11.setTop (mkF m 178 #[.val (.int xa), .val (.int xb), .val (.ref bo), .val (.ref bk), .val (.int (11 : Int32)), .val (.int (3 : Int32)), .val (.int (3 : Int32)), .val (.int (1 : Int32))] [])) _
      exact kt
    obtain ⟨s₂, o₂, hs₂, hr₂⟩ := own_tail1 xa xb bo bk (11 : Int32) (3 : Int32) (3 : Int32) ko kk [(.ref c0), (.ref c1), (.ref c2), (.ref c3), (.ref c4), (.ref c5), (.ref c6), (.ref c7), (.ref c8), (.ref c9), (.ref c10), (.ref c11), (.ref c12), (.ref c13), (.ref c14), (.ref c15)] [(.ref d0), (.ref d1), (.ref d2), (.ref d3)] c11 d3 X11 hx hZ hw hby hml hown e11 N11 Z0 hret hlk P0 P1 P2 P3 (by decide) rfl (by decide) rfl
    exact ⟨s₂, o₂, go13 _ hs₂, hr₂⟩
set_option maxRecDepth 65536 in
set_option maxHeartbeats 40000000 in
theorem own_mid12 {p : Program} {l : Launch} {e : Env} {s : State} {m : MethodId} {args : Array Value} {below : List Frame} {meth : Method} {c : Code} {T0 : State} {locs : List Loc} {Z : State} {a0 : Array Value} {h0 : Heap} {n0 : Nat} (xa : Int32) (xb : Int32) (bo : Addr) (bk : Addr) (kx : Int32) (c0 : Addr) (c1 : Addr) (c2 : Addr) (c3 : Addr) (c4 : Addr) (c5 : Addr) (c6 : Addr) (c7 : Addr) (c8 : Addr) (c9 : Addr) (c10 : Addr) (c11 : Addr) (c12 : Addr) (c13 : Addr) (c14 : Addr) (c15 : Addr) (d0 : Addr) (d1 : Addr) (d2 : Addr) (d3 : Addr) (ko : ClassId) (kk : ClassId) (X0 : Stand p l e room_1 s m args below meth c T0 locs 2 20) (hx : p.tables.exec = Jvm.exec) (hZ : Z.Warmed39 s.vm) (hw : ∀ d ∈ tables_1, d.before a0 Z = true) (hby : c.code = code) (hml : c.maxLocals = 8) (hown : s.vm.findClass "com/example/tracewright/tracewright/engine/expr/UnaryOpAcceptsPinLaw" = some m.cls) (e0 : T0.heap = h0) (N0 : Fr n0 locs) (Z0 : n0 ≤ h0.size) (hret : meth.sig.returnType = some .boolean) (hlk : meth.locks = false) (P0 : Arv Z h0 bo ko (.object "com/example/tracewright/tracewright/engine/expr/UnaryOp") (16 : Int32) [(.ref c0), (.ref c1), (.ref c2), (.ref c3), (.ref c4), (.ref c5), (.ref c6), (.ref c7), (.ref c8), (.ref c9), (.ref c10), (.ref c11), (.ref c12), (.ref c13), (.ref c14), (.ref c15)] .null) (P1 : Arv Z h0 bk kk (.object "com/example/tracewright/tracewright/engine/expr/Kind") (4 : Int32) [(.ref d0), (.ref d1), (.ref d2), (.ref d3)] .null) (P2 : Exa Z h0 c12 "com/example/tracewright/tracewright/engine/expr/UnaryOp") (P3 : Fld Z h0 c12 "com/example/tracewright/tracewright/engine/expr/UnaryOp" "from" "Lcom/example/tracewright/tracewright/engine/expr/Kind;" (.ref d3)) (P4 : d0 ≠ d1) (P5 : d0 ≠ d2) (P6 : d0 ≠ d3) (P7 : d1 ≠ d2) (P8 : d1 ≠ d3) (P9 : d2 ≠ d3) (hK : kx = (0 : Int32) ∨ kx = (1 : Int32) ∨ kx = (2 : Int32) ∨ kx = (3 : Int32)) :
    ∃ s₂ o, Steps p.tables e below (T0.setTop (mkF m 152 #[.val (.int xa), .val (.int xb), .val (.ref bo), .val (.ref bk), .val (.int (12 : Int32)), .val (.int kx), .unset, .unset] [])) s₂ ∧ s₂.status = .running ∧ Ended s₂ below o ∧ ∃ v L, o = .returned v ∧ (v = some (.int (1 : Int32)) ∧ Fr n0 L) ∧ FrameEnd s o s₂ L room_1.cells room_1.slots := by
  obtain ⟨st0, hst0⟩ : ∃ zst, zst = T0.setTop (mkF m 152 #[.val (.int xa), .val (.int xb), .val (.ref bo), .val (.ref bk), .val (.int (12 : Int32)), .val (.int kx), .unset, .unset] []) := ⟨_, rfl⟩
  have go0 : ∀ t, Steps p.tables e below (T0.setTop (mkF m 152 #[.val (.int xa), .val (.int xb), .val (.ref bo), .val (.ref bk), .val (.int (12 : Int32)), .val (.int kx), .unset, .unset] [])) t → Steps p.tables e below st0 t := fun t k => by rw [hst0]; exact k
  rw [← hst0]
  rcases hK with rfl | rfl | rfl | rfl
  · skip
    obtain ⟨_, _, ⟨T2, L2, k2, n2⟩, -, X2, ⟨Lc2, hQ2, l2, y2, z2⟩, st2⟩ := Jvm.LawKit.callS X0 hx (y := (⟨"com/example/tracewright/tracewright/engine/expr/UnaryOpAcceptsPinLaw", "sourceKindIndex", "(I)I"⟩ : MethodName)) hown (mvT hZ (hw _ (List.mem_of_getElem? (i := 48) rfl))) (mvT hZ (hw _ (List.mem_of_getElem? (i := 49) rfl))) (mvT hZ (hw _ (List.mem_of_getElem? (i := 50) rfl))) (mvT hZ (hw _ (List.mem_of_getElem? (i := 51) rfl))) (by decide) (backOf (W := 0) (own_src12 l Z a0 hw []  h0 n0 Z0 ) hZ (hw _ (List.mem_of_getElem? (i := 51) rfl)) (hw _ (List.mem_of_getElem? (i := 50) rfl)) (by decide) (by decide)) (g := (mkF m 154 #[.val (.int xa), .val (.int xb), .val (.ref bo), .val (.ref bk), .val (.int (12 : Int32)), .val (.int (0 : Int32)), .unset, .unset] [(.int (12 : Int32))])) rfl (by rw [hml]; rfl) (argsL := [(.int (12 : Int32))]) (rest := []) (lenOf pd_6 rfl) rfl (by show 2 * 0 + _ ≤ _; exact Nat.le_of_eq rfl) (hb hby at_154) (fun _ _ => ⟨rfl, e0, (by decide : 2 + 0 ≤ _), (by decide : 20 + 0 ≤ _)⟩)
    dsimp only [Pt.U, Pt.locs, Pt.cells, Pt.slots] at X2 l2 y2 z2 st2 hQ2
    subst l2 y2 z2
    obtain ⟨rfl, Nq2, e2⟩ := hQ2
    have N2 := Fr.app N0 Nq2
    have go4 : ∀ t, Steps p.tables e below (T2.setTop (mkF m 178 #[.val (.int xa), .val (.int xb), .val (.ref bo), .val (.ref bk), .val (.int (12 : Int32)), .val (.int (0 : Int32)), .val (.int (3 : Int32)), .val (.int (0 : Int32))] [])) t → Steps p.tables e below st0 t := by
      intro t kt
      refine go0 t ?_
      refine XS.iload X0.here hx rfl (hb hby at_152) rfl ?_
      show Steps p.tables e below (T0.setTop (mkF m 154 #[.val (.int xa), .val (.int xb), .val (.ref bo), .val (.ref bk), .val (.int (12 : Int32)), .val (.int (0 : Int32)), .unset, .unset] [(.int (12 : Int32))])) _
      refine st2 _ ?_
      show Steps p.tables e below (T2.setTop (mkF m 157 #[.val (.int xa), .val (.int xb), .val (.ref bo), .val (.ref bk), .val (.int (12 : Int32)), .val (.int (0 : Int32)), .unset, .unset] [(.int (3 : Int32))])) _
      refine XS.istore X2.here hx rfl (hb hby at_157) rfl (l' := #[.val (.int xa), .val (.int xb), .val (.ref bo), .val (.ref bk), .val (.int (12 : Int32)), .val (.int (0 : Int32)), .val (.int (3 : Int32)), .unset]) rfl ?_
      show Steps p.tables e below (T2.setTop (mkF m 159 #[.val (.int xa), .val (.int xb), .val (.ref bo), .val (.ref bk), .val (.int (12 : Int32)), .val (.int (0 : Int32)), .val (.int (3 : Int32)), .unset] [])) _
      refine XS.iload X2.here hx rfl (hb hby at_159) rfl ?_
      show Steps p.tables e below (T2.setTop (mkF m 161 #[.val (.int xa), .val (.int xb), .val (.ref bo), .val (.ref bk), .val (.int (12 : Int32)), .val (.int (0 : Int32)), .val (.int (3 : Int32)), .unset] [(.int (3 : Int32))])) _
      refine XS.ifNo X2.here hx rfl (hb hby at_161) rfl ((if0 _ _).trans (flt (by decide : ¬ ((3 : Int32) < (0 : Int32)))).1) ?_
      show Steps p.tables e below (T2.setTop (mkF m 164 #[.val (.int xa), .val (.int xb), .val (.ref bo), .val (.ref bk), .val (.int (12 : Int32)), .val (.int (0 : Int32)), .val (.int (3 : Int32)), .unset] [])) _
      refine XS.iload X2.here hx rfl (hb hby at_164) rfl ?_
      show Steps p.tables e below (T2.setTop (mkF m 166 #[.val (.int xa), .val (.int xb), .val (.ref bo), .val (.ref bk), .val (.int (12 : Int32)), .val (.int (0 : Int32)), .val (.int (3 : Int32)), .unset] [(.int (3 : Int32))])) _
      refine XS.iload X2.here hx rfl (hb hby at_166) rfl ?_
      show Steps p.tables e below (T2.setTop (mkF m 168 #[.val (.int xa), .val (.int xb), .val (.ref bo), .val (.ref bk), .val (.int (12 : Int32)), .val (.int (0 : Int32)), .val (.int (3 : Int32)), .unset] [(.int (0 : Int32)), (.int (3 : Int32))])) _
      refine XS.icmpYes X2.here hx rfl (pc0 := 168) (pc' := 175) rfl (hb hby at_168) rfl (feq (by decide : ¬ ((3 : Int32) = (0 : Int32)))).2 (by decide) (by decide) ?_
      show Steps p.tables e below (T2.setTop (mkF m 175 #[.val (.int xa), .val (.int xb), .val (.ref bo), .val (.ref bk), .val (.int (12 : Int32)), .val (.int (0 : Int32)), .val (.int (3 : Int32)), .unset] [])) _
      refine XS.iconst X2.here hx rfl (hb hby at_175) ?_
      show Steps p.tables e below (T2.setTop (mkF m 176 #[.val (.int xa), .val (.int xb), .val (.ref bo), .val (.ref bk), .val (.int (12 : Int32)), .val (.int (0 : Int32)), .val (.int (3 : Int32)), .unset] [(.int (0 : Int32))])) _
      refine XS.istore X2.here hx rfl (hb hby at_176) rfl (l' := #[.val (.int xa), .val (.int xb), .val (.ref bo), .val (.ref bk), .val (.int (12 : Int32)), .val (.int (0 : Int32)), .val (.int (3 : Int32)), .val (.int (0 : Int32))]) rfl ?_
      show Steps p.tables e below (T2.setTop (mkF m 178 #[.val (.int xa), .val (.int xb), .val (.ref bo), .val (.ref bk), .val (.int (12 : Int32)), .val (.int (0 : Int32)), .val (.int (3 : Int32)), .val (.int (0 : Int32))] [])) _
      exact kt
    obtain ⟨s₂, o₂, hs₂, hr₂⟩ := own_tail2 xa xb bo bk (12 : Int32) (0 : Int32) (3 : Int32) ko kk [(.ref c0), (.ref c1), (.ref c2), (.ref c3), (.ref c4), (.ref c5), (.ref c6), (.ref c7), (.ref c8), (.ref c9), (.ref c10), (.ref c11), (.ref c12), (.ref c13), (.ref c14), (.ref c15)] [(.ref d0), (.ref d1), (.ref d2), (.ref d3)] c12 d0 d3 X2 hx hZ hw hby hml hown e2 N2 Z0 hret hlk P0 P1 P2 P3 (by decide) rfl (by decide) rfl (Ne.symm P6)
    exact ⟨s₂, o₂, go4 _ hs₂, hr₂⟩
  · skip
    obtain ⟨_, _, ⟨T5, L5, k5, n5⟩, -, X5, ⟨Lc5, hQ5, l5, y5, z5⟩, st5⟩ := Jvm.LawKit.callS X0 hx (y := (⟨"com/example/tracewright/tracewright/engine/expr/UnaryOpAcceptsPinLaw", "sourceKindIndex", "(I)I"⟩ : MethodName)) hown (mvT hZ (hw _ (List.mem_of_getElem? (i := 48) rfl))) (mvT hZ (hw _ (List.mem_of_getElem? (i := 49) rfl))) (mvT hZ (hw _ (List.mem_of_getElem? (i := 50) rfl))) (mvT hZ (hw _ (List.mem_of_getElem? (i := 51) rfl))) (by decide) (backOf (W := 0) (own_src12 l Z a0 hw []  h0 n0 Z0 ) hZ (hw _ (List.mem_of_getElem? (i := 51) rfl)) (hw _ (List.mem_of_getElem? (i := 50) rfl)) (by decide) (by decide)) (g := (mkF m 154 #[.val (.int xa), .val (.int xb), .val (.ref bo), .val (.ref bk), .val (.int (12 : Int32)), .val (.int (1 : Int32)), .unset, .unset] [(.int (12 : Int32))])) rfl (by rw [hml]; rfl) (argsL := [(.int (12 : Int32))]) (rest := []) (lenOf pd_6 rfl) rfl (by show 2 * 0 + _ ≤ _; exact Nat.le_of_eq rfl) (hb hby at_154) (fun _ _ => ⟨rfl, e0, (by decide : 2 + 0 ≤ _), (by decide : 20 + 0 ≤ _)⟩)
    dsimp only [Pt.U, Pt.locs, Pt.cells, Pt.slots] at X5 l5 y5 z5 st5 hQ5
    subst l5 y5 z5
    obtain ⟨rfl, Nq5, e5⟩ := hQ5
    have N5 := Fr.app N0 Nq5
    have go7 : ∀ t, Steps p.tables e below (T5.setTop (mkF m 178 #[.val (.int xa), .val (.int xb), .val (.ref bo), .val (.ref bk), .val (.int (12 : Int32)), .val (.int (1 : Int32)), .val (.int (3 : Int32)), .val (.int (0 : Int32))] [])) t → Steps p.tables e below st0 t := by
      intro t kt
      refine go0 t ?_
      refine XS.iload X0.here hx rfl (hb hby at_152) rfl ?_
      show Steps p.tables e below (T0.setTop (mkF m 154 #[.val (.int xa), .val (.int xb), .val (.ref bo), .val (.ref bk), .val (.int (12 : Int32)), .val (.int (1 : Int32)), .unset, .unset] [(.int (12 : Int32))])) _
      refine st5 _ ?_
      show Steps p.tables e below (T5.setTop (mkF m 157 #[.val (.int xa), .val (.int xb), .val (.ref bo), .val (.ref bk), .val (.int (12 : Int32)), .val (.int (1 : Int32)), .unset, .unset] [(.int (3 : Int32))])) _
      refine XS.istore X5.here hx rfl (hb hby at_157) rfl (l' := #[.val (.int xa), .val (.int xb), .val (.ref bo), .val (.ref bk), .val (.int (12 : Int32)), .val (.int (1 : Int32)), .val (.int (3 : Int32)), .unset]) rfl ?_
      show Steps p.tables e below (T5.setTop (mkF m 159 #[.val (.int xa), .val (.int xb), .val (.ref bo), .val (.ref bk), .val (.int (12 : Int32)), .val (.int (1 : Int32)), .val (.int (3 : Int32)), .unset] [])) _
      refine XS.iload X5.here hx rfl (hb hby at_159) rfl ?_
      show Steps p.tables e below (T5.setTop (mkF m 161 #[.val (.int xa), .val (.int xb), .val (.ref bo), .val (.ref bk), .val (.int (12 : Int32)), .val (.int (1 : Int32)), .val (.int (3 : Int32)), .unset] [(.int (3 : Int32))])) _
      refine XS.ifNo X5.here hx rfl (hb hby at_161) rfl ((if0 _ _).trans (flt (by decide : ¬ ((3 : Int32) < (0 : Int32)))).1) ?_
      show Steps p.tables e below (T5.setTop (mkF m 164 #[.val (.int xa), .val (.int xb), .val (.ref bo), .val (.ref bk), .val (.int (12 : Int32)), .val (.int (1 : Int32)), .val (.int (3 : Int32)), .unset] [])) _
      refine XS.iload X5.here hx rfl (hb hby at_164) rfl ?_
      show Steps p.tables e below (T5.setTop (mkF m 166 #[.val (.int xa), .val (.int xb), .val (.ref bo), .val (.ref bk), .val (.int (12 : Int32)), .val (.int (1 : Int32)), .val (.int (3 : Int32)), .unset] [(.int (3 : Int32))])) _
      refine XS.iload X5.here hx rfl (hb hby at_166) rfl ?_
      show Steps p.tables e below (T5.setTop (mkF m 168 #[.val (.int xa), .val (.int xb), .val (.ref bo), .val (.ref bk), .val (.int (12 : Int32)), .val (.int (1 : Int32)), .val (.int (3 : Int32)), .unset] [(.int (1 : Int32)), (.int (3 : Int32))])) _
      refine XS.icmpYes X5.here hx rfl (pc0 := 168) (pc' := 175) rfl (hb hby at_168) rfl (feq (by decide : ¬ ((3 : Int32) = (1 : Int32)))).2 (by decide) (by decide) ?_
      show Steps p.tables e below (T5.setTop (mkF m 175 #[.val (.int xa), .val (.int xb), .val (.ref bo), .val (.ref bk), .val (.int (12 : Int32)), .val (.int (1 : Int32)), .val (.int (3 : Int32)), .unset] [])) _
      refine XS.iconst X5.here hx rfl (hb hby at_175) ?_
      show Steps p.tables e below (T5.setTop (mkF m 176 #[.val (.int xa), .val (.int xb), .val (.ref bo), .val (.ref bk), .val (.int (12 : Int32)), .val (.int (1 : Int32)), .val (.int (3 : Int32)), .unset] [(.int (0 : Int32))])) _
      refine XS.istore X5.here hx rfl (hb hby at_176) rfl (l' := #[.val (.int xa), .val (.int xb), .val (.ref bo), .val (.ref bk), .val (.int (12 : Int32)), .val (.int (1 : Int32)), .val (.int (3 : Int32)), .val (.int (0 : Int32))]) rfl ?_
      show Steps p.tables e below (T5.setTop (mkF m 178 #[.val (.int xa), .val (.int xb), .val (.ref bo), .val (.ref bk), .val (.int (12 : Int32)), .val (.int (1 : Int32)), .val (.int (3 : Int32)), .val (.int (0 : Int32))] [])) _
      exact kt
    obtain ⟨s₂, o₂, hs₂, hr₂⟩ := own_tail2 xa xb bo bk (12 : Int32) (1 : Int32) (3 : Int32) ko kk [(.ref c0), (.ref c1), (.ref c2), (.ref c3), (.ref c4), (.ref c5), (.ref c6), (.ref c7), (.ref c8), (.ref c9), (.ref c10), (.ref c11), (.ref c12), (.ref c13), (.ref c14), (.ref c15)] [(.ref d0), (.ref d1), (.ref d2), (.ref d3)] c12 d1 d3 X5 hx hZ hw hby hml hown e5 N5 Z0 hret hlk P0 P1 P2 P3 (by decide) rfl (by decide) rfl (Ne.symm P8)
    exact ⟨s₂, o₂, go7 _ hs₂, hr₂⟩
  · skip
    obtain ⟨_, _, ⟨T8, L8, k8, n8⟩, -, X8, ⟨Lc8, hQ8, l8, y8, z8⟩, st8⟩ := Jvm.LawKit.callS X0 hx (y := (⟨"com/example/tracewright/tracewright/engine/expr/UnaryOpAcceptsPinLaw", "sourceKindIndex", "(I)I"⟩ : MethodName)) hown (mvT hZ (hw _ (List.mem_of_getElem? (i := 48) rfl))) (mvT hZ (hw _ (List.mem_of_getElem? (i := 49) rfl))) (mvT hZ (hw _ (List.mem_of_getElem? (i := 50) rfl))) (mvT hZ (hw _ (List.mem_of_getElem? (i := 51) rfl))) (by decide) (backOf (W := 0) (own_src12 l Z a0 hw []  h0 n0 Z0 ) hZ (hw _ (List.mem_of_getElem? (i := 51) rfl)) (hw _ (List.mem_of_getElem? (i := 50) rfl)) (by decide) (by decide)) (g := (mkF m 154 #[.val (.int xa), .val (.int xb), .val (.ref bo), .val (.ref bk), .val (.int (12 : Int32)), .val (.int (2 : Int32)), .unset, .unset] [(.int (12 : Int32))])) rfl (by rw [hml]; rfl) (argsL := [(.int (12 : Int32))]) (rest := []) (lenOf pd_6 rfl) rfl (by show 2 * 0 + _ ≤ _; exact Nat.le_of_eq rfl) (hb hby at_154) (fun _ _ => ⟨rfl, e0, (by decide : 2 + 0 ≤ _), (by decide : 20 + 0 ≤ _)⟩)
    dsimp only [Pt.U, Pt.locs, Pt.cells, Pt.slots] at X8 l8 y8 z8 st8 hQ8
    subst l8 y8 z8
    obtain ⟨rfl, Nq8, e8⟩ := hQ8
    have N8 := Fr.app N0 Nq8
    have go10 : ∀ t, Steps p.tables e below (T8.setTop (mkF m 178 #[.val (.int xa), .val (.int xb), .val (.ref bo), .val (.ref bk), .val (.int (12 : Int32)), .val (.int (2 : Int32)), .val (.int (3 : Int32)), .val (.int (0 : Int32))] [])) t → Steps p.tables e below st0 t := by
      intro t kt
      refine go0 t ?_
      refine XS.iload X0.here hx rfl (hb hby at_152) rfl ?_
      show Steps p.tables e below (T0.setTop (mkF m 154 #[.val (.int xa), .val (.int xb), .val (.ref bo), .val (.ref bk), .val (.int (12 : Int32)), .val (.int (2 : Int32)), .unset, .unset] [(.int (12 : Int32))])) _
      refine st8 _ ?_
      show Steps p.tables e below (T8.setTop (mkF m 157 #[.val (.int xa), .val (.int xb), .val (.ref bo), .val (.ref bk), .val (.int (12 : Int32)), .val (.int (2 : Int32)), .unset, .unset] [(.int (3 : Int32))])) _
      refine XS.istore X8.here hx rfl (hb hby at_157) rfl (l' := #[.val (.int xa), .val (.int xb), .val (.ref bo), .val (.ref bk), .val (.int (12 : Int32)), .val (.int (2 : Int32)), .val (.int (3 : Int32)), .unset]) rfl ?_
      show Steps p.tables e below (T8.setTop (mkF m 159 #[.val (.int xa), .val (.int xb), .val (.ref bo), .val (.ref bk), .val (.int (12 : Int32)), .val (.int (2 : Int32)), .val (.int (3 : Int32)), .unset] [])) _
      refine XS.iload X8.here hx rfl (hb hby at_159) rfl ?_
      show Steps p.tables e below (T8.setTop (mkF m 161 #[.val (.int xa), .val (.int xb), .val (.ref bo), .val (.ref bk), .val (.int (12 : Int32)), .val (.int (2 : Int32)), .val (.int (3 : Int32)), .unset] [(.int (3 : Int32))])) _
      refine XS.ifNo X8.here hx rfl (hb hby at_161) rfl ((if0 _ _).trans (flt (by decide : ¬ ((3 : Int32) < (0 : Int32)))).1) ?_
      show Steps p.tables e below (T8.setTop (mkF m 164 #[.val (.int xa), .val (.int xb), .val (.ref bo), .val (.ref bk), .val (.int (12 : Int32)), .val (.int (2 : Int32)), .val (.int (3 : Int32)), .unset] [])) _
      refine XS.iload X8.here hx rfl (hb hby at_164) rfl ?_
      show Steps p.tables e below (T8.setTop (mkF m 166 #[.val (.int xa), .val (.int xb), .val (.ref bo), .val (.ref bk), .val (.int (12 : Int32)), .val (.int (2 : Int32)), .val (.int (3 : Int32)), .unset] [(.int (3 : Int32))])) _
      refine XS.iload X8.here hx rfl (hb hby at_166) rfl ?_
      show Steps p.tables e below (T8.setTop (mkF m 168 #[.val (.int xa), .val (.int xb), .val (.ref bo), .val (.ref bk), .val (.int (12 : Int32)), .val (.int (2 : Int32)), .val (.int (3 : Int32)), .unset] [(.int (2 : Int32)), (.int (3 : Int32))])) _
      refine XS.icmpYes X8.here hx rfl (pc0 := 168) (pc' := 175) rfl (hb hby at_168) rfl (feq (by decide : ¬ ((3 : Int32) = (2 : Int32)))).2 (by decide) (by decide) ?_
      show Steps p.tables e below (T8.setTop (mkF m 175 #[.val (.int xa), .val (.int xb), .val (.ref bo), .val (.ref bk), .val (.int (12 : Int32)), .val (.int (2 : Int32)), .val (.int (3 : Int32)), .unset] [])) _
      refine XS.iconst X8.here hx rfl (hb hby at_175) ?_
      show Steps p.tables e below (T8.setTop (mkF m 176 #[.val (.int xa), .val (.int xb), .val (.ref bo), .val (.ref bk), .val (.int (12 : Int32)), .val (.int (2 : Int32)), .val (.int (3 : Int32)), .unset] [(.int (0 : Int32))])) _
      refine XS.istore X8.here hx rfl (hb hby at_176) rfl (l' := #[.val (.int xa), .val (.int xb), .val (.ref bo), .val (.ref bk), .val (.int (12 : Int32)), .val (.int (2 : Int32)), .val (.int (3 : Int32)), .val (.int (0 : Int32))]) rfl ?_
      show Steps p.tables e below (T8.setTop (mkF m 178 #[.val (.int xa), .val (.int xb), .val (.ref bo), .val (.ref bk), .val (.int (12 : Int32)), .val (.int (2 : Int32)), .val (.int (3 : Int32)), .val (.int (0 : Int32))] [])) _
      exact kt
    obtain ⟨s₂, o₂, hs₂, hr₂⟩ := own_tail2 xa xb bo bk (12 : Int32) (2 : Int32) (3 : Int32) ko kk [(.ref c0), (.ref c1), (.ref c2), (.ref c3), (.ref c4), (.ref c5), (.ref c6), (.ref c7), (.ref c8), (.ref c9), (.ref c10), (.ref c11), (.ref c12), (.ref c13), (.ref c14), (.ref c15)] [(.ref d0), (.ref d1), (.ref d2), (.ref d3)] c12 d2 d3 X8 hx hZ hw hby hml hown e8 N8 Z0 hret hlk P0 P1 P2 P3 (by decide) rfl (by decide) rfl (Ne.symm P9)
    exact ⟨s₂, o₂, go10 _ hs₂, hr₂⟩
  · skip
    obtain ⟨_, _, ⟨T11, L11, k11, n11⟩, -, X11, ⟨Lc11, hQ11, l11, y11, z11⟩, st11⟩ := Jvm.LawKit.callS X0 hx (y := (⟨"com/example/tracewright/tracewright/engine/expr/UnaryOpAcceptsPinLaw", "sourceKindIndex", "(I)I"⟩ : MethodName)) hown (mvT hZ (hw _ (List.mem_of_getElem? (i := 48) rfl))) (mvT hZ (hw _ (List.mem_of_getElem? (i := 49) rfl))) (mvT hZ (hw _ (List.mem_of_getElem? (i := 50) rfl))) (mvT hZ (hw _ (List.mem_of_getElem? (i := 51) rfl))) (by decide) (backOf (W := 0) (own_src12 l Z a0 hw []  h0 n0 Z0 ) hZ (hw _ (List.mem_of_getElem? (i := 51) rfl)) (hw _ (List.mem_of_getElem? (i := 50) rfl)) (by decide) (by decide)) (g := (mkF m 154 #[.val (.int xa), .val (.int xb), .val (.ref bo), .val (.ref bk), .val (.int (12 : Int32)), .val (.int (3 : Int32)), .unset, .unset] [(.int (12 : Int32))])) rfl (by rw [hml]; rfl) (argsL := [(.int (12 : Int32))]) (rest := []) (lenOf pd_6 rfl) rfl (by show 2 * 0 + _ ≤ _; exact Nat.le_of_eq rfl) (hb hby at_154) (fun _ _ => ⟨rfl, e0, (by decide : 2 + 0 ≤ _), (by decide : 20 + 0 ≤ _)⟩)
    dsimp only [Pt.U, Pt.locs, Pt.cells, Pt.slots] at X11 l11 y11 z11 st11 hQ11
    subst l11 y11 z11
    obtain ⟨rfl, Nq11, e11⟩ := hQ11
    have N11 := Fr.app N0 Nq11
    have go13 : ∀ t, Steps p.tables e below (T11.setTop (mkF m 178 #[.val (.int xa), .val (.int xb), .val (.ref bo), .val (.ref bk), .val (.int (12 : Int32)), .val (.int (3 : Int32)), .val (.int (3 : Int32)), .val (.int (1 : Int32))] [])) t → Steps p.tables e below st0 t := by
      intro t kt
      refine go0 t ?_
      refine XS.iload X0.here hx rfl (hb hby at_152) rfl ?_
      show Steps p.tables e below (T0.setTop (mkF m 154 #[.val (.int xa), .val (.int xb), .val (.ref bo), .val (.ref bk), .val (.int (12 : Int32)), .val (.int (3 : Int32)), .unset, .unset] [(.int (12 : Int32))])) _
      refine st11 _ ?_
      show Steps p.tables e below (T11.setTop (mkF m 157 #[.val (.int xa), .val (.int xb), .val (.ref bo), .val (.ref bk), .val (.int (12 : Int32)), .val (.int (3 : Int32)), .unset, .unset] [(.int (3 : Int32))])) _
      refine XS.istore X11.here hx rfl (hb hby at_157) rfl (l' := #[.val (.int xa), .val (.int xb), .val (.ref bo), .val (.ref bk), .val (.int (12 : Int32)), .val (.int (3 : Int32)), .val (.int (3 : Int32)), .unset]) rfl ?_
      show Steps p.tables e below (T11.setTop (mkF m 159 #[.val (.int xa), .val (.int xb), .val (.ref bo), .val (.ref bk), .val (.int (12 : Int32)), .val (.int (3 : Int32)), .val (.int (3 : Int32)), .unset] [])) _
      refine XS.iload X11.here hx rfl (hb hby at_159) rfl ?_
      show Steps p.tables e below (T11.setTop (mkF m 161 #[.val (.int xa), .val (.int xb), .val (.ref bo), .val (.ref bk), .val (.int (12 : Int32)), .val (.int (3 : Int32)), .val (.int (3 : Int32)), .unset] [(.int (3 : Int32))])) _
      refine XS.ifNo X11.here hx rfl (hb hby at_161) rfl ((if0 _ _).trans (flt (by decide : ¬ ((3 : Int32) < (0 : Int32)))).1) ?_
      show Steps p.tables e below (T11.setTop (mkF m 164 #[.val (.int xa), .val (.int xb), .val (.ref bo), .val (.ref bk), .val (.int (12 : Int32)), .val (.int (3 : Int32)), .val (.int (3 : Int32)), .unset] [])) _
      refine XS.iload X11.here hx rfl (hb hby at_164) rfl ?_
      show Steps p.tables e below (T11.setTop (mkF m 166 #[.val (.int xa), .val (.int xb), .val (.ref bo), .val (.ref bk), .val (.int (12 : Int32)), .val (.int (3 : Int32)), .val (.int (3 : Int32)), .unset] [(.int (3 : Int32))])) _
      refine XS.iload X11.here hx rfl (hb hby at_166) rfl ?_
      show Steps p.tables e below (T11.setTop (mkF m 168 #[.val (.int xa), .val (.int xb), .val (.ref bo), .val (.ref bk), .val (.int (12 : Int32)), .val (.int (3 : Int32)), .val (.int (3 : Int32)), .unset] [(.int (3 : Int32)), (.int (3 : Int32))])) _
      refine XS.icmpNo X11.here hx rfl (hb hby at_168) rfl (teq (by decide : (3 : Int32) = (3 : Int32))).2 ?_
      show Steps p.tables e below (T11.setTop (mkF m 171 #[.val (.int xa), .val (.int xb), .val (.ref bo), .val (.ref bk), .val (.int (12 : Int32)), .val (.int (3 : Int32)), .val (.int (3 : Int32)), .unset] [])) _
      refine XS.iconst X11.here hx rfl (hb hby at_171) ?_
      show Steps p.tables e below (T11.setTop (mkF m 172 #[.val (.int xa), .val (.int xb), .val (.ref bo), .val (.ref bk), .val (.int (12 : Int32)), .val (.int (3 : Int32)), .val (.int (3 : Int32)), .unset] [(.int (1 : Int32))])) _
      refine XS.goto X11.here hx rfl (pc0 := 172) (pc' := 176) rfl (hb hby at_172) (by decide) (by decide) ?_
      show Steps p.tables e below (T11.setTop (mkF m 176 #[.val (.int xa), .val (.int xb), .val (.ref bo), .val (.ref bk), .val (.int (12 : Int32)), .val (.int (3 : Int32)), .val (.int (3 : Int32)), .unset] [(.int (1 : Int32))])) _
      refine XS.istore X11.here hx rfl (hb hby at_176) rfl (l' := #[.val (.int xa), .val (.int xb), .val (.ref bo), .val (.ref bk), .val (.int (12 : Int32)), .val (.int (3 : Int32)), .val (.int (3 : Int32)), .val (.int (1 : Int32))]) rfl ?_
      show Steps p.tables e below (T11.setTop (mkF m 178 #[.val (.int xa), .val (.int xb), .val (.ref bo), .val (.ref bk), .val (.int (12 : Int32)), .val (.int (3 : Int32)), .val (.int (3 : Int32)), .val (.int (1 : Int32))] [])) _
      exact kt
    obtain ⟨s₂, o₂, hs₂, hr₂⟩ := own_tail1 xa xb bo bk (12 : Int32) (3 : Int32) (3 : Int32) ko kk [(.ref c0), (.ref c1), (.ref c2), (.ref c3), (.ref c4), (.ref c5), (.ref c6), (.ref c7), (.ref c8), (.ref c9), (.ref c10), (.ref c11), (.ref c12), (.ref c13), (.ref c14), (.ref c15)] [(.ref d0), (.ref d1), (.ref d2), (.ref d3)] c12 d3 X11 hx hZ hw hby hml hown e11 N11 Z0 hret hlk P0 P1 P2 P3 (by decide) rfl (by decide) rfl
    exact ⟨s₂, o₂, go13 _ hs₂, hr₂⟩
set_option maxRecDepth 65536 in
set_option maxHeartbeats 40000000 in
theorem own_mid13 {p : Program} {l : Launch} {e : Env} {s : State} {m : MethodId} {args : Array Value} {below : List Frame} {meth : Method} {c : Code} {T0 : State} {locs : List Loc} {Z : State} {a0 : Array Value} {h0 : Heap} {n0 : Nat} (xa : Int32) (xb : Int32) (bo : Addr) (bk : Addr) (kx : Int32) (c0 : Addr) (c1 : Addr) (c2 : Addr) (c3 : Addr) (c4 : Addr) (c5 : Addr) (c6 : Addr) (c7 : Addr) (c8 : Addr) (c9 : Addr) (c10 : Addr) (c11 : Addr) (c12 : Addr) (c13 : Addr) (c14 : Addr) (c15 : Addr) (d0 : Addr) (d1 : Addr) (d2 : Addr) (d3 : Addr) (ko : ClassId) (kk : ClassId) (X0 : Stand p l e room_1 s m args below meth c T0 locs 2 20) (hx : p.tables.exec = Jvm.exec) (hZ : Z.Warmed39 s.vm) (hw : ∀ d ∈ tables_1, d.before a0 Z = true) (hby : c.code = code) (hml : c.maxLocals = 8) (hown : s.vm.findClass "com/example/tracewright/tracewright/engine/expr/UnaryOpAcceptsPinLaw" = some m.cls) (e0 : T0.heap = h0) (N0 : Fr n0 locs) (Z0 : n0 ≤ h0.size) (hret : meth.sig.returnType = some .boolean) (hlk : meth.locks = false) (P0 : Arv Z h0 bo ko (.object "com/example/tracewright/tracewright/engine/expr/UnaryOp") (16 : Int32) [(.ref c0), (.ref c1), (.ref c2), (.ref c3), (.ref c4), (.ref c5), (.ref c6), (.ref c7), (.ref c8), (.ref c9), (.ref c10), (.ref c11), (.ref c12), (.ref c13), (.ref c14), (.ref c15)] .null) (P1 : Arv Z h0 bk kk (.object "com/example/tracewright/tracewright/engine/expr/Kind") (4 : Int32) [(.ref d0), (.ref d1), (.ref d2), (.ref d3)] .null) (P2 : Exa Z h0 c13 "com/example/tracewright/tracewright/engine/expr/UnaryOp") (P3 : Fld Z h0 c13 "com/example/tracewright/tracewright/engine/expr/UnaryOp" "from" "Lcom/example/tracewright/tracewright/engine/expr/Kind;" (.ref d0)) (P4 : d0 ≠ d1) (P5 : d0 ≠ d2) (P6 : d0 ≠ d3) (P7 : d1 ≠ d2) (P8 : d1 ≠ d3) (P9 : d2 ≠ d3) (hK : kx = (0 : Int32) ∨ kx = (1 : Int32) ∨ kx = (2 : Int32) ∨ kx = (3 : Int32)) :
    ∃ s₂ o, Steps p.tables e below (T0.setTop (mkF m 152 #[.val (.int xa), .val (.int xb), .val (.ref bo), .val (.ref bk), .val (.int (13 : Int32)), .val (.int kx), .unset, .unset] [])) s₂ ∧ s₂.status = .running ∧ Ended s₂ below o ∧ ∃ v L, o = .returned v ∧ (v = some (.int (1 : Int32)) ∧ Fr n0 L) ∧ FrameEnd s o s₂ L room_1.cells room_1.slots := by
  obtain ⟨st0, hst0⟩ : ∃ zst, zst = T0.setTop (mkF m 152 #[.val (.int xa), .val (.int xb), .val (.ref bo), .val (.ref bk), .val (.int (13 : Int32)), .val (.int kx), .unset, .unset] []) := ⟨_, rfl⟩
  have go0 : ∀ t, Steps p.tables e below (T0.setTop (mkF m 152 #[.val (.int xa), .val (.int xb), .val (.ref bo), .val (.ref bk), .val (.int (13 : Int32)), .val (.int kx), .unset, .unset] [])) t → Steps p.tables e below st0 t := fun t k => by rw [hst0]; exact k
  rw [← hst0]
  rcases hK with rfl | rfl | rfl | rfl
  · skip
    obtain ⟨_, _, ⟨T2, L2, k2, n2⟩, -, X2, ⟨Lc2, hQ2, l2, y2, z2⟩, st2⟩ := Jvm.LawKit.callS X0 hx (y := (⟨"com/example/tracewright/tracewright/engine/expr/UnaryOpAcceptsPinLaw", "sourceKindIndex", "(I)I"⟩ : MethodName)) hown (mvT hZ (hw _ (List.mem_of_getElem? (i := 48) rfl))) (mvT hZ (hw _ (List.mem_of_getElem? (i := 49) rfl))) (mvT hZ (hw _ (List.mem_of_getElem? (i := 50) rfl))) (mvT hZ (hw _ (List.mem_of_getElem? (i := 51) rfl))) (by decide) (backOf (W := 0) (own_src13 l Z a0 hw []  h0 n0 Z0 ) hZ (hw _ (List.mem_of_getElem? (i := 51) rfl)) (hw _ (List.mem_of_getElem? (i := 50) rfl)) (by decide) (by decide)) (g := (mkF m 154 #[.val (.int xa), .val (.int xb), .val (.ref bo), .val (.ref bk), .val (.int (13 : Int32)), .val (.int (0 : Int32)), .unset, .unset] [(.int (13 : Int32))])) rfl (by rw [hml]; rfl) (argsL := [(.int (13 : Int32))]) (rest := []) (lenOf pd_6 rfl) rfl (by show 2 * 0 + _ ≤ _; exact Nat.le_of_eq rfl) (hb hby at_154) (fun _ _ => ⟨rfl, e0, (by decide : 2 + 0 ≤ _), (by decide : 20 + 0 ≤ _)⟩)
    dsimp only [Pt.U, Pt.locs, Pt.cells, Pt.slots] at X2 l2 y2 z2 st2 hQ2
    subst l2 y2 z2
    obtain ⟨rfl, Nq2, e2⟩ := hQ2
    have N2 := Fr.app N0 Nq2
    have go4 : ∀ t, Steps p.tables e below (T2.setTop (mkF m 178 #[.val (.int xa), .val (.int xb), .val (.ref bo), .val (.ref bk), .val (.int (13 : Int32)), .val (.int (0 : Int32)), .val (.int (0 : Int32)), .val (.int (1 : Int32))] [])) t → Steps p.tables e below st0 t := by
      intro t kt
      refine go0 t ?_
      refine XS.iload X0.here hx rfl (hb hby at_152) rfl ?_
      show Steps p.tables e below (T0.setTop (mkF m 154 #[.val (.int xa), .val (.int xb), .val (.ref bo), .val (.ref bk), .val (.int (13 : Int32)), .val (.int (0 : Int32)), .unset, .unset] [(.int (13 : Int32))])) _
      refine st2 _ ?_
      show Steps p.tables e below (T2.setTop (mkF m 157 #[.val (.int xa), .val (.int xb), .val (.ref bo), .val (.ref bk), .val (.int (13 : Int32)), .val (.int (0 : Int32)), .unset, .unset] [(.int (0 : Int32))])) _
      refine XS.istore X2.here hx rfl (hb hby at_157) rfl (l' := #[.val (.int xa), .val (.int xb), .val (.ref bo), .val (.ref bk), .val (.int (13 : Int32)), .val (.int (0 : Int32)), .val (.int (0 : Int32)), .unset]) rfl ?_
      show Steps p.tables e below (T2.setTop (mkF m 159 #[.val (.int xa), .val (.int xb), .val (.ref bo), .val (.ref bk), .val (.int (13 : Int32)), .val (.int (0 : Int32)), .val (.int (0 : Int32)), .unset] [])) _
      refine XS.iload X2.here hx rfl (hb hby at_159) rfl ?_
      show Steps p.tables e below (T2.setTop (mkF m 161 #[.val (.int xa), .val (.int xb), .val (.ref bo), .val (.ref bk), .val (.int (13 : Int32)), .val (.int (0 : Int32)), .val (.int (0 : Int32)), .unset] [(.int (0 : Int32))])) _
      refine XS.ifNo X2.here hx rfl (hb hby at_161) rfl ((if0 _ _).trans (flt (by decide : ¬ ((0 : Int32) < (0 : Int32)))).1) ?_
      show Steps p.tables e below (T2.setTop (mkF m 164 #[.val (.int xa), .val (.int xb), .val (.ref bo), .val (.ref bk), .val (.int (13 : Int32)), .val (.int (0 : Int32)), .val (.int (0 : Int32)), .unset] [])) _
      refine XS.iload X2.here hx rfl (hb hby at_164) rfl ?_
      show Steps p.tables e below (T2.setTop (mkF m 166 #[.val (.int xa), .val (.int xb), .val (.ref bo), .val (.ref bk), .val (.int (13 : Int32)), .val (.int (0 : Int32)), .val (.int (0 : Int32)), .unset] [(.int (0 : Int32))])) _
      refine XS.iload X2.here hx rfl (hb hby at_166) rfl ?_
      show Steps p.tables e below (T2.setTop (mkF m 168 #[.val (.int xa), .val (.int xb), .val (.ref bo), .val (.ref bk), .val (.int (13 : Int32)), .val (.int (0 : Int32)), .val (.int (0 : Int32)), .unset] [(.int (0 : Int32)), (.int (0 : Int32))])) _
      refine XS.icmpNo X2.here hx rfl (hb hby at_168) rfl (teq (by decide : (0 : Int32) = (0 : Int32))).2 ?_
      show Steps p.tables e below (T2.setTop (mkF m 171 #[.val (.int xa), .val (.int xb), .val (.ref bo), .val (.ref bk), .val (.int (13 : Int32)), .val (.int (0 : Int32)), .val (.int (0 : Int32)), .unset] [])) _
      refine XS.iconst X2.here hx rfl (hb hby at_171) ?_
      show Steps p.tables e below (T2.setTop (mkF m 172 #[.val (.int xa), .val (.int xb), .val (.ref bo), .val (.ref bk), .val (.int (13 : Int32)), .val (.int (0 : Int32)), .val (.int (0 : Int32)), .unset] [(.int (1 : Int32))])) _
      refine XS.goto X2.here hx rfl (pc0 := 172) (pc' := 176) rfl (hb hby at_172) (by decide) (by decide) ?_
      show Steps p.tables e below (T2.setTop (mkF m 176 #[.val (.int xa), .val (.int xb), .val (.ref bo), .val (.ref bk), .val (.int (13 : Int32)), .val (.int (0 : Int32)), .val (.int (0 : Int32)), .unset] [(.int (1 : Int32))])) _
      refine XS.istore X2.here hx rfl (hb hby at_176) rfl (l' := #[.val (.int xa), .val (.int xb), .val (.ref bo), .val (.ref bk), .val (.int (13 : Int32)), .val (.int (0 : Int32)), .val (.int (0 : Int32)), .val (.int (1 : Int32))]) rfl ?_
      show Steps p.tables e below (T2.setTop (mkF m 178 #[.val (.int xa), .val (.int xb), .val (.ref bo), .val (.ref bk), .val (.int (13 : Int32)), .val (.int (0 : Int32)), .val (.int (0 : Int32)), .val (.int (1 : Int32))] [])) _
      exact kt
    obtain ⟨s₂, o₂, hs₂, hr₂⟩ := own_tail1 xa xb bo bk (13 : Int32) (0 : Int32) (0 : Int32) ko kk [(.ref c0), (.ref c1), (.ref c2), (.ref c3), (.ref c4), (.ref c5), (.ref c6), (.ref c7), (.ref c8), (.ref c9), (.ref c10), (.ref c11), (.ref c12), (.ref c13), (.ref c14), (.ref c15)] [(.ref d0), (.ref d1), (.ref d2), (.ref d3)] c13 d0 X2 hx hZ hw hby hml hown e2 N2 Z0 hret hlk P0 P1 P2 P3 (by decide) rfl (by decide) rfl
    exact ⟨s₂, o₂, go4 _ hs₂, hr₂⟩
  · skip
    obtain ⟨_, _, ⟨T5, L5, k5, n5⟩, -, X5, ⟨Lc5, hQ5, l5, y5, z5⟩, st5⟩ := Jvm.LawKit.callS X0 hx (y := (⟨"com/example/tracewright/tracewright/engine/expr/UnaryOpAcceptsPinLaw", "sourceKindIndex", "(I)I"⟩ : MethodName)) hown (mvT hZ (hw _ (List.mem_of_getElem? (i := 48) rfl))) (mvT hZ (hw _ (List.mem_of_getElem? (i := 49) rfl))) (mvT hZ (hw _ (List.mem_of_getElem? (i := 50) rfl))) (mvT hZ (hw _ (List.mem_of_getElem? (i := 51) rfl))) (by decide) (backOf (W := 0) (own_src13 l Z a0 hw []  h0 n0 Z0 ) hZ (hw _ (List.mem_of_getElem? (i := 51) rfl)) (hw _ (List.mem_of_getElem? (i := 50) rfl)) (by decide) (by decide)) (g := (mkF m 154 #[.val (.int xa), .val (.int xb), .val (.ref bo), .val (.ref bk), .val (.int (13 : Int32)), .val (.int (1 : Int32)), .unset, .unset] [(.int (13 : Int32))])) rfl (by rw [hml]; rfl) (argsL := [(.int (13 : Int32))]) (rest := []) (lenOf pd_6 rfl) rfl (by show 2 * 0 + _ ≤ _; exact Nat.le_of_eq rfl) (hb hby at_154) (fun _ _ => ⟨rfl, e0, (by decide : 2 + 0 ≤ _), (by decide : 20 + 0 ≤ _)⟩)
    dsimp only [Pt.U, Pt.locs, Pt.cells, Pt.slots] at X5 l5 y5 z5 st5 hQ5
    subst l5 y5 z5
    obtain ⟨rfl, Nq5, e5⟩ := hQ5
    have N5 := Fr.app N0 Nq5
    have go7 : ∀ t, Steps p.tables e below (T5.setTop (mkF m 178 #[.val (.int xa), .val (.int xb), .val (.ref bo), .val (.ref bk), .val (.int (13 : Int32)), .val (.int (1 : Int32)), .val (.int (0 : Int32)), .val (.int (0 : Int32))] [])) t → Steps p.tables e below st0 t := by
      intro t kt
      refine go0 t ?_
      refine XS.iload X0.here hx rfl (hb hby at_152) rfl ?_
      show Steps p.tables e below (T0.setTop (mkF m 154 #[.val (.int xa), .val (.int xb), .val (.ref bo), .val (.ref bk), .val (.int (13 : Int32)), .val (.int (1 : Int32)), .unset, .unset] [(.int (13 : Int32))])) _
      refine st5 _ ?_
      show Steps p.tables e below (T5.setTop (mkF m 157 #[.val (.int xa), .val (.int xb), .val (.ref bo), .val (.ref bk), .val (.int (13 : Int32)), .val (.int (1 : Int32)), .unset, .unset] [(.int (0 : Int32))])) _
      refine XS.istore X5.here hx rfl (hb hby at_157) rfl (l' := #[.val (.int xa), .val (.int xb), .val (.ref bo), .val (.ref bk), .val (.int (13 : Int32)), .val (.int (1 : Int32)), .val (.int (0 : Int32)), .unset]) rfl ?_
      show Steps p.tables e below (T5.setTop (mkF m 159 #[.val (.int xa), .val (.int xb), .val (.ref bo), .val (.ref bk), .val (.int (13 : Int32)), .val (.int (1 : Int32)), .val (.int (0 : Int32)), .unset] [])) _
      refine XS.iload X5.here hx rfl (hb hby at_159) rfl ?_
      show Steps p.tables e below (T5.setTop (mkF m 161 #[.val (.int xa), .val (.int xb), .val (.ref bo), .val (.ref bk), .val (.int (13 : Int32)), .val (.int (1 : Int32)), .val (.int (0 : Int32)), .unset] [(.int (0 : Int32))])) _
      refine XS.ifNo X5.here hx rfl (hb hby at_161) rfl ((if0 _ _).trans (flt (by decide : ¬ ((0 : Int32) < (0 : Int32)))).1) ?_
      show Steps p.tables e below (T5.setTop (mkF m 164 #[.val (.int xa), .val (.int xb), .val (.ref bo), .val (.ref bk), .val (.int (13 : Int32)), .val (.int (1 : Int32)), .val (.int (0 : Int32)), .unset] [])) _
      refine XS.iload X5.here hx rfl (hb hby at_164) rfl ?_
      show Steps p.tables e below (T5.setTop (mkF m 166 #[.val (.int xa), .val (.int xb), .val (.ref bo), .val (.ref bk), .val (.int (13 : Int32)), .val (.int (1 : Int32)), .val (.int (0 : Int32)), .unset] [(.int (0 : Int32))])) _
      refine XS.iload X5.here hx rfl (hb hby at_166) rfl ?_
      show Steps p.tables e below (T5.setTop (mkF m 168 #[.val (.int xa), .val (.int xb), .val (.ref bo), .val (.ref bk), .val (.int (13 : Int32)), .val (.int (1 : Int32)), .val (.int (0 : Int32)), .unset] [(.int (1 : Int32)), (.int (0 : Int32))])) _
      refine XS.icmpYes X5.here hx rfl (pc0 := 168) (pc' := 175) rfl (hb hby at_168) rfl (feq (by decide : ¬ ((0 : Int32) = (1 : Int32)))).2 (by decide) (by decide) ?_
      show Steps p.tables e below (T5.setTop (mkF m 175 #[.val (.int xa), .val (.int xb), .val (.ref bo), .val (.ref bk), .val (.int (13 : Int32)), .val (.int (1 : Int32)), .val (.int (0 : Int32)), .unset] [])) _
      refine XS.iconst X5.here hx rfl (hb hby at_175) ?_
      show Steps p.tables e below (T5.setTop (mkF m 176 #[.val (.int xa), .val (.int xb), .val (.ref bo), .val (.ref bk), .val (.int (13 : Int32)), .val (.int (1 : Int32)), .val (.int (0 : Int32)), .unset] [(.int (0 : Int32))])) _
      refine XS.istore X5.here hx rfl (hb hby at_176) rfl (l' := #[.val (.int xa), .val (.int xb), .val (.ref bo), .val (.ref bk), .val (.int (13 : Int32)), .val (.int (1 : Int32)), .val (.int (0 : Int32)), .val (.int (0 : Int32))]) rfl ?_
      show Steps p.tables e below (T5.setTop (mkF m 178 #[.val (.int xa), .val (.int xb), .val (.ref bo), .val (.ref bk), .val (.int (13 : Int32)), .val (.int (1 : Int32)), .val (.int (0 : Int32)), .val (.int (0 : Int32))] [])) _
      exact kt
    obtain ⟨s₂, o₂, hs₂, hr₂⟩ := own_tail2 xa xb bo bk (13 : Int32) (1 : Int32) (0 : Int32) ko kk [(.ref c0), (.ref c1), (.ref c2), (.ref c3), (.ref c4), (.ref c5), (.ref c6), (.ref c7), (.ref c8), (.ref c9), (.ref c10), (.ref c11), (.ref c12), (.ref c13), (.ref c14), (.ref c15)] [(.ref d0), (.ref d1), (.ref d2), (.ref d3)] c13 d1 d0 X5 hx hZ hw hby hml hown e5 N5 Z0 hret hlk P0 P1 P2 P3 (by decide) rfl (by decide) rfl P4
    exact ⟨s₂, o₂, go7 _ hs₂, hr₂⟩
  · skip
    obtain ⟨_, _, ⟨T8, L8, k8, n8⟩, -, X8, ⟨Lc8, hQ8, l8, y8, z8⟩, st8⟩ := Jvm.LawKit.callS X0 hx (y := (⟨"com/example/tracewright/tracewright/engine/expr/UnaryOpAcceptsPinLaw", "sourceKindIndex", "(I)I"⟩ : MethodName)) hown (mvT hZ (hw _ (List.mem_of_getElem? (i := 48) rfl))) (mvT hZ (hw _ (List.mem_of_getElem? (i := 49) rfl))) (mvT hZ (hw _ (List.mem_of_getElem? (i := 50) rfl))) (mvT hZ (hw _ (List.mem_of_getElem? (i := 51) rfl))) (by decide) (backOf (W := 0) (own_src13 l Z a0 hw []  h0 n0 Z0 ) hZ (hw _ (List.mem_of_getElem? (i := 51) rfl)) (hw _ (List.mem_of_getElem? (i := 50) rfl)) (by decide) (by decide)) (g := (mkF m 154 #[.val (.int xa), .val (.int xb), .val (.ref bo), .val (.ref bk), .val (.int (13 : Int32)), .val (.int (2 : Int32)), .unset, .unset] [(.int (13 : Int32))])) rfl (by rw [hml]; rfl) (argsL := [(.int (13 : Int32))]) (rest := []) (lenOf pd_6 rfl) rfl (by show 2 * 0 + _ ≤ _; exact Nat.le_of_eq rfl) (hb hby at_154) (fun _ _ => ⟨rfl, e0, (by decide : 2 + 0 ≤ _), (by decide : 20 + 0 ≤ _)⟩)
    dsimp only [Pt.U, Pt.locs, Pt.cells, Pt.slots] at X8 l8 y8 z8 st8 hQ8
    subst l8 y8 z8
    obtain ⟨rfl, Nq8, e8⟩ := hQ8
    have N8 := Fr.app N0 Nq8
    have go10 : ∀ t, Steps p.tables e below (T8.setTop (mkF m 178 #[.val (.int xa), .val (.int xb), .val (.ref bo), .val (.ref bk), .val (.int (13 : Int32)), .val (.int (2 : Int32)), .val (.int (0 : Int32)), .val (.int (0 : Int32))] [])) t → Steps p.tables e below st0 t := by
      intro t kt
      refine go0 t ?_
      refine XS.iload X0.here hx rfl (hb hby at_152) rfl ?_
      show Steps p.tables e below (T0.setTop (mkF m 154 #[.val (.int xa), .val (.int xb), .val (.ref bo), .val (.ref bk), .val (.int (13 : Int32)), .val (.int (2 : Int32)), .unset, .unset] [(.int (13 : Int32))])) _
      refine st8 _ ?_
      show Steps p.tables e below (T8.setTop (mkF m 157 #[.val (.int xa), .val (.int xb), .val (.ref bo), .val (.ref bk), .val (.int (13 : Int32)), .val (.int (2 : Int32)), .unset, .unset] [(.int (0 : Int32))])) _
      refine XS.istore X8.here hx rfl (hb hby at_157) rfl (l' := #[.val (.int xa), .val (.int xb), .val (.ref bo), .val (.ref bk), .val (.int (13 : Int32)), .val (.int (2 : Int32)), .val (.int (0 : Int32)), .unset]) rfl ?_
      show Steps p.tables e below (T8.setTop (mkF m 159 #[.val (.int xa), .val (.int xb), .val (.ref bo), .val (.ref bk), .val (.int (13 : Int32)), .val (.int (2 : Int32)), .val (.int (0 : Int32)), .unset] [])) _
      refine XS.iload X8.here hx rfl (hb hby at_159) rfl ?_
      show Steps p.tables e below (T8.setTop (mkF m 161 #[.val (.int xa), .val (.int xb), .val (.ref bo), .val (.ref bk), .val (.int (13 : Int32)), .val (.int (2 : Int32)), .val (.int (0 : Int32)), .unset] [(.int (0 : Int32))])) _
      refine XS.ifNo X8.here hx rfl (hb hby at_161) rfl ((if0 _ _).trans (flt (by decide : ¬ ((0 : Int32) < (0 : Int32)))).1) ?_
      show Steps p.tables e below (T8.setTop (mkF m 164 #[.val (.int xa), .val (.int xb), .val (.ref bo), .val (.ref bk), .val (.int (13 : Int32)), .val (.int (2 : Int32)), .val (.int (0 : Int32)), .unset] [])) _
      refine XS.iload X8.here hx rfl (hb hby at_164) rfl ?_
      show Steps p.tables e below (T8.setTop (mkF m 166 #[.val (.int xa), .val (.int xb), .val (.ref bo), .val (.ref bk), .val (.int (13 : Int32)), .val (.int (2 : Int32)), .val (.int (0 : Int32)), .unset] [(.int (0 : Int32))])) _
      refine XS.iload X8.here hx rfl (hb hby at_166) rfl ?_
      show Steps p.tables e below (T8.setTop (mkF m 168 #[.val (.int xa), .val (.int xb), .val (.ref bo), .val (.ref bk), .val (.int (13 : Int32)), .val (.int (2 : Int32)), .val (.int (0 : Int32)), .unset] [(.int (2 : Int32)), (.int (0 : Int32))])) _
      refine XS.icmpYes X8.here hx rfl (pc0 := 168) (pc' := 175) rfl (hb hby at_168) rfl (feq (by decide : ¬ ((0 : Int32) = (2 : Int32)))).2 (by decide) (by decide) ?_
      show Steps p.tables e below (T8.setTop (mkF m 175 #[.val (.int xa), .val (.int xb), .val (.ref bo), .val (.ref bk), .val (.int (13 : Int32)), .val (.int (2 : Int32)), .val (.int (0 : Int32)), .unset] [])) _
      refine XS.iconst X8.here hx rfl (hb hby at_175) ?_
      show Steps p.tables e below (T8.setTop (mkF m 176 #[.val (.int xa), .val (.int xb), .val (.ref bo), .val (.ref bk), .val (.int (13 : Int32)), .val (.int (2 : Int32)), .val (.int (0 : Int32)), .unset] [(.int (0 : Int32))])) _
      refine XS.istore X8.here hx rfl (hb hby at_176) rfl (l' := #[.val (.int xa), .val (.int xb), .val (.ref bo), .val (.ref bk), .val (.int (13 : Int32)), .val (.int (2 : Int32)), .val (.int (0 : Int32)), .val (.int (0 : Int32))]) rfl ?_
      show Steps p.tables e below (T8.setTop (mkF m 178 #[.val (.int xa), .val (.int xb), .val (.ref bo), .val (.ref bk), .val (.int (13 : Int32)), .val (.int (2 : Int32)), .val (.int (0 : Int32)), .val (.int (0 : Int32))] [])) _
      exact kt
    obtain ⟨s₂, o₂, hs₂, hr₂⟩ := own_tail2 xa xb bo bk (13 : Int32) (2 : Int32) (0 : Int32) ko kk [(.ref c0), (.ref c1), (.ref c2), (.ref c3), (.ref c4), (.ref c5), (.ref c6), (.ref c7), (.ref c8), (.ref c9), (.ref c10), (.ref c11), (.ref c12), (.ref c13), (.ref c14), (.ref c15)] [(.ref d0), (.ref d1), (.ref d2), (.ref d3)] c13 d2 d0 X8 hx hZ hw hby hml hown e8 N8 Z0 hret hlk P0 P1 P2 P3 (by decide) rfl (by decide) rfl P5
    exact ⟨s₂, o₂, go10 _ hs₂, hr₂⟩
  · skip
    obtain ⟨_, _, ⟨T11, L11, k11, n11⟩, -, X11, ⟨Lc11, hQ11, l11, y11, z11⟩, st11⟩ := Jvm.LawKit.callS X0 hx (y := (⟨"com/example/tracewright/tracewright/engine/expr/UnaryOpAcceptsPinLaw", "sourceKindIndex", "(I)I"⟩ : MethodName)) hown (mvT hZ (hw _ (List.mem_of_getElem? (i := 48) rfl))) (mvT hZ (hw _ (List.mem_of_getElem? (i := 49) rfl))) (mvT hZ (hw _ (List.mem_of_getElem? (i := 50) rfl))) (mvT hZ (hw _ (List.mem_of_getElem? (i := 51) rfl))) (by decide) (backOf (W := 0) (own_src13 l Z a0 hw []  h0 n0 Z0 ) hZ (hw _ (List.mem_of_getElem? (i := 51) rfl)) (hw _ (List.mem_of_getElem? (i := 50) rfl)) (by decide) (by decide)) (g := (mkF m 154 #[.val (.int xa), .val (.int xb), .val (.ref bo), .val (.ref bk), .val (.int (13 : Int32)), .val (.int (3 : Int32)), .unset, .unset] [(.int (13 : Int32))])) rfl (by rw [hml]; rfl) (argsL := [(.int (13 : Int32))]) (rest := []) (lenOf pd_6 rfl) rfl (by show 2 * 0 + _ ≤ _; exact Nat.le_of_eq rfl) (hb hby at_154) (fun _ _ => ⟨rfl, e0, (by decide : 2 + 0 ≤ _), (by decide : 20 + 0 ≤ _)⟩)
    dsimp only [Pt.U, Pt.locs, Pt.cells, Pt.slots] at X11 l11 y11 z11 st11 hQ11
    subst l11 y11 z11
    obtain ⟨rfl, Nq11, e11⟩ := hQ11
    have N11 := Fr.app N0 Nq11
    have go13 : ∀ t, Steps p.tables e below (T11.setTop (mkF m 178 #[.val (.int xa), .val (.int xb), .val (.ref bo), .val (.ref bk), .val (.int (13 : Int32)), .val (.int (3 : Int32)), .val (.int (0 : Int32)), .val (.int (0 : Int32))] [])) t → Steps p.tables e below st0 t := by
      intro t kt
      refine go0 t ?_
      refine XS.iload X0.here hx rfl (hb hby at_152) rfl ?_
      show Steps p.tables e below (T0.setTop (mkF m 154 #[.val (.int xa), .val (.int xb), .val (.ref bo), .val (.ref bk), .val (.int (13 : Int32)), .val (.int (3 : Int32)), .unset, .unset] [(.int (13 : Int32))])) _
      refine st11 _ ?_
      show Steps p.tables e below (T11.setTop (mkF m 157 #[.val (.int xa), .val (.int xb), .val (.ref bo), .val (.ref bk), .val (.int (13 : Int32)), .val (.int (3 : Int32)), .unset, .unset] [(.int (0 : Int32))])) _
      refine XS.istore X11.here hx rfl (hb hby at_157) rfl (l' := #[.val (.int xa), .val (.int xb), .val (.ref bo), .val (.ref bk), .val (.int (13 : Int32)), .val (.int (3 : Int32)), .val (.int (0 : Int32)), .unset]) rfl ?_
      show Steps p.tables e below (T11.setTop (mkF m 159 #[.val (.int xa), .val (.int xb), .val (.ref bo), .val (.ref bk), .val (.int (13 : Int32)), .val (.int (3 : Int32)), .val (.int (0 : Int32)), .unset] [])) _
      refine XS.iload X11.here hx rfl (hb hby at_159) rfl ?_
      show Steps p.tables e below (T11.setTop (mkF m 161 #[.val (.int xa), .val (.int xb), .val (.ref bo), .val (.ref bk), .val (.int (13 : Int32)), .val (.int (3 : Int32)), .val (.int (0 : Int32)), .unset] [(.int (0 : Int32))])) _
      refine XS.ifNo X11.here hx rfl (hb hby at_161) rfl ((if0 _ _).trans (flt (by decide : ¬ ((0 : Int32) < (0 : Int32)))).1) ?_
      show Steps p.tables e below (T11.setTop (mkF m 164 #[.val (.int xa), .val (.int xb), .val (.ref bo), .val (.ref bk), .val (.int (13 : Int32)), .val (.int (3 : Int32)), .val (.int (0 : Int32)), .unset] [])) _
      refine XS.iload X11.here hx rfl (hb hby at_164) rfl ?_
      show Steps p.tables e below (T11.setTop (mkF m 166 #[.val (.int xa), .val (.int xb), .val (.ref bo), .val (.ref bk), .val (.int (13 : Int32)), .val (.int (3 : Int32)), .val (.int (0 : Int32)), .unset] [(.int (0 : Int32))])) _
      refine XS.iload X11.here hx rfl (hb hby at_166) rfl ?_
      show Steps p.tables e below (T11.setTop (mkF m 168 #[.val (.int xa), .val (.int xb), .val (.ref bo), .val (.ref bk), .val (.int (13 : Int32)), .val (.int (3 : Int32)), .val (.int (0 : Int32)), .unset] [(.int (3 : Int32)), (.int (0 : Int32))])) _
      refine XS.icmpYes X11.here hx rfl (pc0 := 168) (pc' := 175) rfl (hb hby at_168) rfl (feq (by decide : ¬ ((0 : Int32) = (3 : Int32)))).2 (by decide) (by decide) ?_
      show Steps p.tables e below (T11.setTop (mkF m 175 #[.val (.int xa), .val (.int xb), .val (.ref bo), .val (.ref bk), .val (.int (13 : Int32)), .val (.int (3 : Int32)), .val (.int (0 : Int32)), .unset] [])) _
      refine XS.iconst X11.here hx rfl (hb hby at_175) ?_
      show Steps p.tables e below (T11.setTop (mkF m 176 #[.val (.int xa), .val (.int xb), .val (.ref bo), .val (.ref bk), .val (.int (13 : Int32)), .val (.int (3 : Int32)), .val (.int (0 : Int32)), .unset] [(.int (0 : Int32))])) _
      refine XS.istore X11.here hx rfl (hb hby at_176) rfl (l' := #[.val (.int xa), .val (.int xb), .val (.ref bo), .val (.ref bk), .val (.int (13 : Int32)), .val (.int (3 : Int32)), .val (.int (0 : Int32)), .val (.int (0 : Int32))]) rfl ?_
      show Steps p.tables e below (T11.setTop (mkF m 178 #[.val (.int xa), .val (.int xb), .val (.ref bo), .val (.ref bk), .val (.int (13 : Int32)), .val (.int (3 : Int32)), .val (.int (0 : Int32)), .val (.int (0 : Int32))] [])) _
      exact kt
    obtain ⟨s₂, o₂, hs₂, hr₂⟩ := own_tail2 xa xb bo bk (13 : Int32) (3 : Int32) (0 : Int32) ko kk [(.ref c0), (.ref c1), (.ref c2), (.ref c3), (.ref c4), (.ref c5), (.ref c6), (.ref c7), (.ref c8), (.ref c9), (.ref c10), (.ref c11), (.ref c12), (.ref c13), (.ref c14), (.ref c15)] [(.ref d0), (.ref d1), (.ref d2), (.ref d3)] c13 d3 d0 X11 hx hZ hw hby hml hown e11 N11 Z0 hret hlk P0 P1 P2 P3 (by decide) rfl (by decide) rfl P6
    exact ⟨s₂, o₂, go13 _ hs₂, hr₂⟩
set_option maxRecDepth 65536 in
set_option maxHeartbeats 40000000 in
theorem own_mid14 {p : Program} {l : Launch} {e : Env} {s : State} {m : MethodId} {args : Array Value} {below : List Frame} {meth : Method} {c : Code} {T0 : State} {locs : List Loc} {Z : State} {a0 : Array Value} {h0 : Heap} {n0 : Nat} (xa : Int32) (xb : Int32) (bo : Addr) (bk : Addr) (kx : Int32) (c0 : Addr) (c1 : Addr) (c2 : Addr) (c3 : Addr) (c4 : Addr) (c5 : Addr) (c6 : Addr) (c7 : Addr) (c8 : Addr) (c9 : Addr) (c10 : Addr) (c11 : Addr) (c12 : Addr) (c13 : Addr) (c14 : Addr) (c15 : Addr) (d0 : Addr) (d1 : Addr) (d2 : Addr) (d3 : Addr) (ko : ClassId) (kk : ClassId) (X0 : Stand p l e room_1 s m args below meth c T0 locs 2 20) (hx : p.tables.exec = Jvm.exec) (hZ : Z.Warmed39 s.vm) (hw : ∀ d ∈ tables_1, d.before a0 Z = true) (hby : c.code = code) (hml : c.maxLocals = 8) (hown : s.vm.findClass "com/example/tracewright/tracewright/engine/expr/UnaryOpAcceptsPinLaw" = some m.cls) (e0 : T0.heap = h0) (N0 : Fr n0 locs) (Z0 : n0 ≤ h0.size) (hret : meth.sig.returnType = some .boolean) (hlk : meth.locks = false) (P0 : Arv Z h0 bo ko (.object "com/example/tracewright/tracewright/engine/expr/UnaryOp") (16 : Int32) [(.ref c0), (.ref c1), (.ref c2), (.ref c3), (.ref c4), (.ref c5), (.ref c6), (.ref c7), (.ref c8), (.ref c9), (.ref c10), (.ref c11), (.ref c12), (.ref c13), (.ref c14), (.ref c15)] .null) (P1 : Arv Z h0 bk kk (.object "com/example/tracewright/tracewright/engine/expr/Kind") (4 : Int32) [(.ref d0), (.ref d1), (.ref d2), (.ref d3)] .null) (P2 : Exa Z h0 c14 "com/example/tracewright/tracewright/engine/expr/UnaryOp") (P3 : Fld Z h0 c14 "com/example/tracewright/tracewright/engine/expr/UnaryOp" "from" "Lcom/example/tracewright/tracewright/engine/expr/Kind;" (.ref d0)) (P4 : d0 ≠ d1) (P5 : d0 ≠ d2) (P6 : d0 ≠ d3) (P7 : d1 ≠ d2) (P8 : d1 ≠ d3) (P9 : d2 ≠ d3) (hK : kx = (0 : Int32) ∨ kx = (1 : Int32) ∨ kx = (2 : Int32) ∨ kx = (3 : Int32)) :
    ∃ s₂ o, Steps p.tables e below (T0.setTop (mkF m 152 #[.val (.int xa), .val (.int xb), .val (.ref bo), .val (.ref bk), .val (.int (14 : Int32)), .val (.int kx), .unset, .unset] [])) s₂ ∧ s₂.status = .running ∧ Ended s₂ below o ∧ ∃ v L, o = .returned v ∧ (v = some (.int (1 : Int32)) ∧ Fr n0 L) ∧ FrameEnd s o s₂ L room_1.cells room_1.slots := by
  obtain ⟨st0, hst0⟩ : ∃ zst, zst = T0.setTop (mkF m 152 #[.val (.int xa), .val (.int xb), .val (.ref bo), .val (.ref bk), .val (.int (14 : Int32)), .val (.int kx), .unset, .unset] []) := ⟨_, rfl⟩
  have go0 : ∀ t, Steps p.tables e below (T0.setTop (mkF m 152 #[.val (.int xa), .val (.int xb), .val (.ref bo), .val (.ref bk), .val (.int (14 : Int32)), .val (.int kx), .unset, .unset] [])) t → Steps p.tables e below st0 t := fun t k => by rw [hst0]; exact k
  rw [← hst0]
  rcases hK with rfl | rfl | rfl | rfl
  · skip
    obtain ⟨_, _, ⟨T2, L2, k2, n2⟩, -, X2, ⟨Lc2, hQ2, l2, y2, z2⟩, st2⟩ := Jvm.LawKit.callS X0 hx (y := (⟨"com/example/tracewright/tracewright/engine/expr/UnaryOpAcceptsPinLaw", "sourceKindIndex", "(I)I"⟩ : MethodName)) hown (mvT hZ (hw _ (List.mem_of_getElem? (i := 48) rfl))) (mvT hZ (hw _ (List.mem_of_getElem? (i := 49) rfl))) (mvT hZ (hw _ (List.mem_of_getElem? (i := 50) rfl))) (mvT hZ (hw _ (List.mem_of_getElem? (i := 51) rfl))) (by decide) (backOf (W := 0) (own_src14 l Z a0 hw []  h0 n0 Z0 ) hZ (hw _ (List.mem_of_getElem? (i := 51) rfl)) (hw _ (List.mem_of_getElem? (i := 50) rfl)) (by decide) (by decide)) (g := (mkF m 154 #[.val (.int xa), .val (.int xb), .val (.ref bo), .val (.ref bk), .val (.int (14 : Int32)), .val (.int (0 : Int32)), .unset, .unset] [(.int (14 : Int32))])) rfl (by rw [hml]; rfl) (argsL := [(.int (14 : Int32))]) (rest := []) (lenOf pd_6 rfl) rfl (by show 2 * 0 + _ ≤ _; exact Nat.le_of_eq rfl) (hb hby at_154) (fun _ _ => ⟨rfl, e0, (by decide : 2 + 0 ≤ _), (by decide : 20 + 0 ≤ _)⟩)
    dsimp only [Pt.U, Pt.locs, Pt.cells, Pt.slots] at X2 l2 y2 z2 st2 hQ2
    subst l2 y2 z2
    obtain ⟨rfl, Nq2, e2⟩ := hQ2
    have N2 := Fr.app N0 Nq2
    have go4 : ∀ t, Steps p.tables e below (T2.setTop (mkF m 178 #[.val (.int xa), .val (.int xb), .val (.ref bo), .val (.ref bk), .val (.int (14 : Int32)), .val (.int (0 : Int32)), .val (.int (0 : Int32)), .val (.int (1 : Int32))] [])) t → Steps p.tables e below st0 t := by
      intro t kt
      refine go0 t ?_
      refine XS.iload X0.here hx rfl (hb hby at_152) rfl ?_
      show Steps p.tables e below (T0.setTop (mkF m 154 #[.val (.int xa), .val (.int xb), .val (.ref bo), .val (.ref bk), .val (.int (14 : Int32)), .val (.int (0 : Int32)), .unset, .unset] [(.int (14 : Int32))])) _
      refine st2 _ ?_
      show Steps p.tables e below (T2.setTop (mkF m 157 #[.val (.int xa), .val (.int xb), .val (.ref bo), .val (.ref bk), .val (.int (14 : Int32)), .val (.int (0 : Int32)), .unset, .unset] [(.int (0 : Int32))])) _
      refine XS.istore X2.here hx rfl (hb hby at_157) rfl (l' := #[.val (.int xa), .val (.int xb), .val (.ref bo), .val (.ref bk), .val (.int (14 : Int32)), .val (.int (0 : Int32)), .val (.int (0 : Int32)), .unset]) rfl ?_
      show Steps p.tables e below (T2.setTop (mkF m 159 #[.val (.int xa), .val (.int xb), .val (.ref bo), .val (.ref bk), .val (.int (14 : Int32)), .val (.int (0 : Int32)), .val (.int (0 : Int32)), .unset] [])) _
      refine XS.iload X2.here hx rfl (hb hby at_159) rfl ?_
      show Steps p.tables e below (T2.setTop (mkF m 161 #[.val (.int xa), .val (.int xb), .val (.ref bo), .val (.ref bk), .val (.int (14 : Int32)), .val (.int (0 : Int32)), .val (.int (0 : Int32)), .unset] [(.int (0 : Int32))])) _
      refine XS.ifNo X2.here hx rfl (hb hby at_161) rfl ((if0 _ _).trans (flt (by decide : ¬ ((0 : Int32) < (0 : Int32)))).1) ?_
      show Steps p.tables e below (T2.setTop (mkF m 164 #[.val (.int xa), .val (.int xb), .val (.ref bo), .val (.ref bk), .val (.int (14 : Int32)), .val (.int (0 : Int32)), .val (.int (0 : Int32)), .unset] [])) _
      refine XS.iload X2.here hx rfl (hb hby at_164) rfl ?_
      show Steps p.tables e below (T2.setTop (mkF m 166 #[.val (.int xa), .val (.int xb), .val (.ref bo), .val (.ref bk), .val (.int (14 : Int32)), .val (.int (0 : Int32)), .val (.int (0 : Int32)), .unset] [(.int (0 : Int32))])) _
      refine XS.iload X2.here hx rfl (hb hby at_166) rfl ?_
      show Steps p.tables e below (T2.setTop (mkF m 168 #[.val (.int xa), .val (.int xb), .val (.ref bo), .val (.ref bk), .val (.int (14 : Int32)), .val (.int (0 : Int32)), .val (.int (0 : Int32)), .unset] [(.int (0 : Int32)), (.int (0 : Int32))])) _
      refine XS.icmpNo X2.here hx rfl (hb hby at_168) rfl (teq (by decide : (0 : Int32) = (0 : Int32))).2 ?_
      show Steps p.tables e below (T2.setTop (mkF m 171 #[.val (.int xa), .val (.int xb), .val (.ref bo), .val (.ref bk), .val (.int (14 : Int32)), .val (.int (0 : Int32)), .val (.int (0 : Int32)), .unset] [])) _
      refine XS.iconst X2.here hx rfl (hb hby at_171) ?_
      show Steps p.tables e below (T2.setTop (mkF m 172 #[.val (.int xa), .val (.int xb), .val (.ref bo), .val (.ref bk), .val (.int (14 : Int32)), .val (.int (0 : Int32)), .val (.int (0 : Int32)), .unset] [(.int (1 : Int32))])) _
      refine XS.goto X2.here hx rfl (pc0 := 172) (pc' := 176) rfl (hb hby at_172) (by decide) (by decide) ?_
      show Steps p.tables e below (T2.setTop (mkF m 176 #[.val (.int xa), .val (.int xb), .val (.ref bo), .val (.ref bk), .val (.int (14 : Int32)), .val (.int (0 : Int32)), .val (.int (0 : Int32)), .unset] [(.int (1 : Int32))])) _
      refine XS.istore X2.here hx rfl (hb hby at_176) rfl (l' := #[.val (.int xa), .val (.int xb), .val (.ref bo), .val (.ref bk), .val (.int (14 : Int32)), .val (.int (0 : Int32)), .val (.int (0 : Int32)), .val (.int (1 : Int32))]) rfl ?_
      show Steps p.tables e below (T2.setTop (mkF m 178 #[.val (.int xa), .val (.int xb), .val (.ref bo), .val (.ref bk), .val (.int (14 : Int32)), .val (.int (0 : Int32)), .val (.int (0 : Int32)), .val (.int (1 : Int32))] [])) _
      exact kt
    obtain ⟨s₂, o₂, hs₂, hr₂⟩ := own_tail1 xa xb bo bk (14 : Int32) (0 : Int32) (0 : Int32) ko kk [(.ref c0), (.ref c1), (.ref c2), (.ref c3), (.ref c4), (.ref c5), (.ref c6), (.ref c7), (.ref c8), (.ref c9), (.ref c10), (.ref c11), (.ref c12), (.ref c13), (.ref c14), (.ref c15)] [(.ref d0), (.ref d1), (.ref d2), (.ref d3)] c14 d0 X2 hx hZ hw hby hml hown e2 N2 Z0 hret hlk P0 P1 P2 P3 (by decide) rfl (by decide) rfl
    exact ⟨s₂, o₂, go4 _ hs₂, hr₂⟩
  · skip
    obtain ⟨_, _, ⟨T5, L5, k5, n5⟩, -, X5, ⟨Lc5, hQ5, l5, y5, z5⟩, st5⟩ := Jvm.LawKit.callS X0 hx (y := (⟨"com/example/tracewright/tracewright/engine/expr/UnaryOpAcceptsPinLaw", "sourceKindIndex", "(I)I"⟩ : MethodName)) hown (mvT hZ (hw _ (List.mem_of_getElem? (i := 48) rfl))) (mvT hZ (hw _ (List.mem_of_getElem? (i := 49) rfl))) (mvT hZ (hw _ (List.mem_of_getElem? (i := 50) rfl))) (mvT hZ (hw _ (List.mem_of_getElem? (i := 51) rfl))) (by decide) (backOf (W := 0) (own_src14 l Z a0 hw []  h0 n0 Z0 ) hZ (hw _ (List.mem_of_getElem? (i := 51) rfl)) (hw _ (List.mem_of_getElem? (i := 50) rfl)) (by decide) (by decide)) (g := (mkF m 154 #[.val (.int xa), .val (.int xb), .val (.ref bo), .val (.ref bk), .val (.int (14 : Int32)), .val (.int (1 : Int32)), .unset, .unset] [(.int (14 : Int32))])) rfl (by rw [hml]; rfl) (argsL := [(.int (14 : Int32))]) (rest := []) (lenOf pd_6 rfl) rfl (by show 2 * 0 + _ ≤ _; exact Nat.le_of_eq rfl) (hb hby at_154) (fun _ _ => ⟨rfl, e0, (by decide : 2 + 0 ≤ _), (by decide : 20 + 0 ≤ _)⟩)
    dsimp only [Pt.U, Pt.locs, Pt.cells, Pt.slots] at X5 l5 y5 z5 st5 hQ5
    subst l5 y5 z5
    obtain ⟨rfl, Nq5, e5⟩ := hQ5
    have N5 := Fr.app N0 Nq5
    have go7 : ∀ t, Steps p.tables e below (T5.setTop (mkF m 178 #[.val (.int xa), .val (.int xb), .val (.ref bo), .val (.ref bk), .val (.int (14 : Int32)), .val (.int (1 : Int32)), .val (.int (0 : Int32)), .val (.int (0 : Int32))] [])) t → Steps p.tables e below st0 t := by
      intro t kt
      refine go0 t ?_
      refine XS.iload X0.here hx rfl (hb hby at_152) rfl ?_
      show Steps p.tables e below (T0.setTop (mkF m 154 #[.val (.int xa), .val (.int xb), .val (.ref bo), .val (.ref bk), .val (.int (14 : Int32)), .val (.int (1 : Int32)), .unset, .unset] [(.int (14 : Int32))])) _
      refine st5 _ ?_
      show Steps p.tables e below (T5.setTop (mkF m 157 #[.val (.int xa), .val (.int xb), .val (.ref bo), .val (.ref bk), .val (.int (14 : Int32)), .val (.int (1 : Int32)), .unset, .unset] [(.int (0 : Int32))])) _
      refine XS.istore X5.here hx rfl (hb hby at_157) rfl (l' := #[.val (.int xa), .val (.int xb), .val (.ref bo), .val (.ref bk), .val (.int (14 : Int32)), .val (.int (1 : Int32)), .val (.int (0 : Int32)), .unset]) rfl ?_
      show Steps p.tables e below (T5.setTop (mkF m 159 #[.val (.int xa), .val (.int xb), .val (.ref bo), .val (.ref bk), .val (.int (14 : Int32)), .val (.int (1 : Int32)), .val (.int (0 : Int32)), .unset] [])) _
      refine XS.iload X5.here hx rfl (hb hby at_159) rfl ?_
      show Steps p.tables e below (T5.setTop (mkF m 161 #[.val (.int xa), .val (.int xb), .val (.ref bo), .val (.ref bk), .val (.int (14 : Int32)), .val (.int (1 : Int32)), .val (.int (0 : Int32)), .unset] [(.int (0 : Int32))])) _
      refine XS.ifNo X5.here hx rfl (hb hby at_161) rfl ((if0 _ _).trans (flt (by decide : ¬ ((0 : Int32) < (0 : Int32)))).1) ?_
      show Steps p.tables e below (T5.setTop (mkF m 164 #[.val (.int xa), .val (.int xb), .val (.ref bo), .val (.ref bk), .val (.int (14 : Int32)), .val (.int (1 : Int32)), .val (.int (0 : Int32)), .unset] [])) _
      refine XS.iload X5.here hx rfl (hb hby at_164) rfl ?_
      show Steps p.tables e below (T5.setTop (mkF m 166 #[.val (.int xa), .val (.int xb), .val (.ref bo), .val (.ref bk), .val (.int (14 : Int32)), .val (.int (1 : Int32)), .val (.int (0 : Int32)), .unset] [(.int (0 : Int32))])) _
      refine XS.iload X5.here hx rfl (hb hby at_166) rfl ?_
      show Steps p.tables e below (T5.setTop (mkF m 168 #[.val (.int xa), .val (.int xb), .val (.ref bo), .val (.ref bk), .val (.int (14 : Int32)), .val (.int (1 : Int32)), .val (.int (0 : Int32)), .unset] [(.int (1 : Int32)), (.int (0 : Int32))])) _
      refine XS.icmpYes X5.here hx rfl (pc0 := 168) (pc' := 175) rfl (hb hby at_168) rfl (feq (by decide : ¬ ((0 : Int32) = (1 : Int32)))).2 (by decide) (by decide) ?_
      show Steps p.tables e below (T5.setTop (mkF m 175 #[.val (.int xa), .val (.int xb), .val (.ref bo), .val (.ref bk), .val (.int (14 : Int32)), .val (.int (1 : Int32)), .val (.int (0 : Int32)), .unset] [])) _
      refine XS.iconst X5.here hx rfl (hb hby at_175) ?_
      show Steps p.tables e below (T5.setTop (mkF m 176 #[.val (.int xa), .val (.int xb), .val (.ref bo), .val (.ref bk), .val (.int (14 : Int32)), .val (.int (1 : Int32)), .val (.int (0 : Int32)), .unset] [(.int (0 : Int32))])) _
      refine XS.istore X5.here hx rfl (hb hby at_176) rfl (l' := #[.val (.int xa), .val (.int xb), .val (.ref bo), .val (.ref bk), .val (.int (14 : Int32)), .val (.int (1 : Int32)), .val (.int (0 : Int32)), .val (.int (0 : Int32))]) rfl ?_
      show Steps p.tables e below (T5.setTop (mkF m 178 #[.val (.int xa), .val (.int xb), .val (.ref bo), .val (.ref bk), .val (.int (14 : Int32)), .val (.int (1 : Int32)), .val (.int (0 : Int32)), .val (.int (0 : Int32))] [])) _
      exact kt
    obtain ⟨s₂, o₂, hs₂, hr₂⟩ := own_tail2 xa xb bo bk (14 : Int32) (1 : Int32) (0 : Int32) ko kk [(.ref c0), (.ref c1), (.ref c2), (.ref c3), (.ref c4), (.ref c5), (.ref c6), (.ref c7), (.ref c8), (.ref c9), (.ref c10), (.ref c11), (.ref c12), (.ref c13), (.ref c14), (.ref c15)] [(.ref d0), (.ref d1), (.ref d2), (.ref d3)] c14 d1 d0 X5 hx hZ hw hby hml hown e5 N5 Z0 hret hlk P0 P1 P2 P3 (by decide) rfl (by decide) rfl P4
    exact ⟨s₂, o₂, go7 _ hs₂, hr₂⟩
  · skip
    obtain ⟨_, _, ⟨T8, L8, k8, n8⟩, -, X8, ⟨Lc8, hQ8, l8, y8, z8⟩, st8⟩ := Jvm.LawKit.callS X0 hx (y := (⟨"com/example/tracewright/tracewright/engine/expr/UnaryOpAcceptsPinLaw", "sourceKindIndex", "(I)I"⟩ : MethodName)) hown (mvT hZ (hw _ (List.mem_of_getElem? (i := 48) rfl))) (mvT hZ (hw _ (List.mem_of_getElem? (i := 49) rfl))) (mvT hZ (hw _ (List.mem_of_getElem? (i := 50) rfl))) (mvT hZ (hw _ (List.mem_of_getElem? (i := 51) rfl))) (by decide) (backOf (W := 0) (own_src14 l Z a0 hw []  h0 n0 Z0 ) hZ (hw _ (List.mem_of_getElem? (i := 51) rfl)) (hw _ (List.mem_of_getElem? (i := 50) rfl)) (by decide) (by decide)) (g := (mkF m 154 #[.val (.int xa), .val (.int xb), .val (.ref bo), .val (.ref bk), .val (.int (14 : Int32)), .val (.int (2 : Int32)), .unset, .unset] [(.int (14 : Int32))])) rfl (by rw [hml]; rfl) (argsL := [(.int (14 : Int32))]) (rest := []) (lenOf pd_6 rfl) rfl (by show 2 * 0 + _ ≤ _; exact Nat.le_of_eq rfl) (hb hby at_154) (fun _ _ => ⟨rfl, e0, (by decide : 2 + 0 ≤ _), (by decide : 20 + 0 ≤ _)⟩)
    dsimp only [Pt.U, Pt.locs, Pt.cells, Pt.slots] at X8 l8 y8 z8 st8 hQ8
    subst l8 y8 z8
    obtain ⟨rfl, Nq8, e8⟩ := hQ8
    have N8 := Fr.app N0 Nq8
    have go10 : ∀ t, Steps p.tables e below (T8.setTop (mkF m 178 #[.val (.int xa), .val (.int xb), .val (.ref bo), .val (.ref bk), .val (.int (14 : Int32)), .val (.int (2 : Int32)), .val (.int (0 : Int32)), .val (.int (0 : Int32))] [])) t → Steps p.tables e below st0 t := by
      intro t kt
      refine go0 t ?_
      refine XS.iload X0.here hx rfl (hb hby at_152) rfl ?_
      show Steps p.tables e below (T0.setTop (mkF m 154 #[.val (.int xa), .val (.int xb), .val (.ref bo), .val (.ref bk), .val (.int (14 : Int32)), .val (.int (2 : Int32)), .unset, .unset] [(.int (14 : Int32))])) _
      refine st8 _ ?_
      show Steps p.tables e below (T8.setTop (mkF m 157 #[.val (.int xa), .val (.int xb), .val (.ref bo), .val (.ref bk), .val (.int (14 : Int32)), .val (.int (2 : Int32)), .unset, .unset] [(.int (0 : Int32))])) _
      refine XS.istore X8.here hx rfl (hb hby at_157) rfl (l' := #[.val (.int xa), .val (.int xb), .val (.ref bo), .val (.ref bk), .val (.int (14 : Int32)), .val (.int (2 : Int32)), .val (.int (0 : Int32)), .unset]) rfl ?_
      show Steps p.tables e below (T8.setTop (mkF m 159 #[.val (.int xa), .val (.int xb), .val (.ref bo), .val (.ref bk), .val (.int (14 : Int32)), .val (.int (2 : Int32)), .val (.int (0 : Int32)), .unset] [])) _
      refine XS.iload X8.here hx rfl (hb hby at_159) rfl ?_
      show Steps p.tables e below (T8.setTop (mkF m 161 #[.val (.int xa), .val (.int xb), .val (.ref bo), .val (.ref bk), .val (.int (14 : Int32)), .val (.int (2 : Int32)), .val (.int (0 : Int32)), .unset] [(.int (0 : Int32))])) _
      refine XS.ifNo X8.here hx rfl (hb hby at_161) rfl ((if0 _ _).trans (flt (by decide : ¬ ((0 : Int32) < (0 : Int32)))).1) ?_
      show Steps p.tables e below (T8.setTop (mkF m 164 #[.val (.int xa), .val (.int xb), .val (.ref bo), .val (.ref bk), .val (.int (14 : Int32)), .val (.int (2 : Int32)), .val (.int (0 : Int32)), .unset] [])) _
      refine XS.iload X8.here hx rfl (hb hby at_164) rfl ?_
      show Steps p.tables e below (T8.setTop (mkF m 166 #[.val (.int xa), .val (.int xb), .val (.ref bo), .val (.ref bk), .val (.int (14 : Int32)), .val (.int (2 : Int32)), .val (.int (0 : Int32)), .unset] [(.int (0 : Int32))])) _
      refine XS.iload X8.here hx rfl (hb hby at_166) rfl ?_
      show Steps p.tables e below (T8.setTop (mkF m 168 #[.val (.int xa), .val (.int xb), .val (.ref bo), .val (.ref bk), .val (.int (14 : Int32)), .val (.int (2 : Int32)), .val (.int (0 : Int32)), .unset] [(.int (2 : Int32)), (.int (0 : Int32))])) _
      refine XS.icmpYes X8.here hx rfl (pc0 := 168) (pc' := 175) rfl (hb hby at_168) rfl (feq (by decide : ¬ ((0 : Int32) = (2 : Int32)))).2 (by decide) (by decide) ?_
      show Steps p.tables e below (T8.setTop (mkF m 175 #[.val (.int xa), .val (.int xb), .val (.ref bo), .val (.ref bk), .val (.int (14 : Int32)), .val (.int (2 : Int32)), .val (.int (0 : Int32)), .unset] [])) _
      refine XS.iconst X8.here hx rfl (hb hby at_175) ?_
      show Steps p.tables e below (T8.setTop (mkF m 176 #[.val (.int xa), .val (.int xb), .val (.ref bo), .val (.ref bk), .val (.int (14 : Int32)), .val (.int (2 : Int32)), .val (.int (0 : Int32)), .unset] [(.int (0 : Int32))])) _
      refine XS.istore X8.here hx rfl (hb hby at_176) rfl (l' := #[.val (.int xa), .val (.int xb), .val (.ref bo), .val (.ref bk), .val (.int (14 : Int32)), .val (.int (2 : Int32)), .val (.int (0 : Int32)), .val (.int (0 : Int32))]) rfl ?_
      show Steps p.tables e below (T8.setTop (mkF m 178 #[.val (.int xa), .val (.int xb), .val (.ref bo), .val (.ref bk), .val (.int (14 : Int32)), .val (.int (2 : Int32)), .val (.int (0 : Int32)), .val (.int (0 : Int32))] [])) _
      exact kt
    obtain ⟨s₂, o₂, hs₂, hr₂⟩ := own_tail2 xa xb bo bk (14 : Int32) (2 : Int32) (0 : Int32) ko kk [(.ref c0), (.ref c1), (.ref c2), (.ref c3), (.ref c4), (.ref c5), (.ref c6), (.ref c7), (.ref c8), (.ref c9), (.ref c10), (.ref c11), (.ref c12), (.ref c13), (.ref c14), (.ref c15)] [(.ref d0), (.ref d1), (.ref d2), (.ref d3)] c14 d2 d0 X8 hx hZ hw hby hml hown e8 N8 Z0 hret hlk P0 P1 P2 P3 (by decide) rfl (by decide) rfl P5
    exact ⟨s₂, o₂, go10 _ hs₂, hr₂⟩
  · skip
    obtain ⟨_, _, ⟨T11, L11, k11, n11⟩, -, X11, ⟨Lc11, hQ11, l11, y11, z11⟩, st11⟩ := Jvm.LawKit.callS X0 hx (y := (⟨"com/example/tracewright/tracewright/engine/expr/UnaryOpAcceptsPinLaw", "sourceKindIndex", "(I)I"⟩ : MethodName)) hown (mvT hZ (hw _ (List.mem_of_getElem? (i := 48) rfl))) (mvT hZ (hw _ (List.mem_of_getElem? (i := 49) rfl))) (mvT hZ (hw _ (List.mem_of_getElem? (i := 50) rfl))) (mvT hZ (hw _ (List.mem_of_getElem? (i := 51) rfl))) (by decide) (backOf (W := 0) (own_src14 l Z a0 hw []  h0 n0 Z0 ) hZ (hw _ (List.mem_of_getElem? (i := 51) rfl)) (hw _ (List.mem_of_getElem? (i := 50) rfl)) (by decide) (by decide)) (g := (mkF m 154 #[.val (.int xa), .val (.int xb), .val (.ref bo), .val (.ref bk), .val (.int (14 : Int32)), .val (.int (3 : Int32)), .unset, .unset] [(.int (14 : Int32))])) rfl (by rw [hml]; rfl) (argsL := [(.int (14 : Int32))]) (rest := []) (lenOf pd_6 rfl) rfl (by show 2 * 0 + _ ≤ _; exact Nat.le_of_eq rfl) (hb hby at_154) (fun _ _ => ⟨rfl, e0, (by decide : 2 + 0 ≤ _), (by decide : 20 + 0 ≤ _)⟩)
    dsimp only [Pt.U, Pt.locs, Pt.cells, Pt.slots] at X11 l11 y11 z11 st11 hQ11
    subst l11 y11 z11
    obtain ⟨rfl, Nq11, e11⟩ := hQ11
    have N11 := Fr.app N0 Nq11
    have go13 : ∀ t, Steps p.tables e below (T11.setTop (mkF m 178 #[.val (.int xa), .val (.int xb), .val (.ref bo), .val (.ref bk), .val (.int (14 : Int32)), .val (.int (3 : Int32)), .val (.int (0 : Int32)), .val (.int (0 : Int32))] [])) t → Steps p.tables e below st0 t := by
      intro t kt
      refine go0 t ?_
      refine XS.iload X0.here hx rfl (hb hby at_152) rfl ?_
      show Steps p.tables e below (T0.setTop (mkF m 154 #[.val (.int xa), .val (.int xb), .val (.ref bo), .val (.ref bk), .val (.int (14 : Int32)), .val (.int (3 : Int32)), .unset, .unset] [(.int (14 : Int32))])) _
      refine st11 _ ?_
      show Steps p.tables e below (T11.setTop (mkF m 157 #[.val (.int xa), .val (.int xb), .val (.ref bo), .val (.ref bk), .val (.int (14 : Int32)), .val (.int (3 : Int32)), .unset, .unset] [(.int (0 : Int32))])) _
      refine XS.istore X11.here hx rfl (hb hby at_157) rfl (l' := #[.val (.int xa), .val (.int xb), .val (.ref bo), .val (.ref bk), .val (.int (14 : Int32)), .val (.int (3 : Int32)), .val (.int (0 : Int32)), .unset]) rfl ?_
      show Steps p.tables e below (T11.setTop (mkF m 159 #[.val (.int xa), .val (.int xb), .val (.ref bo), .val (.ref bk), .val (.int (14 : Int32)), .val (.int (3 : Int32)), .val (.int (0 : Int32)), .unset] [])) _
      refine XS.iload X11.here hx rfl (hb hby at_159) rfl ?_
      show Steps p.tables e below (T11.setTop (mkF m 161 #[.val (.int xa), .val (.int xb), .val (.ref bo), .val (.ref bk), .val (.int (14 : Int32)), .val (.int (3 : Int32)), .val (.int (0 : Int32)), .unset] [(.int (0 : Int32))])) _
      refine XS.ifNo X11.here hx rfl (hb hby at_161) rfl ((if0 _ _).trans (flt (by decide : ¬ ((0 : Int32) < (0 : Int32)))).1) ?_
      show Steps p.tables e below (T11.setTop (mkF m 164 #[.val (.int xa), .val (.int xb), .val (.ref bo), .val (.ref bk), .val (.int (14 : Int32)), .val (.int (3 : Int32)), .val (.int (0 : Int32)), .unset] [])) _
      refine XS.iload X11.here hx rfl (hb hby at_164) rfl ?_
      show Steps p.tables e below (T11.setTop (mkF m 166 #[.val (.int xa), .val (.int xb), .val (.ref bo), .val (.ref bk), .val (.int (14 : Int32)), .val (.int (3 : Int32)), .val (.int (0 : Int32)), .unset] [(.int (0 : Int32))])) _
      refine XS.iload X11.here hx rfl (hb hby at_166) rfl ?_
      show Steps p.tables e below (T11.setTop (mkF m 168 #[.val (.int xa), .val (.int xb), .val (.ref bo), .val (.ref bk), .val (.int (14 : Int32)), .val (.int (3 : Int32)), .val (.int (0 : Int32)), .unset] [(.int (3 : Int32)), (.int (0 : Int32))])) _
      refine XS.icmpYes X11.here hx rfl (pc0 := 168) (pc' := 175) rfl (hb hby at_168) rfl (feq (by decide : ¬ ((0 : Int32) = (3 : Int32)))).2 (by decide) (by decide) ?_
      show Steps p.tables e below (T11.setTop (mkF m 175 #[.val (.int xa), .val (.int xb), .val (.ref bo), .val (.ref bk), .val (.int (14 : Int32)), .val (.int (3 : Int32)), .val (.int (0 : Int32)), .unset] [])) _
      refine XS.iconst X11.here hx rfl (hb hby at_175) ?_
      show Steps p.tables e below (T11.setTop (mkF m 176 #[.val (.int xa), .val (.int xb), .val (.ref bo), .val (.ref bk), .val (.int (14 : Int32)), .val (.int (3 : Int32)), .val (.int (0 : Int32)), .unset] [(.int (0 : Int32))])) _
      refine XS.istore X11.here hx rfl (hb hby at_176) rfl (l' := #[.val (.int xa), .val (.int xb), .val (.ref bo), .val (.ref bk), .val (.int (14 : Int32)), .val (.int (3 : Int32)), .val (.int (0 : Int32)), .val (.int (0 : Int32))]) rfl ?_
      show Steps p.tables e below (T11.setTop (mkF m 178 #[.val (.int xa), .val (.int xb), .val (.ref bo), .val (.ref bk), .val (.int (14 : Int32)), .val (.int (3 : Int32)), .val (.int (0 : Int32)), .val (.int (0 : Int32))] [])) _
      exact kt
    obtain ⟨s₂, o₂, hs₂, hr₂⟩ := own_tail2 xa xb bo bk (14 : Int32) (3 : Int32) (0 : Int32) ko kk [(.ref c0), (.ref c1), (.ref c2), (.ref c3), (.ref c4), (.ref c5), (.ref c6), (.ref c7), (.ref c8), (.ref c9), (.ref c10), (.ref c11), (.ref c12), (.ref c13), (.ref c14), (.ref c15)] [(.ref d0), (.ref d1), (.ref d2), (.ref d3)] c14 d3 d0 X11 hx hZ hw hby hml hown e11 N11 Z0 hret hlk P0 P1 P2 P3 (by decide) rfl (by decide) rfl P6
    exact ⟨s₂, o₂, go13 _ hs₂, hr₂⟩
set_option maxRecDepth 65536 in
set_option maxHeartbeats 40000000 in
theorem own_mid15 {p : Program} {l : Launch} {e : Env} {s : State} {m : MethodId} {args : Array Value} {below : List Frame} {meth : Method} {c : Code} {T0 : State} {locs : List Loc} {Z : State} {a0 : Array Value} {h0 : Heap} {n0 : Nat} (xa : Int32) (xb : Int32) (bo : Addr) (bk : Addr) (kx : Int32) (c0 : Addr) (c1 : Addr) (c2 : Addr) (c3 : Addr) (c4 : Addr) (c5 : Addr) (c6 : Addr) (c7 : Addr) (c8 : Addr) (c9 : Addr) (c10 : Addr) (c11 : Addr) (c12 : Addr) (c13 : Addr) (c14 : Addr) (c15 : Addr) (d0 : Addr) (d1 : Addr) (d2 : Addr) (d3 : Addr) (ko : ClassId) (kk : ClassId) (X0 : Stand p l e room_1 s m args below meth c T0 locs 2 20) (hx : p.tables.exec = Jvm.exec) (hZ : Z.Warmed39 s.vm) (hw : ∀ d ∈ tables_1, d.before a0 Z = true) (hby : c.code = code) (hml : c.maxLocals = 8) (hown : s.vm.findClass "com/example/tracewright/tracewright/engine/expr/UnaryOpAcceptsPinLaw" = some m.cls) (e0 : T0.heap = h0) (N0 : Fr n0 locs) (Z0 : n0 ≤ h0.size) (hret : meth.sig.returnType = some .boolean) (hlk : meth.locks = false) (P0 : Arv Z h0 bo ko (.object "com/example/tracewright/tracewright/engine/expr/UnaryOp") (16 : Int32) [(.ref c0), (.ref c1), (.ref c2), (.ref c3), (.ref c4), (.ref c5), (.ref c6), (.ref c7), (.ref c8), (.ref c9), (.ref c10), (.ref c11), (.ref c12), (.ref c13), (.ref c14), (.ref c15)] .null) (P1 : Arv Z h0 bk kk (.object "com/example/tracewright/tracewright/engine/expr/Kind") (4 : Int32) [(.ref d0), (.ref d1), (.ref d2), (.ref d3)] .null) (P2 : Exa Z h0 c15 "com/example/tracewright/tracewright/engine/expr/UnaryOp") (P3 : Fld Z h0 c15 "com/example/tracewright/tracewright/engine/expr/UnaryOp" "from" "Lcom/example/tracewright/tracewright/engine/expr/Kind;" (.ref d0)) (P4 : d0 ≠ d1) (P5 : d0 ≠ d2) (P6 : d0 ≠ d3) (P7 : d1 ≠ d2) (P8 : d1 ≠ d3) (P9 : d2 ≠ d3) (hK : kx = (0 : Int32) ∨ kx = (1 : Int32) ∨ kx = (2 : Int32) ∨ kx = (3 : Int32)) :
    ∃ s₂ o, Steps p.tables e below (T0.setTop (mkF m 152 #[.val (.int xa), .val (.int xb), .val (.ref bo), .val (.ref bk), .val (.int (15 : Int32)), .val (.int kx), .unset, .unset] [])) s₂ ∧ s₂.status = .running ∧ Ended s₂ below o ∧ ∃ v L, o = .returned v ∧ (v = some (.int (1 : Int32)) ∧ Fr n0 L) ∧ FrameEnd s o s₂ L room_1.cells room_1.slots := by
  obtain ⟨st0, hst0⟩ : ∃ zst, zst = T0.setTop (mkF m 152 #[.val (.int xa), .val (.int xb), .val (.ref bo), .val (.ref bk), .val (.int (15 : Int32)), .val (.int kx), .unset, .unset] []) := ⟨_, rfl⟩
  have go0 : ∀ t, Steps p.tables e below (T0.setTop (mkF m 152 #[.val (.int xa), .val (.int xb), .val (.ref bo), .val (.ref bk), .val (.int (15 : Int32)), .val (.int kx), .unset, .unset] [])) t → Steps p.tables e below st0 t := fun t k => by rw [hst0]; exact k
  rw [← hst0]
  rcases hK with rfl | rfl | rfl | rfl
  · skip
    obtain ⟨_, _, ⟨T2, L2, k2, n2⟩, -, X2, ⟨Lc2, hQ2, l2, y2, z2⟩, st2⟩ := Jvm.LawKit.callS X0 hx (y := (⟨"com/example/tracewright/tracewright/engine/expr/UnaryOpAcceptsPinLaw", "sourceKindIndex", "(I)I"⟩ : MethodName)) hown (mvT hZ (hw _ (List.mem_of_getElem? (i := 48) rfl))) (mvT hZ (hw _ (List.mem_of_getElem? (i := 49) rfl))) (mvT hZ (hw _ (List.mem_of_getElem? (i := 50) rfl))) (mvT hZ (hw _ (List.mem_of_getElem? (i := 51) rfl))) (by decide) (backOf (W := 0) (own_src15 l Z a0 hw []  h0 n0 Z0 ) hZ (hw _ (List.mem_of_getElem? (i := 51) rfl)) (hw _ (List.mem_of_getElem? (i := 50) rfl)) (by decide) (by decide)) (g := (mkF m 154 #[.val (.int xa), .val (.int xb), .val (.ref bo), .val (.ref bk), .val (.int (15 : Int32)), .val (.int (0 : Int32)), .unset, .unset] [(.int (15 : Int32))])) rfl (by rw [hml]; rfl) (argsL := [(.int (15 : Int32))]) (rest := []) (lenOf pd_6 rfl) rfl (by show 2 * 0 + _ ≤ _; exact Nat.le_of_eq rfl) (hb hby at_154) (fun _ _ => ⟨rfl, e0, (by decide : 2 + 0 ≤ _), (by decide : 20 + 0 ≤ _)⟩)
    dsimp only [Pt.U, Pt.locs, Pt.cells, Pt.slots] at X2 l2 y2 z2 st2 hQ2
    subst l2 y2 z2
    obtain ⟨rfl, Nq2, e2⟩ := hQ2
    have N2 := Fr.app N0 Nq2
    have go4 : ∀ t, Steps p.tables e below (T2.setTop (mkF m 178 #[.val (.int xa), .val (.int xb), .val (.ref bo), .val (.ref bk), .val (.int (15 : Int32)), .val (.int (0 : Int32)), .val (.int (0 : Int32)), .val (.int (1 : Int32))] [])) t → Steps p.tables e below st0 t := by
      intro t kt
      refine go0 t ?_
      refine XS.iload X0.here hx rfl (hb hby at_152) rfl ?_
      show Steps p.tables e below (T0.setTop (mkF m 154 #[.val (.int xa), .val (.int xb), .val (.ref bo), .val (.ref bk), .val (.int (15 : Int32)), .val (.int (0 : Int32)), .unset, .unset] [(.int (15 : Int32))])) _
      refine st2 _ ?_
      show Steps p.tables e below (T2.setTop (mkF m 157 #[.val (.int xa), .val (.int xb), .val (.ref bo), .val (.ref bk), .val (.int (15 : Int32)), .val (.int (0 : Int32)), .unset, .unset] [(.int (0 : Int32))])) _
      refine XS.istore X2.here hx rfl (hb hby at_157) rfl (l' := #[.val (.int xa), .val (.int xb), .val (.ref bo), .val (.ref bk), .val (.int (15 : Int32)), .val (.int (0 : Int32)), .val (.int (0 : Int32)), .unset]) rfl ?_
      show Steps p.tables e below (T2.setTop (mkF m 159 #[.val (.int xa), .val (.int xb), .val (.ref bo), .val (.ref bk), .val (.int (15 : Int32)), .val (.int (0 : Int32)), .val (.int (0 : Int32)), .unset] [])) _
      refine XS.iload X2.here hx rfl (hb hby at_159) rfl ?_
      show Steps p.tables e below (T2.setTop (mkF m 161 #[.val (.int xa), .val (.int xb), .val (.ref bo), .val (.ref bk), .val (.int (15 : Int32)), .val (.int (0 : Int32)), .val (.int (0 : Int32)), .unset] [(.int (0 : Int32))])) _
      refine XS.ifNo X2.here hx rfl (hb hby at_161) rfl ((if0 _ _).trans (flt (by decide : ¬ ((0 : Int32) < (0 : Int32)))).1) ?_
      show Steps p.tables e below (T2.setTop (mkF m 164 #[.val (.int xa), .val (.int xb), .val (.ref bo), .val (.ref bk), .val (.int (15 : Int32)), .val (.int (0 : Int32)), .val (.int (0 : Int32)), .unset] [])) _
      refine XS.iload X2.here hx rfl (hb hby at_164) rfl ?_
      show Steps p.tables e below (T2.setTop (mkF m 166 #[.val (.int xa), .val (.int xb), .val (.ref bo), .val (.ref bk), .val (.int (15 : Int32)), .val (.int (0 : Int32)), .val (.int (0 : Int32)), .unset] [(.int (0 : Int32))])) _
      refine XS.iload X2.here hx rfl (hb hby at_166) rfl ?_
      show Steps p.tables e below (T2.setTop (mkF m 168 #[.val (.int xa), .val (.int xb), .val (.ref bo), .val (.ref bk), .val (.int (15 : Int32)), .val (.int (0 : Int32)), .val (.int (0 : Int32)), .unset] [(.int (0 : Int32)), (.int (0 : Int32))])) _
      refine XS.icmpNo X2.here hx rfl (hb hby at_168) rfl (teq (by decide : (0 : Int32) = (0 : Int32))).2 ?_
      show Steps p.tables e below (T2.setTop (mkF m 171 #[.val (.int xa), .val (.int xb), .val (.ref bo), .val (.ref bk), .val (.int (15 : Int32)), .val (.int (0 : Int32)), .val (.int (0 : Int32)), .unset] [])) _
      refine XS.iconst X2.here hx rfl (hb hby at_171) ?_
      show Steps p.tables e below (T2.setTop (mkF m 172 #[.val (.int xa), .val (.int xb), .val (.ref bo), .val (.ref bk), .val (.int (15 : Int32)), .val (.int (0 : Int32)), .val (.int (0 : Int32)), .unset] [(.int (1 : Int32))])) _
      refine XS.goto X2.here hx rfl (pc0 := 172) (pc' := 176) rfl (hb hby at_172) (by decide) (by decide) ?_
      show Steps p.tables e below (T2.setTop (mkF m 176 #[.val (.int xa), .val (.int xb), .val (.ref bo), .val (.ref bk), .val (.int (15 : Int32)), .val (.int (0 : Int32)), .val (.int (0 : Int32)), .unset] [(.int (1 : Int32))])) _
      refine XS.istore X2.here hx rfl (hb hby at_176) rfl (l' := #[.val (.int xa), .val (.int xb), .val (.ref bo), .val (.ref bk), .val (.int (15 : Int32)), .val (.int (0 : Int32)), .val (.int (0 : Int32)), .val (.int (1 : Int32))]) rfl ?_
      show Steps p.tables e below (T2.setTop (mkF m 178 #[.val (.int xa), .val (.int xb), .val (.ref bo), .val (.ref bk), .val (.int (15 : Int32)), .val (.int (0 : Int32)), .val (.int (0 : Int32)), .val (.int (1 : Int32))] [])) _
      exact kt
    obtain ⟨s₂, o₂, hs₂, hr₂⟩ := own_tail1 xa xb bo bk (15 : Int32) (0 : Int32) (0 : Int32) ko kk [(.ref c0), (.ref c1), (.ref c2), (.ref c3), (.ref c4), (.ref c5), (.ref c6), (.ref c7), (.ref c8), (.ref c9), (.ref c10), (.ref c11), (.ref c12), (.ref c13), (.ref c14), (.ref c15)] [(.ref d0), (.ref d1), (.ref d2), (.ref d3)] c15 d0 X2 hx hZ hw hby hml hown e2 N2 Z0 hret hlk P0 P1 P2 P3 (by decide) rfl (by decide) rfl
    exact ⟨s₂, o₂, go4 _ hs₂, hr₂⟩
  · skip
    obtain ⟨_, _, ⟨T5, L5, k5, n5⟩, -, X5, ⟨Lc5, hQ5, l5, y5, z5⟩, st5⟩ := Jvm.LawKit.callS X0 hx (y := (⟨"com/example/tracewright/tracewright/engine/expr/UnaryOpAcceptsPinLaw", "sourceKindIndex", "(I)I"⟩ : MethodName)) hown (mvT hZ (hw _ (List.mem_of_getElem? (i := 48) rfl))) (mvT hZ (hw _ (List.mem_of_getElem? (i := 49) rfl))) (mvT hZ (hw _ (List.mem_of_getElem? (i := 50) rfl))) (mvT hZ (hw _ (List.mem_of_getElem? (i := 51) rfl))) (by decide) (backOf (W := 0) (own_src15 l Z a0 hw []  h0 n0 Z0 ) hZ (hw _ (List.mem_of_getElem? (i := 51) rfl)) (hw _ (List.mem_of_getElem? (i := 50) rfl)) (by decide) (by decide)) (g := (mkF m 154 #[.val (.int xa), .val (.int xb), .val (.ref bo), .val (.ref bk), .val (.int (15 : Int32)), .val (.int (1 : Int32)), .unset, .unset] [(.int (15 : Int32))])) rfl (by rw [hml]; rfl) (argsL := [(.int (15 : Int32))]) (rest := []) (lenOf pd_6 rfl) rfl (by show 2 * 0 + _ ≤ _; exact Nat.le_of_eq rfl) (hb hby at_154) (fun _ _ => ⟨rfl, e0, (by decide : 2 + 0 ≤ _), (by decide : 20 + 0 ≤ _)⟩)
    dsimp only [Pt.U, Pt.locs, Pt.cells, Pt.slots] at X5 l5 y5 z5 st5 hQ5
    subst l5 y5 z5
    obtain ⟨rfl, Nq5, e5⟩ := hQ5
    have N5 := Fr.app N0 Nq5
    have go7 : ∀ t, Steps p.tables e below (T5.setTop (mkF m 178 #[.val (.int xa), .val (.int xb), .val (.ref bo), .val (.ref bk), .val (.int (15 : Int32)), .val (.int (1 : Int32)), .val (.int (0 : Int32)), .val (.int (0 : Int32))] [])) t → Steps p.tables e below st0 t := by
      intro t kt
      refine go0 t ?_
      refine XS.iload X0.here hx rfl (hb hby at_152) rfl ?_
      show Steps p.tables e below (T0.setTop (mkF m 154 #[.val (.int xa), .val (.int xb), .val (.ref bo), .val (.ref bk), .val (.int (15 : Int32)), .val (.int (1 : Int32)), .unset, .unset] [(.int (15 : Int32))])) _
      refine st5 _ ?_
      show Steps p.tables e below (T5.setTop (mkF m 157 #[.val (.int xa), .val (.int xb), .val (.ref bo), .val (.ref bk), .val (.int (15 : Int32)), .val (.int (1 : Int32)), .unset, .unset] [(.int (0 : Int32))])) _
      refine XS.istore X5.here hx rfl (hb hby at_157) rfl (l' := #[.val (.int xa), .val (.int xb), .val (.ref bo), .val (.ref bk), .val (.int (15 : Int32)), .val (.int (1 : Int32)), .val (.int (0 : Int32)), .unset]) rfl ?_
      show Steps p.tables e below (T5.setTop (mkF m 159 #[.val (.int xa), .val (.int xb), .val (.ref bo), .val (.ref bk), .val (.int (15 : Int32)), .val (.int (1 : Int32)), .val (.int (0 : Int32)), .unset] [])) _
      refine XS.iload X5.here hx rfl (hb hby at_159) rfl ?_
      show Steps p.tables e below (T5.setTop (mkF m 161 #[.val (.int xa), .val (.int xb), .val (.ref bo), .val (.ref bk), .val (.int (15 : Int32)), .val (.int (1 : Int32)), .val (.int (0 : Int32)), .unset] [(.int (0 : Int32))])) _
      refine XS.ifNo X5.here hx rfl (hb hby at_161) rfl ((if0 _ _).trans (flt (by decide : ¬ ((0 : Int32) < (0 : Int32)))).1) ?_
      show Steps p.tables e below (T5.setTop (mkF m 164 #[.val (.int xa), .val (.int xb), .val (.ref bo), .val (.ref bk), .val (.int (15 : Int32)), .val (.int (1 : Int32)), .val (.int (0 : Int32)), .unset] [])) _
      refine XS.iload X5.here hx rfl (hb hby at_164) rfl ?_
      show Steps p.tables e below (T5.setTop (mkF m 166 #[.val (.int xa), .val (.int xb), .val (.ref bo), .val (.ref bk), .val (.int (15 : Int32)), .val (.int (1 : Int32)), .val (.int (0 : Int32)), .unset] [(.int (0 : Int32))])) _
      refine XS.iload X5.here hx rfl (hb hby at_166) rfl ?_
      show Steps p.tables e below (T5.setTop (mkF m 168 #[.val (.int xa), .val (.int xb), .val (.ref bo), .val (.ref bk), .val (.int (15 : Int32)), .val (.int (1 : Int32)), .val (.int (0 : Int32)), .unset] [(.int (1 : Int32)), (.int (0 : Int32))])) _
      refine XS.icmpYes X5.here hx rfl (pc0 := 168) (pc' := 175) rfl (hb hby at_168) rfl (feq (by decide : ¬ ((0 : Int32) = (1 : Int32)))).2 (by decide) (by decide) ?_
      show Steps p.tables e below (T5.setTop (mkF m 175 #[.val (.int xa), .val (.int xb), .val (.ref bo), .val (.ref bk), .val (.int (15 : Int32)), .val (.int (1 : Int32)), .val (.int (0 : Int32)), .unset] [])) _
      refine XS.iconst X5.here hx rfl (hb hby at_175) ?_
      show Steps p.tables e below (T5.setTop (mkF m 176 #[.val (.int xa), .val (.int xb), .val (.ref bo), .val (.ref bk), .val (.int (15 : Int32)), .val (.int (1 : Int32)), .val (.int (0 : Int32)), .unset] [(.int (0 : Int32))])) _
      refine XS.istore X5.here hx rfl (hb hby at_176) rfl (l' := #[.val (.int xa), .val (.int xb), .val (.ref bo), .val (.ref bk), .val (.int (15 : Int32)), .val (.int (1 : Int32)), .val (.int (0 : Int32)), .val (.int (0 : Int32))]) rfl ?_
      show Steps p.tables e below (T5.setTop (mkF m 178 #[.val (.int xa), .val (.int xb), .val (.ref bo), .val (.ref bk), .val (.int (15 : Int32)), .val (.int (1 : Int32)), .val (.int (0 : Int32)), .val (.int (0 : Int32))] [])) _
      exact kt
    obtain ⟨s₂, o₂, hs₂, hr₂⟩ := own_tail2 xa xb bo bk (15 : Int32) (1 : Int32) (0 : Int32) ko kk [(.ref c0), (.ref c1), (.ref c2), (.ref c3), (.ref c4), (.ref c5), (.ref c6), (.ref c7), (.ref c8), (.ref c9), (.ref c10), (.ref c11), (.ref c12), (.ref c13), (.ref c14), (.ref c15)] [(.ref d0), (.ref d1), (.ref d2), (.ref d3)] c15 d1 d0 X5 hx hZ hw hby hml hown e5 N5 Z0 hret hlk P0 P1 P2 P3 (by decide) rfl (by decide) rfl P4
    exact ⟨s₂, o₂, go7 _ hs₂, hr₂⟩
  · skip
    obtain ⟨_, _, ⟨T8, L8, k8, n8⟩, -, X8, ⟨Lc8, hQ8, l8, y8, z8⟩, st8⟩ := Jvm.LawKit.callS X0 hx (y := (⟨"com/example/tracewright/tracewright/engine/expr/UnaryOpAcceptsPinLaw", "sourceKindIndex", "(I)I"⟩ : MethodName)) hown (mvT hZ (hw _ (List.mem_of_getElem? (i := 48) rfl))) (mvT hZ (hw _ (List.mem_of_getElem? (i := 49) rfl))) (mvT hZ (hw _ (List.mem_of_getElem? (i := 50) rfl))) (mvT hZ (hw _ (List.mem_of_getElem? (i := 51) rfl))) (by decide) (backOf (W := 0) (own_src15 l Z a0 hw []  h0 n0 Z0 ) hZ (hw _ (List.mem_of_getElem? (i := 51) rfl)) (hw _ (List.mem_of_getElem? (i := 50) rfl)) (by decide) (by decide)) (g := (mkF m 154 #[.val (.int xa), .val (.int xb), .val (.ref bo), .val (.ref bk), .val (.int (15 : Int32)), .val (.int (2 : Int32)), .unset, .unset] [(.int (15 : Int32))])) rfl (by rw [hml]; rfl) (argsL := [(.int (15 : Int32))]) (rest := []) (lenOf pd_6 rfl) rfl (by show 2 * 0 + _ ≤ _; exact Nat.le_of_eq rfl) (hb hby at_154) (fun _ _ => ⟨rfl, e0, (by decide : 2 + 0 ≤ _), (by decide : 20 + 0 ≤ _)⟩)
    dsimp only [Pt.U, Pt.locs, Pt.cells, Pt.slots] at X8 l8 y8 z8 st8 hQ8
    subst l8 y8 z8
    obtain ⟨rfl, Nq8, e8⟩ := hQ8
    have N8 := Fr.app N0 Nq8
    have go10 : ∀ t, Steps p.tables e below (T8.setTop (mkF m 178 #[.val (.int xa), .val (.int xb), .val (.ref bo), .val (.ref bk), .val (.int (15 : Int32)), .val (.int (2 : Int32)), .val (.int (0 : Int32)), .val (.int (0 : Int32))] [])) t → Steps p.tables e below st0 t := by
      intro t kt
      refine go0 t ?_
      refine XS.iload X0.here hx rfl (hb hby at_152) rfl ?_
      show Steps p.tables e below (T0.setTop (mkF m 154 #[.val (.int xa), .val (.int xb), .val (.ref bo), .val (.ref bk), .val (.int (15 : Int32)), .val (.int (2 : Int32)), .unset, .unset] [(.int (15 : Int32))])) _
      refine st8 _ ?_
      show Steps p.tables e below (T8.setTop (mkF m 157 #[.val (.int xa), .val (.int xb), .val (.ref bo), .val (.ref bk), .val (.int (15 : Int32)), .val (.int (2 : Int32)), .unset, .unset] [(.int (0 : Int32))])) _
      refine XS.istore X8.here hx rfl (hb hby at_157) rfl (l' := #[.val (.int xa), .val (.int xb), .val (.ref bo), .val (.ref bk), .val (.int (15 : Int32)), .val (.int (2 : Int32)), .val (.int (0 : Int32)), .unset]) rfl ?_
      show Steps p.tables e below (T8.setTop (mkF m 159 #[.val (.int xa), .val (.int xb), .val (.ref bo), .val (.ref bk), .val (.int (15 : Int32)), .val (.int (2 : Int32)), .val (.int (0 : Int32)), .unset] [])) _
      refine XS.iload X8.here hx rfl (hb hby at_159) rfl ?_
      show Steps p.tables e below (T8.setTop (mkF m 161 #[.val (.int xa), .val (.int xb), .val (.ref bo), .val (.ref bk), .val (.int (15 : Int32)), .val (.int (2 : Int32)), .val (.int (0 : Int32)), .unset] [(.int (0 : Int32))])) _
      refine XS.ifNo X8.here hx rfl (hb hby at_161) rfl ((if0 _ _).trans (flt (by decide : ¬ ((0 : Int32) < (0 : Int32)))).1) ?_
      show Steps p.tables e below (T8.setTop (mkF m 164 #[.val (.int xa), .val (.int xb), .val (.ref bo), .val (.ref bk), .val (.int (15 : Int32)), .val (.int (2 : Int32)), .val (.int (0 : Int32)), .unset] [])) _
      refine XS.iload X8.here hx rfl (hb hby at_164) rfl ?_
      show Steps p.tables e below (T8.setTop (mkF m 166 #[.val (.int xa), .val (.int xb), .val (.ref bo), .val (.ref bk), .val (.int (15 : Int32)), .val (.int (2 : Int32)), .val (.int (0 : Int32)), .unset] [(.int (0 : Int32))])) _
      refine XS.iload X8.here hx rfl (hb hby at_166) rfl ?_
      show Steps p.tables e below (T8.setTop (mkF m 168 #[.val (.int xa), .val (.int xb), .val (.ref bo), .val (.ref bk), .val (.int (15 : Int32)), .val (.int (2 : Int32)), .val (.int (0 : Int32)), .unset] [(.int (2 : Int32)), (.int (0 : Int32))])) _
      refine XS.icmpYes X8.here hx rfl (pc0 := 168) (pc' := 175) rfl (hb hby at_168) rfl (feq (by decide : ¬ ((0 : Int32) = (2 : Int32)))).2 (by decide) (by decide) ?_
      show Steps p.tables e below (T8.setTop (mkF m 175 #[.val (.int xa), .val (.int xb), .val (.ref bo), .val (.ref bk), .val (.int (15 : Int32)), .val (.int (2 : Int32)), .val (.int (0 : Int32)), .unset] [])) _
      refine XS.iconst X8.here hx rfl (hb hby at_175) ?_
      show Steps p.tables e below (T8.setTop (mkF m 176 #[.val (.int xa), .val (.int xb), .val (.ref bo), .val (.ref bk), .val (.int (15 : Int32)), .val (.int (2 : Int32)), .val (.int (0 : Int32)), .unset] [(.int (0 : Int32))])) _
      refine XS.istore X8.here hx rfl (hb hby at_176) rfl (l' := #[.val (.int xa), .val (.int xb), .val (.ref bo), .val (.ref bk), .val (.int (15 : Int32)), .val (.int (2 : Int32)), .val (.int (0 : Int32)), .val (.int (0 : Int32))]) rfl ?_
      show Steps p.tables e below (T8.setTop (mkF m 178 #[.val (.int xa), .val (.int xb), .val (.ref bo), .val (.ref bk), .val (.int (15 : Int32)), .val (.int (2 : Int32)), .val (.int (0 : Int32)), .val (.int (0 : Int32))] [])) _
      exact kt
    obtain ⟨s₂, o₂, hs₂, hr₂⟩ := own_tail2 xa xb bo bk (15 : Int32) (2 : Int32) (0 : Int32) ko kk [(.ref c0), (.ref c1), (.ref c2), (.ref c3), (.ref c4), (.ref c5), (.ref c6), (.ref c7), (.ref c8), (.ref c9), (.ref c10), (.ref c11), (.ref c12), (.ref c13), (.ref c14), (.ref c15)] [(.ref d0), (.ref d1), (.ref d2), (.ref d3)] c15 d2 d0 X8 hx hZ hw hby hml hown e8 N8 Z0 hret hlk P0 P1 P2 P3 (by decide) rfl (by decide) rfl P5
    exact ⟨s₂, o₂, go10 _ hs₂, hr₂⟩
  · skip
    obtain ⟨_, _, ⟨T11, L11, k11, n11⟩, -, X11, ⟨Lc11, hQ11, l11, y11, z11⟩, st11⟩ := Jvm.LawKit.callS X0 hx (y := (⟨"com/example/tracewright/tracewright/engine/expr/UnaryOpAcceptsPinLaw", "sourceKindIndex", "(I)I"⟩ : MethodName)) hown (mvT hZ (hw _ (List.mem_of_getElem? (i := 48) rfl))) (mvT hZ (hw _ (List.mem_of_getElem? (i := 49) rfl))) (mvT hZ (hw _ (List.mem_of_getElem? (i := 50) rfl))) (mvT hZ (hw _ (List.mem_of_getElem? (i := 51) rfl))) (by decide) (backOf (W := 0) (own_src15 l Z a0 hw []  h0 n0 Z0 ) hZ (hw _ (List.mem_of_getElem? (i := 51) rfl)) (hw _ (List.mem_of_getElem? (i := 50) rfl)) (by decide) (by decide)) (g := (mkF m 154 #[.val (.int xa), .val (.int xb), .val (.ref bo), .val (.ref bk), .val (.int (15 : Int32)), .val (.int (3 : Int32)), .unset, .unset] [(.int (15 : Int32))])) rfl (by rw [hml]; rfl) (argsL := [(.int (15 : Int32))]) (rest := []) (lenOf pd_6 rfl) rfl (by show 2 * 0 + _ ≤ _; exact Nat.le_of_eq rfl) (hb hby at_154) (fun _ _ => ⟨rfl, e0, (by decide : 2 + 0 ≤ _), (by decide : 20 + 0 ≤ _)⟩)
    dsimp only [Pt.U, Pt.locs, Pt.cells, Pt.slots] at X11 l11 y11 z11 st11 hQ11
    subst l11 y11 z11
    obtain ⟨rfl, Nq11, e11⟩ := hQ11
    have N11 := Fr.app N0 Nq11
    have go13 : ∀ t, Steps p.tables e below (T11.setTop (mkF m 178 #[.val (.int xa), .val (.int xb), .val (.ref bo), .val (.ref bk), .val (.int (15 : Int32)), .val (.int (3 : Int32)), .val (.int (0 : Int32)), .val (.int (0 : Int32))] [])) t → Steps p.tables e below st0 t := by
      intro t kt
      refine go0 t ?_
      refine XS.iload X0.here hx rfl (hb hby at_152) rfl ?_
      show Steps p.tables e below (T0.setTop (mkF m 154 #[.val (.int xa), .val (.int xb), .val (.ref bo), .val (.ref bk), .val (.int (15 : Int32)), .val (.int (3 : Int32)), .unset, .unset] [(.int (15 : Int32))])) _
      refine st11 _ ?_
      show Steps p.tables e below (T11.setTop (mkF m 157 #[.val (.int xa), .val (.int xb), .val (.ref bo), .val (.ref bk), .val (.int (15 : Int32)), .val (.int (3 : Int32)), .unset, .unset] [(.int (0 : Int32))])) _
      refine XS.istore X11.here hx rfl (hb hby at_157) rfl (l' := #[.val (.int xa), .val (.int xb), .val (.ref bo), .val (.ref bk), .val (.int (15 : Int32)), .val (.int (3 : Int32)), .val (.int (0 : Int32)), .unset]) rfl ?_
      show Steps p.tables e below (T11.setTop (mkF m 159 #[.val (.int xa), .val (.int xb), .val (.ref bo), .val (.ref bk), .val (.int (15 : Int32)), .val (.int (3 : Int32)), .val (.int (0 : Int32)), .unset] [])) _
      refine XS.iload X11.here hx rfl (hb hby at_159) rfl ?_
      show Steps p.tables e below (T11.setTop (mkF m 161 #[.val (.int xa), .val (.int xb), .val (.ref bo), .val (.ref bk), .val (.int (15 : Int32)), .val (.int (3 : Int32)), .val (.int (0 : Int32)), .unset] [(.int (0 : Int32))])) _
      refine XS.ifNo X11.here hx rfl (hb hby at_161) rfl ((if0 _ _).trans (flt (by decide : ¬ ((0 : Int32) < (0 : Int32)))).1) ?_
      show Steps p.tables e below (T11.setTop (mkF m 164 #[.val (.int xa), .val (.int xb), .val (.ref bo), .val (.ref bk), .val (.int (15 : Int32)), .val (.int (3 : Int32)), .val (.int (0 : Int32)), .unset] [])) _
      refine XS.iload X11.here hx rfl (hb hby at_164) rfl ?_
      show Steps p.tables e below (T11.setTop (mkF m 166 #[.val (.int xa), .val (.int xb), .val (.ref bo), .val (.ref bk), .val (.int (15 : Int32)), .val (.int (3 : Int32)), .val (.int (0 : Int32)), .unset] [(.int (0 : Int32))])) _
      refine XS.iload X11.here hx rfl (hb hby at_166) rfl ?_
      show Steps p.tables e below (T11.setTop (mkF m 168 #[.val (.int xa), .val (.int xb), .val (.ref bo), .val (.ref bk), .val (.int (15 : Int32)), .val (.int (3 : Int32)), .val (.int (0 : Int32)), .unset] [(.int (3 : Int32)), (.int (0 : Int32))])) _
      refine XS.icmpYes X11.here hx rfl (pc0 := 168) (pc' := 175) rfl (hb hby at_168) rfl (feq (by decide : ¬ ((0 : Int32) = (3 : Int32)))).2 (by decide) (by decide) ?_
      show Steps p.tables e below (T11.setTop (mkF m 175 #[.val (.int xa), .val (.int xb), .val (.ref bo), .val (.ref bk), .val (.int (15 : Int32)), .val (.int (3 : Int32)), .val (.int (0 : Int32)), .unset] [])) _
      refine XS.iconst X11.here hx rfl (hb hby at_175) ?_
      show Steps p.tables e below (T11.setTop (mkF m 176 #[.val (.int xa), .val (.int xb), .val (.ref bo), .val (.ref bk), .val (.int (15 : Int32)), .val (.int (3 : Int32)), .val (.int (0 : Int32)), .unset] [(.int (0 : Int32))])) _
      refine XS.istore X11.here hx rfl (hb hby at_176) rfl (l' := #[.val (.int xa), .val (.int xb), .val (.ref bo), .val (.ref bk), .val (.int (15 : Int32)), .val (.int (3 : Int32)), .val (.int (0 : Int32)), .val (.int (0 : Int32))]) rfl ?_
      show Steps p.tables e below (T11.setTop (mkF m 178 #[.val (.int xa), .val (.int xb), .val (.ref bo), .val (.ref bk), .val (.int (15 : Int32)), .val (.int (3 : Int32)), .val (.int (0 : Int32)), .val (.int (0 : Int32))] [])) _
      exact kt
    obtain ⟨s₂, o₂, hs₂, hr₂⟩ := own_tail2 xa xb bo bk (15 : Int32) (3 : Int32) (0 : Int32) ko kk [(.ref c0), (.ref c1), (.ref c2), (.ref c3), (.ref c4), (.ref c5), (.ref c6), (.ref c7), (.ref c8), (.ref c9), (.ref c10), (.ref c11), (.ref c12), (.ref c13), (.ref c14), (.ref c15)] [(.ref d0), (.ref d1), (.ref d2), (.ref d3)] c15 d3 d0 X11 hx hZ hw hby hml hown e11 N11 Z0 hret hlk P0 P1 P2 P3 (by decide) rfl (by decide) rfl P6
    exact ⟨s₂, o₂, go13 _ hs₂, hr₂⟩
theorem ef_own_law (m : MethodId) (pi0 : Int32) (pi1 : Int32) : entryFrame m #[(.int pi0), (.int pi1)] maxLocals = mkF m 0 #[.val (.int pi0), .val (.int pi1), .unset, .unset, .unset, .unset, .unset, .unset] [] := by first | (simp [entryFrame, mkF, argsToLocals, Value.category, maxLocals]; done) | rfl
def Q_own_law (Z : State) (pi0 : Int32) (pi1 : Int32) (c0 : Addr) (c1 : Addr) (c2 : Addr) (c3 : Addr) (c4 : Addr) (c5 : Addr) (c6 : Addr) (c7 : Addr) (c8 : Addr) (c9 : Addr) (c10 : Addr) (c11 : Addr) (c12 : Addr) (c13 : Addr) (c14 : Addr) (c15 : Addr) (d0 : Addr) (d1 : Addr) (d2 : Addr) (d3 : Addr) (h0 : Heap) (n0 : Nat) (v : Option Value) (h : Heap) (L : List Loc) : Prop := v = some (.int (1 : Int32)) ∧ Fr n0 L
set_option maxRecDepth 65536 in
set_option maxHeartbeats 40000000 in
theorem own_law (l : Launch) (Z : State) (a0 : Array Value) (hw : ∀ d ∈ tables_1, d.before a0 Z = true) (ws : List Jvm.Cond) (pi0 : Int32) (pi1 : Int32) (c0 : Addr) (c1 : Addr) (c2 : Addr) (c3 : Addr) (c4 : Addr) (c5 : Addr) (c6 : Addr) (c7 : Addr) (c8 : Addr) (c9 : Addr) (c10 : Addr) (c11 : Addr) (c12 : Addr) (c13 : Addr) (c14 : Addr) (c15 : Addr) (d0 : Addr) (d1 : Addr) (d2 : Addr) (d3 : Addr) (h0 : Heap) (n0 : Nat) (Z0 : n0 ≤ h0.size) (P0 : Sta Z h0 "com/example/tracewright/tracewright/engine/expr/UnaryOp" "NEG" "Lcom/example/tracewright/tracewright/engine/expr/UnaryOp;" (.ref c0)) (P1 : Sta Z h0 "com/example/tracewright/tracewright/engine/expr/UnaryOp" "I2L" "Lcom/example/tracewright/tracewright/engine/expr/UnaryOp;" (.ref c1)) (P2 : Sta Z h0 "com/example/tracewright/tracewright/engine/expr/UnaryOp" "I2F" "Lcom/example/tracewright/tracewright/engine/expr/UnaryOp;" (.ref c2)) (P3 : Sta Z h0 "com/example/tracewright/tracewright/engine/expr/UnaryOp" "I2D" "Lcom/example/tracewright/tracewright/engine/expr/UnaryOp;" (.ref c3)) (P4 : Sta Z h0 "com/example/tracewright/tracewright/engine/expr/UnaryOp" "L2I" "Lcom/example/tracewright/tracewright/engine/expr/UnaryOp;" (.ref c4)) (P5 : Sta Z h0 "com/example/tracewright/tracewright/engine/expr/UnaryOp" "L2F" "Lcom/example/tracewright/tracewright/engine/expr/UnaryOp;" (.ref c5)) (P6 : Sta Z h0 "com/example/tracewright/tracewright/engine/expr/UnaryOp" "L2D" "Lcom/example/tracewright/tracewright/engine/expr/UnaryOp;" (.ref c6)) (P7 : Sta Z h0 "com/example/tracewright/tracewright/engine/expr/UnaryOp" "F2I" "Lcom/example/tracewright/tracewright/engine/expr/UnaryOp;" (.ref c7)) (P8 : Sta Z h0 "com/example/tracewright/tracewright/engine/expr/UnaryOp" "F2L" "Lcom/example/tracewright/tracewright/engine/expr/UnaryOp;" (.ref c8)) (P9 : Sta Z h0 "com/example/tracewright/tracewright/engine/expr/UnaryOp" "F2D" "Lcom/example/tracewright/tracewright/engine/expr/UnaryOp;" (.ref c9)) (P10 : Sta Z h0 "com/example/tracewright/tracewright/engine/expr/UnaryOp" "D2I" "Lcom/example/tracewright/tracewright/engine/expr/UnaryOp;" (.ref c10)) (P11 : Sta Z h0 "com/example/tracewright/tracewright/engine/expr/UnaryOp" "D2L" "Lcom/example/tracewright/tracewright/engine/expr/UnaryOp;" (.ref c11)) (P12 : Sta Z h0 "com/example/tracewright/tracewright/engine/expr/UnaryOp" "D2F" "Lcom/example/tracewright/tracewright/engine/expr/UnaryOp;" (.ref c12)) (P13 : Sta Z h0 "com/example/tracewright/tracewright/engine/expr/UnaryOp" "I2B" "Lcom/example/tracewright/tracewright/engine/expr/UnaryOp;" (.ref c13)) (P14 : Sta Z h0 "com/example/tracewright/tracewright/engine/expr/UnaryOp" "I2C" "Lcom/example/tracewright/tracewright/engine/expr/UnaryOp;" (.ref c14)) (P15 : Sta Z h0 "com/example/tracewright/tracewright/engine/expr/UnaryOp" "I2S" "Lcom/example/tracewright/tracewright/engine/expr/UnaryOp;" (.ref c15)) (P16 : Sta Z h0 "com/example/tracewright/tracewright/engine/expr/Kind" "INT" "Lcom/example/tracewright/tracewright/engine/expr/Kind;" (.ref d0)) (P17 : Sta Z h0 "com/example/tracewright/tracewright/engine/expr/Kind" "LONG" "Lcom/example/tracewright/tracewright/engine/expr/Kind;" (.ref d1)) (P18 : Sta Z h0 "com/example/tracewright/tracewright/engine/expr/Kind" "FLOAT" "Lcom/example/tracewright/tracewright/engine/expr/Kind;" (.ref d2)) (P19 : Sta Z h0 "com/example/tracewright/tracewright/engine/expr/Kind" "DOUBLE" "Lcom/example/tracewright/tracewright/engine/expr/Kind;" (.ref d3)) (P20 : Exa Z h0 c0 "com/example/tracewright/tracewright/engine/expr/UnaryOp") (P21 : Fld Z h0 c0 "com/example/tracewright/tracewright/engine/expr/UnaryOp" "from" "Lcom/example/tracewright/tracewright/engine/expr/Kind;" .null) (P22 : Exa Z h0 c1 "com/example/tracewright/tracewright/engine/expr/UnaryOp") (P23 : Fld Z h0 c1 "com/example/tracewright/tracewright/engine/expr/UnaryOp" "from" "Lcom/example/tracewright/tracewright/engine/expr/Kind;" (.ref d0)) (P24 : Exa Z h0 c2 "com/example/tracewright/tracewright/engine/expr/UnaryOp") (P25 : Fld Z h0 c2 "com/example/tracewright/tracewright/engine/expr/UnaryOp" "from" "Lcom/example/tracewright/tracewright/engine/expr/Kind;" (.ref d0)) (P26 : Exa Z h0 c3 "com/example/tracewright/tracewright/engine/expr/UnaryOp") (P27 : Fld Z h0 c3 "com/example/tracewright/tracewright/engine/expr/UnaryOp" "from" "Lcom/example/tracewright/tracewright/engine/expr/Kind;" (.ref d0)) (P28 : Exa Z h0 c4 "com/example/tracewright/tracewright/engine/expr/UnaryOp") (P29 : Fld Z h0 c4 "com/example/tracewright/tracewright/engine/expr/UnaryOp" "from" "Lcom/example/tracewright/tracewright/engine/expr/Kind;" (.ref d1)) (P30 : Exa Z h0 c5 "com/example/tracewright/tracewright/engine/expr/UnaryOp") (P31 : Fld Z h0 c5 "com/example/tracewright/tracewright/engine/expr/UnaryOp" "from" "Lcom/example/tracewright/tracewright/engine/expr/Kind;" (.ref d1)) (P32 : Exa Z h0 c6 "com/example/tracewright/tracewright/engine/expr/UnaryOp") (P33 : Fld Z h0 c6 "com/example/tracewright/tracewright/engine/expr/UnaryOp" "from" "Lcom/example/tracewright/tracewright/engine/expr/Kind;" (.ref d1)) (P34 : Exa Z h0 c7 "com/example/tracewright/tracewright/engine/expr/UnaryOp") (P35 : Fld Z h0 c7 "com/example/tracewright/tracewright/engine/expr/UnaryOp" "from" "Lcom/example/tracewright/tracewright/engine/expr/Kind;" (.ref d2)) (P36 : Exa Z h0 c8 "com/example/tracewright/tracewright/engine/expr/UnaryOp") (P37 : Fld Z h0 c8 "com/example/tracewright/tracewright/engine/expr/UnaryOp" "from" "Lcom/example/tracewright/tracewright/engine/expr/Kind;" (.ref d2)) (P38 : Exa Z h0 c9 "com/example/tracewright/tracewright/engine/expr/UnaryOp") (P39 : Fld Z h0 c9 "com/example/tracewright/tracewright/engine/expr/UnaryOp" "from" "Lcom/example/tracewright/tracewright/engine/expr/Kind;" (.ref d2)) (P40 : Exa Z h0 c10 "com/example/tracewright/tracewright/engine/expr/UnaryOp") (P41 : Fld Z h0 c10 "com/example/tracewright/tracewright/engine/expr/UnaryOp" "from" "Lcom/example/tracewright/tracewright/engine/expr/Kind;" (.ref d3)) (P42 : Exa Z h0 c11 "com/example/tracewright/tracewright/engine/expr/UnaryOp") (P43 : Fld Z h0 c11 "com/example/tracewright/tracewright/engine/expr/UnaryOp" "from" "Lcom/example/tracewright/tracewright/engine/expr/Kind;" (.ref d3)) (P44 : Exa Z h0 c12 "com/example/tracewright/tracewright/engine/expr/UnaryOp") (P45 : Fld Z h0 c12 "com/example/tracewright/tracewright/engine/expr/UnaryOp" "from" "Lcom/example/tracewright/tracewright/engine/expr/Kind;" (.ref d3)) (P46 : Exa Z h0 c13 "com/example/tracewright/tracewright/engine/expr/UnaryOp") (P47 : Fld Z h0 c13 "com/example/tracewright/tracewright/engine/expr/UnaryOp" "from" "Lcom/example/tracewright/tracewright/engine/expr/Kind;" (.ref d0)) (P48 : Exa Z h0 c14 "com/example/tracewright/tracewright/engine/expr/UnaryOp") (P49 : Fld Z h0 c14 "com/example/tracewright/tracewright/engine/expr/UnaryOp" "from" "Lcom/example/tracewright/tracewright/engine/expr/Kind;" (.ref d0)) (P50 : Exa Z h0 c15 "com/example/tracewright/tracewright/engine/expr/UnaryOp") (P51 : Fld Z h0 c15 "com/example/tracewright/tracewright/engine/expr/UnaryOp" "from" "Lcom/example/tracewright/tracewright/engine/expr/Kind;" (.ref d0)) (P52 : Exa Z h0 d0 "com/example/tracewright/tracewright/engine/expr/Kind") (P53 : Exa Z h0 d1 "com/example/tracewright/tracewright/engine/expr/Kind") (P54 : Exa Z h0 d2 "com/example/tracewright/tracewright/engine/expr/Kind") (P55 : Exa Z h0 d3 "com/example/tracewright/tracewright/engine/expr/Kind") (P56 : d0 ≠ d1) (P57 : d0 ≠ d2) (P58 : d0 ≠ d3) (P59 : d1 ≠ d2) (P60 : d1 ≠ d3) (P61 : d2 ≠ d3) :
    MetFree l x (head1 (Jvm.Cond.code x code maxLocals ret :: ws) room_1) (fun a U => a = #[(.int pi0), (.int pi1)] ∧ Z.Warmed39 U.vm ∧ U.heap = h0) (fun _ _ _ _ _ => True) (fun _ U o U' => ∃ v L, o = .returned v ∧ Q_own_law Z pi0 pi1 c0 c1 c2 c3 c4 c5 c6 c7 c8 c9 c10 c11 c12 c13 c14 c15 d0 d1 d2 d3 h0 n0 v U'.heap L ∧ FrameEnd U o U' L room_1.cells room_1.slots) := by
  refine MetFree.of_bodySF (plainFor_of_name pn_1) hisR ?_
  intro p e s m args below meth c s₁ Bd hml0 hP hK
  obtain ⟨rfl, hZ, hh⟩ := hP
  have hx := Bd.exec
  have hby := Bd.bytes
  have hml : c.maxLocals = 8 := hml0
  have hown : s.vm.findClass "com/example/tracewright/tracewright/engine/expr/UnaryOpAcceptsPinLaw" = some m.cls := findClass_of_methodNamed Bd.named
  have hnm := (name_of_methodNamed Bd.named Bd.method).1
  have X0 : Stand p l e room_1 s m #[(.int pi0), (.int pi1)] below meth c s₁ [] 0 0 := Stand.of_body Bd
  have e0 : s₁.heap = h0 := by rw [← hh, Bd.state]; rfl
  have N0 := Fr.nil n0
  have go0 : ∀ t, Steps p.tables e below (s₁.setTop (mkF m 0 #[.val (.int pi0), .val (.int pi1), .unset, .unset, .unset, .unset, .unset, .unset] [])) t → Steps p.tables e below (s₁.setTop (entryFrame m #[(.int pi0), (.int pi1)] maxLocals)) t := fun t k => castTop (ef_own_law m pi0 pi1) k
  revert go0
  generalize s₁.setTop (entryFrame m #[(.int pi0), (.int pi1)] maxLocals) = st0
  intro go0
  obtain ⟨T1, h1, k1, X1, e1, E1, A1, O1, st1⟩ := newR X0 hx hZ hown (hw _ (List.mem_of_getElem? (i := 0) rfl)) (hw _ (List.mem_of_getElem? (i := 1) rfl)) e0 (g := (mkF m 2 #[.val (.int pi0), .val (.int pi1), .unset, .unset, .unset, .unset, .unset, .unset] [(.int (16 : Int32))])) rfl (hb hby at_2) rfl (by decide) (cap := 16) (by decide) (by decide) (by decide) (by decide)
  obtain ⟨b1, g1⟩ : ∃ zsz, zsz = h0.size := ⟨_, rfl⟩
  rw [← g1] at A1 st1
  have ne1_c5 : c5 ≠ b1 := Nat.ne_of_lt (Nat.lt_of_lt_of_eq P30.lt g1.symm)
  have ne1_c10 : c10 ≠ b1 := Nat.ne_of_lt (Nat.lt_of_lt_of_eq P40.lt g1.symm)
  have ne1_c14 : c14 ≠ b1 := Nat.ne_of_lt (Nat.lt_of_lt_of_eq P48.lt g1.symm)
  have ne1_d3 : d3 ≠ b1 := Nat.ne_of_lt (Nat.lt_of_lt_of_eq P55.lt g1.symm)
  have ne1_d1 : d1 ≠ b1 := Nat.ne_of_lt (Nat.lt_of_lt_of_eq P53.lt g1.symm)
  have ne1_c3 : c3 ≠ b1 := Nat.ne_of_lt (Nat.lt_of_lt_of_eq P26.lt g1.symm)
  have ne1_c9 : c9 ≠ b1 := Nat.ne_of_lt (Nat.lt_of_lt_of_eq P38.lt g1.symm)
  have ne1_c15 : c15 ≠ b1 := Nat.ne_of_lt (Nat.lt_of_lt_of_eq P50.lt g1.symm)
  have ne1_c1 : c1 ≠ b1 := Nat.ne_of_lt (Nat.lt_of_lt_of_eq P22.lt g1.symm)
  have ne1_c13 : c13 ≠ b1 := Nat.ne_of_lt (Nat.lt_of_lt_of_eq P46.lt g1.symm)
  have ne1_c4 : c4 ≠ b1 := Nat.ne_of_lt (Nat.lt_of_lt_of_eq P28.lt g1.symm)
  have ne1_c6 : c6 ≠ b1 := Nat.ne_of_lt (Nat.lt_of_lt_of_eq P32.lt g1.symm)
  have ne1_d2 : d2 ≠ b1 := Nat.ne_of_lt (Nat.lt_of_lt_of_eq P54.lt g1.symm)
  have ne1_c0 : c0 ≠ b1 := Nat.ne_of_lt (Nat.lt_of_lt_of_eq P20.lt g1.symm)
  have ne1_c8 : c8 ≠ b1 := Nat.ne_of_lt (Nat.lt_of_lt_of_eq P36.lt g1.symm)
  have ne1_c2 : c2 ≠ b1 := Nat.ne_of_lt (Nat.lt_of_lt_of_eq P24.lt g1.symm)
  have ne1_c11 : c11 ≠ b1 := Nat.ne_of_lt (Nat.lt_of_lt_of_eq P42.lt g1.symm)
  have ne1_d0 : d0 ≠ b1 := Nat.ne_of_lt (Nat.lt_of_lt_of_eq P52.lt g1.symm)
  have ne1_c12 : c12 ≠ b1 := Nat.ne_of_lt (Nat.lt_of_lt_of_eq P44.lt g1.symm)
  have ne1_c7 : c7 ≠ b1 := Nat.ne_of_lt (Nat.lt_of_lt_of_eq P34.lt g1.symm)
  have ge1 : n0 ≤ b1 := Nat.le_trans Z0 (Nat.le_of_eq g1.symm)
  have Z1 : n0 ≤ h1.size := Nat.le_trans Z0 E1.1
  have V1 : Arv Z h1 b1 k1 (.object "com/example/tracewright/tracewright/engine/expr/UnaryOp") (16 : Int32) [.null, .null, .null, .null, .null, .null, .null, .null, .null, .null, .null, .null, .null, .null, .null, .null] .null := (Arv.new A1 (by decide)).pad (pad_rep [] .null 16)
  have f2 : Sta Z h1 "com/example/tracewright/tracewright/engine/expr/UnaryOp" "NEG" "Lcom/example/tracewright/tracewright/engine/expr/UnaryOp;" (.ref c0) := (P0.ext E1)
  obtain ⟨T3, X3, e3, st3⟩ := getS2 X1 hx hZ hown (host := "") (Or.inl (hw _ (List.mem_of_getElem? (i := 2) rfl))) Via.refl e1 f2 (g := (mkF m 7 #[.val (.int pi0), .val (.int pi1), .unset, .unset, .unset, .unset, .unset, .unset] [(.int (0 : Int32)), (.ref b1), (.ref b1)])) rfl (hb hby at_7)
  obtain ⟨cl4, Ar4, q4, S4, N4, H4, G4⟩ := id V1
  have hin4 : ¬ ((0 : Int32) < 0 ∨ cl4.slots.size ≤ ((0 : Int32)).toNatClampNeg) := inb_of S4 ⟨by decide, by decide⟩
  have f6 : Exa Z h1 c0 "com/example/tracewright/tracewright/engine/expr/UnaryOp" := (P20.ext E1)
  obtain ⟨T5, h5, X5, e5, W5, st5⟩ := stR X3 hx hZ e3 Ar4 (j := (0 : Int32)) hin4 rfl (Sto.ofV Ar4 q4 O1 (Ins.self f6)) (g := (mkF m 10 #[.val (.int pi0), .val (.int pi1), .unset, .unset, .unset, .unset, .unset, .unset] [(.ref c0), (.int (0 : Int32)), (.ref b1), (.ref b1)])) rfl rfl (hb hby at_10)
  have N5 := Fr.snoc X5 N0 ge1
  have Z5 : n0 ≤ h5.size := Nat.le_trans Z1 (Keep.of_wr W5).1
  have V5 : Arv Z h5 b1 k1 (.object "com/example/tracewright/tracewright/engine/expr/UnaryOp") (16 : Int32) [(.ref c0), .null, .null, .null, .null, .null, .null, .null, .null, .null, .null, .null, .null, .null, .null, .null] .null := Arv.set Ar4 q4 S4 N4 H4 G4 rfl W5 0 rfl (Nat.le_of_ble_eq_true rfl)
  have f7 : Sta Z h5 "com/example/tracewright/tracewright/engine/expr/UnaryOp" "I2L" "Lcom/example/tracewright/tracewright/engine/expr/UnaryOp;" (.ref c1) := ((P1.ext E1).wr W5)
  obtain ⟨T8, X8, e8, st8⟩ := getS2 X5 hx hZ hown (host := "") (Or.inl (hw _ (List.mem_of_getElem? (i := 6) rfl))) Via.refl e5 f7 (g := (mkF m 13 #[.val (.int pi0), .val (.int pi1), .unset, .unset, .unset, .unset, .unset, .unset] [(.int (1 : Int32)), (.ref b1), (.ref b1)])) rfl (hb hby at_13)
  obtain ⟨cl9, Ar9, q9, S9, N9, H9, G9⟩ := id V5
  have hin9 : ¬ ((1 : Int32) < 0 ∨ cl9.slots.size ≤ ((1 : Int32)).toNatClampNeg) := inb_of S9 ⟨by decide, by decide⟩
  have f11 : Exa Z h5 c1 "com/example/tracewright/tracewright/engine/expr/UnaryOp" := ((P22.ext E1).wr W5)
  obtain ⟨T10, h10, X10, e10, W10, st10⟩ := stR X8 hx hZ e8 Ar9 (j := (1 : Int32)) hin9 rfl (Sto.ofV Ar9 q9 O1 (Ins.self f11)) (g := (mkF m 16 #[.val (.int pi0), .val (.int pi1), .unset, .unset, .unset, .unset, .unset, .unset] [(.ref c1), (.int (1 : Int32)), (.ref b1), (.ref b1)])) rfl rfl (hb hby at_16)
  have N10 := Fr.snoc X10 N5 ge1
  have Z10 : n0 ≤ h10.size := Nat.le_trans Z5 (Keep.of_wr W10).1
  have V10 : Arv Z h10 b1 k1 (.object "com/example/tracewright/tracewright/engine/expr/UnaryOp") (16 : Int32) [(.ref c0), (.ref c1), .null, .null, .null, .null, .null, .null, .null, .null, .null, .null, .null, .null, .null, .null] .null := Arv.set Ar9 q9 S9 N9 H9 G9 rfl W10 1 rfl (Nat.le_of_ble_eq_true rfl)
  have f12 : Sta Z h10 "com/example/tracewright/tracewright/engine/expr/UnaryOp" "I2F" "Lcom/example/tracewright/tracewright/engine/expr/UnaryOp;" (.ref c2) := (((P2.ext E1).wr W5).wr W10)
  obtain ⟨T13, X13, e13, st13⟩ := getS2 X10 hx hZ hown (host := "") (Or.inl (hw _ (List.mem_of_getElem? (i := 8) rfl))) Via.refl e10 f12 (g := (mkF m 19 #[.val (.int pi0), .val (.int pi1), .unset, .unset, .unset, .unset, .unset, .unset] [(.int (2 : Int32)), (.ref b1), (.ref b1)])) rfl (hb hby at_19)
  obtain ⟨cl14, Ar14, q14, S14, N14, H14, G14⟩ := id V10
  have hin14 : ¬ ((2 : Int32) < 0 ∨ cl14.slots.size ≤ ((2 : Int32)).toNatClampNeg) := inb_of S14 ⟨by decide, by decide⟩
  have f16 : Exa Z h10 c2 "com/example/tracewright/tracewright/engine/expr/UnaryOp" := (((P24.ext E1).wr W5).wr W10)
  obtain ⟨T15, h15, X15, e15, W15, st15⟩ := stR X13 hx hZ e13 Ar14 (j := (2 : Int32)) hin14 rfl (Sto.ofV Ar14 q14 O1 (Ins.self f16)) (g := (mkF m 22 #[.val (.int pi0), .val (.int pi1), .unset, .unset, .unset, .unset, .unset, .unset] [(.ref c2), (.int (2 : Int32)), (.ref b1), (.ref b1)])) rfl rfl (hb hby at_22)
  have N15 := Fr.snoc X15 N10 ge1
  have Z15 : n0 ≤ h15.size := Nat.le_trans Z10 (Keep.of_wr W15).1
  have V15 : Arv Z h15 b1 k1 (.object "com/example/tracewright/tracewright/engine/expr/UnaryOp") (16 : Int32) [(.ref c0), (.ref c1), (.ref c2), .null, .null, .null, .null, .null, .null, .null, .null, .null, .null, .null, .null, .null] .null := Arv.set Ar14 q14 S14 N14 H14 G14 rfl W15 2 rfl (Nat.le_of_ble_eq_true rfl)
  have f17 : Sta Z h15 "com/example/tracewright/tracewright/engine/expr/UnaryOp" "I2D" "Lcom/example/tracewright/tracewright/engine/expr/UnaryOp;" (.ref c3) := ((((P3.ext E1).wr W5).wr W10).wr W15)
  obtain ⟨T18, X18, e18, st18⟩ := getS2 X15 hx hZ hown (host := "") (Or.inl (hw _ (List.mem_of_getElem? (i := 10) rfl))) Via.refl e15 f17 (g := (mkF m 25 #[.val (.int pi0), .val (.int pi1), .unset, .unset, .unset, .unset, .unset, .unset] [(.int (3 : Int32)), (.ref b1), (.ref b1)])) rfl (hb hby at_25)
  obtain ⟨cl19, Ar19, q19, S19, N19, H19, G19⟩ := id V15
  have hin19 : ¬ ((3 : Int32) < 0 ∨ cl19.slots.size ≤ ((3 : Int32)).toNatClampNeg) := inb_of S19 ⟨by decide, by decide⟩
  have f21 : Exa Z h15 c3 "com/example/tracewright/tracewright/engine/expr/UnaryOp" := ((((P26.ext E1).wr W5).wr W10).wr W15)
  obtain ⟨T20, h20, X20, e20, W20, st20⟩ := stR X18 hx hZ e18 Ar19 (j := (3 : Int32)) hin19 rfl (Sto.ofV Ar19 q19 O1 (Ins.self f21)) (g := (mkF m 28 #[.val (.int pi0), .val (.int pi1), .unset, .unset, .unset, .unset, .unset, .unset] [(.ref c3), (.int (3 : Int32)), (.ref b1), (.ref b1)])) rfl rfl (hb hby at_28)
  have N20 := Fr.snoc X20 N15 ge1
  have Z20 : n0 ≤ h20.size := Nat.le_trans Z15 (Keep.of_wr W20).1
  have V20 : Arv Z h20 b1 k1 (.object "com/example/tracewright/tracewright/engine/expr/UnaryOp") (16 : Int32) [(.ref c0), (.ref c1), (.ref c2), (.ref c3), .null, .null, .null, .null, .null, .null, .null, .null, .null, .null, .null, .null] .null := Arv.set Ar19 q19 S19 N19 H19 G19 rfl W20 3 rfl (Nat.le_of_ble_eq_true rfl)
  have f22 : Sta Z h20 "com/example/tracewright/tracewright/engine/expr/UnaryOp" "L2I" "Lcom/example/tracewright/tracewright/engine/expr/UnaryOp;" (.ref c4) := (((((P4.ext E1).wr W5).wr W10).wr W15).wr W20)
  obtain ⟨T23, X23, e23, st23⟩ := getS2 X20 hx hZ hown (host := "") (Or.inl (hw _ (List.mem_of_getElem? (i := 12) rfl))) Via.refl e20 f22 (g := (mkF m 31 #[.val (.int pi0), .val (.int pi1), .unset, .unset, .unset, .unset, .unset, .unset] [(.int (4 : Int32)), (.ref b1), (.ref b1)])) rfl (hb hby at_31)
  obtain ⟨cl24, Ar24, q24, S24, N24, H24, G24⟩ := id V20
  have hin24 : ¬ ((4 : Int32) < 0 ∨ cl24.slots.size ≤ ((4 : Int32)).toNatClampNeg) := inb_of S24 ⟨by decide, by decide⟩
  have f26 : Exa Z h20 c4 "com/example/tracewright/tracewright/engine/expr/UnaryOp" := (((((P28.ext E1).wr W5).wr W10).wr W15).wr W20)
  obtain ⟨T25, h25, X25, e25, W25, st25⟩ := stR X23 hx hZ e23 Ar24 (j := (4 : Int32)) hin24 rfl (Sto.ofV Ar24 q24 O1 (Ins.self f26)) (g := (mkF m 34 #[.val (.int pi0), .val (.int pi1), .unset, .unset, .unset, .unset, .unset, .unset] [(.ref c4), (.int (4 : Int32)), (.ref b1), (.ref b1)])) rfl rfl (hb hby at_34)
  have N25 := Fr.snoc X25 N20 ge1
  have Z25 : n0 ≤ h25.size := Nat.le_trans Z20 (Keep.of_wr W25).1
  have V25 : Arv Z h25 b1 k1 (.object "com/example/tracewright/tracewright/engine/expr/UnaryOp") (16 : Int32) [(.ref c0), (.ref c1), (.ref c2), (.ref c3), (.ref c4), .null, .null, .null, .null, .null, .null, .null, .null, .null, .null, .null] .null := Arv.set Ar24 q24 S24 N24 H24 G24 rfl W25 4 rfl (Nat.le_of_ble_eq_true rfl)
  have f27 : Sta Z h25 "com/example/tracewright/tracewright/engine/expr/UnaryOp" "L2F" "Lcom/example/tracewright/tracewright/engine/expr/UnaryOp;" (.ref c5) := ((((((P5.ext E1).wr W5).wr W10).wr W15).wr W20).wr W25)
  obtain ⟨T28, X28, e28, st28⟩ := getS2 X25 hx hZ hown (host := "") (Or.inl (hw _ (List.mem_of_getElem? (i := 14) rfl))) Via.refl e25 f27 (g := (mkF m 37 #[.val (.int pi0), .val (.int pi1), .unset, .unset, .unset, .unset, .unset, .unset] [(.int (5 : Int32)), (.ref b1), (.ref b1)])) rfl (hb hby at_37)
  obtain ⟨cl29, Ar29, q29, S29, N29, H29, G29⟩ := id V25
  have hin29 : ¬ ((5 : Int32) < 0 ∨ cl29.slots.size ≤ ((5 : Int32)).toNatClampNeg) := inb_of S29 ⟨by decide, by decide⟩
  have f31 : Exa Z h25 c5 "com/example/tracewright/tracewright/engine/expr/UnaryOp" := ((((((P30.ext E1).wr W5).wr W10).wr W15).wr W20).wr W25)
  obtain ⟨T30, h30, X30, e30, W30, st30⟩ := stR X28 hx hZ e28 Ar29 (j := (5 : Int32)) hin29 rfl (Sto.ofV Ar29 q29 O1 (Ins.self f31)) (g := (mkF m 40 #[.val (.int pi0), .val (.int pi1), .unset, .unset, .unset, .unset, .unset, .unset] [(.ref c5), (.int (5 : Int32)), (.ref b1), (.ref b1)])) rfl rfl (hb hby at_40)
  have N30 := Fr.snoc X30 N25 ge1
  have Z30 : n0 ≤ h30.size := Nat.le_trans Z25 (Keep.of_wr W30).1
  have V30 : Arv Z h30 b1 k1 (.object "com/example/tracewright/tracewright/engine/expr/UnaryOp") (16 : Int32) [(.ref c0), (.ref c1), (.ref c2), (.ref c3), (.ref c4), (.ref c5), .null, .null, .null, .null, .null, .null, .null, .null, .null, .null] .null := Arv.set Ar29 q29 S29 N29 H29 G29 rfl W30 5 rfl (Nat.le_of_ble_eq_true rfl)
  have f32 : Sta Z h30 "com/example/tracewright/tracewright/engine/expr/UnaryOp" "L2D" "Lcom/example/tracewright/tracewright/engine/expr/UnaryOp;" (.ref c6) := (((((((P6.ext E1).wr W5).wr W10).wr W15).wr W20).wr W25).wr W30)
  obtain ⟨T33, X33, e33, st33⟩ := getS2 X30 hx hZ hown (host := "") (Or.inl (hw _ (List.mem_of_getElem? (i := 16) rfl))) Via.refl e30 f32 (g := (mkF m 44 #[.val (.int pi0), .val (.int pi1), .unset, .unset, .unset, .unset, .unset, .unset] [(.int (6 : Int32)), (.ref b1), (.ref b1)])) rfl (hb hby at_44)
  obtain ⟨cl34, Ar34, q34, S34, N34, H34, G34⟩ := id V30
  have hin34 : ¬ ((6 : Int32) < 0 ∨ cl34.slots.size ≤ ((6 : Int32)).toNatClampNeg) := inb_of S34 ⟨by decide, by decide⟩
  have f36 : Exa Z h30 c6 "com/example/tracewright/tracewright/engine/expr/UnaryOp" := (((((((P32.ext E1).wr W5).wr W10).wr W15).wr W20).wr W25).wr W30)
  obtain ⟨T35, h35, X35, e35, W35, st35⟩ := stR X33 hx hZ e33 Ar34 (j := (6 : Int32)) hin34 rfl (Sto.ofV Ar34 q34 O1 (Ins.self f36)) (g := (mkF m 47 #[.val (.int pi0), .val (.int pi1), .unset, .unset, .unset, .unset, .unset, .unset] [(.ref c6), (.int (6 : Int32)), (.ref b1), (.ref b1)])) rfl rfl (hb hby at_47)
  have N35 := Fr.snoc X35 N30 ge1
  have Z35 : n0 ≤ h35.size := Nat.le_trans Z30 (Keep.of_wr W35).1
  have V35 : Arv Z h35 b1 k1 (.object "com/example/tracewright/tracewright/engine/expr/UnaryOp") (16 : Int32) [(.ref c0), (.ref c1), (.ref c2), (.ref c3), (.ref c4), (.ref c5), (.ref c6), .null, .null, .null, .null, .null, .null, .null, .null, .null] .null := Arv.set Ar34 q34 S34 N34 H34 G34 rfl W35 6 rfl (Nat.le_of_ble_eq_true rfl)
  have f37 : Sta Z h35 "com/example/tracewright/tracewright/engine/expr/UnaryOp" "F2I" "Lcom/example/tracewright/tracewright/engine/expr/UnaryOp;" (.ref c7) := ((((((((P7.ext E1).wr W5).wr W10).wr W15).wr W20).wr W25).wr W30).wr W35)
  obtain ⟨T38, X38, e38, st38⟩ := getS2 X35 hx hZ hown (host := "") (Or.inl (hw _ (List.mem_of_getElem? (i := 18) rfl))) Via.refl e35 f37 (g := (mkF m 51 #[.val (.int pi0), .val (.int pi1), .unset, .unset, .unset, .unset, .unset, .unset] [(.int (7 : Int32)), (.ref b1), (.ref b1)])) rfl (hb hby at_51)
  obtain ⟨cl39, Ar39, q39, S39, N39, H39, G39⟩ := id V35
  have hin39 : ¬ ((7 : Int32) < 0 ∨ cl39.slots.size ≤ ((7 : Int32)).toNatClampNeg) := inb_of S39 ⟨by decide, by decide⟩
  have f41 : Exa Z h35 c7 "com/example/tracewright/tracewright/engine/expr/UnaryOp" := ((((((((P34.ext E1).wr W5).wr W10).wr W15).wr W20).wr W25).wr W30).wr W35)
  obtain ⟨T40, h40, X40, e40, W40, st40⟩ := stR X38 hx hZ e38 Ar39 (j := (7 : Int32)) hin39 rfl (Sto.ofV Ar39 q39 O1 (Ins.self f41)) (g := (mkF m 54 #[.val (.int pi0), .val (.int pi1), .unset, .unset, .unset, .unset, .unset, .unset] [(.ref c7), (.int (7 : Int32)), (.ref b1), (.ref b1)])) rfl rfl (hb hby at_54)
  have N40 := Fr.snoc X40 N35 ge1
  have Z40 : n0 ≤ h40.size := Nat.le_trans Z35 (Keep.of_wr W40).1
  have V40 : Arv Z h40 b1 k1 (.object "com/example/tracewright/tracewright/engine/expr/UnaryOp") (16 : Int32) [(.ref c0), (.ref c1), (.ref c2), (.ref c3), (.ref c4), (.ref c5), (.ref c6), (.ref c7), .null, .null, .null, .null, .null, .null, .null, .null] .null := Arv.set Ar39 q39 S39 N39 H39 G39 rfl W40 7 rfl (Nat.le_of_ble_eq_true rfl)
  have f42 : Sta Z h40 "com/example/tracewright/tracewright/engine/expr/UnaryOp" "F2L" "Lcom/example/tracewright/tracewright/engine/expr/UnaryOp;" (.ref c8) := (((((((((P8.ext E1).wr W5).wr W10).wr W15).wr W20).wr W25).wr W30).wr W35).wr W40)
  obtain ⟨T43, X43, e43, st43⟩ := getS2 X40 hx hZ hown (host := "") (Or.inl (hw _ (List.mem_of_getElem? (i := 20) rfl))) Via.refl e40 f42 (g := (mkF m 58 #[.val (.int pi0), .val (.int pi1), .unset, .unset, .unset, .unset, .unset, .unset] [(.int (8 : Int32)), (.ref b1), (.ref b1)])) rfl (hb hby at_58)
  obtain ⟨cl44, Ar44, q44, S44, N44, H44, G44⟩ := id V40
  have hin44 : ¬ ((8 : Int32) < 0 ∨ cl44.slots.size ≤ ((8 : Int32)).toNatClampNeg) := inb_of S44 ⟨by decide, by decide⟩
  have f46 : Exa Z h40 c8 "com/example/tracewright/tracewright/engine/expr/UnaryOp" := (((((((((P36.ext E1).wr W5).wr W10).wr W15).wr W20).wr W25).wr W30).wr W35).wr W40)
  obtain ⟨T45, h45, X45, e45, W45, st45⟩ := stR X43 hx hZ e43 Ar44 (j := (8 : Int32)) hin44 rfl (Sto.ofV Ar44 q44 O1 (Ins.self f46)) (g := (mkF m 61 #[.val (.int pi0), .val (.int pi1), .unset, .unset, .unset, .unset, .unset, .unset] [(.ref c8), (.int (8 : Int32)), (.ref b1), (.ref b1)])) rfl rfl (hb hby at_61)
  have N45 := Fr.snoc X45 N40 ge1
  have Z45 : n0 ≤ h45.size := Nat.le_trans Z40 (Keep.of_wr W45).1
  have V45 : Arv Z h45 b1 k1 (.object "com/example/tracewright/tracewright/engine/expr/UnaryOp") (16 : Int32) [(.ref c0), (.ref c1), (.ref c2), (.ref c3), (.ref c4), (.ref c5), (.ref c6), (.ref c7), (.ref c8), .null, .null, .null, .null, .null, .null, .null] .null := Arv.set Ar44 q44 S44 N44 H44 G44 rfl W45 8 rfl (Nat.le_of_ble_eq_true rfl)
  have f47 : Sta Z h45 "com/example/tracewright/tracewright/engine/expr/UnaryOp" "F2D" "Lcom/example/tracewright/tracewright/engine/expr/UnaryOp;" (.ref c9) := ((((((((((P9.ext E1).wr W5).wr W10).wr W15).wr W20).wr W25).wr W30).wr W35).wr W40).wr W45)
  obtain ⟨T48, X48, e48, st48⟩ := getS2 X45 hx hZ hown (host := "") (Or.inl (hw _ (List.mem_of_getElem? (i := 22) rfl))) Via.refl e45 f47 (g := (mkF m 65 #[.val (.int pi0), .val (.int pi1), .unset, .unset, .unset, .unset, .unset, .unset] [(.int (9 : Int32)), (.ref b1), (.ref b1)])) rfl (hb hby at_65)
  obtain ⟨cl49, Ar49, q49, S49, N49, H49, G49⟩ := id V45
  have hin49 : ¬ ((9 : Int32) < 0 ∨ cl49.slots.size ≤ ((9 : Int32)).toNatClampNeg) := inb_of S49 ⟨by decide, by decide⟩
  have f51 : Exa Z h45 c9 "com/example/tracewright/tracewright/engine/expr/UnaryOp" := ((((((((((P38.ext E1).wr W5).wr W10).wr W15).wr W20).wr W25).wr W30).wr W35).wr W40).wr W45)
  obtain ⟨T50, h50, X50, e50, W50, st50⟩ := stR X48 hx hZ e48 Ar49 (j := (9 : Int32)) hin49 rfl (Sto.ofV Ar49 q49 O1 (Ins.self f51)) (g := (mkF m 68 #[.val (.int pi0), .val (.int pi1), .unset, .unset, .unset, .unset, .unset, .unset] [(.ref c9), (.int (9 : Int32)), (.ref b1), (.ref b1)])) rfl rfl (hb hby at_68)
  have N50 := Fr.snoc X50 N45 ge1
  have Z50 : n0 ≤ h50.size := Nat.le_trans Z45 (Keep.of_wr W50).1
  have V50 : Arv Z h50 b1 k1 (.object "com/example/tracewright/tracewright/engine/expr/UnaryOp") (16 : Int32) [(.ref c0), (.ref c1), (.ref c2), (.ref c3), (.ref c4), (.ref c5), (.ref c6), (.ref c7), (.ref c8), (.ref c9), .null, .null, .null, .null, .null, .null] .null := Arv.set Ar49 q49 S49 N49 H49 G49 rfl W50 9 rfl (Nat.le_of_ble_eq_true rfl)
  have f52 : Sta Z h50 "com/example/tracewright/tracewright/engine/expr/UnaryOp" "D2I" "Lcom/example/tracewright/tracewright/engine/expr/UnaryOp;" (.ref c10) := (((((((((((P10.ext E1).wr W5).wr W10).wr W15).wr W20).wr W25).wr W30).wr W35).wr W40).wr W45).wr W50)
  obtain ⟨T53, X53, e53, st53⟩ := getS2 X50 hx hZ hown (host := "") (Or.inl (hw _ (List.mem_of_getElem? (i := 24) rfl))) Via.refl e50 f52 (g := (mkF m 72 #[.val (.int pi0), .val (.int pi1), .unset, .unset, .unset, .unset, .unset, .unset] [(.int (10 : Int32)), (.ref b1), (.ref b1)])) rfl (hb hby at_72)
  obtain ⟨cl54, Ar54, q54, S54, N54, H54, G54⟩ := id V50
  have hin54 : ¬ ((10 : Int32) < 0 ∨ cl54.slots.size ≤ ((10 : Int32)).toNatClampNeg) := inb_of S54 ⟨by decide, by decide⟩
  have f56 : Exa Z h50 c10 "com/example/tracewright/tracewright/engine/expr/UnaryOp" := (((((((((((P40.ext E1).wr W5).wr W10).wr W15).wr W20).wr W25).wr W30).wr W35).wr W40).wr W45).wr W50)
  obtain ⟨T55, h55, X55, e55, W55, st55⟩ := stR X53 hx hZ e53 Ar54 (j := (10 : Int32)) hin54 rfl (Sto.ofV Ar54 q54 O1 (Ins.self f56)) (g := (mkF m 75 #[.val (.int pi0), .val (.int pi1), .unset, .unset, .unset, .unset, .unset, .unset] [(.ref c10), (.int (10 : Int32)), (.ref b1), (.ref b1)])) rfl rfl (hb hby at_75)
  have N55 := Fr.snoc X55 N50 ge1
  have Z55 : n0 ≤ h55.size := Nat.le_trans Z50 (Keep.of_wr W55).1
  have V55 : Arv Z h55 b1 k1 (.object "com/example/tracewright/tracewright/engine/expr/UnaryOp") (16 : Int32) [(.ref c0), (.ref c1), (.ref c2), (.ref c3), (.ref c4), (.ref c5), (.ref c6), (.ref c7), (.ref c8), (.ref c9), (.ref c10), .null, .null, .null, .null, .null] .null := Arv.set Ar54 q54 S54 N54 H54 G54 rfl W55 10 rfl (Nat.le_of_ble_eq_true rfl)
  have f57 : Sta Z h55 "com/example/tracewright/tracewright/engine/expr/UnaryOp" "D2L" "Lcom/example/tracewright/tracewright/engine/expr/UnaryOp;" (.ref c11) := ((((((((((((P11.ext E1).wr W5).wr W10).wr W15).wr W20).wr W25).wr W30).wr W35).wr W40).wr W45).wr W50).wr W55)
  obtain ⟨T58, X58, e58, st58⟩ := getS2 X55 hx hZ hown (host := "") (Or.inl (hw _ (List.mem_of_getElem? (i := 26) rfl))) Via.refl e55 f57 (g := (mkF m 79 #[.val (.int pi0), .val (.int pi1), .unset, .unset, .unset, .unset, .unset, .unset] [(.int (11 : Int32)), (.ref b1), (.ref b1)])) rfl (hb hby at_79)
  obtain ⟨cl59, Ar59, q59, S59, N59, H59, G59⟩ := id V55
  have hin59 : ¬ ((11 : Int32) < 0 ∨ cl59.slots.size ≤ ((11 : Int32)).toNatClampNeg) := inb_of S59 ⟨by decide, by decide⟩
  have f61 : Exa Z h55 c11 "com/example/tracewright/tracewright/engine/expr/UnaryOp" := ((((((((((((P42.ext E1).wr W5).wr W10).wr W15).wr W20).wr W25).wr W30).wr W35).wr W40).wr W45).wr W50).wr W55)
  obtain ⟨T60, h60, X60, e60, W60, st60⟩ := stR X58 hx hZ e58 Ar59 (j := (11 : Int32)) hin59 rfl (Sto.ofV Ar59 q59 O1 (Ins.self f61)) (g := (mkF m 82 #[.val (.int pi0), .val (.int pi1), .unset, .unset, .unset, .unset, .unset, .unset] [(.ref c11), (.int (11 : Int32)), (.ref b1), (.ref b1)])) rfl rfl (hb hby at_82)
  have N60 := Fr.snoc X60 N55 ge1
  have Z60 : n0 ≤ h60.size := Nat.le_trans Z55 (Keep.of_wr W60).1
  have V60 : Arv Z h60 b1 k1 (.object "com/example/tracewright/tracewright/engine/expr/UnaryOp") (16 : Int32) [(.ref c0), (.ref c1), (.ref c2), (.ref c3), (.ref c4), (.ref c5), (.ref c6), (.ref c7), (.ref c8), (.ref c9), (.ref c10), (.ref c11), .null, .null, .null, .null] .null := Arv.set Ar59 q59 S59 N59 H59 G59 rfl W60 11 rfl (Nat.le_of_ble_eq_true rfl)
  have f62 : Sta Z h60 "com/example/tracewright/tracewright/engine/expr/UnaryOp" "D2F" "Lcom/example/tracewright/tracewright/engine/expr/UnaryOp;" (.ref c12) := (((((((((((((P12.ext E1).wr W5).wr W10).wr W15).wr W20).wr W25).wr W30).wr W35).wr W40).wr W45).wr W50).wr W55).wr W60)
  obtain ⟨T63, X63, e63, st63⟩ := getS2 X60 hx hZ hown (host := "") (Or.inl (hw _ (List.mem_of_getElem? (i := 28) rfl))) Via.refl e60 f62 (g := (mkF m 86 #[.val (.int pi0), .val (.int pi1), .unset, .unset, .unset, .unset, .unset, .unset] [(.int (12 : Int32)), (.ref b1), (.ref b1)])) rfl (hb hby at_86)
  obtain ⟨cl64, Ar64, q64, S64, N64, H64, G64⟩ := id V60
  have hin64 : ¬ ((12 : Int32) < 0 ∨ cl64.slots.size ≤ ((12 : Int32)).toNatClampNeg) := inb_of S64 ⟨by decide, by decide⟩
  have f66 : Exa Z h60 c12 "com/example/tracewright/tracewright/engine/expr/UnaryOp" := (((((((((((((P44.ext E1).wr W5).wr W10).wr W15).wr W20).wr W25).wr W30).wr W35).wr W40).wr W45).wr W50).wr W55).wr W60)
  obtain ⟨T65, h65, X65, e65, W65, st65⟩ := stR X63 hx hZ e63 Ar64 (j := (12 : Int32)) hin64 rfl (Sto.ofV Ar64 q64 O1 (Ins.self f66)) (g := (mkF m 89 #[.val (.int pi0), .val (.int pi1), .unset, .unset, .unset, .unset, .unset, .unset] [(.ref c12), (.int (12 : Int32)), (.ref b1), (.ref b1)])) rfl rfl (hb hby at_89)
  have N65 := Fr.snoc X65 N60 ge1
  have Z65 : n0 ≤ h65.size := Nat.le_trans Z60 (Keep.of_wr W65).1
  have V65 : Arv Z h65 b1 k1 (.object "com/example/tracewright/tracewright/engine/expr/UnaryOp") (16 : Int32) [(.ref c0), (.ref c1), (.ref c2), (.ref c3), (.ref c4), (.ref c5), (.ref c6), (.ref c7), (.ref c8), (.ref c9), (.ref c10), (.ref c11), (.ref c12), .null, .null, .null] .null := Arv.set Ar64 q64 S64 N64 H64 G64 rfl W65 12 rfl (Nat.le_of_ble_eq_true rfl)
  have f67 : Sta Z h65 "com/example/tracewright/tracewright/engine/expr/UnaryOp" "I2B" "Lcom/example/tracewright/tracewright/engine/expr/UnaryOp;" (.ref c13) := ((((((((((((((P13.ext E1).wr W5).wr W10).wr W15).wr W20).wr W25).wr W30).wr W35).wr W40).wr W45).wr W50).wr W55).wr W60).wr W65)
  obtain ⟨T68, X68, e68, st68⟩ := getS2 X65 hx hZ hown (host := "") (Or.inl (hw _ (List.mem_of_getElem? (i := 30) rfl))) Via.refl e65 f67 (g := (mkF m 93 #[.val (.int pi0), .val (.int pi1), .unset, .unset, .unset, .unset, .unset, .unset] [(.int (13 : Int32)), (.ref b1), (.ref b1)])) rfl (hb hby at_93)
  obtain ⟨cl69, Ar69, q69, S69, N69, H69, G69⟩ := id V65
  have hin69 : ¬ ((13 : Int32) < 0 ∨ cl69.slots.size ≤ ((13 : Int32)).toNatClampNeg) := inb_of S69 ⟨by decide, by decide⟩
  have f71 : Exa Z h65 c13 "com/example/tracewright/tracewright/engine/expr/UnaryOp" := ((((((((((((((P46.ext E1).wr W5).wr W10).wr W15).wr W20).wr W25).wr W30).wr W35).wr W40).wr W45).wr W50).wr W55).wr W60).wr W65)
  obtain ⟨T70, h70, X70, e70, W70, st70⟩ := stR X68 hx hZ e68 Ar69 (j := (13 : Int32)) hin69 rfl (Sto.ofV Ar69 q69 O1 (Ins.self f71)) (g := (mkF m 96 #[.val (.int pi0), .val (.int pi1), .unset, .unset, .unset, .unset, .unset, .unset] [(.ref c13), (.int (13 : Int32)), (.ref b1), (.ref b1)])) rfl rfl (hb hby at_96)
  have N70 := Fr.snoc X70 N65 ge1
  have Z70 : n0 ≤ h70.size := Nat.le_trans Z65 (Keep.of_wr W70).1
  have V70 : Arv Z h70 b1 k1 (.object "com/example/tracewright/tracewright/engine/expr/UnaryOp") (16 : Int32) [(.ref c0), (.ref c1), (.ref c2), (.ref c3), (.ref c4), (.ref c5), (.ref c6), (.ref c7), (.ref c8), (.ref c9), (.ref c10), (.ref c11), (.ref c12), (.ref c13), .null, .null] .null := Arv.set Ar69 q69 S69 N69 H69 G69 rfl W70 13 rfl (Nat.le_of_ble_eq_true rfl)
  have f72 : Sta Z h70 "com/example/tracewright/tracewright/engine/expr/UnaryOp" "I2C" "Lcom/example/tracewright/tracewright/engine/expr/UnaryOp;" (.ref c14) := (((((((((((((((P14.ext E1).wr W5).wr W10).wr W15).wr W20).wr W25).wr W30).wr W35).wr W40).wr W45).wr W50).wr W55).wr W60).wr W65).wr W70)
  obtain ⟨T73, X73, e73, st73⟩ := getS2 X70 hx hZ hown (host := "") (Or.inl (hw _ (List.mem_of_getElem? (i := 32) rfl))) Via.refl e70 f72 (g := (mkF m 100 #[.val (.int pi0), .val (.int pi1), .unset, .unset, .unset, .unset, .unset, .unset] [(.int (14 : Int32)), (.ref b1), (.ref b1)])) rfl (hb hby at_100)
  have go74 : ∀ t, Steps p.tables e below (T73.setTop (mkF m 103 #[.val (.int pi0), .val (.int pi1), .unset, .unset, .unset, .unset, .unset, .unset] [(.ref c14), (.int (14 : Int32)), (.ref b1), (.ref b1)])) t → Steps p.tables e below st0 t := by
    intro t kt
    refine go0 t ?_
    refine XS.bipush X0.here hx rfl (hb hby at_0) ?_
    show Steps p.tables e below (s₁.setTop (mkF m 2 #[.val (.int pi0), .val (.int pi1), .unset, .unset, .unset, .unset, .unset, .unset] [(.int (16 : Int32))])) _
    refine st1 _ ?_
    show Steps p.tables e below (T1.setTop (mkF m 5 #[.val (.int pi0), .val (.int pi1), .unset, .unset, .unset, .unset, .unset, .unset] [(.ref b1)])) _
    refine XS.dup X1.here hx rfl (hb hby at_5) rfl rfl ?_
    show Steps p.tables e below (T1.setTop (mkF m 6 #[.val (.int pi0), .val (.int pi1), .unset, .unset, .unset, .unset, .unset, .unset] [(.ref b1), (.ref b1)])) _
    refine XS.iconst X1.here hx rfl (hb hby at_6) ?_
    show Steps p.tables e below (T1.setTop (mkF m 7 #[.val (.int pi0), .val (.int pi1), .unset, .unset, .unset, .unset, .unset, .unset] [(.int (0 : Int32)), (.ref b1), (.ref b1)])) _
    refine st3 _ ?_
    show Steps p.tables e below (T3.setTop (mkF m 10 #[.val (.int pi0), .val (.int pi1), .unset, .unset, .unset, .unset, .unset, .unset] [(.ref c0), (.int (0 : Int32)), (.ref b1), (.ref b1)])) _
    refine st5 _ ?_
    show Steps p.tables e below (T5.setTop (mkF m 11 #[.val (.int pi0), .val (.int pi1), .unset, .unset, .unset, .unset, .unset, .unset] [(.ref b1)])) _
    refine XS.dup X5.here hx rfl (hb hby at_11) rfl rfl ?_
    show Steps p.tables e below (T5.setTop (mkF m 12 #[.val (.int pi0), .val (.int pi1), .unset, .unset, .unset, .unset, .unset, .unset] [(.ref b1), (.ref b1)])) _
    refine XS.iconst X5.here hx rfl (hb hby at_12) ?_
    show Steps p.tables e below (T5.setTop (mkF m 13 #[.val (.int pi0), .val (.int pi1), .unset, .unset, .unset, .unset, .unset, .unset] [(.int (1 : Int32)), (.ref b1), (.ref b1)])) _
    refine st8 _ ?_
    show Steps p.tables e below (T8.setTop (mkF m 16 #[.val (.int pi0), .val (.int pi1), .unset, .unset, .unset, .unset, .unset, .unset] [(.ref c1), (.int (1 : Int32)), (.ref b1), (.ref b1)])) _
    refine st10 _ ?_
    show Steps p.tables e below (T10.setTop (mkF m 17 #[.val (.int pi0), .val (.int pi1), .unset, .unset, .unset, .unset, .unset, .unset] [(.ref b1)])) _
    refine XS.dup X10.here hx rfl (hb hby at_17) rfl rfl ?_
    show Steps p.tables e below (T10.setTop (mkF m 18 #[.val (.int pi0), .val (.int pi1), .unset, .unset, .unset, .unset, .unset, .unset] [(.ref b1), (.ref b1)])) _
    refine XS.iconst X10.here hx rfl (hb hby at_18) ?_
    show Steps p.tables e below (T10.setTop (mkF m 19 #[.val (.int pi0), .val (.int pi1), .unset, .unset, .unset, .unset, .unset, .unset] [(.int (2 : Int32)), (.ref b1), (.ref b1)])) _
    refine st13 _ ?_
    show Steps p.tables e below (T13.setTop (mkF m 22 #[.val (.int pi0), .val (.int pi1), .unset, .unset, .unset, .unset, .unset, .unset] [(.ref c2), (.int (2 : Int32)), (.ref b1), (.ref b1)])) _
    refine st15 _ ?_
    show Steps p.tables e below (T15.setTop (mkF m 23 #[.val (.int pi0), .val (.int pi1), .unset, .unset, .unset, .unset, .unset, .unset] [(.ref b1)])) _
    refine XS.dup X15.here hx rfl (hb hby at_23) rfl rfl ?_
    show Steps p.tables e below (T15.setTop (mkF m 24 #[.val (.int pi0), .val (.int pi1), .unset, .unset, .unset, .unset, .unset, .unset] [(.ref b1), (.ref b1)])) _
    refine XS.iconst X15.here hx rfl (hb hby at_24) ?_
    show Steps p.tables e below (T15.setTop (mkF m 25 #[.val (.int pi0), .val (.int pi1), .unset, .unset, .unset, .unset, .unset, .unset] [(.int (3 : Int32)), (.ref b1), (.ref b1)])) _
    refine st18 _ ?_
    show Steps p.tables e below (T18.setTop (mkF m 28 #[.val (.int pi0), .val (.int pi1), .unset, .unset, .unset, .unset, .unset, .unset] [(.ref c3), (.int (3 : Int32)), (.ref b1), (.ref b1)])) _
    refine st20 _ ?_
    show Steps p.tables e below (T20.setTop (mkF m 29 #[.val (.int pi0), .val (.int pi1), .unset, .unset, .unset, .unset, .unset, .unset] [(.ref b1)])) _
    refine XS.dup X20.here hx rfl (hb hby at_29) rfl rfl ?_
    show Steps p.tables e below (T20.setTop (mkF m 30 #[.val (.int pi0), .val (.int pi1), .unset, .unset, .unset, .unset, .unset, .unset] [(.ref b1), (.ref b1)])) _
    refine XS.iconst X20.here hx rfl (hb hby at_30) ?_
    show Steps p.tables e below (T20.setTop (mkF m 31 #[.val (.int pi0), .val (.int pi1), .unset, .unset, .unset, .unset, .unset, .unset] [(.int (4 : Int32)), (.ref b1), (.ref b1)])) _
    refine st23 _ ?_
    show Steps p.tables e below (T23.setTop (mkF m 34 #[.val (.int pi0), .val (.int pi1), .unset, .unset, .unset, .unset, .unset, .unset] [(.ref c4), (.int (4 : Int32)), (.ref b1), (.ref b1)])) _
    refine st25 _ ?_
    show Steps p.tables e below (T25.setTop (mkF m 35 #[.val (.int pi0), .val (.int pi1), .unset, .unset, .unset, .unset, .unset, .unset] [(.ref b1)])) _
    refine XS.dup X25.here hx rfl (hb hby at_35) rfl rfl ?_
    show Steps p.tables e below (T25.setTop (mkF m 36 #[.val (.int pi0), .val (.int pi1), .unset, .unset, .unset, .unset, .unset, .unset] [(.ref b1), (.ref b1)])) _
    refine XS.iconst X25.here hx rfl (hb hby at_36) ?_
    show Steps p.tables e below (T25.setTop (mkF m 37 #[.val (.int pi0), .val (.int pi1), .unset, .unset, .unset, .unset, .unset, .unset] [(.int (5 : Int32)), (.ref b1), (.ref b1)])) _
    refine st28 _ ?_
    show Steps p.tables e below (T28.setTop (mkF m 40 #[.val (.int pi0), .val (.int pi1), .unset, .unset, .unset, .unset, .unset, .unset] [(.ref c5), (.int (5 : Int32)), (.ref b1), (.ref b1)])) _
    refine st30 _ ?_
    show Steps p.tables e below (T30.setTop (mkF m 41 #[.val (.int pi0), .val (.int pi1), .unset, .unset, .unset, .unset, .unset, .unset] [(.ref b1)])) _
    refine XS.dup X30.here hx rfl (hb hby at_41) rfl rfl ?_
    show Steps p.tables e below (T30.setTop (mkF m 42 #[.val (.int pi0), .val (.int pi1), .unset, .unset, .unset, .unset, .unset, .unset] [(.ref b1), (.ref b1)])) _
    refine XS.bipush X30.here hx rfl (hb hby at_42) ?_
    show Steps p.tables e below (T30.setTop (mkF m 44 #[.val (.int pi0), .val (.int pi1), .unset, .unset, .unset, .unset, .unset, .unset] [(.int (6 : Int32)), (.ref b1), (.ref b1)])) _
    refine st33 _ ?_
    show Steps p.tables e below (T33.setTop (mkF m 47 #[.val (.int pi0), .val (.int pi1), .unset, .unset, .unset, .unset, .unset, .unset] [(.ref c6), (.int (6 : Int32)), (.ref b1), (.ref b1)])) _
    refine st35 _ ?_
    show Steps p.tables e below (T35.setTop (mkF m 48 #[.val (.int pi0), .val (.int pi1), .unset, .unset, .unset, .unset, .unset, .unset] [(.ref b1)])) _
    refine XS.dup X35.here hx rfl (hb hby at_48) rfl rfl ?_
    show Steps p.tables e below (T35.setTop (mkF m 49 #[.val (.int pi0), .val (.int pi1), .unset, .unset, .unset, .unset, .unset, .unset] [(.ref b1), (.ref b1)])) _
    refine XS.bipush X35.here hx rfl (hb hby at_49) ?_
    show Steps p.tables e below (T35.setTop (mkF m 51 #[.val (.int pi0), .val (.int pi1), .unset, .unset, .unset, .unset, .unset, .unset] [(.int (7 : Int32)), (.ref b1), (.ref b1)])) _
    refine st38 _ ?_
    show Steps p.tables e below (T38.setTop (mkF m 54 #[.val (.int pi0), .val (.int pi1), .unset, .unset, .unset, .unset, .unset, .unset] [(.ref c7), (.int (7 : Int32)), (.ref b1), (.ref b1)])) _
    refine st40 _ ?_
    show Steps p.tables e below (T40.setTop (mkF m 55 #[.val (.int pi0), .val (.int pi1), .unset, .unset, .unset, .unset, .unset, .unset] [(.ref b1)])) _
    refine XS.dup X40.here hx rfl (hb hby at_55) rfl rfl ?_
    show Steps p.tables e below (T40.setTop (mkF m 56 #[.val (.int pi0), .val (.int pi1), .unset, .unset, .unset, .unset, .unset, .unset] [(.ref b1), (.ref b1)])) _
    refine XS.bipush X40.here hx rfl (hb hby at_56) ?_
    show Steps p.tables e below (T40.setTop (mkF m 58 #[.val (.int pi0), .val (.int pi1), .unset, .unset, .unset, .unset, .unset, .unset] [(.int (8 : Int32)), (.ref b1), (.ref b1)])) _
    refine st43 _ ?_
    show Steps p.tables e below (T43.setTop (mkF m 61 #[.val (.int pi0), .val (.int pi1), .unset, .unset, .unset, .unset, .unset, .unset] [(.ref c8), (.int (8 : Int32)), (.ref b1), (.ref b1)])) _
    refine st45 _ ?_
    show Steps p.tables e below (T45.setTop (mkF m 62 #[.val (.int pi0), .val (.int pi1), .unset, .unset, .unset, .unset, .unset, .unset] [(.ref b1)])) _
    refine XS.dup X45.here hx rfl (hb hby at_62) rfl rfl ?_
    show Steps p.tables e below (T45.setTop (mkF m 63 #[.val (.int pi0), .val (.int pi1), .unset, .unset, .unset, .unset, .unset, .unset] [(.ref b1), (.ref b1)])) _
    refine XS.bipush X45.here hx rfl (hb hby at_63) ?_
    show Steps p.tables e below (T45.setTop (mkF m 65 #[.val (.int pi0), .val (.int pi1), .unset, .unset, .unset, .unset, .unset, .unset] [(.int (9 : Int32)), (.ref b1), (.ref b1)])) _
    refine st48 _ ?_
    show Steps p.tables e below (T48.setTop (mkF m 68 #[.val (.int pi0), .val (.int pi1), .unset, .unset, .unset, .unset, .unset, .unset] [(.ref c9), (.int (9 : Int32)), (.ref b1), (.ref b1)])) _
    refine st50 _ ?_
    show Steps p.tables e below (T50.setTop (mkF m 69 #[.val (.int pi0), .val (.int pi1), .unset, .unset, .unset, .unset, .unset, .unset] [(.ref b1)])) _
    refine XS.dup X50.here hx rfl (hb hby at_69) rfl rfl ?_
    show Steps p.tables e below (T50.setTop (mkF m 70 #[.val (.int pi0), .val (.int pi1), .unset, .unset, .unset, .unset, .unset, .unset] [(.ref b1), (.ref b1)])) _
    refine XS.bipush X50.here hx rfl (hb hby at_70) ?_
    show Steps p.tables e below (T50.setTop (mkF m 72 #[.val (.int pi0), .val (.int pi1), .unset, .unset, .unset, .unset, .unset, .unset] [(.int (10 : Int32)), (.ref b1), (.ref b1)])) _
    refine st53 _ ?_
    show Steps p.tables e below (T53.setTop (mkF m 75 #[.val (.int pi0), .val (.int pi1), .unset, .unset, .unset, .unset, .unset, .unset] [(.ref c10), (.int (10 : Int32)), (.ref b1), (.ref b1)])) _
    refine st55 _ ?_
    show Steps p.tables e below (T55.setTop (mkF m 76 #[.val (.int pi0), .val (.int pi1), .unset, .unset, .unset, .unset, .unset, .unset] [(.ref b1)])) _
    refine XS.dup X55.here hx rfl (hb hby at_76) rfl rfl ?_
    show Steps p.tables e below (T55.setTop (mkF m 77 #[.val (.int pi0), .val (.int pi1), .unset, .unset, .unset, .unset, .unset, .unset] [(.ref b1), (.ref b1)])) _
    refine XS.bipush X55.here hx rfl (hb hby at_77) ?_
    show Steps p.tables e below (T55.setTop (mkF m 79 #[.val (.int pi0), .val (.int pi1), .unset, .unset, .unset, .unset, .unset, .unset] [(.int (11 : Int32)), (.ref b1), (.ref b1)])) _
    refine st58 _ ?_
    show Steps p.tables e below (T58.setTop (mkF m 82 #[.val (.int pi0), .val (.int pi1), .unset, .unset, .unset, .unset, .unset, .unset] [(.ref c11), (.int (11 : Int32)), (.ref b1), (.ref b1)])) _
    refine st60 _ ?_
    show Steps p.tables e below (T60.setTop (mkF m 83 #[.val (.int pi0), .val (.int pi1), .unset, .unset, .unset, .unset, .unset, .unset] [(.ref b1)])) _
    refine XS.dup X60.here hx rfl (hb hby at_83) rfl rfl ?_
    show Steps p.tables e below (T60.setTop (mkF m 84 #[.val (.int pi0), .val (.int pi1), .unset, .unset, .unset, .unset, .unset, .unset] [(.ref b1), (.ref b1)])) _
    refine XS.bipush X60.here hx rfl (hb hby at_84) ?_
    show Steps p.tables e below (T60.setTop (mkF m 86 #[.val (.int pi0), .val (.int pi1), .unset, .unset, .unset, .unset, .unset, .unset] [(.int (12 : Int32)), (.ref b1), (.ref b1)])) _
    refine st63 _ ?_
    show Steps p.tables e below (T63.setTop (mkF m 89 #[.val (.int pi0), .val (.int pi1), .unset, .unset, .unset, .unset, .unset, .unset] [(.ref c12), (.int (12 : Int32)), (.ref b1), (.ref b1)])) _
    refine st65 _ ?_
    show Steps p.tables e below (T65.setTop (mkF m 90 #[.val (.int pi0), .val (.int pi1), .unset, .unset, .unset, .unset, .unset, .unset] [(.ref b1)])) _
    refine XS.dup X65.here hx rfl (hb hby at_90) rfl rfl ?_
    show Steps p.tables e below (T65.setTop (mkF m 91 #[.val (.int pi0), .val (.int pi1), .unset, .unset, .unset, .unset, .unset, .unset] [(.ref b1), (.ref b1)])) _
    refine XS.bipush X65.here hx rfl (hb hby at_91) ?_
    show Steps p.tables e below (T65.setTop (mkF m 93 #[.val (.int pi0), .val (.int pi1), .unset, .unset, .unset, .unset, .unset, .unset] [(.int (13 : Int32)), (.ref b1), (.ref b1)])) _
    refine st68 _ ?_
    show Steps p.tables e below (T68.setTop (mkF m 96 #[.val (.int pi0), .val (.int pi1), .unset, .unset, .unset, .unset, .unset, .unset] [(.ref c13), (.int (13 : Int32)), (.ref b1), (.ref b1)])) _
    refine st70 _ ?_
    show Steps p.tables e below (T70.setTop (mkF m 97 #[.val (.int pi0), .val (.int pi1), .unset, .unset, .unset, .unset, .unset, .unset] [(.ref b1)])) _
    refine XS.dup X70.here hx rfl (hb hby at_97) rfl rfl ?_
    show Steps p.tables e below (T70.setTop (mkF m 98 #[.val (.int pi0), .val (.int pi1), .unset, .unset, .unset, .unset, .unset, .unset] [(.ref b1), (.ref b1)])) _
    refine XS.bipush X70.here hx rfl (hb hby at_98) ?_
    show Steps p.tables e below (T70.setTop (mkF m 100 #[.val (.int pi0), .val (.int pi1), .unset, .unset, .unset, .unset, .unset, .unset] [(.int (14 : Int32)), (.ref b1), (.ref b1)])) _
    refine st73 _ ?_
    show Steps p.tables e below (T73.setTop (mkF m 103 #[.val (.int pi0), .val (.int pi1), .unset, .unset, .unset, .unset, .unset, .unset] [(.ref c14), (.int (14 : Int32)), (.ref b1), (.ref b1)])) _
    exact kt
  obtain ⟨cl75, Ar75, q75, S75, N75, H75, G75⟩ := id V70
  have hin75 : ¬ ((14 : Int32) < 0 ∨ cl75.slots.size ≤ ((14 : Int32)).toNatClampNeg) := inb_of S75 ⟨by decide, by decide⟩
  have f77 : Exa Z h70 c14 "com/example/tracewright/tracewright/engine/expr/UnaryOp" := (((((((((((((((P48.ext E1).wr W5).wr W10).wr W15).wr W20).wr W25).wr W30).wr W35).wr W40).wr W45).wr W50).wr W55).wr W60).wr W65).wr W70)
  obtain ⟨T76, h76, X76, e76, W76, st76⟩ := stR X73 hx hZ e73 Ar75 (j := (14 : Int32)) hin75 rfl (Sto.ofV Ar75 q75 O1 (Ins.self f77)) (g := (mkF m 103 #[.val (.int pi0), .val (.int pi1), .unset, .unset, .unset, .unset, .unset, .unset] [(.ref c14), (.int (14 : Int32)), (.ref b1), (.ref b1)])) rfl rfl (hb hby at_103)
  have N76 := Fr.snoc X76 N70 ge1
  have Z76 : n0 ≤ h76.size := Nat.le_trans Z70 (Keep.of_wr W76).1
  have V76 : Arv Z h76 b1 k1 (.object "com/example/tracewright/tracewright/engine/expr/UnaryOp") (16 : Int32) [(.ref c0), (.ref c1), (.ref c2), (.ref c3), (.ref c4), (.ref c5), (.ref c6), (.ref c7), (.ref c8), (.ref c9), (.ref c10), (.ref c11), (.ref c12), (.ref c13), (.ref c14), .null] .null := Arv.set Ar75 q75 S75 N75 H75 G75 rfl W76 14 rfl (Nat.le_of_ble_eq_true rfl)
  have f78 : Sta Z h76 "com/example/tracewright/tracewright/engine/expr/UnaryOp" "I2S" "Lcom/example/tracewright/tracewright/engine/expr/UnaryOp;" (.ref c15) := ((((((((((((((((P15.ext E1).wr W5).wr W10).wr W15).wr W20).wr W25).wr W30).wr W35).wr W40).wr W45).wr W50).wr W55).wr W60).wr W65).wr W70).wr W76)
  obtain ⟨T79, X79, e79, st79⟩ := getS2 X76 hx hZ hown (host := "") (Or.inl (hw _ (List.mem_of_getElem? (i := 34) rfl))) Via.refl e76 f78 (g := (mkF m 107 #[.val (.int pi0), .val (.int pi1), .unset, .unset, .unset, .unset, .unset, .unset] [(.int (15 : Int32)), (.ref b1), (.ref b1)])) rfl (hb hby at_107)
  obtain ⟨cl80, Ar80, q80, S80, N80, H80, G80⟩ := id V76
  have hin80 : ¬ ((15 : Int32) < 0 ∨ cl80.slots.size ≤ ((15 : Int32)).toNatClampNeg) := inb_of S80 ⟨by decide, by decide⟩
  have f82 : Exa Z h76 c15 "com/example/tracewright/tracewright/engine/expr/UnaryOp" := ((((((((((((((((P50.ext E1).wr W5).wr W10).wr W15).wr W20).wr W25).wr W30).wr W35).wr W40).wr W45).wr W50).wr W55).wr W60).wr W65).wr W70).wr W76)
  obtain ⟨T81, h81, X81, e81, W81, st81⟩ := stR X79 hx hZ e79 Ar80 (j := (15 : Int32)) hin80 rfl (Sto.ofV Ar80 q80 O1 (Ins.self f82)) (g := (mkF m 110 #[.val (.int pi0), .val (.int pi1), .unset, .unset, .unset, .unset, .unset, .unset] [(.ref c15), (.int (15 : Int32)), (.ref b1), (.ref b1)])) rfl rfl (hb hby at_110)
  have N81 := Fr.snoc X81 N76 ge1
  have Z81 : n0 ≤ h81.size := Nat.le_trans Z76 (Keep.of_wr W81).1
  have V81 : Arv Z h81 b1 k1 (.object "com/example/tracewright/tracewright/engine/expr/UnaryOp") (16 : Int32) [(.ref c0), (.ref c1), (.ref c2), (.ref c3), (.ref c4), (.ref c5), (.ref c6), (.ref c7), (.ref c8), (.ref c9), (.ref c10), (.ref c11), (.ref c12), (.ref c13), (.ref c14), (.ref c15)] .null := Arv.set Ar80 q80 S80 N80 H80 G80 rfl W81 15 rfl (Nat.le_of_ble_eq_true rfl)
  obtain ⟨T83, h83, k83, X83, e83, E83, A83, O83, st83⟩ := newR X81 hx hZ hown (hw _ (List.mem_of_getElem? (i := 36) rfl)) (hw _ (List.mem_of_getElem? (i := 37) rfl)) e81 (g := (mkF m 113 #[.val (.int pi0), .val (.int pi1), .val (.ref b1), .unset, .unset, .unset, .unset, .unset] [(.int (4 : Int32))])) rfl (hb hby at_113) rfl (by decide) (cap := 4) (by decide) (by decide) (by decide) (by decide)
  obtain ⟨b83, g83⟩ : ∃ zsz, zsz = h81.size := ⟨_, rfl⟩
  rw [← g83] at A83 st83
  have f84 : Exa Z h81 c5 "com/example/tracewright/tracewright/engine/expr/UnaryOp" := (((((((((((f31.wr W30).wr W35).wr W40).wr W45).wr W50).wr W55).wr W60).wr W65).wr W70).wr W76).wr W81)
  have ne83_c5 : c5 ≠ b83 := Nat.ne_of_lt (Nat.lt_of_lt_of_eq f84.lt g83.symm)
  have f85 : Exa Z h81 c10 "com/example/tracewright/tracewright/engine/expr/UnaryOp" := ((((((f56.wr W55).wr W60).wr W65).wr W70).wr W76).wr W81)
  have ne83_c10 : c10 ≠ b83 := Nat.ne_of_lt (Nat.lt_of_lt_of_eq f85.lt g83.symm)
  have f86 : Exa Z h81 c14 "com/example/tracewright/tracewright/engine/expr/UnaryOp" := ((f77.wr W76).wr W81)
  have ne83_c14 : c14 ≠ b83 := Nat.ne_of_lt (Nat.lt_of_lt_of_eq f86.lt g83.symm)
  have ne83_b1 : b1 ≠ b83 := Nat.ne_of_lt (Nat.lt_of_lt_of_eq V81.lt g83.symm)
  have f87 : Exa Z h81 d3 "com/example/tracewright/tracewright/engine/expr/Kind" := (((((((((((((((((P55.ext E1).wr W5).wr W10).wr W15).wr W20).wr W25).wr W30).wr W35).wr W40).wr W45).wr W50).wr W55).wr W60).wr W65).wr W70).wr W76).wr W81)
  have ne83_d3 : d3 ≠ b83 := Nat.ne_of_lt (Nat.lt_of_lt_of_eq f87.lt g83.symm)
  have f88 : Exa Z h81 d1 "com/example/tracewright/tracewright/engine/expr/Kind" := (((((((((((((((((P53.ext E1).wr W5).wr W10).wr W15).wr W20).wr W25).wr W30).wr W35).wr W40).wr W45).wr W50).wr W55).wr W60).wr W65).wr W70).wr W76).wr W81)
  have ne83_d1 : d1 ≠ b83 := Nat.ne_of_lt (Nat.lt_of_lt_of_eq f88.lt g83.symm)
  have f89 : Exa Z h81 c3 "com/example/tracewright/tracewright/engine/expr/UnaryOp" := (((((((((((((f21.wr W20).wr W25).wr W30).wr W35).wr W40).wr W45).wr W50).wr W55).wr W60).wr W65).wr W70).wr W76).wr W81)
  have ne83_c3 : c3 ≠ b83 := Nat.ne_of_lt (Nat.lt_of_lt_of_eq f89.lt g83.symm)
  have f90 : Exa Z h81 c9 "com/example/tracewright/tracewright/engine/expr/UnaryOp" := (((((((f51.wr W50).wr W55).wr W60).wr W65).wr W70).wr W76).wr W81)
  have ne83_c9 : c9 ≠ b83 := Nat.ne_of_lt (Nat.lt_of_lt_of_eq f90.lt g83.symm)
  have f91 : Exa Z h81 c15 "com/example/tracewright/tracewright/engine/expr/UnaryOp" := (f82.wr W81)
  have ne83_c15 : c15 ≠ b83 := Nat.ne_of_lt (Nat.lt_of_lt_of_eq f91.lt g83.symm)
  have f92 : Exa Z h81 c1 "com/example/tracewright/tracewright/engine/expr/UnaryOp" := (((((((((((((((f11.wr W10).wr W15).wr W20).wr W25).wr W30).wr W35).wr W40).wr W45).wr W50).wr W55).wr W60).wr W65).wr W70).wr W76).wr W81)
  have ne83_c1 : c1 ≠ b83 := Nat.ne_of_lt (Nat.lt_of_lt_of_eq f92.lt g83.symm)
  have f93 : Exa Z h81 c13 "com/example/tracewright/tracewright/engine/expr/UnaryOp" := (((f71.wr W70).wr W76).wr W81)
  have ne83_c13 : c13 ≠ b83 := Nat.ne_of_lt (Nat.lt_of_lt_of_eq f93.lt g83.symm)
  have f94 : Exa Z h81 c4 "com/example/tracewright/tracewright/engine/expr/UnaryOp" := ((((((((((((f26.wr W25).wr W30).wr W35).wr W40).wr W45).wr W50).wr W55).wr W60).wr W65).wr W70).wr W76).wr W81)
  have ne83_c4 : c4 ≠ b83 := Nat.ne_of_lt (Nat.lt_of_lt_of_eq f94.lt g83.symm)
  have f95 : Exa Z h81 c6 "com/example/tracewright/tracewright/engine/expr/UnaryOp" := ((((((((((f36.wr W35).wr W40).wr W45).wr W50).wr W55).wr W60).wr W65).wr W70).wr W76).wr W81)
  have ne83_c6 : c6 ≠ b83 := Nat.ne_of_lt (Nat.lt_of_lt_of_eq f95.lt g83.symm)
  have f96 : Exa Z h81 d2 "com/example/tracewright/tracewright/engine/expr/Kind" := (((((((((((((((((P54.ext E1).wr W5).wr W10).wr W15).wr W20).wr W25).wr W30).wr W35).wr W40).wr W45).wr W50).wr W55).wr W60).wr W65).wr W70).wr W76).wr W81)
  have ne83_d2 : d2 ≠ b83 := Nat.ne_of_lt (Nat.lt_of_lt_of_eq f96.lt g83.symm)
  have f97 : Exa Z h81 c0 "com/example/tracewright/tracewright/engine/expr/UnaryOp" := ((((((((((((((((f6.wr W5).wr W10).wr W15).wr W20).wr W25).wr W30).wr W35).wr W40).wr W45).wr W50).wr W55).wr W60).wr W65).wr W70).wr W76).wr W81)
  have ne83_c0 : c0 ≠ b83 := Nat.ne_of_lt (Nat.lt_of_lt_of_eq f97.lt g83.symm)
  have f98 : Exa Z h81 c8 "com/example/tracewright/tracewright/engine/expr/UnaryOp" := ((((((((f46.wr W45).wr W50).wr W55).wr W60).wr W65).wr W70).wr W76).wr W81)
  have ne83_c8 : c8 ≠ b83 := Nat.ne_of_lt (Nat.lt_of_lt_of_eq f98.lt g83.symm)
  have f99 : Exa Z h81 c2 "com/example/tracewright/tracewright/engine/expr/UnaryOp" := ((((((((((((((f16.wr W15).wr W20).wr W25).wr W30).wr W35).wr W40).wr W45).wr W50).wr W55).wr W60).wr W65).wr W70).wr W76).wr W81)
  have ne83_c2 : c2 ≠ b83 := Nat.ne_of_lt (Nat.lt_of_lt_of_eq f99.lt g83.symm)
  have f100 : Exa Z h81 c11 "com/example/tracewright/tracewright/engine/expr/UnaryOp" := (((((f61.wr W60).wr W65).wr W70).wr W76).wr W81)
  have ne83_c11 : c11 ≠ b83 := Nat.ne_of_lt (Nat.lt_of_lt_of_eq f100.lt g83.symm)
  have f101 : Exa Z h81 d0 "com/example/tracewright/tracewright/engine/expr/Kind" := (((((((((((((((((P52.ext E1).wr W5).wr W10).wr W15).wr W20).wr W25).wr W30).wr W35).wr W40).wr W45).wr W50).wr W55).wr W60).wr W65).wr W70).wr W76).wr W81)
  have ne83_d0 : d0 ≠ b83 := Nat.ne_of_lt (Nat.lt_of_lt_of_eq f101.lt g83.symm)
  have f102 : Exa Z h81 c12 "com/example/tracewright/tracewright/engine/expr/UnaryOp" := ((((f66.wr W65).wr W70).wr W76).wr W81)
  have ne83_c12 : c12 ≠ b83 := Nat.ne_of_lt (Nat.lt_of_lt_of_eq f102.lt g83.symm)
  have f103 : Exa Z h81 c7 "com/example/tracewright/tracewright/engine/expr/UnaryOp" := (((((((((f41.wr W40).wr W45).wr W50).wr W55).wr W60).wr W65).wr W70).wr W76).wr W81)
  have ne83_c7 : c7 ≠ b83 := Nat.ne_of_lt (Nat.lt_of_lt_of_eq f103.lt g83.symm)
  have ge83 : n0 ≤ b83 := Nat.le_trans Z81 (Nat.le_of_eq g83.symm)
  have Z83 : n0 ≤ h83.size := Nat.le_trans Z81 E83.1
  have V83 : Arv Z h83 b83 k83 (.object "com/example/tracewright/tracewright/engine/expr/Kind") (4 : Int32) [.null, .null, .null, .null] .null := (Arv.new A83 (by decide)).pad (pad_rep [] .null 4)
  have f104 : Sta Z h83 "com/example/tracewright/tracewright/engine/expr/Kind" "INT" "Lcom/example/tracewright/tracewright/engine/expr/Kind;" (.ref d0) := ((((((((((((((((((P16.ext E1).wr W5).wr W10).wr W15).wr W20).wr W25).wr W30).wr W35).wr W40).wr W45).wr W50).wr W55).wr W60).wr W65).wr W70).wr W76).wr W81).ext E83)
  obtain ⟨T105, X105, e105, st105⟩ := getS2 X83 hx hZ hown (host := "") (Or.inl (hw _ (List.mem_of_getElem? (i := 38) rfl))) Via.refl e83 f104 (g := (mkF m 118 #[.val (.int pi0), .val (.int pi1), .val (.ref b1), .unset, .unset, .unset, .unset, .unset] [(.int (0 : Int32)), (.ref b83), (.ref b83)])) rfl (hb hby at_118)
  obtain ⟨cl106, Ar106, q106, S106, N106, H106, G106⟩ := id V83
  have hin106 : ¬ ((0 : Int32) < 0 ∨ cl106.slots.size ≤ ((0 : Int32)).toNatClampNeg) := inb_of S106 ⟨by decide, by decide⟩
  have f108 : Exa Z h83 d0 "com/example/tracewright/tracewright/engine/expr/Kind" := (f101.ext E83)
  obtain ⟨T107, h107, X107, e107, W107, st107⟩ := stR X105 hx hZ e105 Ar106 (j := (0 : Int32)) hin106 rfl (Sto.ofV Ar106 q106 O83 (Ins.self f108)) (g := (mkF m 121 #[.val (.int pi0), .val (.int pi1), .val (.ref b1), .unset, .unset, .unset, .unset, .unset] [(.ref d0), (.int (0 : Int32)), (.ref b83), (.ref b83)])) rfl rfl (hb hby at_121)
  have N107 := Fr.snoc X107 N81 ge83
  have Z107 : n0 ≤ h107.size := Nat.le_trans Z83 (Keep.of_wr W107).1
  have V107 : Arv Z h107 b83 k83 (.object "com/example/tracewright/tracewright/engine/expr/Kind") (4 : Int32) [(.ref d0), .null, .null, .null] .null := Arv.set Ar106 q106 S106 N106 H106 G106 rfl W107 0 rfl (Nat.le_of_ble_eq_true rfl)
  have f109 : Sta Z h107 "com/example/tracewright/tracewright/engine/expr/Kind" "LONG" "Lcom/example/tracewright/tracewright/engine/expr/Kind;" (.ref d1) := (((((((((((((((((((P17.ext E1).wr W5).wr W10).wr W15).wr W20).wr W25).wr W30).wr W35).wr W40).wr W45).wr W50).wr W55).wr W60).wr W65).wr W70).wr W76).wr W81).ext E83).wr W107)
  obtain ⟨T110, X110, e110, st110⟩ := getS2 X107 hx hZ hown (host := "") (Or.inl (hw _ (List.mem_of_getElem? (i := 42) rfl))) Via.refl e107 f109 (g := (mkF m 124 #[.val (.int pi0), .val (.int pi1), .val (.ref b1), .unset, .unset, .unset, .unset, .unset] [(.int (1 : Int32)), (.ref b83), (.ref b83)])) rfl (hb hby at_124)
  obtain ⟨cl111, Ar111, q111, S111, N111, H111, G111⟩ := id V107
  have hin111 : ¬ ((1 : Int32) < 0 ∨ cl111.slots.size ≤ ((1 : Int32)).toNatClampNeg) := inb_of S111 ⟨by decide, by decide⟩
  have f113 : Exa Z h107 d1 "com/example/tracewright/tracewright/engine/expr/Kind" := ((f88.ext E83).wr W107)
  obtain ⟨T112, h112, X112, e112, W112, st112⟩ := stR X110 hx hZ e110 Ar111 (j := (1 : Int32)) hin111 rfl (Sto.ofV Ar111 q111 O83 (Ins.self f113)) (g := (mkF m 127 #[.val (.int pi0), .val (.int pi1), .val (.ref b1), .unset, .unset, .unset, .unset, .unset] [(.ref d1), (.int (1 : Int32)), (.ref b83), (.ref b83)])) rfl rfl (hb hby at_127)
  have N112 := Fr.snoc X112 N107 ge83
  have Z112 : n0 ≤ h112.size := Nat.le_trans Z107 (Keep.of_wr W112).1
  have V112 : Arv Z h112 b83 k83 (.object "com/example/tracewright/tracewright/engine/expr/Kind") (4 : Int32) [(.ref d0), (.ref d1), .null, .null] .null := Arv.set Ar111 q111 S111 N111 H111 G111 rfl W112 1 rfl (Nat.le_of_ble_eq_true rfl)
  have f114 : Sta Z h112 "com/example/tracewright/tracewright/engine/expr/Kind" "FLOAT" "Lcom/example/tracewright/tracewright/engine/expr/Kind;" (.ref d2) := ((((((((((((((((((((P18.ext E1).wr W5).wr W10).wr W15).wr W20).wr W25).wr W30).wr W35).wr W40).wr W45).wr W50).wr W55).wr W60).wr W65).wr W70).wr W76).wr W81).ext E83).wr W107).wr W112)
  obtain ⟨T115, X115, e115, st115⟩ := getS2 X112 hx hZ hown (host := "") (Or.inl (hw _ (List.mem_of_getElem? (i := 44) rfl))) Via.refl e112 f114 (g := (mkF m 130 #[.val (.int pi0), .val (.int pi1), .val (.ref b1), .unset, .unset, .unset, .unset, .unset] [(.int (2 : Int32)), (.ref b83), (.ref b83)])) rfl (hb hby at_130)
  obtain ⟨cl116, Ar116, q116, S116, N116, H116, G116⟩ := id V112
  have hin116 : ¬ ((2 : Int32) < 0 ∨ cl116.slots.size ≤ ((2 : Int32)).toNatClampNeg) := inb_of S116 ⟨by decide, by decide⟩
  have f118 : Exa Z h112 d2 "com/example/tracewright/tracewright/engine/expr/Kind" := (((f96.ext E83).wr W107).wr W112)
  obtain ⟨T117, h117, X117, e117, W117, st117⟩ := stR X115 hx hZ e115 Ar116 (j := (2 : Int32)) hin116 rfl (Sto.ofV Ar116 q116 O83 (Ins.self f118)) (g := (mkF m 133 #[.val (.int pi0), .val (.int pi1), .val (.ref b1), .unset, .unset, .unset, .unset, .unset] [(.ref d2), (.int (2 : Int32)), (.ref b83), (.ref b83)])) rfl rfl (hb hby at_133)
  have N117 := Fr.snoc X117 N112 ge83
  have Z117 : n0 ≤ h117.size := Nat.le_trans Z112 (Keep.of_wr W117).1
  have V117 : Arv Z h117 b83 k83 (.object "com/example/tracewright/tracewright/engine/expr/Kind") (4 : Int32) [(.ref d0), (.ref d1), (.ref d2), .null] .null := Arv.set Ar116 q116 S116 N116 H116 G116 rfl W117 2 rfl (Nat.le_of_ble_eq_true rfl)
  have f119 : Sta Z h117 "com/example/tracewright/tracewright/engine/expr/Kind" "DOUBLE" "Lcom/example/tracewright/tracewright/engine/expr/Kind;" (.ref d3) := (((((((((((((((((((((P19.ext E1).wr W5).wr W10).wr W15).wr W20).wr W25).wr W30).wr W35).wr W40).wr W45).wr W50).wr W55).wr W60).wr W65).wr W70).wr W76).wr W81).ext E83).wr W107).wr W112).wr W117)
  obtain ⟨T120, X120, e120, st120⟩ := getS2 X117 hx hZ hown (host := "") (Or.inl (hw _ (List.mem_of_getElem? (i := 46) rfl))) Via.refl e117 f119 (g := (mkF m 136 #[.val (.int pi0), .val (.int pi1), .val (.ref b1), .unset, .unset, .unset, .unset, .unset] [(.int (3 : Int32)), (.ref b83), (.ref b83)])) rfl (hb hby at_136)
  obtain ⟨cl121, Ar121, q121, S121, N121, H121, G121⟩ := id V117
  have hin121 : ¬ ((3 : Int32) < 0 ∨ cl121.slots.size ≤ ((3 : Int32)).toNatClampNeg) := inb_of S121 ⟨by decide, by decide⟩
  have f123 : Exa Z h117 d3 "com/example/tracewright/tracewright/engine/expr/Kind" := ((((f87.ext E83).wr W107).wr W112).wr W117)
  obtain ⟨T122, h122, X122, e122, W122, st122⟩ := stR X120 hx hZ e120 Ar121 (j := (3 : Int32)) hin121 rfl (Sto.ofV Ar121 q121 O83 (Ins.self f123)) (g := (mkF m 139 #[.val (.int pi0), .val (.int pi1), .val (.ref b1), .unset, .unset, .unset, .unset, .unset] [(.ref d3), (.int (3 : Int32)), (.ref b83), (.ref b83)])) rfl rfl (hb hby at_139)
  have N122 := Fr.snoc X122 N117 ge83
  have Z122 : n0 ≤ h122.size := Nat.le_trans Z117 (Keep.of_wr W122).1
  have V122 : Arv Z h122 b83 k83 (.object "com/example/tracewright/tracewright/engine/expr/Kind") (4 : Int32) [(.ref d0), (.ref d1), (.ref d2), (.ref d3)] .null := Arv.set Ar121 q121 S121 N121 H121 G121 rfl W122 3 rfl (Nat.le_of_ble_eq_true rfl)
  have f124 : Exa Z h122 c0 "com/example/tracewright/tracewright/engine/expr/UnaryOp" := (((((f97.ext E83).wr W107).wr W112).wr W117).wr W122)
  have f125 : Fld Z h122 c0 "com/example/tracewright/tracewright/engine/expr/UnaryOp" "from" "Lcom/example/tracewright/tracewright/engine/expr/Kind;" .null := ((((((((((((((((((((((P21.ext E1).other W5 (Or.inl ne1_c0)).other W10 (Or.inl ne1_c0)).other W15 (Or.inl ne1_c0)).other W20 (Or.inl ne1_c0)).other W25 (Or.inl ne1_c0)).other W30 (Or.inl ne1_c0)).other W35 (Or.inl ne1_c0)).other W40 (Or.inl ne1_c0)).other W45 (Or.inl ne1_c0)).other W50 (Or.inl ne1_c0)).other W55 (Or.inl ne1_c0)).other W60 (Or.inl ne1_c0)).other W65 (Or.inl ne1_c0)).other W70 (Or.inl ne1_c0)).other W76 (Or.inl ne1_c0)).other W81 (Or.inl ne1_c0)).ext E83).other W107 (Or.inl ne83_c0)).other W112 (Or.inl ne83_c0)).other W117 (Or.inl ne83_c0)).other W122 (Or.inl ne83_c0))
  have f126 : Exa Z h122 c1 "com/example/tracewright/tracewright/engine/expr/UnaryOp" := (((((f92.ext E83).wr W107).wr W112).wr W117).wr W122)
  have f127 : Fld Z h122 c1 "com/example/tracewright/tracewright/engine/expr/UnaryOp" "from" "Lcom/example/tracewright/tracewright/engine/expr/Kind;" (.ref d0) := ((((((((((((((((((((((P23.ext E1).other W5 (Or.inl ne1_c1)).other W10 (Or.inl ne1_c1)).other W15 (Or.inl ne1_c1)).other W20 (Or.inl ne1_c1)).other W25 (Or.inl ne1_c1)).other W30 (Or.inl ne1_c1)).other W35 (Or.inl ne1_c1)).other W40 (Or.inl ne1_c1)).other W45 (Or.inl ne1_c1)).other W50 (Or.inl ne1_c1)).other W55 (Or.inl ne1_c1)).other W60 (Or.inl ne1_c1)).other W65 (Or.inl ne1_c1)).other W70 (Or.inl ne1_c1)).other W76 (Or.inl ne1_c1)).other W81 (Or.inl ne1_c1)).ext E83).other W107 (Or.inl ne83_c1)).other W112 (Or.inl ne83_c1)).other W117 (Or.inl ne83_c1)).other W122 (Or.inl ne83_c1))
  have f128 : Exa Z h122 c2 "com/example/tracewright/tracewright/engine/expr/UnaryOp" := (((((f99.ext E83).wr W107).wr W112).wr W117).wr W122)
  have f129 : Fld Z h122 c2 "com/example/tracewright/tracewright/engine/expr/UnaryOp" "from" "Lcom/example/tracewright/tracewright/engine/expr/Kind;" (.ref d0) := ((((((((((((((((((((((P25.ext E1).other W5 (Or.inl ne1_c2)).other W10 (Or.inl ne1_c2)).other W15 (Or.inl ne1_c2)).other W20 (Or.inl ne1_c2)).other W25 (Or.inl ne1_c2)).other W30 (Or.inl ne1_c2)).other W35 (Or.inl ne1_c2)).other W40 (Or.inl ne1_c2)).other W45 (Or.inl ne1_c2)).other W50 (Or.inl ne1_c2)).other W55 (Or.inl ne1_c2)).other W60 (Or.inl ne1_c2)).other W65 (Or.inl ne1_c2)).other W70 (Or.inl ne1_c2)).other W76 (Or.inl ne1_c2)).other W81 (Or.inl ne1_c2)).ext E83).other W107 (Or.inl ne83_c2)).other W112 (Or.inl ne83_c2)).other W117 (Or.inl ne83_c2)).other W122 (Or.inl ne83_c2))
  have f130 : Exa Z h122 c3 "com/example/tracewright/tracewright/engine/expr/UnaryOp" := (((((f89.ext E83).wr W107).wr W112).wr W117).wr W122)
  have f131 : Fld Z h122 c3 "com/example/tracewright/tracewright/engine/expr/UnaryOp" "from" "Lcom/example/tracewright/tracewright/engine/expr/Kind;" (.ref d0) := ((((((((((((((((((((((P27.ext E1).other W5 (Or.inl ne1_c3)).other W10 (Or.inl ne1_c3)).other W15 (Or.inl ne1_c3)).other W20 (Or.inl ne1_c3)).other W25 (Or.inl ne1_c3)).other W30 (Or.inl ne1_c3)).other W35 (Or.inl ne1_c3)).other W40 (Or.inl ne1_c3)).other W45 (Or.inl ne1_c3)).other W50 (Or.inl ne1_c3)).other W55 (Or.inl ne1_c3)).other W60 (Or.inl ne1_c3)).other W65 (Or.inl ne1_c3)).other W70 (Or.inl ne1_c3)).other W76 (Or.inl ne1_c3)).other W81 (Or.inl ne1_c3)).ext E83).other W107 (Or.inl ne83_c3)).other W112 (Or.inl ne83_c3)).other W117 (Or.inl ne83_c3)).other W122 (Or.inl ne83_c3))
  have f132 : Exa Z h122 c4 "com/example/tracewright/tracewright/engine/expr/UnaryOp" := (((((f94.ext E83).wr W107).wr W112).wr W117).wr W122)
  have f133 : Fld Z h122 c4 "com/example/tracewright/tracewright/engine/expr/UnaryOp" "from" "Lcom/example/tracewright/tracewright/engine/expr/Kind;" (.ref d1) := ((((((((((((((((((((((P29.ext E1).other W5 (Or.inl ne1_c4)).other W10 (Or.inl ne1_c4)).other W15 (Or.inl ne1_c4)).other W20 (Or.inl ne1_c4)).other W25 (Or.inl ne1_c4)).other W30 (Or.inl ne1_c4)).other W35 (Or.inl ne1_c4)).other W40 (Or.inl ne1_c4)).other W45 (Or.inl ne1_c4)).other W50 (Or.inl ne1_c4)).other W55 (Or.inl ne1_c4)).other W60 (Or.inl ne1_c4)).other W65 (Or.inl ne1_c4)).other W70 (Or.inl ne1_c4)).other W76 (Or.inl ne1_c4)).other W81 (Or.inl ne1_c4)).ext E83).other W107 (Or.inl ne83_c4)).other W112 (Or.inl ne83_c4)).other W117 (Or.inl ne83_c4)).other W122 (Or.inl ne83_c4))
  have f134 : Exa Z h122 c5 "com/example/tracewright/tracewright/engine/expr/UnaryOp" := (((((f84.ext E83).wr W107).wr W112).wr W117).wr W122)
  have f135 : Fld Z h122 c5 "com/example/tracewright/tracewright/engine/expr/UnaryOp" "from" "Lcom/example/tracewright/tracewright/engine/expr/Kind;" (.ref d1) := ((((((((((((((((((((((P31.ext E1).other W5 (Or.inl ne1_c5)).other W10 (Or.inl ne1_c5)).other W15 (Or.inl ne1_c5)).other W20 (Or.inl ne1_c5)).other W25 (Or.inl ne1_c5)).other W30 (Or.inl ne1_c5)).other W35 (Or.inl ne1_c5)).other W40 (Or.inl ne1_c5)).other W45 (Or.inl ne1_c5)).other W50 (Or.inl ne1_c5)).other W55 (Or.inl ne1_c5)).other W60 (Or.inl ne1_c5)).other W65 (Or.inl ne1_c5)).other W70 (Or.inl ne1_c5)).other W76 (Or.inl ne1_c5)).other W81 (Or.inl ne1_c5)).ext E83).other W107 (Or.inl ne83_c5)).other W112 (Or.inl ne83_c5)).other W117 (Or.inl ne83_c5)).other W122 (Or.inl ne83_c5))
  have f136 : Exa Z h122 c6 "com/example/tracewright/tracewright/engine/expr/UnaryOp" := (((((f95.ext E83).wr W107).wr W112).wr W117).wr W122)
  have f137 : Fld Z h122 c6 "com/example/tracewright/tracewright/engine/expr/UnaryOp" "from" "Lcom/example/tracewright/tracewright/engine/expr/Kind;" (.ref d1) := ((((((((((((((((((((((P33.ext E1).other W5 (Or.inl ne1_c6)).other W10 (Or.inl ne1_c6)).other W15 (Or.inl ne1_c6)).other W20 (Or.inl ne1_c6)).other W25 (Or.inl ne1_c6)).other W30 (Or.inl ne1_c6)).other W35 (Or.inl ne1_c6)).other W40 (Or.inl ne1_c6)).other W45 (Or.inl ne1_c6)).other W50 (Or.inl ne1_c6)).other W55 (Or.inl ne1_c6)).other W60 (Or.inl ne1_c6)).other W65 (Or.inl ne1_c6)).other W70 (Or.inl ne1_c6)).other W76 (Or.inl ne1_c6)).other W81 (Or.inl ne1_c6)).ext E83).other W107 (Or.inl ne83_c6)).other W112 (Or.inl ne83_c6)).other W117 (Or.inl ne83_c6)).other W122 (Or.inl ne83_c6))
  have f138 : Exa Z h122 c7 "com/example/tracewright/tracewright/engine/expr/UnaryOp" := (((((f103.ext E83).wr W107).wr W112).wr W117).wr W122)
  have f139 : Fld Z h122 c7 "com/example/tracewright/tracewright/engine/expr/UnaryOp" "from" "Lcom/example/tracewright/tracewright/engine/expr/Kind;" (.ref d2) := ((((((((((((((((((((((P35.ext E1).other W5 (Or.inl ne1_c7)).other W10 (Or.inl ne1_c7)).other W15 (Or.inl ne1_c7)).other W20 (Or.inl ne1_c7)).other W25 (Or.inl ne1_c7)).other W30 (Or.inl ne1_c7)).other W35 (Or.inl ne1_c7)).other W40 (Or.inl ne1_c7)).other W45 (Or.inl ne1_c7)).other W50 (Or.inl ne1_c7)).other W55 (Or.inl ne1_c7)).other W60 (Or.inl ne1_c7)).other W65 (Or.inl ne1_c7)).other W70 (Or.inl ne1_c7)).other W76 (Or.inl ne1_c7)).other W81 (Or.inl ne1_c7)).ext E83).other W107 (Or.inl ne83_c7)).other W112 (Or.inl ne83_c7)).other W117 (Or.inl ne83_c7)).other W122 (Or.inl ne83_c7))
  have f140 : Exa Z h122 c8 "com/example/tracewright/tracewright/engine/expr/UnaryOp" := (((((f98.ext E83).wr W107).wr W112).wr W117).wr W122)
  have f141 : Fld Z h122 c8 "com/example/tracewright/tracewright/engine/expr/UnaryOp" "from" "Lcom/example/tracewright/tracewright/engine/expr/Kind;" (.ref d2) := ((((((((((((((((((((((P37.ext E1).other W5 (Or.inl ne1_c8)).other W10 (Or.inl ne1_c8)).other W15 (Or.inl ne1_c8)).other W20 (Or.inl ne1_c8)).other W25 (Or.inl ne1_c8)).other W30 (Or.inl ne1_c8)).other W35 (Or.inl ne1_c8)).other W40 (Or.inl ne1_c8)).other W45 (Or.inl ne1_c8)).other W50 (Or.inl ne1_c8)).other W55 (Or.inl ne1_c8)).other W60 (Or.inl ne1_c8)).other W65 (Or.inl ne1_c8)).other W70 (Or.inl ne1_c8)).other W76 (Or.inl ne1_c8)).other W81 (Or.inl ne1_c8)).ext E83).other W107 (Or.inl ne83_c8)).other W112 (Or.inl ne83_c8)).other W117 (Or.inl ne83_c8)).other W122 (Or.inl ne83_c8))
  have f142 : Exa Z h122 c9 "com/example/tracewright/tracewright/engine/expr/UnaryOp" := (((((f90.ext E83).wr W107).wr W112).wr W117).wr W122)
  have f143 : Fld Z h122 c9 "com/example/tracewright/tracewright/engine/expr/UnaryOp" "from" "Lcom/example/tracewright/tracewright/engine/expr/Kind;" (.ref d2) := ((((((((((((((((((((((P39.ext E1).other W5 (Or.inl ne1_c9)).other W10 (Or.inl ne1_c9)).other W15 (Or.inl ne1_c9)).other W20 (Or.inl ne1_c9)).other W25 (Or.inl ne1_c9)).other W30 (Or.inl ne1_c9)).other W35 (Or.inl ne1_c9)).other W40 (Or.inl ne1_c9)).other W45 (Or.inl ne1_c9)).other W50 (Or.inl ne1_c9)).other W55 (Or.inl ne1_c9)).other W60 (Or.inl ne1_c9)).other W65 (Or.inl ne1_c9)).other W70 (Or.inl ne1_c9)).other W76 (Or.inl ne1_c9)).other W81 (Or.inl ne1_c9)).ext E83).other W107 (Or.inl ne83_c9)).other W112 (Or.inl ne83_c9)).other W117 (Or.inl ne83_c9)).other W122 (Or.inl ne83_c9))
  have f144 : Exa Z h122 c10 "com/example/tracewright/tracewright/engine/expr/UnaryOp" := (((((f85.ext E83).wr W107).wr W112).wr W117).wr W122)
  have f145 : Fld Z h122 c10 "com/example/tracewright/tracewright/engine/expr/UnaryOp" "from" "Lcom/example/tracewright/tracewright/engine/expr/Kind;" (.ref d3) := ((((((((((((((((((((((P41.ext E1).other W5 (Or.inl ne1_c10)).other W10 (Or.inl ne1_c10)).other W15 (Or.inl ne1_c10)).other W20 (Or.inl ne1_c10)).other W25 (Or.inl ne1_c10)).other W30 (Or.inl ne1_c10)).other W35 (Or.inl ne1_c10)).other W40 (Or.inl ne1_c10)).other W45 (Or.inl ne1_c10)).other W50 (Or.inl ne1_c10)).other W55 (Or.inl ne1_c10)).other W60 (Or.inl ne1_c10)).other W65 (Or.inl ne1_c10)).other W70 (Or.inl ne1_c10)).other W76 (Or.inl ne1_c10)).other W81 (Or.inl ne1_c10)).ext E83).other W107 (Or.inl ne83_c10)).other W112 (Or.inl ne83_c10)).other W117 (Or.inl ne83_c10)).other W122 (Or.inl ne83_c10))
  have f146 : Exa Z h122 c11 "com/example/tracewright/tracewright/engine/expr/UnaryOp" := (((((f100.ext E83).wr W107).wr W112).wr W117).wr W122)
  have f147 : Fld Z h122 c11 "com/example/tracewright/tracewright/engine/expr/UnaryOp" "from" "Lcom/example/tracewright/tracewright/engine/expr/Kind;" (.ref d3) := ((((((((((((((((((((((P43.ext E1).other W5 (Or.inl ne1_c11)).other W10 (Or.inl ne1_c11)).other W15 (Or.inl ne1_c11)).other W20 (Or.inl ne1_c11)).other W25 (Or.inl ne1_c11)).other W30 (Or.inl ne1_c11)).other W35 (Or.inl ne1_c11)).other W40 (Or.inl ne1_c11)).other W45 (Or.inl ne1_c11)).other W50 (Or.inl ne1_c11)).other W55 (Or.inl ne1_c11)).other W60 (Or.inl ne1_c11)).other W65 (Or.inl ne1_c11)).other W70 (Or.inl ne1_c11)).other W76 (Or.inl ne1_c11)).other W81 (Or.inl ne1_c11)).ext E83).other W107 (Or.inl ne83_c11)).other W112 (Or.inl ne83_c11)).other W117 (Or.inl ne83_c11)).other W122 (Or.inl ne83_c11))
  have f148 : Exa Z h122 c12 "com/example/tracewright/tracewright/engine/expr/UnaryOp" := (((((f102.ext E83).wr W107).wr W112).wr W117).wr W122)
  have f149 : Fld Z h122 c12 "com/example/tracewright/tracewright/engine/expr/UnaryOp" "from" "Lcom/example/tracewright/tracewright/engine/expr/Kind;" (.ref d3) := ((((((((((((((((((((((P45.ext E1).other W5 (Or.inl ne1_c12)).other W10 (Or.inl ne1_c12)).other W15 (Or.inl ne1_c12)).other W20 (Or.inl ne1_c12)).other W25 (Or.inl ne1_c12)).other W30 (Or.inl ne1_c12)).other W35 (Or.inl ne1_c12)).other W40 (Or.inl ne1_c12)).other W45 (Or.inl ne1_c12)).other W50 (Or.inl ne1_c12)).other W55 (Or.inl ne1_c12)).other W60 (Or.inl ne1_c12)).other W65 (Or.inl ne1_c12)).other W70 (Or.inl ne1_c12)).other W76 (Or.inl ne1_c12)).other W81 (Or.inl ne1_c12)).ext E83).other W107 (Or.inl ne83_c12)).other W112 (Or.inl ne83_c12)).other W117 (Or.inl ne83_c12)).other W122 (Or.inl ne83_c12))
  have f150 : Exa Z h122 c13 "com/example/tracewright/tracewright/engine/expr/UnaryOp" := (((((f93.ext E83).wr W107).wr W112).wr W117).wr W122)
  have f151 : Fld Z h122 c13 "com/example/tracewright/tracewright/engine/expr/UnaryOp" "from" "Lcom/example/tracewright/tracewright/engine/expr/Kind;" (.ref d0) := ((((((((((((((((((((((P47.ext E1).other W5 (Or.inl ne1_c13)).other W10 (Or.inl ne1_c13)).other W15 (Or.inl ne1_c13)).other W20 (Or.inl ne1_c13)).other W25 (Or.inl ne1_c13)).other W30 (Or.inl ne1_c13)).other W35 (Or.inl ne1_c13)).other W40 (Or.inl ne1_c13)).other W45 (Or.inl ne1_c13)).other W50 (Or.inl ne1_c13)).other W55 (Or.inl ne1_c13)).other W60 (Or.inl ne1_c13)).other W65 (Or.inl ne1_c13)).other W70 (Or.inl ne1_c13)).other W76 (Or.inl ne1_c13)).other W81 (Or.inl ne1_c13)).ext E83).other W107 (Or.inl ne83_c13)).other W112 (Or.inl ne83_c13)).other W117 (Or.inl ne83_c13)).other W122 (Or.inl ne83_c13))
  have f152 : Exa Z h122 c14 "com/example/tracewright/tracewright/engine/expr/UnaryOp" := (((((f86.ext E83).wr W107).wr W112).wr W117).wr W122)
  have f153 : Fld Z h122 c14 "com/example/tracewright/tracewright/engine/expr/UnaryOp" "from" "Lcom/example/tracewright/tracewright/engine/expr/Kind;" (.ref d0) := ((((((((((((((((((((((P49.ext E1).other W5 (Or.inl ne1_c14)).other W10 (Or.inl ne1_c14)).other W15 (Or.inl ne1_c14)).other W20 (Or.inl ne1_c14)).other W25 (Or.inl ne1_c14)).other W30 (Or.inl ne1_c14)).other W35 (Or.inl ne1_c14)).other W40 (Or.inl ne1_c14)).other W45 (Or.inl ne1_c14)).other W50 (Or.inl ne1_c14)).other W55 (Or.inl ne1_c14)).other W60 (Or.inl ne1_c14)).other W65 (Or.inl ne1_c14)).other W70 (Or.inl ne1_c14)).other W76 (Or.inl ne1_c14)).other W81 (Or.inl ne1_c14)).ext E83).other W107 (Or.inl ne83_c14)).other W112 (Or.inl ne83_c14)).other W117 (Or.inl ne83_c14)).other W122 (Or.inl ne83_c14))
  have f154 : Exa Z h122 c15 "com/example/tracewright/tracewright/engine/expr/UnaryOp" := (((((f91.ext E83).wr W107).wr W112).wr W117).wr W122)
  have f155 : Fld Z h122 c15 "com/example/tracewright/tracewright/engine/expr/UnaryOp" "from" "Lcom/example/tracewright/tracewright/engine/expr/Kind;" (.ref d0) := ((((((((((((((((((((((P51.ext E1).other W5 (Or.inl ne1_c15)).other W10 (Or.inl ne1_c15)).other W15 (Or.inl ne1_c15)).other W20 (Or.inl ne1_c15)).other W25 (Or.inl ne1_c15)).other W30 (Or.inl ne1_c15)).other W35 (Or.inl ne1_c15)).other W40 (Or.inl ne1_c15)).other W45 (Or.inl ne1_c15)).other W50 (Or.inl ne1_c15)).other W55 (Or.inl ne1_c15)).other W60 (Or.inl ne1_c15)).other W65 (Or.inl ne1_c15)).other W70 (Or.inl ne1_c15)).other W76 (Or.inl ne1_c15)).other W81 (Or.inl ne1_c15)).ext E83).other W107 (Or.inl ne83_c15)).other W112 (Or.inl ne83_c15)).other W117 (Or.inl ne83_c15)).other W122 (Or.inl ne83_c15))
  have f156 : Exa Z h122 d0 "com/example/tracewright/tracewright/engine/expr/Kind" := ((((f108.wr W107).wr W112).wr W117).wr W122)
  have f157 : Exa Z h122 d1 "com/example/tracewright/tracewright/engine/expr/Kind" := (((f113.wr W112).wr W117).wr W122)
  have f158 : Exa Z h122 d2 "com/example/tracewright/tracewright/engine/expr/Kind" := ((f118.wr W117).wr W122)
  have f159 : Exa Z h122 d3 "com/example/tracewright/tracewright/engine/expr/Kind" := (f123.wr W122)
  have f160 : Arv Z h122 b1 k1 (.object "com/example/tracewright/tracewright/engine/expr/UnaryOp") (16 : Int32) [(.ref c0), (.ref c1), (.ref c2), (.ref c3), (.ref c4), (.ref c5), (.ref c6), (.ref c7), (.ref c8), (.ref c9), (.ref c10), (.ref c11), (.ref c12), (.ref c13), (.ref c14), (.ref c15)] .null := (((((V81.ext E83).other W107 ne83_b1).other W112 ne83_b1).other W117 ne83_b1).other W122 ne83_b1)
  have go161 : ∀ t, Steps p.tables e below (T122.setTop (mkF m 152 #[.val (.int pi0), .val (.int pi1), .val (.ref b1), .val (.ref b83), .val (.int (pi0 &&& (15 : Int32))), .val (.int (pi1 &&& (3 : Int32))), .unset, .unset] [])) t → Steps p.tables e below st0 t := by
    intro t kt
    refine go74 t ?_
    refine st76 _ ?_
    show Steps p.tables e below (T76.setTop (mkF m 104 #[.val (.int pi0), .val (.int pi1), .unset, .unset, .unset, .unset, .unset, .unset] [(.ref b1)])) _
    refine XS.dup X76.here hx rfl (hb hby at_104) rfl rfl ?_
    show Steps p.tables e below (T76.setTop (mkF m 105 #[.val (.int pi0), .val (.int pi1), .unset, .unset, .unset, .unset, .unset, .unset] [(.ref b1), (.ref b1)])) _
    refine XS.bipush X76.here hx rfl (hb hby at_105) ?_
    show Steps p.tables e below (T76.setTop (mkF m 107 #[.val (.int pi0), .val (.int pi1), .unset, .unset, .unset, .unset, .unset, .unset] [(.int (15 : Int32)), (.ref b1), (.ref b1)])) _
    refine st79 _ ?_
    show Steps p.tables e below (T79.setTop (mkF m 110 #[.val (.int pi0), .val (.int pi1), .unset, .unset, .unset, .unset, .unset, .unset] [(.ref c15), (.int (15 : Int32)), (.ref b1), (.ref b1)])) _
    refine st81 _ ?_
    show Steps p.tables e below (T81.setTop (mkF m 111 #[.val (.int pi0), .val (.int pi1), .unset, .unset, .unset, .unset, .unset, .unset] [(.ref b1)])) _
    refine XS.astoreN X81.here hx rfl (hb hby at_111) rfl rfl (l' := #[.val (.int pi0), .val (.int pi1), .val (.ref b1), .unset, .unset, .unset, .unset, .unset]) rfl ?_
    show Steps p.tables e below (T81.setTop (mkF m 112 #[.val (.int pi0), .val (.int pi1), .val (.ref b1), .unset, .unset, .unset, .unset, .unset] [])) _
    refine XS.iconst X81.here hx rfl (hb hby at_112) ?_
    show Steps p.tables e below (T81.setTop (mkF m 113 #[.val (.int pi0), .val (.int pi1), .val (.ref b1), .unset, .unset, .unset, .unset, .unset] [(.int (4 : Int32))])) _
    refine st83 _ ?_
    show Steps p.tables e below (T83.setTop (mkF m 116 #[.val (.int pi0), .val (.int pi1), .val (.ref b1), .unset, .unset, .unset, .unset, .unset] [(.ref b83)])) _
    refine XS.dup X83.here hx rfl (hb hby at_116) rfl rfl ?_
    show Steps p.tables e below (T83.setTop (mkF m 117 #[.val (.int pi0), .val (.int pi1), .val (.ref b1), .unset, .unset, .unset, .unset, .unset] [(.ref b83), (.ref b83)])) _
    refine XS.iconst X83.here hx rfl (hb hby at_117) ?_
    show Steps p.tables e below (T83.setTop (mkF m 118 #[.val (.int pi0), .val (.int pi1), .val (.ref b1), .unset, .unset, .unset, .unset, .unset] [(.int (0 : Int32)), (.ref b83), (.ref b83)])) _
    refine st105 _ ?_
    show Steps p.tables e below (T105.setTop (mkF m 121 #[.val (.int pi0), .val (.int pi1), .val (.ref b1), .unset, .unset, .unset, .unset, .unset] [(.ref d0), (.int (0 : Int32)), (.ref b83), (.ref b83)])) _
    refine st107 _ ?_
    show Steps p.tables e below (T107.setTop (mkF m 122 #[.val (.int pi0), .val (.int pi1), .val (.ref b1), .unset, .unset, .unset, .unset, .unset] [(.ref b83)])) _
    refine XS.dup X107.here hx rfl (hb hby at_122) rfl rfl ?_
    show Steps p.tables e below (T107.setTop (mkF m 123 #[.val (.int pi0), .val (.int pi1), .val (.ref b1), .unset, .unset, .unset, .unset, .unset] [(.ref b83), (.ref b83)])) _
    refine XS.iconst X107.here hx rfl (hb hby at_123) ?_
    show Steps p.tables e below (T107.setTop (mkF m 124 #[.val (.int pi0), .val (.int pi1), .val (.ref b1), .unset, .unset, .unset, .unset, .unset] [(.int (1 : Int32)), (.ref b83), (.ref b83)])) _
    refine st110 _ ?_
    show Steps p.tables e below (T110.setTop (mkF m 127 #[.val (.int pi0), .val (.int pi1), .val (.ref b1), .unset, .unset, .unset, .unset, .unset] [(.ref d1), (.int (1 : Int32)), (.ref b83), (.ref b83)])) _
    refine st112 _ ?_
    show Steps p.tables e below (T112.setTop (mkF m 128 #[.val (.int pi0), .val (.int pi1), .val (.ref b1), .unset, .unset, .unset, .unset, .unset] [(.ref b83)])) _
    refine XS.dup X112.here hx rfl (hb hby at_128) rfl rfl ?_
    show Steps p.tables e below (T112.setTop (mkF m 129 #[.val (.int pi0), .val (.int pi1), .val (.ref b1), .unset, .unset, .unset, .unset, .unset] [(.ref b83), (.ref b83)])) _
    refine XS.iconst X112.here hx rfl (hb hby at_129) ?_
    show Steps p.tables e below (T112.setTop (mkF m 130 #[.val (.int pi0), .val (.int pi1), .val (.ref b1), .unset, .unset, .unset, .unset, .unset] [(.int (2 : Int32)), (.ref b83), (.ref b83)])) _
    refine st115 _ ?_
    show Steps p.tables e below (T115.setTop (mkF m 133 #[.val (.int pi0), .val (.int pi1), .val (.ref b1), .unset, .unset, .unset, .unset, .unset] [(.ref d2), (.int (2 : Int32)), (.ref b83), (.ref b83)])) _
    refine st117 _ ?_
    show Steps p.tables e below (T117.setTop (mkF m 134 #[.val (.int pi0), .val (.int pi1), .val (.ref b1), .unset, .unset, .unset, .unset, .unset] [(.ref b83)])) _
    refine XS.dup X117.here hx rfl (hb hby at_134) rfl rfl ?_
    show Steps p.tables e below (T117.setTop (mkF m 135 #[.val (.int pi0), .val (.int pi1), .val (.ref b1), .unset, .unset, .unset, .unset, .unset] [(.ref b83), (.ref b83)])) _
    refine XS.iconst X117.here hx rfl (hb hby at_135) ?_
    show Steps p.tables e below (T117.setTop (mkF m 136 #[.val (.int pi0), .val (.int pi1), .val (.ref b1), .unset, .unset, .unset, .unset, .unset] [(.int (3 : Int32)), (.ref b83), (.ref b83)])) _
    refine st120 _ ?_
    show Steps p.tables e below (T120.setTop (mkF m 139 #[.val (.int pi0), .val (.int pi1), .val (.ref b1), .unset, .unset, .unset, .unset, .unset] [(.ref d3), (.int (3 : Int32)), (.ref b83), (.ref b83)])) _
    refine st122 _ ?_
    show Steps p.tables e below (T122.setTop (mkF m 140 #[.val (.int pi0), .val (.int pi1), .val (.ref b1), .unset, .unset, .unset, .unset, .unset] [(.ref b83)])) _
    refine XS.astoreN X122.here hx rfl (hb hby at_140) rfl rfl (l' := #[.val (.int pi0), .val (.int pi1), .val (.ref b1), .val (.ref b83), .unset, .unset, .unset, .unset]) rfl ?_
    show Steps p.tables e below (T122.setTop (mkF m 141 #[.val (.int pi0), .val (.int pi1), .val (.ref b1), .val (.ref b83), .unset, .unset, .unset, .unset] [])) _
    refine XS.iloadN X122.here hx rfl (hb hby at_141) rfl ?_
    show Steps p.tables e below (T122.setTop (mkF m 142 #[.val (.int pi0), .val (.int pi1), .val (.ref b1), .val (.ref b83), .unset, .unset, .unset, .unset] [(.int pi0)])) _
    refine XS.bipush X122.here hx rfl (hb hby at_142) ?_
    show Steps p.tables e below (T122.setTop (mkF m 144 #[.val (.int pi0), .val (.int pi1), .val (.ref b1), .val (.ref b83), .unset, .unset, .unset, .unset] [(.int (15 : Int32)), (.int pi0)])) _
    refine XS.iand X122.here hx rfl (hb hby at_144) rfl ?_
    show Steps p.tables e below (T122.setTop (mkF m 145 #[.val (.int pi0), .val (.int pi1), .val (.ref b1), .val (.ref b83), .unset, .unset, .unset, .unset] [(.int (pi0 &&& (15 : Int32)))])) _
    refine XS.istore X122.here hx rfl (hb hby at_145) rfl (l' := #[.val (.int pi0), .val (.int pi1), .val (.ref b1), .val (.ref b83), .val (.int (pi0 &&& (15 : Int32))), .unset, .unset, .unset]) rfl ?_
    show Steps p.tables e below (T122.setTop (mkF m 147 #[.val (.int pi0), .val (.int pi1), .val (.ref b1), .val (.ref b83), .val (.int (pi0 &&& (15 : Int32))), .unset, .unset, .unset] [])) _
    refine XS.iloadN X122.here hx rfl (hb hby at_147) rfl ?_
    show Steps p.tables e below (T122.setTop (mkF m 148 #[.val (.int pi0), .val (.int pi1), .val (.ref b1), .val (.ref b83), .val (.int (pi0 &&& (15 : Int32))), .unset, .unset, .unset] [(.int pi1)])) _
    refine XS.iconst X122.here hx rfl (hb hby at_148) ?_
    show Steps p.tables e below (T122.setTop (mkF m 149 #[.val (.int pi0), .val (.int pi1), .val (.ref b1), .val (.ref b83), .val (.int (pi0 &&& (15 : Int32))), .unset, .unset, .unset] [(.int (3 : Int32)), (.int pi1)])) _
    refine XS.iand X122.here hx rfl (hb hby at_149) rfl ?_
    show Steps p.tables e below (T122.setTop (mkF m 150 #[.val (.int pi0), .val (.int pi1), .val (.ref b1), .val (.ref b83), .val (.int (pi0 &&& (15 : Int32))), .unset, .unset, .unset] [(.int (pi1 &&& (3 : Int32)))])) _
    refine XS.istore X122.here hx rfl (hb hby at_150) rfl (l' := #[.val (.int pi0), .val (.int pi1), .val (.ref b1), .val (.ref b83), .val (.int (pi0 &&& (15 : Int32))), .val (.int (pi1 &&& (3 : Int32))), .unset, .unset]) rfl ?_
    show Steps p.tables e below (T122.setTop (mkF m 152 #[.val (.int pi0), .val (.int pi1), .val (.ref b1), .val (.ref b83), .val (.int (pi0 &&& (15 : Int32))), .val (.int (pi1 &&& (3 : Int32))), .unset, .unset] [])) _
    exact kt
  have hK := own_and3 pi1
  rcases own_and15 pi0 with hk162 | hk162 | hk162 | hk162 | hk162 | hk162 | hk162 | hk162 | hk162 | hk162 | hk162 | hk162 | hk162 | hk162 | hk162 | hk162
  · skip
    rw [hk162] at go161
    obtain ⟨s₂, o₂, hs₂, hr₂⟩ := own_mid0 pi0 pi1 b1 b83 (pi1 &&& (3 : Int32)) c0 c1 c2 c3 c4 c5 c6 c7 c8 c9 c10 c11 c12 c13 c14 c15 d0 d1 d2 d3 k1 k83 X122 hx hZ hw hby hml hown e122 N122 Z122 Bd.returns (BodyLoose.notSynchronized Bd) f160 V122 f124 f125 P56 P57 P58 P59 P60 P61 hK
    exact ⟨s₂, o₂, go161 _ hs₂, hr₂⟩
  · skip
    rw [hk162] at go161
    obtain ⟨s₂, o₂, hs₂, hr₂⟩ := own_mid1 pi0 pi1 b1 b83 (pi1 &&& (3 : Int32)) c0 c1 c2 c3 c4 c5 c6 c7 c8 c9 c10 c11 c12 c13 c14 c15 d0 d1 d2 d3 k1 k83 X122 hx hZ hw hby hml hown e122 N122 Z122 Bd.returns (BodyLoose.notSynchronized Bd) f160 V122 f126 f127 P56 P57 P58 P59 P60 P61 hK
    exact ⟨s₂, o₂, go161 _ hs₂, hr₂⟩
  · skip
    rw [hk162] at go161
    obtain ⟨s₂, o₂, hs₂, hr₂⟩ := own_mid2 pi0 pi1 b1 b83 (pi1 &&& (3 : Int32)) c0 c1 c2 c3 c4 c5 c6 c7 c8 c9 c10 c11 c12 c13 c14 c15 d0 d1 d2 d3 k1 k83 X122 hx hZ hw hby hml hown e122 N122 Z122 Bd.returns (BodyLoose.notSynchronized Bd) f160 V122 f128 f129 P56 P57 P58 P59 P60 P61 hK
    exact ⟨s₂, o₂, go161 _ hs₂, hr₂⟩
  · skip
    rw [hk162] at go161
    obtain ⟨s₂, o₂, hs₂, hr₂⟩ := own_mid3 pi0 pi1 b1 b83 (pi1 &&& (3 : Int32)) c0 c1 c2 c3 c4 c5 c6 c7 c8 c9 c10 c11 c12 c13 c14 c15 d0 d1 d2 d3 k1 k83 X122 hx hZ hw hby hml hown e122 N122 Z122 Bd.returns (BodyLoose.notSynchronized Bd) f160 V122 f130 f131 P56 P57 P58 P59 P60 P61 hK
    exact ⟨s₂, o₂, go161 _ hs₂, hr₂⟩
  · skip
    rw [hk162] at go161
    obtain ⟨s₂, o₂, hs₂, hr₂⟩ := own_mid4 pi0 pi1 b1 b83 (pi1 &&& (3 : Int32)) c0 c1 c2 c3 c4 c5 c6 c7 c8 c9 c10 c11 c12 c13 c14 c15 d0 d1 d2 d3 k1 k83 X122 hx hZ hw hby hml hown e122 N122 Z122 Bd.returns (BodyLoose.notSynchronized Bd) f160 V122 f132 f133 P56 P57 P58 P59 P60 P61 hK
    exact ⟨s₂, o₂, go161 _ hs₂, hr₂⟩
  · skip
    rw [hk162] at go161
    obtain ⟨s₂, o₂, hs₂, hr₂⟩ := own_mid5 pi0 pi1 b1 b83 (pi1 &&& (3 : Int32)) c0 c1 c2 c3 c4 c5 c6 c7 c8 c9 c10 c11 c12 c13 c14 c15 d0 d1 d2 d3 k1 k83 X122 hx hZ hw hby hml hown e122 N122 Z122 Bd.returns (BodyLoose.notSynchronized Bd) f160 V122 f134 f135 P56 P57 P58 P59 P60 P61 hK
    exact ⟨s₂, o₂, go161 _ hs₂, hr₂⟩
  · skip
    rw [hk162] at go161
    obtain ⟨s₂, o₂, hs₂, hr₂⟩ := own_mid6 pi0 pi1 b1 b83 (pi1 &&& (3 : Int32)) c0 c1 c2 c3 c4 c5 c6 c7 c8 c9 c10 c11 c12 c13 c14 c15 d0 d1 d2 d3 k1 k83 X122 hx hZ hw hby hml hown e122 N122 Z122 Bd.returns (BodyLoose.notSynchronized Bd) f160 V122 f136 f137 P56 P57 P58 P59 P60 P61 hK
    exact ⟨s₂, o₂, go161 _ hs₂, hr₂⟩
  · skip
    rw [hk162] at go161
    obtain ⟨s₂, o₂, hs₂, hr₂⟩ := own_mid7 pi0 pi1 b1 b83 (pi1 &&& (3 : Int32)) c0 c1 c2 c3 c4 c5 c6 c7 c8 c9 c10 c11 c12 c13 c14 c15 d0 d1 d2 d3 k1 k83 X122 hx hZ hw hby hml hown e122 N122 Z122 Bd.returns (BodyLoose.notSynchronized Bd) f160 V122 f138 f139 P56 P57 P58 P59 P60 P61 hK
    exact ⟨s₂, o₂, go161 _ hs₂, hr₂⟩
  · skip
    rw [hk162] at go161
    obtain ⟨s₂, o₂, hs₂, hr₂⟩ := own_mid8 pi0 pi1 b1 b83 (pi1 &&& (3 : Int32)) c0 c1 c2 c3 c4 c5 c6 c7 c8 c9 c10 c11 c12 c13 c14 c15 d0 d1 d2 d3 k1 k83 X122 hx hZ hw hby hml hown e122 N122 Z122 Bd.returns (BodyLoose.notSynchronized Bd) f160 V122 f140 f141 P56 P57 P58 P59 P60 P61 hK
    exact ⟨s₂, o₂, go161 _ hs₂, hr₂⟩
  · skip
    rw [hk162] at go161
    obtain ⟨s₂, o₂, hs₂, hr₂⟩ := own_mid9 pi0 pi1 b1 b83 (pi1 &&& (3 : Int32)) c0 c1 c2 c3 c4 c5 c6 c7 c8 c9 c10 c11 c12 c13 c14 c15 d0 d1 d2 d3 k1 k83 X122 hx hZ hw hby hml hown e122 N122 Z122 Bd.returns (BodyLoose.notSynchronized Bd) f160 V122 f142 f143 P56 P57 P58 P59 P60 P61 hK
    exact ⟨s₂, o₂, go161 _ hs₂, hr₂⟩
  · skip
    rw [hk162] at go161
    obtain ⟨s₂, o₂, hs₂, hr₂⟩ := own_mid10 pi0 pi1 b1 b83 (pi1 &&& (3 : Int32)) c0 c1 c2 c3 c4 c5 c6 c7 c8 c9 c10 c11 c12 c13 c14 c15 d0 d1 d2 d3 k1 k83 X122 hx hZ hw hby hml hown e122 N122 Z122 Bd.returns (BodyLoose.notSynchronized Bd) f160 V122 f144 f145 P56 P57 P58 P59 P60 P61 hK
    exact ⟨s₂, o₂, go161 _ hs₂, hr₂⟩
  · skip
    rw [hk162] at go161
    obtain ⟨s₂, o₂, hs₂, hr₂⟩ := own_mid11 pi0 pi1 b1 b83 (pi1 &&& (3 : Int32)) c0 c1 c2 c3 c4 c5 c6 c7 c8 c9 c10 c11 c12 c13 c14 c15 d0 d1 d2 d3 k1 k83 X122 hx hZ hw hby hml hown e122 N122 Z122 Bd.returns (BodyLoose.notSynchronized Bd) f160 V122 f146 f147 P56 P57 P58 P59 P60 P61 hK
    exact ⟨s₂, o₂, go161 _ hs₂, hr₂⟩
  · skip
    rw [hk162] at go161
    obtain ⟨s₂, o₂, hs₂, hr₂⟩ := own_mid12 pi0 pi1 b1 b83 (pi1 &&& (3 : Int32)) c0 c1 c2 c3 c4 c5 c6 c7 c8 c9 c10 c11 c12 c13 c14 c15 d0 d1 d2 d3 k1 k83 X122 hx hZ hw hby hml hown e122 N122 Z122 Bd.returns (BodyLoose.notSynchronized Bd) f160 V122 f148 f149 P56 P57 P58 P59 P60 P61 hK
    exact ⟨s₂, o₂, go161 _ hs₂, hr₂⟩
  · skip
    rw [hk162] at go161
    obtain ⟨s₂, o₂, hs₂, hr₂⟩ := own_mid13 pi0 pi1 b1 b83 (pi1 &&& (3 : Int32)) c0 c1 c2 c3 c4 c5 c6 c7 c8 c9 c10 c11 c12 c13 c14 c15 d0 d1 d2 d3 k1 k83 X122 hx hZ hw hby hml hown e122 N122 Z122 Bd.returns (BodyLoose.notSynchronized Bd) f160 V122 f150 f151 P56 P57 P58 P59 P60 P61 hK
    exact ⟨s₂, o₂, go161 _ hs₂, hr₂⟩
  · skip
    rw [hk162] at go161
    obtain ⟨s₂, o₂, hs₂, hr₂⟩ := own_mid14 pi0 pi1 b1 b83 (pi1 &&& (3 : Int32)) c0 c1 c2 c3 c4 c5 c6 c7 c8 c9 c10 c11 c12 c13 c14 c15 d0 d1 d2 d3 k1 k83 X122 hx hZ hw hby hml hown e122 N122 Z122 Bd.returns (BodyLoose.notSynchronized Bd) f160 V122 f152 f153 P56 P57 P58 P59 P60 P61 hK
    exact ⟨s₂, o₂, go161 _ hs₂, hr₂⟩
  · skip
    rw [hk162] at go161
    obtain ⟨s₂, o₂, hs₂, hr₂⟩ := own_mid15 pi0 pi1 b1 b83 (pi1 &&& (3 : Int32)) c0 c1 c2 c3 c4 c5 c6 c7 c8 c9 c10 c11 c12 c13 c14 c15 d0 d1 d2 d3 k1 k83 X122 hx hZ hw hby hml hown e122 N122 Z122 Bd.returns (BodyLoose.notSynchronized Bd) f160 V122 f154 f155 P56 P57 P58 P59 P60 P61 hK
    exact ⟨s₂, o₂, go161 _ hs₂, hr₂⟩
set_option maxRecDepth 65536 in
set_option maxHeartbeats 40000000 in
theorem comes_1 {Post : Tables → Env → Array Value → State → Outcome → State → Prop} (hpost : ∀ tb e args s v u, (limb_1_1.after args s (.returned v) u = true ∧ limb_1_2.after args s (.returned v) u = true ∧ True) → FrameEnd s (.returned v) u (Jvm.fieldLocs frame_1_writes args s ++ Jvm.arrayLocs frame_1_arrays args s ++ Jvm.staticLocs frame_1_statics s) 16 128 → Post tb e args s (.returned v) u) :
    ArmFor flags0 classFile x code maxLocals ret World_1 tables_1 room_1 Calls_1 rest_1 Pre_1 Post := by
  intro l hfl _ _ p e ha hc hk s m args below hf hA hF happ hP
  obtain ⟨hcalls, hrest, hpre⟩ := hP
  obtain ⟨-, -, -, hnamed, -, -, -, hat⟩ := (Spec.applies_iff hf).mp happ
  obtain ⟨hg, hn⟩ := and_e (Cond.before_iff.mp (show (Jvm.Cond.and given_1 narrow_1).before args s = true from hpre))
  obtain ⟨g1a, g1b⟩ := and_e hg
  obtain ⟨g2a, g2b⟩ := and_e g1b
  obtain ⟨w0, w1, rfl⟩ : ∃ w0 w1 : Value, args = #[w0, w1] := by
    have hs : args.size = 2 := by simpa [Cond.value, given_1] using g1a
    obtain ⟨L⟩ := args
    match L, hs with
    | [w0, w1], _ => exact ⟨w0, w1, rfl⟩
  have hw := fun d (hd : d ∈ tables_1) => atoms_spec (ws := Jvm.Cond.code x code maxLocals ret :: tables_1) hat d (List.mem_cons_of_mem _ hd)
  have hfit : Fit s := fun {y c} hc i hi => by
    obtain ⟨ha, rfl⟩ := Array.getElem?_eq_some_iff.mp hc
    have q := List.all_eq_true.mp ((Array.all_eq_true_iff_forall_mem.mp hF) _ (Array.getElem_mem ha)) i (List.mem_range.mpr hi)
    simpa [Array.getElem?_eq_getElem hi] using q
  obtain ⟨i0, ei0⟩ := is_v g2a
  obtain rfl : w0 = (.int i0) := Option.some.inj ei0
  obtain ⟨i1, ei1⟩ := is_v g2b
  obtain rfl : w1 = (.int i1) := Option.some.inj ei1
  obtain ⟨g3a, g3b⟩ := and_e hn
  obtain ⟨g4a, g4b⟩ := and_e g3b
  obtain ⟨g5a, g5b⟩ := and_e g4b
  obtain ⟨g6a, g6b⟩ := and_e g5b
  obtain ⟨g7a, g7b⟩ := and_e g6b
  obtain ⟨g8a, g8b⟩ := and_e g7b
  obtain ⟨g9a, g9b⟩ := and_e g8b
  obtain ⟨g10a, g10b⟩ := and_e g9b
  obtain ⟨g11a, g11b⟩ := and_e g10b
  obtain ⟨g12a, g12b⟩ := and_e g11b
  obtain ⟨g13a, g13b⟩ := and_e g12b
  obtain ⟨g14a, g14b⟩ := and_e g13b
  obtain ⟨g15a, g15b⟩ := and_e g14b
  obtain ⟨g16a, g16b⟩ := and_e g15b
  obtain ⟨g17a, g17b⟩ := and_e g16b
  obtain ⟨g18a, g18b⟩ := and_e g17b
  obtain ⟨g19a, g19b⟩ := and_e g18b
  obtain ⟨g20a, g20b⟩ := and_e g19b
  obtain ⟨g21a, g21b⟩ := and_e g20b
  obtain ⟨g22a, g22b⟩ := and_e g21b
  obtain ⟨g23a, g23b⟩ := and_e g22b
  obtain ⟨g24a, g24b⟩ := and_e g23b
  obtain ⟨g25a, g25b⟩ := and_e g24b
  obtain ⟨g26a, g26b⟩ := and_e g25b
  obtain ⟨g27a, g27b⟩ := and_e g26b
  obtain ⟨g28a, g28b⟩ := and_e g27b
  obtain ⟨g29a, g29b⟩ := and_e g28b
  obtain ⟨g30a, g30b⟩ := and_e g29b
  obtain ⟨g31a, g31b⟩ := and_e g30b
  obtain ⟨g32a, g32b⟩ := and_e g31b
  obtain ⟨g33a, g33b⟩ := and_e g32b
  obtain ⟨g34a, g34b⟩ := and_e g33b
  obtain ⟨g35a, g35b⟩ := and_e g34b
  obtain ⟨g36a, g36b⟩ := and_e g35b
  obtain ⟨g37a, g37b⟩ := and_e g36b
  obtain ⟨g38a, g38b⟩ := and_e g37b
  obtain ⟨g39a, g39b⟩ := and_e g38b
  obtain ⟨g40a, g40b⟩ := and_e g39b
  obtain ⟨g41a, g41b⟩ := and_e g40b
  obtain ⟨v_UnaryOp_NEG, ev_v_UnaryOp_NEG⟩ := exa_v g3a
  have E_v_UnaryOp_NEG : Exa s s.heap v_UnaryOp_NEG "com/example/tracewright/tracewright/engine/expr/UnaryOp" := Exa.start ev_v_UnaryOp_NEG g3a
  have S_v_UnaryOp_NEG : Sta s s.heap "com/example/tracewright/tracewright/engine/expr/UnaryOp" "NEG" "Lcom/example/tracewright/tracewright/engine/expr/UnaryOp;" (.ref v_UnaryOp_NEG) := Sta.start ev_v_UnaryOp_NEG (Or.inr ⟨(hw _ (List.mem_of_getElem? (i := 3) rfl)), (hw _ (List.mem_of_getElem? (i := 4) rfl))⟩)
  obtain ⟨v_UnaryOp_I2L, ev_v_UnaryOp_I2L⟩ := exa_v g4a
  have E_v_UnaryOp_I2L : Exa s s.heap v_UnaryOp_I2L "com/example/tracewright/tracewright/engine/expr/UnaryOp" := Exa.start ev_v_UnaryOp_I2L g4a
  have S_v_UnaryOp_I2L : Sta s s.heap "com/example/tracewright/tracewright/engine/expr/UnaryOp" "I2L" "Lcom/example/tracewright/tracewright/engine/expr/UnaryOp;" (.ref v_UnaryOp_I2L) := Sta.start ev_v_UnaryOp_I2L (Or.inr ⟨(hw _ (List.mem_of_getElem? (i := 3) rfl)), (hw _ (List.mem_of_getElem? (i := 7) rfl))⟩)
  obtain ⟨v_UnaryOp_I2F, ev_v_UnaryOp_I2F⟩ := exa_v g5a
  have E_v_UnaryOp_I2F : Exa s s.heap v_UnaryOp_I2F "com/example/tracewright/tracewright/engine/expr/UnaryOp" := Exa.start ev_v_UnaryOp_I2F g5a
  have S_v_UnaryOp_I2F : Sta s s.heap "com/example/tracewright/tracewright/engine/expr/UnaryOp" "I2F" "Lcom/example/tracewright/tracewright/engine/expr/UnaryOp;" (.ref v_UnaryOp_I2F) := Sta.start ev_v_UnaryOp_I2F (Or.inr ⟨(hw _ (List.mem_of_getElem? (i := 3) rfl)), (hw _ (List.mem_of_getElem? (i := 9) rfl))⟩)
  obtain ⟨v_UnaryOp_I2D, ev_v_UnaryOp_I2D⟩ := exa_v g6a
  have E_v_UnaryOp_I2D : Exa s s.heap v_UnaryOp_I2D "com/example/tracewright/tracewright/engine/expr/UnaryOp" := Exa.start ev_v_UnaryOp_I2D g6a
  have S_v_UnaryOp_I2D : Sta s s.heap "com/example/tracewright/tracewright/engine/expr/UnaryOp" "I2D" "Lcom/example/tracewright/tracewright/engine/expr/UnaryOp;" (.ref v_UnaryOp_I2D) := Sta.start ev_v_UnaryOp_I2D (Or.inr ⟨(hw _ (List.mem_of_getElem? (i := 3) rfl)), (hw _ (List.mem_of_getElem? (i := 11) rfl))⟩)
  obtain ⟨v_UnaryOp_L2I, ev_v_UnaryOp_L2I⟩ := exa_v g7a
  have E_v_UnaryOp_L2I : Exa s s.heap v_UnaryOp_L2I "com/example/tracewright/tracewright/engine/expr/UnaryOp" := Exa.start ev_v_UnaryOp_L2I g7a
  have S_v_UnaryOp_L2I : Sta s s.heap "com/example/tracewright/tracewright/engine/expr/UnaryOp" "L2I" "Lcom/example/tracewright/tracewright/engine/expr/UnaryOp;" (.ref v_UnaryOp_L2I) := Sta.start ev_v_UnaryOp_L2I (Or.inr ⟨(hw _ (List.mem_of_getElem? (i := 3) rfl)), (hw _ (List.mem_of_getElem? (i := 13) rfl))⟩)
  obtain ⟨v_UnaryOp_L2F, ev_v_UnaryOp_L2F⟩ := exa_v g8a
  have E_v_UnaryOp_L2F : Exa s s.heap v_UnaryOp_L2F "com/example/tracewright/tracewright/engine/expr/UnaryOp" := Exa.start ev_v_UnaryOp_L2F g8a
  have S_v_UnaryOp_L2F : Sta s s.heap "com/example/tracewright/tracewright/engine/expr/UnaryOp" "L2F" "Lcom/example/tracewright/tracewright/engine/expr/UnaryOp;" (.ref v_UnaryOp_L2F) := Sta.start ev_v_UnaryOp_L2F (Or.inr ⟨(hw _ (List.mem_of_getElem? (i := 3) rfl)), (hw _ (List.mem_of_getElem? (i := 15) rfl))⟩)
  obtain ⟨v_UnaryOp_L2D, ev_v_UnaryOp_L2D⟩ := exa_v g9a
  have E_v_UnaryOp_L2D : Exa s s.heap v_UnaryOp_L2D "com/example/tracewright/tracewright/engine/expr/UnaryOp" := Exa.start ev_v_UnaryOp_L2D g9a
  have S_v_UnaryOp_L2D : Sta s s.heap "com/example/tracewright/tracewright/engine/expr/UnaryOp" "L2D" "Lcom/example/tracewright/tracewright/engine/expr/UnaryOp;" (.ref v_UnaryOp_L2D) := Sta.start ev_v_UnaryOp_L2D (Or.inr ⟨(hw _ (List.mem_of_getElem? (i := 3) rfl)), (hw _ (List.mem_of_getElem? (i := 17) rfl))⟩)
  obtain ⟨v_UnaryOp_F2I, ev_v_UnaryOp_F2I⟩ := exa_v g10a
  have E_v_UnaryOp_F2I : Exa s s.heap v_UnaryOp_F2I "com/example/tracewright/tracewright/engine/expr/UnaryOp" := Exa.start ev_v_UnaryOp_F2I g10a
  have S_v_UnaryOp_F2I : Sta s s.heap "com/example/tracewright/tracewright/engine/expr/UnaryOp" "F2I" "Lcom/example/tracewright/tracewright/engine/expr/UnaryOp;" (.ref v_UnaryOp_F2I) := Sta.start ev_v_UnaryOp_F2I (Or.inr ⟨(hw _ (List.mem_of_getElem? (i := 3) rfl)), (hw _ (List.mem_of_getElem? (i := 19) rfl))⟩)
  obtain ⟨v_UnaryOp_F2L, ev_v_UnaryOp_F2L⟩ := exa_v g11a
  have E_v_UnaryOp_F2L : Exa s s.heap v_UnaryOp_F2L "com/example/tracewright/tracewright/engine/expr/UnaryOp" := Exa.start ev_v_UnaryOp_F2L g11a
  have S_v_UnaryOp_F2L : Sta s s.heap "com/example/tracewright/tracewright/engine/expr/UnaryOp" "F2L" "Lcom/example/tracewright/tracewright/engine/expr/UnaryOp;" (.ref v_UnaryOp_F2L) := Sta.start ev_v_UnaryOp_F2L (Or.inr ⟨(hw _ (List.mem_of_getElem? (i := 3) rfl)), (hw _ (List.mem_of_getElem? (i := 21) rfl))⟩)
  obtain ⟨v_UnaryOp_F2D, ev_v_UnaryOp_F2D⟩ := exa_v g12a
  have E_v_UnaryOp_F2D : Exa s s.heap v_UnaryOp_F2D "com/example/tracewright/tracewright/engine/expr/UnaryOp" := Exa.start ev_v_UnaryOp_F2D g12a
  have S_v_UnaryOp_F2D : Sta s s.heap "com/example/tracewright/tracewright/engine/expr/UnaryOp" "F2D" "Lcom/example/tracewright/tracewright/engine/expr/UnaryOp;" (.ref v_UnaryOp_F2D) := Sta.start ev_v_UnaryOp_F2D (Or.inr ⟨(hw _ (List.mem_of_getElem? (i := 3) rfl)), (hw _ (List.mem_of_getElem? (i := 23) rfl))⟩)
  obtain ⟨v_UnaryOp_D2I, ev_v_UnaryOp_D2I⟩ := exa_v g13a
  have E_v_UnaryOp_D2I : Exa s s.heap v_UnaryOp_D2I "com/example/tracewright/tracewright/engine/expr/UnaryOp" := Exa.start ev_v_UnaryOp_D2I g13a
  have S_v_UnaryOp_D2I : Sta s s.heap "com/example/tracewright/tracewright/engine/expr/UnaryOp" "D2I" "Lcom/example/tracewright/tracewright/engine/expr/UnaryOp;" (.ref v_UnaryOp_D2I) := Sta.start ev_v_UnaryOp_D2I (Or.inr ⟨(hw _ (List.mem_of_getElem? (i := 3) rfl)), (hw _ (List.mem_of_getElem? (i := 25) rfl))⟩)
  obtain ⟨v_UnaryOp_D2L, ev_v_UnaryOp_D2L⟩ := exa_v g14a
  have E_v_UnaryOp_D2L : Exa s s.heap v_UnaryOp_D2L "com/example/tracewright/tracewright/engine/expr/UnaryOp" := Exa.start ev_v_UnaryOp_D2L g14a
  have S_v_UnaryOp_D2L : Sta s s.heap "com/example/tracewright/tracewright/engine/expr/UnaryOp" "D2L" "Lcom/example/tracewright/tracewright/engine/expr/UnaryOp;" (.ref v_UnaryOp_D2L) := Sta.start ev_v_UnaryOp_D2L (Or.inr ⟨(hw _ (List.mem_of_getElem? (i := 3) rfl)), (hw _ (List.mem_of_getElem? (i := 27) rfl))⟩)
  obtain ⟨v_UnaryOp_D2F, ev_v_UnaryOp_D2F⟩ := exa_v g15a
  have E_v_UnaryOp_D2F : Exa s s.heap v_UnaryOp_D2F "com/example/tracewright/tracewright/engine/expr/UnaryOp" := Exa.start ev_v_UnaryOp_D2F g15a
  have S_v_UnaryOp_D2F : Sta s s.heap "com/example/tracewright/tracewright/engine/expr/UnaryOp" "D2F" "Lcom/example/tracewright/tracewright/engine/expr/UnaryOp;" (.ref v_UnaryOp_D2F) := Sta.start ev_v_UnaryOp_D2F (Or.inr ⟨(hw _ (List.mem_of_getElem? (i := 3) rfl)), (hw _ (List.mem_of_getElem? (i := 29) rfl))⟩)
  obtain ⟨v_UnaryOp_I2B, ev_v_UnaryOp_I2B⟩ := exa_v g16a
  have E_v_UnaryOp_I2B : Exa s s.heap v_UnaryOp_I2B "com/example/tracewright/tracewright/engine/expr/UnaryOp" := Exa.start ev_v_UnaryOp_I2B g16a
  have S_v_UnaryOp_I2B : Sta s s.heap "com/example/tracewright/tracewright/engine/expr/UnaryOp" "I2B" "Lcom/example/tracewright/tracewright/engine/expr/UnaryOp;" (.ref v_UnaryOp_I2B) := Sta.start ev_v_UnaryOp_I2B (Or.inr ⟨(hw _ (List.mem_of_getElem? (i := 3) rfl)), (hw _ (List.mem_of_getElem? (i := 31) rfl))⟩)
  obtain ⟨v_UnaryOp_I2C, ev_v_UnaryOp_I2C⟩ := exa_v g17a
  have E_v_UnaryOp_I2C : Exa s s.heap v_UnaryOp_I2C "com/example/tracewright/tracewright/engine/expr/UnaryOp" := Exa.start ev_v_UnaryOp_I2C g17a
  have S_v_UnaryOp_I2C : Sta s s.heap "com/example/tracewright/tracewright/engine/expr/UnaryOp" "I2C" "Lcom/example/tracewright/tracewright/engine/expr/UnaryOp;" (.ref v_UnaryOp_I2C) := Sta.start ev_v_UnaryOp_I2C (Or.inr ⟨(hw _ (List.mem_of_getElem? (i := 3) rfl)), (hw _ (List.mem_of_getElem? (i := 33) rfl))⟩)
  obtain ⟨v_UnaryOp_I2S, ev_v_UnaryOp_I2S⟩ := exa_v g18a
  have E_v_UnaryOp_I2S : Exa s s.heap v_UnaryOp_I2S "com/example/tracewright/tracewright/engine/expr/UnaryOp" := Exa.start ev_v_UnaryOp_I2S g18a
  have S_v_UnaryOp_I2S : Sta s s.heap "com/example/tracewright/tracewright/engine/expr/UnaryOp" "I2S" "Lcom/example/tracewright/tracewright/engine/expr/UnaryOp;" (.ref v_UnaryOp_I2S) := Sta.start ev_v_UnaryOp_I2S (Or.inr ⟨(hw _ (List.mem_of_getElem? (i := 3) rfl)), (hw _ (List.mem_of_getElem? (i := 35) rfl))⟩)
  obtain ⟨v_Kind_INT, ev_v_Kind_INT⟩ := exa_v g19a
  have E_v_Kind_INT : Exa s s.heap v_Kind_INT "com/example/tracewright/tracewright/engine/expr/Kind" := Exa.start ev_v_Kind_INT g19a
  have S_v_Kind_INT : Sta s s.heap "com/example/tracewright/tracewright/engine/expr/Kind" "INT" "Lcom/example/tracewright/tracewright/engine/expr/Kind;" (.ref v_Kind_INT) := Sta.start ev_v_Kind_INT (Or.inr ⟨(hw _ (List.mem_of_getElem? (i := 39) rfl)), (hw _ (List.mem_of_getElem? (i := 40) rfl))⟩)
  obtain ⟨v_Kind_LONG, ev_v_Kind_LONG⟩ := exa_v g20a
  have E_v_Kind_LONG : Exa s s.heap v_Kind_LONG "com/example/tracewright/tracewright/engine/expr/Kind" := Exa.start ev_v_Kind_LONG g20a
  have S_v_Kind_LONG : Sta s s.heap "com/example/tracewright/tracewright/engine/expr/Kind" "LONG" "Lcom/example/tracewright/tracewright/engine/expr/Kind;" (.ref v_Kind_LONG) := Sta.start ev_v_Kind_LONG (Or.inr ⟨(hw _ (List.mem_of_getElem? (i := 39) rfl)), (hw _ (List.mem_of_getElem? (i := 43) rfl))⟩)
  obtain ⟨v_Kind_FLOAT, ev_v_Kind_FLOAT⟩ := exa_v g21a
  have E_v_Kind_FLOAT : Exa s s.heap v_Kind_FLOAT "com/example/tracewright/tracewright/engine/expr/Kind" := Exa.start ev_v_Kind_FLOAT g21a
  have S_v_Kind_FLOAT : Sta s s.heap "com/example/tracewright/tracewright/engine/expr/Kind" "FLOAT" "Lcom/example/tracewright/tracewright/engine/expr/Kind;" (.ref v_Kind_FLOAT) := Sta.start ev_v_Kind_FLOAT (Or.inr ⟨(hw _ (List.mem_of_getElem? (i := 39) rfl)), (hw _ (List.mem_of_getElem? (i := 45) rfl))⟩)
  obtain ⟨v_Kind_DOUBLE, ev_v_Kind_DOUBLE⟩ := exa_v g22a
  have E_v_Kind_DOUBLE : Exa s s.heap v_Kind_DOUBLE "com/example/tracewright/tracewright/engine/expr/Kind" := Exa.start ev_v_Kind_DOUBLE g22a
  have S_v_Kind_DOUBLE : Sta s s.heap "com/example/tracewright/tracewright/engine/expr/Kind" "DOUBLE" "Lcom/example/tracewright/tracewright/engine/expr/Kind;" (.ref v_Kind_DOUBLE) := Sta.start ev_v_Kind_DOUBLE (Or.inr ⟨(hw _ (List.mem_of_getElem? (i := 39) rfl)), (hw _ (List.mem_of_getElem? (i := 47) rfl))⟩)
  have F_v_UnaryOp_NEG_from : Fld s s.heap v_UnaryOp_NEG "com/example/tracewright/tracewright/engine/expr/UnaryOp" "from" "Lcom/example/tracewright/tracewright/engine/expr/Kind;" .null := own_fldN ev_v_UnaryOp_NEG g23a
  have F_v_UnaryOp_I2C_from : Fld s s.heap v_UnaryOp_I2C "com/example/tracewright/tracewright/engine/expr/UnaryOp" "from" "Lcom/example/tracewright/tracewright/engine/expr/Kind;" (.ref v_Kind_INT) := own_fldR ev_v_UnaryOp_I2C ev_v_Kind_INT g24a
  have F_v_Kind_INT_ordinal : Fld s s.heap v_Kind_INT "java/lang/Enum" "ordinal" "I" (.int (0 : Int32)) := own_fldI ev_v_Kind_INT g25a
  have F_v_Kind_LONG_ordinal : Fld s s.heap v_Kind_LONG "java/lang/Enum" "ordinal" "I" (.int (1 : Int32)) := own_fldI ev_v_Kind_LONG g26a
  have F_v_UnaryOp_D2F_from : Fld s s.heap v_UnaryOp_D2F "com/example/tracewright/tracewright/engine/expr/UnaryOp" "from" "Lcom/example/tracewright/tracewright/engine/expr/Kind;" (.ref v_Kind_DOUBLE) := own_fldR ev_v_UnaryOp_D2F ev_v_Kind_DOUBLE g27a
  have F_v_UnaryOp_F2L_from : Fld s s.heap v_UnaryOp_F2L "com/example/tracewright/tracewright/engine/expr/UnaryOp" "from" "Lcom/example/tracewright/tracewright/engine/expr/Kind;" (.ref v_Kind_FLOAT) := own_fldR ev_v_UnaryOp_F2L ev_v_Kind_FLOAT g28a
  have F_v_Kind_FLOAT_ordinal : Fld s s.heap v_Kind_FLOAT "java/lang/Enum" "ordinal" "I" (.int (2 : Int32)) := own_fldI ev_v_Kind_FLOAT g29a
  have F_v_UnaryOp_I2B_from : Fld s s.heap v_UnaryOp_I2B "com/example/tracewright/tracewright/engine/expr/UnaryOp" "from" "Lcom/example/tracewright/tracewright/engine/expr/Kind;" (.ref v_Kind_INT) := own_fldR ev_v_UnaryOp_I2B ev_v_Kind_INT g30a
  have F_v_UnaryOp_L2D_from : Fld s s.heap v_UnaryOp_L2D "com/example/tracewright/tracewright/engine/expr/UnaryOp" "from" "Lcom/example/tracewright/tracewright/engine/expr/Kind;" (.ref v_Kind_LONG) := own_fldR ev_v_UnaryOp_L2D ev_v_Kind_LONG g31a
  have F_v_Kind_DOUBLE_ordinal : Fld s s.heap v_Kind_DOUBLE "java/lang/Enum" "ordinal" "I" (.int (3 : Int32)) := own_fldI ev_v_Kind_DOUBLE g32a
  have F_v_UnaryOp_F2I_from : Fld s s.heap v_UnaryOp_F2I "com/example/tracewright/tracewright/engine/expr/UnaryOp" "from" "Lcom/example/tracewright/tracewright/engine/expr/Kind;" (.ref v_Kind_FLOAT) := own_fldR ev_v_UnaryOp_F2I ev_v_Kind_FLOAT g33a
  have F_v_UnaryOp_I2D_from : Fld s s.heap v_UnaryOp_I2D "com/example/tracewright/tracewright/engine/expr/UnaryOp" "from" "Lcom/example/tracewright/tracewright/engine/expr/Kind;" (.ref v_Kind_INT) := own_fldR ev_v_UnaryOp_I2D ev_v_Kind_INT g34a
  have F_v_UnaryOp_I2S_from : Fld s s.heap v_UnaryOp_I2S "com/example/tracewright/tracewright/engine/expr/UnaryOp" "from" "Lcom/example/tracewright/tracewright/engine/expr/Kind;" (.ref v_Kind_INT) := own_fldR ev_v_UnaryOp_I2S ev_v_Kind_INT g35a
  have F_v_UnaryOp_I2L_from : Fld s s.heap v_UnaryOp_I2L "com/example/tracewright/tracewright/engine/expr/UnaryOp" "from" "Lcom/example/tracewright/tracewright/engine/expr/Kind;" (.ref v_Kind_INT) := own_fldR ev_v_UnaryOp_I2L ev_v_Kind_INT g36a
  have F_v_UnaryOp_L2F_from : Fld s s.heap v_UnaryOp_L2F "com/example/tracewright/tracewright/engine/expr/UnaryOp" "from" "Lcom/example/tracewright/tracewright/engine/expr/Kind;" (.ref v_Kind_LONG) := own_fldR ev_v_UnaryOp_L2F ev_v_Kind_LONG g37a
  have F_v_UnaryOp_I2F_from : Fld s s.heap v_UnaryOp_I2F "com/example/tracewright/tracewright/engine/expr/UnaryOp" "from" "Lcom/example/tracewright/tracewright/engine/expr/Kind;" (.ref v_Kind_INT) := own_fldR ev_v_UnaryOp_I2F ev_v_Kind_INT g38a
  have F_v_UnaryOp_D2I_from : Fld s s.heap v_UnaryOp_D2I "com/example/tracewright/tracewright/engine/expr/UnaryOp" "from" "Lcom/example/tracewright/tracewright/engine/expr/Kind;" (.ref v_Kind_DOUBLE) := own_fldR ev_v_UnaryOp_D2I ev_v_Kind_DOUBLE g39a
  have F_v_UnaryOp_D2L_from : Fld s s.heap v_UnaryOp_D2L "com/example/tracewright/tracewright/engine/expr/UnaryOp" "from" "Lcom/example/tracewright/tracewright/engine/expr/Kind;" (.ref v_Kind_DOUBLE) := own_fldR ev_v_UnaryOp_D2L ev_v_Kind_DOUBLE g40a
  have F_v_UnaryOp_F2D_from : Fld s s.heap v_UnaryOp_F2D "com/example/tracewright/tracewright/engine/expr/UnaryOp" "from" "Lcom/example/tracewright/tracewright/engine/expr/Kind;" (.ref v_Kind_FLOAT) := own_fldR ev_v_UnaryOp_F2D ev_v_Kind_FLOAT g41a
  have F_v_UnaryOp_L2I_from : Fld s s.heap v_UnaryOp_L2I "com/example/tracewright/tracewright/engine/expr/UnaryOp" "from" "Lcom/example/tracewright/tracewright/engine/expr/Kind;" (.ref v_Kind_LONG) := own_fldR ev_v_UnaryOp_L2I ev_v_Kind_LONG g41b
  obtain ⟨n, o, h1, h2, h3, _, L, rfl, ⟨rfl, N⟩, hq⟩ := own_law l s _ hw tables_1 i0 i1 v_UnaryOp_NEG v_UnaryOp_I2L v_UnaryOp_I2F v_UnaryOp_I2D v_UnaryOp_L2I v_UnaryOp_L2F v_UnaryOp_L2D v_UnaryOp_F2I v_UnaryOp_F2L v_UnaryOp_F2D v_UnaryOp_D2I v_UnaryOp_D2L v_UnaryOp_D2F v_UnaryOp_I2B v_UnaryOp_I2C v_UnaryOp_I2S v_Kind_INT v_Kind_LONG v_Kind_FLOAT v_Kind_DOUBLE s.heap s.heap.size (Nat.le_refl _) S_v_UnaryOp_NEG S_v_UnaryOp_I2L S_v_UnaryOp_I2F S_v_UnaryOp_I2D S_v_UnaryOp_L2I S_v_UnaryOp_L2F S_v_UnaryOp_L2D S_v_UnaryOp_F2I S_v_UnaryOp_F2L S_v_UnaryOp_F2D S_v_UnaryOp_D2I S_v_UnaryOp_D2L S_v_UnaryOp_D2F S_v_UnaryOp_I2B S_v_UnaryOp_I2C S_v_UnaryOp_I2S S_v_Kind_INT S_v_Kind_LONG S_v_Kind_FLOAT S_v_Kind_DOUBLE E_v_UnaryOp_NEG F_v_UnaryOp_NEG_from E_v_UnaryOp_I2L F_v_UnaryOp_I2L_from E_v_UnaryOp_I2F F_v_UnaryOp_I2F_from E_v_UnaryOp_I2D F_v_UnaryOp_I2D_from E_v_UnaryOp_L2I F_v_UnaryOp_L2I_from E_v_UnaryOp_L2F F_v_UnaryOp_L2F_from E_v_UnaryOp_L2D F_v_UnaryOp_L2D_from E_v_UnaryOp_F2I F_v_UnaryOp_F2I_from E_v_UnaryOp_F2L F_v_UnaryOp_F2L_from E_v_UnaryOp_F2D F_v_UnaryOp_F2D_from E_v_UnaryOp_D2I F_v_UnaryOp_D2I_from E_v_UnaryOp_D2L F_v_UnaryOp_D2L_from E_v_UnaryOp_D2F F_v_UnaryOp_D2F_from E_v_UnaryOp_I2B F_v_UnaryOp_I2B_from E_v_UnaryOp_I2C F_v_UnaryOp_I2C_from E_v_UnaryOp_I2S F_v_UnaryOp_I2S_from E_v_Kind_INT E_v_Kind_LONG E_v_Kind_FLOAT E_v_Kind_DOUBLE (F_v_Kind_INT_ordinal.ne F_v_Kind_LONG_ordinal (by decide)) (F_v_Kind_INT_ordinal.ne F_v_Kind_FLOAT_ordinal (by decide)) (F_v_Kind_INT_ordinal.ne F_v_Kind_DOUBLE_ordinal (by decide)) (F_v_Kind_LONG_ordinal.ne F_v_Kind_FLOAT_ordinal (by decide)) (F_v_Kind_LONG_ordinal.ne F_v_Kind_DOUBLE_ordinal (by decide)) (F_v_Kind_FLOAT_ordinal.ne F_v_Kind_DOUBLE_ordinal (by decide)) p e ha hc hk s m _ below hf ((Spec.applies_iff_loose hf).mp happ).1 ⟨rfl, State.Warmed39.refl s, rfl⟩ trivial
  refine ⟨n, _, h1, h2, h3, hpost _ _ _ _ _ _ ⟨Cond.after_iff.mpr rfl, Cond.after_iff.mpr (eq_i res_at (Term.int_eval (1)) rfl), trivial⟩ ⟨hq.1, hq.2.1, (hq.2.2.sift fun y hy => Or.inr (N y hy)).mono (by decide) (by decide)⟩⟩
theorem main_1_1 : Claimed_1_1 := comes_1 fun _ _ _ _ _ _ h hF => ⟨h.1, hF⟩
theorem main_1_2 : Claimed_1_2 := comes_1 fun _ _ _ _ _ _ h hF => ⟨h.2.1, hF⟩
end Jvm.Pilot.@@N@@
namespace Jvm.Pilot.@@N@@
open Jvm Jvm.ClassFile Sem Op Lib Jvm.Free Jvm.Stand Jvm.Pilot.@@N@@.Jvm.D
/-! MADE BY PROGRAM (witnessworld.py) out of the Statement's table words and the real class files: 15 classes; the members and pool entries that the words name. The judged class is class 1, her method 2. -/
namespace start1
open Jvm.ClassFile
def u (s : String) : CpInfo := .utf8 (stringToUtf16 s)
/-- a pool by its gaps: so many unusable entries, then the entry; so many at the end -/
def gap : Nat → List CpInfo → List CpInfo
  | 0, r => r
  | n + 1, r => .unusable :: gap n r
def poolList (es : List (Nat × CpInfo)) (last : Nat) : List CpInfo := es.foldr (fun e r => gap e.1 (e.2 :: r)) (gap last [])
def pool (es : List (Nat × CpInfo)) (last : Nat) : Array CpInfo := ⟨poolList es last⟩
def fileOf (pool : Array CpInfo) (this : Nat) (attrs : Array Attribute := #[]) (ms : Array MethodInfo := #[]) (fl : Nat := 33) (sup : Nat := 0) (ifs : Array Nat := #[]) (fds : Array FieldInfo := #[]) : ClassFile where
  minorVersion := 0
  majorVersion := 65
  constantPool := pool
  accessFlags := fl
  thisClass := this
  superClass := sup
  interfaces := ifs
  fields := fds
  methods := ms
  attributes := attrs
def plain (name : String) (sup : Option ClassId) : Class where
  name := name
  kind := .ordinary
  loader := none
  accessFlags := 33
  super := sup
  interfaces := #[]
  cf := none
  fields := #[]
  methods := #[]
  instanceTypes := #[]
  staticTypes := #[]
  resolved := #[]
  callSites := []
  init := .initialized
  statics := none
  mirror := none

def pool0 : Array CpInfo := pool [(5, u "<init>"), (0, u "()V"), (1, .class_ 10), (1, u "java/lang/Object")] 113

def k0m0 : Method := { name := "<init>", desc := "()V", sig := { parameters := [], returnType := none }, accessFlags := 1, code := none }
/-- java/lang/Object -/
def k0 : Class := { plain "java/lang/Object" none with
  accessFlags := 33
  interfaces := #[]
  cf := some (fileOf pool0 8 #[] #[{ accessFlags := 1, nameIndex := 5, descriptorIndex := 6, attributes := #[] }] 33 0 #[] #[])
  fields := #[]
  methods := #[k0m0]
  instanceTypes := #[]
  staticTypes := #[]
  resolved := Array.replicate 124 none
  statics := none }

def pool1 : Array CpInfo := pool [(2, .class_ 4), (1, u "java/lang/Object"), (0, u "<init>"), (0, u "()V"), (0, .class_ 8), (0, u "com/example/tracewright/tracewright/engine/expr/UnaryOp"), (0, .fieldref 7 10), (0, .nameAndType 11 12), (0, u "NEG"), (0, u "Lcom/example/tracewright/tracewright/engine/expr/UnaryOp;"), (0, .fieldref 7 14), (0, .nameAndType 15 12), (0, u "I2L"), (0, .fieldref 7 17), (0, .nameAndType 18 12), (0, u "I2F"), (0, .fieldref 7 20), (0, .nameAndType 21 12), (0, u "I2D"), (0, .fieldref 7 23), (0, .nameAndType 24 12), (0, u "L2I"), (0, .fieldref 7 26), (0, .nameAndType 27 12), (0, u "L2F"), (0, .fieldref 7 29), (0, .nameAndType 30 12), (0, u "L2D"), (0, .fieldref 7 32), (0, .nameAndType 33 12), (0, u "F2I"), (0, .fieldref 7 35), (0, .nameAndType 36 12), (0, u "F2L"), (0, .fieldref 7 38), (0, .nameAndType 39 12), (0, u "F2D"), (0, .fieldref 7 41), (0, .nameAndType 42 12), (0, u "D2I"), (0, .fieldref 7 44), (0, .nameAndType 45 12), (0, u "D2L"), (0, .fieldref 7 47), (0, .nameAndType 48 12), (0, u "D2F"), (0, .fieldref 7 50), (0, .nameAndType 51 12), (0, u "I2B"), (0, .fieldref 7 53), (0, .nameAndType 54 12), (0, u "I2C"), (0, .fieldref 7 56), (0, .nameAndType 57 12), (0, u "I2S"), (0, .class_ 59), (0, u "com/example/tracewright/tracewright/engine/expr/Kind"), (0, .fieldref 58 61), (0, .nameAndType 62 63), (0, u "INT"), (0, u "Lcom/example/tracewright/tracewright/engine/expr/Kind;"), (0, .fieldref 58 65), (0, .nameAndType 66 63), (0, u "LONG"), (0, .fieldref 58 68), (0, .nameAndType 69 63), (0, u "FLOAT"), (0, .fieldref 58 71), (0, .nameAndType 72 63), (0, u "DOUBLE"), (0, .methodref 74 75), (0, .class_ 76), (0, .nameAndType 77 78), (0, u "com/example/tracewright/tracewright/engine/expr/UnaryOpAcceptsPinLaw"), (0, u "sourceKindIndex"), (0, u "(I)I"), (0, .methodref 7 80), (0, .nameAndType 81 82), (0, u "accepts"), (0, u "(Lcom/example/tracewright/tracewright/engine/expr/Kind;)Z"), (3, u "law"), (0, u "(II)Z")] 6

def k1m0 : Method := { name := "<init>", desc := "()V", sig := { parameters := [], returnType := none }, accessFlags := 1, code := none }
def k1c1 : Code := { maxStack := 2, maxLocals := 1, code := method_2_code, exceptionTable := #[], attributes := #[] }
def k1m1 : Method := { name := "sourceKindIndex", desc := "(I)I", sig := { parameters := [.int], returnType := some .int }, accessFlags := 10, code := some k1c1 }
def k1c2 : Code := { maxStack := 4, maxLocals := 8, code := code, exceptionTable := #[], attributes := #[] }
def k1m2 : Method := { name := "law", desc := "(II)Z", sig := { parameters := [.int, .int], returnType := some .boolean }, accessFlags := 9, code := some k1c2 }
/-- com/example/tracewright/tracewright/engine/expr/UnaryOpAcceptsPinLaw -/
def k1 : Class := { plain "com/example/tracewright/tracewright/engine/expr/UnaryOpAcceptsPinLaw" (some 0) with
  accessFlags := 49
  interfaces := #[]
  cf := some (fileOf pool1 74 #[] #[{ accessFlags := 1, nameIndex := 5, descriptorIndex := 6, attributes := #[] }, { accessFlags := 10, nameIndex := 77, descriptorIndex := 78, attributes := #[] }, { accessFlags := 9, nameIndex := 86, descriptorIndex := 87, attributes := #[] }] 49 2 #[] #[])
  fields := #[]
  methods := #[k1m0, k1m1, k1m2]
  instanceTypes := #[]
  staticTypes := #[]
  resolved := Array.replicate 94 none
  statics := none }

def pool2 : Array CpInfo := pool [(1, .class_ 2), (0, u "java/lang/constant/Constable"), (0, .class_ 4), (0, u "java/lang/Object")] 6

/-- java/lang/constant/Constable -/
def k2 : Class := { plain "java/lang/constant/Constable" (some 0) with
  accessFlags := 1537
  interfaces := #[]
  cf := some (fileOf pool2 1 #[] #[] 1537 3 #[] #[])
  fields := #[]
  methods := #[]
  instanceTypes := #[]
  staticTypes := #[]
  resolved := Array.replicate 11 none
  statics := none }

def pool3 : Array CpInfo := pool [(1, .class_ 2), (0, u "java/lang/Comparable"), (0, .class_ 4), (0, u "java/lang/Object")] 7

/-- java/lang/Comparable -/
def k3 : Class := { plain "java/lang/Comparable" (some 0) with
  accessFlags := 1537
  interfaces := #[]
  cf := some (fileOf pool3 1 #[] #[] 1537 3 #[] #[])
  fields := #[]
  methods := #[]
  instanceTypes := #[]
  staticTypes := #[]
  resolved := Array.replicate 12 none
  statics := none }

def pool4 : Array CpInfo := pool [(1, .class_ 2), (0, u "java/io/Serializable"), (0, .class_ 4), (0, u "java/lang/Object")] 2

/-- java/io/Serializable -/
def k4 : Class := { plain "java/io/Serializable" (some 0) with
  accessFlags := 1537
  interfaces := #[]
  cf := some (fileOf pool4 1 #[] #[] 1537 3 #[] #[])
  fields := #[]
  methods := #[]
  instanceTypes := #[]
  staticTypes := #[]
  resolved := Array.replicate 7 none
  statics := none }

def pool5 : Array CpInfo := pool [(2, .class_ 4), (1, u "java/lang/Enum"), (0, u "name"), (0, u "Ljava/lang/String;"), (2, u "ordinal"), (0, u "I"), (1, .class_ 14), (1, u "java/lang/Object"), (4, u "hash"), (86, .class_ 108), (1, u "java/lang/Enum$EnumDesc"), (2, .class_ 112), (0, u "java/lang/constant/Constable"), (0, .class_ 114), (0, u "java/lang/Comparable"), (0, .class_ 116), (0, u "java/io/Serializable")] 87

/-- java/lang/Enum -/
def k5 : Class := { plain "java/lang/Enum" (some 0) with
  accessFlags := 1057
  interfaces := #[2, 3, 4]
  cf := some (fileOf pool5 2 #[.nestMembers #[106]] #[] 1057 12 #[111, 113, 115] #[{ accessFlags := 18, nameIndex := 5, descriptorIndex := 6, attributes := #[] }, { accessFlags := 18, nameIndex := 9, descriptorIndex := 10, attributes := #[] }, { accessFlags := 2, nameIndex := 19, descriptorIndex := 10, attributes := #[] }])
  fields := #[{ name := "name", type := (.object "java/lang/String"), accessFlags := 18, slot := 0, constantValue := 0 }, { name := "ordinal", type := .int, accessFlags := 18, slot := 1, constantValue := 0 }, { name := "hash", type := .int, accessFlags := 2, slot := 2, constantValue := 0 }]
  methods := #[]
  instanceTypes := #[(.object "java/lang/String"), .int, .int]
  staticTypes := #[]
  resolved := Array.replicate 204 none
  statics := none }

def pool6 : Array CpInfo := pool [(1, .class_ 2), (0, u "com/example/tracewright/tracewright/engine/expr/UnaryOp"), (2, u "NEG"), (0, u "Lcom/example/tracewright/tracewright/engine/expr/UnaryOp;"), (2, u "I2L"), (2, u "I2F"), (2, u "I2D"), (2, u "L2I"), (2, u "L2F"), (2, u "L2D"), (2, u "F2I"), (2, u "F2L"), (2, u "F2D"), (2, u "D2I"), (2, u "D2L"), (2, u "D2F"), (2, u "I2B"), (2, u "I2C"), (2, u "I2S"), (2, u "$VALUES"), (0, u "[Lcom/example/tracewright/tracewright/engine/expr/UnaryOp;"), (6, .class_ 64), (1, u "java/lang/Enum"), (6, .fieldref 1 72), (0, .nameAndType 73 74), (0, u "from"), (0, u "Lcom/example/tracewright/tracewright/engine/expr/Kind;"), (2, u "to"), (47, u "accepts"), (0, u "(Lcom/example/tracewright/tracewright/engine/expr/Kind;)Z")] 5

def k6c0 : Code := { maxStack := 2, maxLocals := 2, code := prog_43_method_5_code, exceptionTable := #[], attributes := #[] }
def k6m0 : Method := { name := "accepts", desc := "(Lcom/example/tracewright/tracewright/engine/expr/Kind;)Z", sig := { parameters := [(.object "com/example/tracewright/tracewright/engine/expr/Kind")], returnType := some .boolean }, accessFlags := 1, code := some k6c0 }
/-- com/example/tracewright/tracewright/engine/expr/UnaryOp -/
def k6 : Class := { plain "com/example/tracewright/tracewright/engine/expr/UnaryOp" (some 5) with
  accessFlags := 16433
  interfaces := #[]
  cf := some (fileOf pool6 1 #[] #[{ accessFlags := 1, nameIndex := 125, descriptorIndex := 126, attributes := #[] }] 16433 62 #[] #[{ accessFlags := 16409, nameIndex := 5, descriptorIndex := 6, attributes := #[] }, { accessFlags := 16409, nameIndex := 9, descriptorIndex := 6, attributes := #[] }, { accessFlags := 16409, nameIndex := 12, descriptorIndex := 6, attributes := #[] }, { accessFlags := 16409, nameIndex := 15, descriptorIndex := 6, attributes := #[] }, { accessFlags := 16409, nameIndex := 18, descriptorIndex := 6, attributes := #[] }, { accessFlags := 16409, nameIndex := 21, descriptorIndex := 6, attributes := #[] }, { accessFlags := 16409, nameIndex := 24, descriptorIndex := 6, attributes := #[] }, { accessFlags := 16409, nameIndex := 27, descriptorIndex := 6, attributes := #[] }, { accessFlags := 16409, nameIndex := 30, descriptorIndex := 6, attributes := #[] }, { accessFlags := 16409, nameIndex := 33, descriptorIndex := 6, attributes := #[] }, { accessFlags := 16409, nameIndex := 36, descriptorIndex := 6, attributes := #[] }, { accessFlags := 16409, nameIndex := 39, descriptorIndex := 6, attributes := #[] }, { accessFlags := 16409, nameIndex := 42, descriptorIndex := 6, attributes := #[] }, { accessFlags := 16409, nameIndex := 45, descriptorIndex := 6, attributes := #[] }, { accessFlags := 16409, nameIndex := 48, descriptorIndex := 6, attributes := #[] }, { accessFlags := 16409, nameIndex := 51, descriptorIndex := 6, attributes := #[] }, { accessFlags := 18, nameIndex := 73, descriptorIndex := 74, attributes := #[] }, { accessFlags := 18, nameIndex := 77, descriptorIndex := 74, attributes := #[] }, { accessFlags := 4122, nameIndex := 54, descriptorIndex := 55, attributes := #[] }])
  fields := #[{ name := "NEG", type := (.object "com/example/tracewright/tracewright/engine/expr/UnaryOp"), accessFlags := 16409, slot := 0, constantValue := 0 }, { name := "I2L", type := (.object "com/example/tracewright/tracewright/engine/expr/UnaryOp"), accessFlags := 16409, slot := 1, constantValue := 0 }, { name := "I2F", type := (.object "com/example/tracewright/tracewright/engine/expr/UnaryOp"), accessFlags := 16409, slot := 2, constantValue := 0 }, { name := "I2D", type := (.object "com/example/tracewright/tracewright/engine/expr/UnaryOp"), accessFlags := 16409, slot := 3, constantValue := 0 }, { name := "L2I", type := (.object "com/example/tracewright/tracewright/engine/expr/UnaryOp"), accessFlags := 16409, slot := 4, constantValue := 0 }, { name := "L2F", type := (.object "com/example/tracewright/tracewright/engine/expr/UnaryOp"), accessFlags := 16409, slot := 5, constantValue := 0 }, { name := "L2D", type := (.object "com/example/tracewright/tracewright/engine/expr/UnaryOp"), accessFlags := 16409, slot := 6, constantValue := 0 }, { name := "F2I", type := (.object "com/example/tracewright/tracewright/engine/expr/UnaryOp"), accessFlags := 16409, slot := 7, constantValue := 0 }, { name := "F2L", type := (.object "com/example/tracewright/tracewright/engine/expr/UnaryOp"), accessFlags := 16409, slot := 8, constantValue := 0 }, { name := "F2D", type := (.object "com/example/tracewright/tracewright/engine/expr/UnaryOp"), accessFlags := 16409, slot := 9, constantValue := 0 }, { name := "D2I", type := (.object "com/example/tracewright/tracewright/engine/expr/UnaryOp"), accessFlags := 16409, slot := 10, constantValue := 0 }, { name := "D2L", type := (.object "com/example/tracewright/tracewright/engine/expr/UnaryOp"), accessFlags := 16409, slot := 11, constantValue := 0 }, { name := "D2F", type := (.object "com/example/tracewright/tracewright/engine/expr/UnaryOp"), accessFlags := 16409, slot := 12, constantValue := 0 }, { name := "I2B", type := (.object "com/example/tracewright/tracewright/engine/expr/UnaryOp"), accessFlags := 16409, slot := 13, constantValue := 0 }, { name := "I2C", type := (.object "com/example/tracewright/tracewright/engine/expr/UnaryOp"), accessFlags := 16409, slot := 14, constantValue := 0 }, { name := "I2S", type := (.object "com/example/tracewright/tracewright/engine/expr/UnaryOp"), accessFlags := 16409, slot := 15, constantValue := 0 }, { name := "from", type := (.object "com/example/tracewright/tracewright/engine/expr/Kind"), accessFlags := 18, slot := 3, constantValue := 0 }, { name := "to", type := (.object "com/example/tracewright/tracewright/engine/expr/Kind"), accessFlags := 18, slot := 4, constantValue := 0 }, { name := "$VALUES", type := (.array (.object "com/example/tracewright/tracewright/engine/expr/UnaryOp")), accessFlags := 4122, slot := 16, constantValue := 0 }]
  methods := #[k6m0]
  instanceTypes := #[(.object "java/lang/String"), .int, .int, (.object "com/example/tracewright/tracewright/engine/expr/Kind"), (.object "com/example/tracewright/tracewright/engine/expr/Kind")]
  staticTypes := #[(.object "com/example/tracewright/tracewright/engine/expr/UnaryOp"), (.object "com/example/tracewright/tracewright/engine/expr/UnaryOp"), (.object "com/example/tracewright/tracewright/engine/expr/UnaryOp"), (.object "com/example/tracewright/tracewright/engine/expr/UnaryOp"), (.object "com/example/tracewright/tracewright/engine/expr/UnaryOp"), (.object "com/example/tracewright/tracewright/engine/expr/UnaryOp"), (.object "com/example/tracewright/tracewright/engine/expr/UnaryOp"), (.object "com/example/tracewright/tracewright/engine/expr/UnaryOp"), (.object "com/example/tracewright/tracewright/engine/expr/UnaryOp"), (.object "com/example/tracewright/tracewright/engine/expr/UnaryOp"), (.object "com/example/tracewright/tracewright/engine/expr/UnaryOp"), (.object "com/example/tracewright/tracewright/engine/expr/UnaryOp"), (.object "com/example/tracewright/tracewright/engine/expr/UnaryOp"), (.object "com/example/tracewright/tracewright/engine/expr/UnaryOp"), (.object "com/example/tracewright/tracewright/engine/expr/UnaryOp"), (.object "com/example/tracewright/tracewright/engine/expr/UnaryOp"), (.array (.object "com/example/tracewright/tracewright/engine/expr/UnaryOp"))]
  resolved := Array.replicate 132 none
  statics := some 0 }

def pool7 : Array CpInfo := pool [(1, .class_ 2), (0, u "com/example/tracewright/tracewright/engine/expr/Kind"), (2, u "INT"), (0, u "Lcom/example/tracewright/tracewright/engine/expr/Kind;"), (2, u "LONG"), (2, u "FLOAT"), (2, u "DOUBLE"), (2, u "$VALUES"), (0, u "[Lcom/example/tracewright/tracewright/engine/expr/Kind;"), (6, .class_ 28), (1, u "java/lang/Enum"), (8, u "bits"), (0, u "I"), (2, u "descriptor"), (0, u "C")] 55

/-- com/example/tracewright/tracewright/engine/expr/Kind -/
def k7 : Class := { plain "com/example/tracewright/tracewright/engine/expr/Kind" (some 5) with
  accessFlags := 16433
  interfaces := #[]
  cf := some (fileOf pool7 1 #[] #[] 16433 26 #[] #[{ accessFlags := 16409, nameIndex := 5, descriptorIndex := 6, attributes := #[] }, { accessFlags := 16409, nameIndex := 9, descriptorIndex := 6, attributes := #[] }, { accessFlags := 16409, nameIndex := 12, descriptorIndex := 6, attributes := #[] }, { accessFlags := 16409, nameIndex := 15, descriptorIndex := 6, attributes := #[] }, { accessFlags := 18, nameIndex := 37, descriptorIndex := 38, attributes := #[] }, { accessFlags := 18, nameIndex := 41, descriptorIndex := 42, attributes := #[] }, { accessFlags := 4122, nameIndex := 18, descriptorIndex := 19, attributes := #[] }])
  fields := #[{ name := "INT", type := (.object "com/example/tracewright/tracewright/engine/expr/Kind"), accessFlags := 16409, slot := 0, constantValue := 0 }, { name := "LONG", type := (.object "com/example/tracewright/tracewright/engine/expr/Kind"), accessFlags := 16409, slot := 1, constantValue := 0 }, { name := "FLOAT", type := (.object "com/example/tracewright/tracewright/engine/expr/Kind"), accessFlags := 16409, slot := 2, constantValue := 0 }, { name := "DOUBLE", type := (.object "com/example/tracewright/tracewright/engine/expr/Kind"), accessFlags := 16409, slot := 3, constantValue := 0 }, { name := "bits", type := .int, accessFlags := 18, slot := 3, constantValue := 0 }, { name := "descriptor", type := .char, accessFlags := 18, slot := 4, constantValue := 0 }, { name := "$VALUES", type := (.array (.object "com/example/tracewright/tracewright/engine/expr/Kind")), accessFlags := 4122, slot := 4, constantValue := 0 }]
  methods := #[]
  instanceTypes := #[(.object "java/lang/String"), .int, .int, .int, .char]
  staticTypes := #[(.object "com/example/tracewright/tracewright/engine/expr/Kind"), (.object "com/example/tracewright/tracewright/engine/expr/Kind"), (.object "com/example/tracewright/tracewright/engine/expr/Kind"), (.object "com/example/tracewright/tracewright/engine/expr/Kind"), (.array (.object "com/example/tracewright/tracewright/engine/expr/Kind"))]
  resolved := Array.replicate 98 none
  statics := some 1 }

def pool8 : Array CpInfo := pool [(1, u "java/lang/Cloneable"), (0, .class_ 1), (0, u "java/lang/Object"), (0, .class_ 3)] 3

/-- java/lang/Cloneable -/
def k8 : Class := { plain "java/lang/Cloneable" (some 0) with
  accessFlags := 1537
  interfaces := #[]
  cf := some (fileOf pool8 2 #[] #[] 1537 4 #[] #[])
  fields := #[]
  methods := #[]
  instanceTypes := #[]
  staticTypes := #[]
  resolved := Array.replicate 8 none
  statics := none }

/-- the primitive byte -/
def k9 : Class := { plain "byte" none with kind := .primitive 'B', accessFlags := 0x411 }
/-- [B -/
def k10 : Class := { plain "[B" (some 0) with kind := .array 9 .byte, interfaces := #[8, 4], accessFlags := 1041 }

/-- the primitive int -/
def k11 : Class := { plain "int" none with kind := .primitive 'I', accessFlags := 0x411 }
/-- [I -/
def k12 : Class := { plain "[I" (some 0) with kind := .array 11 .int, interfaces := #[8, 4], accessFlags := 1041 }

/-- [Lcom/example/tracewright/tracewright/engine/expr/Kind; -/
def k13 : Class := { plain "[Lcom/example/tracewright/tracewright/engine/expr/Kind;" (some 0) with kind := .array 7 (.object "com/example/tracewright/tracewright/engine/expr/Kind"), interfaces := #[8, 4], accessFlags := 1041 }

/-- [Lcom/example/tracewright/tracewright/engine/expr/UnaryOp; -/
def k14 : Class := { plain "[Lcom/example/tracewright/tracewright/engine/expr/UnaryOp;" (some 0) with kind := .array 6 (.object "com/example/tracewright/tracewright/engine/expr/UnaryOp"), interfaces := #[8, 4], accessFlags := 1041 }

def heap : Heap := #[{ cls := 6, slots := #[.ref 6, .ref 7, .ref 8, .ref 9, .ref 10, .ref 11, .ref 12, .ref 13, .ref 14, .ref 15, .ref 16, .ref 17, .ref 18, .ref 19, .ref 20, .ref 21, .null], vm := .statics 6 },
  { cls := 7, slots := #[.ref 2, .ref 3, .ref 4, .ref 5, .null], vm := .statics 7 },
  { cls := 7, slots := #[.null, .int 0, .int 0, .int 0, .int 0], vm := .none },
  { cls := 7, slots := #[.null, .int 1, .int 0, .int 0, .int 0], vm := .none },
  { cls := 7, slots := #[.null, .int 2, .int 0, .int 0, .int 0], vm := .none },
  { cls := 7, slots := #[.null, .int 3, .int 0, .int 0, .int 0], vm := .none },
  { cls := 6, slots := #[.null, .int 0, .int 0, .null, .null], vm := .none },
  { cls := 6, slots := #[.null, .int 1, .int 0, .ref 2, .null], vm := .none },
  { cls := 6, slots := #[.null, .int 2, .int 0, .ref 2, .null], vm := .none },
  { cls := 6, slots := #[.null, .int 3, .int 0, .ref 2, .null], vm := .none },
  { cls := 6, slots := #[.null, .int 4, .int 0, .ref 3, .null], vm := .none },
  { cls := 6, slots := #[.null, .int 5, .int 0, .ref 3, .null], vm := .none },
  { cls := 6, slots := #[.null, .int 6, .int 0, .ref 3, .null], vm := .none },
  { cls := 6, slots := #[.null, .int 7, .int 0, .ref 4, .null], vm := .none },
  { cls := 6, slots := #[.null, .int 8, .int 0, .ref 4, .null], vm := .none },
  { cls := 6, slots := #[.null, .int 9, .int 0, .ref 4, .null], vm := .none },
  { cls := 6, slots := #[.null, .int 10, .int 0, .ref 5, .null], vm := .none },
  { cls := 6, slots := #[.null, .int 11, .int 0, .ref 5, .null], vm := .none },
  { cls := 6, slots := #[.null, .int 12, .int 0, .ref 5, .null], vm := .none },
  { cls := 6, slots := #[.null, .int 13, .int 0, .ref 2, .null], vm := .none },
  { cls := 6, slots := #[.null, .int 14, .int 0, .ref 2, .null], vm := .none },
  { cls := 6, slots := #[.null, .int 15, .int 0, .ref 2, .null], vm := .none }]
def classes : Array Class := #[k0, k1, k2, k3, k4, k5, k6, k7, k8, k9, k10, k11, k12, k13, k14]
def interned : List (Array UInt16 × Addr) := []
def slotsUsed : Nat := 122
def theMethod : MethodId := ⟨1, 2⟩
def args0 : Array Value := #[.int 5, .int 6]
def aboutOver (below : List Frame) : State where
  vm := { classes := classes, interned := interned.toArray }
  heap := heap
  slotsUsed := slotsUsed
  threads := #[{ frames := .invoking theMethod args0 :: below }]
def below0 : List Frame := [.native { method := ⟨0, 0⟩, args := #[] }]
def about1 : State := aboutOver below0
def p0 : Program := .bare "" "" ""
def e0 : Env := launch0.env 0 0 0
theorem w_frames : about1.frames = Frame.invoking theMethod args0 :: below0 := rfl
set_option maxRecDepth 65536 in
theorem w_args : argsFit about1.vm theMethod args0 = true := by decide +kernel
set_option maxRecDepth 65536 in
theorem w_heap : heapFits about1 = true := by decide +kernel
set_option maxRecDepth 65536 in
theorem w_runnable : about1.curStatus? = some .runnable := by decide +kernel
set_option maxRecDepth 65536 in
theorem w_alone : about1.alone = true := by decide +kernel
set_option maxRecDepth 65536 in
theorem w_named : about1.methodNamed? x = some theMethod := by decide +kernel
set_option maxRecDepth 65536 in
theorem w_hears : about1.hears theMethod below0 = true := by decide +kernel
set_option maxRecDepth 65536 in
theorem w_ripe : about1.ripe theMethod args0 below0 = true := by decide +kernel
theorem w_running : about1.status = .running := rfl
set_option maxRecDepth 65536 in
theorem w_room : about1.hasRoom e0.platform room_1 = true :=
  launch0.hasRoom_least _ room_1 (by decide +kernel) (by decide +kernel) (by decide +kernel) (by decide +kernel) (by decide +kernel) (by decide +kernel)
theorem allAtoms_all (ts : List Jvm.Cond) (a : Array Jvm.Value) (st : Jvm.State) : (allAtoms ts).before a st = ts.all (fun c => c.before a st) := by
  induction ts with
  | nil => rfl
  | cons c t ih =>
    show (Jvm.Cond.and c (allAtoms t)).before a st = _
    rw [Jvm.Cond.before_and, ih, List.all_cons]
def words1 : List Jvm.Cond := Jvm.Cond.code x code maxLocals ret :: tables_1
/-- a 'code' word, met by the world's own term for the bytes: nothing is compared byte by byte -/
theorem code_word {y : MethodName} {bytes : ByteArray} {mx : Nat} {rt : Option FieldType} {a : Array Value} {s : State} {m : MethodId} {meth : Method} {c : Code} (h1 : s.methodNamed? y = some m) (h2 : s.vm.method? m = some meth) (h3 : meth.code = some c) (h4 : c.code = bytes)
    (h5 : (c.maxLocals == mx && c.exceptionTable.isEmpty && decide (c.maxStack ≤ mostOperands) && decide (meth.sig.returnType = rt) && !meth.locks && decide (parseMethodDescriptor y.desc = some meth.sig)) = true) : (Jvm.Cond.code y bytes mx rt).before a s = true := by
  simp only [Bool.and_eq_true, beq_iff_eq, Bool.not_eq_true', decide_eq_true_eq] at h5
  obtain ⟨⟨⟨⟨⟨g1, g2⟩, g3⟩, g4⟩, g5⟩, g6⟩ := h5
  simp [Cond.before, Cond.holds, Cond.value, h1, h2, h3, h4, g1, g2, g3, g4, g5, g6]
def isCode : Jvm.Cond → Bool
  | .code _ _ _ _ => true
  | _ => false
theorem all_split {L : List Jvm.Cond} {P : Jvm.Cond → Bool} (h1 : L.all (fun c => isCode c || P c) = true) (h2 : ∀ c ∈ L.filter isCode, P c = true) : L.all P = true := by
  refine List.all_eq_true.mpr fun c hc => ?_
  have h := List.all_eq_true.mp h1 c hc
  rcases Bool.eq_false_or_eq_true (isCode c) with hi | hi
  · exact h2 c (List.mem_filter.mpr ⟨hc, hi⟩)
  · simpa [hi] using h
set_option maxRecDepth 65536 in
theorem w_c0 : (Jvm.Cond.code x code maxLocals ret).before args0 about1 = true := code_word (m := ⟨1, 2⟩) (meth := k1m2) (c := k1c2) (by decide +kernel) rfl rfl rfl (by decide +kernel)
set_option maxRecDepth 65536 in
theorem w_c1 : (Jvm.Cond.code ({ cls := "com/example/tracewright/tracewright/engine/expr/UnaryOpAcceptsPinLaw", name := "sourceKindIndex", desc := "(I)I" } : Jvm.MethodName) method_2_code (1 : Nat) (Option.some Jvm.ClassFile.FieldType.int)).before args0 about1 = true := code_word (m := ⟨1, 1⟩) (meth := k1m1) (c := k1c1) (by decide +kernel) rfl rfl rfl (by decide +kernel)
set_option maxRecDepth 65536 in
theorem w_c2 : (Jvm.Cond.code ({ cls := "com/example/tracewright/tracewright/engine/expr/UnaryOp", name := "accepts", desc := "(Lcom/example/tracewright/tracewright/engine/expr/Kind;)Z" } : Jvm.MethodName) prog_43_method_5_code (2 : Nat) (Option.some Jvm.ClassFile.FieldType.boolean)).before args0 about1 = true := code_word (m := ⟨6, 0⟩) (meth := k6m0) (c := k6c0) (by decide +kernel) rfl rfl rfl (by decide +kernel)
def codes1 : List Jvm.Cond := [Jvm.Cond.code x code maxLocals ret, Jvm.Cond.code ({ cls := "com/example/tracewright/tracewright/engine/expr/UnaryOpAcceptsPinLaw", name := "sourceKindIndex", desc := "(I)I" } : Jvm.MethodName) method_2_code (1 : Nat) (Option.some Jvm.ClassFile.FieldType.int), Jvm.Cond.code ({ cls := "com/example/tracewright/tracewright/engine/expr/UnaryOp", name := "accepts", desc := "(Lcom/example/tracewright/tracewright/engine/expr/Kind;)Z" } : Jvm.MethodName) prog_43_method_5_code (2 : Nat) (Option.some Jvm.ClassFile.FieldType.boolean)]
set_option maxRecDepth 65536 in
theorem codes_eq : words1.filter isCode = codes1 := rfl
theorem w_codes : ∀ c ∈ words1.filter isCode, c.before args0 about1 = true := by
  rw [codes_eq]
  intro c hc
  simp only [codes1, List.mem_cons, List.not_mem_nil, or_false] at hc
  rcases hc with rfl | rfl | rfl
  · exact w_c0
  · exact w_c1
  · exact w_c2
set_option maxRecDepth 65536 in
theorem w_t1 : (words1.take 24).all (fun c => isCode c || c.before args0 about1) = true := by decide +kernel
set_option maxRecDepth 65536 in
theorem w_t2 : ((words1.drop 24).take 24).all (fun c => isCode c || c.before args0 about1) = true := by decide +kernel
set_option maxRecDepth 65536 in
theorem w_t3 : ((words1.drop 24).drop 24).all (fun c => isCode c || c.before args0 about1) = true := by decide +kernel
theorem w_tables : (allAtoms (Jvm.Cond.code x code maxLocals ret :: tables_1)).before args0 about1 = true := by
  rw [allAtoms_all]
  show words1.all (fun c => c.before args0 about1) = true
  refine all_split ?_ w_codes
  rw [← List.take_append_drop 24 words1, List.all_append, w_t1, ← List.take_append_drop 24 (words1.drop 24), List.all_append, w_t2, w_t3]
  rfl
set_option maxRecDepth 65536 in
theorem w_case : (Jvm.Cond.and given_1 narrow_1).before args0 about1 = true := by decide +kernel
theorem w_applies : (headSpec (Jvm.Cond.code x code maxLocals ret :: tables_1) room_1).applies x e0.platform about1 = true :=
  (Spec.applies_iff w_frames).mpr ⟨w_running, w_runnable, w_alone, w_named, w_hears, w_ripe, w_room, w_tables⟩
theorem atStart : AtStart classFile x code maxLocals ret World_1 tables_1 room_1 Calls_1 rest_1 Pre_1 launch0 p0 e0 about1 theMethod args0 below0 :=
  ⟨lists_1, trivial, launch0.admits_env _ _ _, launch0.least_env, fairChoices_fair.cas, fairChoices_fair.clock, w_frames, w_args, w_heap, w_applies, trivial, trivial, w_case⟩
end start1
theorem witness_1 : WitnessClaimed_1 := ⟨start1.p0, start1.e0, start1.about1, start1.theMethod, start1.args0, start1.below0, start1.atStart⟩
end Jvm.Pilot.@@N@@
