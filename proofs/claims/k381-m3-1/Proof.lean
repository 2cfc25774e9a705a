import JvmDerived
import JvmDerived.Pilot.@@N@@Statement
import JvmDerived.Pilot.@@N@@Code
set_option linter.unusedVariables false
set_option linter.unusedSimpArgs false
@@BLOCK:HandJ.lean.txt@@
@@BLOCK:SymMore.lean.txt@@
namespace Jvm.RoadKit
open Sem ClassFile Op Lib Jvm.Stand Jvm.Free Jvm.LawKit
section New
variable {p : Program} {l : Launch} {e : Env} {R : Room} {s : State} {m : MethodId} {args : Array Value} {below : List Frame} {meth : Method} {c : Code} {T : State} {locs : List Loc} {cells slots : Nat}
theorem retI (X : Stand p l e R s m args below meth c T locs cells slots) (hx : p.tables.exec = Jvm.exec) {pc : Nat} {Ls : Array Slot} {z : Int32} {rest : List Value} (hret : meth.sig.returnType = some .int) (hd : decode c.code pc = .ok (.ireturn, 1)) {fs : List Frame}
    (hl : ∀ (f : JFrame) (acts : List Action), f.method = m → f.locked = none → f.entered = [] → (doReturn e (T.setTop f) acts (some (.int z))).1 = T.setFrames fs) : Steps p.tables e below (T.setTop (mkF m pc Ls (.int z :: rest))) (T.setFrames fs) := by
  have hm' : T.vm.method? m = some meth := X.method'
  have hn : narrow .int (.int z) = .int z := rfl
  show Steps p.tables e below (T.setTop { method := m, pc := pc, locals := Ls, stack := _ :: rest, locked := none }) _
  jvm_step X.here [X.here.top, hx, hd, hm', hret, hn]
  first | (intro acts; rw [hl _ acts rfl rfl rfl]) | rw [hl _ _ rfl rfl rfl]
  exact Steps.refl _
end New
end Jvm.RoadKit
namespace Jvm.Pilot.@@N@@
open Jvm Jvm.ClassFile Sem Op Lib Jvm.Free Jvm.Stand Jvm.LawKit Jvm.RoadKit Bundle Jvm.Pilot.@@N@@.Jvm.D
abbrev own_S (p : Program) (e : Env) (below : List Frame) (T t : State) : Prop := Steps p.tables e below T t
theorem own_w {Z : State} {a0 : Array Value} {d : Jvm.Cond} (hw : ∀ d ∈ tables_1, d.before a0 Z = true) (i : Nat) (h : tables_1[i]? = some d) : d.before a0 Z = true := hw d (List.mem_of_getElem? h)
abbrev own_s0 : String := "com/example/corsia/corsia/engine/ValueText"
abbrev own_s1 : String := "Lcom/example/corsia/corsia/engine/ValueLengths$Count;"
abbrev own_s2 : String := "zerosShortened"
abbrev own_s3 : String := "fractionZeros"
abbrev own_s4 : String := "Lcom/example/corsia/corsia/engine/ValueText$Phase;"
abbrev own_s5 : String := "Lcom/example/corsia/corsia/engine/ValueText$Role;"
abbrev own_s6 : String := "com/example/corsia/corsia/engine/ValueLengths$Limit"
abbrev own_s7 : String := "com/example/corsia/corsia/engine/ValueLengths$Count"
abbrev own_s8 : String := "([CIILcom/example/corsia/corsia/engine/ValueText$Sink;)Z"
abbrev own_s9 : String := "com/example/corsia/corsia/engine/ValueText$Phase"
abbrev own_s10 : String := "com/example/corsia/corsia/engine/ValueText$Role"
abbrev own_s11 : String := "com/example/corsia/corsia/engine/ValueTextRoomPinLaw"
abbrev own_s12 : String := "java/lang/Character"
abbrev own_s13 : String := "java/lang/Math"
abbrev own_s14 : String := "(C)Lcom/example/corsia/corsia/engine/ValueText$Role;"
abbrev own_s15 : String := "isLowSurrogate"
abbrev own_s16 : String := "(Lcom/example/corsia/corsia/engine/ValueLengths$Limit;J)V"
abbrev own_s17 : String := "java/util/Arrays"
abbrev own_s18 : String := "java/lang/Enum"
abbrev own_s19 : String := "java/lang/Record"
abbrev own_s20 : String := "()Lcom/example/corsia/corsia/engine/ValueLengths$Count;"
theorem own_fldI {s : State} {args : Array Value} {t : Term} {x : Addr} {C n d : String} {k : Int32} (ev : t.eval args s none [] s = some (.ref x)) (h : (Cond.eq (.field t C n d) (.int k)).value args s none s [] = some true) : Fld s s.heap x C n d (.int k) := by
  refine Fld.start ?_
  have e := fld_at (C := C) (n := n) (dd := d) ev
  cases hq : s.fieldOf? x C n d with
  | none => rw [hq] at e; simp [Cond.value, e] at h
  | some v =>
    rw [hq] at e
    have e2 : (Term.int k).eval args s none [] s = some (.int k) := rfl
    cases v <;> simp [Cond.value, e, e2] at h
    rw [h]
theorem own_fldN {s : State} {args : Array Value} {t : Term} {x : Addr} {C n d : String} (ev : t.eval args s none [] s = some (.ref x)) (h : (Cond.eq (.field t C n d) .null).value args s none s [] = some true) : Fld s s.heap x C n d .null := by
  refine Fld.start ?_
  rw [← fld_at (C := C) (n := n) (dd := d) ev]
  exact null_v h
theorem own_fldR {s : State} {args : Array Value} {t u : Term} {x y : Addr} {C n d : String} (ev : t.eval args s none [] s = some (.ref x)) (eu : u.eval args s none [] s = some (.ref y)) (h : (Cond.eq (.field t C n d) u).value args s none s [] = some true) : Fld s s.heap x C n d (.ref y) := by
  refine Fld.start ?_
  have e := fld_at (C := C) (n := n) (dd := d) ev
  cases hq : s.fieldOf? x C n d with
  | none => rw [hq] at e; simp [Cond.value, e] at h
  | some v =>
    rw [hq] at e
    cases v <;> simp [Cond.value, e, eu] at h
    rw [h]
theorem own_staI {s : State} {args : Array Value} {C n d : String} {k : Int32} (h : (Cond.eq (.static C n d) (.int k)).value args s none s [] = some true) : (Term.static C n d).eval args s none [] s = some (.int k) := by
  cases hq : (Term.static C n d).eval args s none [] s with
  | none => simp [Cond.value, hq] at h
  | some v =>
    have e2 : (Term.int k).eval args s none [] s = some (.int k) := rfl
    cases v <;> simp [Cond.value, hq, e2] at h
    rw [h]
theorem own_elemR {s : State} {args : Array Value} {t u : Term} {x y : Addr} {cl : Cell} {j : Int32} (ev : t.eval args s none [] s = some (.ref x)) (eu : u.eval args s none [] s = some (.ref y)) (hc : s.heap[x]? = some cl) (h : (Cond.eq (.elem t (.int j)) u).value args s none s [] = some true) : cl.slots[j.toNatClampNeg]? = some (.ref y) := by
  cases hq : (Term.elem t (.int j)).eval args s none [] s with
  | none => simp [Cond.value, hq] at h
  | some v =>
    have e := (elem_in hq ev rfl hc).2
    cases v <;> simp [Cond.value, hq, eu] at h
    rw [e, h]
theorem own_fresh {Z : State} {h : Heap} {a b : Addr} {C n d : String} {v w : Value} (F : Fld Z h a C n d v) (G : Fld Z h b C n d w) (q : v ≠ w) : a ≠ b := F.ne G q
theorem own_sta_keep {Z : State} {h h' : Heap} {C n d : String} {v : Value} {ws : List Addr} (F : Sta Z h C n d v) (K : Keep h h' ws) (q : ∀ x ∈ ws, ∀ c : Cell, h[x]? = some c → c.vm.isStatics = false) : Sta Z h' C n d v := by
  obtain ⟨cf, i, k, f, st, cell, h1, h2, h3, h4, h5, h6, h7⟩ := F
  refine ⟨cf, i, k, f, st, cell, h1, h2, h3, h4, K.2.1 st cell h5 (fun hm => ?_), h6, h7⟩
  rw [q st hm cell h5] at h6; cases h6
theorem own_mono {p : Program} {l : Launch} {e : Env} {R : Room} {s : State} {m : MethodId} {args : Array Value} {below : List Frame} {meth : Method} {c : Code} {T : State} {locs : List Loc} {k j k' j' : Nat} (X : Stand p l e R s m args below meth c T locs k j) (hk : k ≤ k') (hj : j ≤ j') : Stand p l e R s m args below meth c T locs k' j' := { X with same := X.same.mono hk hj }
theorem own_nost {Z : State} {h : Heap} {a : Addr} {C : String} (F : Exa Z h a C) : ∀ c : Cell, h[a]? = some c → c.vm.isStatics = false := fun c hc => by
  obtain ⟨c', _, h1, -, -, h4, -⟩ := F
  cases h1.symm.trans hc; exact h4
theorem own_nostV {Z : State} {h : Heap} {a : Addr} {k : ClassId} {ty : FieldType} {z : Int32} {vs : List Value} {dv : Value} (F : Arv Z h a k ty z vs dv) : ∀ c : Cell, h[a]? = some c → c.vm.isStatics = false := fun c hc => by
  obtain ⟨c', A, -⟩ := F
  cases A.1.symm.trans hc; exact A.plain
theorem d0_0 : decode jdk_29_method_70_code 0 = .ok (.lload_n 0, 1) := by decide +kernel
theorem d0_1 : decode jdk_29_method_70_code 1 = .ok (.lload_n 2, 1) := by decide +kernel
theorem d0_2 : decode jdk_29_method_70_code 2 = .ok (.lcmp, 1) := by decide +kernel
theorem d0_3 : decode jdk_29_method_70_code 3 = .ok (.ifCond .gt 7, 3) := by decide +kernel
theorem d0_6 : decode jdk_29_method_70_code 6 = .ok (.lload_n 0, 1) := by decide +kernel
theorem d0_7 : decode jdk_29_method_70_code 7 = .ok (.goto 4, 3) := by decide +kernel
theorem d0_11 : decode jdk_29_method_70_code 11 = .ok (.lreturn, 1) := by decide +kernel
theorem d0_10 : decode jdk_29_method_70_code 10 = .ok (.lload_n 2, 1) := by decide +kernel
theorem d2_0 : decode jdk_30_method_1_code 0 = .ok (.aload_n 0, 1) := by decide +kernel
theorem d2_1 : decode jdk_30_method_1_code 1 = .ok (.invokespecial 1, 3) := by decide +kernel
theorem d2_4 : decode jdk_30_method_1_code 4 = .ok (.return_, 1) := by decide +kernel
theorem pn_3 : plainName own_s19 = true := by first | (simp [plainName, overriddenIn]; done) | decide +kernel
theorem d4_5 : decode jdk_65_method_107_code 5 = .ok (.iload_n 2, 1) := by decide +kernel
theorem d4_6 : decode jdk_65_method_107_code 6 = .ok (.iload_n 3, 1) := by decide +kernel
theorem d4_7 : decode jdk_65_method_107_code 7 = .ok (.if_icmp .ge 13, 3) := by decide +kernel
theorem d4_10 : decode jdk_65_method_107_code 10 = .ok (.aload_n 0, 1) := by decide +kernel
theorem d4_11 : decode jdk_65_method_107_code 11 = .ok (.iload_n 2, 1) := by decide +kernel
theorem d4_12 : decode jdk_65_method_107_code 12 = .ok (.iload_n 1, 1) := by decide +kernel
theorem d4_13 : decode jdk_65_method_107_code 13 = .ok (.castore, 1) := by decide +kernel
theorem d4_14 : decode jdk_65_method_107_code 14 = .ok (.iinc 2 1, 3) := by decide +kernel
theorem d4_17 : decode jdk_65_method_107_code 17 = .ok (.goto (-12), 3) := by decide +kernel
theorem d4_0 : decode jdk_65_method_107_code 0 = .ok (.iconst 0, 1) := by decide +kernel
theorem d4_1 : decode jdk_65_method_107_code 1 = .ok (.istore_n 2, 1) := by decide +kernel
theorem d4_2 : decode jdk_65_method_107_code 2 = .ok (.aload_n 0, 1) := by decide +kernel
theorem d4_3 : decode jdk_65_method_107_code 3 = .ok (.arraylength, 1) := by decide +kernel
theorem d4_4 : decode jdk_65_method_107_code 4 = .ok (.istore_n 3, 1) := by decide +kernel
theorem d4_20 : decode jdk_65_method_107_code 20 = .ok (.return_, 1) := by decide +kernel
theorem pn_5 : plainName own_s17 = true := by first | (simp [plainName, overriddenIn]; done) | decide +kernel
theorem d6_0 : decode prog_127_method_1_code 0 = .ok (.aload_n 0, 1) := by decide +kernel
theorem d6_1 : decode prog_127_method_1_code 1 = .ok (.invokespecial 1, 3) := by decide +kernel
theorem d6_4 : decode prog_127_method_1_code 4 = .ok (.aload_n 0, 1) := by decide +kernel
theorem d6_5 : decode prog_127_method_1_code 5 = .ok (.bipush 64, 2) := by decide +kernel
theorem d6_7 : decode prog_127_method_1_code 7 = .ok (.newarray .char, 2) := by decide +kernel
theorem d6_9 : decode prog_127_method_1_code 9 = .ok (.putfield 7, 3) := by decide +kernel
theorem d6_12 : decode prog_127_method_1_code 12 = .ok (.aload_n 0, 1) := by decide +kernel
theorem d6_13 : decode prog_127_method_1_code 13 = .ok (.getfield 7, 3) := by decide +kernel
theorem d6_16 : decode prog_127_method_1_code 16 = .ok (.bipush 48, 2) := by decide +kernel
theorem d6_18 : decode prog_127_method_1_code 18 = .ok (.invokestatic 13, 3) := by decide +kernel
theorem pd_7 : parseMethodDescriptor "([CC)V" = some ⟨[(.array .char), .char], none⟩ := by decide +kernel
theorem d6_21 : decode prog_127_method_1_code 21 = .ok (.return_, 1) := by decide +kernel
theorem own_sn0 {Z : State} {a0 : Array Value} (hw : ∀ d ∈ tables_1, d.before a0 Z = true) : Jvm.RoadKit.slotOf Z own_s0 "count" own_s1 ≠ Jvm.RoadKit.slotOf Z own_s0 "zeros" "[C" := slot_ne (Or.inl (own_w hw 56 rfl)) (Or.inr (own_w hw 22 rfl)) (by decide) (t := (.object own_s7)) (t' := (.array .char)) (by decide) (by decide)
theorem own_sn1 {Z : State} {a0 : Array Value} (hw : ∀ d ∈ tables_1, d.before a0 Z = true) : Jvm.RoadKit.slotOf Z own_s0 own_s2 "Z" ≠ Jvm.RoadKit.slotOf Z own_s0 "zeros" "[C" := slot_ne (Or.inl (own_w hw 63 rfl)) (Or.inr (own_w hw 22 rfl)) (by decide) (t := .boolean) (t' := (.array .char)) (by decide) (by decide)
theorem own_sn2 {Z : State} {a0 : Array Value} (hw : ∀ d ∈ tables_1, d.before a0 Z = true) : Jvm.RoadKit.slotOf Z own_s0 "most" "J" ≠ Jvm.RoadKit.slotOf Z own_s0 "zeros" "[C" := slot_ne (Or.inl (own_w hw 65 rfl)) (Or.inr (own_w hw 22 rfl)) (by decide) (t := .long) (t' := (.array .char)) (by decide) (by decide)
theorem own_sn3 {Z : State} {a0 : Array Value} (hw : ∀ d ∈ tables_1, d.before a0 Z = true) : Jvm.RoadKit.slotOf Z own_s0 "length" "J" ≠ Jvm.RoadKit.slotOf Z own_s0 "zeros" "[C" := slot_ne (Or.inl (own_w hw 67 rfl)) (Or.inr (own_w hw 22 rfl)) (by decide) (t := .long) (t' := (.array .char)) (by decide) (by decide)
theorem own_sn4 {Z : State} {a0 : Array Value} (hw : ∀ d ∈ tables_1, d.before a0 Z = true) : Jvm.RoadKit.slotOf Z own_s0 "past" "Z" ≠ Jvm.RoadKit.slotOf Z own_s0 "zeros" "[C" := slot_ne (Or.inl (own_w hw 69 rfl)) (Or.inr (own_w hw 22 rfl)) (by decide) (t := .boolean) (t' := (.array .char)) (by decide) (by decide)
theorem own_sn5 {Z : State} {a0 : Array Value} (hw : ∀ d ∈ tables_1, d.before a0 Z = true) : Jvm.RoadKit.slotOf Z own_s0 "over" "Z" ≠ Jvm.RoadKit.slotOf Z own_s0 "zeros" "[C" := slot_ne (Or.inl (own_w hw 71 rfl)) (Or.inr (own_w hw 22 rfl)) (by decide) (t := .boolean) (t' := (.array .char)) (by decide) (by decide)
theorem own_sn6 {Z : State} {a0 : Array Value} (hw : ∀ d ∈ tables_1, d.before a0 Z = true) : Jvm.RoadKit.slotOf Z own_s0 "counted" "J" ≠ Jvm.RoadKit.slotOf Z own_s0 "zeros" "[C" := slot_ne (Or.inl (own_w hw 73 rfl)) (Or.inr (own_w hw 22 rfl)) (by decide) (t := .long) (t' := (.array .char)) (by decide) (by decide)
theorem own_sn7 {Z : State} {a0 : Array Value} (hw : ∀ d ∈ tables_1, d.before a0 Z = true) : Jvm.RoadKit.slotOf Z own_s0 "phase" own_s4 ≠ Jvm.RoadKit.slotOf Z own_s0 "zeros" "[C" := slot_ne (Or.inl (own_w hw 78 rfl)) (Or.inr (own_w hw 22 rfl)) (by decide) (t := (.object own_s9)) (t' := (.array .char)) (by decide) (by decide)
theorem own_sn8 {Z : State} {a0 : Array Value} (hw : ∀ d ∈ tables_1, d.before a0 Z = true) : Jvm.RoadKit.slotOf Z own_s0 "run" own_s5 ≠ Jvm.RoadKit.slotOf Z own_s0 "zeros" "[C" := slot_ne (Or.inl (own_w hw 80 rfl)) (Or.inr (own_w hw 22 rfl)) (by decide) (t := (.object own_s10)) (t' := (.array .char)) (by decide) (by decide)
theorem own_sn9 {Z : State} {a0 : Array Value} (hw : ∀ d ∈ tables_1, d.before a0 Z = true) : Jvm.RoadKit.slotOf Z own_s0 own_s3 "J" ≠ Jvm.RoadKit.slotOf Z own_s0 "zeros" "[C" := slot_ne (Or.inl (own_w hw 82 rfl)) (Or.inr (own_w hw 22 rfl)) (by decide) (t := .long) (t' := (.array .char)) (by decide) (by decide)
theorem pn_8 : plainName own_s0 = true := by first | (simp [plainName, overriddenIn]; done) | decide +kernel
theorem d9_0 : decode prog_124_method_1_code 0 = .ok (.aload_n 0, 1) := by decide +kernel
theorem d9_1 : decode prog_124_method_1_code 1 = .ok (.invokespecial 1, 3) := by decide +kernel
theorem pd_10 : parseMethodDescriptor "()V" = some ⟨[], none⟩ := by decide +kernel
theorem d9_4 : decode prog_124_method_1_code 4 = .ok (.aload_n 0, 1) := by decide +kernel
theorem d9_5 : decode prog_124_method_1_code 5 = .ok (.aload_n 1, 1) := by decide +kernel
theorem d9_6 : decode prog_124_method_1_code 6 = .ok (.putfield 7, 3) := by decide +kernel
theorem d9_9 : decode prog_124_method_1_code 9 = .ok (.aload_n 0, 1) := by decide +kernel
theorem d9_10 : decode prog_124_method_1_code 10 = .ok (.lload_n 2, 1) := by decide +kernel
theorem d9_11 : decode prog_124_method_1_code 11 = .ok (.putfield 13, 3) := by decide +kernel
theorem own_sn10 {Z : State} {a0 : Array Value} (hw : ∀ d ∈ tables_1, d.before a0 Z = true) : Jvm.RoadKit.slotOf Z own_s6 "most" "J" ≠ Jvm.RoadKit.slotOf Z own_s6 "count" own_s1 := slot_ne (Or.inr (own_w hw 42 rfl)) (Or.inr (own_w hw 40 rfl)) (by decide) (t := .long) (t' := (.object own_s7)) (by decide) (by decide)
theorem d9_14 : decode prog_124_method_1_code 14 = .ok (.aload_n 0, 1) := by decide +kernel
theorem d9_15 : decode prog_124_method_1_code 15 = .ok (.iload 4, 2) := by decide +kernel
theorem d9_17 : decode prog_124_method_1_code 17 = .ok (.putfield 17, 3) := by decide +kernel
theorem own_sn11 {Z : State} {a0 : Array Value} (hw : ∀ d ∈ tables_1, d.before a0 Z = true) : Jvm.RoadKit.slotOf Z own_s6 own_s2 "Z" ≠ Jvm.RoadKit.slotOf Z own_s6 "count" own_s1 := slot_ne (Or.inr (own_w hw 44 rfl)) (Or.inr (own_w hw 40 rfl)) (by decide) (t := .boolean) (t' := (.object own_s7)) (by decide) (by decide)
theorem own_sn12 {Z : State} {a0 : Array Value} (hw : ∀ d ∈ tables_1, d.before a0 Z = true) : Jvm.RoadKit.slotOf Z own_s6 own_s2 "Z" ≠ Jvm.RoadKit.slotOf Z own_s6 "most" "J" := slot_ne (Or.inr (own_w hw 44 rfl)) (Or.inr (own_w hw 42 rfl)) (by decide) (t := .boolean) (t' := .long) (by decide) (by decide)
theorem d9_20 : decode prog_124_method_1_code 20 = .ok (.return_, 1) := by decide +kernel
theorem own_sn13 {Z : State} {a0 : Array Value} (hw : ∀ d ∈ tables_1, d.before a0 Z = true) : Jvm.RoadKit.slotOf Z own_s6 "count" own_s1 ≠ Jvm.RoadKit.slotOf Z own_s6 "most" "J" := slot_ne (Or.inr (own_w hw 40 rfl)) (Or.inr (own_w hw 42 rfl)) (by decide) (t := (.object own_s7)) (t' := .long) (by decide) (by decide)
theorem own_sn14 {Z : State} {a0 : Array Value} (hw : ∀ d ∈ tables_1, d.before a0 Z = true) : Jvm.RoadKit.slotOf Z own_s6 "count" own_s1 ≠ Jvm.RoadKit.slotOf Z own_s6 own_s2 "Z" := slot_ne (Or.inr (own_w hw 40 rfl)) (Or.inr (own_w hw 44 rfl)) (by decide) (t := (.object own_s7)) (t' := .boolean) (by decide) (by decide)
theorem pn_11 : plainName own_s6 = true := by first | (simp [plainName, overriddenIn]; done) | decide +kernel
theorem d12_0 : decode prog_124_method_5_code 0 = .ok (.aload_n 0, 1) := by decide +kernel
theorem d12_1 : decode prog_124_method_5_code 1 = .ok (.getfield 7, 3) := by decide +kernel
theorem d12_4 : decode prog_124_method_5_code 4 = .ok (.areturn, 1) := by decide +kernel
theorem d13_0 : decode prog_124_method_7_code 0 = .ok (.aload_n 0, 1) := by decide +kernel
theorem d13_1 : decode prog_124_method_7_code 1 = .ok (.getfield 17, 3) := by decide +kernel
theorem d13_4 : decode prog_124_method_7_code 4 = .ok (.ireturn, 1) := by decide +kernel
theorem d14_0 : decode prog_127_method_2_code 0 = .ok (.aload_n 0, 1) := by decide +kernel
theorem d14_1 : decode prog_127_method_2_code 1 = .ok (.aload_n 1, 1) := by decide +kernel
theorem d14_2 : decode prog_127_method_2_code 2 = .ok (.invokevirtual 19, 3) := by decide +kernel
theorem pd_15 : parseMethodDescriptor own_s20 = some ⟨[], some (.object own_s7)⟩ := by decide +kernel
theorem d14_5 : decode prog_127_method_2_code 5 = .ok (.putfield 25, 3) := by decide +kernel
theorem d14_8 : decode prog_127_method_2_code 8 = .ok (.aload_n 0, 1) := by decide +kernel
theorem d14_9 : decode prog_127_method_2_code 9 = .ok (.aload_n 1, 1) := by decide +kernel
theorem d14_10 : decode prog_127_method_2_code 10 = .ok (.invokevirtual 28, 3) := by decide +kernel
theorem pd_16 : parseMethodDescriptor "()Z" = some ⟨[], some .boolean⟩ := by decide +kernel
theorem d14_13 : decode prog_127_method_2_code 13 = .ok (.putfield 32, 3) := by decide +kernel
theorem own_sn15 {Z : State} {a0 : Array Value} (hw : ∀ d ∈ tables_1, d.before a0 Z = true) : Jvm.RoadKit.slotOf Z own_s0 own_s2 "Z" ≠ Jvm.RoadKit.slotOf Z own_s0 "count" own_s1 := slot_ne (Or.inl (own_w hw 63 rfl)) (Or.inl (own_w hw 56 rfl)) (by decide) (t := .boolean) (t' := (.object own_s7)) (by decide) (by decide)
theorem d14_16 : decode prog_127_method_2_code 16 = .ok (.aload_n 0, 1) := by decide +kernel
theorem d14_17 : decode prog_127_method_2_code 17 = .ok (.lload_n 2, 1) := by decide +kernel
theorem d14_18 : decode prog_127_method_2_code 18 = .ok (.putfield 35, 3) := by decide +kernel
theorem own_sn16 {Z : State} {a0 : Array Value} (hw : ∀ d ∈ tables_1, d.before a0 Z = true) : Jvm.RoadKit.slotOf Z own_s0 "most" "J" ≠ Jvm.RoadKit.slotOf Z own_s0 "count" own_s1 := slot_ne (Or.inl (own_w hw 65 rfl)) (Or.inl (own_w hw 56 rfl)) (by decide) (t := .long) (t' := (.object own_s7)) (by decide) (by decide)
theorem own_sn17 {Z : State} {a0 : Array Value} (hw : ∀ d ∈ tables_1, d.before a0 Z = true) : Jvm.RoadKit.slotOf Z own_s0 "most" "J" ≠ Jvm.RoadKit.slotOf Z own_s0 own_s2 "Z" := slot_ne (Or.inl (own_w hw 65 rfl)) (Or.inl (own_w hw 63 rfl)) (by decide) (t := .long) (t' := .boolean) (by decide) (by decide)
theorem d14_21 : decode prog_127_method_2_code 21 = .ok (.aload_n 0, 1) := by decide +kernel
theorem d14_22 : decode prog_127_method_2_code 22 = .ok (.lconst 0, 1) := by decide +kernel
theorem d14_23 : decode prog_127_method_2_code 23 = .ok (.putfield 39, 3) := by decide +kernel
theorem own_sn18 {Z : State} {a0 : Array Value} (hw : ∀ d ∈ tables_1, d.before a0 Z = true) : Jvm.RoadKit.slotOf Z own_s0 "length" "J" ≠ Jvm.RoadKit.slotOf Z own_s0 "count" own_s1 := slot_ne (Or.inl (own_w hw 67 rfl)) (Or.inl (own_w hw 56 rfl)) (by decide) (t := .long) (t' := (.object own_s7)) (by decide) (by decide)
theorem own_sn19 {Z : State} {a0 : Array Value} (hw : ∀ d ∈ tables_1, d.before a0 Z = true) : Jvm.RoadKit.slotOf Z own_s0 "length" "J" ≠ Jvm.RoadKit.slotOf Z own_s0 own_s2 "Z" := slot_ne (Or.inl (own_w hw 67 rfl)) (Or.inl (own_w hw 63 rfl)) (by decide) (t := .long) (t' := .boolean) (by decide) (by decide)
theorem own_sn20 {Z : State} {a0 : Array Value} (hw : ∀ d ∈ tables_1, d.before a0 Z = true) : Jvm.RoadKit.slotOf Z own_s0 "length" "J" ≠ Jvm.RoadKit.slotOf Z own_s0 "most" "J" := slot_ne (Or.inl (own_w hw 67 rfl)) (Or.inl (own_w hw 65 rfl)) (by decide) (t := .long) (t' := .long) (by decide) (by decide)
theorem d14_26 : decode prog_127_method_2_code 26 = .ok (.aload_n 0, 1) := by decide +kernel
theorem d14_27 : decode prog_127_method_2_code 27 = .ok (.iconst 0, 1) := by decide +kernel
theorem d14_28 : decode prog_127_method_2_code 28 = .ok (.putfield 42, 3) := by decide +kernel
theorem own_sn21 {Z : State} {a0 : Array Value} (hw : ∀ d ∈ tables_1, d.before a0 Z = true) : Jvm.RoadKit.slotOf Z own_s0 "past" "Z" ≠ Jvm.RoadKit.slotOf Z own_s0 "count" own_s1 := slot_ne (Or.inl (own_w hw 69 rfl)) (Or.inl (own_w hw 56 rfl)) (by decide) (t := .boolean) (t' := (.object own_s7)) (by decide) (by decide)
theorem own_sn22 {Z : State} {a0 : Array Value} (hw : ∀ d ∈ tables_1, d.before a0 Z = true) : Jvm.RoadKit.slotOf Z own_s0 "past" "Z" ≠ Jvm.RoadKit.slotOf Z own_s0 own_s2 "Z" := slot_ne (Or.inl (own_w hw 69 rfl)) (Or.inl (own_w hw 63 rfl)) (by decide) (t := .boolean) (t' := .boolean) (by decide) (by decide)
theorem own_sn23 {Z : State} {a0 : Array Value} (hw : ∀ d ∈ tables_1, d.before a0 Z = true) : Jvm.RoadKit.slotOf Z own_s0 "past" "Z" ≠ Jvm.RoadKit.slotOf Z own_s0 "most" "J" := slot_ne (Or.inl (own_w hw 69 rfl)) (Or.inl (own_w hw 65 rfl)) (by decide) (t := .boolean) (t' := .long) (by decide) (by decide)
theorem own_sn24 {Z : State} {a0 : Array Value} (hw : ∀ d ∈ tables_1, d.before a0 Z = true) : Jvm.RoadKit.slotOf Z own_s0 "past" "Z" ≠ Jvm.RoadKit.slotOf Z own_s0 "length" "J" := slot_ne (Or.inl (own_w hw 69 rfl)) (Or.inl (own_w hw 67 rfl)) (by decide) (t := .boolean) (t' := .long) (by decide) (by decide)
theorem d14_31 : decode prog_127_method_2_code 31 = .ok (.aload_n 0, 1) := by decide +kernel
theorem d14_32 : decode prog_127_method_2_code 32 = .ok (.iconst 0, 1) := by decide +kernel
theorem d14_33 : decode prog_127_method_2_code 33 = .ok (.putfield 45, 3) := by decide +kernel
theorem own_sn25 {Z : State} {a0 : Array Value} (hw : ∀ d ∈ tables_1, d.before a0 Z = true) : Jvm.RoadKit.slotOf Z own_s0 "over" "Z" ≠ Jvm.RoadKit.slotOf Z own_s0 "count" own_s1 := slot_ne (Or.inl (own_w hw 71 rfl)) (Or.inl (own_w hw 56 rfl)) (by decide) (t := .boolean) (t' := (.object own_s7)) (by decide) (by decide)
theorem own_sn26 {Z : State} {a0 : Array Value} (hw : ∀ d ∈ tables_1, d.before a0 Z = true) : Jvm.RoadKit.slotOf Z own_s0 "over" "Z" ≠ Jvm.RoadKit.slotOf Z own_s0 own_s2 "Z" := slot_ne (Or.inl (own_w hw 71 rfl)) (Or.inl (own_w hw 63 rfl)) (by decide) (t := .boolean) (t' := .boolean) (by decide) (by decide)
theorem own_sn27 {Z : State} {a0 : Array Value} (hw : ∀ d ∈ tables_1, d.before a0 Z = true) : Jvm.RoadKit.slotOf Z own_s0 "over" "Z" ≠ Jvm.RoadKit.slotOf Z own_s0 "most" "J" := slot_ne (Or.inl (own_w hw 71 rfl)) (Or.inl (own_w hw 65 rfl)) (by decide) (t := .boolean) (t' := .long) (by decide) (by decide)
theorem own_sn28 {Z : State} {a0 : Array Value} (hw : ∀ d ∈ tables_1, d.before a0 Z = true) : Jvm.RoadKit.slotOf Z own_s0 "over" "Z" ≠ Jvm.RoadKit.slotOf Z own_s0 "length" "J" := slot_ne (Or.inl (own_w hw 71 rfl)) (Or.inl (own_w hw 67 rfl)) (by decide) (t := .boolean) (t' := .long) (by decide) (by decide)
theorem own_sn29 {Z : State} {a0 : Array Value} (hw : ∀ d ∈ tables_1, d.before a0 Z = true) : Jvm.RoadKit.slotOf Z own_s0 "over" "Z" ≠ Jvm.RoadKit.slotOf Z own_s0 "past" "Z" := slot_ne (Or.inl (own_w hw 71 rfl)) (Or.inl (own_w hw 69 rfl)) (by decide) (t := .boolean) (t' := .boolean) (by decide) (by decide)
theorem d14_36 : decode prog_127_method_2_code 36 = .ok (.aload_n 0, 1) := by decide +kernel
theorem d14_37 : decode prog_127_method_2_code 37 = .ok (.lconst 0, 1) := by decide +kernel
theorem d14_38 : decode prog_127_method_2_code 38 = .ok (.putfield 48, 3) := by decide +kernel
theorem own_sn30 {Z : State} {a0 : Array Value} (hw : ∀ d ∈ tables_1, d.before a0 Z = true) : Jvm.RoadKit.slotOf Z own_s0 "counted" "J" ≠ Jvm.RoadKit.slotOf Z own_s0 "count" own_s1 := slot_ne (Or.inl (own_w hw 73 rfl)) (Or.inl (own_w hw 56 rfl)) (by decide) (t := .long) (t' := (.object own_s7)) (by decide) (by decide)
theorem own_sn31 {Z : State} {a0 : Array Value} (hw : ∀ d ∈ tables_1, d.before a0 Z = true) : Jvm.RoadKit.slotOf Z own_s0 "counted" "J" ≠ Jvm.RoadKit.slotOf Z own_s0 own_s2 "Z" := slot_ne (Or.inl (own_w hw 73 rfl)) (Or.inl (own_w hw 63 rfl)) (by decide) (t := .long) (t' := .boolean) (by decide) (by decide)
theorem own_sn32 {Z : State} {a0 : Array Value} (hw : ∀ d ∈ tables_1, d.before a0 Z = true) : Jvm.RoadKit.slotOf Z own_s0 "counted" "J" ≠ Jvm.RoadKit.slotOf Z own_s0 "most" "J" := slot_ne (Or.inl (own_w hw 73 rfl)) (Or.inl (own_w hw 65 rfl)) (by decide) (t := .long) (t' := .long) (by decide) (by decide)
theorem own_sn33 {Z : State} {a0 : Array Value} (hw : ∀ d ∈ tables_1, d.before a0 Z = true) : Jvm.RoadKit.slotOf Z own_s0 "counted" "J" ≠ Jvm.RoadKit.slotOf Z own_s0 "length" "J" := slot_ne (Or.inl (own_w hw 73 rfl)) (Or.inl (own_w hw 67 rfl)) (by decide) (t := .long) (t' := .long) (by decide) (by decide)
theorem own_sn34 {Z : State} {a0 : Array Value} (hw : ∀ d ∈ tables_1, d.before a0 Z = true) : Jvm.RoadKit.slotOf Z own_s0 "counted" "J" ≠ Jvm.RoadKit.slotOf Z own_s0 "past" "Z" := slot_ne (Or.inl (own_w hw 73 rfl)) (Or.inl (own_w hw 69 rfl)) (by decide) (t := .long) (t' := .boolean) (by decide) (by decide)
theorem own_sn35 {Z : State} {a0 : Array Value} (hw : ∀ d ∈ tables_1, d.before a0 Z = true) : Jvm.RoadKit.slotOf Z own_s0 "counted" "J" ≠ Jvm.RoadKit.slotOf Z own_s0 "over" "Z" := slot_ne (Or.inl (own_w hw 73 rfl)) (Or.inl (own_w hw 71 rfl)) (by decide) (t := .long) (t' := .boolean) (by decide) (by decide)
theorem d14_41 : decode prog_127_method_2_code 41 = .ok (.aload_n 0, 1) := by decide +kernel
theorem d14_42 : decode prog_127_method_2_code 42 = .ok (.getstatic 51, 3) := by decide +kernel
theorem d14_45 : decode prog_127_method_2_code 45 = .ok (.putfield 57, 3) := by decide +kernel
theorem own_sn36 {Z : State} {a0 : Array Value} (hw : ∀ d ∈ tables_1, d.before a0 Z = true) : Jvm.RoadKit.slotOf Z own_s0 "phase" own_s4 ≠ Jvm.RoadKit.slotOf Z own_s0 "count" own_s1 := slot_ne (Or.inl (own_w hw 78 rfl)) (Or.inl (own_w hw 56 rfl)) (by decide) (t := (.object own_s9)) (t' := (.object own_s7)) (by decide) (by decide)
theorem own_sn37 {Z : State} {a0 : Array Value} (hw : ∀ d ∈ tables_1, d.before a0 Z = true) : Jvm.RoadKit.slotOf Z own_s0 "phase" own_s4 ≠ Jvm.RoadKit.slotOf Z own_s0 own_s2 "Z" := slot_ne (Or.inl (own_w hw 78 rfl)) (Or.inl (own_w hw 63 rfl)) (by decide) (t := (.object own_s9)) (t' := .boolean) (by decide) (by decide)
theorem own_sn38 {Z : State} {a0 : Array Value} (hw : ∀ d ∈ tables_1, d.before a0 Z = true) : Jvm.RoadKit.slotOf Z own_s0 "phase" own_s4 ≠ Jvm.RoadKit.slotOf Z own_s0 "most" "J" := slot_ne (Or.inl (own_w hw 78 rfl)) (Or.inl (own_w hw 65 rfl)) (by decide) (t := (.object own_s9)) (t' := .long) (by decide) (by decide)
theorem own_sn39 {Z : State} {a0 : Array Value} (hw : ∀ d ∈ tables_1, d.before a0 Z = true) : Jvm.RoadKit.slotOf Z own_s0 "phase" own_s4 ≠ Jvm.RoadKit.slotOf Z own_s0 "length" "J" := slot_ne (Or.inl (own_w hw 78 rfl)) (Or.inl (own_w hw 67 rfl)) (by decide) (t := (.object own_s9)) (t' := .long) (by decide) (by decide)
theorem own_sn40 {Z : State} {a0 : Array Value} (hw : ∀ d ∈ tables_1, d.before a0 Z = true) : Jvm.RoadKit.slotOf Z own_s0 "phase" own_s4 ≠ Jvm.RoadKit.slotOf Z own_s0 "past" "Z" := slot_ne (Or.inl (own_w hw 78 rfl)) (Or.inl (own_w hw 69 rfl)) (by decide) (t := (.object own_s9)) (t' := .boolean) (by decide) (by decide)
theorem own_sn41 {Z : State} {a0 : Array Value} (hw : ∀ d ∈ tables_1, d.before a0 Z = true) : Jvm.RoadKit.slotOf Z own_s0 "phase" own_s4 ≠ Jvm.RoadKit.slotOf Z own_s0 "over" "Z" := slot_ne (Or.inl (own_w hw 78 rfl)) (Or.inl (own_w hw 71 rfl)) (by decide) (t := (.object own_s9)) (t' := .boolean) (by decide) (by decide)
theorem own_sn42 {Z : State} {a0 : Array Value} (hw : ∀ d ∈ tables_1, d.before a0 Z = true) : Jvm.RoadKit.slotOf Z own_s0 "phase" own_s4 ≠ Jvm.RoadKit.slotOf Z own_s0 "counted" "J" := slot_ne (Or.inl (own_w hw 78 rfl)) (Or.inl (own_w hw 73 rfl)) (by decide) (t := (.object own_s9)) (t' := .long) (by decide) (by decide)
theorem d14_48 : decode prog_127_method_2_code 48 = .ok (.aload_n 0, 1) := by decide +kernel
theorem d14_49 : decode prog_127_method_2_code 49 = .ok (.aconst_null, 1) := by decide +kernel
theorem d14_50 : decode prog_127_method_2_code 50 = .ok (.putfield 60, 3) := by decide +kernel
theorem own_sn43 {Z : State} {a0 : Array Value} (hw : ∀ d ∈ tables_1, d.before a0 Z = true) : Jvm.RoadKit.slotOf Z own_s0 "run" own_s5 ≠ Jvm.RoadKit.slotOf Z own_s0 "count" own_s1 := slot_ne (Or.inl (own_w hw 80 rfl)) (Or.inl (own_w hw 56 rfl)) (by decide) (t := (.object own_s10)) (t' := (.object own_s7)) (by decide) (by decide)
theorem own_sn44 {Z : State} {a0 : Array Value} (hw : ∀ d ∈ tables_1, d.before a0 Z = true) : Jvm.RoadKit.slotOf Z own_s0 "run" own_s5 ≠ Jvm.RoadKit.slotOf Z own_s0 own_s2 "Z" := slot_ne (Or.inl (own_w hw 80 rfl)) (Or.inl (own_w hw 63 rfl)) (by decide) (t := (.object own_s10)) (t' := .boolean) (by decide) (by decide)
theorem own_sn45 {Z : State} {a0 : Array Value} (hw : ∀ d ∈ tables_1, d.before a0 Z = true) : Jvm.RoadKit.slotOf Z own_s0 "run" own_s5 ≠ Jvm.RoadKit.slotOf Z own_s0 "most" "J" := slot_ne (Or.inl (own_w hw 80 rfl)) (Or.inl (own_w hw 65 rfl)) (by decide) (t := (.object own_s10)) (t' := .long) (by decide) (by decide)
theorem own_sn46 {Z : State} {a0 : Array Value} (hw : ∀ d ∈ tables_1, d.before a0 Z = true) : Jvm.RoadKit.slotOf Z own_s0 "run" own_s5 ≠ Jvm.RoadKit.slotOf Z own_s0 "length" "J" := slot_ne (Or.inl (own_w hw 80 rfl)) (Or.inl (own_w hw 67 rfl)) (by decide) (t := (.object own_s10)) (t' := .long) (by decide) (by decide)
theorem own_sn47 {Z : State} {a0 : Array Value} (hw : ∀ d ∈ tables_1, d.before a0 Z = true) : Jvm.RoadKit.slotOf Z own_s0 "run" own_s5 ≠ Jvm.RoadKit.slotOf Z own_s0 "past" "Z" := slot_ne (Or.inl (own_w hw 80 rfl)) (Or.inl (own_w hw 69 rfl)) (by decide) (t := (.object own_s10)) (t' := .boolean) (by decide) (by decide)
theorem own_sn48 {Z : State} {a0 : Array Value} (hw : ∀ d ∈ tables_1, d.before a0 Z = true) : Jvm.RoadKit.slotOf Z own_s0 "run" own_s5 ≠ Jvm.RoadKit.slotOf Z own_s0 "over" "Z" := slot_ne (Or.inl (own_w hw 80 rfl)) (Or.inl (own_w hw 71 rfl)) (by decide) (t := (.object own_s10)) (t' := .boolean) (by decide) (by decide)
theorem own_sn49 {Z : State} {a0 : Array Value} (hw : ∀ d ∈ tables_1, d.before a0 Z = true) : Jvm.RoadKit.slotOf Z own_s0 "run" own_s5 ≠ Jvm.RoadKit.slotOf Z own_s0 "counted" "J" := slot_ne (Or.inl (own_w hw 80 rfl)) (Or.inl (own_w hw 73 rfl)) (by decide) (t := (.object own_s10)) (t' := .long) (by decide) (by decide)
theorem own_sn50 {Z : State} {a0 : Array Value} (hw : ∀ d ∈ tables_1, d.before a0 Z = true) : Jvm.RoadKit.slotOf Z own_s0 "run" own_s5 ≠ Jvm.RoadKit.slotOf Z own_s0 "phase" own_s4 := slot_ne (Or.inl (own_w hw 80 rfl)) (Or.inl (own_w hw 78 rfl)) (by decide) (t := (.object own_s10)) (t' := (.object own_s9)) (by decide) (by decide)
theorem d14_53 : decode prog_127_method_2_code 53 = .ok (.aload_n 0, 1) := by decide +kernel
theorem d14_54 : decode prog_127_method_2_code 54 = .ok (.lconst 0, 1) := by decide +kernel
theorem d14_55 : decode prog_127_method_2_code 55 = .ok (.putfield 64, 3) := by decide +kernel
theorem own_sn51 {Z : State} {a0 : Array Value} (hw : ∀ d ∈ tables_1, d.before a0 Z = true) : Jvm.RoadKit.slotOf Z own_s0 own_s3 "J" ≠ Jvm.RoadKit.slotOf Z own_s0 "count" own_s1 := slot_ne (Or.inl (own_w hw 82 rfl)) (Or.inl (own_w hw 56 rfl)) (by decide) (t := .long) (t' := (.object own_s7)) (by decide) (by decide)
theorem own_sn52 {Z : State} {a0 : Array Value} (hw : ∀ d ∈ tables_1, d.before a0 Z = true) : Jvm.RoadKit.slotOf Z own_s0 own_s3 "J" ≠ Jvm.RoadKit.slotOf Z own_s0 own_s2 "Z" := slot_ne (Or.inl (own_w hw 82 rfl)) (Or.inl (own_w hw 63 rfl)) (by decide) (t := .long) (t' := .boolean) (by decide) (by decide)
theorem own_sn53 {Z : State} {a0 : Array Value} (hw : ∀ d ∈ tables_1, d.before a0 Z = true) : Jvm.RoadKit.slotOf Z own_s0 own_s3 "J" ≠ Jvm.RoadKit.slotOf Z own_s0 "most" "J" := slot_ne (Or.inl (own_w hw 82 rfl)) (Or.inl (own_w hw 65 rfl)) (by decide) (t := .long) (t' := .long) (by decide) (by decide)
theorem own_sn54 {Z : State} {a0 : Array Value} (hw : ∀ d ∈ tables_1, d.before a0 Z = true) : Jvm.RoadKit.slotOf Z own_s0 own_s3 "J" ≠ Jvm.RoadKit.slotOf Z own_s0 "length" "J" := slot_ne (Or.inl (own_w hw 82 rfl)) (Or.inl (own_w hw 67 rfl)) (by decide) (t := .long) (t' := .long) (by decide) (by decide)
theorem own_sn55 {Z : State} {a0 : Array Value} (hw : ∀ d ∈ tables_1, d.before a0 Z = true) : Jvm.RoadKit.slotOf Z own_s0 own_s3 "J" ≠ Jvm.RoadKit.slotOf Z own_s0 "past" "Z" := slot_ne (Or.inl (own_w hw 82 rfl)) (Or.inl (own_w hw 69 rfl)) (by decide) (t := .long) (t' := .boolean) (by decide) (by decide)
theorem own_sn56 {Z : State} {a0 : Array Value} (hw : ∀ d ∈ tables_1, d.before a0 Z = true) : Jvm.RoadKit.slotOf Z own_s0 own_s3 "J" ≠ Jvm.RoadKit.slotOf Z own_s0 "over" "Z" := slot_ne (Or.inl (own_w hw 82 rfl)) (Or.inl (own_w hw 71 rfl)) (by decide) (t := .long) (t' := .boolean) (by decide) (by decide)
theorem own_sn57 {Z : State} {a0 : Array Value} (hw : ∀ d ∈ tables_1, d.before a0 Z = true) : Jvm.RoadKit.slotOf Z own_s0 own_s3 "J" ≠ Jvm.RoadKit.slotOf Z own_s0 "counted" "J" := slot_ne (Or.inl (own_w hw 82 rfl)) (Or.inl (own_w hw 73 rfl)) (by decide) (t := .long) (t' := .long) (by decide) (by decide)
theorem own_sn58 {Z : State} {a0 : Array Value} (hw : ∀ d ∈ tables_1, d.before a0 Z = true) : Jvm.RoadKit.slotOf Z own_s0 own_s3 "J" ≠ Jvm.RoadKit.slotOf Z own_s0 "phase" own_s4 := slot_ne (Or.inl (own_w hw 82 rfl)) (Or.inl (own_w hw 78 rfl)) (by decide) (t := .long) (t' := (.object own_s9)) (by decide) (by decide)
theorem own_sn59 {Z : State} {a0 : Array Value} (hw : ∀ d ∈ tables_1, d.before a0 Z = true) : Jvm.RoadKit.slotOf Z own_s0 own_s3 "J" ≠ Jvm.RoadKit.slotOf Z own_s0 "run" own_s5 := slot_ne (Or.inl (own_w hw 82 rfl)) (Or.inl (own_w hw 80 rfl)) (by decide) (t := .long) (t' := (.object own_s10)) (by decide) (by decide)
theorem d14_58 : decode prog_127_method_2_code 58 = .ok (.return_, 1) := by decide +kernel
theorem own_sn60 {Z : State} {a0 : Array Value} (hw : ∀ d ∈ tables_1, d.before a0 Z = true) : Jvm.RoadKit.slotOf Z own_s0 "count" own_s1 ≠ Jvm.RoadKit.slotOf Z own_s0 own_s2 "Z" := slot_ne (Or.inl (own_w hw 56 rfl)) (Or.inl (own_w hw 63 rfl)) (by decide) (t := (.object own_s7)) (t' := .boolean) (by decide) (by decide)
theorem own_sn61 {Z : State} {a0 : Array Value} (hw : ∀ d ∈ tables_1, d.before a0 Z = true) : Jvm.RoadKit.slotOf Z own_s0 "count" own_s1 ≠ Jvm.RoadKit.slotOf Z own_s0 "most" "J" := slot_ne (Or.inl (own_w hw 56 rfl)) (Or.inl (own_w hw 65 rfl)) (by decide) (t := (.object own_s7)) (t' := .long) (by decide) (by decide)
theorem own_sn62 {Z : State} {a0 : Array Value} (hw : ∀ d ∈ tables_1, d.before a0 Z = true) : Jvm.RoadKit.slotOf Z own_s0 "count" own_s1 ≠ Jvm.RoadKit.slotOf Z own_s0 "length" "J" := slot_ne (Or.inl (own_w hw 56 rfl)) (Or.inl (own_w hw 67 rfl)) (by decide) (t := (.object own_s7)) (t' := .long) (by decide) (by decide)
theorem own_sn63 {Z : State} {a0 : Array Value} (hw : ∀ d ∈ tables_1, d.before a0 Z = true) : Jvm.RoadKit.slotOf Z own_s0 "count" own_s1 ≠ Jvm.RoadKit.slotOf Z own_s0 "past" "Z" := slot_ne (Or.inl (own_w hw 56 rfl)) (Or.inl (own_w hw 69 rfl)) (by decide) (t := (.object own_s7)) (t' := .boolean) (by decide) (by decide)
theorem own_sn64 {Z : State} {a0 : Array Value} (hw : ∀ d ∈ tables_1, d.before a0 Z = true) : Jvm.RoadKit.slotOf Z own_s0 "count" own_s1 ≠ Jvm.RoadKit.slotOf Z own_s0 "over" "Z" := slot_ne (Or.inl (own_w hw 56 rfl)) (Or.inl (own_w hw 71 rfl)) (by decide) (t := (.object own_s7)) (t' := .boolean) (by decide) (by decide)
theorem own_sn65 {Z : State} {a0 : Array Value} (hw : ∀ d ∈ tables_1, d.before a0 Z = true) : Jvm.RoadKit.slotOf Z own_s0 "count" own_s1 ≠ Jvm.RoadKit.slotOf Z own_s0 "counted" "J" := slot_ne (Or.inl (own_w hw 56 rfl)) (Or.inl (own_w hw 73 rfl)) (by decide) (t := (.object own_s7)) (t' := .long) (by decide) (by decide)
theorem own_sn66 {Z : State} {a0 : Array Value} (hw : ∀ d ∈ tables_1, d.before a0 Z = true) : Jvm.RoadKit.slotOf Z own_s0 "count" own_s1 ≠ Jvm.RoadKit.slotOf Z own_s0 "phase" own_s4 := slot_ne (Or.inl (own_w hw 56 rfl)) (Or.inl (own_w hw 78 rfl)) (by decide) (t := (.object own_s7)) (t' := (.object own_s9)) (by decide) (by decide)
theorem own_sn67 {Z : State} {a0 : Array Value} (hw : ∀ d ∈ tables_1, d.before a0 Z = true) : Jvm.RoadKit.slotOf Z own_s0 "count" own_s1 ≠ Jvm.RoadKit.slotOf Z own_s0 "run" own_s5 := slot_ne (Or.inl (own_w hw 56 rfl)) (Or.inl (own_w hw 80 rfl)) (by decide) (t := (.object own_s7)) (t' := (.object own_s10)) (by decide) (by decide)
theorem own_sn68 {Z : State} {a0 : Array Value} (hw : ∀ d ∈ tables_1, d.before a0 Z = true) : Jvm.RoadKit.slotOf Z own_s0 "count" own_s1 ≠ Jvm.RoadKit.slotOf Z own_s0 own_s3 "J" := slot_ne (Or.inl (own_w hw 56 rfl)) (Or.inl (own_w hw 82 rfl)) (by decide) (t := (.object own_s7)) (t' := .long) (by decide) (by decide)
theorem own_sn69 {Z : State} {a0 : Array Value} (hw : ∀ d ∈ tables_1, d.before a0 Z = true) : Jvm.RoadKit.slotOf Z own_s0 own_s2 "Z" ≠ Jvm.RoadKit.slotOf Z own_s0 "most" "J" := slot_ne (Or.inl (own_w hw 63 rfl)) (Or.inl (own_w hw 65 rfl)) (by decide) (t := .boolean) (t' := .long) (by decide) (by decide)
theorem own_sn70 {Z : State} {a0 : Array Value} (hw : ∀ d ∈ tables_1, d.before a0 Z = true) : Jvm.RoadKit.slotOf Z own_s0 own_s2 "Z" ≠ Jvm.RoadKit.slotOf Z own_s0 "length" "J" := slot_ne (Or.inl (own_w hw 63 rfl)) (Or.inl (own_w hw 67 rfl)) (by decide) (t := .boolean) (t' := .long) (by decide) (by decide)
theorem own_sn71 {Z : State} {a0 : Array Value} (hw : ∀ d ∈ tables_1, d.before a0 Z = true) : Jvm.RoadKit.slotOf Z own_s0 own_s2 "Z" ≠ Jvm.RoadKit.slotOf Z own_s0 "past" "Z" := slot_ne (Or.inl (own_w hw 63 rfl)) (Or.inl (own_w hw 69 rfl)) (by decide) (t := .boolean) (t' := .boolean) (by decide) (by decide)
theorem own_sn72 {Z : State} {a0 : Array Value} (hw : ∀ d ∈ tables_1, d.before a0 Z = true) : Jvm.RoadKit.slotOf Z own_s0 own_s2 "Z" ≠ Jvm.RoadKit.slotOf Z own_s0 "over" "Z" := slot_ne (Or.inl (own_w hw 63 rfl)) (Or.inl (own_w hw 71 rfl)) (by decide) (t := .boolean) (t' := .boolean) (by decide) (by decide)
theorem own_sn73 {Z : State} {a0 : Array Value} (hw : ∀ d ∈ tables_1, d.before a0 Z = true) : Jvm.RoadKit.slotOf Z own_s0 own_s2 "Z" ≠ Jvm.RoadKit.slotOf Z own_s0 "counted" "J" := slot_ne (Or.inl (own_w hw 63 rfl)) (Or.inl (own_w hw 73 rfl)) (by decide) (t := .boolean) (t' := .long) (by decide) (by decide)
theorem own_sn74 {Z : State} {a0 : Array Value} (hw : ∀ d ∈ tables_1, d.before a0 Z = true) : Jvm.RoadKit.slotOf Z own_s0 own_s2 "Z" ≠ Jvm.RoadKit.slotOf Z own_s0 "phase" own_s4 := slot_ne (Or.inl (own_w hw 63 rfl)) (Or.inl (own_w hw 78 rfl)) (by decide) (t := .boolean) (t' := (.object own_s9)) (by decide) (by decide)
theorem own_sn75 {Z : State} {a0 : Array Value} (hw : ∀ d ∈ tables_1, d.before a0 Z = true) : Jvm.RoadKit.slotOf Z own_s0 own_s2 "Z" ≠ Jvm.RoadKit.slotOf Z own_s0 "run" own_s5 := slot_ne (Or.inl (own_w hw 63 rfl)) (Or.inl (own_w hw 80 rfl)) (by decide) (t := .boolean) (t' := (.object own_s10)) (by decide) (by decide)
theorem own_sn76 {Z : State} {a0 : Array Value} (hw : ∀ d ∈ tables_1, d.before a0 Z = true) : Jvm.RoadKit.slotOf Z own_s0 own_s2 "Z" ≠ Jvm.RoadKit.slotOf Z own_s0 own_s3 "J" := slot_ne (Or.inl (own_w hw 63 rfl)) (Or.inl (own_w hw 82 rfl)) (by decide) (t := .boolean) (t' := .long) (by decide) (by decide)
theorem own_sn77 {Z : State} {a0 : Array Value} (hw : ∀ d ∈ tables_1, d.before a0 Z = true) : Jvm.RoadKit.slotOf Z own_s0 "most" "J" ≠ Jvm.RoadKit.slotOf Z own_s0 "length" "J" := slot_ne (Or.inl (own_w hw 65 rfl)) (Or.inl (own_w hw 67 rfl)) (by decide) (t := .long) (t' := .long) (by decide) (by decide)
theorem own_sn78 {Z : State} {a0 : Array Value} (hw : ∀ d ∈ tables_1, d.before a0 Z = true) : Jvm.RoadKit.slotOf Z own_s0 "most" "J" ≠ Jvm.RoadKit.slotOf Z own_s0 "past" "Z" := slot_ne (Or.inl (own_w hw 65 rfl)) (Or.inl (own_w hw 69 rfl)) (by decide) (t := .long) (t' := .boolean) (by decide) (by decide)
theorem own_sn79 {Z : State} {a0 : Array Value} (hw : ∀ d ∈ tables_1, d.before a0 Z = true) : Jvm.RoadKit.slotOf Z own_s0 "most" "J" ≠ Jvm.RoadKit.slotOf Z own_s0 "over" "Z" := slot_ne (Or.inl (own_w hw 65 rfl)) (Or.inl (own_w hw 71 rfl)) (by decide) (t := .long) (t' := .boolean) (by decide) (by decide)
theorem own_sn80 {Z : State} {a0 : Array Value} (hw : ∀ d ∈ tables_1, d.before a0 Z = true) : Jvm.RoadKit.slotOf Z own_s0 "most" "J" ≠ Jvm.RoadKit.slotOf Z own_s0 "counted" "J" := slot_ne (Or.inl (own_w hw 65 rfl)) (Or.inl (own_w hw 73 rfl)) (by decide) (t := .long) (t' := .long) (by decide) (by decide)
theorem own_sn81 {Z : State} {a0 : Array Value} (hw : ∀ d ∈ tables_1, d.before a0 Z = true) : Jvm.RoadKit.slotOf Z own_s0 "most" "J" ≠ Jvm.RoadKit.slotOf Z own_s0 "phase" own_s4 := slot_ne (Or.inl (own_w hw 65 rfl)) (Or.inl (own_w hw 78 rfl)) (by decide) (t := .long) (t' := (.object own_s9)) (by decide) (by decide)
theorem own_sn82 {Z : State} {a0 : Array Value} (hw : ∀ d ∈ tables_1, d.before a0 Z = true) : Jvm.RoadKit.slotOf Z own_s0 "most" "J" ≠ Jvm.RoadKit.slotOf Z own_s0 "run" own_s5 := slot_ne (Or.inl (own_w hw 65 rfl)) (Or.inl (own_w hw 80 rfl)) (by decide) (t := .long) (t' := (.object own_s10)) (by decide) (by decide)
theorem own_sn83 {Z : State} {a0 : Array Value} (hw : ∀ d ∈ tables_1, d.before a0 Z = true) : Jvm.RoadKit.slotOf Z own_s0 "most" "J" ≠ Jvm.RoadKit.slotOf Z own_s0 own_s3 "J" := slot_ne (Or.inl (own_w hw 65 rfl)) (Or.inl (own_w hw 82 rfl)) (by decide) (t := .long) (t' := .long) (by decide) (by decide)
theorem own_sn84 {Z : State} {a0 : Array Value} (hw : ∀ d ∈ tables_1, d.before a0 Z = true) : Jvm.RoadKit.slotOf Z own_s0 "length" "J" ≠ Jvm.RoadKit.slotOf Z own_s0 "past" "Z" := slot_ne (Or.inl (own_w hw 67 rfl)) (Or.inl (own_w hw 69 rfl)) (by decide) (t := .long) (t' := .boolean) (by decide) (by decide)
theorem own_sn85 {Z : State} {a0 : Array Value} (hw : ∀ d ∈ tables_1, d.before a0 Z = true) : Jvm.RoadKit.slotOf Z own_s0 "length" "J" ≠ Jvm.RoadKit.slotOf Z own_s0 "over" "Z" := slot_ne (Or.inl (own_w hw 67 rfl)) (Or.inl (own_w hw 71 rfl)) (by decide) (t := .long) (t' := .boolean) (by decide) (by decide)
theorem own_sn86 {Z : State} {a0 : Array Value} (hw : ∀ d ∈ tables_1, d.before a0 Z = true) : Jvm.RoadKit.slotOf Z own_s0 "length" "J" ≠ Jvm.RoadKit.slotOf Z own_s0 "counted" "J" := slot_ne (Or.inl (own_w hw 67 rfl)) (Or.inl (own_w hw 73 rfl)) (by decide) (t := .long) (t' := .long) (by decide) (by decide)
theorem own_sn87 {Z : State} {a0 : Array Value} (hw : ∀ d ∈ tables_1, d.before a0 Z = true) : Jvm.RoadKit.slotOf Z own_s0 "length" "J" ≠ Jvm.RoadKit.slotOf Z own_s0 "phase" own_s4 := slot_ne (Or.inl (own_w hw 67 rfl)) (Or.inl (own_w hw 78 rfl)) (by decide) (t := .long) (t' := (.object own_s9)) (by decide) (by decide)
theorem own_sn88 {Z : State} {a0 : Array Value} (hw : ∀ d ∈ tables_1, d.before a0 Z = true) : Jvm.RoadKit.slotOf Z own_s0 "length" "J" ≠ Jvm.RoadKit.slotOf Z own_s0 "run" own_s5 := slot_ne (Or.inl (own_w hw 67 rfl)) (Or.inl (own_w hw 80 rfl)) (by decide) (t := .long) (t' := (.object own_s10)) (by decide) (by decide)
theorem own_sn89 {Z : State} {a0 : Array Value} (hw : ∀ d ∈ tables_1, d.before a0 Z = true) : Jvm.RoadKit.slotOf Z own_s0 "length" "J" ≠ Jvm.RoadKit.slotOf Z own_s0 own_s3 "J" := slot_ne (Or.inl (own_w hw 67 rfl)) (Or.inl (own_w hw 82 rfl)) (by decide) (t := .long) (t' := .long) (by decide) (by decide)
theorem own_sn90 {Z : State} {a0 : Array Value} (hw : ∀ d ∈ tables_1, d.before a0 Z = true) : Jvm.RoadKit.slotOf Z own_s0 "past" "Z" ≠ Jvm.RoadKit.slotOf Z own_s0 "over" "Z" := slot_ne (Or.inl (own_w hw 69 rfl)) (Or.inl (own_w hw 71 rfl)) (by decide) (t := .boolean) (t' := .boolean) (by decide) (by decide)
theorem own_sn91 {Z : State} {a0 : Array Value} (hw : ∀ d ∈ tables_1, d.before a0 Z = true) : Jvm.RoadKit.slotOf Z own_s0 "past" "Z" ≠ Jvm.RoadKit.slotOf Z own_s0 "counted" "J" := slot_ne (Or.inl (own_w hw 69 rfl)) (Or.inl (own_w hw 73 rfl)) (by decide) (t := .boolean) (t' := .long) (by decide) (by decide)
theorem own_sn92 {Z : State} {a0 : Array Value} (hw : ∀ d ∈ tables_1, d.before a0 Z = true) : Jvm.RoadKit.slotOf Z own_s0 "past" "Z" ≠ Jvm.RoadKit.slotOf Z own_s0 "phase" own_s4 := slot_ne (Or.inl (own_w hw 69 rfl)) (Or.inl (own_w hw 78 rfl)) (by decide) (t := .boolean) (t' := (.object own_s9)) (by decide) (by decide)
theorem own_sn93 {Z : State} {a0 : Array Value} (hw : ∀ d ∈ tables_1, d.before a0 Z = true) : Jvm.RoadKit.slotOf Z own_s0 "past" "Z" ≠ Jvm.RoadKit.slotOf Z own_s0 "run" own_s5 := slot_ne (Or.inl (own_w hw 69 rfl)) (Or.inl (own_w hw 80 rfl)) (by decide) (t := .boolean) (t' := (.object own_s10)) (by decide) (by decide)
theorem own_sn94 {Z : State} {a0 : Array Value} (hw : ∀ d ∈ tables_1, d.before a0 Z = true) : Jvm.RoadKit.slotOf Z own_s0 "past" "Z" ≠ Jvm.RoadKit.slotOf Z own_s0 own_s3 "J" := slot_ne (Or.inl (own_w hw 69 rfl)) (Or.inl (own_w hw 82 rfl)) (by decide) (t := .boolean) (t' := .long) (by decide) (by decide)
theorem own_sn95 {Z : State} {a0 : Array Value} (hw : ∀ d ∈ tables_1, d.before a0 Z = true) : Jvm.RoadKit.slotOf Z own_s0 "over" "Z" ≠ Jvm.RoadKit.slotOf Z own_s0 "counted" "J" := slot_ne (Or.inl (own_w hw 71 rfl)) (Or.inl (own_w hw 73 rfl)) (by decide) (t := .boolean) (t' := .long) (by decide) (by decide)
theorem own_sn96 {Z : State} {a0 : Array Value} (hw : ∀ d ∈ tables_1, d.before a0 Z = true) : Jvm.RoadKit.slotOf Z own_s0 "over" "Z" ≠ Jvm.RoadKit.slotOf Z own_s0 "phase" own_s4 := slot_ne (Or.inl (own_w hw 71 rfl)) (Or.inl (own_w hw 78 rfl)) (by decide) (t := .boolean) (t' := (.object own_s9)) (by decide) (by decide)
theorem own_sn97 {Z : State} {a0 : Array Value} (hw : ∀ d ∈ tables_1, d.before a0 Z = true) : Jvm.RoadKit.slotOf Z own_s0 "over" "Z" ≠ Jvm.RoadKit.slotOf Z own_s0 "run" own_s5 := slot_ne (Or.inl (own_w hw 71 rfl)) (Or.inl (own_w hw 80 rfl)) (by decide) (t := .boolean) (t' := (.object own_s10)) (by decide) (by decide)
theorem own_sn98 {Z : State} {a0 : Array Value} (hw : ∀ d ∈ tables_1, d.before a0 Z = true) : Jvm.RoadKit.slotOf Z own_s0 "over" "Z" ≠ Jvm.RoadKit.slotOf Z own_s0 own_s3 "J" := slot_ne (Or.inl (own_w hw 71 rfl)) (Or.inl (own_w hw 82 rfl)) (by decide) (t := .boolean) (t' := .long) (by decide) (by decide)
theorem own_sn99 {Z : State} {a0 : Array Value} (hw : ∀ d ∈ tables_1, d.before a0 Z = true) : Jvm.RoadKit.slotOf Z own_s0 "counted" "J" ≠ Jvm.RoadKit.slotOf Z own_s0 "phase" own_s4 := slot_ne (Or.inl (own_w hw 73 rfl)) (Or.inl (own_w hw 78 rfl)) (by decide) (t := .long) (t' := (.object own_s9)) (by decide) (by decide)
theorem own_sn100 {Z : State} {a0 : Array Value} (hw : ∀ d ∈ tables_1, d.before a0 Z = true) : Jvm.RoadKit.slotOf Z own_s0 "counted" "J" ≠ Jvm.RoadKit.slotOf Z own_s0 "run" own_s5 := slot_ne (Or.inl (own_w hw 73 rfl)) (Or.inl (own_w hw 80 rfl)) (by decide) (t := .long) (t' := (.object own_s10)) (by decide) (by decide)
theorem own_sn101 {Z : State} {a0 : Array Value} (hw : ∀ d ∈ tables_1, d.before a0 Z = true) : Jvm.RoadKit.slotOf Z own_s0 "counted" "J" ≠ Jvm.RoadKit.slotOf Z own_s0 own_s3 "J" := slot_ne (Or.inl (own_w hw 73 rfl)) (Or.inl (own_w hw 82 rfl)) (by decide) (t := .long) (t' := .long) (by decide) (by decide)
theorem own_sn102 {Z : State} {a0 : Array Value} (hw : ∀ d ∈ tables_1, d.before a0 Z = true) : Jvm.RoadKit.slotOf Z own_s0 "phase" own_s4 ≠ Jvm.RoadKit.slotOf Z own_s0 "run" own_s5 := slot_ne (Or.inl (own_w hw 78 rfl)) (Or.inl (own_w hw 80 rfl)) (by decide) (t := (.object own_s9)) (t' := (.object own_s10)) (by decide) (by decide)
theorem own_sn103 {Z : State} {a0 : Array Value} (hw : ∀ d ∈ tables_1, d.before a0 Z = true) : Jvm.RoadKit.slotOf Z own_s0 "phase" own_s4 ≠ Jvm.RoadKit.slotOf Z own_s0 own_s3 "J" := slot_ne (Or.inl (own_w hw 78 rfl)) (Or.inl (own_w hw 82 rfl)) (by decide) (t := (.object own_s9)) (t' := .long) (by decide) (by decide)
theorem own_sn104 {Z : State} {a0 : Array Value} (hw : ∀ d ∈ tables_1, d.before a0 Z = true) : Jvm.RoadKit.slotOf Z own_s0 "run" own_s5 ≠ Jvm.RoadKit.slotOf Z own_s0 own_s3 "J" := slot_ne (Or.inl (own_w hw 80 rfl)) (Or.inl (own_w hw 82 rfl)) (by decide) (t := (.object own_s10)) (t' := .long) (by decide) (by decide)
theorem d17_0 : decode prog_127_method_7_code 0 = .ok (.aload_n 0, 1) := by decide +kernel
theorem d17_1 : decode prog_127_method_7_code 1 = .ok (.getfield 42, 3) := by decide +kernel
theorem d17_4 : decode prog_127_method_7_code 4 = .ok (.ifCond .eq 7, 3) := by decide +kernel
theorem d17_11 : decode prog_127_method_7_code 11 = .ok (.aload_n 0, 1) := by decide +kernel
theorem d17_12 : decode prog_127_method_7_code 12 = .ok (.getfield 35, 3) := by decide +kernel
theorem d17_15 : decode prog_127_method_7_code 15 = .ok (.aload_n 0, 1) := by decide +kernel
theorem d17_16 : decode prog_127_method_7_code 16 = .ok (.getfield 39, 3) := by decide +kernel
theorem d17_19 : decode prog_127_method_7_code 19 = .ok (.lsub, 1) := by decide +kernel
theorem d17_20 : decode prog_127_method_7_code 20 = .ok (.lreturn, 1) := by decide +kernel
theorem d17_7 : decode prog_127_method_7_code 7 = .ok (.lconst 0, 1) := by decide +kernel
theorem d17_8 : decode prog_127_method_7_code 8 = .ok (.goto 12, 3) := by decide +kernel
theorem d18_0 : decode jdk_89_method_15_code 0 = .ok (.iload_n 0, 1) := by decide +kernel
theorem d18_1 : decode jdk_89_method_15_code 1 = .ok (.ldc 76, 2) := by decide +kernel
theorem d18_3 : decode jdk_89_method_15_code 3 = .ok (.if_icmp .lt 13, 3) := by decide +kernel
theorem d18_16 : decode jdk_89_method_15_code 16 = .ok (.iconst 0, 1) := by decide +kernel
theorem d18_17 : decode jdk_89_method_15_code 17 = .ok (.ireturn, 1) := by decide +kernel
theorem pn_19 : plainName own_s12 = true := by first | (simp [plainName, overriddenIn]; done) | decide +kernel
theorem d20_0 : decode prog_127_method_12_code 0 = .ok (.iload_n 1, 1) := by decide +kernel
theorem d20_1 : decode prog_127_method_12_code 1 = .ok (.bipush 32, 2) := by decide +kernel
theorem d20_3 : decode prog_127_method_12_code 3 = .ok (.if_icmp .eq 21, 3) := by decide +kernel
theorem d20_6 : decode prog_127_method_12_code 6 = .ok (.iload_n 1, 1) := by decide +kernel
theorem d20_7 : decode prog_127_method_12_code 7 = .ok (.bipush 9, 2) := by decide +kernel
theorem d20_9 : decode prog_127_method_12_code 9 = .ok (.if_icmp .eq 15, 3) := by decide +kernel
theorem d20_12 : decode prog_127_method_12_code 12 = .ok (.iload_n 1, 1) := by decide +kernel
theorem d20_13 : decode prog_127_method_12_code 13 = .ok (.bipush 10, 2) := by decide +kernel
theorem d20_15 : decode prog_127_method_12_code 15 = .ok (.if_icmp .eq 9, 3) := by decide +kernel
theorem d20_18 : decode prog_127_method_12_code 18 = .ok (.iload_n 1, 1) := by decide +kernel
theorem d20_19 : decode prog_127_method_12_code 19 = .ok (.bipush 13, 2) := by decide +kernel
theorem d20_21 : decode prog_127_method_12_code 21 = .ok (.if_icmp .ne 7, 3) := by decide +kernel
theorem d20_28 : decode prog_127_method_12_code 28 = .ok (.iconst 0, 1) := by decide +kernel
theorem d20_29 : decode prog_127_method_12_code 29 = .ok (.istore_n 2, 1) := by decide +kernel
theorem d20_30 : decode prog_127_method_12_code 30 = .ok (.aload_n 0, 1) := by decide +kernel
theorem d20_31 : decode prog_127_method_12_code 31 = .ok (.getfield 25, 3) := by decide +kernel
theorem d20_34 : decode prog_127_method_12_code 34 = .ok (.getstatic 118, 3) := by decide +kernel
theorem d20_37 : decode prog_127_method_12_code 37 = .ok (.if_acmp .ne 7, 3) := by decide +kernel
theorem d20_40 : decode prog_127_method_12_code 40 = .ok (.getstatic 75, 3) := by decide +kernel
theorem d20_43 : decode prog_127_method_12_code 43 = .ok (.areturn, 1) := by decide +kernel
theorem d20_44 : decode prog_127_method_12_code 44 = .ok (.aload_n 0, 1) := by decide +kernel
theorem d20_45 : decode prog_127_method_12_code 45 = .ok (.getfield 25, 3) := by decide +kernel
theorem d20_48 : decode prog_127_method_12_code 48 = .ok (.getstatic 121, 3) := by decide +kernel
theorem d20_51 : decode prog_127_method_12_code 51 = .ok (.if_acmp .ne 17, 3) := by decide +kernel
theorem d20_54 : decode prog_127_method_12_code 54 = .ok (.iload_n 2, 1) := by decide +kernel
theorem d20_55 : decode prog_127_method_12_code 55 = .ok (.ifCond .eq 9, 3) := by decide +kernel
theorem d20_64 : decode prog_127_method_12_code 64 = .ok (.getstatic 75, 3) := by decide +kernel
theorem d20_67 : decode prog_127_method_12_code 67 = .ok (.areturn, 1) := by decide +kernel
theorem d20_68 : decode prog_127_method_12_code 68 = .ok (.iload_n 2, 1) := by decide +kernel
theorem d20_69 : decode prog_127_method_12_code 69 = .ok (.ifCond .eq 24, 3) := by decide +kernel
theorem d20_93 : decode prog_127_method_12_code 93 = .ok (.iload_n 1, 1) := by decide +kernel
theorem d20_94 : decode prog_127_method_12_code 94 = .ok (.bipush 48, 2) := by decide +kernel
theorem d20_96 : decode prog_127_method_12_code 96 = .ok (.if_icmp .ne 63, 3) := by decide +kernel
theorem d20_159 : decode prog_127_method_12_code 159 = .ok (.iload_n 1, 1) := by decide +kernel
theorem d20_160 : decode prog_127_method_12_code 160 = .ok (.bipush 46, 2) := by decide +kernel
theorem d20_162 : decode prog_127_method_12_code 162 = .ok (.if_icmp .ne 23, 3) := by decide +kernel
theorem d20_185 : decode prog_127_method_12_code 185 = .ok (.aload_n 0, 1) := by decide +kernel
theorem d20_186 : decode prog_127_method_12_code 186 = .ok (.getfield 57, 3) := by decide +kernel
theorem d20_189 : decode prog_127_method_12_code 189 = .ok (.getstatic 51, 3) := by decide +kernel
theorem d20_192 : decode prog_127_method_12_code 192 = .ok (.if_acmp .ne 25, 3) := by decide +kernel
theorem d20_195 : decode prog_127_method_12_code 195 = .ok (.iload_n 1, 1) := by decide +kernel
theorem d20_196 : decode prog_127_method_12_code 196 = .ok (.bipush 43, 2) := by decide +kernel
theorem d20_198 : decode prog_127_method_12_code 198 = .ok (.if_icmp .eq 9, 3) := by decide +kernel
theorem d20_201 : decode prog_127_method_12_code 201 = .ok (.iload_n 1, 1) := by decide +kernel
theorem d20_202 : decode prog_127_method_12_code 202 = .ok (.bipush 45, 2) := by decide +kernel
theorem d20_204 : decode prog_127_method_12_code 204 = .ok (.if_icmp .ne 13, 3) := by decide +kernel
theorem d20_217 : decode prog_127_method_12_code 217 = .ok (.aload_n 0, 1) := by decide +kernel
theorem d20_218 : decode prog_127_method_12_code 218 = .ok (.getfield 57, 3) := by decide +kernel
theorem d20_221 : decode prog_127_method_12_code 221 = .ok (.getstatic 137, 3) := by decide +kernel
theorem d20_224 : decode prog_127_method_12_code 224 = .ok (.if_acmp .eq 20, 3) := by decide +kernel
theorem d20_227 : decode prog_127_method_12_code 227 = .ok (.aload_n 0, 1) := by decide +kernel
theorem d20_228 : decode prog_127_method_12_code 228 = .ok (.getfield 57, 3) := by decide +kernel
theorem d20_231 : decode prog_127_method_12_code 231 = .ok (.getstatic 124, 3) := by decide +kernel
theorem d20_234 : decode prog_127_method_12_code 234 = .ok (.if_acmp .eq 10, 3) := by decide +kernel
theorem d20_237 : decode prog_127_method_12_code 237 = .ok (.aload_n 0, 1) := by decide +kernel
theorem d20_238 : decode prog_127_method_12_code 238 = .ok (.getstatic 143, 3) := by decide +kernel
theorem d20_241 : decode prog_127_method_12_code 241 = .ok (.putfield 57, 3) := by decide +kernel
theorem d20_244 : decode prog_127_method_12_code 244 = .ok (.getstatic 75, 3) := by decide +kernel
theorem d20_247 : decode prog_127_method_12_code 247 = .ok (.areturn, 1) := by decide +kernel
theorem d21_69 : decode prog_127_method_11_code 69 = .ok (.iload 4, 2) := by decide +kernel
theorem d21_71 : decode prog_127_method_11_code 71 = .ok (.iload_n 3, 1) := by decide +kernel
theorem d21_72 : decode prog_127_method_11_code 72 = .ok (.if_icmp .ge 57, 3) := by decide +kernel
theorem d21_75 : decode prog_127_method_11_code 75 = .ok (.aload_n 1, 1) := by decide +kernel
theorem d21_76 : decode prog_127_method_11_code 76 = .ok (.iload 4, 2) := by decide +kernel
theorem d21_78 : decode prog_127_method_11_code 78 = .ok (.caload, 1) := by decide +kernel
theorem d21_79 : decode prog_127_method_11_code 79 = .ok (.istore 5, 2) := by decide +kernel
theorem d21_81 : decode prog_127_method_11_code 81 = .ok (.iload 5, 2) := by decide +kernel
theorem d21_83 : decode prog_127_method_11_code 83 = .ok (.invokestatic 80, 3) := by decide +kernel
theorem pd_22 : parseMethodDescriptor "(C)Z" = some ⟨[.char], some .boolean⟩ := by decide +kernel
theorem d21_86 : decode prog_127_method_11_code 86 = .ok (.ifCond .ne 30, 3) := by decide +kernel
theorem d21_89 : decode prog_127_method_11_code 89 = .ok (.aload_n 0, 1) := by decide +kernel
theorem d21_90 : decode prog_127_method_11_code 90 = .ok (.dup, 1) := by decide +kernel
theorem d21_91 : decode prog_127_method_11_code 91 = .ok (.getfield 39, 3) := by decide +kernel
theorem d21_94 : decode prog_127_method_11_code 94 = .ok (.lconst 1, 1) := by decide +kernel
theorem d21_95 : decode prog_127_method_11_code 95 = .ok (.ladd, 1) := by decide +kernel
theorem d21_96 : decode prog_127_method_11_code 96 = .ok (.dup2_x1, 1) := by decide +kernel
theorem d21_97 : decode prog_127_method_11_code 97 = .ok (.putfield 39, 3) := by decide +kernel
theorem d21_100 : decode prog_127_method_11_code 100 = .ok (.aload_n 0, 1) := by decide +kernel
theorem d21_101 : decode prog_127_method_11_code 101 = .ok (.getfield 35, 3) := by decide +kernel
theorem d21_104 : decode prog_127_method_11_code 104 = .ok (.lcmp, 1) := by decide +kernel
theorem d21_105 : decode prog_127_method_11_code 105 = .ok (.ifCond .le 11, 3) := by decide +kernel
theorem d21_116 : decode prog_127_method_11_code 116 = .ok (.aload_n 0, 1) := by decide +kernel
theorem d21_117 : decode prog_127_method_11_code 117 = .ok (.iload 5, 2) := by decide +kernel
theorem d21_119 : decode prog_127_method_11_code 119 = .ok (.invokevirtual 71, 3) := by decide +kernel
theorem pd_23 : parseMethodDescriptor own_s14 = some ⟨[.char], some (.object own_s10)⟩ := by decide +kernel
theorem d21_122 : decode prog_127_method_11_code 122 = .ok (.pop, 1) := by decide +kernel
theorem d21_123 : decode prog_127_method_11_code 123 = .ok (.iinc 4 1, 3) := by decide +kernel
theorem d21_126 : decode prog_127_method_11_code 126 = .ok (.goto (-57), 3) := by decide +kernel
theorem d21_108 : decode prog_127_method_11_code 108 = .ok (.aload_n 0, 1) := by decide +kernel
theorem d21_109 : decode prog_127_method_11_code 109 = .ok (.iconst 1, 1) := by decide +kernel
theorem d21_110 : decode prog_127_method_11_code 110 = .ok (.putfield 42, 3) := by decide +kernel
theorem d21_0 : decode prog_127_method_11_code 0 = .ok (.aload_n 0, 1) := by decide +kernel
theorem d21_1 : decode prog_127_method_11_code 1 = .ok (.getfield 42, 3) := by decide +kernel
theorem d21_4 : decode prog_127_method_11_code 4 = .ok (.ifCond .eq 5, 3) := by decide +kernel
theorem d21_9 : decode prog_127_method_11_code 9 = .ok (.aload_n 0, 1) := by decide +kernel
theorem d21_10 : decode prog_127_method_11_code 10 = .ok (.getfield 25, 3) := by decide +kernel
theorem d21_13 : decode prog_127_method_11_code 13 = .ok (.getstatic 118, 3) := by decide +kernel
theorem d21_16 : decode prog_127_method_11_code 16 = .ok (.if_acmp .ne 50, 3) := by decide +kernel
theorem d21_19 : decode prog_127_method_11_code 19 = .ok (.aload_n 0, 1) := by decide +kernel
theorem d21_20 : decode prog_127_method_11_code 20 = .ok (.getfield 35, 3) := by decide +kernel
theorem d21_23 : decode prog_127_method_11_code 23 = .ok (.aload_n 0, 1) := by decide +kernel
theorem d21_24 : decode prog_127_method_11_code 24 = .ok (.getfield 39, 3) := by decide +kernel
theorem d21_27 : decode prog_127_method_11_code 27 = .ok (.lsub, 1) := by decide +kernel
theorem d21_28 : decode prog_127_method_11_code 28 = .ok (.lstore 4, 2) := by decide +kernel
theorem d21_30 : decode prog_127_method_11_code 30 = .ok (.iload_n 3, 1) := by decide +kernel
theorem d21_31 : decode prog_127_method_11_code 31 = .ok (.iload_n 2, 1) := by decide +kernel
theorem d21_32 : decode prog_127_method_11_code 32 = .ok (.isub, 1) := by decide +kernel
theorem d21_33 : decode prog_127_method_11_code 33 = .ok (.i2l, 1) := by decide +kernel
theorem d21_34 : decode prog_127_method_11_code 34 = .ok (.lload 4, 2) := by decide +kernel
theorem d21_36 : decode prog_127_method_11_code 36 = .ok (.lcmp, 1) := by decide +kernel
theorem d21_37 : decode prog_127_method_11_code 37 = .ok (.ifCond .gt 18, 3) := by decide +kernel
theorem d21_55 : decode prog_127_method_11_code 55 = .ok (.aload_n 0, 1) := by decide +kernel
theorem d21_56 : decode prog_127_method_11_code 56 = .ok (.iconst 1, 1) := by decide +kernel
theorem d21_57 : decode prog_127_method_11_code 57 = .ok (.putfield 42, 3) := by decide +kernel
theorem d21_60 : decode prog_127_method_11_code 60 = .ok (.iload_n 2, 1) := by decide +kernel
theorem d21_61 : decode prog_127_method_11_code 61 = .ok (.lload 4, 2) := by decide +kernel
theorem d21_63 : decode prog_127_method_11_code 63 = .ok (.l2i, 1) := by decide +kernel
theorem d21_64 : decode prog_127_method_11_code 64 = .ok (.iadd, 1) := by decide +kernel
theorem d21_65 : decode prog_127_method_11_code 65 = .ok (.ireturn, 1) := by decide +kernel
theorem d21_66 : decode prog_127_method_11_code 66 = .ok (.iload_n 2, 1) := by decide +kernel
theorem d21_67 : decode prog_127_method_11_code 67 = .ok (.istore 4, 2) := by decide +kernel
theorem d21_113 : decode prog_127_method_11_code 113 = .ok (.iload 4, 2) := by decide +kernel
theorem d21_115 : decode prog_127_method_11_code 115 = .ok (.ireturn, 1) := by decide +kernel
theorem d24_27 : decode prog_127_method_6_code 27 = .ok (.iload 7, 2) := by decide +kernel
theorem d24_29 : decode prog_127_method_6_code 29 = .ok (.iload 5, 2) := by decide +kernel
theorem d24_31 : decode prog_127_method_6_code 31 = .ok (.if_icmp .ge 268, 3) := by decide +kernel
theorem d24_34 : decode prog_127_method_6_code 34 = .ok (.aload_n 1, 1) := by decide +kernel
theorem d24_35 : decode prog_127_method_6_code 35 = .ok (.iload 7, 2) := by decide +kernel
theorem d24_37 : decode prog_127_method_6_code 37 = .ok (.caload, 1) := by decide +kernel
theorem d24_38 : decode prog_127_method_6_code 38 = .ok (.istore 8, 2) := by decide +kernel
theorem d24_40 : decode prog_127_method_6_code 40 = .ok (.aload_n 0, 1) := by decide +kernel
theorem d24_41 : decode prog_127_method_6_code 41 = .ok (.iload 8, 2) := by decide +kernel
theorem d24_43 : decode prog_127_method_6_code 43 = .ok (.invokevirtual 71, 3) := by decide +kernel
theorem d24_46 : decode prog_127_method_6_code 46 = .ok (.astore 9, 2) := by decide +kernel
theorem d24_48 : decode prog_127_method_6_code 48 = .ok (.aload 9, 2) := by decide +kernel
theorem d24_50 : decode prog_127_method_6_code 50 = .ok (.getstatic 75, 3) := by decide +kernel
theorem d24_53 : decode prog_127_method_6_code 53 = .ok (.if_acmp .ne 103, 3) := by decide +kernel
theorem d24_56 : decode prog_127_method_6_code 56 = .ok (.iload 8, 2) := by decide +kernel
theorem d24_58 : decode prog_127_method_6_code 58 = .ok (.invokestatic 80, 3) := by decide +kernel
theorem d24_61 : decode prog_127_method_6_code 61 = .ok (.ifCond .ne 42, 3) := by decide +kernel
theorem d24_64 : decode prog_127_method_6_code 64 = .ok (.aload_n 0, 1) := by decide +kernel
theorem d24_65 : decode prog_127_method_6_code 65 = .ok (.dup, 1) := by decide +kernel
theorem d24_66 : decode prog_127_method_6_code 66 = .ok (.getfield 48, 3) := by decide +kernel
theorem d24_69 : decode prog_127_method_6_code 69 = .ok (.aload_n 0, 1) := by decide +kernel
theorem d24_70 : decode prog_127_method_6_code 70 = .ok (.getfield 64, 3) := by decide +kernel
theorem d24_73 : decode prog_127_method_6_code 73 = .ok (.lconst 1, 1) := by decide +kernel
theorem d24_74 : decode prog_127_method_6_code 74 = .ok (.ladd, 1) := by decide +kernel
theorem d24_75 : decode prog_127_method_6_code 75 = .ok (.ladd, 1) := by decide +kernel
theorem d24_76 : decode prog_127_method_6_code 76 = .ok (.putfield 48, 3) := by decide +kernel
theorem d24_79 : decode prog_127_method_6_code 79 = .ok (.aload_n 0, 1) := by decide +kernel
theorem d24_80 : decode prog_127_method_6_code 80 = .ok (.getfield 48, 3) := by decide +kernel
theorem d24_83 : decode prog_127_method_6_code 83 = .ok (.aload_n 0, 1) := by decide +kernel
theorem d24_84 : decode prog_127_method_6_code 84 = .ok (.getfield 35, 3) := by decide +kernel
theorem d24_87 : decode prog_127_method_6_code 87 = .ok (.lcmp, 1) := by decide +kernel
theorem d24_88 : decode prog_127_method_6_code 88 = .ok (.ifCond .le 15, 3) := by decide +kernel
theorem d24_103 : decode prog_127_method_6_code 103 = .ok (.aload_n 0, 1) := by decide +kernel
theorem d24_104 : decode prog_127_method_6_code 104 = .ok (.getfield 64, 3) := by decide +kernel
theorem d24_107 : decode prog_127_method_6_code 107 = .ok (.lconst 0, 1) := by decide +kernel
theorem d24_108 : decode prog_127_method_6_code 108 = .ok (.lcmp, 1) := by decide +kernel
theorem d24_109 : decode prog_127_method_6_code 109 = .ok (.ifCond .le 34, 3) := by decide +kernel
theorem d24_143 : decode prog_127_method_6_code 143 = .ok (.aload_n 0, 1) := by decide +kernel
theorem d24_144 : decode prog_127_method_6_code 144 = .ok (.lconst 0, 1) := by decide +kernel
theorem d24_145 : decode prog_127_method_6_code 145 = .ok (.putfield 64, 3) := by decide +kernel
theorem d24_148 : decode prog_127_method_6_code 148 = .ok (.aload_n 0, 1) := by decide +kernel
theorem d24_149 : decode prog_127_method_6_code 149 = .ok (.aconst_null, 1) := by decide +kernel
theorem d24_150 : decode prog_127_method_6_code 150 = .ok (.putfield 60, 3) := by decide +kernel
theorem d24_153 : decode prog_127_method_6_code 153 = .ok (.goto 140, 3) := by decide +kernel
theorem d24_293 : decode prog_127_method_6_code 293 = .ok (.iinc 7 1, 3) := by decide +kernel
theorem d24_296 : decode prog_127_method_6_code 296 = .ok (.goto (-269), 3) := by decide +kernel
theorem d24_91 : decode prog_127_method_6_code 91 = .ok (.aload_n 0, 1) := by decide +kernel
theorem d24_92 : decode prog_127_method_6_code 92 = .ok (.iconst 1, 1) := by decide +kernel
theorem d24_93 : decode prog_127_method_6_code 93 = .ok (.putfield 45, 3) := by decide +kernel
theorem d24_96 : decode prog_127_method_6_code 96 = .ok (.aload_n 0, 1) := by decide +kernel
theorem d24_97 : decode prog_127_method_6_code 97 = .ok (.lconst 0, 1) := by decide +kernel
theorem d24_98 : decode prog_127_method_6_code 98 = .ok (.putfield 64, 3) := by decide +kernel
theorem d24_0 : decode prog_127_method_6_code 0 = .ok (.aload_n 0, 1) := by decide +kernel
theorem d24_1 : decode prog_127_method_6_code 1 = .ok (.getfield 45, 3) := by decide +kernel
theorem d24_4 : decode prog_127_method_6_code 4 = .ok (.ifCond .eq 5, 3) := by decide +kernel
theorem d24_9 : decode prog_127_method_6_code 9 = .ok (.iload_n 2, 1) := by decide +kernel
theorem d24_10 : decode prog_127_method_6_code 10 = .ok (.iload_n 3, 1) := by decide +kernel
theorem d24_11 : decode prog_127_method_6_code 11 = .ok (.iadd, 1) := by decide +kernel
theorem d24_12 : decode prog_127_method_6_code 12 = .ok (.istore 5, 2) := by decide +kernel
theorem d24_14 : decode prog_127_method_6_code 14 = .ok (.iload_n 2, 1) := by decide +kernel
theorem d24_15 : decode prog_127_method_6_code 15 = .ok (.istore 6, 2) := by decide +kernel
theorem d24_17 : decode prog_127_method_6_code 17 = .ok (.aload_n 0, 1) := by decide +kernel
theorem d24_18 : decode prog_127_method_6_code 18 = .ok (.aload_n 1, 1) := by decide +kernel
theorem d24_19 : decode prog_127_method_6_code 19 = .ok (.iload_n 2, 1) := by decide +kernel
theorem d24_20 : decode prog_127_method_6_code 20 = .ok (.iload 5, 2) := by decide +kernel
theorem d24_22 : decode prog_127_method_6_code 22 = .ok (.invokevirtual 67, 3) := by decide +kernel
theorem pd_25 : parseMethodDescriptor "([CII)I" = some ⟨[(.array .char), .int, .int], some .int⟩ := by decide +kernel
theorem d24_25 : decode prog_127_method_6_code 25 = .ok (.istore 7, 2) := by decide +kernel
theorem d24_101 : decode prog_127_method_6_code 101 = .ok (.iconst 0, 1) := by decide +kernel
theorem d24_102 : decode prog_127_method_6_code 102 = .ok (.ireturn, 1) := by decide +kernel
theorem d26_43 : decode prog_127_method_8_code 43 = .ok (.iload 5, 2) := by decide +kernel
theorem d26_45 : decode prog_127_method_8_code 45 = .ok (.iload_n 3, 1) := by decide +kernel
theorem d26_46 : decode prog_127_method_8_code 46 = .ok (.if_icmp .ge 19, 3) := by decide +kernel
theorem d26_49 : decode prog_127_method_8_code 49 = .ok (.aload_n 0, 1) := by decide +kernel
theorem d26_50 : decode prog_127_method_8_code 50 = .ok (.aload_n 1, 1) := by decide +kernel
theorem d26_51 : decode prog_127_method_8_code 51 = .ok (.iload 5, 2) := by decide +kernel
theorem d26_53 : decode prog_127_method_8_code 53 = .ok (.baload, 1) := by decide +kernel
theorem d26_54 : decode prog_127_method_8_code 54 = .ok (.i2c, 1) := by decide +kernel
theorem d26_55 : decode prog_127_method_8_code 55 = .ok (.invokevirtual 71, 3) := by decide +kernel
theorem d26_58 : decode prog_127_method_8_code 58 = .ok (.pop, 1) := by decide +kernel
theorem d26_59 : decode prog_127_method_8_code 59 = .ok (.iinc 5 1, 3) := by decide +kernel
theorem d26_62 : decode prog_127_method_8_code 62 = .ok (.goto (-19), 3) := by decide +kernel
theorem d26_0 : decode prog_127_method_8_code 0 = .ok (.iload 4, 2) := by decide +kernel
theorem d26_2 : decode prog_127_method_8_code 2 = .ok (.i2l, 1) := by decide +kernel
theorem d26_3 : decode prog_127_method_8_code 3 = .ok (.aload_n 0, 1) := by decide +kernel
theorem d26_4 : decode prog_127_method_8_code 4 = .ok (.invokevirtual 100, 3) := by decide +kernel
theorem pd_27 : parseMethodDescriptor "()J" = some ⟨[], some .long⟩ := by decide +kernel
theorem d26_7 : decode prog_127_method_8_code 7 = .ok (.lcmp, 1) := by decide +kernel
theorem d26_8 : decode prog_127_method_8_code 8 = .ok (.ifCond .le 22, 3) := by decide +kernel
theorem d26_30 : decode prog_127_method_8_code 30 = .ok (.aload_n 0, 1) := by decide +kernel
theorem d26_31 : decode prog_127_method_8_code 31 = .ok (.getfield 25, 3) := by decide +kernel
theorem d26_34 : decode prog_127_method_8_code 34 = .ok (.getstatic 113, 3) := by decide +kernel
theorem d26_37 : decode prog_127_method_8_code 37 = .ok (.if_acmp .ne 28, 3) := by decide +kernel
theorem d26_40 : decode prog_127_method_8_code 40 = .ok (.iload_n 2, 1) := by decide +kernel
theorem d26_41 : decode prog_127_method_8_code 41 = .ok (.istore 5, 2) := by decide +kernel
theorem d26_65 : decode prog_127_method_8_code 65 = .ok (.aload_n 0, 1) := by decide +kernel
theorem d26_66 : decode prog_127_method_8_code 66 = .ok (.dup, 1) := by decide +kernel
theorem d26_67 : decode prog_127_method_8_code 67 = .ok (.getfield 39, 3) := by decide +kernel
theorem d26_70 : decode prog_127_method_8_code 70 = .ok (.iload 4, 2) := by decide +kernel
theorem d26_72 : decode prog_127_method_8_code 72 = .ok (.i2l, 1) := by decide +kernel
theorem d26_73 : decode prog_127_method_8_code 73 = .ok (.ladd, 1) := by decide +kernel
theorem d26_74 : decode prog_127_method_8_code 74 = .ok (.putfield 39, 3) := by decide +kernel
theorem d26_77 : decode prog_127_method_8_code 77 = .ok (.return_, 1) := by decide +kernel
theorem pd_29 : parseMethodDescriptor own_s16 = some ⟨[(.object own_s6), .long], none⟩ := by decide +kernel
theorem pd_30 : parseMethodDescriptor own_s8 = some ⟨[(.array .char), .int, .int, (.object "com/example/corsia/corsia/engine/ValueText$Sink")], some .boolean⟩ := by decide +kernel
theorem pd_31 : parseMethodDescriptor "(Lcom/example/corsia/corsia/engine/ValueLengths$Count;JZ)V" = some ⟨[(.object own_s7), .long, .boolean], none⟩ := by decide +kernel
theorem pd_32 : parseMethodDescriptor "([BIII)V" = some ⟨[(.array .byte), .int, .int, .int], none⟩ := by decide +kernel
theorem pd_33 : parseMethodDescriptor "(JJ)J" = some ⟨[.long, .long], some .long⟩ := by decide +kernel
theorem pn_34 : plainName own_s11 = true := by first | (simp [plainName, overriddenIn]; done) | decide +kernel
theorem own_clamp {i z : Int32} (hi : ¬ i < 0) (h : i < z) : (i + (1 : Int32)).toNatClampNeg = i.toNatClampNeg + 1 ∧ ¬ (i + (1 : Int32)) < 0 ∧ i.toNatClampNeg < z.toNatClampNeg := by
  have e := c_iadd i 1
  have r := rng32 (i + 1)
  have r2 := rng32 i
  have r3 := rng32 z
  have q : (1 : Int32).toInt = 1 := rfl
  have q3 : (0 : Int32).toInt = 0 := rfl
  rw [Int32.lt_iff_toInt_lt] at hi h
  simp only [Int32.lt_iff_toInt_lt, Int32.toNatClampNeg]
  omega
theorem own_same {i z : Int32} (hi : ¬ i < 0) (hz : ¬ z < 0) (h : i.toNatClampNeg = z.toNatClampNeg) : i = z := by
  have q3 : (0 : Int32).toInt = 0 := rfl
  rw [Int32.lt_iff_toInt_lt] at hi hz
  simp only [Int32.toNatClampNeg] at h
  apply Int32.toInt_inj.mp
  omega
theorem own_below {i z : Int32} (hi : ¬ i < 0) (hz : ¬ z < 0) {k : Nat} (h : i.toNatClampNeg + (k + 1) = z.toNatClampNeg) : i < z := by
  have q3 : (0 : Int32).toInt = 0 := rfl
  rw [Int32.lt_iff_toInt_lt] at hi hz ⊢
  simp only [Int32.toNatClampNeg] at h
  omega
theorem own_setrep {w x : Value} {n : Nat} {rest : List Value} : (List.replicate n w ++ x :: rest).set n w = List.replicate (n + 1) w ++ rest := by
  rw [List.set_append_right _ _ (by simp)]
  simp [List.replicate_succ', List.append_assoc]

def own_ST (Z : State) (h : Heap) (ev ns sg phS phF phA phD co : Addr) : Prop := Sta Z h own_s7 "EVERY" own_s1 (.ref ev) ∧ Sta Z h own_s7 "NOT_SPACE" own_s1 (.ref ns) ∧ Sta Z h own_s7 "SIGNIFICANT" own_s1 (.ref sg) ∧ Sta Z h own_s9 "START" own_s4 (.ref phS) ∧ Sta Z h own_s9 "FRACTION" own_s4 (.ref phF) ∧ Sta Z h own_s9 "AFTER" own_s4 (.ref phA) ∧ Sta Z h own_s9 "DIGITS" own_s4 (.ref phD) ∧ Sta Z h own_s10 "COUNTED" own_s5 (.ref co)
theorem own_ST.ext {Z : State} {h h' : Heap} {ev ns sg phS phF phA phD co : Addr} (F : own_ST Z h ev ns sg phS phF phA phD co) (E : Ext h h') : own_ST Z h' ev ns sg phS phF phA phD co := by
  obtain ⟨q0, q1, q2, q3, q4, q5, q6, q7⟩ := F
  exact ⟨q0.ext E, q1.ext E, q2.ext E, q3.ext E, q4.ext E, q5.ext E, q6.ext E, q7.ext E⟩
theorem own_ST.wr {Z : State} {h h' : Heap} {ev ns sg phS phF phA phD co : Addr} (F : own_ST Z h ev ns sg phS phF phA phD co) {a : Addr} {sl : Nat} {v : Value} (W : Wr h h' a sl v) : own_ST Z h' ev ns sg phS phF phA phD co := by
  obtain ⟨q0, q1, q2, q3, q4, q5, q6, q7⟩ := F
  exact ⟨q0.wr W, q1.wr W, q2.wr W, q3.wr W, q4.wr W, q5.wr W, q6.wr W, q7.wr W⟩
theorem own_ST.keep {Z : State} {h h' : Heap} {ev ns sg phS phF phA phD co : Addr} (F : own_ST Z h ev ns sg phS phF phA phD co) {ws : List Addr} (K : Keep h h' ws) (q : ∀ x ∈ ws, ∀ c : Cell, h[x]? = some c → c.vm.isStatics = false) : own_ST Z h' ev ns sg phS phF phA phD co := by
  obtain ⟨q0, q1, q2, q3, q4, q5, q6, q7⟩ := F
  exact ⟨own_sta_keep q0 K q, own_sta_keep q1 K q, own_sta_keep q2 K q, own_sta_keep q3 K q, own_sta_keep q4 K q, own_sta_keep q5 K q, own_sta_keep q6 K q, own_sta_keep q7 K q⟩
theorem own_ST.s0 {Z : State} {h : Heap} {ev ns sg phS phF phA phD co : Addr} (F : own_ST Z h ev ns sg phS phF phA phD co) : Sta Z h own_s7 "EVERY" own_s1 (.ref ev) := by
  obtain ⟨q0, q1, q2, q3, q4, q5, q6, q7⟩ := F
  exact q0
theorem own_ST.s1 {Z : State} {h : Heap} {ev ns sg phS phF phA phD co : Addr} (F : own_ST Z h ev ns sg phS phF phA phD co) : Sta Z h own_s7 "NOT_SPACE" own_s1 (.ref ns) := by
  obtain ⟨q0, q1, q2, q3, q4, q5, q6, q7⟩ := F
  exact q1
theorem own_ST.s2 {Z : State} {h : Heap} {ev ns sg phS phF phA phD co : Addr} (F : own_ST Z h ev ns sg phS phF phA phD co) : Sta Z h own_s7 "SIGNIFICANT" own_s1 (.ref sg) := by
  obtain ⟨q0, q1, q2, q3, q4, q5, q6, q7⟩ := F
  exact q2
theorem own_ST.s3 {Z : State} {h : Heap} {ev ns sg phS phF phA phD co : Addr} (F : own_ST Z h ev ns sg phS phF phA phD co) : Sta Z h own_s9 "START" own_s4 (.ref phS) := by
  obtain ⟨q0, q1, q2, q3, q4, q5, q6, q7⟩ := F
  exact q3
theorem own_ST.s4 {Z : State} {h : Heap} {ev ns sg phS phF phA phD co : Addr} (F : own_ST Z h ev ns sg phS phF phA phD co) : Sta Z h own_s9 "FRACTION" own_s4 (.ref phF) := by
  obtain ⟨q0, q1, q2, q3, q4, q5, q6, q7⟩ := F
  exact q4
theorem own_ST.s5 {Z : State} {h : Heap} {ev ns sg phS phF phA phD co : Addr} (F : own_ST Z h ev ns sg phS phF phA phD co) : Sta Z h own_s9 "AFTER" own_s4 (.ref phA) := by
  obtain ⟨q0, q1, q2, q3, q4, q5, q6, q7⟩ := F
  exact q5
theorem own_ST.s6 {Z : State} {h : Heap} {ev ns sg phS phF phA phD co : Addr} (F : own_ST Z h ev ns sg phS phF phA phD co) : Sta Z h own_s9 "DIGITS" own_s4 (.ref phD) := by
  obtain ⟨q0, q1, q2, q3, q4, q5, q6, q7⟩ := F
  exact q6
theorem own_ST.s7 {Z : State} {h : Heap} {ev ns sg phS phF phA phD co : Addr} (F : own_ST Z h ev ns sg phS phF phA phD co) : Sta Z h own_s10 "COUNTED" own_s5 (.ref co) := by
  obtain ⟨q0, q1, q2, q3, q4, q5, q6, q7⟩ := F
  exact q7
def own_NN (ev ns sg phS phF phA phD co : Addr) : Prop := ns ≠ ev ∧ sg ≠ ev ∧ sg ≠ ns ∧ phS ≠ phF ∧ phS ≠ phA ∧ phD ≠ phF ∧ phD ≠ phA ∧ phD ≠ phS
theorem own_NN.n0 {ev ns sg phS phF phA phD co : Addr} (F : own_NN ev ns sg phS phF phA phD co) : ns ≠ ev := by
  obtain ⟨q0, q1, q2, q3, q4, q5, q6, q7⟩ := F
  exact q0
theorem own_NN.n1 {ev ns sg phS phF phA phD co : Addr} (F : own_NN ev ns sg phS phF phA phD co) : sg ≠ ev := by
  obtain ⟨q0, q1, q2, q3, q4, q5, q6, q7⟩ := F
  exact q1
theorem own_NN.n2 {ev ns sg phS phF phA phD co : Addr} (F : own_NN ev ns sg phS phF phA phD co) : sg ≠ ns := by
  obtain ⟨q0, q1, q2, q3, q4, q5, q6, q7⟩ := F
  exact q2
theorem own_NN.n3 {ev ns sg phS phF phA phD co : Addr} (F : own_NN ev ns sg phS phF phA phD co) : phS ≠ phF := by
  obtain ⟨q0, q1, q2, q3, q4, q5, q6, q7⟩ := F
  exact q3
theorem own_NN.n4 {ev ns sg phS phF phA phD co : Addr} (F : own_NN ev ns sg phS phF phA phD co) : phS ≠ phA := by
  obtain ⟨q0, q1, q2, q3, q4, q5, q6, q7⟩ := F
  exact q4
theorem own_NN.n5 {ev ns sg phS phF phA phD co : Addr} (F : own_NN ev ns sg phS phF phA phD co) : phD ≠ phF := by
  obtain ⟨q0, q1, q2, q3, q4, q5, q6, q7⟩ := F
  exact q5
theorem own_NN.n6 {ev ns sg phS phF phA phD co : Addr} (F : own_NN ev ns sg phS phF phA phD co) : phD ≠ phA := by
  obtain ⟨q0, q1, q2, q3, q4, q5, q6, q7⟩ := F
  exact q6
theorem own_NN.n7 {ev ns sg phS phF phA phD co : Addr} (F : own_NN ev ns sg phS phF phA phD co) : phD ≠ phS := by
  obtain ⟨q0, q1, q2, q3, q4, q5, q6, q7⟩ := F
  exact q7
theorem ef_own_minA (m : MethodId) (pj0 : Int64) (pj1 : Int64) : entryFrame m #[(.long pj0), (.long pj1)] 4 = mkF m 0 #[.val (.long pj0), .second, .val (.long pj1), .second] [] := by first | (simp [entryFrame, mkF, argsToLocals, Value.category]; done) | rfl
def Q_own_minA (Z : State) (pj0 : Int64) (pj1 : Int64)  (h0 : Heap) (n0 : Nat) (v : Option Value) (h : Heap) (L : List Loc) : Prop := v = some (.long pj0) ∧ Fr n0 L ∧ h = h0
set_option maxRecDepth 65536 in
set_option maxHeartbeats 40000000 in
theorem own_minA (l : Launch) (Z : State) (a0 : Array Value) (hw : ∀ d ∈ tables_1, d.before a0 Z = true) (ws : List Jvm.Cond) (pj0 : Int64) (pj1 : Int64)  (h0 : Heap) (n0 : Nat) (Z0 : n0 ≤ h0.size) (P0 : ¬ (pj1 < pj0)) :
    MetFree l (⟨own_s13, "min", "(JJ)J"⟩ : MethodName) (head1 (Jvm.Cond.code (⟨own_s13, "min", "(JJ)J"⟩ : MethodName) jdk_29_method_70_code 4 (some .long) :: ws) ({ frames := 0, cells := 0, slots := 0, locals := 0 } : Room)) (fun a U => a = #[(.long pj0), (.long pj1)] ∧ Z.Warmed39 U.vm ∧ U.heap = h0) (fun _ _ _ _ _ => True) (fun _ U o U' => ∃ v L, o = .returned v ∧ Q_own_minA Z pj0 pj1 h0 n0 v U'.heap L ∧ FrameEnd U o U' L ({ frames := 0, cells := 0, slots := 0, locals := 0 } : Room).cells ({ frames := 0, cells := 0, slots := 0, locals := 0 } : Room).slots) := by
  refine MetFree.of_bodySF (Jvm.Free.JP.mathPlain rfl (by decide +kernel)) hisR ?_
  intro p e s m args below meth c s₁ Bd hml0 hP hK
  obtain ⟨rfl, hZ, hh⟩ := hP
  have hx := Bd.exec
  have hby := Bd.bytes
  have hml : c.maxLocals = 4 := hml0
  have hown : s.vm.findClass own_s13 = some m.cls := findClass_of_methodNamed Bd.named
  have hnm := (name_of_methodNamed Bd.named Bd.method).1
  have X0 : Stand p l e ({ frames := 0, cells := 0, slots := 0, locals := 0 } : Room) s m #[(.long pj0), (.long pj1)] below meth c s₁ [] 0 0 := Stand.of_body Bd
  have e0 : s₁.heap = h0 := by rw [← hh, Bd.state]; rfl
  have N0 := Fr.nil n0
  have go0 : ∀ t, own_S p e below (s₁.setTop (mkF m 0 #[.val (.long pj0), .second, .val (.long pj1), .second] [])) t → Steps p.tables e below (s₁.setTop (entryFrame m #[(.long pj0), (.long pj1)] 4)) t := fun t k => castTop (ef_own_minA m pj0 pj1) k
  revert go0
  generalize s₁.setTop (entryFrame m #[(.long pj0), (.long pj1)] 4) = st0
  intro go0
  have go1 : ∀ t, own_S p e below (s₁.setTop (mkF m 11 #[.val (.long pj0), .second, .val (.long pj1), .second] [(.long pj0)])) t → Steps p.tables e below st0 t := by
    intro t kt
    refine go0 t ?_
    refine XS.lloadN X0.here hx rfl (hb hby d0_0) rfl ?_
    refine XS.lloadN X0.here hx rfl (hb hby d0_1) rfl ?_
    show own_S p e below (s₁.setTop (mkF m 2 #[.val (.long pj0), .second, .val (.long pj1), .second] [(.long pj1), (.long pj0)])) _
    refine XS.lcmp X0.here hx rfl (hb hby d0_2) rfl ?_
    show own_S p e below (s₁.setTop (mkF m 3 #[.val (.long pj0), .second, .val (.long pj1), .second] [(.int (lcmpW pj0 pj1))])) _
    refine XS.ifNo X0.here hx rfl (hb hby d0_3) rfl (Jvm.Free.XT.ll_gt_f P0) ?_
    refine XS.lloadN X0.here hx rfl (hb hby d0_6) rfl ?_
    show own_S p e below (s₁.setTop (mkF m 7 #[.val (.long pj0), .second, .val (.long pj1), .second] [(.long pj0)])) _
    refine XS.goto X0.here hx rfl (pc0 := 7) (pc' := 11) rfl (hb hby d0_7) (by decide) (by decide) ?_
    show own_S p e below (s₁.setTop (mkF m 11 #[.val (.long pj0), .second, .val (.long pj1), .second] [(.long pj0)])) _
    exact kt
  obtain ⟨fs, hr, hrun, hended, hW, hsame⟩ := X0.leave (v := some (.long pj0)) (fun h => by rw [Bd.returns] at h; cases h)
  refine ⟨_, _, go1 _ ?_, hrun, hended, _, _, rfl, ?_, ⟨_, rfl⟩, hW, hsame.mono (by decide) (by decide)⟩
  · jvm_step X0.here [X0.here.top, hx, (hb hby d0_11), X0.method', Bd.returns, narrow]
    first | (intro acts; rw [hr _ acts rfl rfl rfl]) | rw [hr _ _ rfl rfl rfl]
    exact Steps.refl _
  · show Q_own_minA Z pj0 pj1 h0 n0 _ s₁.heap _
    rw [e0]
    exact ⟨rfl, N0, rfl⟩
theorem ef_own_minB (m : MethodId) (pj0 : Int64) (pj1 : Int64) : entryFrame m #[(.long pj0), (.long pj1)] 4 = mkF m 0 #[.val (.long pj0), .second, .val (.long pj1), .second] [] := by first | (simp [entryFrame, mkF, argsToLocals, Value.category]; done) | rfl
def Q_own_minB (Z : State) (pj0 : Int64) (pj1 : Int64)  (h0 : Heap) (n0 : Nat) (v : Option Value) (h : Heap) (L : List Loc) : Prop := v = some (.long pj1) ∧ Fr n0 L ∧ h = h0
set_option maxRecDepth 65536 in
set_option maxHeartbeats 40000000 in
theorem own_minB (l : Launch) (Z : State) (a0 : Array Value) (hw : ∀ d ∈ tables_1, d.before a0 Z = true) (ws : List Jvm.Cond) (pj0 : Int64) (pj1 : Int64)  (h0 : Heap) (n0 : Nat) (Z0 : n0 ≤ h0.size) (P0 : pj1 < pj0) :
    MetFree l (⟨own_s13, "min", "(JJ)J"⟩ : MethodName) (head1 (Jvm.Cond.code (⟨own_s13, "min", "(JJ)J"⟩ : MethodName) jdk_29_method_70_code 4 (some .long) :: ws) ({ frames := 0, cells := 0, slots := 0, locals := 0 } : Room)) (fun a U => a = #[(.long pj0), (.long pj1)] ∧ Z.Warmed39 U.vm ∧ U.heap = h0) (fun _ _ _ _ _ => True) (fun _ U o U' => ∃ v L, o = .returned v ∧ Q_own_minB Z pj0 pj1 h0 n0 v U'.heap L ∧ FrameEnd U o U' L ({ frames := 0, cells := 0, slots := 0, locals := 0 } : Room).cells ({ frames := 0, cells := 0, slots := 0, locals := 0 } : Room).slots) := by
  refine MetFree.of_bodySF (Jvm.Free.JP.mathPlain rfl (by decide +kernel)) hisR ?_
  intro p e s m args below meth c s₁ Bd hml0 hP hK
  obtain ⟨rfl, hZ, hh⟩ := hP
  have hx := Bd.exec
  have hby := Bd.bytes
  have hml : c.maxLocals = 4 := hml0
  have hown : s.vm.findClass own_s13 = some m.cls := findClass_of_methodNamed Bd.named
  have hnm := (name_of_methodNamed Bd.named Bd.method).1
  have X0 : Stand p l e ({ frames := 0, cells := 0, slots := 0, locals := 0 } : Room) s m #[(.long pj0), (.long pj1)] below meth c s₁ [] 0 0 := Stand.of_body Bd
  have e0 : s₁.heap = h0 := by rw [← hh, Bd.state]; rfl
  have N0 := Fr.nil n0
  have go0 : ∀ t, own_S p e below (s₁.setTop (mkF m 0 #[.val (.long pj0), .second, .val (.long pj1), .second] [])) t → Steps p.tables e below (s₁.setTop (entryFrame m #[(.long pj0), (.long pj1)] 4)) t := fun t k => castTop (ef_own_minB m pj0 pj1) k
  revert go0
  generalize s₁.setTop (entryFrame m #[(.long pj0), (.long pj1)] 4) = st0
  intro go0
  have go1 : ∀ t, own_S p e below (s₁.setTop (mkF m 11 #[.val (.long pj0), .second, .val (.long pj1), .second] [(.long pj1)])) t → Steps p.tables e below st0 t := by
    intro t kt
    refine go0 t ?_
    refine XS.lloadN X0.here hx rfl (hb hby d0_0) rfl ?_
    refine XS.lloadN X0.here hx rfl (hb hby d0_1) rfl ?_
    show own_S p e below (s₁.setTop (mkF m 2 #[.val (.long pj0), .second, .val (.long pj1), .second] [(.long pj1), (.long pj0)])) _
    refine XS.lcmp X0.here hx rfl (hb hby d0_2) rfl ?_
    show own_S p e below (s₁.setTop (mkF m 3 #[.val (.long pj0), .second, .val (.long pj1), .second] [(.int (lcmpW pj0 pj1))])) _
    refine XS.ifYes X0.here hx rfl (pc0 := 3) (pc' := 10) rfl (hb hby d0_3) rfl (Jvm.Free.XT.ll_gt_t P0) (by decide) (by decide) ?_
    refine XS.lloadN X0.here hx rfl (hb hby d0_10) rfl ?_
    show own_S p e below (s₁.setTop (mkF m 11 #[.val (.long pj0), .second, .val (.long pj1), .second] [(.long pj1)])) _
    exact kt
  obtain ⟨fs, hr, hrun, hended, hW, hsame⟩ := X0.leave (v := some (.long pj1)) (fun h => by rw [Bd.returns] at h; cases h)
  refine ⟨_, _, go1 _ ?_, hrun, hended, _, _, rfl, ?_, ⟨_, rfl⟩, hW, hsame.mono (by decide) (by decide)⟩
  · jvm_step X0.here [X0.here.top, hx, (hb hby d0_11), X0.method', Bd.returns, narrow]
    first | (intro acts; rw [hr _ acts rfl rfl rfl]) | rw [hr _ _ rfl rfl rfl]
    exact Steps.refl _
  · show Q_own_minB Z pj0 pj1 h0 n0 _ s₁.heap _
    rw [e0]
    exact ⟨rfl, N0, rfl⟩
theorem ef_own_rec (m : MethodId) (pr0 : Addr) : entryFrame m #[(.ref pr0)] 1 = mkF m 0 #[rv pr0] [] := by first | (simp [entryFrame, mkF, argsToLocals, Value.category]; done) | rfl
def Q_own_rec (Z : State) (pr0 : Addr)  (h0 : Heap) (n0 : Nat) (v : Option Value) (h : Heap) (L : List Loc) : Prop := v = none ∧ Fr n0 L ∧ h = h0
set_option maxRecDepth 65536 in
set_option maxHeartbeats 40000000 in
theorem own_rec (l : Launch) (Z : State) (a0 : Array Value) (hw : ∀ d ∈ tables_1, d.before a0 Z = true) (ws : List Jvm.Cond) (pr0 : Addr)  (h0 : Heap) (n0 : Nat) (Z0 : n0 ≤ h0.size) :
    MetFree l (⟨own_s19, "<init>", "()V"⟩ : MethodName) (head1 (Jvm.Cond.code (⟨own_s19, "<init>", "()V"⟩ : MethodName) jdk_30_method_1_code 1 none :: ws) ({ frames := 1, cells := 0, slots := 0, locals := 12 } : Room)) (fun a U => a = #[(.ref pr0)] ∧ Z.Warmed39 U.vm ∧ U.heap = h0) (fun _ _ _ _ _ => True) (fun _ U o U' => ∃ v L, o = .returned v ∧ Q_own_rec Z pr0 h0 n0 v U'.heap L ∧ FrameEnd U o U' L ({ frames := 1, cells := 0, slots := 0, locals := 12 } : Room).cells ({ frames := 1, cells := 0, slots := 0, locals := 12 } : Room).slots) := by
  refine MetFree.of_bodySF (plainFor_of_name pn_3) hisR ?_
  intro p e s m args below meth c s₁ Bd hml0 hP hK
  obtain ⟨rfl, hZ, hh⟩ := hP
  have hx := Bd.exec
  have hby := Bd.bytes
  have hml : c.maxLocals = 1 := hml0
  have hown : s.vm.findClass own_s19 = some m.cls := findClass_of_methodNamed Bd.named
  have hnm := (name_of_methodNamed Bd.named Bd.method).1
  have X0 : Stand p l e ({ frames := 1, cells := 0, slots := 0, locals := 12 } : Room) s m #[(.ref pr0)] below meth c s₁ [] 0 0 := Stand.of_body Bd
  have e0 : s₁.heap = h0 := by rw [← hh, Bd.state]; rfl
  have N0 := Fr.nil n0
  have go0 : ∀ t, own_S p e below (s₁.setTop (mkF m 0 #[rv pr0] [])) t → Steps p.tables e below (s₁.setTop (entryFrame m #[(.ref pr0)] 1)) t := fun t k => castTop (ef_own_rec m pr0) k
  revert go0
  generalize s₁.setTop (entryFrame m #[(.ref pr0)] 1) = st0
  intro go0
  obtain ⟨T1, X1, e1, st1⟩ := initO X0 hx hZ hown (own_w hw 38 rfl) (own_w hw 19 rfl) (own_w hw 20 rfl) e0 (g := (mkF m 1 #[rv pr0] [(.ref pr0)])) rfl (by rw [hml]; rfl) rfl (hb hby d2_1) (by decide) (W := 0) (by show 2 * 0 + _ ≤ _; exact Nat.le_of_eq rfl) (by decide)
  have go2 : ∀ t, own_S p e below (T1.setTop (mkF m 4 #[rv pr0] [])) t → Steps p.tables e below st0 t := by
    intro t kt
    refine go0 t ?_
    refine XS.aloadN X0.here hx rfl (hb hby d2_0) rfl rfl ?_
    show own_S p e below (s₁.setTop (mkF m 1 #[rv pr0] [(.ref pr0)])) _
    refine st1 _ ?_
    show own_S p e below (T1.setTop (mkF m 4 #[rv pr0] [])) _
    exact kt
  obtain ⟨fs, hr, hrun, hended, hW, hsame⟩ := X1.leave (v := none) (fun _ => rfl)
  refine ⟨_, _, go2 _ ?_, hrun, hended, _, _, rfl, ?_, ⟨_, rfl⟩, hW, hsame.mono (by decide) (by decide)⟩
  · exact X1.returnOut hx Bd.returns (hb hby d2_4) hr
  · show Q_own_rec Z pr0 h0 n0 _ T1.heap _
    rw [e1]
    exact ⟨rfl, N0, rfl⟩
set_option maxRecDepth 65536 in
set_option maxHeartbeats 40000000 in
theorem own_fillTurn {p : Program} {l : Launch} {e : Env} {s : State} {m : MethodId} {args : Array Value} {below : List Frame} {meth : Method} {c : Code} {T0 : State} {locs : List Loc} {Z : State} {a0 : Array Value} {h0 : Heap} {n0 : Nat} (a : Addr) (v : Int32) (i : Int32) (z : Int32) (ka : ClassId) (vs : List Value) (X0 : Stand p l e ({ frames := 0, cells := 0, slots := 0, locals := 0 } : Room) s m args below meth c T0 locs 0 0) (hx : p.tables.exec = Jvm.exec) (hZ : Z.Warmed39 s.vm) (hw : ∀ d ∈ tables_1, d.before a0 Z = true) (hby : c.code = jdk_65_method_107_code) (hml : c.maxLocals = 4) (hown : s.vm.findClass own_s17 = some m.cls) (e0 : T0.heap = h0) (N0 : Fr n0 locs) (Z0 : n0 ≤ h0.size) (P0 : Arv Z h0 a ka .char z vs (.int 0)) (P1 : ¬ (i < 0)) (P2 : i < z) (P3 : i.toNatClampNeg < vs.length) (P4 : n0 ≤ a) :
    ∃ (T' : State) (h' : Heap) (L' : List Loc), Stand p l e ({ frames := 0, cells := 0, slots := 0, locals := 0 } : Room) s m args below meth c T' L' 0 0 ∧ T'.heap = h' ∧ Fr n0 L' ∧ Keep h0 h' ([a] : List Addr) ∧ n0 ≤ h'.size ∧ Arv Z h' a ka .char z (vs.set i.toNatClampNeg (.int (nar .char v))) (.int 0) ∧ ∀ t, Steps p.tables e below (T'.setTop (mkF m 5 #[rv a, iv v, .val (.int (i + (1 : Int32))), iv z] [])) t → own_S p e below (T0.setTop (mkF m 5 #[rv a, iv v, iv i, iv z] [])) t := by
  obtain ⟨st0, hst0⟩ : ∃ zst, zst = T0.setTop (mkF m 5 #[rv a, iv v, iv i, iv z] []) := ⟨_, rfl⟩
  have go0 : ∀ t, own_S p e below (T0.setTop (mkF m 5 #[rv a, iv v, iv i, iv z] [])) t → Steps p.tables e below st0 t := fun t k => by rw [hst0]; exact k
  rw [← hst0]
  obtain ⟨cl1, Ar1, q1, S1, N1, H1, G1⟩ := id P0
  have hin1 : ¬ (i < 0 ∨ cl1.slots.size ≤ (i).toNatClampNeg) := inb_of S1 ⟨P1, P2⟩
  obtain ⟨T2, h2, X2, e2, W2, st2⟩ := stC X0 hx hZ e0 Ar1 (j := i) hin1 (g := (mkF m 13 #[rv a, iv v, iv i, iv z] [(.int v), (.int i), (.ref a)])) rfl rfl (hb hby d4_13)
  have K2 : Keep h0 h2 ([a] : List Addr) := (Keep.refl h0 ([a] : List Addr)).wr W2 (Or.inl (List.mem_of_getElem? (i := 0) rfl))
  have N2 := Fr.snoc X2 N0 P4
  have Z2 : n0 ≤ h2.size := Nat.le_trans Z0 (Keep.of_wr W2).1
  have V2 : Arv Z h2 a ka .char z (vs.set i.toNatClampNeg (.int (nar .char v))) (.int 0) := Arv.set Ar1 q1 S1 N1 H1 G1 (fits_nar_char _) W2 i.toNatClampNeg rfl P3
  have go3 : ∀ t, own_S p e below (T2.setTop (mkF m 5 #[rv a, iv v, .val (.int (i + (1 : Int32))), iv z] [])) t → Steps p.tables e below st0 t := by
    intro t kt
    refine go0 t ?_
    refine XS.iloadN X0.here hx rfl (hb hby d4_5) rfl ?_
    refine XS.iloadN X0.here hx rfl (hb hby d4_6) rfl ?_
    show own_S p e below (T0.setTop (mkF m 7 #[rv a, iv v, iv i, iv z] [(.int z), (.int i)])) _
    refine XS.icmpNo X0.here hx rfl (hb hby d4_7) rfl (tlt P2).2.1 ?_
    refine XS.aloadN X0.here hx rfl (hb hby d4_10) rfl rfl ?_
    refine XS.iloadN X0.here hx rfl (hb hby d4_11) rfl ?_
    refine XS.iloadN X0.here hx rfl (hb hby d4_12) rfl ?_
    show own_S p e below (T0.setTop (mkF m 13 #[rv a, iv v, iv i, iv z] [(.int v), (.int i), (.ref a)])) _
    refine st2 _ ?_
    show own_S p e below (T2.setTop (mkF m 14 #[rv a, iv v, iv i, iv z] [])) _
    refine XS.iinc X2.here hx rfl (hb hby d4_14) rfl (l' := #[rv a, iv v, .val (.int (i + (1 : Int32))), iv z]) rfl ?_
    show own_S p e below (T2.setTop (mkF m 17 #[rv a, iv v, .val (.int (i + (1 : Int32))), iv z] [])) _
    refine XS.goto X2.here hx rfl (pc0 := 17) (pc' := 5) rfl (hb hby d4_17) (by decide) (by decide) ?_
    show own_S p e below (T2.setTop (mkF m 5 #[rv a, iv v, .val (.int (i + (1 : Int32))), iv z] [])) _
    exact kt
  exact ⟨_, _, _, own_mono X2 (by decide) (by decide), e2, N2, K2, Z2, V2, go3⟩
set_option maxRecDepth 65536 in
set_option maxHeartbeats 40000000 in
theorem own_fillLoop {p : Program} {l : Launch} {e : Env} {s : State} {m : MethodId} {args : Array Value} {below : List Frame} {meth : Method} {c : Code} {Z : State} {a0 : Array Value} {n0 : Nat} (a : Addr) (v z : Int32) (ka : ClassId) (hx : p.tables.exec = Jvm.exec) (hZ : Z.Warmed39 s.vm) (hw : ∀ d ∈ tables_1, d.before a0 Z = true) (hby : c.code = jdk_65_method_107_code) (hml : c.maxLocals = 4) (hown : s.vm.findClass own_s17 = some m.cls) (hz : ¬ z < 0) (ge : n0 ≤ a) : ∀ (k : Nat) (i : Int32) (T0 : State) (h0 : Heap) (locs : List Loc) (vs : List Value), Stand p l e ({ frames := 0, cells := 0, slots := 0, locals := 0 } : Room) s m args below meth c T0 locs 0 0 → T0.heap = h0 → Fr n0 locs → n0 ≤ h0.size → ¬ (i < 0) → i.toNatClampNeg + k = z.toNatClampNeg → vs.length = k → Arv Z h0 a ka .char z (List.replicate i.toNatClampNeg (.int (nar .char v)) ++ vs) (.int 0) →
    ∃ (T' : State) (h' : Heap) (L' : List Loc), Stand p l e ({ frames := 0, cells := 0, slots := 0, locals := 0 } : Room) s m args below meth c T' L' 0 0 ∧ T'.heap = h' ∧ Fr n0 L' ∧ Keep h0 h' ([a] : List Addr) ∧ n0 ≤ h'.size ∧ Arv Z h' a ka .char z (List.replicate z.toNatClampNeg (.int (nar .char v))) (.int 0) ∧ ∀ t, Steps p.tables e below (T'.setTop (mkF m 5 #[rv a, iv v, iv z, iv z] [])) t → own_S p e below (T0.setTop (mkF m 5 #[rv a, iv v, iv i, iv z] [])) t := by
  intro k
  induction k with
  | zero =>
    intro i T0 h0 locs vs X0 e0 N0 Z0 hi hk hl V0
    have e : i = z := own_same hi hz (by omega)
    subst e
    have hv : vs = [] := List.eq_nil_of_length_eq_zero hl
    subst hv
    rw [List.append_nil] at V0
    exact ⟨T0, h0, locs, X0, e0, N0, Keep.refl _ _, Z0, V0, fun _ kt => kt⟩
  | succ k ih =>
    intro i T0 h0 locs vs X0 e0 N0 Z0 hi hk hl V0
    have hlt := own_below hi hz hk
    obtain ⟨c1, c2, c3⟩ := own_clamp hi hlt
    obtain ⟨x, rest, rfl⟩ : ∃ x rest, vs = x :: rest := by
      cases vs with
      | nil => simp at hl
      | cons x r => exact ⟨x, r, rfl⟩
    obtain ⟨T1, h1, L1, X1, e1, N1, K1, Z1, V1, st1⟩ := own_fillTurn a v i z ka _ X0 hx hZ hw hby hml hown e0 N0 Z0 V0 hi hlt (by simp) ge
    rw [own_setrep, ← c1] at V1
    obtain ⟨T2, h2, L2, X2, e2, N2, K2, Z2, V2, st2⟩ := ih (i + 1) T1 h1 L1 rest X1 e1 N1 Z1 c2 (by omega) (by simpa using hl) V1
    exact ⟨T2, h2, L2, X2, e2, N2, K1.trans K2 (fun x hx => Or.inl hx), Z2, V2, fun t kt => st1 t (st2 t kt)⟩
theorem own_fillAll {p : Program} {l : Launch} {e : Env} {s : State} {m : MethodId} {args : Array Value} {below : List Frame} {meth : Method} {c : Code} {Z : State} {a0 : Array Value} {n0 : Nat} {T0 : State} {locs : List Loc} {h0 : Heap} (a : Addr) (v z : Int32) (ka : ClassId) (vs : List Value) (X0 : Stand p l e ({ frames := 0, cells := 0, slots := 0, locals := 0 } : Room) s m args below meth c T0 locs 0 0) (hx : p.tables.exec = Jvm.exec) (hZ : Z.Warmed39 s.vm) (hw : ∀ d ∈ tables_1, d.before a0 Z = true) (hby : c.code = jdk_65_method_107_code) (hml : c.maxLocals = 4) (hown : s.vm.findClass own_s17 = some m.cls) (e0 : T0.heap = h0) (N0 : Fr n0 locs) (Z0 : n0 ≤ h0.size) (V0 : Arv Z h0 a ka .char z vs (.int 0)) (hl : vs.length = z.toNatClampNeg) (ge : n0 ≤ a) :
    ∃ (T' : State) (h' : Heap) (L' : List Loc), Stand p l e ({ frames := 0, cells := 0, slots := 0, locals := 0 } : Room) s m args below meth c T' L' 0 0 ∧ T'.heap = h' ∧ Fr n0 L' ∧ Keep h0 h' ([a] : List Addr) ∧ n0 ≤ h'.size ∧ Arv Z h' a ka .char z (List.replicate z.toNatClampNeg (.int (nar .char v))) (.int 0) ∧ ∀ t, Steps p.tables e below (T'.setTop (mkF m 5 #[rv a, iv v, iv z, iv z] [])) t → own_S p e below (T0.setTop (mkF m 5 #[rv a, iv v, iv 0, iv z] [])) t := by
  have hz : ¬ z < 0 := by obtain ⟨_, _, _, _, h, _⟩ := V0; exact h
  exact own_fillLoop a v z ka hx hZ hw hby hml hown hz ge z.toNatClampNeg 0 T0 h0 locs vs X0 e0 N0 Z0 (by decide) (by rw [show (0 : Int32).toNatClampNeg = 0 from rfl, Nat.zero_add]) hl (by rw [show (0 : Int32).toNatClampNeg = 0 from rfl]; exact V0)
theorem ef_own_fill (m : MethodId) (pr0 : Addr) (pi1 : Int32) : entryFrame m #[(.ref pr0), (.int pi1)] 4 = mkF m 0 #[rv pr0, iv pi1, .unset, .unset] [] := by first | (simp [entryFrame, mkF, argsToLocals, Value.category]; done) | rfl
def Q_own_fill (Z : State) (pr0 : Addr) (pi1 : Int32) (ka : ClassId) (wz : Int32) (vs : List Value) (h0 : Heap) (n0 : Nat) (v : Option Value) (h : Heap) (L : List Loc) : Prop := Fr n0 L ∧ v = none ∧ Keep h0 h ([pr0] : List Addr) ∧ Arv Z h pr0 ka .char wz (List.replicate wz.toNatClampNeg (.int (nar .char pi1))) (.int 0)
set_option maxRecDepth 65536 in
set_option maxHeartbeats 40000000 in
theorem own_fill (l : Launch) (Z : State) (a0 : Array Value) (hw : ∀ d ∈ tables_1, d.before a0 Z = true) (ws : List Jvm.Cond) (pr0 : Addr) (pi1 : Int32) (ka : ClassId) (wz : Int32) (vs : List Value) (h0 : Heap) (n0 : Nat) (Z0 : n0 ≤ h0.size) (P0 : Arv Z h0 pr0 ka .char wz vs (.int 0)) (P1 : vs.length = wz.toNatClampNeg) (P2 : n0 ≤ pr0) :
    MetFree l (⟨own_s17, "fill", "([CC)V"⟩ : MethodName) (head1 (Jvm.Cond.code (⟨own_s17, "fill", "([CC)V"⟩ : MethodName) jdk_65_method_107_code 4 none :: ws) ({ frames := 0, cells := 0, slots := 0, locals := 0 } : Room)) (fun a U => a = #[(.ref pr0), (.int pi1)] ∧ Z.Warmed39 U.vm ∧ U.heap = h0) (fun _ _ _ _ _ => True) (fun _ U o U' => ∃ v L, o = .returned v ∧ Q_own_fill Z pr0 pi1 ka wz vs h0 n0 v U'.heap L ∧ FrameEnd U o U' L ({ frames := 0, cells := 0, slots := 0, locals := 0 } : Room).cells ({ frames := 0, cells := 0, slots := 0, locals := 0 } : Room).slots) := by
  refine MetFree.of_bodySF (plainFor_of_name pn_5) hisR ?_
  intro p e s m args below meth c s₁ Bd hml0 hP hK
  obtain ⟨rfl, hZ, hh⟩ := hP
  have hx := Bd.exec
  have hby := Bd.bytes
  have hml : c.maxLocals = 4 := hml0
  have hown : s.vm.findClass own_s17 = some m.cls := findClass_of_methodNamed Bd.named
  have hnm := (name_of_methodNamed Bd.named Bd.method).1
  have X0 : Stand p l e ({ frames := 0, cells := 0, slots := 0, locals := 0 } : Room) s m #[(.ref pr0), (.int pi1)] below meth c s₁ [] 0 0 := Stand.of_body Bd
  have e0 : s₁.heap = h0 := by rw [← hh, Bd.state]; rfl
  have N0 := Fr.nil n0
  have go0 : ∀ t, own_S p e below (s₁.setTop (mkF m 0 #[rv pr0, iv pi1, .unset, .unset] [])) t → Steps p.tables e below (s₁.setTop (entryFrame m #[(.ref pr0), (.int pi1)] 4)) t := fun t k => castTop (ef_own_fill m pr0 pi1) k
  revert go0
  generalize s₁.setTop (entryFrame m #[(.ref pr0), (.int pi1)] 4) = st0
  intro go0
  obtain ⟨cl1, Ar1, q1, S1, N1, H1, G1⟩ := id P0
  obtain ⟨T2, h2, L2, X2, e2, N2, Kc2, Z2, p2_0, st2⟩ := own_fillAll pr0 pi1 wz ka vs X0 hx hZ hw hby hml hown e0 N0 Z0 P0 P1 P2
  have K2 : Keep h0 h2 ([pr0] : List Addr) := (Keep.refl h0 ([pr0] : List Addr)).trans Kc2 (allS (P := fun x => x ∈ ([pr0] : List Addr) ∨ h0.size ≤ x) (Or.inl (List.mem_of_getElem? (i := 0) rfl)) all0)
  have hk3 : ¬ (wz < wz) := Int32.lt_irrefl
  have go4 : ∀ t, own_S p e below (T2.setTop (mkF m 20 #[rv pr0, iv pi1, iv wz, iv wz] [])) t → Steps p.tables e below st0 t := by
    intro t kt
    refine go0 t ?_
    refine XS.iconst X0.here hx rfl (hb hby d4_0) ?_
    show own_S p e below (s₁.setTop (mkF m 1 #[rv pr0, iv pi1, .unset, .unset] [(.int 0)])) _
    refine XS.istoreN X0.here hx rfl (hb hby d4_1) rfl (l' := #[rv pr0, iv pi1, iv 0, .unset]) rfl ?_
    refine XS.aloadN X0.here hx rfl (hb hby d4_2) rfl rfl ?_
    show own_S p e below (s₁.setTop (mkF m 3 #[rv pr0, iv pi1, iv 0, .unset] [(.ref pr0)])) _
    refine X0.arraylength hx (by rw [e0]; exact Ar1.1) (State.isArrayOf_alike hZ.alike Ar1.2.1) (g := (mkF m 3 #[rv pr0, iv pi1, iv 0, .unset] [(.ref pr0)])) rfl rfl (hb hby d4_3) _ ?_
    rw [len_of S1 N1]
    show own_S p e below (s₁.setTop (mkF m 4 #[rv pr0, iv pi1, iv 0, .unset] [(.int wz)])) _
    refine XS.istoreN X0.here hx rfl (hb hby d4_4) rfl (l' := #[rv pr0, iv pi1, iv 0, iv wz]) rfl ?_
    show own_S p e below (s₁.setTop (mkF m 5 #[rv pr0, iv pi1, iv 0, iv wz] [])) _
    refine st2 _ ?_
    refine XS.iloadN X2.here hx rfl (hb hby d4_5) rfl ?_
    refine XS.iloadN X2.here hx rfl (hb hby d4_6) rfl ?_
    show own_S p e below (T2.setTop (mkF m 7 #[rv pr0, iv pi1, iv wz, iv wz] [(.int wz), (.int wz)])) _
    refine XS.icmpYes X2.here hx rfl (pc0 := 7) (pc' := 20) rfl (hb hby d4_7) rfl (flt hk3).2.1 (by decide) (by decide) ?_
    show own_S p e below (T2.setTop (mkF m 20 #[rv pr0, iv pi1, iv wz, iv wz] [])) _
    exact kt
  obtain ⟨fs, hr, hrun, hended, hW, hsame⟩ := X2.leave (v := none) (fun _ => rfl)
  refine ⟨_, _, go4 _ ?_, hrun, hended, _, _, rfl, ?_, ⟨_, rfl⟩, hW, hsame.mono (by decide) (by decide)⟩
  · exact X2.returnOut hx Bd.returns (hb hby d4_20) hr
  · show Q_own_fill Z pr0 pi1 ka wz vs h0 n0 _ T2.heap _
    rw [e2]
    exact ⟨N2, rfl, K2, p2_0⟩
theorem ef_own_vt (m : MethodId) (pr0 : Addr) : entryFrame m #[(.ref pr0)] 1 = mkF m 0 #[rv pr0] [] := by first | (simp [entryFrame, mkF, argsToLocals, Value.category]; done) | rfl
def Q_own_vt (Z : State) (pr0 : Addr)  (h0 : Heap) (n0 : Nat) (v : Option Value) (h : Heap) (L : List Loc) : Prop := Fr n0 L ∧ v = none ∧ Keep h0 h ([pr0] : List Addr) ∧ Exa Z h pr0 own_s0 ∧ Fld Z h pr0 own_s0 "count" own_s1 .null ∧ Fld Z h pr0 own_s0 own_s2 "Z" (.int 0) ∧ Fld Z h pr0 own_s0 "most" "J" (.long 0) ∧ Fld Z h pr0 own_s0 "length" "J" (.long 0) ∧ Fld Z h pr0 own_s0 "past" "Z" (.int 0) ∧ Fld Z h pr0 own_s0 "over" "Z" (.int 0) ∧ Fld Z h pr0 own_s0 "counted" "J" (.long 0) ∧ Fld Z h pr0 own_s0 "phase" own_s4 .null ∧ Fld Z h pr0 own_s0 "run" own_s5 .null ∧ Fld Z h pr0 own_s0 own_s3 "J" (.long 0)
set_option maxRecDepth 65536 in
set_option maxHeartbeats 40000000 in
theorem own_vt (l : Launch) (Z : State) (a0 : Array Value) (hw : ∀ d ∈ tables_1, d.before a0 Z = true) (ws : List Jvm.Cond) (pr0 : Addr)  (h0 : Heap) (n0 : Nat) (Z0 : n0 ≤ h0.size) (P0 : Exa Z h0 pr0 own_s0) (P1 : Fld Z h0 pr0 own_s0 "count" own_s1 .null) (P2 : Fld Z h0 pr0 own_s0 own_s2 "Z" (.int 0)) (P3 : Fld Z h0 pr0 own_s0 "most" "J" (.long 0)) (P4 : Fld Z h0 pr0 own_s0 "length" "J" (.long 0)) (P5 : Fld Z h0 pr0 own_s0 "past" "Z" (.int 0)) (P6 : Fld Z h0 pr0 own_s0 "over" "Z" (.int 0)) (P7 : Fld Z h0 pr0 own_s0 "counted" "J" (.long 0)) (P8 : Fld Z h0 pr0 own_s0 "phase" own_s4 .null) (P9 : Fld Z h0 pr0 own_s0 "run" own_s5 .null) (P10 : Fld Z h0 pr0 own_s0 own_s3 "J" (.long 0)) (P11 : Fld Z h0 pr0 own_s0 "zeros" "[C" .null) (P12 : n0 ≤ pr0) :
    MetFree l (⟨own_s0, "<init>", "()V"⟩ : MethodName) (head1 (Jvm.Cond.code (⟨own_s0, "<init>", "()V"⟩ : MethodName) prog_127_method_1_code 1 none :: ws) ({ frames := 1, cells := 1, slots := 64, locals := 15 } : Room)) (fun a U => a = #[(.ref pr0)] ∧ Z.Warmed39 U.vm ∧ U.heap = h0) (fun _ _ _ _ _ => True) (fun _ U o U' => ∃ v L, o = .returned v ∧ Q_own_vt Z pr0 h0 n0 v U'.heap L ∧ FrameEnd U o U' L ({ frames := 1, cells := 1, slots := 64, locals := 15 } : Room).cells ({ frames := 1, cells := 1, slots := 64, locals := 15 } : Room).slots) := by
  refine MetFree.of_bodySF (plainFor_of_name pn_8) hisR ?_
  intro p e s m args below meth c s₁ Bd hml0 hP hK
  obtain ⟨rfl, hZ, hh⟩ := hP
  have hx := Bd.exec
  have hby := Bd.bytes
  have hml : c.maxLocals = 1 := hml0
  have hown : s.vm.findClass own_s0 = some m.cls := findClass_of_methodNamed Bd.named
  have hnm := (name_of_methodNamed Bd.named Bd.method).1
  have X0 : Stand p l e ({ frames := 1, cells := 1, slots := 64, locals := 15 } : Room) s m #[(.ref pr0)] below meth c s₁ [] 0 0 := Stand.of_body Bd
  have e0 : s₁.heap = h0 := by rw [← hh, Bd.state]; rfl
  have N0 := Fr.nil n0
  have go0 : ∀ t, own_S p e below (s₁.setTop (mkF m 0 #[rv pr0] [])) t → Steps p.tables e below (s₁.setTop (entryFrame m #[(.ref pr0)] 1)) t := fun t k => castTop (ef_own_vt m pr0) k
  revert go0
  generalize s₁.setTop (entryFrame m #[(.ref pr0)] 1) = st0
  intro go0
  obtain ⟨T1, X1, e1, st1⟩ := initO X0 hx hZ hown (own_w hw 18 rfl) (own_w hw 19 rfl) (own_w hw 20 rfl) e0 (g := (mkF m 1 #[rv pr0] [(.ref pr0)])) rfl (by rw [hml]; rfl) rfl (hb hby d6_1) (by decide) (W := 0) (by show 2 * 0 + _ ≤ _; exact Nat.le_of_eq rfl) (by decide)
  obtain ⟨T2, h2, k2, X2, e2, E2, A2, st2⟩ := newP X1 hx hZ (own_w hw 10 rfl) e1 (g := (mkF m 7 #[rv pr0] [(.int 64), (.ref pr0)])) rfl (hb hby d6_7) rfl (by decide) (cap := 64) (by decide) (by decide) (by decide) (by decide)
  obtain ⟨b2, g2⟩ : ∃ zsz, zsz = h0.size := ⟨_, rfl⟩
  rw [← g2] at A2 st2
  have ne2_pr0 : pr0 ≠ b2 := Nat.ne_of_lt (Nat.lt_of_lt_of_eq P0.lt g2.symm)
  have ge2 : n0 ≤ b2 := Nat.le_trans Z0 (Nat.le_of_eq g2.symm)
  have sz2 : h0.size ≤ b2 := Nat.le_trans (Keep.refl h0 ([pr0] : List Addr)).1 (Nat.le_of_eq g2.symm)
  have Z2 : n0 ≤ h2.size := Nat.le_trans Z0 E2.1
  have K2 : Keep h0 h2 ([pr0] : List Addr) := (Keep.refl h0 ([pr0] : List Addr)).ext E2
  have V2 : Arv Z h2 b2 k2 .char (64 : Int32) [(.int 0), (.int 0), (.int 0), (.int 0), (.int 0), (.int 0), (.int 0), (.int 0), (.int 0), (.int 0), (.int 0), (.int 0), (.int 0), (.int 0), (.int 0), (.int 0), (.int 0), (.int 0), (.int 0), (.int 0), (.int 0), (.int 0), (.int 0), (.int 0), (.int 0), (.int 0), (.int 0), (.int 0), (.int 0), (.int 0), (.int 0), (.int 0), (.int 0), (.int 0), (.int 0), (.int 0), (.int 0), (.int 0), (.int 0), (.int 0), (.int 0), (.int 0), (.int 0), (.int 0), (.int 0), (.int 0), (.int 0), (.int 0), (.int 0), (.int 0), (.int 0), (.int 0), (.int 0), (.int 0), (.int 0), (.int 0), (.int 0), (.int 0), (.int 0), (.int 0), (.int 0), (.int 0), (.int 0), (.int 0)] (.int 0) := (Arv.new A2 (by decide)).pad (pad_rep [] (.int 0) 64)
  have f3 := (P11.ext E2)
  have f4 := (P0.ext E2)
  obtain ⟨T5, h5, X5, e5, W5, st5⟩ := putF X2 hx hZ hown (host := "") (Or.inl (own_w hw 21 rfl)) Via.refl e2 f3 f4 (Or.inr ⟨(own_w hw 22 rfl), rfl, hnm⟩) (own_w hw 13 rfl) (ty := (.array .char)) (by decide) rfl rfl (g := (mkF m 9 #[rv pr0] [(.ref b2), (.ref pr0)])) rfl rfl (hb hby d6_9)
  have K5 : Keep h0 h5 ([pr0] : List Addr) := K2.wr W5 (Or.inl (List.mem_of_getElem? (i := 0) rfl))
  have N5 := Fr.snoc X5 N0 P12
  have Z5 : n0 ≤ h5.size := Nat.le_trans Z2 (Keep.of_wr W5).1
  have Fw5 := f3.same W5
  obtain ⟨T6, X6, e6, st6⟩ := getF X5 hx hZ hown (host := "") (Or.inl (own_w hw 21 rfl)) Via.refl e5 Fw5 (g := (mkF m 13 #[rv pr0] [(.ref pr0)])) rfl rfl (hb hby d6_13)
  have f7 : Arv Z h5 b2 k2 .char (64 : Int32) [(.int 0), (.int 0), (.int 0), (.int 0), (.int 0), (.int 0), (.int 0), (.int 0), (.int 0), (.int 0), (.int 0), (.int 0), (.int 0), (.int 0), (.int 0), (.int 0), (.int 0), (.int 0), (.int 0), (.int 0), (.int 0), (.int 0), (.int 0), (.int 0), (.int 0), (.int 0), (.int 0), (.int 0), (.int 0), (.int 0), (.int 0), (.int 0), (.int 0), (.int 0), (.int 0), (.int 0), (.int 0), (.int 0), (.int 0), (.int 0), (.int 0), (.int 0), (.int 0), (.int 0), (.int 0), (.int 0), (.int 0), (.int 0), (.int 0), (.int 0), (.int 0), (.int 0), (.int 0), (.int 0), (.int 0), (.int 0), (.int 0), (.int 0), (.int 0), (.int 0), (.int 0), (.int 0), (.int 0), (.int 0)] (.int 0) := (V2.other W5 (Ne.symm ne2_pr0))
  obtain ⟨_, _, ⟨T8, L8, k8, n8⟩, -, X8, ⟨Lc8, hQ8, l8, y8, z8⟩, st8⟩ := Jvm.LawKit.callS X6 hx (y := (⟨own_s17, "fill", "([CC)V"⟩ : MethodName)) hown (mvT hZ (own_w hw 23 rfl)) (mvT hZ (own_w hw 24 rfl)) (mvT hZ (own_w hw 25 rfl)) (mvT hZ (own_w hw 26 rfl)) (by decide) (backOf (W := 0) (own_fill l Z a0 hw [] b2 (48 : Int32) k2 (64 : Int32) [(.int 0), (.int 0), (.int 0), (.int 0), (.int 0), (.int 0), (.int 0), (.int 0), (.int 0), (.int 0), (.int 0), (.int 0), (.int 0), (.int 0), (.int 0), (.int 0), (.int 0), (.int 0), (.int 0), (.int 0), (.int 0), (.int 0), (.int 0), (.int 0), (.int 0), (.int 0), (.int 0), (.int 0), (.int 0), (.int 0), (.int 0), (.int 0), (.int 0), (.int 0), (.int 0), (.int 0), (.int 0), (.int 0), (.int 0), (.int 0), (.int 0), (.int 0), (.int 0), (.int 0), (.int 0), (.int 0), (.int 0), (.int 0), (.int 0), (.int 0), (.int 0), (.int 0), (.int 0), (.int 0), (.int 0), (.int 0), (.int 0), (.int 0), (.int 0), (.int 0), (.int 0), (.int 0), (.int 0), (.int 0)] h5 n0 Z5 f7 rfl ge2) hZ (own_w hw 26 rfl) (own_w hw 25 rfl) (by decide) (by decide)) (g := (mkF m 18 #[rv pr0] [(.int 48), (.ref b2)])) rfl (by rw [hml]; rfl) (argsL := [(.ref b2), (.int 48)]) (rest := []) (lenOf pd_7 rfl) rfl (by show 2 * 0 + _ ≤ _; exact Nat.le_of_eq rfl) (hb hby d6_18) (fun _ _ => ⟨rfl, e6, (by decide : 1 + 0 ≤ _), (by decide : 64 + 0 ≤ _)⟩)
  dsimp only [Pt.U, Pt.locs, Pt.cells, Pt.slots] at X8 l8 y8 z8 st8 hQ8
  subst l8 y8 z8
  obtain ⟨Nq8, rfl, Kc8, p8_0⟩ := hQ8
  have N8 := Fr.app N5 Nq8
  have K8 : Keep h0 T8.heap ([pr0] : List Addr) := K5.trans Kc8 (allS (P := fun x => x ∈ ([pr0] : List Addr) ∨ h0.size ≤ x) (Or.inr sz2) all0)
  have Z8 : n0 ≤ T8.heap.size := Nat.le_trans Z5 Kc8.1
  have go9 : ∀ t, own_S p e below (T8.setTop (mkF m 21 #[rv pr0] [])) t → Steps p.tables e below st0 t := by
    intro t kt
    refine go0 t ?_
    refine XS.aloadN X0.here hx rfl (hb hby d6_0) rfl rfl ?_
    show own_S p e below (s₁.setTop (mkF m 1 #[rv pr0] [(.ref pr0)])) _
    refine st1 _ ?_
    refine XS.aloadN X1.here hx rfl (hb hby d6_4) rfl rfl ?_
    refine XS.bipush X1.here hx rfl (hb hby d6_5) ?_
    show own_S p e below (T1.setTop (mkF m 7 #[rv pr0] [(.int 64), (.ref pr0)])) _
    refine st2 _ ?_
    show own_S p e below (T2.setTop (mkF m 9 #[rv pr0] [(.ref b2), (.ref pr0)])) _
    refine st5 _ ?_
    refine XS.aloadN X5.here hx rfl (hb hby d6_12) rfl rfl ?_
    show own_S p e below (T5.setTop (mkF m 13 #[rv pr0] [(.ref pr0)])) _
    refine st6 _ ?_
    refine XS.bipush X6.here hx rfl (hb hby d6_16) ?_
    show own_S p e below (T6.setTop (mkF m 18 #[rv pr0] [(.int 48), (.ref b2)])) _
    refine st8 _ ?_
    show own_S p e below (T8.setTop (mkF m 21 #[rv pr0] [])) _
    exact kt
  obtain ⟨fs, hr, hrun, hended, hW, hsame⟩ := X8.leave (v := none) (fun _ => rfl)
  refine ⟨_, _, go9 _ ?_, hrun, hended, _, _, rfl, ?_, ⟨_, rfl⟩, hW, hsame.mono (by decide) (by decide)⟩
  · exact X8.returnOut hx Bd.returns (hb hby d6_21) hr
  · show Q_own_vt Z pr0 h0 n0 _ T8.heap _
    have f10 := ((f4.wr W5).keep Kc8)
    have f11 := (((P1.ext E2).other W5 (Or.inr (own_sn0 hw))).keep Kc8 (ninS ne2_pr0 nin0))
    have f12 : Fld Z T8.heap pr0 own_s0 own_s2 "Z" (.int 0) := (((P2.ext E2).other W5 (Or.inr (own_sn1 hw))).keep Kc8 (ninS ne2_pr0 nin0))
    have f13 : Fld Z T8.heap pr0 own_s0 "most" "J" (.long 0) := (((P3.ext E2).other W5 (Or.inr (own_sn2 hw))).keep Kc8 (ninS ne2_pr0 nin0))
    have f14 : Fld Z T8.heap pr0 own_s0 "length" "J" (.long 0) := (((P4.ext E2).other W5 (Or.inr (own_sn3 hw))).keep Kc8 (ninS ne2_pr0 nin0))
    have f15 : Fld Z T8.heap pr0 own_s0 "past" "Z" (.int 0) := (((P5.ext E2).other W5 (Or.inr (own_sn4 hw))).keep Kc8 (ninS ne2_pr0 nin0))
    have f16 : Fld Z T8.heap pr0 own_s0 "over" "Z" (.int 0) := (((P6.ext E2).other W5 (Or.inr (own_sn5 hw))).keep Kc8 (ninS ne2_pr0 nin0))
    have f17 : Fld Z T8.heap pr0 own_s0 "counted" "J" (.long 0) := (((P7.ext E2).other W5 (Or.inr (own_sn6 hw))).keep Kc8 (ninS ne2_pr0 nin0))
    have f18 := (((P8.ext E2).other W5 (Or.inr (own_sn7 hw))).keep Kc8 (ninS ne2_pr0 nin0))
    have f19 := (((P9.ext E2).other W5 (Or.inr (own_sn8 hw))).keep Kc8 (ninS ne2_pr0 nin0))
    have f20 : Fld Z T8.heap pr0 own_s0 own_s3 "J" (.long 0) := (((P10.ext E2).other W5 (Or.inr (own_sn9 hw))).keep Kc8 (ninS ne2_pr0 nin0))
    exact ⟨N8, rfl, K8, f10, f11, f12, f13, f14, f15, f16, f17, f18, f19, f20⟩
theorem ef_own_lim (m : MethodId) (pr0 : Addr) (pr1 : Addr) (pj2 : Int64) (pi3 : Int32) : entryFrame m #[(.ref pr0), (.ref pr1), (.long pj2), (.int pi3)] 5 = mkF m 0 #[rv pr0, rv pr1, .val (.long pj2), .second, iv pi3] [] := by first | (simp [entryFrame, mkF, argsToLocals, Value.category]; done) | rfl
def Q_own_lim (Z : State) (pr0 : Addr) (pr1 : Addr) (pj2 : Int64) (pi3 : Int32)  (h0 : Heap) (n0 : Nat) (v : Option Value) (h : Heap) (L : List Loc) : Prop := Fr n0 L ∧ v = none ∧ Keep h0 h ([pr0] : List Addr) ∧ Exa Z h pr0 own_s6 ∧ Fld Z h pr0 own_s6 "count" own_s1 (.ref pr1) ∧ Fld Z h pr0 own_s6 own_s2 "Z" (.int (nar .boolean pi3))
set_option maxRecDepth 65536 in
set_option maxHeartbeats 40000000 in
theorem own_lim (l : Launch) (Z : State) (a0 : Array Value) (hw : ∀ d ∈ tables_1, d.before a0 Z = true) (ws : List Jvm.Cond) (pr0 : Addr) (pr1 : Addr) (pj2 : Int64) (pi3 : Int32)  (h0 : Heap) (n0 : Nat) (Z0 : n0 ≤ h0.size) (P0 : Exa Z h0 pr0 own_s6) (P1 : Fld Z h0 pr0 own_s6 "count" own_s1 .null) (P2 : Fld Z h0 pr0 own_s6 "most" "J" (.long 0)) (P3 : Fld Z h0 pr0 own_s6 own_s2 "Z" (.int 0)) (P4 : n0 ≤ pr0) :
    MetFree l (⟨own_s6, "<init>", "(Lcom/example/corsia/corsia/engine/ValueLengths$Count;JZ)V"⟩ : MethodName) (head1 (Jvm.Cond.code (⟨own_s6, "<init>", "(Lcom/example/corsia/corsia/engine/ValueLengths$Count;JZ)V"⟩ : MethodName) prog_124_method_1_code 5 none :: ws) ({ frames := 2, cells := 0, slots := 0, locals := 24 } : Room)) (fun a U => a = #[(.ref pr0), (.ref pr1), (.long pj2), (.int pi3)] ∧ Z.Warmed39 U.vm ∧ U.heap = h0) (fun _ _ _ _ _ => True) (fun _ U o U' => ∃ v L, o = .returned v ∧ Q_own_lim Z pr0 pr1 pj2 pi3 h0 n0 v U'.heap L ∧ FrameEnd U o U' L ({ frames := 2, cells := 0, slots := 0, locals := 24 } : Room).cells ({ frames := 2, cells := 0, slots := 0, locals := 24 } : Room).slots) := by
  refine MetFree.of_bodySF (plainFor_of_name pn_11) hisR ?_
  intro p e s m args below meth c s₁ Bd hml0 hP hK
  obtain ⟨rfl, hZ, hh⟩ := hP
  have hx := Bd.exec
  have hby := Bd.bytes
  have hml : c.maxLocals = 5 := hml0
  have hown : s.vm.findClass own_s6 = some m.cls := findClass_of_methodNamed Bd.named
  have hnm := (name_of_methodNamed Bd.named Bd.method).1
  have X0 : Stand p l e ({ frames := 2, cells := 0, slots := 0, locals := 24 } : Room) s m #[(.ref pr0), (.ref pr1), (.long pj2), (.int pi3)] below meth c s₁ [] 0 0 := Stand.of_body Bd
  have e0 : s₁.heap = h0 := by rw [← hh, Bd.state]; rfl
  have N0 := Fr.nil n0
  have go0 : ∀ t, own_S p e below (s₁.setTop (mkF m 0 #[rv pr0, rv pr1, .val (.long pj2), .second, iv pi3] [])) t → Steps p.tables e below (s₁.setTop (entryFrame m #[(.ref pr0), (.ref pr1), (.long pj2), (.int pi3)] 5)) t := fun t k => castTop (ef_own_lim m pr0 pr1 pj2 pi3) k
  revert go0
  generalize s₁.setTop (entryFrame m #[(.ref pr0), (.ref pr1), (.long pj2), (.int pi3)] 5) = st0
  intro go0
  obtain ⟨_, _, ⟨T1, L1, k1, n1⟩, -, X1, ⟨Lc1, hQ1, l1, y1, z1⟩, st1⟩ := X0.specialBack hx (y := (⟨own_s19, "<init>", "()V"⟩ : MethodName)) rfl hown (mvT hZ (own_w hw 33 rfl)) (mvT hZ (own_w hw 34 rfl)) (mvT hZ (own_w hw 37 rfl)) (by decide) (backOf (W := 0) (own_rec l Z a0 hw [] pr0 h0 n0 Z0 ) hZ (own_w hw 37 rfl) (own_w hw 36 rfl) (by decide) (by decide)) (g := (mkF m 1 #[rv pr0, rv pr1, .val (.long pj2), .second, iv pi3] [(.ref pr0)])) rfl (by rw [hml]; rfl) (Steps.refl _) (a := pr0) (argsL := []) (rest := []) (lenOf pd_10 rfl) rfl (by show 2 * 0 + _ ≤ _; exact Nat.le_of_eq rfl) (hb hby d9_1) (fun _ _ => ⟨rfl, e0, (by decide : 0 + 0 ≤ _), (by decide : 0 + 0 ≤ _)⟩)
  dsimp only [Pt.U, Pt.locs, Pt.cells, Pt.slots] at X1 l1 y1 z1 st1 hQ1
  subst l1 y1 z1
  obtain ⟨rfl, Nq1, e1⟩ := hQ1
  have N1 := Fr.app N0 Nq1
  obtain ⟨T2, h2, X2, e2, W2, st2⟩ := putF X1 hx hZ hown (host := "") (Or.inl (own_w hw 39 rfl)) Via.refl e1 P1 P0 (Or.inr ⟨(own_w hw 40 rfl), rfl, hnm⟩) (own_w hw 28 rfl) (ty := (.object own_s7)) (by decide) rfl rfl (g := (mkF m 6 #[rv pr0, rv pr1, .val (.long pj2), .second, iv pi3] [(.ref pr1), (.ref pr0)])) rfl rfl (hb hby d9_6)
  have K2 : Keep h0 h2 ([pr0] : List Addr) := (Keep.refl h0 ([pr0] : List Addr)).wr W2 (Or.inl (List.mem_of_getElem? (i := 0) rfl))
  have N2 := Fr.snoc X2 N1 P4
  have Z2 : n0 ≤ h2.size := Nat.le_trans Z0 (Keep.of_wr W2).1
  have Fw2 := P1.same W2
  have f3 : Fld Z h2 pr0 own_s6 "most" "J" (.long 0) := (P2.other W2 (Or.inr (own_sn10 hw)))
  have f4 := (P0.wr W2)
  obtain ⟨T5, h5, X5, e5, W5, st5⟩ := putF X2 hx hZ hown (host := "") (Or.inl (own_w hw 41 rfl)) Via.refl e2 f3 f4 (Or.inr ⟨(own_w hw 42 rfl), rfl, hnm⟩) (own_w hw 28 rfl) (ty := .long) (by decide) rfl rfl (g := (mkF m 11 #[rv pr0, rv pr1, .val (.long pj2), .second, iv pi3] [(.long pj2), (.ref pr0)])) rfl rfl (hb hby d9_11)
  have K5 : Keep h0 h5 ([pr0] : List Addr) := K2.wr W5 (Or.inl (List.mem_of_getElem? (i := 0) rfl))
  have N5 := Fr.snoc X5 N2 P4
  have Z5 : n0 ≤ h5.size := Nat.le_trans Z2 (Keep.of_wr W5).1
  have Fw5 := f3.same W5
  have f6 : Fld Z h5 pr0 own_s6 own_s2 "Z" (.int 0) := ((P3.other W2 (Or.inr (own_sn11 hw))).other W5 (Or.inr (own_sn12 hw)))
  have f7 := (f4.wr W5)
  obtain ⟨T8, h8, X8, e8, W8, st8⟩ := putFN X5 hx hZ hown (own_w hw 43 rfl) Via.refl e5 f6 f7 (Or.inr ⟨(own_w hw 44 rfl), rfl, hnm⟩) (own_w hw 28 rfl) (ty := .boolean) (v' := (.int (nar .boolean pi3))) (by decide) rfl (fits_nar_bool _) (g := (mkF m 17 #[rv pr0, rv pr1, .val (.long pj2), .second, iv pi3] [(.int pi3), (.ref pr0)])) rfl rfl (hb hby d9_17)
  have K8 : Keep h0 h8 ([pr0] : List Addr) := K5.wr W8 (Or.inl (List.mem_of_getElem? (i := 0) rfl))
  have N8 := Fr.snoc X8 N5 P4
  have Z8 : n0 ≤ h8.size := Nat.le_trans Z5 (Keep.of_wr W8).1
  have Fw8 := f6.same W8
  have go9 : ∀ t, own_S p e below (T8.setTop (mkF m 20 #[rv pr0, rv pr1, .val (.long pj2), .second, iv pi3] [])) t → Steps p.tables e below st0 t := by
    intro t kt
    refine go0 t ?_
    refine XS.aloadN X0.here hx rfl (hb hby d9_0) rfl rfl ?_
    show own_S p e below (s₁.setTop (mkF m 1 #[rv pr0, rv pr1, .val (.long pj2), .second, iv pi3] [(.ref pr0)])) _
    refine st1.trans ?_
    refine XS.aloadN X1.here hx rfl (hb hby d9_4) rfl rfl ?_
    refine XS.aloadN X1.here hx rfl (hb hby d9_5) rfl rfl ?_
    show own_S p e below (T1.setTop (mkF m 6 #[rv pr0, rv pr1, .val (.long pj2), .second, iv pi3] [(.ref pr1), (.ref pr0)])) _
    refine st2 _ ?_
    refine XS.aloadN X2.here hx rfl (hb hby d9_9) rfl rfl ?_
    refine XS.lloadN X2.here hx rfl (hb hby d9_10) rfl ?_
    show own_S p e below (T2.setTop (mkF m 11 #[rv pr0, rv pr1, .val (.long pj2), .second, iv pi3] [(.long pj2), (.ref pr0)])) _
    refine st5 _ ?_
    refine XS.aloadN X5.here hx rfl (hb hby d9_14) rfl rfl ?_
    refine XS.iload X5.here hx rfl (hb hby d9_15) rfl ?_
    show own_S p e below (T5.setTop (mkF m 17 #[rv pr0, rv pr1, .val (.long pj2), .second, iv pi3] [(.int pi3), (.ref pr0)])) _
    refine st8 _ ?_
    show own_S p e below (T8.setTop (mkF m 20 #[rv pr0, rv pr1, .val (.long pj2), .second, iv pi3] [])) _
    exact kt
  obtain ⟨fs, hr, hrun, hended, hW, hsame⟩ := X8.leave (v := none) (fun _ => rfl)
  refine ⟨_, _, go9 _ ?_, hrun, hended, _, _, rfl, ?_, ⟨_, rfl⟩, hW, hsame.mono (by decide) (by decide)⟩
  · exact X8.returnOut hx Bd.returns (hb hby d9_20) hr
  · show Q_own_lim Z pr0 pr1 pj2 pi3 h0 n0 _ T8.heap _
    rw [e8]
    have f10 := (f7.wr W8)
    have f11 := ((Fw2.other W5 (Or.inr (own_sn13 hw))).other W8 (Or.inr (own_sn14 hw)))
    exact ⟨N8, rfl, K8, f10, f11, Fw8⟩
theorem ef_own_limC (m : MethodId) (pr0 : Addr) : entryFrame m #[(.ref pr0)] 1 = mkF m 0 #[rv pr0] [] := by first | (simp [entryFrame, mkF, argsToLocals, Value.category]; done) | rfl
def Q_own_limC (Z : State) (pr0 : Addr) (ct : Addr) (h0 : Heap) (n0 : Nat) (v : Option Value) (h : Heap) (L : List Loc) : Prop := v = some (.ref ct) ∧ Fr n0 L ∧ h = h0
set_option maxRecDepth 65536 in
set_option maxHeartbeats 40000000 in
theorem own_limC (l : Launch) (Z : State) (a0 : Array Value) (hw : ∀ d ∈ tables_1, d.before a0 Z = true) (ws : List Jvm.Cond) (pr0 : Addr) (ct : Addr) (h0 : Heap) (n0 : Nat) (Z0 : n0 ≤ h0.size) (P0 : Fld Z h0 pr0 own_s6 "count" own_s1 (.ref ct)) :
    MetFree l (⟨own_s6, "count", own_s20⟩ : MethodName) (head1 (Jvm.Cond.code (⟨own_s6, "count", own_s20⟩ : MethodName) prog_124_method_5_code 1 (some (.object own_s7)) :: ws) ({ frames := 0, cells := 0, slots := 0, locals := 0 } : Room)) (fun a U => a = #[(.ref pr0)] ∧ Z.Warmed39 U.vm ∧ U.heap = h0) (fun _ _ _ _ _ => True) (fun _ U o U' => ∃ v L, o = .returned v ∧ Q_own_limC Z pr0 ct h0 n0 v U'.heap L ∧ FrameEnd U o U' L ({ frames := 0, cells := 0, slots := 0, locals := 0 } : Room).cells ({ frames := 0, cells := 0, slots := 0, locals := 0 } : Room).slots) := by
  refine MetFree.of_bodySF (plainFor_of_name pn_11) hisR ?_
  intro p e s m args below meth c s₁ Bd hml0 hP hK
  obtain ⟨rfl, hZ, hh⟩ := hP
  have hx := Bd.exec
  have hby := Bd.bytes
  have hml : c.maxLocals = 1 := hml0
  have hown : s.vm.findClass own_s6 = some m.cls := findClass_of_methodNamed Bd.named
  have hnm := (name_of_methodNamed Bd.named Bd.method).1
  have X0 : Stand p l e ({ frames := 0, cells := 0, slots := 0, locals := 0 } : Room) s m #[(.ref pr0)] below meth c s₁ [] 0 0 := Stand.of_body Bd
  have e0 : s₁.heap = h0 := by rw [← hh, Bd.state]; rfl
  have N0 := Fr.nil n0
  have go0 : ∀ t, own_S p e below (s₁.setTop (mkF m 0 #[rv pr0] [])) t → Steps p.tables e below (s₁.setTop (entryFrame m #[(.ref pr0)] 1)) t := fun t k => castTop (ef_own_limC m pr0) k
  revert go0
  generalize s₁.setTop (entryFrame m #[(.ref pr0)] 1) = st0
  intro go0
  obtain ⟨T1, X1, e1, st1⟩ := getF X0 hx hZ hown (host := "") (Or.inl (own_w hw 39 rfl)) Via.refl e0 P0 (g := (mkF m 1 #[rv pr0] [(.ref pr0)])) rfl rfl (hb hby d12_1)
  have go2 : ∀ t, own_S p e below (T1.setTop (mkF m 4 #[rv pr0] [(.ref ct)])) t → Steps p.tables e below st0 t := by
    intro t kt
    refine go0 t ?_
    refine XS.aloadN X0.here hx rfl (hb hby d12_0) rfl rfl ?_
    show own_S p e below (s₁.setTop (mkF m 1 #[rv pr0] [(.ref pr0)])) _
    refine st1 _ ?_
    show own_S p e below (T1.setTop (mkF m 4 #[rv pr0] [(.ref ct)])) _
    exact kt
  obtain ⟨fs, hr, hrun, hended, hW, hsame⟩ := X1.leave (v := some (.ref ct)) (fun h => by rw [Bd.returns] at h; cases h)
  refine ⟨_, _, go2 _ ?_, hrun, hended, _, _, rfl, ?_, ⟨_, rfl⟩, hW, hsame.mono (by decide) (by decide)⟩
  · jvm_step X1.here [X1.here.top, hx, (hb hby d12_4), X1.method', Bd.returns, Value.isRef, FieldType.isReference]
    first | (intro acts; rw [hr _ acts rfl rfl rfl]) | rw [hr _ _ rfl rfl rfl]
    exact Steps.refl _
  · show Q_own_limC Z pr0 ct h0 n0 _ T1.heap _
    rw [e1]
    exact ⟨rfl, N0, rfl⟩
theorem ef_own_limZ (m : MethodId) (pr0 : Addr) : entryFrame m #[(.ref pr0)] 1 = mkF m 0 #[rv pr0] [] := by first | (simp [entryFrame, mkF, argsToLocals, Value.category]; done) | rfl
def Q_own_limZ (Z : State) (pr0 : Addr) (wz : Int32) (h0 : Heap) (n0 : Nat) (v : Option Value) (h : Heap) (L : List Loc) : Prop := v = some (.int (nar .boolean wz)) ∧ Fr n0 L ∧ h = h0
set_option maxRecDepth 65536 in
set_option maxHeartbeats 40000000 in
theorem own_limZ (l : Launch) (Z : State) (a0 : Array Value) (hw : ∀ d ∈ tables_1, d.before a0 Z = true) (ws : List Jvm.Cond) (pr0 : Addr) (wz : Int32) (h0 : Heap) (n0 : Nat) (Z0 : n0 ≤ h0.size) (P0 : Fld Z h0 pr0 own_s6 own_s2 "Z" (.int wz)) :
    MetFree l (⟨own_s6, own_s2, "()Z"⟩ : MethodName) (head1 (Jvm.Cond.code (⟨own_s6, own_s2, "()Z"⟩ : MethodName) prog_124_method_7_code 1 (some .boolean) :: ws) ({ frames := 0, cells := 0, slots := 0, locals := 0 } : Room)) (fun a U => a = #[(.ref pr0)] ∧ Z.Warmed39 U.vm ∧ U.heap = h0) (fun _ _ _ _ _ => True) (fun _ U o U' => ∃ v L, o = .returned v ∧ Q_own_limZ Z pr0 wz h0 n0 v U'.heap L ∧ FrameEnd U o U' L ({ frames := 0, cells := 0, slots := 0, locals := 0 } : Room).cells ({ frames := 0, cells := 0, slots := 0, locals := 0 } : Room).slots) := by
  refine MetFree.of_bodySF (plainFor_of_name pn_11) hisR ?_
  intro p e s m args below meth c s₁ Bd hml0 hP hK
  obtain ⟨rfl, hZ, hh⟩ := hP
  have hx := Bd.exec
  have hby := Bd.bytes
  have hml : c.maxLocals = 1 := hml0
  have hown : s.vm.findClass own_s6 = some m.cls := findClass_of_methodNamed Bd.named
  have hnm := (name_of_methodNamed Bd.named Bd.method).1
  have X0 : Stand p l e ({ frames := 0, cells := 0, slots := 0, locals := 0 } : Room) s m #[(.ref pr0)] below meth c s₁ [] 0 0 := Stand.of_body Bd
  have e0 : s₁.heap = h0 := by rw [← hh, Bd.state]; rfl
  have N0 := Fr.nil n0
  have go0 : ∀ t, own_S p e below (s₁.setTop (mkF m 0 #[rv pr0] [])) t → Steps p.tables e below (s₁.setTop (entryFrame m #[(.ref pr0)] 1)) t := fun t k => castTop (ef_own_limZ m pr0) k
  revert go0
  generalize s₁.setTop (entryFrame m #[(.ref pr0)] 1) = st0
  intro go0
  obtain ⟨T1, X1, e1, st1⟩ := getF X0 hx hZ hown (host := "") (Or.inl (own_w hw 43 rfl)) Via.refl e0 P0 (g := (mkF m 1 #[rv pr0] [(.ref pr0)])) rfl rfl (hb hby d13_1)
  have go2 : ∀ t, own_S p e below (T1.setTop (mkF m 4 #[rv pr0] [(.int wz)])) t → Steps p.tables e below st0 t := by
    intro t kt
    refine go0 t ?_
    refine XS.aloadN X0.here hx rfl (hb hby d13_0) rfl rfl ?_
    show own_S p e below (s₁.setTop (mkF m 1 #[rv pr0] [(.ref pr0)])) _
    refine st1 _ ?_
    show own_S p e below (T1.setTop (mkF m 4 #[rv pr0] [(.int wz)])) _
    exact kt
  obtain ⟨fs, hr, hrun, hended, hW, hsame⟩ := X1.leave (v := some (.int (nar .boolean wz))) (fun h => by rw [Bd.returns] at h; cases h)
  refine ⟨_, _, go2 _ ?_, hrun, hended, _, _, rfl, ?_, ⟨_, rfl⟩, hW, hsame.mono (by decide) (by decide)⟩
  · exact retN X1 hx (t := .boolean) Bd.returns (by simp) (hb hby d13_4) hr
  · show Q_own_limZ Z pr0 wz h0 n0 _ T1.heap _
    rw [e1]
    exact ⟨rfl, N0, rfl⟩
theorem ef_own_start (m : MethodId) (pr0 : Addr) (pr1 : Addr) (pj2 : Int64) : entryFrame m #[(.ref pr0), (.ref pr1), (.long pj2)] 4 = mkF m 0 #[rv pr0, rv pr1, .val (.long pj2), .second] [] := by first | (simp [entryFrame, mkF, argsToLocals, Value.category]; done) | rfl
def Q_own_start (Z : State) (pr0 : Addr) (pr1 : Addr) (pj2 : Int64) (ev : Addr) (ns : Addr) (sg : Addr) (phS : Addr) (phF : Addr) (phA : Addr) (phD : Addr) (co : Addr) (ct : Addr) (wz : Int32) (u_10 : Value) (u_11 : Value) (u_12 : Value) (u_13 : Value) (u_14 : Value) (u_15 : Value) (u_16 : Value) (u_17 : Value) (u_18 : Value) (u_19 : Value) (h0 : Heap) (n0 : Nat) (v : Option Value) (h : Heap) (L : List Loc) : Prop := Fr n0 L ∧ v = none ∧ Keep h0 h ([pr0] : List Addr) ∧ Exa Z h pr0 own_s0 ∧ Fld Z h pr0 own_s0 "count" own_s1 (.ref ct) ∧ Fld Z h pr0 own_s0 own_s2 "Z" (.int (nar .boolean (nar .boolean wz))) ∧ Fld Z h pr0 own_s0 "most" "J" (.long pj2) ∧ Fld Z h pr0 own_s0 "length" "J" (.long 0) ∧ Fld Z h pr0 own_s0 "past" "Z" (.int 0) ∧ Fld Z h pr0 own_s0 "over" "Z" (.int 0) ∧ Fld Z h pr0 own_s0 "counted" "J" (.long 0) ∧ Fld Z h pr0 own_s0 "phase" own_s4 (.ref phS) ∧ Fld Z h pr0 own_s0 "run" own_s5 .null ∧ Fld Z h pr0 own_s0 own_s3 "J" (.long 0)
set_option maxRecDepth 65536 in
set_option maxHeartbeats 40000000 in
theorem own_start (l : Launch) (Z : State) (a0 : Array Value) (hw : ∀ d ∈ tables_1, d.before a0 Z = true) (ws : List Jvm.Cond) (pr0 : Addr) (pr1 : Addr) (pj2 : Int64) (ev : Addr) (ns : Addr) (sg : Addr) (phS : Addr) (phF : Addr) (phA : Addr) (phD : Addr) (co : Addr) (ct : Addr) (wz : Int32) (u_10 : Value) (u_11 : Value) (u_12 : Value) (u_13 : Value) (u_14 : Value) (u_15 : Value) (u_16 : Value) (u_17 : Value) (u_18 : Value) (u_19 : Value) (h0 : Heap) (n0 : Nat) (Z0 : n0 ≤ h0.size) (P0 : Exa Z h0 pr0 own_s0) (P1 : Exa Z h0 pr1 own_s6) (P2 : Fld Z h0 pr1 own_s6 "count" own_s1 (.ref ct)) (P3 : Fld Z h0 pr1 own_s6 own_s2 "Z" (.int wz)) (P4 : own_ST Z h0 ev ns sg phS phF phA phD co) (P5 : pr1 ≠ pr0) (P6 : Fld Z h0 pr0 own_s0 "count" own_s1 u_10) (P7 : n0 ≤ pr0) (P8 : Fld Z h0 pr0 own_s0 own_s2 "Z" u_11) (P9 : Fld Z h0 pr0 own_s0 "most" "J" u_12) (P10 : Fld Z h0 pr0 own_s0 "length" "J" u_13) (P11 : Fld Z h0 pr0 own_s0 "past" "Z" u_14) (P12 : Fld Z h0 pr0 own_s0 "over" "Z" u_15) (P13 : Fld Z h0 pr0 own_s0 "counted" "J" u_16) (P14 : Fld Z h0 pr0 own_s0 "phase" own_s4 u_17) (P15 : Fld Z h0 pr0 own_s0 "run" own_s5 u_18) (P16 : Fld Z h0 pr0 own_s0 own_s3 "J" u_19) :
    MetFree l (⟨own_s0, "start", own_s16⟩ : MethodName) (head1 (Jvm.Cond.code (⟨own_s0, "start", own_s16⟩ : MethodName) prog_127_method_2_code 4 none :: ws) ({ frames := 1, cells := 0, slots := 0, locals := 13 } : Room)) (fun a U => a = #[(.ref pr0), (.ref pr1), (.long pj2)] ∧ Z.Warmed39 U.vm ∧ U.heap = h0) (fun _ _ _ _ _ => True) (fun _ U o U' => ∃ v L, o = .returned v ∧ Q_own_start Z pr0 pr1 pj2 ev ns sg phS phF phA phD co ct wz u_10 u_11 u_12 u_13 u_14 u_15 u_16 u_17 u_18 u_19 h0 n0 v U'.heap L ∧ FrameEnd U o U' L ({ frames := 1, cells := 0, slots := 0, locals := 13 } : Room).cells ({ frames := 1, cells := 0, slots := 0, locals := 13 } : Room).slots) := by
  refine MetFree.of_bodySF (plainFor_of_name pn_8) hisR ?_
  intro p e s m args below meth c s₁ Bd hml0 hP hK
  obtain ⟨rfl, hZ, hh⟩ := hP
  have hx := Bd.exec
  have hby := Bd.bytes
  have hml : c.maxLocals = 4 := hml0
  have hown : s.vm.findClass own_s0 = some m.cls := findClass_of_methodNamed Bd.named
  have hnm := (name_of_methodNamed Bd.named Bd.method).1
  have X0 : Stand p l e ({ frames := 1, cells := 0, slots := 0, locals := 13 } : Room) s m #[(.ref pr0), (.ref pr1), (.long pj2)] below meth c s₁ [] 0 0 := Stand.of_body Bd
  have e0 : s₁.heap = h0 := by rw [← hh, Bd.state]; rfl
  have N0 := Fr.nil n0
  have go0 : ∀ t, own_S p e below (s₁.setTop (mkF m 0 #[rv pr0, rv pr1, .val (.long pj2), .second] [])) t → Steps p.tables e below (s₁.setTop (entryFrame m #[(.ref pr0), (.ref pr1), (.long pj2)] 4)) t := fun t k => castTop (ef_own_start m pr0 pr1 pj2) k
  revert go0
  generalize s₁.setTop (entryFrame m #[(.ref pr0), (.ref pr1), (.long pj2)] 4) = st0
  intro go0
  obtain ⟨cq1, kq1, q1a, q1b, q1c⟩ := isOf hZ e0 P1
  obtain ⟨_, _, ⟨T1, L1, k1, n1⟩, -, X1, ⟨Lc1, hQ1, l1, y1, z1⟩, st1⟩ := X0.virtualBack hx (y := (⟨own_s6, "count", own_s20⟩ : MethodName)) (z := (⟨own_s6, "count", own_s20⟩ : MethodName)) hown (mvT hZ (own_w hw 50 rfl)) (mvT hZ (own_w hw 51 rfl)) (notFace_of_selects (args := #[]) (mvT hZ (own_w hw 53 rfl))) (mvT hZ (own_w hw 53 rfl)) (mvT hZ (own_w hw 52 rfl)) (by decide) (backOf (W := 1) (own_limC l Z a0 hw [] pr1 ct h0 n0 Z0 P2) hZ (own_w hw 54 rfl) (own_w hw 29 rfl) (by decide) (by decide)) q1a q1c (g := (mkF m 2 #[rv pr0, rv pr1, .val (.long pj2), .second] [(.ref pr1), (.ref pr0)])) rfl (by rw [hml]; rfl) (Steps.refl _) (argsL := []) (rest := [(.ref pr0)]) (lenOf pd_15 rfl) rfl (by show 2 * 0 + _ ≤ _; exact Nat.le_of_eq rfl) (hb hby d14_2) (fun _ _ => ⟨rfl, e0, (by decide : 0 + 0 ≤ _), (by decide : 0 + 0 ≤ _)⟩)
  dsimp only [Pt.U, Pt.locs, Pt.cells, Pt.slots] at X1 l1 y1 z1 st1 hQ1
  subst l1 y1 z1
  obtain ⟨rfl, Nq1, e1⟩ := hQ1
  have N1 := Fr.app N0 Nq1
  obtain ⟨T2, h2, X2, e2, W2, st2⟩ := putF X1 hx hZ hown (host := "") (Or.inl (own_w hw 55 rfl)) Via.refl e1 P6 P0 (Or.inl (own_w hw 56 rfl)) (own_w hw 13 rfl) (ty := (.object own_s7)) (by decide) rfl rfl (g := (mkF m 5 #[rv pr0, rv pr1, .val (.long pj2), .second] [(.ref ct), (.ref pr0)])) rfl rfl (hb hby d14_5)
  have K2 : Keep h0 h2 ([pr0] : List Addr) := (Keep.refl h0 ([pr0] : List Addr)).wr W2 (Or.inl (List.mem_of_getElem? (i := 0) rfl))
  have N2 := Fr.snoc X2 N1 P7
  have Z2 : n0 ≤ h2.size := Nat.le_trans Z0 (Keep.of_wr W2).1
  have Fw2 := P6.same W2
  have f3 := (P3.other W2 (Or.inl P5))
  have f5 := (P1.wr W2)
  obtain ⟨cq4, kq4, q4a, q4b, q4c⟩ := isOf hZ e2 f5
  obtain ⟨_, _, ⟨T4, L4, k4, n4⟩, -, X4, ⟨Lc4, hQ4, l4, y4, z4⟩, st4⟩ := X2.virtualBack hx (y := (⟨own_s6, own_s2, "()Z"⟩ : MethodName)) (z := (⟨own_s6, own_s2, "()Z"⟩ : MethodName)) hown (mvT hZ (own_w hw 57 rfl)) (mvT hZ (own_w hw 58 rfl)) (notFace_of_selects (args := #[]) (mvT hZ (own_w hw 60 rfl))) (mvT hZ (own_w hw 60 rfl)) (mvT hZ (own_w hw 59 rfl)) (by decide) (backOf (W := 1) (own_limZ l Z a0 hw [] pr1 wz h2 n0 Z2 f3) hZ (own_w hw 61 rfl) (own_w hw 29 rfl) (by decide) (by decide)) q4a q4c (g := (mkF m 10 #[rv pr0, rv pr1, .val (.long pj2), .second] [(.ref pr1), (.ref pr0)])) rfl (by rw [hml]; rfl) (Steps.refl _) (argsL := []) (rest := [(.ref pr0)]) (lenOf pd_16 rfl) rfl (by show 2 * 0 + _ ≤ _; exact Nat.le_of_eq rfl) (hb hby d14_10) (fun _ _ => ⟨rfl, e2, (by decide : 0 + 0 ≤ _), (by decide : 0 + 0 ≤ _)⟩)
  dsimp only [Pt.U, Pt.locs, Pt.cells, Pt.slots] at X4 l4 y4 z4 st4 hQ4
  subst l4 y4 z4
  obtain ⟨rfl, Nq4, e4⟩ := hQ4
  have N4 := Fr.app N2 Nq4
  have f6 := (P8.other W2 (Or.inr (own_sn15 hw)))
  have f7 := (P0.wr W2)
  obtain ⟨T8, h8, X8, e8, W8, st8⟩ := putFN X4 hx hZ hown (own_w hw 62 rfl) Via.refl e4 f6 f7 (Or.inl (own_w hw 63 rfl)) (own_w hw 13 rfl) (ty := .boolean) (v' := (.int (nar .boolean (nar .boolean wz)))) (by decide) rfl (fits_nar_bool _) (g := (mkF m 13 #[rv pr0, rv pr1, .val (.long pj2), .second] [(.int (nar .boolean wz)), (.ref pr0)])) rfl rfl (hb hby d14_13)
  have K8 : Keep h0 h8 ([pr0] : List Addr) := K2.wr W8 (Or.inl (List.mem_of_getElem? (i := 0) rfl))
  have N8 := Fr.snoc X8 N4 P7
  have Z8 : n0 ≤ h8.size := Nat.le_trans Z2 (Keep.of_wr W8).1
  have Fw8 := f6.same W8
  have f9 := ((P9.other W2 (Or.inr (own_sn16 hw))).other W8 (Or.inr (own_sn17 hw)))
  have f10 := (f7.wr W8)
  obtain ⟨T11, h11, X11, e11, W11, st11⟩ := putF X8 hx hZ hown (host := "") (Or.inl (own_w hw 64 rfl)) Via.refl e8 f9 f10 (Or.inl (own_w hw 65 rfl)) (own_w hw 13 rfl) (ty := .long) (by decide) rfl rfl (g := (mkF m 18 #[rv pr0, rv pr1, .val (.long pj2), .second] [(.long pj2), (.ref pr0)])) rfl rfl (hb hby d14_18)
  have K11 : Keep h0 h11 ([pr0] : List Addr) := K8.wr W11 (Or.inl (List.mem_of_getElem? (i := 0) rfl))
  have N11 := Fr.snoc X11 N8 P7
  have Z11 : n0 ≤ h11.size := Nat.le_trans Z8 (Keep.of_wr W11).1
  have Fw11 := f9.same W11
  have f12 := (((P10.other W2 (Or.inr (own_sn18 hw))).other W8 (Or.inr (own_sn19 hw))).other W11 (Or.inr (own_sn20 hw)))
  have f13 := (f10.wr W11)
  obtain ⟨T14, h14, X14, e14, W14, st14⟩ := putF X11 hx hZ hown (host := "") (Or.inl (own_w hw 66 rfl)) Via.refl e11 f12 f13 (Or.inl (own_w hw 67 rfl)) (own_w hw 13 rfl) (ty := .long) (by decide) rfl rfl (g := (mkF m 23 #[rv pr0, rv pr1, .val (.long pj2), .second] [(.long 0), (.ref pr0)])) rfl rfl (hb hby d14_23)
  have K14 : Keep h0 h14 ([pr0] : List Addr) := K11.wr W14 (Or.inl (List.mem_of_getElem? (i := 0) rfl))
  have N14 := Fr.snoc X14 N11 P7
  have Z14 : n0 ≤ h14.size := Nat.le_trans Z11 (Keep.of_wr W14).1
  have Fw14 := f12.same W14
  have f15 := ((((P11.other W2 (Or.inr (own_sn21 hw))).other W8 (Or.inr (own_sn22 hw))).other W11 (Or.inr (own_sn23 hw))).other W14 (Or.inr (own_sn24 hw)))
  have f16 := (f13.wr W14)
  obtain ⟨T17, h17, X17, e17, W17, st17⟩ := putFN X14 hx hZ hown (own_w hw 68 rfl) Via.refl e14 f15 f16 (Or.inl (own_w hw 69 rfl)) (own_w hw 13 rfl) (ty := .boolean) (v' := (.int 0)) (by decide) rfl rfl (g := (mkF m 28 #[rv pr0, rv pr1, .val (.long pj2), .second] [(.int 0), (.ref pr0)])) rfl rfl (hb hby d14_28)
  have K17 : Keep h0 h17 ([pr0] : List Addr) := K14.wr W17 (Or.inl (List.mem_of_getElem? (i := 0) rfl))
  have N17 := Fr.snoc X17 N14 P7
  have Z17 : n0 ≤ h17.size := Nat.le_trans Z14 (Keep.of_wr W17).1
  have Fw17 := f15.same W17
  have f18 := (((((P12.other W2 (Or.inr (own_sn25 hw))).other W8 (Or.inr (own_sn26 hw))).other W11 (Or.inr (own_sn27 hw))).other W14 (Or.inr (own_sn28 hw))).other W17 (Or.inr (own_sn29 hw)))
  have f19 := (f16.wr W17)
  obtain ⟨T20, h20, X20, e20, W20, st20⟩ := putFN X17 hx hZ hown (own_w hw 70 rfl) Via.refl e17 f18 f19 (Or.inl (own_w hw 71 rfl)) (own_w hw 13 rfl) (ty := .boolean) (v' := (.int 0)) (by decide) rfl rfl (g := (mkF m 33 #[rv pr0, rv pr1, .val (.long pj2), .second] [(.int 0), (.ref pr0)])) rfl rfl (hb hby d14_33)
  have K20 : Keep h0 h20 ([pr0] : List Addr) := K17.wr W20 (Or.inl (List.mem_of_getElem? (i := 0) rfl))
  have N20 := Fr.snoc X20 N17 P7
  have Z20 : n0 ≤ h20.size := Nat.le_trans Z17 (Keep.of_wr W20).1
  have Fw20 := f18.same W20
  have f21 : Fld Z h20 pr0 own_s0 "counted" "J" u_16 := ((((((P13.other W2 (Or.inr (own_sn30 hw))).other W8 (Or.inr (own_sn31 hw))).other W11 (Or.inr (own_sn32 hw))).other W14 (Or.inr (own_sn33 hw))).other W17 (Or.inr (own_sn34 hw))).other W20 (Or.inr (own_sn35 hw)))
  have f22 := (f19.wr W20)
  obtain ⟨T23, h23, X23, e23, W23, st23⟩ := putF X20 hx hZ hown (host := "") (Or.inl (own_w hw 72 rfl)) Via.refl e20 f21 f22 (Or.inl (own_w hw 73 rfl)) (own_w hw 13 rfl) (ty := .long) (by decide) rfl rfl (g := (mkF m 38 #[rv pr0, rv pr1, .val (.long pj2), .second] [(.long 0), (.ref pr0)])) rfl rfl (hb hby d14_38)
  have K23 : Keep h0 h23 ([pr0] : List Addr) := K20.wr W23 (Or.inl (List.mem_of_getElem? (i := 0) rfl))
  have N23 := Fr.snoc X23 N20 P7
  have Z23 : n0 ≤ h23.size := Nat.le_trans Z20 (Keep.of_wr W23).1
  have Fw23 := f21.same W23
  have f24 := (((((((P4.wr W2).wr W8).wr W11).wr W14).wr W17).wr W20).wr W23)
  obtain ⟨T25, X25, e25, st25⟩ := getS2 X23 hx hZ hown (host := "") (Or.inl (own_w hw 74 rfl)) Via.refl e23 (own_ST.s3 f24) (g := (mkF m 42 #[rv pr0, rv pr1, .val (.long pj2), .second] [(.ref pr0)])) rfl (hb hby d14_42)
  have f26 : Fld Z h23 pr0 own_s0 "phase" own_s4 u_17 := (((((((P14.other W2 (Or.inr (own_sn36 hw))).other W8 (Or.inr (own_sn37 hw))).other W11 (Or.inr (own_sn38 hw))).other W14 (Or.inr (own_sn39 hw))).other W17 (Or.inr (own_sn40 hw))).other W20 (Or.inr (own_sn41 hw))).other W23 (Or.inr (own_sn42 hw)))
  have f27 := (f22.wr W23)
  obtain ⟨T28, h28, X28, e28, W28, st28⟩ := putF X25 hx hZ hown (host := "") (Or.inl (own_w hw 77 rfl)) Via.refl e25 f26 f27 (Or.inl (own_w hw 78 rfl)) (own_w hw 13 rfl) (ty := (.object own_s9)) (by decide) rfl rfl (g := (mkF m 45 #[rv pr0, rv pr1, .val (.long pj2), .second] [(.ref phS), (.ref pr0)])) rfl rfl (hb hby d14_45)
  have K28 : Keep h0 h28 ([pr0] : List Addr) := K23.wr W28 (Or.inl (List.mem_of_getElem? (i := 0) rfl))
  have N28 := Fr.snoc X28 N23 P7
  have Z28 : n0 ≤ h28.size := Nat.le_trans Z23 (Keep.of_wr W28).1
  have Fw28 := f26.same W28
  have f29 : Fld Z h28 pr0 own_s0 "run" own_s5 u_18 := ((((((((P15.other W2 (Or.inr (own_sn43 hw))).other W8 (Or.inr (own_sn44 hw))).other W11 (Or.inr (own_sn45 hw))).other W14 (Or.inr (own_sn46 hw))).other W17 (Or.inr (own_sn47 hw))).other W20 (Or.inr (own_sn48 hw))).other W23 (Or.inr (own_sn49 hw))).other W28 (Or.inr (own_sn50 hw)))
  have f30 := (f27.wr W28)
  obtain ⟨T31, h31, X31, e31, W31, st31⟩ := putF X28 hx hZ hown (host := "") (Or.inl (own_w hw 79 rfl)) Via.refl e28 f29 f30 (Or.inl (own_w hw 80 rfl)) (own_w hw 13 rfl) (ty := (.object own_s10)) (by decide) rfl rfl (g := (mkF m 50 #[rv pr0, rv pr1, .val (.long pj2), .second] [.null, (.ref pr0)])) rfl rfl (hb hby d14_50)
  have K31 : Keep h0 h31 ([pr0] : List Addr) := K28.wr W31 (Or.inl (List.mem_of_getElem? (i := 0) rfl))
  have N31 := Fr.snoc X31 N28 P7
  have Z31 : n0 ≤ h31.size := Nat.le_trans Z28 (Keep.of_wr W31).1
  have Fw31 := f29.same W31
  have f32 : Fld Z h31 pr0 own_s0 own_s3 "J" u_19 := (((((((((P16.other W2 (Or.inr (own_sn51 hw))).other W8 (Or.inr (own_sn52 hw))).other W11 (Or.inr (own_sn53 hw))).other W14 (Or.inr (own_sn54 hw))).other W17 (Or.inr (own_sn55 hw))).other W20 (Or.inr (own_sn56 hw))).other W23 (Or.inr (own_sn57 hw))).other W28 (Or.inr (own_sn58 hw))).other W31 (Or.inr (own_sn59 hw)))
  have f33 := (f30.wr W31)
  obtain ⟨T34, h34, X34, e34, W34, st34⟩ := putF X31 hx hZ hown (host := "") (Or.inl (own_w hw 81 rfl)) Via.refl e31 f32 f33 (Or.inl (own_w hw 82 rfl)) (own_w hw 13 rfl) (ty := .long) (by decide) rfl rfl (g := (mkF m 55 #[rv pr0, rv pr1, .val (.long pj2), .second] [(.long 0), (.ref pr0)])) rfl rfl (hb hby d14_55)
  have K34 : Keep h0 h34 ([pr0] : List Addr) := K31.wr W34 (Or.inl (List.mem_of_getElem? (i := 0) rfl))
  have N34 := Fr.snoc X34 N31 P7
  have Z34 : n0 ≤ h34.size := Nat.le_trans Z31 (Keep.of_wr W34).1
  have Fw34 := f32.same W34
  have go35 : ∀ t, own_S p e below (T34.setTop (mkF m 58 #[rv pr0, rv pr1, .val (.long pj2), .second] [])) t → Steps p.tables e below st0 t := by
    intro t kt
    refine go0 t ?_
    refine XS.aloadN X0.here hx rfl (hb hby d14_0) rfl rfl ?_
    refine XS.aloadN X0.here hx rfl (hb hby d14_1) rfl rfl ?_
    show own_S p e below (s₁.setTop (mkF m 2 #[rv pr0, rv pr1, .val (.long pj2), .second] [(.ref pr1), (.ref pr0)])) _
    refine st1.trans ?_
    show own_S p e below (T1.setTop (mkF m 5 #[rv pr0, rv pr1, .val (.long pj2), .second] [(.ref ct), (.ref pr0)])) _
    refine st2 _ ?_
    refine XS.aloadN X2.here hx rfl (hb hby d14_8) rfl rfl ?_
    refine XS.aloadN X2.here hx rfl (hb hby d14_9) rfl rfl ?_
    show own_S p e below (T2.setTop (mkF m 10 #[rv pr0, rv pr1, .val (.long pj2), .second] [(.ref pr1), (.ref pr0)])) _
    refine st4.trans ?_
    show own_S p e below (T4.setTop (mkF m 13 #[rv pr0, rv pr1, .val (.long pj2), .second] [(.int (nar .boolean wz)), (.ref pr0)])) _
    refine st8 _ ?_
    refine XS.aloadN X8.here hx rfl (hb hby d14_16) rfl rfl ?_
    refine XS.lloadN X8.here hx rfl (hb hby d14_17) rfl ?_
    show own_S p e below (T8.setTop (mkF m 18 #[rv pr0, rv pr1, .val (.long pj2), .second] [(.long pj2), (.ref pr0)])) _
    refine st11 _ ?_
    refine XS.aloadN X11.here hx rfl (hb hby d14_21) rfl rfl ?_
    refine XS.lconst X11.here hx rfl (hb hby d14_22) ?_
    show own_S p e below (T11.setTop (mkF m 23 #[rv pr0, rv pr1, .val (.long pj2), .second] [(.long 0), (.ref pr0)])) _
    refine st14 _ ?_
    refine XS.aloadN X14.here hx rfl (hb hby d14_26) rfl rfl ?_
    refine XS.iconst X14.here hx rfl (hb hby d14_27) ?_
    show own_S p e below (T14.setTop (mkF m 28 #[rv pr0, rv pr1, .val (.long pj2), .second] [(.int 0), (.ref pr0)])) _
    refine st17 _ ?_
    refine XS.aloadN X17.here hx rfl (hb hby d14_31) rfl rfl ?_
    refine XS.iconst X17.here hx rfl (hb hby d14_32) ?_
    show own_S p e below (T17.setTop (mkF m 33 #[rv pr0, rv pr1, .val (.long pj2), .second] [(.int 0), (.ref pr0)])) _
    refine st20 _ ?_
    refine XS.aloadN X20.here hx rfl (hb hby d14_36) rfl rfl ?_
    refine XS.lconst X20.here hx rfl (hb hby d14_37) ?_
    show own_S p e below (T20.setTop (mkF m 38 #[rv pr0, rv pr1, .val (.long pj2), .second] [(.long 0), (.ref pr0)])) _
    refine st23 _ ?_
    refine XS.aloadN X23.here hx rfl (hb hby d14_41) rfl rfl ?_
    show own_S p e below (T23.setTop (mkF m 42 #[rv pr0, rv pr1, .val (.long pj2), .second] [(.ref pr0)])) _
    refine st25 _ ?_
    show own_S p e below (T25.setTop (mkF m 45 #[rv pr0, rv pr1, .val (.long pj2), .second] [(.ref phS), (.ref pr0)])) _
    refine st28 _ ?_
    refine XS.aloadN X28.here hx rfl (hb hby d14_48) rfl rfl ?_
    refine XS.aconstNull X28.here hx rfl (hb hby d14_49) ?_
    show own_S p e below (T28.setTop (mkF m 50 #[rv pr0, rv pr1, .val (.long pj2), .second] [.null, (.ref pr0)])) _
    refine st31 _ ?_
    refine XS.aloadN X31.here hx rfl (hb hby d14_53) rfl rfl ?_
    refine XS.lconst X31.here hx rfl (hb hby d14_54) ?_
    show own_S p e below (T31.setTop (mkF m 55 #[rv pr0, rv pr1, .val (.long pj2), .second] [(.long 0), (.ref pr0)])) _
    refine st34 _ ?_
    show own_S p e below (T34.setTop (mkF m 58 #[rv pr0, rv pr1, .val (.long pj2), .second] [])) _
    exact kt
  obtain ⟨fs, hr, hrun, hended, hW, hsame⟩ := X34.leave (v := none) (fun _ => rfl)
  refine ⟨_, _, go35 _ ?_, hrun, hended, _, _, rfl, ?_, ⟨_, rfl⟩, hW, hsame.mono (by decide) (by decide)⟩
  · exact X34.returnOut hx Bd.returns (hb hby d14_58) hr
  · show Q_own_start Z pr0 pr1 pj2 ev ns sg phS phF phA phD co ct wz u_10 u_11 u_12 u_13 u_14 u_15 u_16 u_17 u_18 u_19 h0 n0 _ T34.heap _
    rw [e34]
    have f36 := (f33.wr W34)
    have f37 : Fld Z h34 pr0 own_s0 "count" own_s1 (.ref ct) := (((((((((Fw2.other W8 (Or.inr (own_sn60 hw))).other W11 (Or.inr (own_sn61 hw))).other W14 (Or.inr (own_sn62 hw))).other W17 (Or.inr (own_sn63 hw))).other W20 (Or.inr (own_sn64 hw))).other W23 (Or.inr (own_sn65 hw))).other W28 (Or.inr (own_sn66 hw))).other W31 (Or.inr (own_sn67 hw))).other W34 (Or.inr (own_sn68 hw)))
    have f38 : Fld Z h34 pr0 own_s0 own_s2 "Z" (.int (nar .boolean (nar .boolean wz))) := ((((((((Fw8.other W11 (Or.inr (own_sn69 hw))).other W14 (Or.inr (own_sn70 hw))).other W17 (Or.inr (own_sn71 hw))).other W20 (Or.inr (own_sn72 hw))).other W23 (Or.inr (own_sn73 hw))).other W28 (Or.inr (own_sn74 hw))).other W31 (Or.inr (own_sn75 hw))).other W34 (Or.inr (own_sn76 hw)))
    have f39 : Fld Z h34 pr0 own_s0 "most" "J" (.long pj2) := (((((((Fw11.other W14 (Or.inr (own_sn77 hw))).other W17 (Or.inr (own_sn78 hw))).other W20 (Or.inr (own_sn79 hw))).other W23 (Or.inr (own_sn80 hw))).other W28 (Or.inr (own_sn81 hw))).other W31 (Or.inr (own_sn82 hw))).other W34 (Or.inr (own_sn83 hw)))
    have f40 : Fld Z h34 pr0 own_s0 "length" "J" (.long 0) := ((((((Fw14.other W17 (Or.inr (own_sn84 hw))).other W20 (Or.inr (own_sn85 hw))).other W23 (Or.inr (own_sn86 hw))).other W28 (Or.inr (own_sn87 hw))).other W31 (Or.inr (own_sn88 hw))).other W34 (Or.inr (own_sn89 hw)))
    have f41 : Fld Z h34 pr0 own_s0 "past" "Z" (.int 0) := (((((Fw17.other W20 (Or.inr (own_sn90 hw))).other W23 (Or.inr (own_sn91 hw))).other W28 (Or.inr (own_sn92 hw))).other W31 (Or.inr (own_sn93 hw))).other W34 (Or.inr (own_sn94 hw)))
    have f42 : Fld Z h34 pr0 own_s0 "over" "Z" (.int 0) := ((((Fw20.other W23 (Or.inr (own_sn95 hw))).other W28 (Or.inr (own_sn96 hw))).other W31 (Or.inr (own_sn97 hw))).other W34 (Or.inr (own_sn98 hw)))
    have f43 : Fld Z h34 pr0 own_s0 "counted" "J" (.long 0) := (((Fw23.other W28 (Or.inr (own_sn99 hw))).other W31 (Or.inr (own_sn100 hw))).other W34 (Or.inr (own_sn101 hw)))
    have f44 := ((Fw28.other W31 (Or.inr (own_sn102 hw))).other W34 (Or.inr (own_sn103 hw)))
    have f45 := (Fw31.other W34 (Or.inr (own_sn104 hw)))
    exact ⟨N34, rfl, K34, f36, f37, f38, f39, f40, f41, f42, f43, f44, f45, Fw34⟩
theorem ef_own_room0 (m : MethodId) (pr0 : Addr) : entryFrame m #[(.ref pr0)] 1 = mkF m 0 #[rv pr0] [] := by first | (simp [entryFrame, mkF, argsToLocals, Value.category]; done) | rfl
def Q_own_room0 (Z : State) (pr0 : Addr) (wm : Int64) (wl : Int64) (h0 : Heap) (n0 : Nat) (v : Option Value) (h : Heap) (L : List Loc) : Prop := v = some (.long (wm - wl)) ∧ Fr n0 L ∧ h = h0
set_option maxRecDepth 65536 in
set_option maxHeartbeats 40000000 in
theorem own_room0 (l : Launch) (Z : State) (a0 : Array Value) (hw : ∀ d ∈ tables_1, d.before a0 Z = true) (ws : List Jvm.Cond) (pr0 : Addr) (wm : Int64) (wl : Int64) (h0 : Heap) (n0 : Nat) (Z0 : n0 ≤ h0.size) (P0 : Fld Z h0 pr0 own_s0 "past" "Z" (.int 0)) (P1 : Fld Z h0 pr0 own_s0 "most" "J" (.long wm)) (P2 : Fld Z h0 pr0 own_s0 "length" "J" (.long wl)) :
    MetFree l (⟨own_s0, "room", "()J"⟩ : MethodName) (head1 (Jvm.Cond.code (⟨own_s0, "room", "()J"⟩ : MethodName) prog_127_method_7_code 1 (some .long) :: ws) ({ frames := 0, cells := 0, slots := 0, locals := 0 } : Room)) (fun a U => a = #[(.ref pr0)] ∧ Z.Warmed39 U.vm ∧ U.heap = h0) (fun _ _ _ _ _ => True) (fun _ U o U' => ∃ v L, o = .returned v ∧ Q_own_room0 Z pr0 wm wl h0 n0 v U'.heap L ∧ FrameEnd U o U' L ({ frames := 0, cells := 0, slots := 0, locals := 0 } : Room).cells ({ frames := 0, cells := 0, slots := 0, locals := 0 } : Room).slots) := by
  refine MetFree.of_bodySF (plainFor_of_name pn_8) hisR ?_
  intro p e s m args below meth c s₁ Bd hml0 hP hK
  obtain ⟨rfl, hZ, hh⟩ := hP
  have hx := Bd.exec
  have hby := Bd.bytes
  have hml : c.maxLocals = 1 := hml0
  have hown : s.vm.findClass own_s0 = some m.cls := findClass_of_methodNamed Bd.named
  have hnm := (name_of_methodNamed Bd.named Bd.method).1
  have X0 : Stand p l e ({ frames := 0, cells := 0, slots := 0, locals := 0 } : Room) s m #[(.ref pr0)] below meth c s₁ [] 0 0 := Stand.of_body Bd
  have e0 : s₁.heap = h0 := by rw [← hh, Bd.state]; rfl
  have N0 := Fr.nil n0
  have go0 : ∀ t, own_S p e below (s₁.setTop (mkF m 0 #[rv pr0] [])) t → Steps p.tables e below (s₁.setTop (entryFrame m #[(.ref pr0)] 1)) t := fun t k => castTop (ef_own_room0 m pr0) k
  revert go0
  generalize s₁.setTop (entryFrame m #[(.ref pr0)] 1) = st0
  intro go0
  obtain ⟨T1, X1, e1, st1⟩ := getF X0 hx hZ hown (host := "") (Or.inl (own_w hw 68 rfl)) Via.refl e0 P0 (g := (mkF m 1 #[rv pr0] [(.ref pr0)])) rfl rfl (hb hby d17_1)
  obtain ⟨T2, X2, e2, st2⟩ := getF X1 hx hZ hown (host := "") (Or.inl (own_w hw 64 rfl)) Via.refl e1 P1 (g := (mkF m 12 #[rv pr0] [(.ref pr0)])) rfl rfl (hb hby d17_12)
  obtain ⟨T3, X3, e3, st3⟩ := getF X2 hx hZ hown (host := "") (Or.inl (own_w hw 66 rfl)) Via.refl e2 P2 (g := (mkF m 16 #[rv pr0] [(.ref pr0), (.long wm)])) rfl rfl (hb hby d17_16)
  have go4 : ∀ t, own_S p e below (T3.setTop (mkF m 20 #[rv pr0] [(.long (wm - wl))])) t → Steps p.tables e below st0 t := by
    intro t kt
    refine go0 t ?_
    refine XS.aloadN X0.here hx rfl (hb hby d17_0) rfl rfl ?_
    show own_S p e below (s₁.setTop (mkF m 1 #[rv pr0] [(.ref pr0)])) _
    refine st1 _ ?_
    show own_S p e below (T1.setTop (mkF m 4 #[rv pr0] [(.int 0)])) _
    refine XS.ifYes X1.here hx rfl (pc0 := 4) (pc' := 11) rfl (hb hby d17_4) rfl ((if0 _ _).trans (teq (by decide : (0 : Int32) = (0 : Int32))).1) (by decide) (by decide) ?_
    refine XS.aloadN X1.here hx rfl (hb hby d17_11) rfl rfl ?_
    show own_S p e below (T1.setTop (mkF m 12 #[rv pr0] [(.ref pr0)])) _
    refine st2 _ ?_
    refine XS.aloadN X2.here hx rfl (hb hby d17_15) rfl rfl ?_
    show own_S p e below (T2.setTop (mkF m 16 #[rv pr0] [(.ref pr0), (.long wm)])) _
    refine st3 _ ?_
    refine XS.lsub X3.here hx rfl (hb hby d17_19) rfl ?_
    show own_S p e below (T3.setTop (mkF m 20 #[rv pr0] [(.long (wm - wl))])) _
    exact kt
  obtain ⟨fs, hr, hrun, hended, hW, hsame⟩ := X3.leave (v := some (.long (wm - wl))) (fun h => by rw [Bd.returns] at h; cases h)
  refine ⟨_, _, go4 _ ?_, hrun, hended, _, _, rfl, ?_, ⟨_, rfl⟩, hW, hsame.mono (by decide) (by decide)⟩
  · jvm_step X3.here [X3.here.top, hx, (hb hby d17_20), X3.method', Bd.returns, narrow]
    first | (intro acts; rw [hr _ acts rfl rfl rfl]) | rw [hr _ _ rfl rfl rfl]
    exact Steps.refl _
  · show Q_own_room0 Z pr0 wm wl h0 n0 _ T3.heap _
    rw [e3]
    exact ⟨rfl, N0, rfl⟩
theorem ef_own_room1 (m : MethodId) (pr0 : Addr) : entryFrame m #[(.ref pr0)] 1 = mkF m 0 #[rv pr0] [] := by first | (simp [entryFrame, mkF, argsToLocals, Value.category]; done) | rfl
def Q_own_room1 (Z : State) (pr0 : Addr)  (h0 : Heap) (n0 : Nat) (v : Option Value) (h : Heap) (L : List Loc) : Prop := v = some (.long 0) ∧ Fr n0 L ∧ h = h0
set_option maxRecDepth 65536 in
set_option maxHeartbeats 40000000 in
theorem own_room1 (l : Launch) (Z : State) (a0 : Array Value) (hw : ∀ d ∈ tables_1, d.before a0 Z = true) (ws : List Jvm.Cond) (pr0 : Addr)  (h0 : Heap) (n0 : Nat) (Z0 : n0 ≤ h0.size) (P0 : Fld Z h0 pr0 own_s0 "past" "Z" (.int 1)) :
    MetFree l (⟨own_s0, "room", "()J"⟩ : MethodName) (head1 (Jvm.Cond.code (⟨own_s0, "room", "()J"⟩ : MethodName) prog_127_method_7_code 1 (some .long) :: ws) ({ frames := 0, cells := 0, slots := 0, locals := 0 } : Room)) (fun a U => a = #[(.ref pr0)] ∧ Z.Warmed39 U.vm ∧ U.heap = h0) (fun _ _ _ _ _ => True) (fun _ U o U' => ∃ v L, o = .returned v ∧ Q_own_room1 Z pr0 h0 n0 v U'.heap L ∧ FrameEnd U o U' L ({ frames := 0, cells := 0, slots := 0, locals := 0 } : Room).cells ({ frames := 0, cells := 0, slots := 0, locals := 0 } : Room).slots) := by
  refine MetFree.of_bodySF (plainFor_of_name pn_8) hisR ?_
  intro p e s m args below meth c s₁ Bd hml0 hP hK
  obtain ⟨rfl, hZ, hh⟩ := hP
  have hx := Bd.exec
  have hby := Bd.bytes
  have hml : c.maxLocals = 1 := hml0
  have hown : s.vm.findClass own_s0 = some m.cls := findClass_of_methodNamed Bd.named
  have hnm := (name_of_methodNamed Bd.named Bd.method).1
  have X0 : Stand p l e ({ frames := 0, cells := 0, slots := 0, locals := 0 } : Room) s m #[(.ref pr0)] below meth c s₁ [] 0 0 := Stand.of_body Bd
  have e0 : s₁.heap = h0 := by rw [← hh, Bd.state]; rfl
  have N0 := Fr.nil n0
  have go0 : ∀ t, own_S p e below (s₁.setTop (mkF m 0 #[rv pr0] [])) t → Steps p.tables e below (s₁.setTop (entryFrame m #[(.ref pr0)] 1)) t := fun t k => castTop (ef_own_room1 m pr0) k
  revert go0
  generalize s₁.setTop (entryFrame m #[(.ref pr0)] 1) = st0
  intro go0
  obtain ⟨T1, X1, e1, st1⟩ := getF X0 hx hZ hown (host := "") (Or.inl (own_w hw 68 rfl)) Via.refl e0 P0 (g := (mkF m 1 #[rv pr0] [(.ref pr0)])) rfl rfl (hb hby d17_1)
  have go2 : ∀ t, own_S p e below (T1.setTop (mkF m 20 #[rv pr0] [(.long 0)])) t → Steps p.tables e below st0 t := by
    intro t kt
    refine go0 t ?_
    refine XS.aloadN X0.here hx rfl (hb hby d17_0) rfl rfl ?_
    show own_S p e below (s₁.setTop (mkF m 1 #[rv pr0] [(.ref pr0)])) _
    refine st1 _ ?_
    show own_S p e below (T1.setTop (mkF m 4 #[rv pr0] [(.int 1)])) _
    refine XS.ifNo X1.here hx rfl (hb hby d17_4) rfl ((if0 _ _).trans (feq (by decide : ¬ ((1 : Int32) = (0 : Int32)))).1) ?_
    refine XS.lconst X1.here hx rfl (hb hby d17_7) ?_
    show own_S p e below (T1.setTop (mkF m 8 #[rv pr0] [(.long 0)])) _
    refine XS.goto X1.here hx rfl (pc0 := 8) (pc' := 20) rfl (hb hby d17_8) (by decide) (by decide) ?_
    show own_S p e below (T1.setTop (mkF m 20 #[rv pr0] [(.long 0)])) _
    exact kt
  obtain ⟨fs, hr, hrun, hended, hW, hsame⟩ := X1.leave (v := some (.long 0)) (fun h => by rw [Bd.returns] at h; cases h)
  refine ⟨_, _, go2 _ ?_, hrun, hended, _, _, rfl, ?_, ⟨_, rfl⟩, hW, hsame.mono (by decide) (by decide)⟩
  · jvm_step X1.here [X1.here.top, hx, (hb hby d17_20), X1.method', Bd.returns, narrow]
    first | (intro acts; rw [hr _ acts rfl rfl rfl]) | rw [hr _ _ rfl rfl rfl]
    exact Steps.refl _
  · show Q_own_room1 Z pr0 h0 n0 _ T1.heap _
    rw [e1]
    exact ⟨rfl, N0, rfl⟩
theorem ef_own_low (m : MethodId)  : entryFrame m #[(.int 120)] 1 = mkF m 0 #[iv 120] [] := by first | (simp [entryFrame, mkF, argsToLocals, Value.category]; done) | rfl
def Q_own_low (Z : State)   (h0 : Heap) (n0 : Nat) (v : Option Value) (h : Heap) (L : List Loc) : Prop := v = some (.int 0) ∧ Fr n0 L ∧ h = h0
set_option maxRecDepth 65536 in
set_option maxHeartbeats 40000000 in
theorem own_low (l : Launch) (Z : State) (a0 : Array Value) (hw : ∀ d ∈ tables_1, d.before a0 Z = true) (ws : List Jvm.Cond)   (h0 : Heap) (n0 : Nat) (Z0 : n0 ≤ h0.size) :
    MetFree l (⟨own_s12, own_s15, "(C)Z"⟩ : MethodName) (head1 (Jvm.Cond.code (⟨own_s12, own_s15, "(C)Z"⟩ : MethodName) jdk_89_method_15_code 1 (some .boolean) :: ws) ({ frames := 0, cells := 0, slots := 0, locals := 0 } : Room)) (fun a U => a = #[(.int 120)] ∧ Z.Warmed39 U.vm ∧ U.heap = h0) (fun _ _ _ _ _ => True) (fun _ U o U' => ∃ v L, o = .returned v ∧ Q_own_low Z  h0 n0 v U'.heap L ∧ FrameEnd U o U' L ({ frames := 0, cells := 0, slots := 0, locals := 0 } : Room).cells ({ frames := 0, cells := 0, slots := 0, locals := 0 } : Room).slots) := by
  refine MetFree.of_bodySF (plainFor_of_name pn_19) hisR ?_
  intro p e s m args below meth c s₁ Bd hml0 hP hK
  obtain ⟨rfl, hZ, hh⟩ := hP
  have hx := Bd.exec
  have hby := Bd.bytes
  have hml : c.maxLocals = 1 := hml0
  have hown : s.vm.findClass own_s12 = some m.cls := findClass_of_methodNamed Bd.named
  have hnm := (name_of_methodNamed Bd.named Bd.method).1
  have X0 : Stand p l e ({ frames := 0, cells := 0, slots := 0, locals := 0 } : Room) s m #[(.int 120)] below meth c s₁ [] 0 0 := Stand.of_body Bd
  have e0 : s₁.heap = h0 := by rw [← hh, Bd.state]; rfl
  have N0 := Fr.nil n0
  have go0 : ∀ t, own_S p e below (s₁.setTop (mkF m 0 #[iv 120] [])) t → Steps p.tables e below (s₁.setTop (entryFrame m #[(.int 120)] 1)) t := fun t k => castTop (ef_own_low m ) k
  revert go0
  generalize s₁.setTop (entryFrame m #[(.int 120)] 1) = st0
  intro go0
  have go1 : ∀ t, own_S p e below (s₁.setTop (mkF m 17 #[iv 120] [(.int 0)])) t → Steps p.tables e below st0 t := by
    intro t kt
    refine go0 t ?_
    refine XS.iloadN X0.here hx rfl (hb hby d18_0) rfl ?_
    show own_S p e below (s₁.setTop (mkF m 1 #[iv 120] [(.int 120)])) _
    refine X0.ldcInt hx hown (mvT hZ (own_w hw 118 rfl)) (g := (mkF m 1 #[iv 120] [(.int 120)])) rfl (hb hby d18_1) _ ?_
    show own_S p e below (s₁.setTop (mkF m 3 #[iv 120] [(.int 56320), (.int 120)])) _
    refine XS.icmpYes X0.here hx rfl (pc0 := 3) (pc' := 16) rfl (hb hby d18_3) rfl (tlt (by decide : (120 : Int32) < (56320 : Int32))).1 (by decide) (by decide) ?_
    refine XS.iconst X0.here hx rfl (hb hby d18_16) ?_
    show own_S p e below (s₁.setTop (mkF m 17 #[iv 120] [(.int 0)])) _
    exact kt
  obtain ⟨fs, hr, hrun, hended, hW, hsame⟩ := X0.leave (v := some (.int 0)) (fun h => by rw [Bd.returns] at h; cases h)
  refine ⟨_, _, go1 _ ?_, hrun, hended, _, _, rfl, ?_, ⟨_, rfl⟩, hW, hsame.mono (by decide) (by decide)⟩
  · exact retN X0 hx (t := .boolean) Bd.returns (by simp) (hb hby d18_17) hr
  · show Q_own_low Z  h0 n0 _ s₁.heap _
    rw [e0]
    exact ⟨rfl, N0, rfl⟩
theorem ef_own_role (m : MethodId) (pr0 : Addr) : entryFrame m #[(.ref pr0), (.int 120)] 3 = mkF m 0 #[rv pr0, iv 120, .unset] [] := by first | (simp [entryFrame, mkF, argsToLocals, Value.category]; done) | rfl
def Q_own_role (Z : State) (pr0 : Addr) (ev : Addr) (ns : Addr) (sg : Addr) (phS : Addr) (phF : Addr) (phA : Addr) (phD : Addr) (co : Addr) (ct : Addr) (ph : Addr) (wz : Int32) (wm : Int64) (wl : Int64) (wp : Int32) (wo : Int32) (wc : Int64) (h0 : Heap) (n0 : Nat) (v : Option Value) (h : Heap) (L : List Loc) : Prop := Fr n0 L ∧ ∃ (ph2 : Addr), v = some (.ref co) ∧ Keep h0 h ([pr0] : List Addr) ∧ Exa Z h pr0 own_s0 ∧ Fld Z h pr0 own_s0 "count" own_s1 (.ref ct) ∧ Fld Z h pr0 own_s0 own_s2 "Z" (.int wz) ∧ Fld Z h pr0 own_s0 "most" "J" (.long wm) ∧ Fld Z h pr0 own_s0 "length" "J" (.long wl) ∧ Fld Z h pr0 own_s0 "past" "Z" (.int wp) ∧ Fld Z h pr0 own_s0 "over" "Z" (.int wo) ∧ Fld Z h pr0 own_s0 "counted" "J" (.long wc) ∧ Fld Z h pr0 own_s0 "phase" own_s4 (.ref ph2) ∧ Fld Z h pr0 own_s0 "run" own_s5 .null ∧ Fld Z h pr0 own_s0 own_s3 "J" (.long 0) ∧ (ph2 = phS ∨ ph2 = phD)
set_option maxRecDepth 65536 in
set_option maxHeartbeats 40000000 in
theorem own_role (l : Launch) (Z : State) (a0 : Array Value) (hw : ∀ d ∈ tables_1, d.before a0 Z = true) (ws : List Jvm.Cond) (pr0 : Addr) (ev : Addr) (ns : Addr) (sg : Addr) (phS : Addr) (phF : Addr) (phA : Addr) (phD : Addr) (co : Addr) (ct : Addr) (ph : Addr) (wz : Int32) (wm : Int64) (wl : Int64) (wp : Int32) (wo : Int32) (wc : Int64) (h0 : Heap) (n0 : Nat) (Z0 : n0 ≤ h0.size) (P0 : own_ST Z h0 ev ns sg phS phF phA phD co) (P1 : own_NN ev ns sg phS phF phA phD co) (P2 : Exa Z h0 pr0 own_s0) (P3 : Fld Z h0 pr0 own_s0 "count" own_s1 (.ref ct)) (P4 : Fld Z h0 pr0 own_s0 own_s2 "Z" (.int wz)) (P5 : Fld Z h0 pr0 own_s0 "most" "J" (.long wm)) (P6 : Fld Z h0 pr0 own_s0 "length" "J" (.long wl)) (P7 : Fld Z h0 pr0 own_s0 "past" "Z" (.int wp)) (P8 : Fld Z h0 pr0 own_s0 "over" "Z" (.int wo)) (P9 : Fld Z h0 pr0 own_s0 "counted" "J" (.long wc)) (P10 : Fld Z h0 pr0 own_s0 "phase" own_s4 (.ref ph)) (P11 : Fld Z h0 pr0 own_s0 "run" own_s5 .null) (P12 : Fld Z h0 pr0 own_s0 own_s3 "J" (.long 0)) (P13 : ct = ev ∨ ct = ns ∨ ct = sg) (P14 : ph = phS ∨ ph = phD) (P15 : n0 ≤ pr0) :
    MetFree l (⟨own_s0, "role", own_s14⟩ : MethodName) (head1 (Jvm.Cond.code (⟨own_s0, "role", own_s14⟩ : MethodName) prog_127_method_12_code 3 (some (.object own_s10)) :: ws) ({ frames := 0, cells := 0, slots := 0, locals := 0 } : Room)) (fun a U => a = #[(.ref pr0), (.int 120)] ∧ Z.Warmed39 U.vm ∧ U.heap = h0) (fun _ _ _ _ _ => True) (fun _ U o U' => ∃ v L, o = .returned v ∧ Q_own_role Z pr0 ev ns sg phS phF phA phD co ct ph wz wm wl wp wo wc h0 n0 v U'.heap L ∧ FrameEnd U o U' L ({ frames := 0, cells := 0, slots := 0, locals := 0 } : Room).cells ({ frames := 0, cells := 0, slots := 0, locals := 0 } : Room).slots) := by
  refine MetFree.of_bodySF (plainFor_of_name pn_8) hisR ?_
  intro p e s m args below meth c s₁ Bd hml0 hP hK
  obtain ⟨rfl, hZ, hh⟩ := hP
  have hx := Bd.exec
  have hby := Bd.bytes
  have hml : c.maxLocals = 3 := hml0
  have hown : s.vm.findClass own_s0 = some m.cls := findClass_of_methodNamed Bd.named
  have hnm := (name_of_methodNamed Bd.named Bd.method).1
  have X0 : Stand p l e ({ frames := 0, cells := 0, slots := 0, locals := 0 } : Room) s m #[(.ref pr0), (.int 120)] below meth c s₁ [] 0 0 := Stand.of_body Bd
  have e0 : s₁.heap = h0 := by rw [← hh, Bd.state]; rfl
  have N0 := Fr.nil n0
  have go0 : ∀ t, own_S p e below (s₁.setTop (mkF m 0 #[rv pr0, iv 120, .unset] [])) t → Steps p.tables e below (s₁.setTop (entryFrame m #[(.ref pr0), (.int 120)] 3)) t := fun t k => castTop (ef_own_role m pr0) k
  revert go0
  generalize s₁.setTop (entryFrame m #[(.ref pr0), (.int 120)] 3) = st0
  intro go0
  rcases P13 with hT1 | hT1 | hT1
  · skip
    have fc1 : Fld Z h0 pr0 own_s0 "count" own_s1 (.ref ev) := by rw [← hT1]; exact P3
    obtain ⟨T2, X2, e2, st2⟩ := getF X0 hx hZ hown (host := "") (Or.inl (own_w hw 55 rfl)) Via.refl e0 fc1 (g := (mkF m 31 #[rv pr0, iv 120, iv 0] [(.ref pr0)])) rfl rfl (hb hby d20_31)
    obtain ⟨T3, X3, e3, st3⟩ := getS2 X2 hx hZ hown (host := "") (Or.inl (own_w hw 106 rfl)) Via.refl e2 (own_ST.s0 P0) (g := (mkF m 34 #[rv pr0, iv 120, iv 0] [(.ref ev)])) rfl (hb hby d20_34)
    obtain ⟨T4, X4, e4, st4⟩ := getS2 X3 hx hZ hown (host := "") (Or.inl (own_w hw 111 rfl)) Via.refl e3 (own_ST.s7 P0) (g := (mkF m 40 #[rv pr0, iv 120, iv 0] [])) rfl (hb hby d20_40)
    have go5 : ∀ t, own_S p e below (T4.setTop (mkF m 43 #[rv pr0, iv 120, iv 0] [(.ref co)])) t → Steps p.tables e below st0 t := by
      intro t kt
      refine go0 t ?_
      refine XS.iloadN X0.here hx rfl (hb hby d20_0) rfl ?_
      refine XS.bipush X0.here hx rfl (hb hby d20_1) ?_
      show own_S p e below (s₁.setTop (mkF m 3 #[rv pr0, iv 120, .unset] [(.int 32), (.int 120)])) _
      refine XS.icmpNo X0.here hx rfl (hb hby d20_3) rfl (feq (by decide : ¬ ((120 : Int32) = (32 : Int32)))).1 ?_
      refine XS.iloadN X0.here hx rfl (hb hby d20_6) rfl ?_
      refine XS.bipush X0.here hx rfl (hb hby d20_7) ?_
      show own_S p e below (s₁.setTop (mkF m 9 #[rv pr0, iv 120, .unset] [(.int 9), (.int 120)])) _
      refine XS.icmpNo X0.here hx rfl (hb hby d20_9) rfl (feq (by decide : ¬ ((120 : Int32) = (9 : Int32)))).1 ?_
      refine XS.iloadN X0.here hx rfl (hb hby d20_12) rfl ?_
      refine XS.bipush X0.here hx rfl (hb hby d20_13) ?_
      show own_S p e below (s₁.setTop (mkF m 15 #[rv pr0, iv 120, .unset] [(.int 10), (.int 120)])) _
      refine XS.icmpNo X0.here hx rfl (hb hby d20_15) rfl (feq (by decide : ¬ ((120 : Int32) = (10 : Int32)))).1 ?_
      refine XS.iloadN X0.here hx rfl (hb hby d20_18) rfl ?_
      refine XS.bipush X0.here hx rfl (hb hby d20_19) ?_
      show own_S p e below (s₁.setTop (mkF m 21 #[rv pr0, iv 120, .unset] [(.int 13), (.int 120)])) _
      refine XS.icmpYes X0.here hx rfl (pc0 := 21) (pc' := 28) rfl (hb hby d20_21) rfl (feq (by decide : ¬ ((120 : Int32) = (13 : Int32)))).2 (by decide) (by decide) ?_
      refine XS.iconst X0.here hx rfl (hb hby d20_28) ?_
      show own_S p e below (s₁.setTop (mkF m 29 #[rv pr0, iv 120, .unset] [(.int 0)])) _
      refine XS.istoreN X0.here hx rfl (hb hby d20_29) rfl (l' := #[rv pr0, iv 120, iv 0]) rfl ?_
      refine XS.aloadN X0.here hx rfl (hb hby d20_30) rfl rfl ?_
      show own_S p e below (s₁.setTop (mkF m 31 #[rv pr0, iv 120, iv 0] [(.ref pr0)])) _
      refine st2 _ ?_
      show own_S p e below (T2.setTop (mkF m 34 #[rv pr0, iv 120, iv 0] [(.ref ev)])) _
      refine st3 _ ?_
      show own_S p e below (T3.setTop (mkF m 37 #[rv pr0, iv 120, iv 0] [(.ref ev), (.ref ev)])) _
      refine Jvm.RoadKit.acmp (g := (mkF m 37 #[rv pr0, iv 120, iv 0] [(.ref ev), (.ref ev)])) X3 hx rfl rfl rfl (pc0 := 37) (pc' := 40) (same := true) rfl (hb hby d20_37) rfl (decide_eq_true rfl) (by decide) (by decide) ?_
      show own_S p e below (T3.setTop (mkF m 40 #[rv pr0, iv 120, iv 0] [])) _
      refine st4 _ ?_
      show own_S p e below (T4.setTop (mkF m 43 #[rv pr0, iv 120, iv 0] [(.ref co)])) _
      exact kt
    obtain ⟨fs, hr, hrun, hended, hW, hsame⟩ := X4.leave (v := some (.ref co)) (fun h => by rw [Bd.returns] at h; cases h)
    refine ⟨_, _, go5 _ ?_, hrun, hended, _, _, rfl, ?_, ⟨_, rfl⟩, hW, hsame.mono (by decide) (by decide)⟩
    · jvm_step X4.here [X4.here.top, hx, (hb hby d20_43), X4.method', Bd.returns, Value.isRef, FieldType.isReference]
      first | (intro acts; rw [hr _ acts rfl rfl rfl]) | rw [hr _ _ rfl rfl rfl]
      exact Steps.refl _
    · show Q_own_role Z pr0 ev ns sg phS phF phA phD co ct ph wz wm wl wp wo wc h0 n0 _ T4.heap _
      rw [e4]
      exact ⟨N0, ph, rfl, (Keep.refl h0 ([pr0] : List Addr)), P2, (by rw [hT1]; exact fc1), P4, P5, P6, P7, P8, P9, P10, P11, P12, P14⟩
  · skip
    have fc1 : Fld Z h0 pr0 own_s0 "count" own_s1 (.ref ns) := by rw [← hT1]; exact P3
    obtain ⟨T6, X6, e6, st6⟩ := getF X0 hx hZ hown (host := "") (Or.inl (own_w hw 55 rfl)) Via.refl e0 fc1 (g := (mkF m 31 #[rv pr0, iv 120, iv 0] [(.ref pr0)])) rfl rfl (hb hby d20_31)
    obtain ⟨T7, X7, e7, st7⟩ := getS2 X6 hx hZ hown (host := "") (Or.inl (own_w hw 106 rfl)) Via.refl e6 (own_ST.s0 P0) (g := (mkF m 34 #[rv pr0, iv 120, iv 0] [(.ref ns)])) rfl (hb hby d20_34)
    obtain ⟨T8, X8, e8, st8⟩ := getF X7 hx hZ hown (host := "") (Or.inl (own_w hw 55 rfl)) Via.refl e7 fc1 (g := (mkF m 45 #[rv pr0, iv 120, iv 0] [(.ref pr0)])) rfl rfl (hb hby d20_45)
    obtain ⟨T9, X9, e9, st9⟩ := getS2 X8 hx hZ hown (host := "") (Or.inl (own_w hw 121 rfl)) Via.refl e8 (own_ST.s1 P0) (g := (mkF m 48 #[rv pr0, iv 120, iv 0] [(.ref ns)])) rfl (hb hby d20_48)
    obtain ⟨T10, X10, e10, st10⟩ := getS2 X9 hx hZ hown (host := "") (Or.inl (own_w hw 111 rfl)) Via.refl e9 (own_ST.s7 P0) (g := (mkF m 64 #[rv pr0, iv 120, iv 0] [])) rfl (hb hby d20_64)
    have go11 : ∀ t, own_S p e below (T10.setTop (mkF m 67 #[rv pr0, iv 120, iv 0] [(.ref co)])) t → Steps p.tables e below st0 t := by
      intro t kt
      refine go0 t ?_
      refine XS.iloadN X0.here hx rfl (hb hby d20_0) rfl ?_
      refine XS.bipush X0.here hx rfl (hb hby d20_1) ?_
      show own_S p e below (s₁.setTop (mkF m 3 #[rv pr0, iv 120, .unset] [(.int 32), (.int 120)])) _
      refine XS.icmpNo X0.here hx rfl (hb hby d20_3) rfl (feq (by decide : ¬ ((120 : Int32) = (32 : Int32)))).1 ?_
      refine XS.iloadN X0.here hx rfl (hb hby d20_6) rfl ?_
      refine XS.bipush X0.here hx rfl (hb hby d20_7) ?_
      show own_S p e below (s₁.setTop (mkF m 9 #[rv pr0, iv 120, .unset] [(.int 9), (.int 120)])) _
      refine XS.icmpNo X0.here hx rfl (hb hby d20_9) rfl (feq (by decide : ¬ ((120 : Int32) = (9 : Int32)))).1 ?_
      refine XS.iloadN X0.here hx rfl (hb hby d20_12) rfl ?_
      refine XS.bipush X0.here hx rfl (hb hby d20_13) ?_
      show own_S p e below (s₁.setTop (mkF m 15 #[rv pr0, iv 120, .unset] [(.int 10), (.int 120)])) _
      refine XS.icmpNo X0.here hx rfl (hb hby d20_15) rfl (feq (by decide : ¬ ((120 : Int32) = (10 : Int32)))).1 ?_
      refine XS.iloadN X0.here hx rfl (hb hby d20_18) rfl ?_
      refine XS.bipush X0.here hx rfl (hb hby d20_19) ?_
      show own_S p e below (s₁.setTop (mkF m 21 #[rv pr0, iv 120, .unset] [(.int 13), (.int 120)])) _
      refine XS.icmpYes X0.here hx rfl (pc0 := 21) (pc' := 28) rfl (hb hby d20_21) rfl (feq (by decide : ¬ ((120 : Int32) = (13 : Int32)))).2 (by decide) (by decide) ?_
      refine XS.iconst X0.here hx rfl (hb hby d20_28) ?_
      show own_S p e below (s₁.setTop (mkF m 29 #[rv pr0, iv 120, .unset] [(.int 0)])) _
      refine XS.istoreN X0.here hx rfl (hb hby d20_29) rfl (l' := #[rv pr0, iv 120, iv 0]) rfl ?_
      refine XS.aloadN X0.here hx rfl (hb hby d20_30) rfl rfl ?_
      show own_S p e below (s₁.setTop (mkF m 31 #[rv pr0, iv 120, iv 0] [(.ref pr0)])) _
      refine st6 _ ?_
      show own_S p e below (T6.setTop (mkF m 34 #[rv pr0, iv 120, iv 0] [(.ref ns)])) _
      refine st7 _ ?_
      show own_S p e below (T7.setTop (mkF m 37 #[rv pr0, iv 120, iv 0] [(.ref ev), (.ref ns)])) _
      refine Jvm.RoadKit.acmp (g := (mkF m 37 #[rv pr0, iv 120, iv 0] [(.ref ev), (.ref ns)])) X7 hx rfl rfl rfl (pc0 := 37) (pc' := 44) (same := false) rfl (hb hby d20_37) rfl (decide_eq_false fun q => (own_NN.n0 P1) (Value.ref.inj q)) (by decide) (by decide) ?_
      refine XS.aloadN X7.here hx rfl (hb hby d20_44) rfl rfl ?_
      show own_S p e below (T7.setTop (mkF m 45 #[rv pr0, iv 120, iv 0] [(.ref pr0)])) _
      refine st8 _ ?_
      show own_S p e below (T8.setTop (mkF m 48 #[rv pr0, iv 120, iv 0] [(.ref ns)])) _
      refine st9 _ ?_
      show own_S p e below (T9.setTop (mkF m 51 #[rv pr0, iv 120, iv 0] [(.ref ns), (.ref ns)])) _
      refine Jvm.RoadKit.acmp (g := (mkF m 51 #[rv pr0, iv 120, iv 0] [(.ref ns), (.ref ns)])) X9 hx rfl rfl rfl (pc0 := 51) (pc' := 54) (same := true) rfl (hb hby d20_51) rfl (decide_eq_true rfl) (by decide) (by decide) ?_
      refine XS.iloadN X9.here hx rfl (hb hby d20_54) rfl ?_
      show own_S p e below (T9.setTop (mkF m 55 #[rv pr0, iv 120, iv 0] [(.int 0)])) _
      refine XS.ifYes X9.here hx rfl (pc0 := 55) (pc' := 64) rfl (hb hby d20_55) rfl ((if0 _ _).trans (teq (by decide : (0 : Int32) = (0 : Int32))).1) (by decide) (by decide) ?_
      show own_S p e below (T9.setTop (mkF m 64 #[rv pr0, iv 120, iv 0] [])) _
      refine st10 _ ?_
      show own_S p e below (T10.setTop (mkF m 67 #[rv pr0, iv 120, iv 0] [(.ref co)])) _
      exact kt
    obtain ⟨fs, hr, hrun, hended, hW, hsame⟩ := X10.leave (v := some (.ref co)) (fun h => by rw [Bd.returns] at h; cases h)
    refine ⟨_, _, go11 _ ?_, hrun, hended, _, _, rfl, ?_, ⟨_, rfl⟩, hW, hsame.mono (by decide) (by decide)⟩
    · jvm_step X10.here [X10.here.top, hx, (hb hby d20_67), X10.method', Bd.returns, Value.isRef, FieldType.isReference]
      first | (intro acts; rw [hr _ acts rfl rfl rfl]) | rw [hr _ _ rfl rfl rfl]
      exact Steps.refl _
    · show Q_own_role Z pr0 ev ns sg phS phF phA phD co ct ph wz wm wl wp wo wc h0 n0 _ T10.heap _
      rw [e10]
      exact ⟨N0, ph, rfl, (Keep.refl h0 ([pr0] : List Addr)), P2, (by rw [hT1]; exact fc1), P4, P5, P6, P7, P8, P9, P10, P11, P12, P14⟩
  · skip
    have fc1 : Fld Z h0 pr0 own_s0 "count" own_s1 (.ref sg) := by rw [← hT1]; exact P3
    rcases P14 with hP1 | hP1
    · skip
      have fp1 : Fld Z h0 pr0 own_s0 "phase" own_s4 (.ref phS) := by rw [← hP1]; exact P10
      obtain ⟨T12, X12, e12, st12⟩ := getF X0 hx hZ hown (host := "") (Or.inl (own_w hw 55 rfl)) Via.refl e0 fc1 (g := (mkF m 31 #[rv pr0, iv 120, iv 0] [(.ref pr0)])) rfl rfl (hb hby d20_31)
      obtain ⟨T13, X13, e13, st13⟩ := getS2 X12 hx hZ hown (host := "") (Or.inl (own_w hw 106 rfl)) Via.refl e12 (own_ST.s0 P0) (g := (mkF m 34 #[rv pr0, iv 120, iv 0] [(.ref sg)])) rfl (hb hby d20_34)
      obtain ⟨T14, X14, e14, st14⟩ := getF X13 hx hZ hown (host := "") (Or.inl (own_w hw 55 rfl)) Via.refl e13 fc1 (g := (mkF m 45 #[rv pr0, iv 120, iv 0] [(.ref pr0)])) rfl rfl (hb hby d20_45)
      obtain ⟨T15, X15, e15, st15⟩ := getS2 X14 hx hZ hown (host := "") (Or.inl (own_w hw 121 rfl)) Via.refl e14 (own_ST.s1 P0) (g := (mkF m 48 #[rv pr0, iv 120, iv 0] [(.ref sg)])) rfl (hb hby d20_48)
      obtain ⟨T16, X16, e16, st16⟩ := getF X15 hx hZ hown (host := "") (Or.inl (own_w hw 77 rfl)) Via.refl e15 fp1 (g := (mkF m 186 #[rv pr0, iv 120, iv 0] [(.ref pr0)])) rfl rfl (hb hby d20_186)
      obtain ⟨T17, X17, e17, st17⟩ := getS2 X16 hx hZ hown (host := "") (Or.inl (own_w hw 74 rfl)) Via.refl e16 (own_ST.s3 P0) (g := (mkF m 189 #[rv pr0, iv 120, iv 0] [(.ref phS)])) rfl (hb hby d20_189)
      obtain ⟨T18, X18, e18, st18⟩ := getF X17 hx hZ hown (host := "") (Or.inl (own_w hw 77 rfl)) Via.refl e17 fp1 (g := (mkF m 218 #[rv pr0, iv 120, iv 0] [(.ref pr0)])) rfl rfl (hb hby d20_218)
      obtain ⟨T19, X19, e19, st19⟩ := getS2 X18 hx hZ hown (host := "") (Or.inl (own_w hw 123 rfl)) Via.refl e18 (own_ST.s4 P0) (g := (mkF m 221 #[rv pr0, iv 120, iv 0] [(.ref phS)])) rfl (hb hby d20_221)
      obtain ⟨T20, X20, e20, st20⟩ := getF X19 hx hZ hown (host := "") (Or.inl (own_w hw 77 rfl)) Via.refl e19 fp1 (g := (mkF m 228 #[rv pr0, iv 120, iv 0] [(.ref pr0)])) rfl rfl (hb hby d20_228)
      obtain ⟨T21, X21, e21, st21⟩ := getS2 X20 hx hZ hown (host := "") (Or.inl (own_w hw 125 rfl)) Via.refl e20 (own_ST.s5 P0) (g := (mkF m 231 #[rv pr0, iv 120, iv 0] [(.ref phS)])) rfl (hb hby d20_231)
      obtain ⟨T22, X22, e22, st22⟩ := getS2 X21 hx hZ hown (host := "") (Or.inl (own_w hw 127 rfl)) Via.refl e21 (own_ST.s6 P0) (g := (mkF m 238 #[rv pr0, iv 120, iv 0] [(.ref pr0)])) rfl (hb hby d20_238)
      obtain ⟨T23, h23, X23, e23, W23, st23⟩ := putF X22 hx hZ hown (host := "") (Or.inl (own_w hw 77 rfl)) Via.refl e22 fp1 P2 (Or.inl (own_w hw 78 rfl)) (own_w hw 13 rfl) (ty := (.object own_s9)) (by decide) rfl rfl (g := (mkF m 241 #[rv pr0, iv 120, iv 0] [(.ref phD), (.ref pr0)])) rfl rfl (hb hby d20_241)
      have K23 : Keep h0 h23 ([pr0] : List Addr) := (Keep.refl h0 ([pr0] : List Addr)).wr W23 (Or.inl (List.mem_of_getElem? (i := 0) rfl))
      have N23 := Fr.snoc X23 N0 P15
      have Z23 : n0 ≤ h23.size := Nat.le_trans Z0 (Keep.of_wr W23).1
      have Fw23 := fp1.same W23
      have f24 := (P0.wr W23)
      obtain ⟨T25, X25, e25, st25⟩ := getS2 X23 hx hZ hown (host := "") (Or.inl (own_w hw 111 rfl)) Via.refl e23 (own_ST.s7 f24) (g := (mkF m 244 #[rv pr0, iv 120, iv 0] [])) rfl (hb hby d20_244)
      have go26 : ∀ t, own_S p e below (T25.setTop (mkF m 247 #[rv pr0, iv 120, iv 0] [(.ref co)])) t → Steps p.tables e below st0 t := by
        intro t kt
        refine go0 t ?_
        refine XS.iloadN X0.here hx rfl (hb hby d20_0) rfl ?_
        refine XS.bipush X0.here hx rfl (hb hby d20_1) ?_
        show own_S p e below (s₁.setTop (mkF m 3 #[rv pr0, iv 120, .unset] [(.int 32), (.int 120)])) _
        refine XS.icmpNo X0.here hx rfl (hb hby d20_3) rfl (feq (by decide : ¬ ((120 : Int32) = (32 : Int32)))).1 ?_
        refine XS.iloadN X0.here hx rfl (hb hby d20_6) rfl ?_
        refine XS.bipush X0.here hx rfl (hb hby d20_7) ?_
        show own_S p e below (s₁.setTop (mkF m 9 #[rv pr0, iv 120, .unset] [(.int 9), (.int 120)])) _
        refine XS.icmpNo X0.here hx rfl (hb hby d20_9) rfl (feq (by decide : ¬ ((120 : Int32) = (9 : Int32)))).1 ?_
        refine XS.iloadN X0.here hx rfl (hb hby d20_12) rfl ?_
        refine XS.bipush X0.here hx rfl (hb hby d20_13) ?_
        show own_S p e below (s₁.setTop (mkF m 15 #[rv pr0, iv 120, .unset] [(.int 10), (.int 120)])) _
        refine XS.icmpNo X0.here hx rfl (hb hby d20_15) rfl (feq (by decide : ¬ ((120 : Int32) = (10 : Int32)))).1 ?_
        refine XS.iloadN X0.here hx rfl (hb hby d20_18) rfl ?_
        refine XS.bipush X0.here hx rfl (hb hby d20_19) ?_
        show own_S p e below (s₁.setTop (mkF m 21 #[rv pr0, iv 120, .unset] [(.int 13), (.int 120)])) _
        refine XS.icmpYes X0.here hx rfl (pc0 := 21) (pc' := 28) rfl (hb hby d20_21) rfl (feq (by decide : ¬ ((120 : Int32) = (13 : Int32)))).2 (by decide) (by decide) ?_
        refine XS.iconst X0.here hx rfl (hb hby d20_28) ?_
        show own_S p e below (s₁.setTop (mkF m 29 #[rv pr0, iv 120, .unset] [(.int 0)])) _
        refine XS.istoreN X0.here hx rfl (hb hby d20_29) rfl (l' := #[rv pr0, iv 120, iv 0]) rfl ?_
        refine XS.aloadN X0.here hx rfl (hb hby d20_30) rfl rfl ?_
        show own_S p e below (s₁.setTop (mkF m 31 #[rv pr0, iv 120, iv 0] [(.ref pr0)])) _
        refine st12 _ ?_
        show own_S p e below (T12.setTop (mkF m 34 #[rv pr0, iv 120, iv 0] [(.ref sg)])) _
        refine st13 _ ?_
        show own_S p e below (T13.setTop (mkF m 37 #[rv pr0, iv 120, iv 0] [(.ref ev), (.ref sg)])) _
        refine Jvm.RoadKit.acmp (g := (mkF m 37 #[rv pr0, iv 120, iv 0] [(.ref ev), (.ref sg)])) X13 hx rfl rfl rfl (pc0 := 37) (pc' := 44) (same := false) rfl (hb hby d20_37) rfl (decide_eq_false fun q => (own_NN.n1 P1) (Value.ref.inj q)) (by decide) (by decide) ?_
        refine XS.aloadN X13.here hx rfl (hb hby d20_44) rfl rfl ?_
        show own_S p e below (T13.setTop (mkF m 45 #[rv pr0, iv 120, iv 0] [(.ref pr0)])) _
        refine st14 _ ?_
        show own_S p e below (T14.setTop (mkF m 48 #[rv pr0, iv 120, iv 0] [(.ref sg)])) _
        refine st15 _ ?_
        show own_S p e below (T15.setTop (mkF m 51 #[rv pr0, iv 120, iv 0] [(.ref ns), (.ref sg)])) _
        refine Jvm.RoadKit.acmp (g := (mkF m 51 #[rv pr0, iv 120, iv 0] [(.ref ns), (.ref sg)])) X15 hx rfl rfl rfl (pc0 := 51) (pc' := 68) (same := false) rfl (hb hby d20_51) rfl (decide_eq_false fun q => (own_NN.n2 P1) (Value.ref.inj q)) (by decide) (by decide) ?_
        refine XS.iloadN X15.here hx rfl (hb hby d20_68) rfl ?_
        show own_S p e below (T15.setTop (mkF m 69 #[rv pr0, iv 120, iv 0] [(.int 0)])) _
        refine XS.ifYes X15.here hx rfl (pc0 := 69) (pc' := 93) rfl (hb hby d20_69) rfl ((if0 _ _).trans (teq (by decide : (0 : Int32) = (0 : Int32))).1) (by decide) (by decide) ?_
        refine XS.iloadN X15.here hx rfl (hb hby d20_93) rfl ?_
        refine XS.bipush X15.here hx rfl (hb hby d20_94) ?_
        show own_S p e below (T15.setTop (mkF m 96 #[rv pr0, iv 120, iv 0] [(.int 48), (.int 120)])) _
        refine XS.icmpYes X15.here hx rfl (pc0 := 96) (pc' := 159) rfl (hb hby d20_96) rfl (feq (by decide : ¬ ((120 : Int32) = (48 : Int32)))).2 (by decide) (by decide) ?_
        refine XS.iloadN X15.here hx rfl (hb hby d20_159) rfl ?_
        refine XS.bipush X15.here hx rfl (hb hby d20_160) ?_
        show own_S p e below (T15.setTop (mkF m 162 #[rv pr0, iv 120, iv 0] [(.int 46), (.int 120)])) _
        refine XS.icmpYes X15.here hx rfl (pc0 := 162) (pc' := 185) rfl (hb hby d20_162) rfl (feq (by decide : ¬ ((120 : Int32) = (46 : Int32)))).2 (by decide) (by decide) ?_
        refine XS.aloadN X15.here hx rfl (hb hby d20_185) rfl rfl ?_
        show own_S p e below (T15.setTop (mkF m 186 #[rv pr0, iv 120, iv 0] [(.ref pr0)])) _
        refine st16 _ ?_
        show own_S p e below (T16.setTop (mkF m 189 #[rv pr0, iv 120, iv 0] [(.ref phS)])) _
        refine st17 _ ?_
        show own_S p e below (T17.setTop (mkF m 192 #[rv pr0, iv 120, iv 0] [(.ref phS), (.ref phS)])) _
        refine Jvm.RoadKit.acmp (g := (mkF m 192 #[rv pr0, iv 120, iv 0] [(.ref phS), (.ref phS)])) X17 hx rfl rfl rfl (pc0 := 192) (pc' := 195) (same := true) rfl (hb hby d20_192) rfl (decide_eq_true rfl) (by decide) (by decide) ?_
        refine XS.iloadN X17.here hx rfl (hb hby d20_195) rfl ?_
        refine XS.bipush X17.here hx rfl (hb hby d20_196) ?_
        show own_S p e below (T17.setTop (mkF m 198 #[rv pr0, iv 120, iv 0] [(.int 43), (.int 120)])) _
        refine XS.icmpNo X17.here hx rfl (hb hby d20_198) rfl (feq (by decide : ¬ ((120 : Int32) = (43 : Int32)))).1 ?_
        refine XS.iloadN X17.here hx rfl (hb hby d20_201) rfl ?_
        refine XS.bipush X17.here hx rfl (hb hby d20_202) ?_
        show own_S p e below (T17.setTop (mkF m 204 #[rv pr0, iv 120, iv 0] [(.int 45), (.int 120)])) _
        refine XS.icmpYes X17.here hx rfl (pc0 := 204) (pc' := 217) rfl (hb hby d20_204) rfl (feq (by decide : ¬ ((120 : Int32) = (45 : Int32)))).2 (by decide) (by decide) ?_
        refine XS.aloadN X17.here hx rfl (hb hby d20_217) rfl rfl ?_
        show own_S p e below (T17.setTop (mkF m 218 #[rv pr0, iv 120, iv 0] [(.ref pr0)])) _
        refine st18 _ ?_
        show own_S p e below (T18.setTop (mkF m 221 #[rv pr0, iv 120, iv 0] [(.ref phS)])) _
        refine st19 _ ?_
        show own_S p e below (T19.setTop (mkF m 224 #[rv pr0, iv 120, iv 0] [(.ref phF), (.ref phS)])) _
        refine Jvm.RoadKit.acmp (g := (mkF m 224 #[rv pr0, iv 120, iv 0] [(.ref phF), (.ref phS)])) X19 hx rfl rfl rfl (pc0 := 224) (pc' := 227) (same := false) rfl (hb hby d20_224) rfl (decide_eq_false fun q => (own_NN.n3 P1) (Value.ref.inj q)) (by decide) (by decide) ?_
        refine XS.aloadN X19.here hx rfl (hb hby d20_227) rfl rfl ?_
        show own_S p e below (T19.setTop (mkF m 228 #[rv pr0, iv 120, iv 0] [(.ref pr0)])) _
        refine st20 _ ?_
        show own_S p e below (T20.setTop (mkF m 231 #[rv pr0, iv 120, iv 0] [(.ref phS)])) _
        refine st21 _ ?_
        show own_S p e below (T21.setTop (mkF m 234 #[rv pr0, iv 120, iv 0] [(.ref phA), (.ref phS)])) _
        refine Jvm.RoadKit.acmp (g := (mkF m 234 #[rv pr0, iv 120, iv 0] [(.ref phA), (.ref phS)])) X21 hx rfl rfl rfl (pc0 := 234) (pc' := 237) (same := false) rfl (hb hby d20_234) rfl (decide_eq_false fun q => (own_NN.n4 P1) (Value.ref.inj q)) (by decide) (by decide) ?_
        refine XS.aloadN X21.here hx rfl (hb hby d20_237) rfl rfl ?_
        show own_S p e below (T21.setTop (mkF m 238 #[rv pr0, iv 120, iv 0] [(.ref pr0)])) _
        refine st22 _ ?_
        show own_S p e below (T22.setTop (mkF m 241 #[rv pr0, iv 120, iv 0] [(.ref phD), (.ref pr0)])) _
        refine st23 _ ?_
        show own_S p e below (T23.setTop (mkF m 244 #[rv pr0, iv 120, iv 0] [])) _
        refine st25 _ ?_
        show own_S p e below (T25.setTop (mkF m 247 #[rv pr0, iv 120, iv 0] [(.ref co)])) _
        exact kt
      obtain ⟨fs, hr, hrun, hended, hW, hsame⟩ := X25.leave (v := some (.ref co)) (fun h => by rw [Bd.returns] at h; cases h)
      refine ⟨_, _, go26 _ ?_, hrun, hended, _, _, rfl, ?_, ⟨_, rfl⟩, hW, hsame.mono (by decide) (by decide)⟩
      · jvm_step X25.here [X25.here.top, hx, (hb hby d20_247), X25.method', Bd.returns, Value.isRef, FieldType.isReference]
        first | (intro acts; rw [hr _ acts rfl rfl rfl]) | rw [hr _ _ rfl rfl rfl]
        exact Steps.refl _
      · show Q_own_role Z pr0 ev ns sg phS phF phA phD co ct ph wz wm wl wp wo wc h0 n0 _ T25.heap _
        rw [e25]
        have f27 := (P2.wr W23)
        have f28 := (fc1.other W23 (Or.inr (own_sn66 hw)))
        have f29 := (P4.other W23 (Or.inr (own_sn74 hw)))
        have f30 := (P5.other W23 (Or.inr (own_sn81 hw)))
        have f31 := (P6.other W23 (Or.inr (own_sn87 hw)))
        have f32 := (P7.other W23 (Or.inr (own_sn92 hw)))
        have f33 := (P8.other W23 (Or.inr (own_sn96 hw)))
        have f34 := (P9.other W23 (Or.inr (own_sn99 hw)))
        have f35 := (P11.other W23 (Or.inr (own_sn50 hw)))
        have f36 : Fld Z h23 pr0 own_s0 own_s3 "J" (.long 0) := (P12.other W23 (Or.inr (own_sn58 hw)))
        exact ⟨N23, phD, rfl, K23, f27, (by rw [hT1]; exact f28), f29, f30, f31, f32, f33, f34, Fw23, f35, f36, (Or.inr rfl)⟩
    · skip
      have fp1 : Fld Z h0 pr0 own_s0 "phase" own_s4 (.ref phD) := by rw [← hP1]; exact P10
      obtain ⟨T37, X37, e37, st37⟩ := getF X0 hx hZ hown (host := "") (Or.inl (own_w hw 55 rfl)) Via.refl e0 fc1 (g := (mkF m 31 #[rv pr0, iv 120, iv 0] [(.ref pr0)])) rfl rfl (hb hby d20_31)
      obtain ⟨T38, X38, e38, st38⟩ := getS2 X37 hx hZ hown (host := "") (Or.inl (own_w hw 106 rfl)) Via.refl e37 (own_ST.s0 P0) (g := (mkF m 34 #[rv pr0, iv 120, iv 0] [(.ref sg)])) rfl (hb hby d20_34)
      obtain ⟨T39, X39, e39, st39⟩ := getF X38 hx hZ hown (host := "") (Or.inl (own_w hw 55 rfl)) Via.refl e38 fc1 (g := (mkF m 45 #[rv pr0, iv 120, iv 0] [(.ref pr0)])) rfl rfl (hb hby d20_45)
      obtain ⟨T40, X40, e40, st40⟩ := getS2 X39 hx hZ hown (host := "") (Or.inl (own_w hw 121 rfl)) Via.refl e39 (own_ST.s1 P0) (g := (mkF m 48 #[rv pr0, iv 120, iv 0] [(.ref sg)])) rfl (hb hby d20_48)
      obtain ⟨T41, X41, e41, st41⟩ := getF X40 hx hZ hown (host := "") (Or.inl (own_w hw 77 rfl)) Via.refl e40 fp1 (g := (mkF m 186 #[rv pr0, iv 120, iv 0] [(.ref pr0)])) rfl rfl (hb hby d20_186)
      obtain ⟨T42, X42, e42, st42⟩ := getS2 X41 hx hZ hown (host := "") (Or.inl (own_w hw 74 rfl)) Via.refl e41 (own_ST.s3 P0) (g := (mkF m 189 #[rv pr0, iv 120, iv 0] [(.ref phD)])) rfl (hb hby d20_189)
      obtain ⟨T43, X43, e43, st43⟩ := getF X42 hx hZ hown (host := "") (Or.inl (own_w hw 77 rfl)) Via.refl e42 fp1 (g := (mkF m 218 #[rv pr0, iv 120, iv 0] [(.ref pr0)])) rfl rfl (hb hby d20_218)
      obtain ⟨T44, X44, e44, st44⟩ := getS2 X43 hx hZ hown (host := "") (Or.inl (own_w hw 123 rfl)) Via.refl e43 (own_ST.s4 P0) (g := (mkF m 221 #[rv pr0, iv 120, iv 0] [(.ref phD)])) rfl (hb hby d20_221)
      obtain ⟨T45, X45, e45, st45⟩ := getF X44 hx hZ hown (host := "") (Or.inl (own_w hw 77 rfl)) Via.refl e44 fp1 (g := (mkF m 228 #[rv pr0, iv 120, iv 0] [(.ref pr0)])) rfl rfl (hb hby d20_228)
      obtain ⟨T46, X46, e46, st46⟩ := getS2 X45 hx hZ hown (host := "") (Or.inl (own_w hw 125 rfl)) Via.refl e45 (own_ST.s5 P0) (g := (mkF m 231 #[rv pr0, iv 120, iv 0] [(.ref phD)])) rfl (hb hby d20_231)
      obtain ⟨T47, X47, e47, st47⟩ := getS2 X46 hx hZ hown (host := "") (Or.inl (own_w hw 127 rfl)) Via.refl e46 (own_ST.s6 P0) (g := (mkF m 238 #[rv pr0, iv 120, iv 0] [(.ref pr0)])) rfl (hb hby d20_238)
      obtain ⟨T48, h48, X48, e48, W48, st48⟩ := putF X47 hx hZ hown (host := "") (Or.inl (own_w hw 77 rfl)) Via.refl e47 fp1 P2 (Or.inl (own_w hw 78 rfl)) (own_w hw 13 rfl) (ty := (.object own_s9)) (by decide) rfl rfl (g := (mkF m 241 #[rv pr0, iv 120, iv 0] [(.ref phD), (.ref pr0)])) rfl rfl (hb hby d20_241)
      have K48 : Keep h0 h48 ([pr0] : List Addr) := (Keep.refl h0 ([pr0] : List Addr)).wr W48 (Or.inl (List.mem_of_getElem? (i := 0) rfl))
      have N48 := Fr.snoc X48 N0 P15
      have Z48 : n0 ≤ h48.size := Nat.le_trans Z0 (Keep.of_wr W48).1
      have Fw48 := fp1.same W48
      have f49 := (P0.wr W48)
      obtain ⟨T50, X50, e50, st50⟩ := getS2 X48 hx hZ hown (host := "") (Or.inl (own_w hw 111 rfl)) Via.refl e48 (own_ST.s7 f49) (g := (mkF m 244 #[rv pr0, iv 120, iv 0] [])) rfl (hb hby d20_244)
      have go51 : ∀ t, own_S p e below (T50.setTop (mkF m 247 #[rv pr0, iv 120, iv 0] [(.ref co)])) t → Steps p.tables e below st0 t := by
        intro t kt
        refine go0 t ?_
        refine XS.iloadN X0.here hx rfl (hb hby d20_0) rfl ?_
        refine XS.bipush X0.here hx rfl (hb hby d20_1) ?_
        show own_S p e below (s₁.setTop (mkF m 3 #[rv pr0, iv 120, .unset] [(.int 32), (.int 120)])) _
        refine XS.icmpNo X0.here hx rfl (hb hby d20_3) rfl (feq (by decide : ¬ ((120 : Int32) = (32 : Int32)))).1 ?_
        refine XS.iloadN X0.here hx rfl (hb hby d20_6) rfl ?_
        refine XS.bipush X0.here hx rfl (hb hby d20_7) ?_
        show own_S p e below (s₁.setTop (mkF m 9 #[rv pr0, iv 120, .unset] [(.int 9), (.int 120)])) _
        refine XS.icmpNo X0.here hx rfl (hb hby d20_9) rfl (feq (by decide : ¬ ((120 : Int32) = (9 : Int32)))).1 ?_
        refine XS.iloadN X0.here hx rfl (hb hby d20_12) rfl ?_
        refine XS.bipush X0.here hx rfl (hb hby d20_13) ?_
        show own_S p e below (s₁.setTop (mkF m 15 #[rv pr0, iv 120, .unset] [(.int 10), (.int 120)])) _
        refine XS.icmpNo X0.here hx rfl (hb hby d20_15) rfl (feq (by decide : ¬ ((120 : Int32) = (10 : Int32)))).1 ?_
        refine XS.iloadN X0.here hx rfl (hb hby d20_18) rfl ?_
        refine XS.bipush X0.here hx rfl (hb hby d20_19) ?_
        show own_S p e below (s₁.setTop (mkF m 21 #[rv pr0, iv 120, .unset] [(.int 13), (.int 120)])) _
        refine XS.icmpYes X0.here hx rfl (pc0 := 21) (pc' := 28) rfl (hb hby d20_21) rfl (feq (by decide : ¬ ((120 : Int32) = (13 : Int32)))).2 (by decide) (by decide) ?_
        refine XS.iconst X0.here hx rfl (hb hby d20_28) ?_
        show own_S p e below (s₁.setTop (mkF m 29 #[rv pr0, iv 120, .unset] [(.int 0)])) _
        refine XS.istoreN X0.here hx rfl (hb hby d20_29) rfl (l' := #[rv pr0, iv 120, iv 0]) rfl ?_
        refine XS.aloadN X0.here hx rfl (hb hby d20_30) rfl rfl ?_
        show own_S p e below (s₁.setTop (mkF m 31 #[rv pr0, iv 120, iv 0] [(.ref pr0)])) _
        refine st37 _ ?_
        show own_S p e below (T37.setTop (mkF m 34 #[rv pr0, iv 120, iv 0] [(.ref sg)])) _
        refine st38 _ ?_
        show own_S p e below (T38.setTop (mkF m 37 #[rv pr0, iv 120, iv 0] [(.ref ev), (.ref sg)])) _
        refine Jvm.RoadKit.acmp (g := (mkF m 37 #[rv pr0, iv 120, iv 0] [(.ref ev), (.ref sg)])) X38 hx rfl rfl rfl (pc0 := 37) (pc' := 44) (same := false) rfl (hb hby d20_37) rfl (decide_eq_false fun q => (own_NN.n1 P1) (Value.ref.inj q)) (by decide) (by decide) ?_
        refine XS.aloadN X38.here hx rfl (hb hby d20_44) rfl rfl ?_
        show own_S p e below (T38.setTop (mkF m 45 #[rv pr0, iv 120, iv 0] [(.ref pr0)])) _
        refine st39 _ ?_
        show own_S p e below (T39.setTop (mkF m 48 #[rv pr0, iv 120, iv 0] [(.ref sg)])) _
        refine st40 _ ?_
        show own_S p e below (T40.setTop (mkF m 51 #[rv pr0, iv 120, iv 0] [(.ref ns), (.ref sg)])) _
        refine Jvm.RoadKit.acmp (g := (mkF m 51 #[rv pr0, iv 120, iv 0] [(.ref ns), (.ref sg)])) X40 hx rfl rfl rfl (pc0 := 51) (pc' := 68) (same := false) rfl (hb hby d20_51) rfl (decide_eq_false fun q => (own_NN.n2 P1) (Value.ref.inj q)) (by decide) (by decide) ?_
        refine XS.iloadN X40.here hx rfl (hb hby d20_68) rfl ?_
        show own_S p e below (T40.setTop (mkF m 69 #[rv pr0, iv 120, iv 0] [(.int 0)])) _
        refine XS.ifYes X40.here hx rfl (pc0 := 69) (pc' := 93) rfl (hb hby d20_69) rfl ((if0 _ _).trans (teq (by decide : (0 : Int32) = (0 : Int32))).1) (by decide) (by decide) ?_
        refine XS.iloadN X40.here hx rfl (hb hby d20_93) rfl ?_
        refine XS.bipush X40.here hx rfl (hb hby d20_94) ?_
        show own_S p e below (T40.setTop (mkF m 96 #[rv pr0, iv 120, iv 0] [(.int 48), (.int 120)])) _
        refine XS.icmpYes X40.here hx rfl (pc0 := 96) (pc' := 159) rfl (hb hby d20_96) rfl (feq (by decide : ¬ ((120 : Int32) = (48 : Int32)))).2 (by decide) (by decide) ?_
        refine XS.iloadN X40.here hx rfl (hb hby d20_159) rfl ?_
        refine XS.bipush X40.here hx rfl (hb hby d20_160) ?_
        show own_S p e below (T40.setTop (mkF m 162 #[rv pr0, iv 120, iv 0] [(.int 46), (.int 120)])) _
        refine XS.icmpYes X40.here hx rfl (pc0 := 162) (pc' := 185) rfl (hb hby d20_162) rfl (feq (by decide : ¬ ((120 : Int32) = (46 : Int32)))).2 (by decide) (by decide) ?_
        refine XS.aloadN X40.here hx rfl (hb hby d20_185) rfl rfl ?_
        show own_S p e below (T40.setTop (mkF m 186 #[rv pr0, iv 120, iv 0] [(.ref pr0)])) _
        refine st41 _ ?_
        show own_S p e below (T41.setTop (mkF m 189 #[rv pr0, iv 120, iv 0] [(.ref phD)])) _
        refine st42 _ ?_
        show own_S p e below (T42.setTop (mkF m 192 #[rv pr0, iv 120, iv 0] [(.ref phS), (.ref phD)])) _
        refine Jvm.RoadKit.acmp (g := (mkF m 192 #[rv pr0, iv 120, iv 0] [(.ref phS), (.ref phD)])) X42 hx rfl rfl rfl (pc0 := 192) (pc' := 217) (same := false) rfl (hb hby d20_192) rfl (decide_eq_false fun q => (own_NN.n7 P1) (Value.ref.inj q)) (by decide) (by decide) ?_
        refine XS.aloadN X42.here hx rfl (hb hby d20_217) rfl rfl ?_
        show own_S p e below (T42.setTop (mkF m 218 #[rv pr0, iv 120, iv 0] [(.ref pr0)])) _
        refine st43 _ ?_
        show own_S p e below (T43.setTop (mkF m 221 #[rv pr0, iv 120, iv 0] [(.ref phD)])) _
        refine st44 _ ?_
        show own_S p e below (T44.setTop (mkF m 224 #[rv pr0, iv 120, iv 0] [(.ref phF), (.ref phD)])) _
        refine Jvm.RoadKit.acmp (g := (mkF m 224 #[rv pr0, iv 120, iv 0] [(.ref phF), (.ref phD)])) X44 hx rfl rfl rfl (pc0 := 224) (pc' := 227) (same := false) rfl (hb hby d20_224) rfl (decide_eq_false fun q => (own_NN.n5 P1) (Value.ref.inj q)) (by decide) (by decide) ?_
        refine XS.aloadN X44.here hx rfl (hb hby d20_227) rfl rfl ?_
        show own_S p e below (T44.setTop (mkF m 228 #[rv pr0, iv 120, iv 0] [(.ref pr0)])) _
        refine st45 _ ?_
        show own_S p e below (T45.setTop (mkF m 231 #[rv pr0, iv 120, iv 0] [(.ref phD)])) _
        refine st46 _ ?_
        show own_S p e below (T46.setTop (mkF m 234 #[rv pr0, iv 120, iv 0] [(.ref phA), (.ref phD)])) _
        refine Jvm.RoadKit.acmp (g := (mkF m 234 #[rv pr0, iv 120, iv 0] [(.ref phA), (.ref phD)])) X46 hx rfl rfl rfl (pc0 := 234) (pc' := 237) (same := false) rfl (hb hby d20_234) rfl (decide_eq_false fun q => (own_NN.n6 P1) (Value.ref.inj q)) (by decide) (by decide) ?_
        refine XS.aloadN X46.here hx rfl (hb hby d20_237) rfl rfl ?_
        show own_S p e below (T46.setTop (mkF m 238 #[rv pr0, iv 120, iv 0] [(.ref pr0)])) _
        refine st47 _ ?_
        show own_S p e below (T47.setTop (mkF m 241 #[rv pr0, iv 120, iv 0] [(.ref phD), (.ref pr0)])) _
        refine st48 _ ?_
        show own_S p e below (T48.setTop (mkF m 244 #[rv pr0, iv 120, iv 0] [])) _
        refine st50 _ ?_
        show own_S p e below (T50.setTop (mkF m 247 #[rv pr0, iv 120, iv 0] [(.ref co)])) _
        exact kt
      obtain ⟨fs, hr, hrun, hended, hW, hsame⟩ := X50.leave (v := some (.ref co)) (fun h => by rw [Bd.returns] at h; cases h)
      refine ⟨_, _, go51 _ ?_, hrun, hended, _, _, rfl, ?_, ⟨_, rfl⟩, hW, hsame.mono (by decide) (by decide)⟩
      · jvm_step X50.here [X50.here.top, hx, (hb hby d20_247), X50.method', Bd.returns, Value.isRef, FieldType.isReference]
        first | (intro acts; rw [hr _ acts rfl rfl rfl]) | rw [hr _ _ rfl rfl rfl]
        exact Steps.refl _
      · show Q_own_role Z pr0 ev ns sg phS phF phA phD co ct ph wz wm wl wp wo wc h0 n0 _ T50.heap _
        rw [e50]
        have f52 := (P2.wr W48)
        have f53 := (fc1.other W48 (Or.inr (own_sn66 hw)))
        have f54 := (P4.other W48 (Or.inr (own_sn74 hw)))
        have f55 := (P5.other W48 (Or.inr (own_sn81 hw)))
        have f56 := (P6.other W48 (Or.inr (own_sn87 hw)))
        have f57 := (P7.other W48 (Or.inr (own_sn92 hw)))
        have f58 := (P8.other W48 (Or.inr (own_sn96 hw)))
        have f59 := (P9.other W48 (Or.inr (own_sn99 hw)))
        have f60 := (P11.other W48 (Or.inr (own_sn50 hw)))
        have f61 : Fld Z h48 pr0 own_s0 own_s3 "J" (.long 0) := (P12.other W48 (Or.inr (own_sn58 hw)))
        exact ⟨N48, phD, rfl, K48, f52, (by rw [hT1]; exact f53), f54, f55, f56, f57, f58, f59, Fw48, f60, f61, (Or.inr rfl)⟩
theorem own_x120 {i : Int32} (h : ¬ (i < 0) ∧ i < (8 : Int32)) : ([(.int 120), (.int 120), (.int 120), (.int 120), (.int 120), (.int 120), (.int 120), (.int 120)] : List Value).getD i.toNatClampNeg (.int 0) = (.int 120) := by
  have e : ([(.int 120), (.int 120), (.int 120), (.int 120), (.int 120), (.int 120), (.int 120), (.int 120)] : List Value) = List.replicate 8 (.int 120) := rfl
  have q0 : (0 : Int32).toInt = 0 := rfl
  have q8 : (8 : Int32).toInt = 8 := rfl
  have h2 : i.toNatClampNeg < 8 := by
    obtain ⟨h0, h1⟩ := h
    rw [Int32.lt_iff_toInt_lt] at h0 h1
    simp only [Int32.toNatClampNeg]; omega
  rw [e, List.getD_eq_getElem?_getD, List.getElem?_replicate, if_pos h2]
  rfl
theorem own_ltn {a b n : Int32} (h : a < b) (hb : ¬ (n < b)) : a < ((0 : Int32) + n) := by
  rw [Int32.zero_add]
  rw [Int32.lt_iff_toInt_lt] at *
  omega
theorem own_ltE {x : Int64} {b n : Int32} (h : x < b.toInt64) (hb : ¬ (n < b)) : x < ((((0 : Int32) + n) - (0 : Int32)).toInt64) := by
  rw [Int32.zero_add, Int32.sub_zero]
  rw [Int32.lt_iff_toInt_lt] at hb
  rw [Int64.lt_iff_toInt_lt, c_i2l] at *
  omega

set_option maxRecDepth 65536 in
set_option maxHeartbeats 40000000 in
theorem own_wt0 {p : Program} {l : Launch} {e : Env} {s : State} {m : MethodId} {args : Array Value} {below : List Frame} {meth : Method} {c : Code} {T0 : State} {locs : List Loc} {Z : State} {a0 : Array Value} {h0 : Heap} {n0 : Nat} (th : Addr) (ch : Addr) (en : Int32) (i : Int32) (ev : Addr) (ns : Addr) (sg : Addr) (phS : Addr) (phF : Addr) (phA : Addr) (phD : Addr) (co : Addr) (ct : Addr) (ph : Addr) (wz : Int32) (wm : Int64) (wl : Int64) (wo : Int32) (wc : Int64) (kc : ClassId) (X0 : Stand p l e ({ frames := 2, cells := 0, slots := 0, locals := 40 } : Room) s m args below meth c T0 locs 0 0) (hx : p.tables.exec = Jvm.exec) (hZ : Z.Warmed39 s.vm) (hw : ∀ d ∈ tables_1, d.before a0 Z = true) (hby : c.code = prog_127_method_11_code) (hml : c.maxLocals = 6) (hown : s.vm.findClass own_s0 = some m.cls) (e0 : T0.heap = h0) (N0 : Fr n0 locs) (Z0 : n0 ≤ h0.size) (P0 : own_ST Z h0 ev ns sg phS phF phA phD co) (P1 : own_NN ev ns sg phS phF phA phD co) (P2 : Exa Z h0 th own_s0) (P3 : Fld Z h0 th own_s0 "count" own_s1 (.ref ct)) (P4 : Fld Z h0 th own_s0 own_s2 "Z" (.int wz)) (P5 : Fld Z h0 th own_s0 "most" "J" (.long wm)) (P6 : Fld Z h0 th own_s0 "length" "J" (.long wl)) (P7 : Fld Z h0 th own_s0 "past" "Z" (.int 0)) (P8 : Fld Z h0 th own_s0 "over" "Z" (.int wo)) (P9 : Fld Z h0 th own_s0 "counted" "J" (.long wc)) (P10 : Fld Z h0 th own_s0 "phase" own_s4 (.ref ph)) (P11 : Fld Z h0 th own_s0 "run" own_s5 .null) (P12 : Fld Z h0 th own_s0 own_s3 "J" (.long 0)) (P13 : ct = ev ∨ ct = ns ∨ ct = sg) (P14 : ph = phS ∨ ph = phD) (P15 : Arv Z h0 ch kc .char (8 : Int32) [(.int 120), (.int 120), (.int 120), (.int 120), (.int 120), (.int 120), (.int 120), (.int 120)] (.int 0)) (P16 : ch ≠ th) (P17 : n0 ≤ th) (P18 : ¬ (i < 0) ∧ i < (8 : Int32)) (P19 : i < en) (P20 : ¬ (wm < (wl + (1 : Int64)))) :
    ∃ (T' : State) (h' : Heap) (L' : List Loc) (ph2 : Addr), Stand p l e ({ frames := 2, cells := 0, slots := 0, locals := 40 } : Room) s m args below meth c T' L' 0 0 ∧ T'.heap = h' ∧ Fr n0 L' ∧ Keep h0 h' ([th] : List Addr) ∧ n0 ≤ h'.size ∧ Exa Z h' th own_s0 ∧ Fld Z h' th own_s0 "count" own_s1 (.ref ct) ∧ Fld Z h' th own_s0 own_s2 "Z" (.int wz) ∧ Fld Z h' th own_s0 "most" "J" (.long wm) ∧ Fld Z h' th own_s0 "length" "J" (.long (wl + (1 : Int64))) ∧ Fld Z h' th own_s0 "past" "Z" (.int 0) ∧ Fld Z h' th own_s0 "over" "Z" (.int wo) ∧ Fld Z h' th own_s0 "counted" "J" (.long wc) ∧ Fld Z h' th own_s0 "phase" own_s4 (.ref ph2) ∧ Fld Z h' th own_s0 "run" own_s5 .null ∧ Fld Z h' th own_s0 own_s3 "J" (.long 0) ∧ (ph2 = phS ∨ ph2 = phD) ∧ ∀ t, Steps p.tables e below (T'.setTop (mkF m 69 #[rv th, rv ch, iv 0, iv en, .val (.int (i + (1 : Int32))), iv 120] [])) t → own_S p e below (T0.setTop (mkF m 69 #[rv th, rv ch, iv 0, iv en, iv i, .unset] [])) t := by
  obtain ⟨st0, hst0⟩ : ∃ zst, zst = T0.setTop (mkF m 69 #[rv th, rv ch, iv 0, iv en, iv i, .unset] []) := ⟨_, rfl⟩
  have go0 : ∀ t, own_S p e below (T0.setTop (mkF m 69 #[rv th, rv ch, iv 0, iv en, iv i, .unset] [])) t → Steps p.tables e below st0 t := fun t k => by rw [hst0]; exact k
  rw [← hst0]
  obtain ⟨cl1, Ar1, q1, S1, N1, H1, G1⟩ := id P15
  have hin1 : ¬ (i < 0 ∨ cl1.slots.size ≤ (i).toNatClampNeg) := inb_of S1 P18
  have hat1 : cl1.slots[(i).toNatClampNeg]? = some (.int 120) := Has.at H1 hin1 (own_x120 P18)
  obtain ⟨_, _, ⟨T2, L2, k2, n2⟩, -, X2, ⟨Lc2, hQ2, l2, y2, z2⟩, st2⟩ := Jvm.LawKit.callS X0 hx (y := (⟨own_s12, own_s15, "(C)Z"⟩ : MethodName)) hown (mvT hZ (own_w hw 114 rfl)) (mvT hZ (own_w hw 115 rfl)) (mvT hZ (own_w hw 116 rfl)) (mvT hZ (own_w hw 117 rfl)) (by decide) (backOf (W := 0) (own_low l Z a0 hw []  h0 n0 Z0 ) hZ (own_w hw 117 rfl) (own_w hw 116 rfl) (by decide) (by decide)) (g := (mkF m 83 #[rv th, rv ch, iv 0, iv en, iv i, iv 120] [(.int 120)])) rfl (by rw [hml]; rfl) (argsL := [(.int 120)]) (rest := []) (lenOf pd_22 rfl) rfl (by show 2 * 0 + _ ≤ _; exact Nat.le_of_eq rfl) (hb hby d21_83) (fun _ _ => ⟨rfl, e0, (by decide : 0 + 0 ≤ _), (by decide : 0 + 0 ≤ _)⟩)
  dsimp only [Pt.U, Pt.locs, Pt.cells, Pt.slots] at X2 l2 y2 z2 st2 hQ2
  subst l2 y2 z2
  obtain ⟨rfl, Nq2, e2⟩ := hQ2
  have N2 := Fr.app N0 Nq2
  obtain ⟨T3, X3, e3, st3⟩ := getF X2 hx hZ hown (host := "") (Or.inl (own_w hw 66 rfl)) Via.refl e2 P6 (g := (mkF m 91 #[rv th, rv ch, iv 0, iv en, iv i, iv 120] [(.ref th), (.ref th)])) rfl rfl (hb hby d21_91)
  obtain ⟨T4, h4, X4, e4, W4, st4⟩ := putF X3 hx hZ hown (host := "") (Or.inl (own_w hw 66 rfl)) Via.refl e3 P6 P2 (Or.inl (own_w hw 67 rfl)) (own_w hw 13 rfl) (ty := .long) (by decide) rfl rfl (g := (mkF m 97 #[rv th, rv ch, iv 0, iv en, iv i, iv 120] [(.long (wl + (1 : Int64))), (.ref th), (.long (wl + (1 : Int64)))])) rfl rfl (hb hby d21_97)
  have K4 : Keep h0 h4 ([th] : List Addr) := (Keep.refl h0 ([th] : List Addr)).wr W4 (Or.inl (List.mem_of_getElem? (i := 0) rfl))
  have N4 := Fr.snoc X4 N2 P17
  have Z4 : n0 ≤ h4.size := Nat.le_trans Z0 (Keep.of_wr W4).1
  have Fw4 := P6.same W4
  have f5 := (P5.other W4 (Or.inr (own_sn77 hw)))
  obtain ⟨T6, X6, e6, st6⟩ := getF X4 hx hZ hown (host := "") (Or.inl (own_w hw 64 rfl)) Via.refl e4 f5 (g := (mkF m 101 #[rv th, rv ch, iv 0, iv en, iv i, iv 120] [(.ref th), (.long (wl + (1 : Int64)))])) rfl rfl (hb hby d21_101)
  have f7 := (P0.wr W4)
  have f8 := (P2.wr W4)
  have f9 := (P3.other W4 (Or.inr (own_sn62 hw)))
  have f10 := (P4.other W4 (Or.inr (own_sn70 hw)))
  have f11 : Fld Z h4 th own_s0 "past" "Z" (.int 0) := (P7.other W4 (Or.inr (own_sn24 hw)))
  have f12 := (P8.other W4 (Or.inr (own_sn28 hw)))
  have f13 := (P9.other W4 (Or.inr (own_sn33 hw)))
  have f14 := (P10.other W4 (Or.inr (own_sn39 hw)))
  have f15 := (P11.other W4 (Or.inr (own_sn46 hw)))
  have f16 : Fld Z h4 th own_s0 own_s3 "J" (.long 0) := (P12.other W4 (Or.inr (own_sn54 hw)))
  obtain ⟨cq17, q17, q17'⟩ := f8.cell
  obtain ⟨_, _, ⟨T17, L17, k17, n17⟩, -, X17, ⟨Lc17, hQ17, l17, y17, z17⟩, st17⟩ := X6.privateBack hx (y := (⟨own_s0, "role", own_s14⟩ : MethodName)) hown (mvT hZ (own_w hw 107 rfl)) (mvT hZ (own_w hw 108 rfl)) (Jvm.Kit.selects_private (by decide) (mvT hZ (own_w hw 13 rfl)) (mvP hZ (own_w hw 109 rfl)) (mvT hZ (own_w hw 108 rfl))) (Cond.privateMethod_at (mvP hZ (own_w hw 109 rfl) (args := #[]))) (mvT hZ (own_w hw 110 rfl)) (by decide) (backOf (W := 0) (own_role l Z a0 hw [] th ev ns sg phS phF phA phD co ct ph wz wm (wl + (1 : Int64)) (0 : Int32) wo wc h4 n0 Z4 f7 P1 f8 f9 f10 f5 Fw4 f11 f12 f13 f14 f15 f16 P13 P14 P17) hZ (own_w hw 110 rfl) (own_w hw 14 rfl) (by decide) (by decide)) (g := (mkF m 119 #[rv th, rv ch, iv 0, iv en, iv i, iv 120] [(.int 120), (.ref th)])) rfl (by rw [hml]; rfl) (Steps.refl _) (a := th) (by rw [e6]; exact q17) q17' (argsL := [(.int 120)]) (rest := []) (lenOf pd_23 rfl) rfl (by show 2 * 0 + _ ≤ _; exact Nat.le_of_eq rfl) (hb hby d21_119) (fun _ _ => ⟨rfl, e6, (by decide : 0 + 0 ≤ _), (by decide : 0 + 0 ≤ _)⟩)
  dsimp only [Pt.U, Pt.locs, Pt.cells, Pt.slots] at X17 l17 y17 z17 st17 hQ17
  subst l17 y17 z17
  obtain ⟨Nq17, y17_0, rfl, Kc17, p17_0, p17_1, p17_2, p17_3, p17_4, p17_5, p17_6, p17_7, p17_8, p17_9, p17_10, p17_11⟩ := hQ17
  have N17 := Fr.app N4 Nq17
  have K17 : Keep h0 T17.heap ([th] : List Addr) := K4.trans Kc17 (allS (P := fun x => x ∈ ([th] : List Addr) ∨ h0.size ≤ x) (Or.inl (List.mem_of_getElem? (i := 0) rfl)) all0)
  have Z17 : n0 ≤ T17.heap.size := Nat.le_trans Z4 Kc17.1
  have go18 : ∀ t, own_S p e below (T17.setTop (mkF m 69 #[rv th, rv ch, iv 0, iv en, .val (.int (i + (1 : Int32))), iv 120] [])) t → Steps p.tables e below st0 t := by
    intro t kt
    refine go0 t ?_
    refine XS.iload X0.here hx rfl (hb hby d21_69) rfl ?_
    refine XS.iloadN X0.here hx rfl (hb hby d21_71) rfl ?_
    show own_S p e below (T0.setTop (mkF m 72 #[rv th, rv ch, iv 0, iv en, iv i, .unset] [(.int en), (.int i)])) _
    refine XS.icmpNo X0.here hx rfl (hb hby d21_72) rfl (tlt P19).2.1 ?_
    refine XS.aloadN X0.here hx rfl (hb hby d21_75) rfl rfl ?_
    refine XS.iload X0.here hx rfl (hb hby d21_76) rfl ?_
    show own_S p e below (T0.setTop (mkF m 78 #[rv th, rv ch, iv 0, iv en, iv i, .unset] [(.int i), (.ref ch)])) _
    refine X0.caload hx (j := i) (v := (.int 120)) (by rw [e0]; exact Ar1.1) (State.isArrayOf_alike hZ.alike Ar1.2.1) Ar1.2.2 hin1 hat1 (g := (mkF m 78 #[rv th, rv ch, iv 0, iv en, iv i, .unset] [(.int i), (.ref ch)])) rfl rfl (hb hby d21_78) _ ?_
    show own_S p e below (T0.setTop (mkF m 79 #[rv th, rv ch, iv 0, iv en, iv i, .unset] [(.int 120)])) _
    refine XS.istore X0.here hx rfl (hb hby d21_79) rfl (l' := #[rv th, rv ch, iv 0, iv en, iv i, iv 120]) rfl ?_
    refine XS.iload X0.here hx rfl (hb hby d21_81) rfl ?_
    show own_S p e below (T0.setTop (mkF m 83 #[rv th, rv ch, iv 0, iv en, iv i, iv 120] [(.int 120)])) _
    refine st2 _ ?_
    show own_S p e below (T2.setTop (mkF m 86 #[rv th, rv ch, iv 0, iv en, iv i, iv 120] [(.int 0)])) _
    refine XS.ifNo X2.here hx rfl (hb hby d21_86) rfl ((if0 _ _).trans (teq (by decide : (0 : Int32) = (0 : Int32))).2) ?_
    refine XS.aloadN X2.here hx rfl (hb hby d21_89) rfl rfl ?_
    refine XS.dup X2.here hx rfl (hb hby d21_90) rfl rfl ?_
    show own_S p e below (T2.setTop (mkF m 91 #[rv th, rv ch, iv 0, iv en, iv i, iv 120] [(.ref th), (.ref th)])) _
    refine st3 _ ?_
    refine XS.lconst X3.here hx rfl (hb hby d21_94) ?_
    refine XS.ladd X3.here hx rfl (hb hby d21_95) rfl ?_
    show own_S p e below (T3.setTop (mkF m 96 #[rv th, rv ch, iv 0, iv en, iv i, iv 120] [(.long (wl + (1 : Int64))), (.ref th)])) _
    jvm_step X3.here [X3.here.top, hx, (hb hby d21_96), Value.category]
    show own_S p e below (T3.setTop (mkF m 97 #[rv th, rv ch, iv 0, iv en, iv i, iv 120] [(.long (wl + (1 : Int64))), (.ref th), (.long (wl + (1 : Int64)))])) _
    refine st4 _ ?_
    refine XS.aloadN X4.here hx rfl (hb hby d21_100) rfl rfl ?_
    show own_S p e below (T4.setTop (mkF m 101 #[rv th, rv ch, iv 0, iv en, iv i, iv 120] [(.ref th), (.long (wl + (1 : Int64)))])) _
    refine st6 _ ?_
    show own_S p e below (T6.setTop (mkF m 104 #[rv th, rv ch, iv 0, iv en, iv i, iv 120] [(.long wm), (.long (wl + (1 : Int64)))])) _
    refine XS.lcmp X6.here hx rfl (hb hby d21_104) rfl ?_
    show own_S p e below (T6.setTop (mkF m 105 #[rv th, rv ch, iv 0, iv en, iv i, iv 120] [(.int (lcmpW (wl + (1 : Int64)) wm))])) _
    refine XS.ifYes X6.here hx rfl (pc0 := 105) (pc' := 116) rfl (hb hby d21_105) rfl (Jvm.Free.XT.ll_le_t P20) (by decide) (by decide) ?_
    refine XS.aloadN X6.here hx rfl (hb hby d21_116) rfl rfl ?_
    refine XS.iload X6.here hx rfl (hb hby d21_117) rfl ?_
    show own_S p e below (T6.setTop (mkF m 119 #[rv th, rv ch, iv 0, iv en, iv i, iv 120] [(.int 120), (.ref th)])) _
    refine st17.trans ?_
    show own_S p e below (T17.setTop (mkF m 122 #[rv th, rv ch, iv 0, iv en, iv i, iv 120] [(.ref co)])) _
    refine XS.pop X17.here hx rfl (hb hby d21_122) rfl rfl ?_
    show own_S p e below (T17.setTop (mkF m 123 #[rv th, rv ch, iv 0, iv en, iv i, iv 120] [])) _
    refine XS.iinc X17.here hx rfl (hb hby d21_123) rfl (l' := #[rv th, rv ch, iv 0, iv en, .val (.int (i + (1 : Int32))), iv 120]) rfl ?_
    show own_S p e below (T17.setTop (mkF m 126 #[rv th, rv ch, iv 0, iv en, .val (.int (i + (1 : Int32))), iv 120] [])) _
    refine XS.goto X17.here hx rfl (pc0 := 126) (pc' := 69) rfl (hb hby d21_126) (by decide) (by decide) ?_
    show own_S p e below (T17.setTop (mkF m 69 #[rv th, rv ch, iv 0, iv en, .val (.int (i + (1 : Int32))), iv 120] [])) _
    exact kt
  exact ⟨_, _, _, y17_0, own_mono X17 (by decide) (by decide), rfl, N17, K17, Z17, p17_0, p17_1, p17_2, p17_3, p17_4, p17_5, p17_6, p17_7, p17_8, p17_9, p17_10, p17_11, go18⟩
set_option maxRecDepth 65536 in
set_option maxHeartbeats 40000000 in
theorem own_we0 {p : Program} {l : Launch} {e : Env} {s : State} {m : MethodId} {args : Array Value} {below : List Frame} {meth : Method} {c : Code} {T0 : State} {locs : List Loc} {Z : State} {a0 : Array Value} {h0 : Heap} {n0 : Nat} (th : Addr) (ch : Addr) (en : Int32) (i : Int32) (ev : Addr) (ns : Addr) (sg : Addr) (phS : Addr) (phF : Addr) (phA : Addr) (phD : Addr) (co : Addr) (ct : Addr) (ph : Addr) (wz : Int32) (wm : Int64) (wl : Int64) (wo : Int32) (wc : Int64) (kc : ClassId) (X0 : Stand p l e ({ frames := 2, cells := 0, slots := 0, locals := 40 } : Room) s m args below meth c T0 locs 0 0) (hx : p.tables.exec = Jvm.exec) (hZ : Z.Warmed39 s.vm) (hw : ∀ d ∈ tables_1, d.before a0 Z = true) (hby : c.code = prog_127_method_11_code) (hml : c.maxLocals = 6) (hown : s.vm.findClass own_s0 = some m.cls) (e0 : T0.heap = h0) (N0 : Fr n0 locs) (Z0 : n0 ≤ h0.size) (P0 : own_ST Z h0 ev ns sg phS phF phA phD co) (P1 : own_NN ev ns sg phS phF phA phD co) (P2 : Exa Z h0 th own_s0) (P3 : Fld Z h0 th own_s0 "count" own_s1 (.ref ct)) (P4 : Fld Z h0 th own_s0 own_s2 "Z" (.int wz)) (P5 : Fld Z h0 th own_s0 "most" "J" (.long wm)) (P6 : Fld Z h0 th own_s0 "length" "J" (.long wl)) (P7 : Fld Z h0 th own_s0 "past" "Z" (.int 0)) (P8 : Fld Z h0 th own_s0 "over" "Z" (.int wo)) (P9 : Fld Z h0 th own_s0 "counted" "J" (.long wc)) (P10 : Fld Z h0 th own_s0 "phase" own_s4 (.ref ph)) (P11 : Fld Z h0 th own_s0 "run" own_s5 .null) (P12 : Fld Z h0 th own_s0 own_s3 "J" (.long 0)) (P13 : ct = ev ∨ ct = ns ∨ ct = sg) (P14 : ph = phS ∨ ph = phD) (P15 : Arv Z h0 ch kc .char (8 : Int32) [(.int 120), (.int 120), (.int 120), (.int 120), (.int 120), (.int 120), (.int 120), (.int 120)] (.int 0)) (P16 : ch ≠ th) (P17 : n0 ≤ th) (P18 : ¬ (i < 0) ∧ i < (8 : Int32)) (P19 : i < en) (P20 : wm < (wl + (1 : Int64))) :
    ∃ (T' : State) (h' : Heap) (L' : List Loc), Stand p l e ({ frames := 2, cells := 0, slots := 0, locals := 40 } : Room) s m args below meth c T' L' 0 0 ∧ T'.heap = h' ∧ Fr n0 L' ∧ Keep h0 h' ([th] : List Addr) ∧ n0 ≤ h'.size ∧ Exa Z h' th own_s0 ∧ Fld Z h' th own_s0 "count" own_s1 (.ref ct) ∧ Fld Z h' th own_s0 own_s2 "Z" (.int wz) ∧ Fld Z h' th own_s0 "most" "J" (.long wm) ∧ Fld Z h' th own_s0 "length" "J" (.long (wl + (1 : Int64))) ∧ Fld Z h' th own_s0 "past" "Z" (.int 1) ∧ Fld Z h' th own_s0 "over" "Z" (.int wo) ∧ Fld Z h' th own_s0 "counted" "J" (.long wc) ∧ Fld Z h' th own_s0 "phase" own_s4 (.ref ph) ∧ Fld Z h' th own_s0 "run" own_s5 .null ∧ Fld Z h' th own_s0 own_s3 "J" (.long 0) ∧ ∀ t, Steps p.tables e below (T'.setTop (mkF m 113 #[rv th, rv ch, iv 0, iv en, iv i, iv 120] [])) t → own_S p e below (T0.setTop (mkF m 69 #[rv th, rv ch, iv 0, iv en, iv i, .unset] [])) t := by
  obtain ⟨st0, hst0⟩ : ∃ zst, zst = T0.setTop (mkF m 69 #[rv th, rv ch, iv 0, iv en, iv i, .unset] []) := ⟨_, rfl⟩
  have go0 : ∀ t, own_S p e below (T0.setTop (mkF m 69 #[rv th, rv ch, iv 0, iv en, iv i, .unset] [])) t → Steps p.tables e below st0 t := fun t k => by rw [hst0]; exact k
  rw [← hst0]
  obtain ⟨cl1, Ar1, q1, S1, N1, H1, G1⟩ := id P15
  have hin1 : ¬ (i < 0 ∨ cl1.slots.size ≤ (i).toNatClampNeg) := inb_of S1 P18
  have hat1 : cl1.slots[(i).toNatClampNeg]? = some (.int 120) := Has.at H1 hin1 (own_x120 P18)
  obtain ⟨_, _, ⟨T2, L2, k2, n2⟩, -, X2, ⟨Lc2, hQ2, l2, y2, z2⟩, st2⟩ := Jvm.LawKit.callS X0 hx (y := (⟨own_s12, own_s15, "(C)Z"⟩ : MethodName)) hown (mvT hZ (own_w hw 114 rfl)) (mvT hZ (own_w hw 115 rfl)) (mvT hZ (own_w hw 116 rfl)) (mvT hZ (own_w hw 117 rfl)) (by decide) (backOf (W := 0) (own_low l Z a0 hw []  h0 n0 Z0 ) hZ (own_w hw 117 rfl) (own_w hw 116 rfl) (by decide) (by decide)) (g := (mkF m 83 #[rv th, rv ch, iv 0, iv en, iv i, iv 120] [(.int 120)])) rfl (by rw [hml]; rfl) (argsL := [(.int 120)]) (rest := []) (lenOf pd_22 rfl) rfl (by show 2 * 0 + _ ≤ _; exact Nat.le_of_eq rfl) (hb hby d21_83) (fun _ _ => ⟨rfl, e0, (by decide : 0 + 0 ≤ _), (by decide : 0 + 0 ≤ _)⟩)
  dsimp only [Pt.U, Pt.locs, Pt.cells, Pt.slots] at X2 l2 y2 z2 st2 hQ2
  subst l2 y2 z2
  obtain ⟨rfl, Nq2, e2⟩ := hQ2
  have N2 := Fr.app N0 Nq2
  obtain ⟨T3, X3, e3, st3⟩ := getF X2 hx hZ hown (host := "") (Or.inl (own_w hw 66 rfl)) Via.refl e2 P6 (g := (mkF m 91 #[rv th, rv ch, iv 0, iv en, iv i, iv 120] [(.ref th), (.ref th)])) rfl rfl (hb hby d21_91)
  obtain ⟨T4, h4, X4, e4, W4, st4⟩ := putF X3 hx hZ hown (host := "") (Or.inl (own_w hw 66 rfl)) Via.refl e3 P6 P2 (Or.inl (own_w hw 67 rfl)) (own_w hw 13 rfl) (ty := .long) (by decide) rfl rfl (g := (mkF m 97 #[rv th, rv ch, iv 0, iv en, iv i, iv 120] [(.long (wl + (1 : Int64))), (.ref th), (.long (wl + (1 : Int64)))])) rfl rfl (hb hby d21_97)
  have K4 : Keep h0 h4 ([th] : List Addr) := (Keep.refl h0 ([th] : List Addr)).wr W4 (Or.inl (List.mem_of_getElem? (i := 0) rfl))
  have N4 := Fr.snoc X4 N2 P17
  have Z4 : n0 ≤ h4.size := Nat.le_trans Z0 (Keep.of_wr W4).1
  have Fw4 := P6.same W4
  have f5 := (P5.other W4 (Or.inr (own_sn77 hw)))
  obtain ⟨T6, X6, e6, st6⟩ := getF X4 hx hZ hown (host := "") (Or.inl (own_w hw 64 rfl)) Via.refl e4 f5 (g := (mkF m 101 #[rv th, rv ch, iv 0, iv en, iv i, iv 120] [(.ref th), (.long (wl + (1 : Int64)))])) rfl rfl (hb hby d21_101)
  have f7 : Fld Z h4 th own_s0 "past" "Z" (.int 0) := (P7.other W4 (Or.inr (own_sn24 hw)))
  have f8 := (P2.wr W4)
  obtain ⟨T9, h9, X9, e9, W9, st9⟩ := putFN X6 hx hZ hown (own_w hw 68 rfl) Via.refl e6 f7 f8 (Or.inl (own_w hw 69 rfl)) (own_w hw 13 rfl) (ty := .boolean) (v' := (.int 1)) (by decide) rfl rfl (g := (mkF m 110 #[rv th, rv ch, iv 0, iv en, iv i, iv 120] [(.int 1), (.ref th)])) rfl rfl (hb hby d21_110)
  have K9 : Keep h0 h9 ([th] : List Addr) := K4.wr W9 (Or.inl (List.mem_of_getElem? (i := 0) rfl))
  have N9 := Fr.snoc X9 N4 P17
  have Z9 : n0 ≤ h9.size := Nat.le_trans Z4 (Keep.of_wr W9).1
  have Fw9 := f7.same W9
  have go10 : ∀ t, own_S p e below (T9.setTop (mkF m 113 #[rv th, rv ch, iv 0, iv en, iv i, iv 120] [])) t → Steps p.tables e below st0 t := by
    intro t kt
    refine go0 t ?_
    refine XS.iload X0.here hx rfl (hb hby d21_69) rfl ?_
    refine XS.iloadN X0.here hx rfl (hb hby d21_71) rfl ?_
    show own_S p e below (T0.setTop (mkF m 72 #[rv th, rv ch, iv 0, iv en, iv i, .unset] [(.int en), (.int i)])) _
    refine XS.icmpNo X0.here hx rfl (hb hby d21_72) rfl (tlt P19).2.1 ?_
    refine XS.aloadN X0.here hx rfl (hb hby d21_75) rfl rfl ?_
    refine XS.iload X0.here hx rfl (hb hby d21_76) rfl ?_
    show own_S p e below (T0.setTop (mkF m 78 #[rv th, rv ch, iv 0, iv en, iv i, .unset] [(.int i), (.ref ch)])) _
    refine X0.caload hx (j := i) (v := (.int 120)) (by rw [e0]; exact Ar1.1) (State.isArrayOf_alike hZ.alike Ar1.2.1) Ar1.2.2 hin1 hat1 (g := (mkF m 78 #[rv th, rv ch, iv 0, iv en, iv i, .unset] [(.int i), (.ref ch)])) rfl rfl (hb hby d21_78) _ ?_
    show own_S p e below (T0.setTop (mkF m 79 #[rv th, rv ch, iv 0, iv en, iv i, .unset] [(.int 120)])) _
    refine XS.istore X0.here hx rfl (hb hby d21_79) rfl (l' := #[rv th, rv ch, iv 0, iv en, iv i, iv 120]) rfl ?_
    refine XS.iload X0.here hx rfl (hb hby d21_81) rfl ?_
    show own_S p e below (T0.setTop (mkF m 83 #[rv th, rv ch, iv 0, iv en, iv i, iv 120] [(.int 120)])) _
    refine st2 _ ?_
    show own_S p e below (T2.setTop (mkF m 86 #[rv th, rv ch, iv 0, iv en, iv i, iv 120] [(.int 0)])) _
    refine XS.ifNo X2.here hx rfl (hb hby d21_86) rfl ((if0 _ _).trans (teq (by decide : (0 : Int32) = (0 : Int32))).2) ?_
    refine XS.aloadN X2.here hx rfl (hb hby d21_89) rfl rfl ?_
    refine XS.dup X2.here hx rfl (hb hby d21_90) rfl rfl ?_
    show own_S p e below (T2.setTop (mkF m 91 #[rv th, rv ch, iv 0, iv en, iv i, iv 120] [(.ref th), (.ref th)])) _
    refine st3 _ ?_
    refine XS.lconst X3.here hx rfl (hb hby d21_94) ?_
    refine XS.ladd X3.here hx rfl (hb hby d21_95) rfl ?_
    show own_S p e below (T3.setTop (mkF m 96 #[rv th, rv ch, iv 0, iv en, iv i, iv 120] [(.long (wl + (1 : Int64))), (.ref th)])) _
    jvm_step X3.here [X3.here.top, hx, (hb hby d21_96), Value.category]
    show own_S p e below (T3.setTop (mkF m 97 #[rv th, rv ch, iv 0, iv en, iv i, iv 120] [(.long (wl + (1 : Int64))), (.ref th), (.long (wl + (1 : Int64)))])) _
    refine st4 _ ?_
    refine XS.aloadN X4.here hx rfl (hb hby d21_100) rfl rfl ?_
    show own_S p e below (T4.setTop (mkF m 101 #[rv th, rv ch, iv 0, iv en, iv i, iv 120] [(.ref th), (.long (wl + (1 : Int64)))])) _
    refine st6 _ ?_
    show own_S p e below (T6.setTop (mkF m 104 #[rv th, rv ch, iv 0, iv en, iv i, iv 120] [(.long wm), (.long (wl + (1 : Int64)))])) _
    refine XS.lcmp X6.here hx rfl (hb hby d21_104) rfl ?_
    show own_S p e below (T6.setTop (mkF m 105 #[rv th, rv ch, iv 0, iv en, iv i, iv 120] [(.int (lcmpW (wl + (1 : Int64)) wm))])) _
    refine XS.ifNo X6.here hx rfl (hb hby d21_105) rfl (Jvm.Free.XT.ll_le_f P20) ?_
    refine XS.aloadN X6.here hx rfl (hb hby d21_108) rfl rfl ?_
    refine XS.iconst X6.here hx rfl (hb hby d21_109) ?_
    show own_S p e below (T6.setTop (mkF m 110 #[rv th, rv ch, iv 0, iv en, iv i, iv 120] [(.int 1), (.ref th)])) _
    refine st9 _ ?_
    show own_S p e below (T9.setTop (mkF m 113 #[rv th, rv ch, iv 0, iv en, iv i, iv 120] [])) _
    exact kt
  have f11 := (f8.wr W9)
  have f12 := ((P3.other W4 (Or.inr (own_sn62 hw))).other W9 (Or.inr (own_sn63 hw)))
  have f13 := ((P4.other W4 (Or.inr (own_sn70 hw))).other W9 (Or.inr (own_sn71 hw)))
  have f14 := (f5.other W9 (Or.inr (own_sn78 hw)))
  have f15 := (Fw4.other W9 (Or.inr (own_sn84 hw)))
  have f16 := ((P8.other W4 (Or.inr (own_sn28 hw))).other W9 (Or.inr (own_sn29 hw)))
  have f17 := ((P9.other W4 (Or.inr (own_sn33 hw))).other W9 (Or.inr (own_sn34 hw)))
  have f18 := ((P10.other W4 (Or.inr (own_sn39 hw))).other W9 (Or.inr (own_sn40 hw)))
  have f19 := ((P11.other W4 (Or.inr (own_sn46 hw))).other W9 (Or.inr (own_sn47 hw)))
  have f20 : Fld Z h9 th own_s0 own_s3 "J" (.long 0) := ((P12.other W4 (Or.inr (own_sn54 hw))).other W9 (Or.inr (own_sn55 hw)))
  exact ⟨_, _, _, own_mono X9 (by decide) (by decide), e9, N9, K9, Z9, f11, f12, f13, f14, f15, Fw9, f16, f17, f18, f19, f20, go10⟩
set_option maxRecDepth 65536 in
set_option maxHeartbeats 40000000 in
theorem own_wt1 {p : Program} {l : Launch} {e : Env} {s : State} {m : MethodId} {args : Array Value} {below : List Frame} {meth : Method} {c : Code} {T0 : State} {locs : List Loc} {Z : State} {a0 : Array Value} {h0 : Heap} {n0 : Nat} (th : Addr) (ch : Addr) (en : Int32) (i : Int32) (ev : Addr) (ns : Addr) (sg : Addr) (phS : Addr) (phF : Addr) (phA : Addr) (phD : Addr) (co : Addr) (ct : Addr) (ph : Addr) (wz : Int32) (wm : Int64) (wl : Int64) (wo : Int32) (wc : Int64) (kc : ClassId) (X0 : Stand p l e ({ frames := 2, cells := 0, slots := 0, locals := 40 } : Room) s m args below meth c T0 locs 0 0) (hx : p.tables.exec = Jvm.exec) (hZ : Z.Warmed39 s.vm) (hw : ∀ d ∈ tables_1, d.before a0 Z = true) (hby : c.code = prog_127_method_11_code) (hml : c.maxLocals = 6) (hown : s.vm.findClass own_s0 = some m.cls) (e0 : T0.heap = h0) (N0 : Fr n0 locs) (Z0 : n0 ≤ h0.size) (P0 : own_ST Z h0 ev ns sg phS phF phA phD co) (P1 : own_NN ev ns sg phS phF phA phD co) (P2 : Exa Z h0 th own_s0) (P3 : Fld Z h0 th own_s0 "count" own_s1 (.ref ct)) (P4 : Fld Z h0 th own_s0 own_s2 "Z" (.int wz)) (P5 : Fld Z h0 th own_s0 "most" "J" (.long wm)) (P6 : Fld Z h0 th own_s0 "length" "J" (.long wl)) (P7 : Fld Z h0 th own_s0 "past" "Z" (.int 0)) (P8 : Fld Z h0 th own_s0 "over" "Z" (.int wo)) (P9 : Fld Z h0 th own_s0 "counted" "J" (.long wc)) (P10 : Fld Z h0 th own_s0 "phase" own_s4 (.ref ph)) (P11 : Fld Z h0 th own_s0 "run" own_s5 .null) (P12 : Fld Z h0 th own_s0 own_s3 "J" (.long 0)) (P13 : ct = ev ∨ ct = ns ∨ ct = sg) (P14 : ph = phS ∨ ph = phD) (P15 : Arv Z h0 ch kc .char (8 : Int32) [(.int 120), (.int 120), (.int 120), (.int 120), (.int 120), (.int 120), (.int 120), (.int 120)] (.int 0)) (P16 : ch ≠ th) (P17 : n0 ≤ th) (P18 : ¬ (i < 0) ∧ i < (8 : Int32)) (P19 : i < en) (P20 : ¬ (wm < (wl + (1 : Int64)))) :
    ∃ (T' : State) (h' : Heap) (L' : List Loc) (ph2 : Addr), Stand p l e ({ frames := 2, cells := 0, slots := 0, locals := 40 } : Room) s m args below meth c T' L' 0 0 ∧ T'.heap = h' ∧ Fr n0 L' ∧ Keep h0 h' ([th] : List Addr) ∧ n0 ≤ h'.size ∧ Exa Z h' th own_s0 ∧ Fld Z h' th own_s0 "count" own_s1 (.ref ct) ∧ Fld Z h' th own_s0 own_s2 "Z" (.int wz) ∧ Fld Z h' th own_s0 "most" "J" (.long wm) ∧ Fld Z h' th own_s0 "length" "J" (.long (wl + (1 : Int64))) ∧ Fld Z h' th own_s0 "past" "Z" (.int 0) ∧ Fld Z h' th own_s0 "over" "Z" (.int wo) ∧ Fld Z h' th own_s0 "counted" "J" (.long wc) ∧ Fld Z h' th own_s0 "phase" own_s4 (.ref ph2) ∧ Fld Z h' th own_s0 "run" own_s5 .null ∧ Fld Z h' th own_s0 own_s3 "J" (.long 0) ∧ (ph2 = phS ∨ ph2 = phD) ∧ ∀ t, Steps p.tables e below (T'.setTop (mkF m 69 #[rv th, rv ch, iv 0, iv en, .val (.int (i + (1 : Int32))), iv 120] [])) t → own_S p e below (T0.setTop (mkF m 69 #[rv th, rv ch, iv 0, iv en, iv i, iv 120] [])) t := by
  obtain ⟨st0, hst0⟩ : ∃ zst, zst = T0.setTop (mkF m 69 #[rv th, rv ch, iv 0, iv en, iv i, iv 120] []) := ⟨_, rfl⟩
  have go0 : ∀ t, own_S p e below (T0.setTop (mkF m 69 #[rv th, rv ch, iv 0, iv en, iv i, iv 120] [])) t → Steps p.tables e below st0 t := fun t k => by rw [hst0]; exact k
  rw [← hst0]
  obtain ⟨cl1, Ar1, q1, S1, N1, H1, G1⟩ := id P15
  have hin1 : ¬ (i < 0 ∨ cl1.slots.size ≤ (i).toNatClampNeg) := inb_of S1 P18
  have hat1 : cl1.slots[(i).toNatClampNeg]? = some (.int 120) := Has.at H1 hin1 (own_x120 P18)
  obtain ⟨_, _, ⟨T2, L2, k2, n2⟩, -, X2, ⟨Lc2, hQ2, l2, y2, z2⟩, st2⟩ := Jvm.LawKit.callS X0 hx (y := (⟨own_s12, own_s15, "(C)Z"⟩ : MethodName)) hown (mvT hZ (own_w hw 114 rfl)) (mvT hZ (own_w hw 115 rfl)) (mvT hZ (own_w hw 116 rfl)) (mvT hZ (own_w hw 117 rfl)) (by decide) (backOf (W := 0) (own_low l Z a0 hw []  h0 n0 Z0 ) hZ (own_w hw 117 rfl) (own_w hw 116 rfl) (by decide) (by decide)) (g := (mkF m 83 #[rv th, rv ch, iv 0, iv en, iv i, iv 120] [(.int 120)])) rfl (by rw [hml]; rfl) (argsL := [(.int 120)]) (rest := []) (lenOf pd_22 rfl) rfl (by show 2 * 0 + _ ≤ _; exact Nat.le_of_eq rfl) (hb hby d21_83) (fun _ _ => ⟨rfl, e0, (by decide : 0 + 0 ≤ _), (by decide : 0 + 0 ≤ _)⟩)
  dsimp only [Pt.U, Pt.locs, Pt.cells, Pt.slots] at X2 l2 y2 z2 st2 hQ2
  subst l2 y2 z2
  obtain ⟨rfl, Nq2, e2⟩ := hQ2
  have N2 := Fr.app N0 Nq2
  obtain ⟨T3, X3, e3, st3⟩ := getF X2 hx hZ hown (host := "") (Or.inl (own_w hw 66 rfl)) Via.refl e2 P6 (g := (mkF m 91 #[rv th, rv ch, iv 0, iv en, iv i, iv 120] [(.ref th), (.ref th)])) rfl rfl (hb hby d21_91)
  obtain ⟨T4, h4, X4, e4, W4, st4⟩ := putF X3 hx hZ hown (host := "") (Or.inl (own_w hw 66 rfl)) Via.refl e3 P6 P2 (Or.inl (own_w hw 67 rfl)) (own_w hw 13 rfl) (ty := .long) (by decide) rfl rfl (g := (mkF m 97 #[rv th, rv ch, iv 0, iv en, iv i, iv 120] [(.long (wl + (1 : Int64))), (.ref th), (.long (wl + (1 : Int64)))])) rfl rfl (hb hby d21_97)
  have K4 : Keep h0 h4 ([th] : List Addr) := (Keep.refl h0 ([th] : List Addr)).wr W4 (Or.inl (List.mem_of_getElem? (i := 0) rfl))
  have N4 := Fr.snoc X4 N2 P17
  have Z4 : n0 ≤ h4.size := Nat.le_trans Z0 (Keep.of_wr W4).1
  have Fw4 := P6.same W4
  have f5 := (P5.other W4 (Or.inr (own_sn77 hw)))
  obtain ⟨T6, X6, e6, st6⟩ := getF X4 hx hZ hown (host := "") (Or.inl (own_w hw 64 rfl)) Via.refl e4 f5 (g := (mkF m 101 #[rv th, rv ch, iv 0, iv en, iv i, iv 120] [(.ref th), (.long (wl + (1 : Int64)))])) rfl rfl (hb hby d21_101)
  have f7 := (P0.wr W4)
  have f8 := (P2.wr W4)
  have f9 := (P3.other W4 (Or.inr (own_sn62 hw)))
  have f10 := (P4.other W4 (Or.inr (own_sn70 hw)))
  have f11 : Fld Z h4 th own_s0 "past" "Z" (.int 0) := (P7.other W4 (Or.inr (own_sn24 hw)))
  have f12 := (P8.other W4 (Or.inr (own_sn28 hw)))
  have f13 := (P9.other W4 (Or.inr (own_sn33 hw)))
  have f14 := (P10.other W4 (Or.inr (own_sn39 hw)))
  have f15 := (P11.other W4 (Or.inr (own_sn46 hw)))
  have f16 : Fld Z h4 th own_s0 own_s3 "J" (.long 0) := (P12.other W4 (Or.inr (own_sn54 hw)))
  obtain ⟨cq17, q17, q17'⟩ := f8.cell
  obtain ⟨_, _, ⟨T17, L17, k17, n17⟩, -, X17, ⟨Lc17, hQ17, l17, y17, z17⟩, st17⟩ := X6.privateBack hx (y := (⟨own_s0, "role", own_s14⟩ : MethodName)) hown (mvT hZ (own_w hw 107 rfl)) (mvT hZ (own_w hw 108 rfl)) (Jvm.Kit.selects_private (by decide) (mvT hZ (own_w hw 13 rfl)) (mvP hZ (own_w hw 109 rfl)) (mvT hZ (own_w hw 108 rfl))) (Cond.privateMethod_at (mvP hZ (own_w hw 109 rfl) (args := #[]))) (mvT hZ (own_w hw 110 rfl)) (by decide) (backOf (W := 0) (own_role l Z a0 hw [] th ev ns sg phS phF phA phD co ct ph wz wm (wl + (1 : Int64)) (0 : Int32) wo wc h4 n0 Z4 f7 P1 f8 f9 f10 f5 Fw4 f11 f12 f13 f14 f15 f16 P13 P14 P17) hZ (own_w hw 110 rfl) (own_w hw 14 rfl) (by decide) (by decide)) (g := (mkF m 119 #[rv th, rv ch, iv 0, iv en, iv i, iv 120] [(.int 120), (.ref th)])) rfl (by rw [hml]; rfl) (Steps.refl _) (a := th) (by rw [e6]; exact q17) q17' (argsL := [(.int 120)]) (rest := []) (lenOf pd_23 rfl) rfl (by show 2 * 0 + _ ≤ _; exact Nat.le_of_eq rfl) (hb hby d21_119) (fun _ _ => ⟨rfl, e6, (by decide : 0 + 0 ≤ _), (by decide : 0 + 0 ≤ _)⟩)
  dsimp only [Pt.U, Pt.locs, Pt.cells, Pt.slots] at X17 l17 y17 z17 st17 hQ17
  subst l17 y17 z17
  obtain ⟨Nq17, y17_0, rfl, Kc17, p17_0, p17_1, p17_2, p17_3, p17_4, p17_5, p17_6, p17_7, p17_8, p17_9, p17_10, p17_11⟩ := hQ17
  have N17 := Fr.app N4 Nq17
  have K17 : Keep h0 T17.heap ([th] : List Addr) := K4.trans Kc17 (allS (P := fun x => x ∈ ([th] : List Addr) ∨ h0.size ≤ x) (Or.inl (List.mem_of_getElem? (i := 0) rfl)) all0)
  have Z17 : n0 ≤ T17.heap.size := Nat.le_trans Z4 Kc17.1
  have go18 : ∀ t, own_S p e below (T17.setTop (mkF m 69 #[rv th, rv ch, iv 0, iv en, .val (.int (i + (1 : Int32))), iv 120] [])) t → Steps p.tables e below st0 t := by
    intro t kt
    refine go0 t ?_
    refine XS.iload X0.here hx rfl (hb hby d21_69) rfl ?_
    refine XS.iloadN X0.here hx rfl (hb hby d21_71) rfl ?_
    show own_S p e below (T0.setTop (mkF m 72 #[rv th, rv ch, iv 0, iv en, iv i, iv 120] [(.int en), (.int i)])) _
    refine XS.icmpNo X0.here hx rfl (hb hby d21_72) rfl (tlt P19).2.1 ?_
    refine XS.aloadN X0.here hx rfl (hb hby d21_75) rfl rfl ?_
    refine XS.iload X0.here hx rfl (hb hby d21_76) rfl ?_
    show own_S p e below (T0.setTop (mkF m 78 #[rv th, rv ch, iv 0, iv en, iv i, iv 120] [(.int i), (.ref ch)])) _
    refine X0.caload hx (j := i) (v := (.int 120)) (by rw [e0]; exact Ar1.1) (State.isArrayOf_alike hZ.alike Ar1.2.1) Ar1.2.2 hin1 hat1 (g := (mkF m 78 #[rv th, rv ch, iv 0, iv en, iv i, iv 120] [(.int i), (.ref ch)])) rfl rfl (hb hby d21_78) _ ?_
    show own_S p e below (T0.setTop (mkF m 79 #[rv th, rv ch, iv 0, iv en, iv i, iv 120] [(.int 120)])) _
    refine XS.istore X0.here hx rfl (hb hby d21_79) rfl (l' := #[rv th, rv ch, iv 0, iv en, iv i, iv 120]) rfl ?_
    refine XS.iload X0.here hx rfl (hb hby d21_81) rfl ?_
    show own_S p e below (T0.setTop (mkF m 83 #[rv th, rv ch, iv 0, iv en, iv i, iv 120] [(.int 120)])) _
    refine st2 _ ?_
    show own_S p e below (T2.setTop (mkF m 86 #[rv th, rv ch, iv 0, iv en, iv i, iv 120] [(.int 0)])) _
    refine XS.ifNo X2.here hx rfl (hb hby d21_86) rfl ((if0 _ _).trans (teq (by decide : (0 : Int32) = (0 : Int32))).2) ?_
    refine XS.aloadN X2.here hx rfl (hb hby d21_89) rfl rfl ?_
    refine XS.dup X2.here hx rfl (hb hby d21_90) rfl rfl ?_
    show own_S p e below (T2.setTop (mkF m 91 #[rv th, rv ch, iv 0, iv en, iv i, iv 120] [(.ref th), (.ref th)])) _
    refine st3 _ ?_
    refine XS.lconst X3.here hx rfl (hb hby d21_94) ?_
    refine XS.ladd X3.here hx rfl (hb hby d21_95) rfl ?_
    show own_S p e below (T3.setTop (mkF m 96 #[rv th, rv ch, iv 0, iv en, iv i, iv 120] [(.long (wl + (1 : Int64))), (.ref th)])) _
    jvm_step X3.here [X3.here.top, hx, (hb hby d21_96), Value.category]
    show own_S p e below (T3.setTop (mkF m 97 #[rv th, rv ch, iv 0, iv en, iv i, iv 120] [(.long (wl + (1 : Int64))), (.ref th), (.long (wl + (1 : Int64)))])) _
    refine st4 _ ?_
    refine XS.aloadN X4.here hx rfl (hb hby d21_100) rfl rfl ?_
    show own_S p e below (T4.setTop (mkF m 101 #[rv th, rv ch, iv 0, iv en, iv i, iv 120] [(.ref th), (.long (wl + (1 : Int64)))])) _
    refine st6 _ ?_
    show own_S p e below (T6.setTop (mkF m 104 #[rv th, rv ch, iv 0, iv en, iv i, iv 120] [(.long wm), (.long (wl + (1 : Int64)))])) _
    refine XS.lcmp X6.here hx rfl (hb hby d21_104) rfl ?_
    show own_S p e below (T6.setTop (mkF m 105 #[rv th, rv ch, iv 0, iv en, iv i, iv 120] [(.int (lcmpW (wl + (1 : Int64)) wm))])) _
    refine XS.ifYes X6.here hx rfl (pc0 := 105) (pc' := 116) rfl (hb hby d21_105) rfl (Jvm.Free.XT.ll_le_t P20) (by decide) (by decide) ?_
    refine XS.aloadN X6.here hx rfl (hb hby d21_116) rfl rfl ?_
    refine XS.iload X6.here hx rfl (hb hby d21_117) rfl ?_
    show own_S p e below (T6.setTop (mkF m 119 #[rv th, rv ch, iv 0, iv en, iv i, iv 120] [(.int 120), (.ref th)])) _
    refine st17.trans ?_
    show own_S p e below (T17.setTop (mkF m 122 #[rv th, rv ch, iv 0, iv en, iv i, iv 120] [(.ref co)])) _
    refine XS.pop X17.here hx rfl (hb hby d21_122) rfl rfl ?_
    show own_S p e below (T17.setTop (mkF m 123 #[rv th, rv ch, iv 0, iv en, iv i, iv 120] [])) _
    refine XS.iinc X17.here hx rfl (hb hby d21_123) rfl (l' := #[rv th, rv ch, iv 0, iv en, .val (.int (i + (1 : Int32))), iv 120]) rfl ?_
    show own_S p e below (T17.setTop (mkF m 126 #[rv th, rv ch, iv 0, iv en, .val (.int (i + (1 : Int32))), iv 120] [])) _
    refine XS.goto X17.here hx rfl (pc0 := 126) (pc' := 69) rfl (hb hby d21_126) (by decide) (by decide) ?_
    show own_S p e below (T17.setTop (mkF m 69 #[rv th, rv ch, iv 0, iv en, .val (.int (i + (1 : Int32))), iv 120] [])) _
    exact kt
  exact ⟨_, _, _, y17_0, own_mono X17 (by decide) (by decide), rfl, N17, K17, Z17, p17_0, p17_1, p17_2, p17_3, p17_4, p17_5, p17_6, p17_7, p17_8, p17_9, p17_10, p17_11, go18⟩
set_option maxRecDepth 65536 in
set_option maxHeartbeats 40000000 in
theorem own_we1 {p : Program} {l : Launch} {e : Env} {s : State} {m : MethodId} {args : Array Value} {below : List Frame} {meth : Method} {c : Code} {T0 : State} {locs : List Loc} {Z : State} {a0 : Array Value} {h0 : Heap} {n0 : Nat} (th : Addr) (ch : Addr) (en : Int32) (i : Int32) (ev : Addr) (ns : Addr) (sg : Addr) (phS : Addr) (phF : Addr) (phA : Addr) (phD : Addr) (co : Addr) (ct : Addr) (ph : Addr) (wz : Int32) (wm : Int64) (wl : Int64) (wo : Int32) (wc : Int64) (kc : ClassId) (X0 : Stand p l e ({ frames := 2, cells := 0, slots := 0, locals := 40 } : Room) s m args below meth c T0 locs 0 0) (hx : p.tables.exec = Jvm.exec) (hZ : Z.Warmed39 s.vm) (hw : ∀ d ∈ tables_1, d.before a0 Z = true) (hby : c.code = prog_127_method_11_code) (hml : c.maxLocals = 6) (hown : s.vm.findClass own_s0 = some m.cls) (e0 : T0.heap = h0) (N0 : Fr n0 locs) (Z0 : n0 ≤ h0.size) (P0 : own_ST Z h0 ev ns sg phS phF phA phD co) (P1 : own_NN ev ns sg phS phF phA phD co) (P2 : Exa Z h0 th own_s0) (P3 : Fld Z h0 th own_s0 "count" own_s1 (.ref ct)) (P4 : Fld Z h0 th own_s0 own_s2 "Z" (.int wz)) (P5 : Fld Z h0 th own_s0 "most" "J" (.long wm)) (P6 : Fld Z h0 th own_s0 "length" "J" (.long wl)) (P7 : Fld Z h0 th own_s0 "past" "Z" (.int 0)) (P8 : Fld Z h0 th own_s0 "over" "Z" (.int wo)) (P9 : Fld Z h0 th own_s0 "counted" "J" (.long wc)) (P10 : Fld Z h0 th own_s0 "phase" own_s4 (.ref ph)) (P11 : Fld Z h0 th own_s0 "run" own_s5 .null) (P12 : Fld Z h0 th own_s0 own_s3 "J" (.long 0)) (P13 : ct = ev ∨ ct = ns ∨ ct = sg) (P14 : ph = phS ∨ ph = phD) (P15 : Arv Z h0 ch kc .char (8 : Int32) [(.int 120), (.int 120), (.int 120), (.int 120), (.int 120), (.int 120), (.int 120), (.int 120)] (.int 0)) (P16 : ch ≠ th) (P17 : n0 ≤ th) (P18 : ¬ (i < 0) ∧ i < (8 : Int32)) (P19 : i < en) (P20 : wm < (wl + (1 : Int64))) :
    ∃ (T' : State) (h' : Heap) (L' : List Loc), Stand p l e ({ frames := 2, cells := 0, slots := 0, locals := 40 } : Room) s m args below meth c T' L' 0 0 ∧ T'.heap = h' ∧ Fr n0 L' ∧ Keep h0 h' ([th] : List Addr) ∧ n0 ≤ h'.size ∧ Exa Z h' th own_s0 ∧ Fld Z h' th own_s0 "count" own_s1 (.ref ct) ∧ Fld Z h' th own_s0 own_s2 "Z" (.int wz) ∧ Fld Z h' th own_s0 "most" "J" (.long wm) ∧ Fld Z h' th own_s0 "length" "J" (.long (wl + (1 : Int64))) ∧ Fld Z h' th own_s0 "past" "Z" (.int 1) ∧ Fld Z h' th own_s0 "over" "Z" (.int wo) ∧ Fld Z h' th own_s0 "counted" "J" (.long wc) ∧ Fld Z h' th own_s0 "phase" own_s4 (.ref ph) ∧ Fld Z h' th own_s0 "run" own_s5 .null ∧ Fld Z h' th own_s0 own_s3 "J" (.long 0) ∧ ∀ t, Steps p.tables e below (T'.setTop (mkF m 113 #[rv th, rv ch, iv 0, iv en, iv i, iv 120] [])) t → own_S p e below (T0.setTop (mkF m 69 #[rv th, rv ch, iv 0, iv en, iv i, iv 120] [])) t := by
  obtain ⟨st0, hst0⟩ : ∃ zst, zst = T0.setTop (mkF m 69 #[rv th, rv ch, iv 0, iv en, iv i, iv 120] []) := ⟨_, rfl⟩
  have go0 : ∀ t, own_S p e below (T0.setTop (mkF m 69 #[rv th, rv ch, iv 0, iv en, iv i, iv 120] [])) t → Steps p.tables e below st0 t := fun t k => by rw [hst0]; exact k
  rw [← hst0]
  obtain ⟨cl1, Ar1, q1, S1, N1, H1, G1⟩ := id P15
  have hin1 : ¬ (i < 0 ∨ cl1.slots.size ≤ (i).toNatClampNeg) := inb_of S1 P18
  have hat1 : cl1.slots[(i).toNatClampNeg]? = some (.int 120) := Has.at H1 hin1 (own_x120 P18)
  obtain ⟨_, _, ⟨T2, L2, k2, n2⟩, -, X2, ⟨Lc2, hQ2, l2, y2, z2⟩, st2⟩ := Jvm.LawKit.callS X0 hx (y := (⟨own_s12, own_s15, "(C)Z"⟩ : MethodName)) hown (mvT hZ (own_w hw 114 rfl)) (mvT hZ (own_w hw 115 rfl)) (mvT hZ (own_w hw 116 rfl)) (mvT hZ (own_w hw 117 rfl)) (by decide) (backOf (W := 0) (own_low l Z a0 hw []  h0 n0 Z0 ) hZ (own_w hw 117 rfl) (own_w hw 116 rfl) (by decide) (by decide)) (g := (mkF m 83 #[rv th, rv ch, iv 0, iv en, iv i, iv 120] [(.int 120)])) rfl (by rw [hml]; rfl) (argsL := [(.int 120)]) (rest := []) (lenOf pd_22 rfl) rfl (by show 2 * 0 + _ ≤ _; exact Nat.le_of_eq rfl) (hb hby d21_83) (fun _ _ => ⟨rfl, e0, (by decide : 0 + 0 ≤ _), (by decide : 0 + 0 ≤ _)⟩)
  dsimp only [Pt.U, Pt.locs, Pt.cells, Pt.slots] at X2 l2 y2 z2 st2 hQ2
  subst l2 y2 z2
  obtain ⟨rfl, Nq2, e2⟩ := hQ2
  have N2 := Fr.app N0 Nq2
  obtain ⟨T3, X3, e3, st3⟩ := getF X2 hx hZ hown (host := "") (Or.inl (own_w hw 66 rfl)) Via.refl e2 P6 (g := (mkF m 91 #[rv th, rv ch, iv 0, iv en, iv i, iv 120] [(.ref th), (.ref th)])) rfl rfl (hb hby d21_91)
  obtain ⟨T4, h4, X4, e4, W4, st4⟩ := putF X3 hx hZ hown (host := "") (Or.inl (own_w hw 66 rfl)) Via.refl e3 P6 P2 (Or.inl (own_w hw 67 rfl)) (own_w hw 13 rfl) (ty := .long) (by decide) rfl rfl (g := (mkF m 97 #[rv th, rv ch, iv 0, iv en, iv i, iv 120] [(.long (wl + (1 : Int64))), (.ref th), (.long (wl + (1 : Int64)))])) rfl rfl (hb hby d21_97)
  have K4 : Keep h0 h4 ([th] : List Addr) := (Keep.refl h0 ([th] : List Addr)).wr W4 (Or.inl (List.mem_of_getElem? (i := 0) rfl))
  have N4 := Fr.snoc X4 N2 P17
  have Z4 : n0 ≤ h4.size := Nat.le_trans Z0 (Keep.of_wr W4).1
  have Fw4 := P6.same W4
  have f5 := (P5.other W4 (Or.inr (own_sn77 hw)))
  obtain ⟨T6, X6, e6, st6⟩ := getF X4 hx hZ hown (host := "") (Or.inl (own_w hw 64 rfl)) Via.refl e4 f5 (g := (mkF m 101 #[rv th, rv ch, iv 0, iv en, iv i, iv 120] [(.ref th), (.long (wl + (1 : Int64)))])) rfl rfl (hb hby d21_101)
  have f7 : Fld Z h4 th own_s0 "past" "Z" (.int 0) := (P7.other W4 (Or.inr (own_sn24 hw)))
  have f8 := (P2.wr W4)
  obtain ⟨T9, h9, X9, e9, W9, st9⟩ := putFN X6 hx hZ hown (own_w hw 68 rfl) Via.refl e6 f7 f8 (Or.inl (own_w hw 69 rfl)) (own_w hw 13 rfl) (ty := .boolean) (v' := (.int 1)) (by decide) rfl rfl (g := (mkF m 110 #[rv th, rv ch, iv 0, iv en, iv i, iv 120] [(.int 1), (.ref th)])) rfl rfl (hb hby d21_110)
  have K9 : Keep h0 h9 ([th] : List Addr) := K4.wr W9 (Or.inl (List.mem_of_getElem? (i := 0) rfl))
  have N9 := Fr.snoc X9 N4 P17
  have Z9 : n0 ≤ h9.size := Nat.le_trans Z4 (Keep.of_wr W9).1
  have Fw9 := f7.same W9
  have go10 : ∀ t, own_S p e below (T9.setTop (mkF m 113 #[rv th, rv ch, iv 0, iv en, iv i, iv 120] [])) t → Steps p.tables e below st0 t := by
    intro t kt
    refine go0 t ?_
    refine XS.iload X0.here hx rfl (hb hby d21_69) rfl ?_
    refine XS.iloadN X0.here hx rfl (hb hby d21_71) rfl ?_
    show own_S p e below (T0.setTop (mkF m 72 #[rv th, rv ch, iv 0, iv en, iv i, iv 120] [(.int en), (.int i)])) _
    refine XS.icmpNo X0.here hx rfl (hb hby d21_72) rfl (tlt P19).2.1 ?_
    refine XS.aloadN X0.here hx rfl (hb hby d21_75) rfl rfl ?_
    refine XS.iload X0.here hx rfl (hb hby d21_76) rfl ?_
    show own_S p e below (T0.setTop (mkF m 78 #[rv th, rv ch, iv 0, iv en, iv i, iv 120] [(.int i), (.ref ch)])) _
    refine X0.caload hx (j := i) (v := (.int 120)) (by rw [e0]; exact Ar1.1) (State.isArrayOf_alike hZ.alike Ar1.2.1) Ar1.2.2 hin1 hat1 (g := (mkF m 78 #[rv th, rv ch, iv 0, iv en, iv i, iv 120] [(.int i), (.ref ch)])) rfl rfl (hb hby d21_78) _ ?_
    show own_S p e below (T0.setTop (mkF m 79 #[rv th, rv ch, iv 0, iv en, iv i, iv 120] [(.int 120)])) _
    refine XS.istore X0.here hx rfl (hb hby d21_79) rfl (l' := #[rv th, rv ch, iv 0, iv en, iv i, iv 120]) rfl ?_
    refine XS.iload X0.here hx rfl (hb hby d21_81) rfl ?_
    show own_S p e below (T0.setTop (mkF m 83 #[rv th, rv ch, iv 0, iv en, iv i, iv 120] [(.int 120)])) _
    refine st2 _ ?_
    show own_S p e below (T2.setTop (mkF m 86 #[rv th, rv ch, iv 0, iv en, iv i, iv 120] [(.int 0)])) _
    refine XS.ifNo X2.here hx rfl (hb hby d21_86) rfl ((if0 _ _).trans (teq (by decide : (0 : Int32) = (0 : Int32))).2) ?_
    refine XS.aloadN X2.here hx rfl (hb hby d21_89) rfl rfl ?_
    refine XS.dup X2.here hx rfl (hb hby d21_90) rfl rfl ?_
    show own_S p e below (T2.setTop (mkF m 91 #[rv th, rv ch, iv 0, iv en, iv i, iv 120] [(.ref th), (.ref th)])) _
    refine st3 _ ?_
    refine XS.lconst X3.here hx rfl (hb hby d21_94) ?_
    refine XS.ladd X3.here hx rfl (hb hby d21_95) rfl ?_
    show own_S p e below (T3.setTop (mkF m 96 #[rv th, rv ch, iv 0, iv en, iv i, iv 120] [(.long (wl + (1 : Int64))), (.ref th)])) _
    jvm_step X3.here [X3.here.top, hx, (hb hby d21_96), Value.category]
    show own_S p e below (T3.setTop (mkF m 97 #[rv th, rv ch, iv 0, iv en, iv i, iv 120] [(.long (wl + (1 : Int64))), (.ref th), (.long (wl + (1 : Int64)))])) _
    refine st4 _ ?_
    refine XS.aloadN X4.here hx rfl (hb hby d21_100) rfl rfl ?_
    show own_S p e below (T4.setTop (mkF m 101 #[rv th, rv ch, iv 0, iv en, iv i, iv 120] [(.ref th), (.long (wl + (1 : Int64)))])) _
    refine st6 _ ?_
    show own_S p e below (T6.setTop (mkF m 104 #[rv th, rv ch, iv 0, iv en, iv i, iv 120] [(.long wm), (.long (wl + (1 : Int64)))])) _
    refine XS.lcmp X6.here hx rfl (hb hby d21_104) rfl ?_
    show own_S p e below (T6.setTop (mkF m 105 #[rv th, rv ch, iv 0, iv en, iv i, iv 120] [(.int (lcmpW (wl + (1 : Int64)) wm))])) _
    refine XS.ifNo X6.here hx rfl (hb hby d21_105) rfl (Jvm.Free.XT.ll_le_f P20) ?_
    refine XS.aloadN X6.here hx rfl (hb hby d21_108) rfl rfl ?_
    refine XS.iconst X6.here hx rfl (hb hby d21_109) ?_
    show own_S p e below (T6.setTop (mkF m 110 #[rv th, rv ch, iv 0, iv en, iv i, iv 120] [(.int 1), (.ref th)])) _
    refine st9 _ ?_
    show own_S p e below (T9.setTop (mkF m 113 #[rv th, rv ch, iv 0, iv en, iv i, iv 120] [])) _
    exact kt
  have f11 := (f8.wr W9)
  have f12 := ((P3.other W4 (Or.inr (own_sn62 hw))).other W9 (Or.inr (own_sn63 hw)))
  have f13 := ((P4.other W4 (Or.inr (own_sn70 hw))).other W9 (Or.inr (own_sn71 hw)))
  have f14 := (f5.other W9 (Or.inr (own_sn78 hw)))
  have f15 := (Fw4.other W9 (Or.inr (own_sn84 hw)))
  have f16 := ((P8.other W4 (Or.inr (own_sn28 hw))).other W9 (Or.inr (own_sn29 hw)))
  have f17 := ((P9.other W4 (Or.inr (own_sn33 hw))).other W9 (Or.inr (own_sn34 hw)))
  have f18 := ((P10.other W4 (Or.inr (own_sn39 hw))).other W9 (Or.inr (own_sn40 hw)))
  have f19 := ((P11.other W4 (Or.inr (own_sn46 hw))).other W9 (Or.inr (own_sn47 hw)))
  have f20 : Fld Z h9 th own_s0 own_s3 "J" (.long 0) := ((P12.other W4 (Or.inr (own_sn54 hw))).other W9 (Or.inr (own_sn55 hw)))
  exact ⟨_, _, _, own_mono X9 (by decide) (by decide), e9, N9, K9, Z9, f11, f12, f13, f14, f15, Fw9, f16, f17, f18, f19, f20, go10⟩
theorem ef_own_within0 (m : MethodId) (pr0 : Addr) (pr1 : Addr) (pi3 : Int32) : entryFrame m #[(.ref pr0), (.ref pr1), (.int 0), (.int pi3)] 6 = mkF m 0 #[rv pr0, rv pr1, iv 0, iv pi3, .unset, .unset] [] := by first | (simp [entryFrame, mkF, argsToLocals, Value.category]; done) | rfl
def Q_own_within0 (Z : State) (pr0 : Addr) (pr1 : Addr) (pi3 : Int32) (ev : Addr) (ns : Addr) (sg : Addr) (phS : Addr) (phF : Addr) (phA : Addr) (phD : Addr) (co : Addr) (ct : Addr) (ph : Addr) (wz : Int32) (wm : Int64) (wl : Int64) (wo : Int32) (wc : Int64) (kc : ClassId) (h0 : Heap) (n0 : Nat) (v : Option Value) (h : Heap) (L : List Loc) : Prop := Fr n0 L ∧ ∃ (wl2 : Int64) (ph2 : Addr), v = some (.int 0) ∧ Keep h0 h ([pr0] : List Addr) ∧ Exa Z h pr0 own_s0 ∧ Fld Z h pr0 own_s0 "count" own_s1 (.ref ct) ∧ Fld Z h pr0 own_s0 own_s2 "Z" (.int wz) ∧ Fld Z h pr0 own_s0 "most" "J" (.long wm) ∧ Fld Z h pr0 own_s0 "length" "J" (.long wl2) ∧ Fld Z h pr0 own_s0 "past" "Z" (.int 1) ∧ Fld Z h pr0 own_s0 "over" "Z" (.int wo) ∧ Fld Z h pr0 own_s0 "counted" "J" (.long wc) ∧ Fld Z h pr0 own_s0 "phase" own_s4 (.ref ph2) ∧ Fld Z h pr0 own_s0 "run" own_s5 .null ∧ Fld Z h pr0 own_s0 own_s3 "J" (.long 0) ∧ (ph2 = phS ∨ ph2 = phD)
set_option maxRecDepth 65536 in
set_option maxHeartbeats 40000000 in
theorem own_within0 (l : Launch) (Z : State) (a0 : Array Value) (hw : ∀ d ∈ tables_1, d.before a0 Z = true) (ws : List Jvm.Cond) (pr0 : Addr) (pr1 : Addr) (pi3 : Int32) (ev : Addr) (ns : Addr) (sg : Addr) (phS : Addr) (phF : Addr) (phA : Addr) (phD : Addr) (co : Addr) (ct : Addr) (ph : Addr) (wz : Int32) (wm : Int64) (wl : Int64) (wo : Int32) (wc : Int64) (kc : ClassId) (h0 : Heap) (n0 : Nat) (Z0 : n0 ≤ h0.size) (P0 : own_ST Z h0 ev ns sg phS phF phA phD co) (P1 : own_NN ev ns sg phS phF phA phD co) (P2 : Exa Z h0 pr0 own_s0) (P3 : Fld Z h0 pr0 own_s0 "count" own_s1 (.ref ct)) (P4 : Fld Z h0 pr0 own_s0 own_s2 "Z" (.int wz)) (P5 : Fld Z h0 pr0 own_s0 "most" "J" (.long wm)) (P6 : Fld Z h0 pr0 own_s0 "length" "J" (.long wl)) (P7 : Fld Z h0 pr0 own_s0 "past" "Z" (.int 0)) (P8 : Fld Z h0 pr0 own_s0 "over" "Z" (.int wo)) (P9 : Fld Z h0 pr0 own_s0 "counted" "J" (.long wc)) (P10 : Fld Z h0 pr0 own_s0 "phase" own_s4 (.ref ph)) (P11 : Fld Z h0 pr0 own_s0 "run" own_s5 .null) (P12 : Fld Z h0 pr0 own_s0 own_s3 "J" (.long 0)) (P13 : ct = ev ∨ ct = ns ∨ ct = sg) (P14 : ph = phS ∨ ph = phD) (P15 : Arv Z h0 pr1 kc .char (8 : Int32) [(.int 120), (.int 120), (.int 120), (.int 120), (.int 120), (.int 120), (.int 120), (.int 120)] (.int 0)) (P16 : pr1 ≠ pr0) (P17 : n0 ≤ pr0) (P18 : (0 : Int32) < pi3) (P19 : wm < (wl + (1 : Int64))) (P20 : (wm - wl) < ((pi3 - (0 : Int32)).toInt64)) (P21 : ((0 : Int32) + ((wm - wl).toInt32)) = (0 : Int32)) :
    MetFree l (⟨own_s0, "within", "([CII)I"⟩ : MethodName) (head1 (Jvm.Cond.code (⟨own_s0, "within", "([CII)I"⟩ : MethodName) prog_127_method_11_code 6 (some .int) :: ws) ({ frames := 2, cells := 0, slots := 0, locals := 40 } : Room)) (fun a U => a = #[(.ref pr0), (.ref pr1), (.int 0), (.int pi3)] ∧ Z.Warmed39 U.vm ∧ U.heap = h0) (fun _ _ _ _ _ => True) (fun _ U o U' => ∃ v L, o = .returned v ∧ Q_own_within0 Z pr0 pr1 pi3 ev ns sg phS phF phA phD co ct ph wz wm wl wo wc kc h0 n0 v U'.heap L ∧ FrameEnd U o U' L ({ frames := 2, cells := 0, slots := 0, locals := 40 } : Room).cells ({ frames := 2, cells := 0, slots := 0, locals := 40 } : Room).slots) := by
  refine MetFree.of_bodySF (plainFor_of_name pn_8) hisR ?_
  intro p e s m args below meth c s₁ Bd hml0 hP hK
  obtain ⟨rfl, hZ, hh⟩ := hP
  have hx := Bd.exec
  have hby := Bd.bytes
  have hml : c.maxLocals = 6 := hml0
  have hown : s.vm.findClass own_s0 = some m.cls := findClass_of_methodNamed Bd.named
  have hnm := (name_of_methodNamed Bd.named Bd.method).1
  have X0 : Stand p l e ({ frames := 2, cells := 0, slots := 0, locals := 40 } : Room) s m #[(.ref pr0), (.ref pr1), (.int 0), (.int pi3)] below meth c s₁ [] 0 0 := Stand.of_body Bd
  have e0 : s₁.heap = h0 := by rw [← hh, Bd.state]; rfl
  have N0 := Fr.nil n0
  have go0 : ∀ t, own_S p e below (s₁.setTop (mkF m 0 #[rv pr0, rv pr1, iv 0, iv pi3, .unset, .unset] [])) t → Steps p.tables e below (s₁.setTop (entryFrame m #[(.ref pr0), (.ref pr1), (.int 0), (.int pi3)] 6)) t := fun t k => castTop (ef_own_within0 m pr0 pr1 pi3) k
  revert go0
  generalize s₁.setTop (entryFrame m #[(.ref pr0), (.ref pr1), (.int 0), (.int pi3)] 6) = st0
  intro go0
  by_cases hE1 : ct = ev
  · skip
    have fc1 : Fld Z h0 pr0 own_s0 "count" own_s1 (.ref ev) := by rw [← hE1]; exact P3
    obtain ⟨T2, X2, e2, st2⟩ := getF X0 hx hZ hown (host := "") (Or.inl (own_w hw 68 rfl)) Via.refl e0 P7 (g := (mkF m 1 #[rv pr0, rv pr1, iv 0, iv pi3, .unset, .unset] [(.ref pr0)])) rfl rfl (hb hby d21_1)
    obtain ⟨T3, X3, e3, st3⟩ := getF X2 hx hZ hown (host := "") (Or.inl (own_w hw 55 rfl)) Via.refl e2 fc1 (g := (mkF m 10 #[rv pr0, rv pr1, iv 0, iv pi3, .unset, .unset] [(.ref pr0)])) rfl rfl (hb hby d21_10)
    obtain ⟨T4, X4, e4, st4⟩ := getS2 X3 hx hZ hown (host := "") (Or.inl (own_w hw 106 rfl)) Via.refl e3 (own_ST.s0 P0) (g := (mkF m 13 #[rv pr0, rv pr1, iv 0, iv pi3, .unset, .unset] [(.ref ev)])) rfl (hb hby d21_13)
    obtain ⟨T5, X5, e5, st5⟩ := getF X4 hx hZ hown (host := "") (Or.inl (own_w hw 64 rfl)) Via.refl e4 P5 (g := (mkF m 20 #[rv pr0, rv pr1, iv 0, iv pi3, .unset, .unset] [(.ref pr0)])) rfl rfl (hb hby d21_20)
    obtain ⟨T6, X6, e6, st6⟩ := getF X5 hx hZ hown (host := "") (Or.inl (own_w hw 66 rfl)) Via.refl e5 P6 (g := (mkF m 24 #[rv pr0, rv pr1, iv 0, iv pi3, .unset, .unset] [(.ref pr0), (.long wm)])) rfl rfl (hb hby d21_24)
    obtain ⟨T7, h7, X7, e7, W7, st7⟩ := putFN X6 hx hZ hown (own_w hw 68 rfl) Via.refl e6 P7 P2 (Or.inl (own_w hw 69 rfl)) (own_w hw 13 rfl) (ty := .boolean) (v' := (.int 1)) (by decide) rfl rfl (g := (mkF m 57 #[rv pr0, rv pr1, iv 0, iv pi3, .val (.long (wm - wl)), .second] [(.int 1), (.ref pr0)])) rfl rfl (hb hby d21_57)
    have K7 : Keep h0 h7 ([pr0] : List Addr) := (Keep.refl h0 ([pr0] : List Addr)).wr W7 (Or.inl (List.mem_of_getElem? (i := 0) rfl))
    have N7 := Fr.snoc X7 N0 P17
    have Z7 : n0 ≤ h7.size := Nat.le_trans Z0 (Keep.of_wr W7).1
    have Fw7 := P7.same W7
    have go8 : ∀ t, own_S p e below (T7.setTop (mkF m 65 #[rv pr0, rv pr1, iv 0, iv pi3, .val (.long (wm - wl)), .second] [(.int ((0 : Int32) + ((wm - wl).toInt32)))])) t → Steps p.tables e below st0 t := by
      intro t kt
      refine go0 t ?_
      refine XS.aloadN X0.here hx rfl (hb hby d21_0) rfl rfl ?_
      show own_S p e below (s₁.setTop (mkF m 1 #[rv pr0, rv pr1, iv 0, iv pi3, .unset, .unset] [(.ref pr0)])) _
      refine st2 _ ?_
      show own_S p e below (T2.setTop (mkF m 4 #[rv pr0, rv pr1, iv 0, iv pi3, .unset, .unset] [(.int 0)])) _
      refine XS.ifYes X2.here hx rfl (pc0 := 4) (pc' := 9) rfl (hb hby d21_4) rfl ((if0 _ _).trans (teq (by decide : (0 : Int32) = (0 : Int32))).1) (by decide) (by decide) ?_
      refine XS.aloadN X2.here hx rfl (hb hby d21_9) rfl rfl ?_
      show own_S p e below (T2.setTop (mkF m 10 #[rv pr0, rv pr1, iv 0, iv pi3, .unset, .unset] [(.ref pr0)])) _
      refine st3 _ ?_
      show own_S p e below (T3.setTop (mkF m 13 #[rv pr0, rv pr1, iv 0, iv pi3, .unset, .unset] [(.ref ev)])) _
      refine st4 _ ?_
      show own_S p e below (T4.setTop (mkF m 16 #[rv pr0, rv pr1, iv 0, iv pi3, .unset, .unset] [(.ref ev), (.ref ev)])) _
      refine Jvm.RoadKit.acmp (g := (mkF m 16 #[rv pr0, rv pr1, iv 0, iv pi3, .unset, .unset] [(.ref ev), (.ref ev)])) X4 hx rfl rfl rfl (pc0 := 16) (pc' := 19) (same := true) rfl (hb hby d21_16) rfl (decide_eq_true rfl) (by decide) (by decide) ?_
      refine XS.aloadN X4.here hx rfl (hb hby d21_19) rfl rfl ?_
      show own_S p e below (T4.setTop (mkF m 20 #[rv pr0, rv pr1, iv 0, iv pi3, .unset, .unset] [(.ref pr0)])) _
      refine st5 _ ?_
      refine XS.aloadN X5.here hx rfl (hb hby d21_23) rfl rfl ?_
      show own_S p e below (T5.setTop (mkF m 24 #[rv pr0, rv pr1, iv 0, iv pi3, .unset, .unset] [(.ref pr0), (.long wm)])) _
      refine st6 _ ?_
      refine XS.lsub X6.here hx rfl (hb hby d21_27) rfl ?_
      show own_S p e below (T6.setTop (mkF m 28 #[rv pr0, rv pr1, iv 0, iv pi3, .unset, .unset] [(.long (wm - wl))])) _
      refine XS.lstore X6.here hx rfl (hb hby d21_28) rfl (l' := #[rv pr0, rv pr1, iv 0, iv pi3, .val (.long (wm - wl)), .second]) rfl ?_
      refine XS.iloadN X6.here hx rfl (hb hby d21_30) rfl ?_
      refine XS.iloadN X6.here hx rfl (hb hby d21_31) rfl ?_
      refine XS.isub X6.here hx rfl (hb hby d21_32) rfl ?_
      show own_S p e below (T6.setTop (mkF m 33 #[rv pr0, rv pr1, iv 0, iv pi3, .val (.long (wm - wl)), .second] [(.int (pi3 - (0 : Int32)))])) _
      refine XS.i2l X6.here hx rfl (hb hby d21_33) rfl ?_
      refine XS.lload X6.here hx rfl (hb hby d21_34) rfl ?_
      show own_S p e below (T6.setTop (mkF m 36 #[rv pr0, rv pr1, iv 0, iv pi3, .val (.long (wm - wl)), .second] [(.long (wm - wl)), (.long ((pi3 - (0 : Int32)).toInt64))])) _
      refine XS.lcmp X6.here hx rfl (hb hby d21_36) rfl ?_
      show own_S p e below (T6.setTop (mkF m 37 #[rv pr0, rv pr1, iv 0, iv pi3, .val (.long (wm - wl)), .second] [(.int (lcmpW ((pi3 - (0 : Int32)).toInt64) (wm - wl)))])) _
      refine XS.ifYes X6.here hx rfl (pc0 := 37) (pc' := 55) rfl (hb hby d21_37) rfl (Jvm.Free.XT.ll_gt_t P20) (by decide) (by decide) ?_
      refine XS.aloadN X6.here hx rfl (hb hby d21_55) rfl rfl ?_
      refine XS.iconst X6.here hx rfl (hb hby d21_56) ?_
      show own_S p e below (T6.setTop (mkF m 57 #[rv pr0, rv pr1, iv 0, iv pi3, .val (.long (wm - wl)), .second] [(.int 1), (.ref pr0)])) _
      refine st7 _ ?_
      refine XS.iloadN X7.here hx rfl (hb hby d21_60) rfl ?_
      refine XS.lload X7.here hx rfl (hb hby d21_61) rfl ?_
      show own_S p e below (T7.setTop (mkF m 63 #[rv pr0, rv pr1, iv 0, iv pi3, .val (.long (wm - wl)), .second] [(.long (wm - wl)), (.int 0)])) _
      refine XS.l2i X7.here hx rfl (hb hby d21_63) rfl ?_
      refine XS.iadd X7.here hx rfl (hb hby d21_64) rfl ?_
      show own_S p e below (T7.setTop (mkF m 65 #[rv pr0, rv pr1, iv 0, iv pi3, .val (.long (wm - wl)), .second] [(.int ((0 : Int32) + ((wm - wl).toInt32)))])) _
      exact kt
    obtain ⟨fs, hr, hrun, hended, hW, hsame⟩ := X7.leave (v := some (.int ((0 : Int32) + ((wm - wl).toInt32)))) (fun h => by rw [Bd.returns] at h; cases h)
    refine ⟨_, _, go8 _ ?_, hrun, hended, _, _, rfl, ?_, ⟨_, rfl⟩, hW, hsame.mono (by decide) (by decide)⟩
    · exact retI X7 hx Bd.returns (hb hby d21_65) hr
    · show Q_own_within0 Z pr0 pr1 pi3 ev ns sg phS phF phA phD co ct ph wz wm wl wo wc kc h0 n0 _ T7.heap _
      rw [e7]
      have f9 := (P2.wr W7)
      have f10 := (fc1.other W7 (Or.inr (own_sn63 hw)))
      have f11 := (P4.other W7 (Or.inr (own_sn71 hw)))
      have f12 := (P5.other W7 (Or.inr (own_sn78 hw)))
      have f13 := (P6.other W7 (Or.inr (own_sn84 hw)))
      have f14 := (P8.other W7 (Or.inr (own_sn29 hw)))
      have f15 := (P9.other W7 (Or.inr (own_sn34 hw)))
      have f16 := (P10.other W7 (Or.inr (own_sn40 hw)))
      have f17 := (P11.other W7 (Or.inr (own_sn47 hw)))
      have f18 : Fld Z h7 pr0 own_s0 own_s3 "J" (.long 0) := (P12.other W7 (Or.inr (own_sn55 hw)))
      exact ⟨N7, wl, ph, (by rw [P21]), K7, f9, (by rw [hE1]; exact f10), f11, f12, f13, Fw7, f14, f15, f16, f17, f18, P14⟩
  · skip
    obtain ⟨T19, X19, e19, st19⟩ := getF X0 hx hZ hown (host := "") (Or.inl (own_w hw 68 rfl)) Via.refl e0 P7 (g := (mkF m 1 #[rv pr0, rv pr1, iv 0, iv pi3, .unset, .unset] [(.ref pr0)])) rfl rfl (hb hby d21_1)
    obtain ⟨T20, X20, e20, st20⟩ := getF X19 hx hZ hown (host := "") (Or.inl (own_w hw 55 rfl)) Via.refl e19 P3 (g := (mkF m 10 #[rv pr0, rv pr1, iv 0, iv pi3, .unset, .unset] [(.ref pr0)])) rfl rfl (hb hby d21_10)
    obtain ⟨T21, X21, e21, st21⟩ := getS2 X20 hx hZ hown (host := "") (Or.inl (own_w hw 106 rfl)) Via.refl e20 (own_ST.s0 P0) (g := (mkF m 13 #[rv pr0, rv pr1, iv 0, iv pi3, .unset, .unset] [(.ref ct)])) rfl (hb hby d21_13)
    obtain ⟨T22, h22, L22, X22, e22, N22, Kc22, Z22, p22_0, p22_1, p22_2, p22_3, p22_4, p22_5, p22_6, p22_7, p22_8, p22_9, p22_10, st22⟩ := own_we0 pr0 pr1 pi3 (0 : Int32) ev ns sg phS phF phA phD co ct ph wz wm wl wo wc kc X21 hx hZ hw hby hml hown e21 N0 Z0 P0 P1 P2 P3 P4 P5 P6 P7 P8 P9 P10 P11 P12 P13 P14 P15 P16 P17 (by decide) P18 P19
    have K22 : Keep h0 h22 ([pr0] : List Addr) := (Keep.refl h0 ([pr0] : List Addr)).trans Kc22 (allS (P := fun x => x ∈ ([pr0] : List Addr) ∨ h0.size ≤ x) (Or.inl (List.mem_of_getElem? (i := 0) rfl)) all0)
    have go23 : ∀ t, own_S p e below (T22.setTop (mkF m 115 #[rv pr0, rv pr1, iv 0, iv pi3, iv 0, iv 120] [(.int 0)])) t → Steps p.tables e below st0 t := by
      intro t kt
      refine go0 t ?_
      refine XS.aloadN X0.here hx rfl (hb hby d21_0) rfl rfl ?_
      show own_S p e below (s₁.setTop (mkF m 1 #[rv pr0, rv pr1, iv 0, iv pi3, .unset, .unset] [(.ref pr0)])) _
      refine st19 _ ?_
      show own_S p e below (T19.setTop (mkF m 4 #[rv pr0, rv pr1, iv 0, iv pi3, .unset, .unset] [(.int 0)])) _
      refine XS.ifYes X19.here hx rfl (pc0 := 4) (pc' := 9) rfl (hb hby d21_4) rfl ((if0 _ _).trans (teq (by decide : (0 : Int32) = (0 : Int32))).1) (by decide) (by decide) ?_
      refine XS.aloadN X19.here hx rfl (hb hby d21_9) rfl rfl ?_
      show own_S p e below (T19.setTop (mkF m 10 #[rv pr0, rv pr1, iv 0, iv pi3, .unset, .unset] [(.ref pr0)])) _
      refine st20 _ ?_
      show own_S p e below (T20.setTop (mkF m 13 #[rv pr0, rv pr1, iv 0, iv pi3, .unset, .unset] [(.ref ct)])) _
      refine st21 _ ?_
      show own_S p e below (T21.setTop (mkF m 16 #[rv pr0, rv pr1, iv 0, iv pi3, .unset, .unset] [(.ref ev), (.ref ct)])) _
      refine Jvm.RoadKit.acmp (g := (mkF m 16 #[rv pr0, rv pr1, iv 0, iv pi3, .unset, .unset] [(.ref ev), (.ref ct)])) X21 hx rfl rfl rfl (pc0 := 16) (pc' := 66) (same := false) rfl (hb hby d21_16) rfl (decide_eq_false fun q => hE1 (Value.ref.inj q)) (by decide) (by decide) ?_
      refine XS.iloadN X21.here hx rfl (hb hby d21_66) rfl ?_
      show own_S p e below (T21.setTop (mkF m 67 #[rv pr0, rv pr1, iv 0, iv pi3, .unset, .unset] [(.int 0)])) _
      refine XS.istore X21.here hx rfl (hb hby d21_67) rfl (l' := #[rv pr0, rv pr1, iv 0, iv pi3, iv 0, .unset]) rfl ?_
      show own_S p e below (T21.setTop (mkF m 69 #[rv pr0, rv pr1, iv 0, iv pi3, iv 0, .unset] [])) _
      refine st22 _ ?_
      refine XS.iload X22.here hx rfl (hb hby d21_113) rfl ?_
      show own_S p e below (T22.setTop (mkF m 115 #[rv pr0, rv pr1, iv 0, iv pi3, iv 0, iv 120] [(.int 0)])) _
      exact kt
    obtain ⟨fs, hr, hrun, hended, hW, hsame⟩ := X22.leave (v := some (.int 0)) (fun h => by rw [Bd.returns] at h; cases h)
    refine ⟨_, _, go23 _ ?_, hrun, hended, _, _, rfl, ?_, ⟨_, rfl⟩, hW, hsame.mono (by decide) (by decide)⟩
    · exact retI X22 hx Bd.returns (hb hby d21_115) hr
    · show Q_own_within0 Z pr0 pr1 pi3 ev ns sg phS phF phA phD co ct ph wz wm wl wo wc kc h0 n0 _ T22.heap _
      rw [e22]
      exact ⟨N22, (wl + (1 : Int64)), ph, rfl, K22, p22_0, p22_1, p22_2, p22_3, p22_4, p22_5, p22_6, p22_7, p22_8, p22_9, p22_10, P14⟩
theorem ef_own_within1 (m : MethodId) (pr0 : Addr) (pr1 : Addr) (pi3 : Int32) : entryFrame m #[(.ref pr0), (.ref pr1), (.int 0), (.int pi3)] 6 = mkF m 0 #[rv pr0, rv pr1, iv 0, iv pi3, .unset, .unset] [] := by first | (simp [entryFrame, mkF, argsToLocals, Value.category]; done) | rfl
def Q_own_within1 (Z : State) (pr0 : Addr) (pr1 : Addr) (pi3 : Int32) (ev : Addr) (ns : Addr) (sg : Addr) (phS : Addr) (phF : Addr) (phA : Addr) (phD : Addr) (co : Addr) (ct : Addr) (ph : Addr) (wz : Int32) (wm : Int64) (wl : Int64) (wo : Int32) (wc : Int64) (kc : ClassId) (h0 : Heap) (n0 : Nat) (v : Option Value) (h : Heap) (L : List Loc) : Prop := Fr n0 L ∧ ∃ (wl2 : Int64) (ph2 : Addr), v = some (.int 1) ∧ Keep h0 h ([pr0] : List Addr) ∧ Exa Z h pr0 own_s0 ∧ Fld Z h pr0 own_s0 "count" own_s1 (.ref ct) ∧ Fld Z h pr0 own_s0 own_s2 "Z" (.int wz) ∧ Fld Z h pr0 own_s0 "most" "J" (.long wm) ∧ Fld Z h pr0 own_s0 "length" "J" (.long wl2) ∧ Fld Z h pr0 own_s0 "past" "Z" (.int 1) ∧ Fld Z h pr0 own_s0 "over" "Z" (.int wo) ∧ Fld Z h pr0 own_s0 "counted" "J" (.long wc) ∧ Fld Z h pr0 own_s0 "phase" own_s4 (.ref ph2) ∧ Fld Z h pr0 own_s0 "run" own_s5 .null ∧ Fld Z h pr0 own_s0 own_s3 "J" (.long 0) ∧ (ph2 = phS ∨ ph2 = phD)
set_option maxRecDepth 65536 in
set_option maxHeartbeats 40000000 in
theorem own_within1 (l : Launch) (Z : State) (a0 : Array Value) (hw : ∀ d ∈ tables_1, d.before a0 Z = true) (ws : List Jvm.Cond) (pr0 : Addr) (pr1 : Addr) (pi3 : Int32) (ev : Addr) (ns : Addr) (sg : Addr) (phS : Addr) (phF : Addr) (phA : Addr) (phD : Addr) (co : Addr) (ct : Addr) (ph : Addr) (wz : Int32) (wm : Int64) (wl : Int64) (wo : Int32) (wc : Int64) (kc : ClassId) (h0 : Heap) (n0 : Nat) (Z0 : n0 ≤ h0.size) (P0 : own_ST Z h0 ev ns sg phS phF phA phD co) (P1 : own_NN ev ns sg phS phF phA phD co) (P2 : Exa Z h0 pr0 own_s0) (P3 : Fld Z h0 pr0 own_s0 "count" own_s1 (.ref ct)) (P4 : Fld Z h0 pr0 own_s0 own_s2 "Z" (.int wz)) (P5 : Fld Z h0 pr0 own_s0 "most" "J" (.long wm)) (P6 : Fld Z h0 pr0 own_s0 "length" "J" (.long wl)) (P7 : Fld Z h0 pr0 own_s0 "past" "Z" (.int 0)) (P8 : Fld Z h0 pr0 own_s0 "over" "Z" (.int wo)) (P9 : Fld Z h0 pr0 own_s0 "counted" "J" (.long wc)) (P10 : Fld Z h0 pr0 own_s0 "phase" own_s4 (.ref ph)) (P11 : Fld Z h0 pr0 own_s0 "run" own_s5 .null) (P12 : Fld Z h0 pr0 own_s0 own_s3 "J" (.long 0)) (P13 : ct = ev ∨ ct = ns ∨ ct = sg) (P14 : ph = phS ∨ ph = phD) (P15 : Arv Z h0 pr1 kc .char (8 : Int32) [(.int 120), (.int 120), (.int 120), (.int 120), (.int 120), (.int 120), (.int 120), (.int 120)] (.int 0)) (P16 : pr1 ≠ pr0) (P17 : n0 ≤ pr0) (P18 : (0 : Int32) < pi3) (P19 : (1 : Int32) < pi3) (P20 : ¬ (wm < (wl + (1 : Int64)))) (P21 : wm < ((wl + (1 : Int64)) + (1 : Int64))) (P22 : (wm - wl) < ((pi3 - (0 : Int32)).toInt64)) (P23 : ((0 : Int32) + ((wm - wl).toInt32)) = (1 : Int32)) :
    MetFree l (⟨own_s0, "within", "([CII)I"⟩ : MethodName) (head1 (Jvm.Cond.code (⟨own_s0, "within", "([CII)I"⟩ : MethodName) prog_127_method_11_code 6 (some .int) :: ws) ({ frames := 2, cells := 0, slots := 0, locals := 40 } : Room)) (fun a U => a = #[(.ref pr0), (.ref pr1), (.int 0), (.int pi3)] ∧ Z.Warmed39 U.vm ∧ U.heap = h0) (fun _ _ _ _ _ => True) (fun _ U o U' => ∃ v L, o = .returned v ∧ Q_own_within1 Z pr0 pr1 pi3 ev ns sg phS phF phA phD co ct ph wz wm wl wo wc kc h0 n0 v U'.heap L ∧ FrameEnd U o U' L ({ frames := 2, cells := 0, slots := 0, locals := 40 } : Room).cells ({ frames := 2, cells := 0, slots := 0, locals := 40 } : Room).slots) := by
  refine MetFree.of_bodySF (plainFor_of_name pn_8) hisR ?_
  intro p e s m args below meth c s₁ Bd hml0 hP hK
  obtain ⟨rfl, hZ, hh⟩ := hP
  have hx := Bd.exec
  have hby := Bd.bytes
  have hml : c.maxLocals = 6 := hml0
  have hown : s.vm.findClass own_s0 = some m.cls := findClass_of_methodNamed Bd.named
  have hnm := (name_of_methodNamed Bd.named Bd.method).1
  have X0 : Stand p l e ({ frames := 2, cells := 0, slots := 0, locals := 40 } : Room) s m #[(.ref pr0), (.ref pr1), (.int 0), (.int pi3)] below meth c s₁ [] 0 0 := Stand.of_body Bd
  have e0 : s₁.heap = h0 := by rw [← hh, Bd.state]; rfl
  have N0 := Fr.nil n0
  have go0 : ∀ t, own_S p e below (s₁.setTop (mkF m 0 #[rv pr0, rv pr1, iv 0, iv pi3, .unset, .unset] [])) t → Steps p.tables e below (s₁.setTop (entryFrame m #[(.ref pr0), (.ref pr1), (.int 0), (.int pi3)] 6)) t := fun t k => castTop (ef_own_within1 m pr0 pr1 pi3) k
  revert go0
  generalize s₁.setTop (entryFrame m #[(.ref pr0), (.ref pr1), (.int 0), (.int pi3)] 6) = st0
  intro go0
  by_cases hE1 : ct = ev
  · skip
    have fc1 : Fld Z h0 pr0 own_s0 "count" own_s1 (.ref ev) := by rw [← hE1]; exact P3
    obtain ⟨T2, X2, e2, st2⟩ := getF X0 hx hZ hown (host := "") (Or.inl (own_w hw 68 rfl)) Via.refl e0 P7 (g := (mkF m 1 #[rv pr0, rv pr1, iv 0, iv pi3, .unset, .unset] [(.ref pr0)])) rfl rfl (hb hby d21_1)
    obtain ⟨T3, X3, e3, st3⟩ := getF X2 hx hZ hown (host := "") (Or.inl (own_w hw 55 rfl)) Via.refl e2 fc1 (g := (mkF m 10 #[rv pr0, rv pr1, iv 0, iv pi3, .unset, .unset] [(.ref pr0)])) rfl rfl (hb hby d21_10)
    obtain ⟨T4, X4, e4, st4⟩ := getS2 X3 hx hZ hown (host := "") (Or.inl (own_w hw 106 rfl)) Via.refl e3 (own_ST.s0 P0) (g := (mkF m 13 #[rv pr0, rv pr1, iv 0, iv pi3, .unset, .unset] [(.ref ev)])) rfl (hb hby d21_13)
    obtain ⟨T5, X5, e5, st5⟩ := getF X4 hx hZ hown (host := "") (Or.inl (own_w hw 64 rfl)) Via.refl e4 P5 (g := (mkF m 20 #[rv pr0, rv pr1, iv 0, iv pi3, .unset, .unset] [(.ref pr0)])) rfl rfl (hb hby d21_20)
    obtain ⟨T6, X6, e6, st6⟩ := getF X5 hx hZ hown (host := "") (Or.inl (own_w hw 66 rfl)) Via.refl e5 P6 (g := (mkF m 24 #[rv pr0, rv pr1, iv 0, iv pi3, .unset, .unset] [(.ref pr0), (.long wm)])) rfl rfl (hb hby d21_24)
    obtain ⟨T7, h7, X7, e7, W7, st7⟩ := putFN X6 hx hZ hown (own_w hw 68 rfl) Via.refl e6 P7 P2 (Or.inl (own_w hw 69 rfl)) (own_w hw 13 rfl) (ty := .boolean) (v' := (.int 1)) (by decide) rfl rfl (g := (mkF m 57 #[rv pr0, rv pr1, iv 0, iv pi3, .val (.long (wm - wl)), .second] [(.int 1), (.ref pr0)])) rfl rfl (hb hby d21_57)
    have K7 : Keep h0 h7 ([pr0] : List Addr) := (Keep.refl h0 ([pr0] : List Addr)).wr W7 (Or.inl (List.mem_of_getElem? (i := 0) rfl))
    have N7 := Fr.snoc X7 N0 P17
    have Z7 : n0 ≤ h7.size := Nat.le_trans Z0 (Keep.of_wr W7).1
    have Fw7 := P7.same W7
    have go8 : ∀ t, own_S p e below (T7.setTop (mkF m 65 #[rv pr0, rv pr1, iv 0, iv pi3, .val (.long (wm - wl)), .second] [(.int ((0 : Int32) + ((wm - wl).toInt32)))])) t → Steps p.tables e below st0 t := by
      intro t kt
      refine go0 t ?_
      refine XS.aloadN X0.here hx rfl (hb hby d21_0) rfl rfl ?_
      show own_S p e below (s₁.setTop (mkF m 1 #[rv pr0, rv pr1, iv 0, iv pi3, .unset, .unset] [(.ref pr0)])) _
      refine st2 _ ?_
      show own_S p e below (T2.setTop (mkF m 4 #[rv pr0, rv pr1, iv 0, iv pi3, .unset, .unset] [(.int 0)])) _
      refine XS.ifYes X2.here hx rfl (pc0 := 4) (pc' := 9) rfl (hb hby d21_4) rfl ((if0 _ _).trans (teq (by decide : (0 : Int32) = (0 : Int32))).1) (by decide) (by decide) ?_
      refine XS.aloadN X2.here hx rfl (hb hby d21_9) rfl rfl ?_
      show own_S p e below (T2.setTop (mkF m 10 #[rv pr0, rv pr1, iv 0, iv pi3, .unset, .unset] [(.ref pr0)])) _
      refine st3 _ ?_
      show own_S p e below (T3.setTop (mkF m 13 #[rv pr0, rv pr1, iv 0, iv pi3, .unset, .unset] [(.ref ev)])) _
      refine st4 _ ?_
      show own_S p e below (T4.setTop (mkF m 16 #[rv pr0, rv pr1, iv 0, iv pi3, .unset, .unset] [(.ref ev), (.ref ev)])) _
      refine Jvm.RoadKit.acmp (g := (mkF m 16 #[rv pr0, rv pr1, iv 0, iv pi3, .unset, .unset] [(.ref ev), (.ref ev)])) X4 hx rfl rfl rfl (pc0 := 16) (pc' := 19) (same := true) rfl (hb hby d21_16) rfl (decide_eq_true rfl) (by decide) (by decide) ?_
      refine XS.aloadN X4.here hx rfl (hb hby d21_19) rfl rfl ?_
      show own_S p e below (T4.setTop (mkF m 20 #[rv pr0, rv pr1, iv 0, iv pi3, .unset, .unset] [(.ref pr0)])) _
      refine st5 _ ?_
      refine XS.aloadN X5.here hx rfl (hb hby d21_23) rfl rfl ?_
      show own_S p e below (T5.setTop (mkF m 24 #[rv pr0, rv pr1, iv 0, iv pi3, .unset, .unset] [(.ref pr0), (.long wm)])) _
      refine st6 _ ?_
      refine XS.lsub X6.here hx rfl (hb hby d21_27) rfl ?_
      show own_S p e below (T6.setTop (mkF m 28 #[rv pr0, rv pr1, iv 0, iv pi3, .unset, .unset] [(.long (wm - wl))])) _
      refine XS.lstore X6.here hx rfl (hb hby d21_28) rfl (l' := #[rv pr0, rv pr1, iv 0, iv pi3, .val (.long (wm - wl)), .second]) rfl ?_
      refine XS.iloadN X6.here hx rfl (hb hby d21_30) rfl ?_
      refine XS.iloadN X6.here hx rfl (hb hby d21_31) rfl ?_
      refine XS.isub X6.here hx rfl (hb hby d21_32) rfl ?_
      show own_S p e below (T6.setTop (mkF m 33 #[rv pr0, rv pr1, iv 0, iv pi3, .val (.long (wm - wl)), .second] [(.int (pi3 - (0 : Int32)))])) _
      refine XS.i2l X6.here hx rfl (hb hby d21_33) rfl ?_
      refine XS.lload X6.here hx rfl (hb hby d21_34) rfl ?_
      show own_S p e below (T6.setTop (mkF m 36 #[rv pr0, rv pr1, iv 0, iv pi3, .val (.long (wm - wl)), .second] [(.long (wm - wl)), (.long ((pi3 - (0 : Int32)).toInt64))])) _
      refine XS.lcmp X6.here hx rfl (hb hby d21_36) rfl ?_
      show own_S p e below (T6.setTop (mkF m 37 #[rv pr0, rv pr1, iv 0, iv pi3, .val (.long (wm - wl)), .second] [(.int (lcmpW ((pi3 - (0 : Int32)).toInt64) (wm - wl)))])) _
      refine XS.ifYes X6.here hx rfl (pc0 := 37) (pc' := 55) rfl (hb hby d21_37) rfl (Jvm.Free.XT.ll_gt_t P22) (by decide) (by decide) ?_
      refine XS.aloadN X6.here hx rfl (hb hby d21_55) rfl rfl ?_
      refine XS.iconst X6.here hx rfl (hb hby d21_56) ?_
      show own_S p e below (T6.setTop (mkF m 57 #[rv pr0, rv pr1, iv 0, iv pi3, .val (.long (wm - wl)), .second] [(.int 1), (.ref pr0)])) _
      refine st7 _ ?_
      refine XS.iloadN X7.here hx rfl (hb hby d21_60) rfl ?_
      refine XS.lload X7.here hx rfl (hb hby d21_61) rfl ?_
      show own_S p e below (T7.setTop (mkF m 63 #[rv pr0, rv pr1, iv 0, iv pi3, .val (.long (wm - wl)), .second] [(.long (wm - wl)), (.int 0)])) _
      refine XS.l2i X7.here hx rfl (hb hby d21_63) rfl ?_
      refine XS.iadd X7.here hx rfl (hb hby d21_64) rfl ?_
      show own_S p e below (T7.setTop (mkF m 65 #[rv pr0, rv pr1, iv 0, iv pi3, .val (.long (wm - wl)), .second] [(.int ((0 : Int32) + ((wm - wl).toInt32)))])) _
      exact kt
    obtain ⟨fs, hr, hrun, hended, hW, hsame⟩ := X7.leave (v := some (.int ((0 : Int32) + ((wm - wl).toInt32)))) (fun h => by rw [Bd.returns] at h; cases h)
    refine ⟨_, _, go8 _ ?_, hrun, hended, _, _, rfl, ?_, ⟨_, rfl⟩, hW, hsame.mono (by decide) (by decide)⟩
    · exact retI X7 hx Bd.returns (hb hby d21_65) hr
    · show Q_own_within1 Z pr0 pr1 pi3 ev ns sg phS phF phA phD co ct ph wz wm wl wo wc kc h0 n0 _ T7.heap _
      rw [e7]
      have f9 := (P2.wr W7)
      have f10 := (fc1.other W7 (Or.inr (own_sn63 hw)))
      have f11 := (P4.other W7 (Or.inr (own_sn71 hw)))
      have f12 := (P5.other W7 (Or.inr (own_sn78 hw)))
      have f13 := (P6.other W7 (Or.inr (own_sn84 hw)))
      have f14 := (P8.other W7 (Or.inr (own_sn29 hw)))
      have f15 := (P9.other W7 (Or.inr (own_sn34 hw)))
      have f16 := (P10.other W7 (Or.inr (own_sn40 hw)))
      have f17 := (P11.other W7 (Or.inr (own_sn47 hw)))
      have f18 : Fld Z h7 pr0 own_s0 own_s3 "J" (.long 0) := (P12.other W7 (Or.inr (own_sn55 hw)))
      exact ⟨N7, wl, ph, (by rw [P23]), K7, f9, (by rw [hE1]; exact f10), f11, f12, f13, Fw7, f14, f15, f16, f17, f18, P14⟩
  · skip
    obtain ⟨T19, X19, e19, st19⟩ := getF X0 hx hZ hown (host := "") (Or.inl (own_w hw 68 rfl)) Via.refl e0 P7 (g := (mkF m 1 #[rv pr0, rv pr1, iv 0, iv pi3, .unset, .unset] [(.ref pr0)])) rfl rfl (hb hby d21_1)
    obtain ⟨T20, X20, e20, st20⟩ := getF X19 hx hZ hown (host := "") (Or.inl (own_w hw 55 rfl)) Via.refl e19 P3 (g := (mkF m 10 #[rv pr0, rv pr1, iv 0, iv pi3, .unset, .unset] [(.ref pr0)])) rfl rfl (hb hby d21_10)
    obtain ⟨T21, X21, e21, st21⟩ := getS2 X20 hx hZ hown (host := "") (Or.inl (own_w hw 106 rfl)) Via.refl e20 (own_ST.s0 P0) (g := (mkF m 13 #[rv pr0, rv pr1, iv 0, iv pi3, .unset, .unset] [(.ref ct)])) rfl (hb hby d21_13)
    obtain ⟨T22, h22, L22, ph2_22, X22, e22, N22, Kc22, Z22, p22_0, p22_1, p22_2, p22_3, p22_4, p22_5, p22_6, p22_7, p22_8, p22_9, p22_10, p22_11, st22⟩ := own_wt0 pr0 pr1 pi3 (0 : Int32) ev ns sg phS phF phA phD co ct ph wz wm wl wo wc kc X21 hx hZ hw hby hml hown e21 N0 Z0 P0 P1 P2 P3 P4 P5 P6 P7 P8 P9 P10 P11 P12 P13 P14 P15 P16 P17 (by decide) P18 P20
    have K22 : Keep h0 h22 ([pr0] : List Addr) := (Keep.refl h0 ([pr0] : List Addr)).trans Kc22 (allS (P := fun x => x ∈ ([pr0] : List Addr) ∨ h0.size ≤ x) (Or.inl (List.mem_of_getElem? (i := 0) rfl)) all0)
    have f23 := (P0.keep Kc22 (allS (P := fun x => ∀ c, h0[x]? = some c → c.vm.isStatics = false) (own_nost P2) all0))
    have f24 : Arv Z h22 pr1 kc .char (8 : Int32) [(.int 120), (.int 120), (.int 120), (.int 120), (.int 120), (.int 120), (.int 120), (.int 120)] (.int 0) := (P15.keep Kc22 (ninS P16 nin0))
    obtain ⟨T25, h25, L25, X25, e25, N25, Kc25, Z25, p25_0, p25_1, p25_2, p25_3, p25_4, p25_5, p25_6, p25_7, p25_8, p25_9, p25_10, st25⟩ := own_we1 pr0 pr1 pi3 (1 : Int32) ev ns sg phS phF phA phD co ct ph2_22 wz wm (wl + (1 : Int64)) wo wc kc X22 hx hZ hw hby hml hown e22 N22 Z22 f23 P1 p22_0 p22_1 p22_2 p22_3 p22_4 p22_5 p22_6 p22_7 p22_8 p22_9 p22_10 P13 p22_11 f24 P16 P17 (by decide) P19 P21
    have K25 : Keep h0 h25 ([pr0] : List Addr) := K22.trans Kc25 (allS (P := fun x => x ∈ ([pr0] : List Addr) ∨ h0.size ≤ x) (Or.inl (List.mem_of_getElem? (i := 0) rfl)) all0)
    have go26 : ∀ t, own_S p e below (T25.setTop (mkF m 115 #[rv pr0, rv pr1, iv 0, iv pi3, iv 1, iv 120] [(.int 1)])) t → Steps p.tables e below st0 t := by
      intro t kt
      refine go0 t ?_
      refine XS.aloadN X0.here hx rfl (hb hby d21_0) rfl rfl ?_
      show own_S p e below (s₁.setTop (mkF m 1 #[rv pr0, rv pr1, iv 0, iv pi3, .unset, .unset] [(.ref pr0)])) _
      refine st19 _ ?_
      show own_S p e below (T19.setTop (mkF m 4 #[rv pr0, rv pr1, iv 0, iv pi3, .unset, .unset] [(.int 0)])) _
      refine XS.ifYes X19.here hx rfl (pc0 := 4) (pc' := 9) rfl (hb hby d21_4) rfl ((if0 _ _).trans (teq (by decide : (0 : Int32) = (0 : Int32))).1) (by decide) (by decide) ?_
      refine XS.aloadN X19.here hx rfl (hb hby d21_9) rfl rfl ?_
      show own_S p e below (T19.setTop (mkF m 10 #[rv pr0, rv pr1, iv 0, iv pi3, .unset, .unset] [(.ref pr0)])) _
      refine st20 _ ?_
      show own_S p e below (T20.setTop (mkF m 13 #[rv pr0, rv pr1, iv 0, iv pi3, .unset, .unset] [(.ref ct)])) _
      refine st21 _ ?_
      show own_S p e below (T21.setTop (mkF m 16 #[rv pr0, rv pr1, iv 0, iv pi3, .unset, .unset] [(.ref ev), (.ref ct)])) _
      refine Jvm.RoadKit.acmp (g := (mkF m 16 #[rv pr0, rv pr1, iv 0, iv pi3, .unset, .unset] [(.ref ev), (.ref ct)])) X21 hx rfl rfl rfl (pc0 := 16) (pc' := 66) (same := false) rfl (hb hby d21_16) rfl (decide_eq_false fun q => hE1 (Value.ref.inj q)) (by decide) (by decide) ?_
      refine XS.iloadN X21.here hx rfl (hb hby d21_66) rfl ?_
      show own_S p e below (T21.setTop (mkF m 67 #[rv pr0, rv pr1, iv 0, iv pi3, .unset, .unset] [(.int 0)])) _
      refine XS.istore X21.here hx rfl (hb hby d21_67) rfl (l' := #[rv pr0, rv pr1, iv 0, iv pi3, iv 0, .unset]) rfl ?_
      show own_S p e below (T21.setTop (mkF m 69 #[rv pr0, rv pr1, iv 0, iv pi3, iv 0, .unset] [])) _
      refine st22 _ ?_
      show own_S p e below (T22.setTop (mkF m 69 #[rv pr0, rv pr1, iv 0, iv pi3, iv 1, iv 120] [])) _
      refine st25 _ ?_
      refine XS.iload X25.here hx rfl (hb hby d21_113) rfl ?_
      show own_S p e below (T25.setTop (mkF m 115 #[rv pr0, rv pr1, iv 0, iv pi3, iv 1, iv 120] [(.int 1)])) _
      exact kt
    obtain ⟨fs, hr, hrun, hended, hW, hsame⟩ := X25.leave (v := some (.int 1)) (fun h => by rw [Bd.returns] at h; cases h)
    refine ⟨_, _, go26 _ ?_, hrun, hended, _, _, rfl, ?_, ⟨_, rfl⟩, hW, hsame.mono (by decide) (by decide)⟩
    · exact retI X25 hx Bd.returns (hb hby d21_115) hr
    · show Q_own_within1 Z pr0 pr1 pi3 ev ns sg phS phF phA phD co ct ph wz wm wl wo wc kc h0 n0 _ T25.heap _
      rw [e25]
      exact ⟨N25, ((wl + (1 : Int64)) + (1 : Int64)), ph2_22, rfl, K25, p25_0, p25_1, p25_2, p25_3, p25_4, p25_5, p25_6, p25_7, p25_8, p25_9, p25_10, p22_11⟩
theorem ef_own_within2 (m : MethodId) (pr0 : Addr) (pr1 : Addr) (pi3 : Int32) : entryFrame m #[(.ref pr0), (.ref pr1), (.int 0), (.int pi3)] 6 = mkF m 0 #[rv pr0, rv pr1, iv 0, iv pi3, .unset, .unset] [] := by first | (simp [entryFrame, mkF, argsToLocals, Value.category]; done) | rfl
def Q_own_within2 (Z : State) (pr0 : Addr) (pr1 : Addr) (pi3 : Int32) (ev : Addr) (ns : Addr) (sg : Addr) (phS : Addr) (phF : Addr) (phA : Addr) (phD : Addr) (co : Addr) (ct : Addr) (ph : Addr) (wz : Int32) (wm : Int64) (wl : Int64) (wo : Int32) (wc : Int64) (kc : ClassId) (h0 : Heap) (n0 : Nat) (v : Option Value) (h : Heap) (L : List Loc) : Prop := Fr n0 L ∧ ∃ (wl2 : Int64) (ph2 : Addr), v = some (.int 2) ∧ Keep h0 h ([pr0] : List Addr) ∧ Exa Z h pr0 own_s0 ∧ Fld Z h pr0 own_s0 "count" own_s1 (.ref ct) ∧ Fld Z h pr0 own_s0 own_s2 "Z" (.int wz) ∧ Fld Z h pr0 own_s0 "most" "J" (.long wm) ∧ Fld Z h pr0 own_s0 "length" "J" (.long wl2) ∧ Fld Z h pr0 own_s0 "past" "Z" (.int 1) ∧ Fld Z h pr0 own_s0 "over" "Z" (.int wo) ∧ Fld Z h pr0 own_s0 "counted" "J" (.long wc) ∧ Fld Z h pr0 own_s0 "phase" own_s4 (.ref ph2) ∧ Fld Z h pr0 own_s0 "run" own_s5 .null ∧ Fld Z h pr0 own_s0 own_s3 "J" (.long 0) ∧ (ph2 = phS ∨ ph2 = phD)
set_option maxRecDepth 65536 in
set_option maxHeartbeats 40000000 in
theorem own_within2 (l : Launch) (Z : State) (a0 : Array Value) (hw : ∀ d ∈ tables_1, d.before a0 Z = true) (ws : List Jvm.Cond) (pr0 : Addr) (pr1 : Addr) (pi3 : Int32) (ev : Addr) (ns : Addr) (sg : Addr) (phS : Addr) (phF : Addr) (phA : Addr) (phD : Addr) (co : Addr) (ct : Addr) (ph : Addr) (wz : Int32) (wm : Int64) (wl : Int64) (wo : Int32) (wc : Int64) (kc : ClassId) (h0 : Heap) (n0 : Nat) (Z0 : n0 ≤ h0.size) (P0 : own_ST Z h0 ev ns sg phS phF phA phD co) (P1 : own_NN ev ns sg phS phF phA phD co) (P2 : Exa Z h0 pr0 own_s0) (P3 : Fld Z h0 pr0 own_s0 "count" own_s1 (.ref ct)) (P4 : Fld Z h0 pr0 own_s0 own_s2 "Z" (.int wz)) (P5 : Fld Z h0 pr0 own_s0 "most" "J" (.long wm)) (P6 : Fld Z h0 pr0 own_s0 "length" "J" (.long wl)) (P7 : Fld Z h0 pr0 own_s0 "past" "Z" (.int 0)) (P8 : Fld Z h0 pr0 own_s0 "over" "Z" (.int wo)) (P9 : Fld Z h0 pr0 own_s0 "counted" "J" (.long wc)) (P10 : Fld Z h0 pr0 own_s0 "phase" own_s4 (.ref ph)) (P11 : Fld Z h0 pr0 own_s0 "run" own_s5 .null) (P12 : Fld Z h0 pr0 own_s0 own_s3 "J" (.long 0)) (P13 : ct = ev ∨ ct = ns ∨ ct = sg) (P14 : ph = phS ∨ ph = phD) (P15 : Arv Z h0 pr1 kc .char (8 : Int32) [(.int 120), (.int 120), (.int 120), (.int 120), (.int 120), (.int 120), (.int 120), (.int 120)] (.int 0)) (P16 : pr1 ≠ pr0) (P17 : n0 ≤ pr0) (P18 : (0 : Int32) < pi3) (P19 : (1 : Int32) < pi3) (P20 : (2 : Int32) < pi3) (P21 : ¬ (wm < (wl + (1 : Int64)))) (P22 : ¬ (wm < ((wl + (1 : Int64)) + (1 : Int64)))) (P23 : wm < (((wl + (1 : Int64)) + (1 : Int64)) + (1 : Int64))) (P24 : (wm - wl) < ((pi3 - (0 : Int32)).toInt64)) (P25 : ((0 : Int32) + ((wm - wl).toInt32)) = (2 : Int32)) :
    MetFree l (⟨own_s0, "within", "([CII)I"⟩ : MethodName) (head1 (Jvm.Cond.code (⟨own_s0, "within", "([CII)I"⟩ : MethodName) prog_127_method_11_code 6 (some .int) :: ws) ({ frames := 2, cells := 0, slots := 0, locals := 40 } : Room)) (fun a U => a = #[(.ref pr0), (.ref pr1), (.int 0), (.int pi3)] ∧ Z.Warmed39 U.vm ∧ U.heap = h0) (fun _ _ _ _ _ => True) (fun _ U o U' => ∃ v L, o = .returned v ∧ Q_own_within2 Z pr0 pr1 pi3 ev ns sg phS phF phA phD co ct ph wz wm wl wo wc kc h0 n0 v U'.heap L ∧ FrameEnd U o U' L ({ frames := 2, cells := 0, slots := 0, locals := 40 } : Room).cells ({ frames := 2, cells := 0, slots := 0, locals := 40 } : Room).slots) := by
  refine MetFree.of_bodySF (plainFor_of_name pn_8) hisR ?_
  intro p e s m args below meth c s₁ Bd hml0 hP hK
  obtain ⟨rfl, hZ, hh⟩ := hP
  have hx := Bd.exec
  have hby := Bd.bytes
  have hml : c.maxLocals = 6 := hml0
  have hown : s.vm.findClass own_s0 = some m.cls := findClass_of_methodNamed Bd.named
  have hnm := (name_of_methodNamed Bd.named Bd.method).1
  have X0 : Stand p l e ({ frames := 2, cells := 0, slots := 0, locals := 40 } : Room) s m #[(.ref pr0), (.ref pr1), (.int 0), (.int pi3)] below meth c s₁ [] 0 0 := Stand.of_body Bd
  have e0 : s₁.heap = h0 := by rw [← hh, Bd.state]; rfl
  have N0 := Fr.nil n0
  have go0 : ∀ t, own_S p e below (s₁.setTop (mkF m 0 #[rv pr0, rv pr1, iv 0, iv pi3, .unset, .unset] [])) t → Steps p.tables e below (s₁.setTop (entryFrame m #[(.ref pr0), (.ref pr1), (.int 0), (.int pi3)] 6)) t := fun t k => castTop (ef_own_within2 m pr0 pr1 pi3) k
  revert go0
  generalize s₁.setTop (entryFrame m #[(.ref pr0), (.ref pr1), (.int 0), (.int pi3)] 6) = st0
  intro go0
  by_cases hE1 : ct = ev
  · skip
    have fc1 : Fld Z h0 pr0 own_s0 "count" own_s1 (.ref ev) := by rw [← hE1]; exact P3
    obtain ⟨T2, X2, e2, st2⟩ := getF X0 hx hZ hown (host := "") (Or.inl (own_w hw 68 rfl)) Via.refl e0 P7 (g := (mkF m 1 #[rv pr0, rv pr1, iv 0, iv pi3, .unset, .unset] [(.ref pr0)])) rfl rfl (hb hby d21_1)
    obtain ⟨T3, X3, e3, st3⟩ := getF X2 hx hZ hown (host := "") (Or.inl (own_w hw 55 rfl)) Via.refl e2 fc1 (g := (mkF m 10 #[rv pr0, rv pr1, iv 0, iv pi3, .unset, .unset] [(.ref pr0)])) rfl rfl (hb hby d21_10)
    obtain ⟨T4, X4, e4, st4⟩ := getS2 X3 hx hZ hown (host := "") (Or.inl (own_w hw 106 rfl)) Via.refl e3 (own_ST.s0 P0) (g := (mkF m 13 #[rv pr0, rv pr1, iv 0, iv pi3, .unset, .unset] [(.ref ev)])) rfl (hb hby d21_13)
    obtain ⟨T5, X5, e5, st5⟩ := getF X4 hx hZ hown (host := "") (Or.inl (own_w hw 64 rfl)) Via.refl e4 P5 (g := (mkF m 20 #[rv pr0, rv pr1, iv 0, iv pi3, .unset, .unset] [(.ref pr0)])) rfl rfl (hb hby d21_20)
    obtain ⟨T6, X6, e6, st6⟩ := getF X5 hx hZ hown (host := "") (Or.inl (own_w hw 66 rfl)) Via.refl e5 P6 (g := (mkF m 24 #[rv pr0, rv pr1, iv 0, iv pi3, .unset, .unset] [(.ref pr0), (.long wm)])) rfl rfl (hb hby d21_24)
    obtain ⟨T7, h7, X7, e7, W7, st7⟩ := putFN X6 hx hZ hown (own_w hw 68 rfl) Via.refl e6 P7 P2 (Or.inl (own_w hw 69 rfl)) (own_w hw 13 rfl) (ty := .boolean) (v' := (.int 1)) (by decide) rfl rfl (g := (mkF m 57 #[rv pr0, rv pr1, iv 0, iv pi3, .val (.long (wm - wl)), .second] [(.int 1), (.ref pr0)])) rfl rfl (hb hby d21_57)
    have K7 : Keep h0 h7 ([pr0] : List Addr) := (Keep.refl h0 ([pr0] : List Addr)).wr W7 (Or.inl (List.mem_of_getElem? (i := 0) rfl))
    have N7 := Fr.snoc X7 N0 P17
    have Z7 : n0 ≤ h7.size := Nat.le_trans Z0 (Keep.of_wr W7).1
    have Fw7 := P7.same W7
    have go8 : ∀ t, own_S p e below (T7.setTop (mkF m 65 #[rv pr0, rv pr1, iv 0, iv pi3, .val (.long (wm - wl)), .second] [(.int ((0 : Int32) + ((wm - wl).toInt32)))])) t → Steps p.tables e below st0 t := by
      intro t kt
      refine go0 t ?_
      refine XS.aloadN X0.here hx rfl (hb hby d21_0) rfl rfl ?_
      show own_S p e below (s₁.setTop (mkF m 1 #[rv pr0, rv pr1, iv 0, iv pi3, .unset, .unset] [(.ref pr0)])) _
      refine st2 _ ?_
      show own_S p e below (T2.setTop (mkF m 4 #[rv pr0, rv pr1, iv 0, iv pi3, .unset, .unset] [(.int 0)])) _
      refine XS.ifYes X2.here hx rfl (pc0 := 4) (pc' := 9) rfl (hb hby d21_4) rfl ((if0 _ _).trans (teq (by decide : (0 : Int32) = (0 : Int32))).1) (by decide) (by decide) ?_
      refine XS.aloadN X2.here hx rfl (hb hby d21_9) rfl rfl ?_
      show own_S p e below (T2.setTop (mkF m 10 #[rv pr0, rv pr1, iv 0, iv pi3, .unset, .unset] [(.ref pr0)])) _
      refine st3 _ ?_
      show own_S p e below (T3.setTop (mkF m 13 #[rv pr0, rv pr1, iv 0, iv pi3, .unset, .unset] [(.ref ev)])) _
      refine st4 _ ?_
      show own_S p e below (T4.setTop (mkF m 16 #[rv pr0, rv pr1, iv 0, iv pi3, .unset, .unset] [(.ref ev), (.ref ev)])) _
      refine Jvm.RoadKit.acmp (g := (mkF m 16 #[rv pr0, rv pr1, iv 0, iv pi3, .unset, .unset] [(.ref ev), (.ref ev)])) X4 hx rfl rfl rfl (pc0 := 16) (pc' := 19) (same := true) rfl (hb hby d21_16) rfl (decide_eq_true rfl) (by decide) (by decide) ?_
      refine XS.aloadN X4.here hx rfl (hb hby d21_19) rfl rfl ?_
      show own_S p e below (T4.setTop (mkF m 20 #[rv pr0, rv pr1, iv 0, iv pi3, .unset, .unset] [(.ref pr0)])) _
      refine st5 _ ?_
      refine XS.aloadN X5.here hx rfl (hb hby d21_23) rfl rfl ?_
      show own_S p e below (T5.setTop (mkF m 24 #[rv pr0, rv pr1, iv 0, iv pi3, .unset, .unset] [(.ref pr0), (.long wm)])) _
      refine st6 _ ?_
      refine XS.lsub X6.here hx rfl (hb hby d21_27) rfl ?_
      show own_S p e below (T6.setTop (mkF m 28 #[rv pr0, rv pr1, iv 0, iv pi3, .unset, .unset] [(.long (wm - wl))])) _
      refine XS.lstore X6.here hx rfl (hb hby d21_28) rfl (l' := #[rv pr0, rv pr1, iv 0, iv pi3, .val (.long (wm - wl)), .second]) rfl ?_
      refine XS.iloadN X6.here hx rfl (hb hby d21_30) rfl ?_
      refine XS.iloadN X6.here hx rfl (hb hby d21_31) rfl ?_
      refine XS.isub X6.here hx rfl (hb hby d21_32) rfl ?_
      show own_S p e below (T6.setTop (mkF m 33 #[rv pr0, rv pr1, iv 0, iv pi3, .val (.long (wm - wl)), .second] [(.int (pi3 - (0 : Int32)))])) _
      refine XS.i2l X6.here hx rfl (hb hby d21_33) rfl ?_
      refine XS.lload X6.here hx rfl (hb hby d21_34) rfl ?_
      show own_S p e below (T6.setTop (mkF m 36 #[rv pr0, rv pr1, iv 0, iv pi3, .val (.long (wm - wl)), .second] [(.long (wm - wl)), (.long ((pi3 - (0 : Int32)).toInt64))])) _
      refine XS.lcmp X6.here hx rfl (hb hby d21_36) rfl ?_
      show own_S p e below (T6.setTop (mkF m 37 #[rv pr0, rv pr1, iv 0, iv pi3, .val (.long (wm - wl)), .second] [(.int (lcmpW ((pi3 - (0 : Int32)).toInt64) (wm - wl)))])) _
      refine XS.ifYes X6.here hx rfl (pc0 := 37) (pc' := 55) rfl (hb hby d21_37) rfl (Jvm.Free.XT.ll_gt_t P24) (by decide) (by decide) ?_
      refine XS.aloadN X6.here hx rfl (hb hby d21_55) rfl rfl ?_
      refine XS.iconst X6.here hx rfl (hb hby d21_56) ?_
      show own_S p e below (T6.setTop (mkF m 57 #[rv pr0, rv pr1, iv 0, iv pi3, .val (.long (wm - wl)), .second] [(.int 1), (.ref pr0)])) _
      refine st7 _ ?_
      refine XS.iloadN X7.here hx rfl (hb hby d21_60) rfl ?_
      refine XS.lload X7.here hx rfl (hb hby d21_61) rfl ?_
      show own_S p e below (T7.setTop (mkF m 63 #[rv pr0, rv pr1, iv 0, iv pi3, .val (.long (wm - wl)), .second] [(.long (wm - wl)), (.int 0)])) _
      refine XS.l2i X7.here hx rfl (hb hby d21_63) rfl ?_
      refine XS.iadd X7.here hx rfl (hb hby d21_64) rfl ?_
      show own_S p e below (T7.setTop (mkF m 65 #[rv pr0, rv pr1, iv 0, iv pi3, .val (.long (wm - wl)), .second] [(.int ((0 : Int32) + ((wm - wl).toInt32)))])) _
      exact kt
    obtain ⟨fs, hr, hrun, hended, hW, hsame⟩ := X7.leave (v := some (.int ((0 : Int32) + ((wm - wl).toInt32)))) (fun h => by rw [Bd.returns] at h; cases h)
    refine ⟨_, _, go8 _ ?_, hrun, hended, _, _, rfl, ?_, ⟨_, rfl⟩, hW, hsame.mono (by decide) (by decide)⟩
    · exact retI X7 hx Bd.returns (hb hby d21_65) hr
    · show Q_own_within2 Z pr0 pr1 pi3 ev ns sg phS phF phA phD co ct ph wz wm wl wo wc kc h0 n0 _ T7.heap _
      rw [e7]
      have f9 := (P2.wr W7)
      have f10 := (fc1.other W7 (Or.inr (own_sn63 hw)))
      have f11 := (P4.other W7 (Or.inr (own_sn71 hw)))
      have f12 := (P5.other W7 (Or.inr (own_sn78 hw)))
      have f13 := (P6.other W7 (Or.inr (own_sn84 hw)))
      have f14 := (P8.other W7 (Or.inr (own_sn29 hw)))
      have f15 := (P9.other W7 (Or.inr (own_sn34 hw)))
      have f16 := (P10.other W7 (Or.inr (own_sn40 hw)))
      have f17 := (P11.other W7 (Or.inr (own_sn47 hw)))
      have f18 : Fld Z h7 pr0 own_s0 own_s3 "J" (.long 0) := (P12.other W7 (Or.inr (own_sn55 hw)))
      exact ⟨N7, wl, ph, (by rw [P25]), K7, f9, (by rw [hE1]; exact f10), f11, f12, f13, Fw7, f14, f15, f16, f17, f18, P14⟩
  · skip
    obtain ⟨T19, X19, e19, st19⟩ := getF X0 hx hZ hown (host := "") (Or.inl (own_w hw 68 rfl)) Via.refl e0 P7 (g := (mkF m 1 #[rv pr0, rv pr1, iv 0, iv pi3, .unset, .unset] [(.ref pr0)])) rfl rfl (hb hby d21_1)
    obtain ⟨T20, X20, e20, st20⟩ := getF X19 hx hZ hown (host := "") (Or.inl (own_w hw 55 rfl)) Via.refl e19 P3 (g := (mkF m 10 #[rv pr0, rv pr1, iv 0, iv pi3, .unset, .unset] [(.ref pr0)])) rfl rfl (hb hby d21_10)
    obtain ⟨T21, X21, e21, st21⟩ := getS2 X20 hx hZ hown (host := "") (Or.inl (own_w hw 106 rfl)) Via.refl e20 (own_ST.s0 P0) (g := (mkF m 13 #[rv pr0, rv pr1, iv 0, iv pi3, .unset, .unset] [(.ref ct)])) rfl (hb hby d21_13)
    obtain ⟨T22, h22, L22, ph2_22, X22, e22, N22, Kc22, Z22, p22_0, p22_1, p22_2, p22_3, p22_4, p22_5, p22_6, p22_7, p22_8, p22_9, p22_10, p22_11, st22⟩ := own_wt0 pr0 pr1 pi3 (0 : Int32) ev ns sg phS phF phA phD co ct ph wz wm wl wo wc kc X21 hx hZ hw hby hml hown e21 N0 Z0 P0 P1 P2 P3 P4 P5 P6 P7 P8 P9 P10 P11 P12 P13 P14 P15 P16 P17 (by decide) P18 P21
    have K22 : Keep h0 h22 ([pr0] : List Addr) := (Keep.refl h0 ([pr0] : List Addr)).trans Kc22 (allS (P := fun x => x ∈ ([pr0] : List Addr) ∨ h0.size ≤ x) (Or.inl (List.mem_of_getElem? (i := 0) rfl)) all0)
    have f23 := (P0.keep Kc22 (allS (P := fun x => ∀ c, h0[x]? = some c → c.vm.isStatics = false) (own_nost P2) all0))
    have f24 : Arv Z h22 pr1 kc .char (8 : Int32) [(.int 120), (.int 120), (.int 120), (.int 120), (.int 120), (.int 120), (.int 120), (.int 120)] (.int 0) := (P15.keep Kc22 (ninS P16 nin0))
    obtain ⟨T25, h25, L25, ph2_25, X25, e25, N25, Kc25, Z25, p25_0, p25_1, p25_2, p25_3, p25_4, p25_5, p25_6, p25_7, p25_8, p25_9, p25_10, p25_11, st25⟩ := own_wt1 pr0 pr1 pi3 (1 : Int32) ev ns sg phS phF phA phD co ct ph2_22 wz wm (wl + (1 : Int64)) wo wc kc X22 hx hZ hw hby hml hown e22 N22 Z22 f23 P1 p22_0 p22_1 p22_2 p22_3 p22_4 p22_5 p22_6 p22_7 p22_8 p22_9 p22_10 P13 p22_11 f24 P16 P17 (by decide) P19 P22
    have K25 : Keep h0 h25 ([pr0] : List Addr) := K22.trans Kc25 (allS (P := fun x => x ∈ ([pr0] : List Addr) ∨ h0.size ≤ x) (Or.inl (List.mem_of_getElem? (i := 0) rfl)) all0)
    have f26 := (f23.keep Kc25 (allS (P := fun x => ∀ c, h22[x]? = some c → c.vm.isStatics = false) (own_nost p22_0) all0))
    have f27 : Arv Z h25 pr1 kc .char (8 : Int32) [(.int 120), (.int 120), (.int 120), (.int 120), (.int 120), (.int 120), (.int 120), (.int 120)] (.int 0) := (f24.keep Kc25 (ninS P16 nin0))
    obtain ⟨T28, h28, L28, X28, e28, N28, Kc28, Z28, p28_0, p28_1, p28_2, p28_3, p28_4, p28_5, p28_6, p28_7, p28_8, p28_9, p28_10, st28⟩ := own_we1 pr0 pr1 pi3 (2 : Int32) ev ns sg phS phF phA phD co ct ph2_25 wz wm ((wl + (1 : Int64)) + (1 : Int64)) wo wc kc X25 hx hZ hw hby hml hown e25 N25 Z25 f26 P1 p25_0 p25_1 p25_2 p25_3 p25_4 p25_5 p25_6 p25_7 p25_8 p25_9 p25_10 P13 p25_11 f27 P16 P17 (by decide) P20 P23
    have K28 : Keep h0 h28 ([pr0] : List Addr) := K25.trans Kc28 (allS (P := fun x => x ∈ ([pr0] : List Addr) ∨ h0.size ≤ x) (Or.inl (List.mem_of_getElem? (i := 0) rfl)) all0)
    have go29 : ∀ t, own_S p e below (T28.setTop (mkF m 115 #[rv pr0, rv pr1, iv 0, iv pi3, iv 2, iv 120] [(.int 2)])) t → Steps p.tables e below st0 t := by
      intro t kt
      refine go0 t ?_
      refine XS.aloadN X0.here hx rfl (hb hby d21_0) rfl rfl ?_
      show own_S p e below (s₁.setTop (mkF m 1 #[rv pr0, rv pr1, iv 0, iv pi3, .unset, .unset] [(.ref pr0)])) _
      refine st19 _ ?_
      show own_S p e below (T19.setTop (mkF m 4 #[rv pr0, rv pr1, iv 0, iv pi3, .unset, .unset] [(.int 0)])) _
      refine XS.ifYes X19.here hx rfl (pc0 := 4) (pc' := 9) rfl (hb hby d21_4) rfl ((if0 _ _).trans (teq (by decide : (0 : Int32) = (0 : Int32))).1) (by decide) (by decide) ?_
      refine XS.aloadN X19.here hx rfl (hb hby d21_9) rfl rfl ?_
      show own_S p e below (T19.setTop (mkF m 10 #[rv pr0, rv pr1, iv 0, iv pi3, .unset, .unset] [(.ref pr0)])) _
      refine st20 _ ?_
      show own_S p e below (T20.setTop (mkF m 13 #[rv pr0, rv pr1, iv 0, iv pi3, .unset, .unset] [(.ref ct)])) _
      refine st21 _ ?_
      show own_S p e below (T21.setTop (mkF m 16 #[rv pr0, rv pr1, iv 0, iv pi3, .unset, .unset] [(.ref ev), (.ref ct)])) _
      refine Jvm.RoadKit.acmp (g := (mkF m 16 #[rv pr0, rv pr1, iv 0, iv pi3, .unset, .unset] [(.ref ev), (.ref ct)])) X21 hx rfl rfl rfl (pc0 := 16) (pc' := 66) (same := false) rfl (hb hby d21_16) rfl (decide_eq_false fun q => hE1 (Value.ref.inj q)) (by decide) (by decide) ?_
      refine XS.iloadN X21.here hx rfl (hb hby d21_66) rfl ?_
      show own_S p e below (T21.setTop (mkF m 67 #[rv pr0, rv pr1, iv 0, iv pi3, .unset, .unset] [(.int 0)])) _
      refine XS.istore X21.here hx rfl (hb hby d21_67) rfl (l' := #[rv pr0, rv pr1, iv 0, iv pi3, iv 0, .unset]) rfl ?_
      show own_S p e below (T21.setTop (mkF m 69 #[rv pr0, rv pr1, iv 0, iv pi3, iv 0, .unset] [])) _
      refine st22 _ ?_
      show own_S p e below (T22.setTop (mkF m 69 #[rv pr0, rv pr1, iv 0, iv pi3, iv 1, iv 120] [])) _
      refine st25 _ ?_
      show own_S p e below (T25.setTop (mkF m 69 #[rv pr0, rv pr1, iv 0, iv pi3, iv 2, iv 120] [])) _
      refine st28 _ ?_
      refine XS.iload X28.here hx rfl (hb hby d21_113) rfl ?_
      show own_S p e below (T28.setTop (mkF m 115 #[rv pr0, rv pr1, iv 0, iv pi3, iv 2, iv 120] [(.int 2)])) _
      exact kt
    obtain ⟨fs, hr, hrun, hended, hW, hsame⟩ := X28.leave (v := some (.int 2)) (fun h => by rw [Bd.returns] at h; cases h)
    refine ⟨_, _, go29 _ ?_, hrun, hended, _, _, rfl, ?_, ⟨_, rfl⟩, hW, hsame.mono (by decide) (by decide)⟩
    · exact retI X28 hx Bd.returns (hb hby d21_115) hr
    · show Q_own_within2 Z pr0 pr1 pi3 ev ns sg phS phF phA phD co ct ph wz wm wl wo wc kc h0 n0 _ T28.heap _
      rw [e28]
      exact ⟨N28, (((wl + (1 : Int64)) + (1 : Int64)) + (1 : Int64)), ph2_25, rfl, K28, p28_0, p28_1, p28_2, p28_3, p28_4, p28_5, p28_6, p28_7, p28_8, p28_9, p28_10, p25_11⟩
theorem ef_own_within3 (m : MethodId) (pr0 : Addr) (pr1 : Addr) (pi3 : Int32) : entryFrame m #[(.ref pr0), (.ref pr1), (.int 0), (.int pi3)] 6 = mkF m 0 #[rv pr0, rv pr1, iv 0, iv pi3, .unset, .unset] [] := by first | (simp [entryFrame, mkF, argsToLocals, Value.category]; done) | rfl
def Q_own_within3 (Z : State) (pr0 : Addr) (pr1 : Addr) (pi3 : Int32) (ev : Addr) (ns : Addr) (sg : Addr) (phS : Addr) (phF : Addr) (phA : Addr) (phD : Addr) (co : Addr) (ct : Addr) (ph : Addr) (wz : Int32) (wm : Int64) (wl : Int64) (wo : Int32) (wc : Int64) (kc : ClassId) (h0 : Heap) (n0 : Nat) (v : Option Value) (h : Heap) (L : List Loc) : Prop := Fr n0 L ∧ ∃ (wl2 : Int64) (ph2 : Addr), v = some (.int 3) ∧ Keep h0 h ([pr0] : List Addr) ∧ Exa Z h pr0 own_s0 ∧ Fld Z h pr0 own_s0 "count" own_s1 (.ref ct) ∧ Fld Z h pr0 own_s0 own_s2 "Z" (.int wz) ∧ Fld Z h pr0 own_s0 "most" "J" (.long wm) ∧ Fld Z h pr0 own_s0 "length" "J" (.long wl2) ∧ Fld Z h pr0 own_s0 "past" "Z" (.int 1) ∧ Fld Z h pr0 own_s0 "over" "Z" (.int wo) ∧ Fld Z h pr0 own_s0 "counted" "J" (.long wc) ∧ Fld Z h pr0 own_s0 "phase" own_s4 (.ref ph2) ∧ Fld Z h pr0 own_s0 "run" own_s5 .null ∧ Fld Z h pr0 own_s0 own_s3 "J" (.long 0) ∧ (ph2 = phS ∨ ph2 = phD)
set_option maxRecDepth 65536 in
set_option maxHeartbeats 40000000 in
theorem own_within3 (l : Launch) (Z : State) (a0 : Array Value) (hw : ∀ d ∈ tables_1, d.before a0 Z = true) (ws : List Jvm.Cond) (pr0 : Addr) (pr1 : Addr) (pi3 : Int32) (ev : Addr) (ns : Addr) (sg : Addr) (phS : Addr) (phF : Addr) (phA : Addr) (phD : Addr) (co : Addr) (ct : Addr) (ph : Addr) (wz : Int32) (wm : Int64) (wl : Int64) (wo : Int32) (wc : Int64) (kc : ClassId) (h0 : Heap) (n0 : Nat) (Z0 : n0 ≤ h0.size) (P0 : own_ST Z h0 ev ns sg phS phF phA phD co) (P1 : own_NN ev ns sg phS phF phA phD co) (P2 : Exa Z h0 pr0 own_s0) (P3 : Fld Z h0 pr0 own_s0 "count" own_s1 (.ref ct)) (P4 : Fld Z h0 pr0 own_s0 own_s2 "Z" (.int wz)) (P5 : Fld Z h0 pr0 own_s0 "most" "J" (.long wm)) (P6 : Fld Z h0 pr0 own_s0 "length" "J" (.long wl)) (P7 : Fld Z h0 pr0 own_s0 "past" "Z" (.int 0)) (P8 : Fld Z h0 pr0 own_s0 "over" "Z" (.int wo)) (P9 : Fld Z h0 pr0 own_s0 "counted" "J" (.long wc)) (P10 : Fld Z h0 pr0 own_s0 "phase" own_s4 (.ref ph)) (P11 : Fld Z h0 pr0 own_s0 "run" own_s5 .null) (P12 : Fld Z h0 pr0 own_s0 own_s3 "J" (.long 0)) (P13 : ct = ev ∨ ct = ns ∨ ct = sg) (P14 : ph = phS ∨ ph = phD) (P15 : Arv Z h0 pr1 kc .char (8 : Int32) [(.int 120), (.int 120), (.int 120), (.int 120), (.int 120), (.int 120), (.int 120), (.int 120)] (.int 0)) (P16 : pr1 ≠ pr0) (P17 : n0 ≤ pr0) (P18 : (0 : Int32) < pi3) (P19 : (1 : Int32) < pi3) (P20 : (2 : Int32) < pi3) (P21 : (3 : Int32) < pi3) (P22 : ¬ (wm < (wl + (1 : Int64)))) (P23 : ¬ (wm < ((wl + (1 : Int64)) + (1 : Int64)))) (P24 : ¬ (wm < (((wl + (1 : Int64)) + (1 : Int64)) + (1 : Int64)))) (P25 : wm < ((((wl + (1 : Int64)) + (1 : Int64)) + (1 : Int64)) + (1 : Int64))) (P26 : (wm - wl) < ((pi3 - (0 : Int32)).toInt64)) (P27 : ((0 : Int32) + ((wm - wl).toInt32)) = (3 : Int32)) :
    MetFree l (⟨own_s0, "within", "([CII)I"⟩ : MethodName) (head1 (Jvm.Cond.code (⟨own_s0, "within", "([CII)I"⟩ : MethodName) prog_127_method_11_code 6 (some .int) :: ws) ({ frames := 2, cells := 0, slots := 0, locals := 40 } : Room)) (fun a U => a = #[(.ref pr0), (.ref pr1), (.int 0), (.int pi3)] ∧ Z.Warmed39 U.vm ∧ U.heap = h0) (fun _ _ _ _ _ => True) (fun _ U o U' => ∃ v L, o = .returned v ∧ Q_own_within3 Z pr0 pr1 pi3 ev ns sg phS phF phA phD co ct ph wz wm wl wo wc kc h0 n0 v U'.heap L ∧ FrameEnd U o U' L ({ frames := 2, cells := 0, slots := 0, locals := 40 } : Room).cells ({ frames := 2, cells := 0, slots := 0, locals := 40 } : Room).slots) := by
  refine MetFree.of_bodySF (plainFor_of_name pn_8) hisR ?_
  intro p e s m args below meth c s₁ Bd hml0 hP hK
  obtain ⟨rfl, hZ, hh⟩ := hP
  have hx := Bd.exec
  have hby := Bd.bytes
  have hml : c.maxLocals = 6 := hml0
  have hown : s.vm.findClass own_s0 = some m.cls := findClass_of_methodNamed Bd.named
  have hnm := (name_of_methodNamed Bd.named Bd.method).1
  have X0 : Stand p l e ({ frames := 2, cells := 0, slots := 0, locals := 40 } : Room) s m #[(.ref pr0), (.ref pr1), (.int 0), (.int pi3)] below meth c s₁ [] 0 0 := Stand.of_body Bd
  have e0 : s₁.heap = h0 := by rw [← hh, Bd.state]; rfl
  have N0 := Fr.nil n0
  have go0 : ∀ t, own_S p e below (s₁.setTop (mkF m 0 #[rv pr0, rv pr1, iv 0, iv pi3, .unset, .unset] [])) t → Steps p.tables e below (s₁.setTop (entryFrame m #[(.ref pr0), (.ref pr1), (.int 0), (.int pi3)] 6)) t := fun t k => castTop (ef_own_within3 m pr0 pr1 pi3) k
  revert go0
  generalize s₁.setTop (entryFrame m #[(.ref pr0), (.ref pr1), (.int 0), (.int pi3)] 6) = st0
  intro go0
  by_cases hE1 : ct = ev
  · skip
    have fc1 : Fld Z h0 pr0 own_s0 "count" own_s1 (.ref ev) := by rw [← hE1]; exact P3
    obtain ⟨T2, X2, e2, st2⟩ := getF X0 hx hZ hown (host := "") (Or.inl (own_w hw 68 rfl)) Via.refl e0 P7 (g := (mkF m 1 #[rv pr0, rv pr1, iv 0, iv pi3, .unset, .unset] [(.ref pr0)])) rfl rfl (hb hby d21_1)
    obtain ⟨T3, X3, e3, st3⟩ := getF X2 hx hZ hown (host := "") (Or.inl (own_w hw 55 rfl)) Via.refl e2 fc1 (g := (mkF m 10 #[rv pr0, rv pr1, iv 0, iv pi3, .unset, .unset] [(.ref pr0)])) rfl rfl (hb hby d21_10)
    obtain ⟨T4, X4, e4, st4⟩ := getS2 X3 hx hZ hown (host := "") (Or.inl (own_w hw 106 rfl)) Via.refl e3 (own_ST.s0 P0) (g := (mkF m 13 #[rv pr0, rv pr1, iv 0, iv pi3, .unset, .unset] [(.ref ev)])) rfl (hb hby d21_13)
    obtain ⟨T5, X5, e5, st5⟩ := getF X4 hx hZ hown (host := "") (Or.inl (own_w hw 64 rfl)) Via.refl e4 P5 (g := (mkF m 20 #[rv pr0, rv pr1, iv 0, iv pi3, .unset, .unset] [(.ref pr0)])) rfl rfl (hb hby d21_20)
    obtain ⟨T6, X6, e6, st6⟩ := getF X5 hx hZ hown (host := "") (Or.inl (own_w hw 66 rfl)) Via.refl e5 P6 (g := (mkF m 24 #[rv pr0, rv pr1, iv 0, iv pi3, .unset, .unset] [(.ref pr0), (.long wm)])) rfl rfl (hb hby d21_24)
    obtain ⟨T7, h7, X7, e7, W7, st7⟩ := putFN X6 hx hZ hown (own_w hw 68 rfl) Via.refl e6 P7 P2 (Or.inl (own_w hw 69 rfl)) (own_w hw 13 rfl) (ty := .boolean) (v' := (.int 1)) (by decide) rfl rfl (g := (mkF m 57 #[rv pr0, rv pr1, iv 0, iv pi3, .val (.long (wm - wl)), .second] [(.int 1), (.ref pr0)])) rfl rfl (hb hby d21_57)
    have K7 : Keep h0 h7 ([pr0] : List Addr) := (Keep.refl h0 ([pr0] : List Addr)).wr W7 (Or.inl (List.mem_of_getElem? (i := 0) rfl))
    have N7 := Fr.snoc X7 N0 P17
    have Z7 : n0 ≤ h7.size := Nat.le_trans Z0 (Keep.of_wr W7).1
    have Fw7 := P7.same W7
    have go8 : ∀ t, own_S p e below (T7.setTop (mkF m 65 #[rv pr0, rv pr1, iv 0, iv pi3, .val (.long (wm - wl)), .second] [(.int ((0 : Int32) + ((wm - wl).toInt32)))])) t → Steps p.tables e below st0 t := by
      intro t kt
      refine go0 t ?_
      refine XS.aloadN X0.here hx rfl (hb hby d21_0) rfl rfl ?_
      show own_S p e below (s₁.setTop (mkF m 1 #[rv pr0, rv pr1, iv 0, iv pi3, .unset, .unset] [(.ref pr0)])) _
      refine st2 _ ?_
      show own_S p e below (T2.setTop (mkF m 4 #[rv pr0, rv pr1, iv 0, iv pi3, .unset, .unset] [(.int 0)])) _
      refine XS.ifYes X2.here hx rfl (pc0 := 4) (pc' := 9) rfl (hb hby d21_4) rfl ((if0 _ _).trans (teq (by decide : (0 : Int32) = (0 : Int32))).1) (by decide) (by decide) ?_
      refine XS.aloadN X2.here hx rfl (hb hby d21_9) rfl rfl ?_
      show own_S p e below (T2.setTop (mkF m 10 #[rv pr0, rv pr1, iv 0, iv pi3, .unset, .unset] [(.ref pr0)])) _
      refine st3 _ ?_
      show own_S p e below (T3.setTop (mkF m 13 #[rv pr0, rv pr1, iv 0, iv pi3, .unset, .unset] [(.ref ev)])) _
      refine st4 _ ?_
      show own_S p e below (T4.setTop (mkF m 16 #[rv pr0, rv pr1, iv 0, iv pi3, .unset, .unset] [(.ref ev), (.ref ev)])) _
      refine Jvm.RoadKit.acmp (g := (mkF m 16 #[rv pr0, rv pr1, iv 0, iv pi3, .unset, .unset] [(.ref ev), (.ref ev)])) X4 hx rfl rfl rfl (pc0 := 16) (pc' := 19) (same := true) rfl (hb hby d21_16) rfl (decide_eq_true rfl) (by decide) (by decide) ?_
      refine XS.aloadN X4.here hx rfl (hb hby d21_19) rfl rfl ?_
      show own_S p e below (T4.setTop (mkF m 20 #[rv pr0, rv pr1, iv 0, iv pi3, .unset, .unset] [(.ref pr0)])) _
      refine st5 _ ?_
      refine XS.aloadN X5.here hx rfl (hb hby d21_23) rfl rfl ?_
      show own_S p e below (T5.setTop (mkF m 24 #[rv pr0, rv pr1, iv 0, iv pi3, .unset, .unset] [(.ref pr0), (.long wm)])) _
      refine st6 _ ?_
      refine XS.lsub X6.here hx rfl (hb hby d21_27) rfl ?_
      show own_S p e below (T6.setTop (mkF m 28 #[rv pr0, rv pr1, iv 0, iv pi3, .unset, .unset] [(.long (wm - wl))])) _
      refine XS.lstore X6.here hx rfl (hb hby d21_28) rfl (l' := #[rv pr0, rv pr1, iv 0, iv pi3, .val (.long (wm - wl)), .second]) rfl ?_
      refine XS.iloadN X6.here hx rfl (hb hby d21_30) rfl ?_
      refine XS.iloadN X6.here hx rfl (hb hby d21_31) rfl ?_
      refine XS.isub X6.here hx rfl (hb hby d21_32) rfl ?_
      show own_S p e below (T6.setTop (mkF m 33 #[rv pr0, rv pr1, iv 0, iv pi3, .val (.long (wm - wl)), .second] [(.int (pi3 - (0 : Int32)))])) _
      refine XS.i2l X6.here hx rfl (hb hby d21_33) rfl ?_
      refine XS.lload X6.here hx rfl (hb hby d21_34) rfl ?_
      show own_S p e below (T6.setTop (mkF m 36 #[rv pr0, rv pr1, iv 0, iv pi3, .val (.long (wm - wl)), .second] [(.long (wm - wl)), (.long ((pi3 - (0 : Int32)).toInt64))])) _
      refine XS.lcmp X6.here hx rfl (hb hby d21_36) rfl ?_
      show own_S p e below (T6.setTop (mkF m 37 #[rv pr0, rv pr1, iv 0, iv pi3, .val (.long (wm - wl)), .second] [(.int (lcmpW ((pi3 - (0 : Int32)).toInt64) (wm - wl)))])) _
      refine XS.ifYes X6.here hx rfl (pc0 := 37) (pc' := 55) rfl (hb hby d21_37) rfl (Jvm.Free.XT.ll_gt_t P26) (by decide) (by decide) ?_
      refine XS.aloadN X6.here hx rfl (hb hby d21_55) rfl rfl ?_
      refine XS.iconst X6.here hx rfl (hb hby d21_56) ?_
      show own_S p e below (T6.setTop (mkF m 57 #[rv pr0, rv pr1, iv 0, iv pi3, .val (.long (wm - wl)), .second] [(.int 1), (.ref pr0)])) _
      refine st7 _ ?_
      refine XS.iloadN X7.here hx rfl (hb hby d21_60) rfl ?_
      refine XS.lload X7.here hx rfl (hb hby d21_61) rfl ?_
      show own_S p e below (T7.setTop (mkF m 63 #[rv pr0, rv pr1, iv 0, iv pi3, .val (.long (wm - wl)), .second] [(.long (wm - wl)), (.int 0)])) _
      refine XS.l2i X7.here hx rfl (hb hby d21_63) rfl ?_
      refine XS.iadd X7.here hx rfl (hb hby d21_64) rfl ?_
      show own_S p e below (T7.setTop (mkF m 65 #[rv pr0, rv pr1, iv 0, iv pi3, .val (.long (wm - wl)), .second] [(.int ((0 : Int32) + ((wm - wl).toInt32)))])) _
      exact kt
    obtain ⟨fs, hr, hrun, hended, hW, hsame⟩ := X7.leave (v := some (.int ((0 : Int32) + ((wm - wl).toInt32)))) (fun h => by rw [Bd.returns] at h; cases h)
    refine ⟨_, _, go8 _ ?_, hrun, hended, _, _, rfl, ?_, ⟨_, rfl⟩, hW, hsame.mono (by decide) (by decide)⟩
    · exact retI X7 hx Bd.returns (hb hby d21_65) hr
    · show Q_own_within3 Z pr0 pr1 pi3 ev ns sg phS phF phA phD co ct ph wz wm wl wo wc kc h0 n0 _ T7.heap _
      rw [e7]
      have f9 := (P2.wr W7)
      have f10 := (fc1.other W7 (Or.inr (own_sn63 hw)))
      have f11 := (P4.other W7 (Or.inr (own_sn71 hw)))
      have f12 := (P5.other W7 (Or.inr (own_sn78 hw)))
      have f13 := (P6.other W7 (Or.inr (own_sn84 hw)))
      have f14 := (P8.other W7 (Or.inr (own_sn29 hw)))
      have f15 := (P9.other W7 (Or.inr (own_sn34 hw)))
      have f16 := (P10.other W7 (Or.inr (own_sn40 hw)))
      have f17 := (P11.other W7 (Or.inr (own_sn47 hw)))
      have f18 : Fld Z h7 pr0 own_s0 own_s3 "J" (.long 0) := (P12.other W7 (Or.inr (own_sn55 hw)))
      exact ⟨N7, wl, ph, (by rw [P27]), K7, f9, (by rw [hE1]; exact f10), f11, f12, f13, Fw7, f14, f15, f16, f17, f18, P14⟩
  · skip
    obtain ⟨T19, X19, e19, st19⟩ := getF X0 hx hZ hown (host := "") (Or.inl (own_w hw 68 rfl)) Via.refl e0 P7 (g := (mkF m 1 #[rv pr0, rv pr1, iv 0, iv pi3, .unset, .unset] [(.ref pr0)])) rfl rfl (hb hby d21_1)
    obtain ⟨T20, X20, e20, st20⟩ := getF X19 hx hZ hown (host := "") (Or.inl (own_w hw 55 rfl)) Via.refl e19 P3 (g := (mkF m 10 #[rv pr0, rv pr1, iv 0, iv pi3, .unset, .unset] [(.ref pr0)])) rfl rfl (hb hby d21_10)
    obtain ⟨T21, X21, e21, st21⟩ := getS2 X20 hx hZ hown (host := "") (Or.inl (own_w hw 106 rfl)) Via.refl e20 (own_ST.s0 P0) (g := (mkF m 13 #[rv pr0, rv pr1, iv 0, iv pi3, .unset, .unset] [(.ref ct)])) rfl (hb hby d21_13)
    obtain ⟨T22, h22, L22, ph2_22, X22, e22, N22, Kc22, Z22, p22_0, p22_1, p22_2, p22_3, p22_4, p22_5, p22_6, p22_7, p22_8, p22_9, p22_10, p22_11, st22⟩ := own_wt0 pr0 pr1 pi3 (0 : Int32) ev ns sg phS phF phA phD co ct ph wz wm wl wo wc kc X21 hx hZ hw hby hml hown e21 N0 Z0 P0 P1 P2 P3 P4 P5 P6 P7 P8 P9 P10 P11 P12 P13 P14 P15 P16 P17 (by decide) P18 P22
    have K22 : Keep h0 h22 ([pr0] : List Addr) := (Keep.refl h0 ([pr0] : List Addr)).trans Kc22 (allS (P := fun x => x ∈ ([pr0] : List Addr) ∨ h0.size ≤ x) (Or.inl (List.mem_of_getElem? (i := 0) rfl)) all0)
    have f23 := (P0.keep Kc22 (allS (P := fun x => ∀ c, h0[x]? = some c → c.vm.isStatics = false) (own_nost P2) all0))
    have f24 : Arv Z h22 pr1 kc .char (8 : Int32) [(.int 120), (.int 120), (.int 120), (.int 120), (.int 120), (.int 120), (.int 120), (.int 120)] (.int 0) := (P15.keep Kc22 (ninS P16 nin0))
    obtain ⟨T25, h25, L25, ph2_25, X25, e25, N25, Kc25, Z25, p25_0, p25_1, p25_2, p25_3, p25_4, p25_5, p25_6, p25_7, p25_8, p25_9, p25_10, p25_11, st25⟩ := own_wt1 pr0 pr1 pi3 (1 : Int32) ev ns sg phS phF phA phD co ct ph2_22 wz wm (wl + (1 : Int64)) wo wc kc X22 hx hZ hw hby hml hown e22 N22 Z22 f23 P1 p22_0 p22_1 p22_2 p22_3 p22_4 p22_5 p22_6 p22_7 p22_8 p22_9 p22_10 P13 p22_11 f24 P16 P17 (by decide) P19 P23
    have K25 : Keep h0 h25 ([pr0] : List Addr) := K22.trans Kc25 (allS (P := fun x => x ∈ ([pr0] : List Addr) ∨ h0.size ≤ x) (Or.inl (List.mem_of_getElem? (i := 0) rfl)) all0)
    have f26 := (f23.keep Kc25 (allS (P := fun x => ∀ c, h22[x]? = some c → c.vm.isStatics = false) (own_nost p22_0) all0))
    have f27 : Arv Z h25 pr1 kc .char (8 : Int32) [(.int 120), (.int 120), (.int 120), (.int 120), (.int 120), (.int 120), (.int 120), (.int 120)] (.int 0) := (f24.keep Kc25 (ninS P16 nin0))
    obtain ⟨T28, h28, L28, ph2_28, X28, e28, N28, Kc28, Z28, p28_0, p28_1, p28_2, p28_3, p28_4, p28_5, p28_6, p28_7, p28_8, p28_9, p28_10, p28_11, st28⟩ := own_wt1 pr0 pr1 pi3 (2 : Int32) ev ns sg phS phF phA phD co ct ph2_25 wz wm ((wl + (1 : Int64)) + (1 : Int64)) wo wc kc X25 hx hZ hw hby hml hown e25 N25 Z25 f26 P1 p25_0 p25_1 p25_2 p25_3 p25_4 p25_5 p25_6 p25_7 p25_8 p25_9 p25_10 P13 p25_11 f27 P16 P17 (by decide) P20 P24
    have K28 : Keep h0 h28 ([pr0] : List Addr) := K25.trans Kc28 (allS (P := fun x => x ∈ ([pr0] : List Addr) ∨ h0.size ≤ x) (Or.inl (List.mem_of_getElem? (i := 0) rfl)) all0)
    have f29 := (f26.keep Kc28 (allS (P := fun x => ∀ c, h25[x]? = some c → c.vm.isStatics = false) (own_nost p25_0) all0))
    have f30 : Arv Z h28 pr1 kc .char (8 : Int32) [(.int 120), (.int 120), (.int 120), (.int 120), (.int 120), (.int 120), (.int 120), (.int 120)] (.int 0) := (f27.keep Kc28 (ninS P16 nin0))
    obtain ⟨T31, h31, L31, X31, e31, N31, Kc31, Z31, p31_0, p31_1, p31_2, p31_3, p31_4, p31_5, p31_6, p31_7, p31_8, p31_9, p31_10, st31⟩ := own_we1 pr0 pr1 pi3 (3 : Int32) ev ns sg phS phF phA phD co ct ph2_28 wz wm (((wl + (1 : Int64)) + (1 : Int64)) + (1 : Int64)) wo wc kc X28 hx hZ hw hby hml hown e28 N28 Z28 f29 P1 p28_0 p28_1 p28_2 p28_3 p28_4 p28_5 p28_6 p28_7 p28_8 p28_9 p28_10 P13 p28_11 f30 P16 P17 (by decide) P21 P25
    have K31 : Keep h0 h31 ([pr0] : List Addr) := K28.trans Kc31 (allS (P := fun x => x ∈ ([pr0] : List Addr) ∨ h0.size ≤ x) (Or.inl (List.mem_of_getElem? (i := 0) rfl)) all0)
    have go32 : ∀ t, own_S p e below (T31.setTop (mkF m 115 #[rv pr0, rv pr1, iv 0, iv pi3, iv 3, iv 120] [(.int 3)])) t → Steps p.tables e below st0 t := by
      intro t kt
      refine go0 t ?_
      refine XS.aloadN X0.here hx rfl (hb hby d21_0) rfl rfl ?_
      show own_S p e below (s₁.setTop (mkF m 1 #[rv pr0, rv pr1, iv 0, iv pi3, .unset, .unset] [(.ref pr0)])) _
      refine st19 _ ?_
      show own_S p e below (T19.setTop (mkF m 4 #[rv pr0, rv pr1, iv 0, iv pi3, .unset, .unset] [(.int 0)])) _
      refine XS.ifYes X19.here hx rfl (pc0 := 4) (pc' := 9) rfl (hb hby d21_4) rfl ((if0 _ _).trans (teq (by decide : (0 : Int32) = (0 : Int32))).1) (by decide) (by decide) ?_
      refine XS.aloadN X19.here hx rfl (hb hby d21_9) rfl rfl ?_
      show own_S p e below (T19.setTop (mkF m 10 #[rv pr0, rv pr1, iv 0, iv pi3, .unset, .unset] [(.ref pr0)])) _
      refine st20 _ ?_
      show own_S p e below (T20.setTop (mkF m 13 #[rv pr0, rv pr1, iv 0, iv pi3, .unset, .unset] [(.ref ct)])) _
      refine st21 _ ?_
      show own_S p e below (T21.setTop (mkF m 16 #[rv pr0, rv pr1, iv 0, iv pi3, .unset, .unset] [(.ref ev), (.ref ct)])) _
      refine Jvm.RoadKit.acmp (g := (mkF m 16 #[rv pr0, rv pr1, iv 0, iv pi3, .unset, .unset] [(.ref ev), (.ref ct)])) X21 hx rfl rfl rfl (pc0 := 16) (pc' := 66) (same := false) rfl (hb hby d21_16) rfl (decide_eq_false fun q => hE1 (Value.ref.inj q)) (by decide) (by decide) ?_
      refine XS.iloadN X21.here hx rfl (hb hby d21_66) rfl ?_
      show own_S p e below (T21.setTop (mkF m 67 #[rv pr0, rv pr1, iv 0, iv pi3, .unset, .unset] [(.int 0)])) _
      refine XS.istore X21.here hx rfl (hb hby d21_67) rfl (l' := #[rv pr0, rv pr1, iv 0, iv pi3, iv 0, .unset]) rfl ?_
      show own_S p e below (T21.setTop (mkF m 69 #[rv pr0, rv pr1, iv 0, iv pi3, iv 0, .unset] [])) _
      refine st22 _ ?_
      show own_S p e below (T22.setTop (mkF m 69 #[rv pr0, rv pr1, iv 0, iv pi3, iv 1, iv 120] [])) _
      refine st25 _ ?_
      show own_S p e below (T25.setTop (mkF m 69 #[rv pr0, rv pr1, iv 0, iv pi3, iv 2, iv 120] [])) _
      refine st28 _ ?_
      show own_S p e below (T28.setTop (mkF m 69 #[rv pr0, rv pr1, iv 0, iv pi3, iv 3, iv 120] [])) _
      refine st31 _ ?_
      refine XS.iload X31.here hx rfl (hb hby d21_113) rfl ?_
      show own_S p e below (T31.setTop (mkF m 115 #[rv pr0, rv pr1, iv 0, iv pi3, iv 3, iv 120] [(.int 3)])) _
      exact kt
    obtain ⟨fs, hr, hrun, hended, hW, hsame⟩ := X31.leave (v := some (.int 3)) (fun h => by rw [Bd.returns] at h; cases h)
    refine ⟨_, _, go32 _ ?_, hrun, hended, _, _, rfl, ?_, ⟨_, rfl⟩, hW, hsame.mono (by decide) (by decide)⟩
    · exact retI X31 hx Bd.returns (hb hby d21_115) hr
    · show Q_own_within3 Z pr0 pr1 pi3 ev ns sg phS phF phA phD co ct ph wz wm wl wo wc kc h0 n0 _ T31.heap _
      rw [e31]
      exact ⟨N31, ((((wl + (1 : Int64)) + (1 : Int64)) + (1 : Int64)) + (1 : Int64)), ph2_28, rfl, K31, p31_0, p31_1, p31_2, p31_3, p31_4, p31_5, p31_6, p31_7, p31_8, p31_9, p31_10, p28_11⟩
set_option maxRecDepth 65536 in
set_option maxHeartbeats 40000000 in
theorem own_rt0 {p : Program} {l : Launch} {e : Env} {s : State} {m : MethodId} {args : Array Value} {below : List Frame} {meth : Method} {c : Code} {T0 : State} {locs : List Loc} {Z : State} {a0 : Array Value} {h0 : Heap} {n0 : Nat} (th : Addr) (ch : Addr) (nn : Int32) (en : Int32) (i : Int32) (ev : Addr) (ns : Addr) (sg : Addr) (phS : Addr) (phF : Addr) (phA : Addr) (phD : Addr) (co : Addr) (ct : Addr) (ph : Addr) (wz : Int32) (wm : Int64) (wl : Int64) (wc : Int64) (kc : ClassId) (X0 : Stand p l e ({ frames := 3, cells := 0, slots := 0, locals := 80 } : Room) s m args below meth c T0 locs 0 0) (hx : p.tables.exec = Jvm.exec) (hZ : Z.Warmed39 s.vm) (hw : ∀ d ∈ tables_1, d.before a0 Z = true) (hby : c.code = prog_127_method_6_code) (hml : c.maxLocals = 10) (hown : s.vm.findClass own_s0 = some m.cls) (e0 : T0.heap = h0) (N0 : Fr n0 locs) (Z0 : n0 ≤ h0.size) (P0 : own_ST Z h0 ev ns sg phS phF phA phD co) (P1 : own_NN ev ns sg phS phF phA phD co) (P2 : Exa Z h0 th own_s0) (P3 : Fld Z h0 th own_s0 "count" own_s1 (.ref ct)) (P4 : Fld Z h0 th own_s0 own_s2 "Z" (.int wz)) (P5 : Fld Z h0 th own_s0 "most" "J" (.long wm)) (P6 : Fld Z h0 th own_s0 "length" "J" (.long wl)) (P7 : Fld Z h0 th own_s0 "past" "Z" (.int 1)) (P8 : Fld Z h0 th own_s0 "over" "Z" (.int 0)) (P9 : Fld Z h0 th own_s0 "counted" "J" (.long wc)) (P10 : Fld Z h0 th own_s0 "phase" own_s4 (.ref ph)) (P11 : Fld Z h0 th own_s0 "run" own_s5 .null) (P12 : Fld Z h0 th own_s0 own_s3 "J" (.long 0)) (P13 : ct = ev ∨ ct = ns ∨ ct = sg) (P14 : ph = phS ∨ ph = phD) (P15 : Arv Z h0 ch kc .char (8 : Int32) [(.int 120), (.int 120), (.int 120), (.int 120), (.int 120), (.int 120), (.int 120), (.int 120)] (.int 0)) (P16 : ch ≠ th) (P17 : n0 ≤ th) (P18 : ¬ (i < 0) ∧ i < (8 : Int32)) (P19 : i < en) (P20 : ¬ (wm < (wc + (1 : Int64)))) :
    ∃ (T' : State) (h' : Heap) (L' : List Loc) (ph2 : Addr), Stand p l e ({ frames := 3, cells := 0, slots := 0, locals := 80 } : Room) s m args below meth c T' L' 0 0 ∧ T'.heap = h' ∧ Fr n0 L' ∧ Keep h0 h' ([th] : List Addr) ∧ n0 ≤ h'.size ∧ Exa Z h' th own_s0 ∧ Fld Z h' th own_s0 "count" own_s1 (.ref ct) ∧ Fld Z h' th own_s0 own_s2 "Z" (.int wz) ∧ Fld Z h' th own_s0 "most" "J" (.long wm) ∧ Fld Z h' th own_s0 "length" "J" (.long wl) ∧ Fld Z h' th own_s0 "past" "Z" (.int 1) ∧ Fld Z h' th own_s0 "over" "Z" (.int 0) ∧ Fld Z h' th own_s0 "counted" "J" (.long (wc + (1 : Int64))) ∧ Fld Z h' th own_s0 "phase" own_s4 (.ref ph2) ∧ Fld Z h' th own_s0 "run" own_s5 .null ∧ Fld Z h' th own_s0 own_s3 "J" (.long 0) ∧ (ph2 = phS ∨ ph2 = phD) ∧ ∀ t, Steps p.tables e below (T'.setTop (mkF m 27 #[rv th, rv ch, iv 0, iv nn, .val .null, iv en, iv 0, .val (.int (i + (1 : Int32))), iv 120, rv co] [])) t → own_S p e below (T0.setTop (mkF m 27 #[rv th, rv ch, iv 0, iv nn, .val .null, iv en, iv 0, iv i, .unset, .unset] [])) t := by
  obtain ⟨st0, hst0⟩ : ∃ zst, zst = T0.setTop (mkF m 27 #[rv th, rv ch, iv 0, iv nn, .val .null, iv en, iv 0, iv i, .unset, .unset] []) := ⟨_, rfl⟩
  have go0 : ∀ t, own_S p e below (T0.setTop (mkF m 27 #[rv th, rv ch, iv 0, iv nn, .val .null, iv en, iv 0, iv i, .unset, .unset] [])) t → Steps p.tables e below st0 t := fun t k => by rw [hst0]; exact k
  rw [← hst0]
  obtain ⟨cl1, Ar1, q1, S1, N1, H1, G1⟩ := id P15
  have hin1 : ¬ (i < 0 ∨ cl1.slots.size ≤ (i).toNatClampNeg) := inb_of S1 P18
  have hat1 : cl1.slots[(i).toNatClampNeg]? = some (.int 120) := Has.at H1 hin1 (own_x120 P18)
  obtain ⟨cq2, q2, q2'⟩ := P2.cell
  obtain ⟨_, _, ⟨T2, L2, k2, n2⟩, -, X2, ⟨Lc2, hQ2, l2, y2, z2⟩, st2⟩ := X0.privateBack hx (y := (⟨own_s0, "role", own_s14⟩ : MethodName)) hown (mvT hZ (own_w hw 107 rfl)) (mvT hZ (own_w hw 108 rfl)) (Jvm.Kit.selects_private (by decide) (mvT hZ (own_w hw 13 rfl)) (mvP hZ (own_w hw 109 rfl)) (mvT hZ (own_w hw 108 rfl))) (Cond.privateMethod_at (mvP hZ (own_w hw 109 rfl) (args := #[]))) (mvT hZ (own_w hw 110 rfl)) (by decide) (backOf (W := 0) (own_role l Z a0 hw [] th ev ns sg phS phF phA phD co ct ph wz wm wl (1 : Int32) (0 : Int32) wc h0 n0 Z0 P0 P1 P2 P3 P4 P5 P6 P7 P8 P9 P10 P11 P12 P13 P14 P17) hZ (own_w hw 110 rfl) (own_w hw 14 rfl) (by decide) (by decide)) (g := (mkF m 43 #[rv th, rv ch, iv 0, iv nn, .val .null, iv en, iv 0, iv i, iv 120, .unset] [(.int 120), (.ref th)])) rfl (by rw [hml]; rfl) (Steps.refl _) (a := th) (by rw [e0]; exact q2) q2' (argsL := [(.int 120)]) (rest := []) (lenOf pd_23 rfl) rfl (by show 2 * 0 + _ ≤ _; exact Nat.le_of_eq rfl) (hb hby d24_43) (fun _ _ => ⟨rfl, e0, (by decide : 0 + 0 ≤ _), (by decide : 0 + 0 ≤ _)⟩)
  dsimp only [Pt.U, Pt.locs, Pt.cells, Pt.slots] at X2 l2 y2 z2 st2 hQ2
  subst l2 y2 z2
  obtain ⟨Nq2, y2_0, rfl, Kc2, p2_0, p2_1, p2_2, p2_3, p2_4, p2_5, p2_6, p2_7, p2_8, p2_9, p2_10, p2_11⟩ := hQ2
  have N2 := Fr.app N0 Nq2
  have K2 : Keep h0 T2.heap ([th] : List Addr) := (Keep.refl h0 ([th] : List Addr)).trans Kc2 (allS (P := fun x => x ∈ ([th] : List Addr) ∨ h0.size ≤ x) (Or.inl (List.mem_of_getElem? (i := 0) rfl)) all0)
  have Z2 : n0 ≤ T2.heap.size := Nat.le_trans Z0 Kc2.1
  have f3 := (P0.keep Kc2 (allS (P := fun x => ∀ c, h0[x]? = some c → c.vm.isStatics = false) (own_nost P2) all0))
  obtain ⟨T4, X4, e4, st4⟩ := getS2 X2 hx hZ hown (host := "") (Or.inl (own_w hw 111 rfl)) Via.refl rfl (own_ST.s7 f3) (g := (mkF m 50 #[rv th, rv ch, iv 0, iv nn, .val .null, iv en, iv 0, iv i, iv 120, rv co] [(.ref co)])) rfl (hb hby d24_50)
  obtain ⟨_, _, ⟨T5, L5, k5, n5⟩, -, X5, ⟨Lc5, hQ5, l5, y5, z5⟩, st5⟩ := Jvm.LawKit.callS X4 hx (y := (⟨own_s12, own_s15, "(C)Z"⟩ : MethodName)) hown (mvT hZ (own_w hw 114 rfl)) (mvT hZ (own_w hw 115 rfl)) (mvT hZ (own_w hw 116 rfl)) (mvT hZ (own_w hw 117 rfl)) (by decide) (backOf (W := 0) (own_low l Z a0 hw []  T2.heap n0 Z2 ) hZ (own_w hw 117 rfl) (own_w hw 116 rfl) (by decide) (by decide)) (g := (mkF m 58 #[rv th, rv ch, iv 0, iv nn, .val .null, iv en, iv 0, iv i, iv 120, rv co] [(.int 120)])) rfl (by rw [hml]; rfl) (argsL := [(.int 120)]) (rest := []) (lenOf pd_22 rfl) rfl (by show 2 * 0 + _ ≤ _; exact Nat.le_of_eq rfl) (hb hby d24_58) (fun _ _ => ⟨rfl, e4, (by decide : 0 + 0 ≤ _), (by decide : 0 + 0 ≤ _)⟩)
  dsimp only [Pt.U, Pt.locs, Pt.cells, Pt.slots] at X5 l5 y5 z5 st5 hQ5
  subst l5 y5 z5
  obtain ⟨rfl, Nq5, e5⟩ := hQ5
  have N5 := Fr.app N2 Nq5
  obtain ⟨T6, X6, e6, st6⟩ := getF X5 hx hZ hown (host := "") (Or.inl (own_w hw 72 rfl)) Via.refl e5 p2_7 (g := (mkF m 66 #[rv th, rv ch, iv 0, iv nn, .val .null, iv en, iv 0, iv i, iv 120, rv co] [(.ref th), (.ref th)])) rfl rfl (hb hby d24_66)
  obtain ⟨T7, X7, e7, st7⟩ := getF X6 hx hZ hown (host := "") (Or.inl (own_w hw 81 rfl)) Via.refl e6 p2_10 (g := (mkF m 70 #[rv th, rv ch, iv 0, iv nn, .val .null, iv en, iv 0, iv i, iv 120, rv co] [(.ref th), (.long wc), (.ref th)])) rfl rfl (hb hby d24_70)
  obtain ⟨T8, h8, X8, e8, W8, st8⟩ := putF X7 hx hZ hown (host := "") (Or.inl (own_w hw 72 rfl)) Via.refl e7 p2_7 p2_0 (Or.inl (own_w hw 73 rfl)) (own_w hw 13 rfl) (ty := .long) (by decide) rfl rfl (g := (mkF m 76 #[rv th, rv ch, iv 0, iv nn, .val .null, iv en, iv 0, iv i, iv 120, rv co] [(.long (wc + (1 : Int64))), (.ref th)])) rfl rfl (hb hby d24_76)
  have K8 : Keep h0 h8 ([th] : List Addr) := K2.wr W8 (Or.inl (List.mem_of_getElem? (i := 0) rfl))
  have N8 := Fr.snoc X8 N5 P17
  have Z8 : n0 ≤ h8.size := Nat.le_trans Z2 (Keep.of_wr W8).1
  have Fw8 := p2_7.same W8
  obtain ⟨T9, X9, e9, st9⟩ := getF X8 hx hZ hown (host := "") (Or.inl (own_w hw 72 rfl)) Via.refl e8 Fw8 (g := (mkF m 80 #[rv th, rv ch, iv 0, iv nn, .val .null, iv en, iv 0, iv i, iv 120, rv co] [(.ref th)])) rfl rfl (hb hby d24_80)
  have f10 := (p2_3.other W8 (Or.inr (own_sn80 hw)))
  obtain ⟨T11, X11, e11, st11⟩ := getF X9 hx hZ hown (host := "") (Or.inl (own_w hw 64 rfl)) Via.refl e9 f10 (g := (mkF m 84 #[rv th, rv ch, iv 0, iv nn, .val .null, iv en, iv 0, iv i, iv 120, rv co] [(.ref th), (.long (wc + (1 : Int64)))])) rfl rfl (hb hby d24_84)
  have f12 : Fld Z h8 th own_s0 own_s3 "J" (.long 0) := (p2_10.other W8 (Or.inr (own_sn57 hw)))
  obtain ⟨T13, X13, e13, st13⟩ := getF X11 hx hZ hown (host := "") (Or.inl (own_w hw 81 rfl)) Via.refl e11 f12 (g := (mkF m 104 #[rv th, rv ch, iv 0, iv nn, .val .null, iv en, iv 0, iv i, iv 120, rv co] [(.ref th)])) rfl rfl (hb hby d24_104)
  have f14 := (p2_0.wr W8)
  obtain ⟨T15, h15, X15, e15, W15, st15⟩ := putF X13 hx hZ hown (host := "") (Or.inl (own_w hw 81 rfl)) Via.refl e13 f12 f14 (Or.inl (own_w hw 82 rfl)) (own_w hw 13 rfl) (ty := .long) (by decide) rfl rfl (g := (mkF m 145 #[rv th, rv ch, iv 0, iv nn, .val .null, iv en, iv 0, iv i, iv 120, rv co] [(.long 0), (.ref th)])) rfl rfl (hb hby d24_145)
  have K15 : Keep h0 h15 ([th] : List Addr) := K8.wr W15 (Or.inl (List.mem_of_getElem? (i := 0) rfl))
  have N15 := Fr.snoc X15 N8 P17
  have Z15 : n0 ≤ h15.size := Nat.le_trans Z8 (Keep.of_wr W15).1
  have Fw15 := f12.same W15
  have f16 := ((p2_9.other W8 (Or.inr (own_sn49 hw))).other W15 (Or.inr (own_sn104 hw)))
  have f17 := (f14.wr W15)
  obtain ⟨T18, h18, X18, e18, W18, st18⟩ := putF X15 hx hZ hown (host := "") (Or.inl (own_w hw 79 rfl)) Via.refl e15 f16 f17 (Or.inl (own_w hw 80 rfl)) (own_w hw 13 rfl) (ty := (.object own_s10)) (by decide) rfl rfl (g := (mkF m 150 #[rv th, rv ch, iv 0, iv nn, .val .null, iv en, iv 0, iv i, iv 120, rv co] [.null, (.ref th)])) rfl rfl (hb hby d24_150)
  have K18 : Keep h0 h18 ([th] : List Addr) := K15.wr W18 (Or.inl (List.mem_of_getElem? (i := 0) rfl))
  have N18 := Fr.snoc X18 N15 P17
  have Z18 : n0 ≤ h18.size := Nat.le_trans Z15 (Keep.of_wr W18).1
  have Fw18 := f16.same W18
  have go19 : ∀ t, own_S p e below (T18.setTop (mkF m 27 #[rv th, rv ch, iv 0, iv nn, .val .null, iv en, iv 0, .val (.int (i + (1 : Int32))), iv 120, rv co] [])) t → Steps p.tables e below st0 t := by
    intro t kt
    refine go0 t ?_
    refine XS.iload X0.here hx rfl (hb hby d24_27) rfl ?_
    refine XS.iload X0.here hx rfl (hb hby d24_29) rfl ?_
    show own_S p e below (T0.setTop (mkF m 31 #[rv th, rv ch, iv 0, iv nn, .val .null, iv en, iv 0, iv i, .unset, .unset] [(.int en), (.int i)])) _
    refine XS.icmpNo X0.here hx rfl (hb hby d24_31) rfl (tlt P19).2.1 ?_
    refine XS.aloadN X0.here hx rfl (hb hby d24_34) rfl rfl ?_
    refine XS.iload X0.here hx rfl (hb hby d24_35) rfl ?_
    show own_S p e below (T0.setTop (mkF m 37 #[rv th, rv ch, iv 0, iv nn, .val .null, iv en, iv 0, iv i, .unset, .unset] [(.int i), (.ref ch)])) _
    refine X0.caload hx (j := i) (v := (.int 120)) (by rw [e0]; exact Ar1.1) (State.isArrayOf_alike hZ.alike Ar1.2.1) Ar1.2.2 hin1 hat1 (g := (mkF m 37 #[rv th, rv ch, iv 0, iv nn, .val .null, iv en, iv 0, iv i, .unset, .unset] [(.int i), (.ref ch)])) rfl rfl (hb hby d24_37) _ ?_
    show own_S p e below (T0.setTop (mkF m 38 #[rv th, rv ch, iv 0, iv nn, .val .null, iv en, iv 0, iv i, .unset, .unset] [(.int 120)])) _
    refine XS.istore X0.here hx rfl (hb hby d24_38) rfl (l' := #[rv th, rv ch, iv 0, iv nn, .val .null, iv en, iv 0, iv i, iv 120, .unset]) rfl ?_
    refine XS.aloadN X0.here hx rfl (hb hby d24_40) rfl rfl ?_
    refine XS.iload X0.here hx rfl (hb hby d24_41) rfl ?_
    show own_S p e below (T0.setTop (mkF m 43 #[rv th, rv ch, iv 0, iv nn, .val .null, iv en, iv 0, iv i, iv 120, .unset] [(.int 120), (.ref th)])) _
    refine st2.trans ?_
    show own_S p e below (T2.setTop (mkF m 46 #[rv th, rv ch, iv 0, iv nn, .val .null, iv en, iv 0, iv i, iv 120, .unset] [(.ref co)])) _
    refine XS.astore X2.here hx rfl (hb hby d24_46) rfl rfl (l' := #[rv th, rv ch, iv 0, iv nn, .val .null, iv en, iv 0, iv i, iv 120, rv co]) rfl ?_
    refine XS.aload X2.here hx rfl (hb hby d24_48) rfl rfl ?_
    show own_S p e below (T2.setTop (mkF m 50 #[rv th, rv ch, iv 0, iv nn, .val .null, iv en, iv 0, iv i, iv 120, rv co] [(.ref co)])) _
    refine st4 _ ?_
    show own_S p e below (T4.setTop (mkF m 53 #[rv th, rv ch, iv 0, iv nn, .val .null, iv en, iv 0, iv i, iv 120, rv co] [(.ref co), (.ref co)])) _
    refine Jvm.RoadKit.acmp (g := (mkF m 53 #[rv th, rv ch, iv 0, iv nn, .val .null, iv en, iv 0, iv i, iv 120, rv co] [(.ref co), (.ref co)])) X4 hx rfl rfl rfl (pc0 := 53) (pc' := 56) (same := true) rfl (hb hby d24_53) rfl (decide_eq_true rfl) (by decide) (by decide) ?_
    refine XS.iload X4.here hx rfl (hb hby d24_56) rfl ?_
    show own_S p e below (T4.setTop (mkF m 58 #[rv th, rv ch, iv 0, iv nn, .val .null, iv en, iv 0, iv i, iv 120, rv co] [(.int 120)])) _
    refine st5 _ ?_
    show own_S p e below (T5.setTop (mkF m 61 #[rv th, rv ch, iv 0, iv nn, .val .null, iv en, iv 0, iv i, iv 120, rv co] [(.int 0)])) _
    refine XS.ifNo X5.here hx rfl (hb hby d24_61) rfl ((if0 _ _).trans (teq (by decide : (0 : Int32) = (0 : Int32))).2) ?_
    refine XS.aloadN X5.here hx rfl (hb hby d24_64) rfl rfl ?_
    refine XS.dup X5.here hx rfl (hb hby d24_65) rfl rfl ?_
    show own_S p e below (T5.setTop (mkF m 66 #[rv th, rv ch, iv 0, iv nn, .val .null, iv en, iv 0, iv i, iv 120, rv co] [(.ref th), (.ref th)])) _
    refine st6 _ ?_
    refine XS.aloadN X6.here hx rfl (hb hby d24_69) rfl rfl ?_
    show own_S p e below (T6.setTop (mkF m 70 #[rv th, rv ch, iv 0, iv nn, .val .null, iv en, iv 0, iv i, iv 120, rv co] [(.ref th), (.long wc), (.ref th)])) _
    refine st7 _ ?_
    refine XS.lconst X7.here hx rfl (hb hby d24_73) ?_
    refine XS.ladd X7.here hx rfl (hb hby d24_74) rfl ?_
    refine XS.ladd X7.here hx rfl (hb hby d24_75) rfl ?_
    show own_S p e below (T7.setTop (mkF m 76 #[rv th, rv ch, iv 0, iv nn, .val .null, iv en, iv 0, iv i, iv 120, rv co] [(.long (wc + (1 : Int64))), (.ref th)])) _
    refine st8 _ ?_
    refine XS.aloadN X8.here hx rfl (hb hby d24_79) rfl rfl ?_
    show own_S p e below (T8.setTop (mkF m 80 #[rv th, rv ch, iv 0, iv nn, .val .null, iv en, iv 0, iv i, iv 120, rv co] [(.ref th)])) _
    refine st9 _ ?_
    refine XS.aloadN X9.here hx rfl (hb hby d24_83) rfl rfl ?_
    show own_S p e below (T9.setTop (mkF m 84 #[rv th, rv ch, iv 0, iv nn, .val .null, iv en, iv 0, iv i, iv 120, rv co] [(.ref th), (.long (wc + (1 : Int64)))])) _
    refine st11 _ ?_
    show own_S p e below (T11.setTop (mkF m 87 #[rv th, rv ch, iv 0, iv nn, .val .null, iv en, iv 0, iv i, iv 120, rv co] [(.long wm), (.long (wc + (1 : Int64)))])) _
    refine XS.lcmp X11.here hx rfl (hb hby d24_87) rfl ?_
    show own_S p e below (T11.setTop (mkF m 88 #[rv th, rv ch, iv 0, iv nn, .val .null, iv en, iv 0, iv i, iv 120, rv co] [(.int (lcmpW (wc + (1 : Int64)) wm))])) _
    refine XS.ifYes X11.here hx rfl (pc0 := 88) (pc' := 103) rfl (hb hby d24_88) rfl (Jvm.Free.XT.ll_le_t P20) (by decide) (by decide) ?_
    refine XS.aloadN X11.here hx rfl (hb hby d24_103) rfl rfl ?_
    show own_S p e below (T11.setTop (mkF m 104 #[rv th, rv ch, iv 0, iv nn, .val .null, iv en, iv 0, iv i, iv 120, rv co] [(.ref th)])) _
    refine st13 _ ?_
    refine XS.lconst X13.here hx rfl (hb hby d24_107) ?_
    show own_S p e below (T13.setTop (mkF m 108 #[rv th, rv ch, iv 0, iv nn, .val .null, iv en, iv 0, iv i, iv 120, rv co] [(.long 0), (.long 0)])) _
    refine XS.lcmp X13.here hx rfl (hb hby d24_108) rfl ?_
    show own_S p e below (T13.setTop (mkF m 109 #[rv th, rv ch, iv 0, iv nn, .val .null, iv en, iv 0, iv i, iv 120, rv co] [(.int (lcmpW (0 : Int64) (0 : Int64)))])) _
    refine XS.ifYes X13.here hx rfl (pc0 := 109) (pc' := 143) rfl (hb hby d24_109) rfl (Jvm.Free.XT.ll_le_t (by decide : ¬ ((0 : Int64) < (0 : Int64)))) (by decide) (by decide) ?_
    refine XS.aloadN X13.here hx rfl (hb hby d24_143) rfl rfl ?_
    refine XS.lconst X13.here hx rfl (hb hby d24_144) ?_
    show own_S p e below (T13.setTop (mkF m 145 #[rv th, rv ch, iv 0, iv nn, .val .null, iv en, iv 0, iv i, iv 120, rv co] [(.long 0), (.ref th)])) _
    refine st15 _ ?_
    refine XS.aloadN X15.here hx rfl (hb hby d24_148) rfl rfl ?_
    refine XS.aconstNull X15.here hx rfl (hb hby d24_149) ?_
    show own_S p e below (T15.setTop (mkF m 150 #[rv th, rv ch, iv 0, iv nn, .val .null, iv en, iv 0, iv i, iv 120, rv co] [.null, (.ref th)])) _
    refine st18 _ ?_
    show own_S p e below (T18.setTop (mkF m 153 #[rv th, rv ch, iv 0, iv nn, .val .null, iv en, iv 0, iv i, iv 120, rv co] [])) _
    refine XS.goto X18.here hx rfl (pc0 := 153) (pc' := 293) rfl (hb hby d24_153) (by decide) (by decide) ?_
    show own_S p e below (T18.setTop (mkF m 293 #[rv th, rv ch, iv 0, iv nn, .val .null, iv en, iv 0, iv i, iv 120, rv co] [])) _
    refine XS.iinc X18.here hx rfl (hb hby d24_293) rfl (l' := #[rv th, rv ch, iv 0, iv nn, .val .null, iv en, iv 0, .val (.int (i + (1 : Int32))), iv 120, rv co]) rfl ?_
    show own_S p e below (T18.setTop (mkF m 296 #[rv th, rv ch, iv 0, iv nn, .val .null, iv en, iv 0, .val (.int (i + (1 : Int32))), iv 120, rv co] [])) _
    refine XS.goto X18.here hx rfl (pc0 := 296) (pc' := 27) rfl (hb hby d24_296) (by decide) (by decide) ?_
    show own_S p e below (T18.setTop (mkF m 27 #[rv th, rv ch, iv 0, iv nn, .val .null, iv en, iv 0, .val (.int (i + (1 : Int32))), iv 120, rv co] [])) _
    exact kt
  have f20 := (f17.wr W18)
  have f21 := (((p2_1.other W8 (Or.inr (own_sn65 hw))).other W15 (Or.inr (own_sn68 hw))).other W18 (Or.inr (own_sn67 hw)))
  have f22 := (((p2_2.other W8 (Or.inr (own_sn73 hw))).other W15 (Or.inr (own_sn76 hw))).other W18 (Or.inr (own_sn75 hw)))
  have f23 := ((f10.other W15 (Or.inr (own_sn83 hw))).other W18 (Or.inr (own_sn82 hw)))
  have f24 := (((p2_4.other W8 (Or.inr (own_sn86 hw))).other W15 (Or.inr (own_sn89 hw))).other W18 (Or.inr (own_sn88 hw)))
  have f25 : Fld Z h18 th own_s0 "past" "Z" (.int 1) := (((p2_5.other W8 (Or.inr (own_sn91 hw))).other W15 (Or.inr (own_sn94 hw))).other W18 (Or.inr (own_sn93 hw)))
  have f26 : Fld Z h18 th own_s0 "over" "Z" (.int 0) := (((p2_6.other W8 (Or.inr (own_sn95 hw))).other W15 (Or.inr (own_sn98 hw))).other W18 (Or.inr (own_sn97 hw)))
  have f27 := ((Fw8.other W15 (Or.inr (own_sn101 hw))).other W18 (Or.inr (own_sn100 hw)))
  have f28 := (((p2_8.other W8 (Or.inr (own_sn42 hw))).other W15 (Or.inr (own_sn103 hw))).other W18 (Or.inr (own_sn102 hw)))
  have f29 : Fld Z h18 th own_s0 own_s3 "J" (.long 0) := (Fw15.other W18 (Or.inr (own_sn59 hw)))
  exact ⟨_, _, _, y2_0, own_mono X18 (by decide) (by decide), e18, N18, K18, Z18, f20, f21, f22, f23, f24, f25, f26, f27, f28, Fw18, f29, p2_11, go19⟩
set_option maxRecDepth 65536 in
set_option maxHeartbeats 40000000 in
theorem own_re0 {p : Program} {l : Launch} {e : Env} {s : State} {m : MethodId} {args : Array Value} {below : List Frame} {meth : Method} {c : Code} {T0 : State} {locs : List Loc} {Z : State} {a0 : Array Value} {h0 : Heap} {n0 : Nat} (th : Addr) (ch : Addr) (nn : Int32) (en : Int32) (i : Int32) (ev : Addr) (ns : Addr) (sg : Addr) (phS : Addr) (phF : Addr) (phA : Addr) (phD : Addr) (co : Addr) (ct : Addr) (ph : Addr) (wz : Int32) (wm : Int64) (wl : Int64) (wc : Int64) (kc : ClassId) (X0 : Stand p l e ({ frames := 3, cells := 0, slots := 0, locals := 80 } : Room) s m args below meth c T0 locs 0 0) (hx : p.tables.exec = Jvm.exec) (hZ : Z.Warmed39 s.vm) (hw : ∀ d ∈ tables_1, d.before a0 Z = true) (hby : c.code = prog_127_method_6_code) (hml : c.maxLocals = 10) (hown : s.vm.findClass own_s0 = some m.cls) (e0 : T0.heap = h0) (N0 : Fr n0 locs) (Z0 : n0 ≤ h0.size) (P0 : own_ST Z h0 ev ns sg phS phF phA phD co) (P1 : own_NN ev ns sg phS phF phA phD co) (P2 : Exa Z h0 th own_s0) (P3 : Fld Z h0 th own_s0 "count" own_s1 (.ref ct)) (P4 : Fld Z h0 th own_s0 own_s2 "Z" (.int wz)) (P5 : Fld Z h0 th own_s0 "most" "J" (.long wm)) (P6 : Fld Z h0 th own_s0 "length" "J" (.long wl)) (P7 : Fld Z h0 th own_s0 "past" "Z" (.int 1)) (P8 : Fld Z h0 th own_s0 "over" "Z" (.int 0)) (P9 : Fld Z h0 th own_s0 "counted" "J" (.long wc)) (P10 : Fld Z h0 th own_s0 "phase" own_s4 (.ref ph)) (P11 : Fld Z h0 th own_s0 "run" own_s5 .null) (P12 : Fld Z h0 th own_s0 own_s3 "J" (.long 0)) (P13 : ct = ev ∨ ct = ns ∨ ct = sg) (P14 : ph = phS ∨ ph = phD) (P15 : Arv Z h0 ch kc .char (8 : Int32) [(.int 120), (.int 120), (.int 120), (.int 120), (.int 120), (.int 120), (.int 120), (.int 120)] (.int 0)) (P16 : ch ≠ th) (P17 : n0 ≤ th) (P18 : ¬ (i < 0) ∧ i < (8 : Int32)) (P19 : i < en) (P20 : wm < (wc + (1 : Int64))) :
    ∃ (T' : State) (h' : Heap) (L' : List Loc) (ph2 : Addr), Stand p l e ({ frames := 3, cells := 0, slots := 0, locals := 80 } : Room) s m args below meth c T' L' 0 0 ∧ T'.heap = h' ∧ Fr n0 L' ∧ Keep h0 h' ([th] : List Addr) ∧ n0 ≤ h'.size ∧ Exa Z h' th own_s0 ∧ Fld Z h' th own_s0 "count" own_s1 (.ref ct) ∧ Fld Z h' th own_s0 own_s2 "Z" (.int wz) ∧ Fld Z h' th own_s0 "most" "J" (.long wm) ∧ Fld Z h' th own_s0 "length" "J" (.long wl) ∧ Fld Z h' th own_s0 "past" "Z" (.int 1) ∧ Fld Z h' th own_s0 "over" "Z" (.int 1) ∧ Fld Z h' th own_s0 "counted" "J" (.long (wc + (1 : Int64))) ∧ Fld Z h' th own_s0 "phase" own_s4 (.ref ph2) ∧ Fld Z h' th own_s0 "run" own_s5 .null ∧ Fld Z h' th own_s0 own_s3 "J" (.long 0) ∧ (ph2 = phS ∨ ph2 = phD) ∧ ∀ t, Steps p.tables e below (T'.setTop (mkF m 101 #[rv th, rv ch, iv 0, iv nn, .val .null, iv en, iv 0, iv i, iv 120, rv co] [])) t → own_S p e below (T0.setTop (mkF m 27 #[rv th, rv ch, iv 0, iv nn, .val .null, iv en, iv 0, iv i, .unset, .unset] [])) t := by
  obtain ⟨st0, hst0⟩ : ∃ zst, zst = T0.setTop (mkF m 27 #[rv th, rv ch, iv 0, iv nn, .val .null, iv en, iv 0, iv i, .unset, .unset] []) := ⟨_, rfl⟩
  have go0 : ∀ t, own_S p e below (T0.setTop (mkF m 27 #[rv th, rv ch, iv 0, iv nn, .val .null, iv en, iv 0, iv i, .unset, .unset] [])) t → Steps p.tables e below st0 t := fun t k => by rw [hst0]; exact k
  rw [← hst0]
  obtain ⟨cl1, Ar1, q1, S1, N1, H1, G1⟩ := id P15
  have hin1 : ¬ (i < 0 ∨ cl1.slots.size ≤ (i).toNatClampNeg) := inb_of S1 P18
  have hat1 : cl1.slots[(i).toNatClampNeg]? = some (.int 120) := Has.at H1 hin1 (own_x120 P18)
  obtain ⟨cq2, q2, q2'⟩ := P2.cell
  obtain ⟨_, _, ⟨T2, L2, k2, n2⟩, -, X2, ⟨Lc2, hQ2, l2, y2, z2⟩, st2⟩ := X0.privateBack hx (y := (⟨own_s0, "role", own_s14⟩ : MethodName)) hown (mvT hZ (own_w hw 107 rfl)) (mvT hZ (own_w hw 108 rfl)) (Jvm.Kit.selects_private (by decide) (mvT hZ (own_w hw 13 rfl)) (mvP hZ (own_w hw 109 rfl)) (mvT hZ (own_w hw 108 rfl))) (Cond.privateMethod_at (mvP hZ (own_w hw 109 rfl) (args := #[]))) (mvT hZ (own_w hw 110 rfl)) (by decide) (backOf (W := 0) (own_role l Z a0 hw [] th ev ns sg phS phF phA phD co ct ph wz wm wl (1 : Int32) (0 : Int32) wc h0 n0 Z0 P0 P1 P2 P3 P4 P5 P6 P7 P8 P9 P10 P11 P12 P13 P14 P17) hZ (own_w hw 110 rfl) (own_w hw 14 rfl) (by decide) (by decide)) (g := (mkF m 43 #[rv th, rv ch, iv 0, iv nn, .val .null, iv en, iv 0, iv i, iv 120, .unset] [(.int 120), (.ref th)])) rfl (by rw [hml]; rfl) (Steps.refl _) (a := th) (by rw [e0]; exact q2) q2' (argsL := [(.int 120)]) (rest := []) (lenOf pd_23 rfl) rfl (by show 2 * 0 + _ ≤ _; exact Nat.le_of_eq rfl) (hb hby d24_43) (fun _ _ => ⟨rfl, e0, (by decide : 0 + 0 ≤ _), (by decide : 0 + 0 ≤ _)⟩)
  dsimp only [Pt.U, Pt.locs, Pt.cells, Pt.slots] at X2 l2 y2 z2 st2 hQ2
  subst l2 y2 z2
  obtain ⟨Nq2, y2_0, rfl, Kc2, p2_0, p2_1, p2_2, p2_3, p2_4, p2_5, p2_6, p2_7, p2_8, p2_9, p2_10, p2_11⟩ := hQ2
  have N2 := Fr.app N0 Nq2
  have K2 : Keep h0 T2.heap ([th] : List Addr) := (Keep.refl h0 ([th] : List Addr)).trans Kc2 (allS (P := fun x => x ∈ ([th] : List Addr) ∨ h0.size ≤ x) (Or.inl (List.mem_of_getElem? (i := 0) rfl)) all0)
  have Z2 : n0 ≤ T2.heap.size := Nat.le_trans Z0 Kc2.1
  have f3 := (P0.keep Kc2 (allS (P := fun x => ∀ c, h0[x]? = some c → c.vm.isStatics = false) (own_nost P2) all0))
  obtain ⟨T4, X4, e4, st4⟩ := getS2 X2 hx hZ hown (host := "") (Or.inl (own_w hw 111 rfl)) Via.refl rfl (own_ST.s7 f3) (g := (mkF m 50 #[rv th, rv ch, iv 0, iv nn, .val .null, iv en, iv 0, iv i, iv 120, rv co] [(.ref co)])) rfl (hb hby d24_50)
  obtain ⟨_, _, ⟨T5, L5, k5, n5⟩, -, X5, ⟨Lc5, hQ5, l5, y5, z5⟩, st5⟩ := Jvm.LawKit.callS X4 hx (y := (⟨own_s12, own_s15, "(C)Z"⟩ : MethodName)) hown (mvT hZ (own_w hw 114 rfl)) (mvT hZ (own_w hw 115 rfl)) (mvT hZ (own_w hw 116 rfl)) (mvT hZ (own_w hw 117 rfl)) (by decide) (backOf (W := 0) (own_low l Z a0 hw []  T2.heap n0 Z2 ) hZ (own_w hw 117 rfl) (own_w hw 116 rfl) (by decide) (by decide)) (g := (mkF m 58 #[rv th, rv ch, iv 0, iv nn, .val .null, iv en, iv 0, iv i, iv 120, rv co] [(.int 120)])) rfl (by rw [hml]; rfl) (argsL := [(.int 120)]) (rest := []) (lenOf pd_22 rfl) rfl (by show 2 * 0 + _ ≤ _; exact Nat.le_of_eq rfl) (hb hby d24_58) (fun _ _ => ⟨rfl, e4, (by decide : 0 + 0 ≤ _), (by decide : 0 + 0 ≤ _)⟩)
  dsimp only [Pt.U, Pt.locs, Pt.cells, Pt.slots] at X5 l5 y5 z5 st5 hQ5
  subst l5 y5 z5
  obtain ⟨rfl, Nq5, e5⟩ := hQ5
  have N5 := Fr.app N2 Nq5
  obtain ⟨T6, X6, e6, st6⟩ := getF X5 hx hZ hown (host := "") (Or.inl (own_w hw 72 rfl)) Via.refl e5 p2_7 (g := (mkF m 66 #[rv th, rv ch, iv 0, iv nn, .val .null, iv en, iv 0, iv i, iv 120, rv co] [(.ref th), (.ref th)])) rfl rfl (hb hby d24_66)
  obtain ⟨T7, X7, e7, st7⟩ := getF X6 hx hZ hown (host := "") (Or.inl (own_w hw 81 rfl)) Via.refl e6 p2_10 (g := (mkF m 70 #[rv th, rv ch, iv 0, iv nn, .val .null, iv en, iv 0, iv i, iv 120, rv co] [(.ref th), (.long wc), (.ref th)])) rfl rfl (hb hby d24_70)
  obtain ⟨T8, h8, X8, e8, W8, st8⟩ := putF X7 hx hZ hown (host := "") (Or.inl (own_w hw 72 rfl)) Via.refl e7 p2_7 p2_0 (Or.inl (own_w hw 73 rfl)) (own_w hw 13 rfl) (ty := .long) (by decide) rfl rfl (g := (mkF m 76 #[rv th, rv ch, iv 0, iv nn, .val .null, iv en, iv 0, iv i, iv 120, rv co] [(.long (wc + (1 : Int64))), (.ref th)])) rfl rfl (hb hby d24_76)
  have K8 : Keep h0 h8 ([th] : List Addr) := K2.wr W8 (Or.inl (List.mem_of_getElem? (i := 0) rfl))
  have N8 := Fr.snoc X8 N5 P17
  have Z8 : n0 ≤ h8.size := Nat.le_trans Z2 (Keep.of_wr W8).1
  have Fw8 := p2_7.same W8
  obtain ⟨T9, X9, e9, st9⟩ := getF X8 hx hZ hown (host := "") (Or.inl (own_w hw 72 rfl)) Via.refl e8 Fw8 (g := (mkF m 80 #[rv th, rv ch, iv 0, iv nn, .val .null, iv en, iv 0, iv i, iv 120, rv co] [(.ref th)])) rfl rfl (hb hby d24_80)
  have f10 := (p2_3.other W8 (Or.inr (own_sn80 hw)))
  obtain ⟨T11, X11, e11, st11⟩ := getF X9 hx hZ hown (host := "") (Or.inl (own_w hw 64 rfl)) Via.refl e9 f10 (g := (mkF m 84 #[rv th, rv ch, iv 0, iv nn, .val .null, iv en, iv 0, iv i, iv 120, rv co] [(.ref th), (.long (wc + (1 : Int64)))])) rfl rfl (hb hby d24_84)
  have f12 : Fld Z h8 th own_s0 "over" "Z" (.int 0) := (p2_6.other W8 (Or.inr (own_sn95 hw)))
  have f13 := (p2_0.wr W8)
  obtain ⟨T14, h14, X14, e14, W14, st14⟩ := putFN X11 hx hZ hown (own_w hw 70 rfl) Via.refl e11 f12 f13 (Or.inl (own_w hw 71 rfl)) (own_w hw 13 rfl) (ty := .boolean) (v' := (.int 1)) (by decide) rfl rfl (g := (mkF m 93 #[rv th, rv ch, iv 0, iv nn, .val .null, iv en, iv 0, iv i, iv 120, rv co] [(.int 1), (.ref th)])) rfl rfl (hb hby d24_93)
  have K14 : Keep h0 h14 ([th] : List Addr) := K8.wr W14 (Or.inl (List.mem_of_getElem? (i := 0) rfl))
  have N14 := Fr.snoc X14 N8 P17
  have Z14 : n0 ≤ h14.size := Nat.le_trans Z8 (Keep.of_wr W14).1
  have Fw14 := f12.same W14
  have f15 : Fld Z h14 th own_s0 own_s3 "J" (.long 0) := ((p2_10.other W8 (Or.inr (own_sn57 hw))).other W14 (Or.inr (own_sn56 hw)))
  have f16 := (f13.wr W14)
  obtain ⟨T17, h17, X17, e17, W17, st17⟩ := putF X14 hx hZ hown (host := "") (Or.inl (own_w hw 81 rfl)) Via.refl e14 f15 f16 (Or.inl (own_w hw 82 rfl)) (own_w hw 13 rfl) (ty := .long) (by decide) rfl rfl (g := (mkF m 98 #[rv th, rv ch, iv 0, iv nn, .val .null, iv en, iv 0, iv i, iv 120, rv co] [(.long 0), (.ref th)])) rfl rfl (hb hby d24_98)
  have K17 : Keep h0 h17 ([th] : List Addr) := K14.wr W17 (Or.inl (List.mem_of_getElem? (i := 0) rfl))
  have N17 := Fr.snoc X17 N14 P17
  have Z17 : n0 ≤ h17.size := Nat.le_trans Z14 (Keep.of_wr W17).1
  have Fw17 := f15.same W17
  have go18 : ∀ t, own_S p e below (T17.setTop (mkF m 101 #[rv th, rv ch, iv 0, iv nn, .val .null, iv en, iv 0, iv i, iv 120, rv co] [])) t → Steps p.tables e below st0 t := by
    intro t kt
    refine go0 t ?_
    refine XS.iload X0.here hx rfl (hb hby d24_27) rfl ?_
    refine XS.iload X0.here hx rfl (hb hby d24_29) rfl ?_
    show own_S p e below (T0.setTop (mkF m 31 #[rv th, rv ch, iv 0, iv nn, .val .null, iv en, iv 0, iv i, .unset, .unset] [(.int en), (.int i)])) _
    refine XS.icmpNo X0.here hx rfl (hb hby d24_31) rfl (tlt P19).2.1 ?_
    refine XS.aloadN X0.here hx rfl (hb hby d24_34) rfl rfl ?_
    refine XS.iload X0.here hx rfl (hb hby d24_35) rfl ?_
    show own_S p e below (T0.setTop (mkF m 37 #[rv th, rv ch, iv 0, iv nn, .val .null, iv en, iv 0, iv i, .unset, .unset] [(.int i), (.ref ch)])) _
    refine X0.caload hx (j := i) (v := (.int 120)) (by rw [e0]; exact Ar1.1) (State.isArrayOf_alike hZ.alike Ar1.2.1) Ar1.2.2 hin1 hat1 (g := (mkF m 37 #[rv th, rv ch, iv 0, iv nn, .val .null, iv en, iv 0, iv i, .unset, .unset] [(.int i), (.ref ch)])) rfl rfl (hb hby d24_37) _ ?_
    show own_S p e below (T0.setTop (mkF m 38 #[rv th, rv ch, iv 0, iv nn, .val .null, iv en, iv 0, iv i, .unset, .unset] [(.int 120)])) _
    refine XS.istore X0.here hx rfl (hb hby d24_38) rfl (l' := #[rv th, rv ch, iv 0, iv nn, .val .null, iv en, iv 0, iv i, iv 120, .unset]) rfl ?_
    refine XS.aloadN X0.here hx rfl (hb hby d24_40) rfl rfl ?_
    refine XS.iload X0.here hx rfl (hb hby d24_41) rfl ?_
    show own_S p e below (T0.setTop (mkF m 43 #[rv th, rv ch, iv 0, iv nn, .val .null, iv en, iv 0, iv i, iv 120, .unset] [(.int 120), (.ref th)])) _
    refine st2.trans ?_
    show own_S p e below (T2.setTop (mkF m 46 #[rv th, rv ch, iv 0, iv nn, .val .null, iv en, iv 0, iv i, iv 120, .unset] [(.ref co)])) _
    refine XS.astore X2.here hx rfl (hb hby d24_46) rfl rfl (l' := #[rv th, rv ch, iv 0, iv nn, .val .null, iv en, iv 0, iv i, iv 120, rv co]) rfl ?_
    refine XS.aload X2.here hx rfl (hb hby d24_48) rfl rfl ?_
    show own_S p e below (T2.setTop (mkF m 50 #[rv th, rv ch, iv 0, iv nn, .val .null, iv en, iv 0, iv i, iv 120, rv co] [(.ref co)])) _
    refine st4 _ ?_
    show own_S p e below (T4.setTop (mkF m 53 #[rv th, rv ch, iv 0, iv nn, .val .null, iv en, iv 0, iv i, iv 120, rv co] [(.ref co), (.ref co)])) _
    refine Jvm.RoadKit.acmp (g := (mkF m 53 #[rv th, rv ch, iv 0, iv nn, .val .null, iv en, iv 0, iv i, iv 120, rv co] [(.ref co), (.ref co)])) X4 hx rfl rfl rfl (pc0 := 53) (pc' := 56) (same := true) rfl (hb hby d24_53) rfl (decide_eq_true rfl) (by decide) (by decide) ?_
    refine XS.iload X4.here hx rfl (hb hby d24_56) rfl ?_
    show own_S p e below (T4.setTop (mkF m 58 #[rv th, rv ch, iv 0, iv nn, .val .null, iv en, iv 0, iv i, iv 120, rv co] [(.int 120)])) _
    refine st5 _ ?_
    show own_S p e below (T5.setTop (mkF m 61 #[rv th, rv ch, iv 0, iv nn, .val .null, iv en, iv 0, iv i, iv 120, rv co] [(.int 0)])) _
    refine XS.ifNo X5.here hx rfl (hb hby d24_61) rfl ((if0 _ _).trans (teq (by decide : (0 : Int32) = (0 : Int32))).2) ?_
    refine XS.aloadN X5.here hx rfl (hb hby d24_64) rfl rfl ?_
    refine XS.dup X5.here hx rfl (hb hby d24_65) rfl rfl ?_
    show own_S p e below (T5.setTop (mkF m 66 #[rv th, rv ch, iv 0, iv nn, .val .null, iv en, iv 0, iv i, iv 120, rv co] [(.ref th), (.ref th)])) _
    refine st6 _ ?_
    refine XS.aloadN X6.here hx rfl (hb hby d24_69) rfl rfl ?_
    show own_S p e below (T6.setTop (mkF m 70 #[rv th, rv ch, iv 0, iv nn, .val .null, iv en, iv 0, iv i, iv 120, rv co] [(.ref th), (.long wc), (.ref th)])) _
    refine st7 _ ?_
    refine XS.lconst X7.here hx rfl (hb hby d24_73) ?_
    refine XS.ladd X7.here hx rfl (hb hby d24_74) rfl ?_
    refine XS.ladd X7.here hx rfl (hb hby d24_75) rfl ?_
    show own_S p e below (T7.setTop (mkF m 76 #[rv th, rv ch, iv 0, iv nn, .val .null, iv en, iv 0, iv i, iv 120, rv co] [(.long (wc + (1 : Int64))), (.ref th)])) _
    refine st8 _ ?_
    refine XS.aloadN X8.here hx rfl (hb hby d24_79) rfl rfl ?_
    show own_S p e below (T8.setTop (mkF m 80 #[rv th, rv ch, iv 0, iv nn, .val .null, iv en, iv 0, iv i, iv 120, rv co] [(.ref th)])) _
    refine st9 _ ?_
    refine XS.aloadN X9.here hx rfl (hb hby d24_83) rfl rfl ?_
    show own_S p e below (T9.setTop (mkF m 84 #[rv th, rv ch, iv 0, iv nn, .val .null, iv en, iv 0, iv i, iv 120, rv co] [(.ref th), (.long (wc + (1 : Int64)))])) _
    refine st11 _ ?_
    show own_S p e below (T11.setTop (mkF m 87 #[rv th, rv ch, iv 0, iv nn, .val .null, iv en, iv 0, iv i, iv 120, rv co] [(.long wm), (.long (wc + (1 : Int64)))])) _
    refine XS.lcmp X11.here hx rfl (hb hby d24_87) rfl ?_
    show own_S p e below (T11.setTop (mkF m 88 #[rv th, rv ch, iv 0, iv nn, .val .null, iv en, iv 0, iv i, iv 120, rv co] [(.int (lcmpW (wc + (1 : Int64)) wm))])) _
    refine XS.ifNo X11.here hx rfl (hb hby d24_88) rfl (Jvm.Free.XT.ll_le_f P20) ?_
    refine XS.aloadN X11.here hx rfl (hb hby d24_91) rfl rfl ?_
    refine XS.iconst X11.here hx rfl (hb hby d24_92) ?_
    show own_S p e below (T11.setTop (mkF m 93 #[rv th, rv ch, iv 0, iv nn, .val .null, iv en, iv 0, iv i, iv 120, rv co] [(.int 1), (.ref th)])) _
    refine st14 _ ?_
    refine XS.aloadN X14.here hx rfl (hb hby d24_96) rfl rfl ?_
    refine XS.lconst X14.here hx rfl (hb hby d24_97) ?_
    show own_S p e below (T14.setTop (mkF m 98 #[rv th, rv ch, iv 0, iv nn, .val .null, iv en, iv 0, iv i, iv 120, rv co] [(.long 0), (.ref th)])) _
    refine st17 _ ?_
    show own_S p e below (T17.setTop (mkF m 101 #[rv th, rv ch, iv 0, iv nn, .val .null, iv en, iv 0, iv i, iv 120, rv co] [])) _
    exact kt
  have f19 := (f16.wr W17)
  have f20 := (((p2_1.other W8 (Or.inr (own_sn65 hw))).other W14 (Or.inr (own_sn64 hw))).other W17 (Or.inr (own_sn68 hw)))
  have f21 := (((p2_2.other W8 (Or.inr (own_sn73 hw))).other W14 (Or.inr (own_sn72 hw))).other W17 (Or.inr (own_sn76 hw)))
  have f22 := ((f10.other W14 (Or.inr (own_sn79 hw))).other W17 (Or.inr (own_sn83 hw)))
  have f23 := (((p2_4.other W8 (Or.inr (own_sn86 hw))).other W14 (Or.inr (own_sn85 hw))).other W17 (Or.inr (own_sn89 hw)))
  have f24 : Fld Z h17 th own_s0 "past" "Z" (.int 1) := (((p2_5.other W8 (Or.inr (own_sn91 hw))).other W14 (Or.inr (own_sn90 hw))).other W17 (Or.inr (own_sn94 hw)))
  have f25 : Fld Z h17 th own_s0 "over" "Z" (.int 1) := (Fw14.other W17 (Or.inr (own_sn98 hw)))
  have f26 := ((Fw8.other W14 (Or.inr (own_sn35 hw))).other W17 (Or.inr (own_sn101 hw)))
  have f27 := (((p2_8.other W8 (Or.inr (own_sn42 hw))).other W14 (Or.inr (own_sn41 hw))).other W17 (Or.inr (own_sn103 hw)))
  have f28 := (((p2_9.other W8 (Or.inr (own_sn49 hw))).other W14 (Or.inr (own_sn48 hw))).other W17 (Or.inr (own_sn104 hw)))
  exact ⟨_, _, _, y2_0, own_mono X17 (by decide) (by decide), e17, N17, K17, Z17, f19, f20, f21, f22, f23, f24, f25, f26, f27, f28, Fw17, p2_11, go18⟩
set_option maxRecDepth 65536 in
set_option maxHeartbeats 40000000 in
theorem own_rt1 {p : Program} {l : Launch} {e : Env} {s : State} {m : MethodId} {args : Array Value} {below : List Frame} {meth : Method} {c : Code} {T0 : State} {locs : List Loc} {Z : State} {a0 : Array Value} {h0 : Heap} {n0 : Nat} (th : Addr) (ch : Addr) (nn : Int32) (en : Int32) (i : Int32) (ev : Addr) (ns : Addr) (sg : Addr) (phS : Addr) (phF : Addr) (phA : Addr) (phD : Addr) (co : Addr) (ct : Addr) (ph : Addr) (wz : Int32) (wm : Int64) (wl : Int64) (wc : Int64) (kc : ClassId) (X0 : Stand p l e ({ frames := 3, cells := 0, slots := 0, locals := 80 } : Room) s m args below meth c T0 locs 0 0) (hx : p.tables.exec = Jvm.exec) (hZ : Z.Warmed39 s.vm) (hw : ∀ d ∈ tables_1, d.before a0 Z = true) (hby : c.code = prog_127_method_6_code) (hml : c.maxLocals = 10) (hown : s.vm.findClass own_s0 = some m.cls) (e0 : T0.heap = h0) (N0 : Fr n0 locs) (Z0 : n0 ≤ h0.size) (P0 : own_ST Z h0 ev ns sg phS phF phA phD co) (P1 : own_NN ev ns sg phS phF phA phD co) (P2 : Exa Z h0 th own_s0) (P3 : Fld Z h0 th own_s0 "count" own_s1 (.ref ct)) (P4 : Fld Z h0 th own_s0 own_s2 "Z" (.int wz)) (P5 : Fld Z h0 th own_s0 "most" "J" (.long wm)) (P6 : Fld Z h0 th own_s0 "length" "J" (.long wl)) (P7 : Fld Z h0 th own_s0 "past" "Z" (.int 1)) (P8 : Fld Z h0 th own_s0 "over" "Z" (.int 0)) (P9 : Fld Z h0 th own_s0 "counted" "J" (.long wc)) (P10 : Fld Z h0 th own_s0 "phase" own_s4 (.ref ph)) (P11 : Fld Z h0 th own_s0 "run" own_s5 .null) (P12 : Fld Z h0 th own_s0 own_s3 "J" (.long 0)) (P13 : ct = ev ∨ ct = ns ∨ ct = sg) (P14 : ph = phS ∨ ph = phD) (P15 : Arv Z h0 ch kc .char (8 : Int32) [(.int 120), (.int 120), (.int 120), (.int 120), (.int 120), (.int 120), (.int 120), (.int 120)] (.int 0)) (P16 : ch ≠ th) (P17 : n0 ≤ th) (P18 : ¬ (i < 0) ∧ i < (8 : Int32)) (P19 : i < en) (P20 : ¬ (wm < (wc + (1 : Int64)))) :
    ∃ (T' : State) (h' : Heap) (L' : List Loc) (ph2 : Addr), Stand p l e ({ frames := 3, cells := 0, slots := 0, locals := 80 } : Room) s m args below meth c T' L' 0 0 ∧ T'.heap = h' ∧ Fr n0 L' ∧ Keep h0 h' ([th] : List Addr) ∧ n0 ≤ h'.size ∧ Exa Z h' th own_s0 ∧ Fld Z h' th own_s0 "count" own_s1 (.ref ct) ∧ Fld Z h' th own_s0 own_s2 "Z" (.int wz) ∧ Fld Z h' th own_s0 "most" "J" (.long wm) ∧ Fld Z h' th own_s0 "length" "J" (.long wl) ∧ Fld Z h' th own_s0 "past" "Z" (.int 1) ∧ Fld Z h' th own_s0 "over" "Z" (.int 0) ∧ Fld Z h' th own_s0 "counted" "J" (.long (wc + (1 : Int64))) ∧ Fld Z h' th own_s0 "phase" own_s4 (.ref ph2) ∧ Fld Z h' th own_s0 "run" own_s5 .null ∧ Fld Z h' th own_s0 own_s3 "J" (.long 0) ∧ (ph2 = phS ∨ ph2 = phD) ∧ ∀ t, Steps p.tables e below (T'.setTop (mkF m 27 #[rv th, rv ch, iv 0, iv nn, .val .null, iv en, iv 0, .val (.int (i + (1 : Int32))), iv 120, rv co] [])) t → own_S p e below (T0.setTop (mkF m 27 #[rv th, rv ch, iv 0, iv nn, .val .null, iv en, iv 0, iv i, iv 120, rv co] [])) t := by
  obtain ⟨st0, hst0⟩ : ∃ zst, zst = T0.setTop (mkF m 27 #[rv th, rv ch, iv 0, iv nn, .val .null, iv en, iv 0, iv i, iv 120, rv co] []) := ⟨_, rfl⟩
  have go0 : ∀ t, own_S p e below (T0.setTop (mkF m 27 #[rv th, rv ch, iv 0, iv nn, .val .null, iv en, iv 0, iv i, iv 120, rv co] [])) t → Steps p.tables e below st0 t := fun t k => by rw [hst0]; exact k
  rw [← hst0]
  obtain ⟨cl1, Ar1, q1, S1, N1, H1, G1⟩ := id P15
  have hin1 : ¬ (i < 0 ∨ cl1.slots.size ≤ (i).toNatClampNeg) := inb_of S1 P18
  have hat1 : cl1.slots[(i).toNatClampNeg]? = some (.int 120) := Has.at H1 hin1 (own_x120 P18)
  obtain ⟨cq2, q2, q2'⟩ := P2.cell
  obtain ⟨_, _, ⟨T2, L2, k2, n2⟩, -, X2, ⟨Lc2, hQ2, l2, y2, z2⟩, st2⟩ := X0.privateBack hx (y := (⟨own_s0, "role", own_s14⟩ : MethodName)) hown (mvT hZ (own_w hw 107 rfl)) (mvT hZ (own_w hw 108 rfl)) (Jvm.Kit.selects_private (by decide) (mvT hZ (own_w hw 13 rfl)) (mvP hZ (own_w hw 109 rfl)) (mvT hZ (own_w hw 108 rfl))) (Cond.privateMethod_at (mvP hZ (own_w hw 109 rfl) (args := #[]))) (mvT hZ (own_w hw 110 rfl)) (by decide) (backOf (W := 0) (own_role l Z a0 hw [] th ev ns sg phS phF phA phD co ct ph wz wm wl (1 : Int32) (0 : Int32) wc h0 n0 Z0 P0 P1 P2 P3 P4 P5 P6 P7 P8 P9 P10 P11 P12 P13 P14 P17) hZ (own_w hw 110 rfl) (own_w hw 14 rfl) (by decide) (by decide)) (g := (mkF m 43 #[rv th, rv ch, iv 0, iv nn, .val .null, iv en, iv 0, iv i, iv 120, rv co] [(.int 120), (.ref th)])) rfl (by rw [hml]; rfl) (Steps.refl _) (a := th) (by rw [e0]; exact q2) q2' (argsL := [(.int 120)]) (rest := []) (lenOf pd_23 rfl) rfl (by show 2 * 0 + _ ≤ _; exact Nat.le_of_eq rfl) (hb hby d24_43) (fun _ _ => ⟨rfl, e0, (by decide : 0 + 0 ≤ _), (by decide : 0 + 0 ≤ _)⟩)
  dsimp only [Pt.U, Pt.locs, Pt.cells, Pt.slots] at X2 l2 y2 z2 st2 hQ2
  subst l2 y2 z2
  obtain ⟨Nq2, y2_0, rfl, Kc2, p2_0, p2_1, p2_2, p2_3, p2_4, p2_5, p2_6, p2_7, p2_8, p2_9, p2_10, p2_11⟩ := hQ2
  have N2 := Fr.app N0 Nq2
  have K2 : Keep h0 T2.heap ([th] : List Addr) := (Keep.refl h0 ([th] : List Addr)).trans Kc2 (allS (P := fun x => x ∈ ([th] : List Addr) ∨ h0.size ≤ x) (Or.inl (List.mem_of_getElem? (i := 0) rfl)) all0)
  have Z2 : n0 ≤ T2.heap.size := Nat.le_trans Z0 Kc2.1
  have f3 := (P0.keep Kc2 (allS (P := fun x => ∀ c, h0[x]? = some c → c.vm.isStatics = false) (own_nost P2) all0))
  obtain ⟨T4, X4, e4, st4⟩ := getS2 X2 hx hZ hown (host := "") (Or.inl (own_w hw 111 rfl)) Via.refl rfl (own_ST.s7 f3) (g := (mkF m 50 #[rv th, rv ch, iv 0, iv nn, .val .null, iv en, iv 0, iv i, iv 120, rv co] [(.ref co)])) rfl (hb hby d24_50)
  obtain ⟨_, _, ⟨T5, L5, k5, n5⟩, -, X5, ⟨Lc5, hQ5, l5, y5, z5⟩, st5⟩ := Jvm.LawKit.callS X4 hx (y := (⟨own_s12, own_s15, "(C)Z"⟩ : MethodName)) hown (mvT hZ (own_w hw 114 rfl)) (mvT hZ (own_w hw 115 rfl)) (mvT hZ (own_w hw 116 rfl)) (mvT hZ (own_w hw 117 rfl)) (by decide) (backOf (W := 0) (own_low l Z a0 hw []  T2.heap n0 Z2 ) hZ (own_w hw 117 rfl) (own_w hw 116 rfl) (by decide) (by decide)) (g := (mkF m 58 #[rv th, rv ch, iv 0, iv nn, .val .null, iv en, iv 0, iv i, iv 120, rv co] [(.int 120)])) rfl (by rw [hml]; rfl) (argsL := [(.int 120)]) (rest := []) (lenOf pd_22 rfl) rfl (by show 2 * 0 + _ ≤ _; exact Nat.le_of_eq rfl) (hb hby d24_58) (fun _ _ => ⟨rfl, e4, (by decide : 0 + 0 ≤ _), (by decide : 0 + 0 ≤ _)⟩)
  dsimp only [Pt.U, Pt.locs, Pt.cells, Pt.slots] at X5 l5 y5 z5 st5 hQ5
  subst l5 y5 z5
  obtain ⟨rfl, Nq5, e5⟩ := hQ5
  have N5 := Fr.app N2 Nq5
  obtain ⟨T6, X6, e6, st6⟩ := getF X5 hx hZ hown (host := "") (Or.inl (own_w hw 72 rfl)) Via.refl e5 p2_7 (g := (mkF m 66 #[rv th, rv ch, iv 0, iv nn, .val .null, iv en, iv 0, iv i, iv 120, rv co] [(.ref th), (.ref th)])) rfl rfl (hb hby d24_66)
  obtain ⟨T7, X7, e7, st7⟩ := getF X6 hx hZ hown (host := "") (Or.inl (own_w hw 81 rfl)) Via.refl e6 p2_10 (g := (mkF m 70 #[rv th, rv ch, iv 0, iv nn, .val .null, iv en, iv 0, iv i, iv 120, rv co] [(.ref th), (.long wc), (.ref th)])) rfl rfl (hb hby d24_70)
  obtain ⟨T8, h8, X8, e8, W8, st8⟩ := putF X7 hx hZ hown (host := "") (Or.inl (own_w hw 72 rfl)) Via.refl e7 p2_7 p2_0 (Or.inl (own_w hw 73 rfl)) (own_w hw 13 rfl) (ty := .long) (by decide) rfl rfl (g := (mkF m 76 #[rv th, rv ch, iv 0, iv nn, .val .null, iv en, iv 0, iv i, iv 120, rv co] [(.long (wc + (1 : Int64))), (.ref th)])) rfl rfl (hb hby d24_76)
  have K8 : Keep h0 h8 ([th] : List Addr) := K2.wr W8 (Or.inl (List.mem_of_getElem? (i := 0) rfl))
  have N8 := Fr.snoc X8 N5 P17
  have Z8 : n0 ≤ h8.size := Nat.le_trans Z2 (Keep.of_wr W8).1
  have Fw8 := p2_7.same W8
  obtain ⟨T9, X9, e9, st9⟩ := getF X8 hx hZ hown (host := "") (Or.inl (own_w hw 72 rfl)) Via.refl e8 Fw8 (g := (mkF m 80 #[rv th, rv ch, iv 0, iv nn, .val .null, iv en, iv 0, iv i, iv 120, rv co] [(.ref th)])) rfl rfl (hb hby d24_80)
  have f10 := (p2_3.other W8 (Or.inr (own_sn80 hw)))
  obtain ⟨T11, X11, e11, st11⟩ := getF X9 hx hZ hown (host := "") (Or.inl (own_w hw 64 rfl)) Via.refl e9 f10 (g := (mkF m 84 #[rv th, rv ch, iv 0, iv nn, .val .null, iv en, iv 0, iv i, iv 120, rv co] [(.ref th), (.long (wc + (1 : Int64)))])) rfl rfl (hb hby d24_84)
  have f12 : Fld Z h8 th own_s0 own_s3 "J" (.long 0) := (p2_10.other W8 (Or.inr (own_sn57 hw)))
  obtain ⟨T13, X13, e13, st13⟩ := getF X11 hx hZ hown (host := "") (Or.inl (own_w hw 81 rfl)) Via.refl e11 f12 (g := (mkF m 104 #[rv th, rv ch, iv 0, iv nn, .val .null, iv en, iv 0, iv i, iv 120, rv co] [(.ref th)])) rfl rfl (hb hby d24_104)
  have f14 := (p2_0.wr W8)
  obtain ⟨T15, h15, X15, e15, W15, st15⟩ := putF X13 hx hZ hown (host := "") (Or.inl (own_w hw 81 rfl)) Via.refl e13 f12 f14 (Or.inl (own_w hw 82 rfl)) (own_w hw 13 rfl) (ty := .long) (by decide) rfl rfl (g := (mkF m 145 #[rv th, rv ch, iv 0, iv nn, .val .null, iv en, iv 0, iv i, iv 120, rv co] [(.long 0), (.ref th)])) rfl rfl (hb hby d24_145)
  have K15 : Keep h0 h15 ([th] : List Addr) := K8.wr W15 (Or.inl (List.mem_of_getElem? (i := 0) rfl))
  have N15 := Fr.snoc X15 N8 P17
  have Z15 : n0 ≤ h15.size := Nat.le_trans Z8 (Keep.of_wr W15).1
  have Fw15 := f12.same W15
  have f16 := ((p2_9.other W8 (Or.inr (own_sn49 hw))).other W15 (Or.inr (own_sn104 hw)))
  have f17 := (f14.wr W15)
  obtain ⟨T18, h18, X18, e18, W18, st18⟩ := putF X15 hx hZ hown (host := "") (Or.inl (own_w hw 79 rfl)) Via.refl e15 f16 f17 (Or.inl (own_w hw 80 rfl)) (own_w hw 13 rfl) (ty := (.object own_s10)) (by decide) rfl rfl (g := (mkF m 150 #[rv th, rv ch, iv 0, iv nn, .val .null, iv en, iv 0, iv i, iv 120, rv co] [.null, (.ref th)])) rfl rfl (hb hby d24_150)
  have K18 : Keep h0 h18 ([th] : List Addr) := K15.wr W18 (Or.inl (List.mem_of_getElem? (i := 0) rfl))
  have N18 := Fr.snoc X18 N15 P17
  have Z18 : n0 ≤ h18.size := Nat.le_trans Z15 (Keep.of_wr W18).1
  have Fw18 := f16.same W18
  have go19 : ∀ t, own_S p e below (T18.setTop (mkF m 27 #[rv th, rv ch, iv 0, iv nn, .val .null, iv en, iv 0, .val (.int (i + (1 : Int32))), iv 120, rv co] [])) t → Steps p.tables e below st0 t := by
    intro t kt
    refine go0 t ?_
    refine XS.iload X0.here hx rfl (hb hby d24_27) rfl ?_
    refine XS.iload X0.here hx rfl (hb hby d24_29) rfl ?_
    show own_S p e below (T0.setTop (mkF m 31 #[rv th, rv ch, iv 0, iv nn, .val .null, iv en, iv 0, iv i, iv 120, rv co] [(.int en), (.int i)])) _
    refine XS.icmpNo X0.here hx rfl (hb hby d24_31) rfl (tlt P19).2.1 ?_
    refine XS.aloadN X0.here hx rfl (hb hby d24_34) rfl rfl ?_
    refine XS.iload X0.here hx rfl (hb hby d24_35) rfl ?_
    show own_S p e below (T0.setTop (mkF m 37 #[rv th, rv ch, iv 0, iv nn, .val .null, iv en, iv 0, iv i, iv 120, rv co] [(.int i), (.ref ch)])) _
    refine X0.caload hx (j := i) (v := (.int 120)) (by rw [e0]; exact Ar1.1) (State.isArrayOf_alike hZ.alike Ar1.2.1) Ar1.2.2 hin1 hat1 (g := (mkF m 37 #[rv th, rv ch, iv 0, iv nn, .val .null, iv en, iv 0, iv i, iv 120, rv co] [(.int i), (.ref ch)])) rfl rfl (hb hby d24_37) _ ?_
    show own_S p e below (T0.setTop (mkF m 38 #[rv th, rv ch, iv 0, iv nn, .val .null, iv en, iv 0, iv i, iv 120, rv co] [(.int 120)])) _
    refine XS.istore X0.here hx rfl (hb hby d24_38) rfl (l' := #[rv th, rv ch, iv 0, iv nn, .val .null, iv en, iv 0, iv i, iv 120, rv co]) rfl ?_
    refine XS.aloadN X0.here hx rfl (hb hby d24_40) rfl rfl ?_
    refine XS.iload X0.here hx rfl (hb hby d24_41) rfl ?_
    show own_S p e below (T0.setTop (mkF m 43 #[rv th, rv ch, iv 0, iv nn, .val .null, iv en, iv 0, iv i, iv 120, rv co] [(.int 120), (.ref th)])) _
    refine st2.trans ?_
    show own_S p e below (T2.setTop (mkF m 46 #[rv th, rv ch, iv 0, iv nn, .val .null, iv en, iv 0, iv i, iv 120, rv co] [(.ref co)])) _
    refine XS.astore X2.here hx rfl (hb hby d24_46) rfl rfl (l' := #[rv th, rv ch, iv 0, iv nn, .val .null, iv en, iv 0, iv i, iv 120, rv co]) rfl ?_
    refine XS.aload X2.here hx rfl (hb hby d24_48) rfl rfl ?_
    show own_S p e below (T2.setTop (mkF m 50 #[rv th, rv ch, iv 0, iv nn, .val .null, iv en, iv 0, iv i, iv 120, rv co] [(.ref co)])) _
    refine st4 _ ?_
    show own_S p e below (T4.setTop (mkF m 53 #[rv th, rv ch, iv 0, iv nn, .val .null, iv en, iv 0, iv i, iv 120, rv co] [(.ref co), (.ref co)])) _
    refine Jvm.RoadKit.acmp (g := (mkF m 53 #[rv th, rv ch, iv 0, iv nn, .val .null, iv en, iv 0, iv i, iv 120, rv co] [(.ref co), (.ref co)])) X4 hx rfl rfl rfl (pc0 := 53) (pc' := 56) (same := true) rfl (hb hby d24_53) rfl (decide_eq_true rfl) (by decide) (by decide) ?_
    refine XS.iload X4.here hx rfl (hb hby d24_56) rfl ?_
    show own_S p e below (T4.setTop (mkF m 58 #[rv th, rv ch, iv 0, iv nn, .val .null, iv en, iv 0, iv i, iv 120, rv co] [(.int 120)])) _
    refine st5 _ ?_
    show own_S p e below (T5.setTop (mkF m 61 #[rv th, rv ch, iv 0, iv nn, .val .null, iv en, iv 0, iv i, iv 120, rv co] [(.int 0)])) _
    refine XS.ifNo X5.here hx rfl (hb hby d24_61) rfl ((if0 _ _).trans (teq (by decide : (0 : Int32) = (0 : Int32))).2) ?_
    refine XS.aloadN X5.here hx rfl (hb hby d24_64) rfl rfl ?_
    refine XS.dup X5.here hx rfl (hb hby d24_65) rfl rfl ?_
    show own_S p e below (T5.setTop (mkF m 66 #[rv th, rv ch, iv 0, iv nn, .val .null, iv en, iv 0, iv i, iv 120, rv co] [(.ref th), (.ref th)])) _
    refine st6 _ ?_
    refine XS.aloadN X6.here hx rfl (hb hby d24_69) rfl rfl ?_
    show own_S p e below (T6.setTop (mkF m 70 #[rv th, rv ch, iv 0, iv nn, .val .null, iv en, iv 0, iv i, iv 120, rv co] [(.ref th), (.long wc), (.ref th)])) _
    refine st7 _ ?_
    refine XS.lconst X7.here hx rfl (hb hby d24_73) ?_
    refine XS.ladd X7.here hx rfl (hb hby d24_74) rfl ?_
    refine XS.ladd X7.here hx rfl (hb hby d24_75) rfl ?_
    show own_S p e below (T7.setTop (mkF m 76 #[rv th, rv ch, iv 0, iv nn, .val .null, iv en, iv 0, iv i, iv 120, rv co] [(.long (wc + (1 : Int64))), (.ref th)])) _
    refine st8 _ ?_
    refine XS.aloadN X8.here hx rfl (hb hby d24_79) rfl rfl ?_
    show own_S p e below (T8.setTop (mkF m 80 #[rv th, rv ch, iv 0, iv nn, .val .null, iv en, iv 0, iv i, iv 120, rv co] [(.ref th)])) _
    refine st9 _ ?_
    refine XS.aloadN X9.here hx rfl (hb hby d24_83) rfl rfl ?_
    show own_S p e below (T9.setTop (mkF m 84 #[rv th, rv ch, iv 0, iv nn, .val .null, iv en, iv 0, iv i, iv 120, rv co] [(.ref th), (.long (wc + (1 : Int64)))])) _
    refine st11 _ ?_
    show own_S p e below (T11.setTop (mkF m 87 #[rv th, rv ch, iv 0, iv nn, .val .null, iv en, iv 0, iv i, iv 120, rv co] [(.long wm), (.long (wc + (1 : Int64)))])) _
    refine XS.lcmp X11.here hx rfl (hb hby d24_87) rfl ?_
    show own_S p e below (T11.setTop (mkF m 88 #[rv th, rv ch, iv 0, iv nn, .val .null, iv en, iv 0, iv i, iv 120, rv co] [(.int (lcmpW (wc + (1 : Int64)) wm))])) _
    refine XS.ifYes X11.here hx rfl (pc0 := 88) (pc' := 103) rfl (hb hby d24_88) rfl (Jvm.Free.XT.ll_le_t P20) (by decide) (by decide) ?_
    refine XS.aloadN X11.here hx rfl (hb hby d24_103) rfl rfl ?_
    show own_S p e below (T11.setTop (mkF m 104 #[rv th, rv ch, iv 0, iv nn, .val .null, iv en, iv 0, iv i, iv 120, rv co] [(.ref th)])) _
    refine st13 _ ?_
    refine XS.lconst X13.here hx rfl (hb hby d24_107) ?_
    show own_S p e below (T13.setTop (mkF m 108 #[rv th, rv ch, iv 0, iv nn, .val .null, iv en, iv 0, iv i, iv 120, rv co] [(.long 0), (.long 0)])) _
    refine XS.lcmp X13.here hx rfl (hb hby d24_108) rfl ?_
    show own_S p e below (T13.setTop (mkF m 109 #[rv th, rv ch, iv 0, iv nn, .val .null, iv en, iv 0, iv i, iv 120, rv co] [(.int (lcmpW (0 : Int64) (0 : Int64)))])) _
    refine XS.ifYes X13.here hx rfl (pc0 := 109) (pc' := 143) rfl (hb hby d24_109) rfl (Jvm.Free.XT.ll_le_t (by decide : ¬ ((0 : Int64) < (0 : Int64)))) (by decide) (by decide) ?_
    refine XS.aloadN X13.here hx rfl (hb hby d24_143) rfl rfl ?_
    refine XS.lconst X13.here hx rfl (hb hby d24_144) ?_
    show own_S p e below (T13.setTop (mkF m 145 #[rv th, rv ch, iv 0, iv nn, .val .null, iv en, iv 0, iv i, iv 120, rv co] [(.long 0), (.ref th)])) _
    refine st15 _ ?_
    refine XS.aloadN X15.here hx rfl (hb hby d24_148) rfl rfl ?_
    refine XS.aconstNull X15.here hx rfl (hb hby d24_149) ?_
    show own_S p e below (T15.setTop (mkF m 150 #[rv th, rv ch, iv 0, iv nn, .val .null, iv en, iv 0, iv i, iv 120, rv co] [.null, (.ref th)])) _
    refine st18 _ ?_
    show own_S p e below (T18.setTop (mkF m 153 #[rv th, rv ch, iv 0, iv nn, .val .null, iv en, iv 0, iv i, iv 120, rv co] [])) _
    refine XS.goto X18.here hx rfl (pc0 := 153) (pc' := 293) rfl (hb hby d24_153) (by decide) (by decide) ?_
    show own_S p e below (T18.setTop (mkF m 293 #[rv th, rv ch, iv 0, iv nn, .val .null, iv en, iv 0, iv i, iv 120, rv co] [])) _
    refine XS.iinc X18.here hx rfl (hb hby d24_293) rfl (l' := #[rv th, rv ch, iv 0, iv nn, .val .null, iv en, iv 0, .val (.int (i + (1 : Int32))), iv 120, rv co]) rfl ?_
    show own_S p e below (T18.setTop (mkF m 296 #[rv th, rv ch, iv 0, iv nn, .val .null, iv en, iv 0, .val (.int (i + (1 : Int32))), iv 120, rv co] [])) _
    refine XS.goto X18.here hx rfl (pc0 := 296) (pc' := 27) rfl (hb hby d24_296) (by decide) (by decide) ?_
    show own_S p e below (T18.setTop (mkF m 27 #[rv th, rv ch, iv 0, iv nn, .val .null, iv en, iv 0, .val (.int (i + (1 : Int32))), iv 120, rv co] [])) _
    exact kt
  have f20 := (f17.wr W18)
  have f21 := (((p2_1.other W8 (Or.inr (own_sn65 hw))).other W15 (Or.inr (own_sn68 hw))).other W18 (Or.inr (own_sn67 hw)))
  have f22 := (((p2_2.other W8 (Or.inr (own_sn73 hw))).other W15 (Or.inr (own_sn76 hw))).other W18 (Or.inr (own_sn75 hw)))
  have f23 := ((f10.other W15 (Or.inr (own_sn83 hw))).other W18 (Or.inr (own_sn82 hw)))
  have f24 := (((p2_4.other W8 (Or.inr (own_sn86 hw))).other W15 (Or.inr (own_sn89 hw))).other W18 (Or.inr (own_sn88 hw)))
  have f25 : Fld Z h18 th own_s0 "past" "Z" (.int 1) := (((p2_5.other W8 (Or.inr (own_sn91 hw))).other W15 (Or.inr (own_sn94 hw))).other W18 (Or.inr (own_sn93 hw)))
  have f26 : Fld Z h18 th own_s0 "over" "Z" (.int 0) := (((p2_6.other W8 (Or.inr (own_sn95 hw))).other W15 (Or.inr (own_sn98 hw))).other W18 (Or.inr (own_sn97 hw)))
  have f27 := ((Fw8.other W15 (Or.inr (own_sn101 hw))).other W18 (Or.inr (own_sn100 hw)))
  have f28 := (((p2_8.other W8 (Or.inr (own_sn42 hw))).other W15 (Or.inr (own_sn103 hw))).other W18 (Or.inr (own_sn102 hw)))
  have f29 : Fld Z h18 th own_s0 own_s3 "J" (.long 0) := (Fw15.other W18 (Or.inr (own_sn59 hw)))
  exact ⟨_, _, _, y2_0, own_mono X18 (by decide) (by decide), e18, N18, K18, Z18, f20, f21, f22, f23, f24, f25, f26, f27, f28, Fw18, f29, p2_11, go19⟩
set_option maxRecDepth 65536 in
set_option maxHeartbeats 40000000 in
theorem own_re1 {p : Program} {l : Launch} {e : Env} {s : State} {m : MethodId} {args : Array Value} {below : List Frame} {meth : Method} {c : Code} {T0 : State} {locs : List Loc} {Z : State} {a0 : Array Value} {h0 : Heap} {n0 : Nat} (th : Addr) (ch : Addr) (nn : Int32) (en : Int32) (i : Int32) (ev : Addr) (ns : Addr) (sg : Addr) (phS : Addr) (phF : Addr) (phA : Addr) (phD : Addr) (co : Addr) (ct : Addr) (ph : Addr) (wz : Int32) (wm : Int64) (wl : Int64) (wc : Int64) (kc : ClassId) (X0 : Stand p l e ({ frames := 3, cells := 0, slots := 0, locals := 80 } : Room) s m args below meth c T0 locs 0 0) (hx : p.tables.exec = Jvm.exec) (hZ : Z.Warmed39 s.vm) (hw : ∀ d ∈ tables_1, d.before a0 Z = true) (hby : c.code = prog_127_method_6_code) (hml : c.maxLocals = 10) (hown : s.vm.findClass own_s0 = some m.cls) (e0 : T0.heap = h0) (N0 : Fr n0 locs) (Z0 : n0 ≤ h0.size) (P0 : own_ST Z h0 ev ns sg phS phF phA phD co) (P1 : own_NN ev ns sg phS phF phA phD co) (P2 : Exa Z h0 th own_s0) (P3 : Fld Z h0 th own_s0 "count" own_s1 (.ref ct)) (P4 : Fld Z h0 th own_s0 own_s2 "Z" (.int wz)) (P5 : Fld Z h0 th own_s0 "most" "J" (.long wm)) (P6 : Fld Z h0 th own_s0 "length" "J" (.long wl)) (P7 : Fld Z h0 th own_s0 "past" "Z" (.int 1)) (P8 : Fld Z h0 th own_s0 "over" "Z" (.int 0)) (P9 : Fld Z h0 th own_s0 "counted" "J" (.long wc)) (P10 : Fld Z h0 th own_s0 "phase" own_s4 (.ref ph)) (P11 : Fld Z h0 th own_s0 "run" own_s5 .null) (P12 : Fld Z h0 th own_s0 own_s3 "J" (.long 0)) (P13 : ct = ev ∨ ct = ns ∨ ct = sg) (P14 : ph = phS ∨ ph = phD) (P15 : Arv Z h0 ch kc .char (8 : Int32) [(.int 120), (.int 120), (.int 120), (.int 120), (.int 120), (.int 120), (.int 120), (.int 120)] (.int 0)) (P16 : ch ≠ th) (P17 : n0 ≤ th) (P18 : ¬ (i < 0) ∧ i < (8 : Int32)) (P19 : i < en) (P20 : wm < (wc + (1 : Int64))) :
    ∃ (T' : State) (h' : Heap) (L' : List Loc) (ph2 : Addr), Stand p l e ({ frames := 3, cells := 0, slots := 0, locals := 80 } : Room) s m args below meth c T' L' 0 0 ∧ T'.heap = h' ∧ Fr n0 L' ∧ Keep h0 h' ([th] : List Addr) ∧ n0 ≤ h'.size ∧ Exa Z h' th own_s0 ∧ Fld Z h' th own_s0 "count" own_s1 (.ref ct) ∧ Fld Z h' th own_s0 own_s2 "Z" (.int wz) ∧ Fld Z h' th own_s0 "most" "J" (.long wm) ∧ Fld Z h' th own_s0 "length" "J" (.long wl) ∧ Fld Z h' th own_s0 "past" "Z" (.int 1) ∧ Fld Z h' th own_s0 "over" "Z" (.int 1) ∧ Fld Z h' th own_s0 "counted" "J" (.long (wc + (1 : Int64))) ∧ Fld Z h' th own_s0 "phase" own_s4 (.ref ph2) ∧ Fld Z h' th own_s0 "run" own_s5 .null ∧ Fld Z h' th own_s0 own_s3 "J" (.long 0) ∧ (ph2 = phS ∨ ph2 = phD) ∧ ∀ t, Steps p.tables e below (T'.setTop (mkF m 101 #[rv th, rv ch, iv 0, iv nn, .val .null, iv en, iv 0, iv i, iv 120, rv co] [])) t → own_S p e below (T0.setTop (mkF m 27 #[rv th, rv ch, iv 0, iv nn, .val .null, iv en, iv 0, iv i, iv 120, rv co] [])) t := by
  obtain ⟨st0, hst0⟩ : ∃ zst, zst = T0.setTop (mkF m 27 #[rv th, rv ch, iv 0, iv nn, .val .null, iv en, iv 0, iv i, iv 120, rv co] []) := ⟨_, rfl⟩
  have go0 : ∀ t, own_S p e below (T0.setTop (mkF m 27 #[rv th, rv ch, iv 0, iv nn, .val .null, iv en, iv 0, iv i, iv 120, rv co] [])) t → Steps p.tables e below st0 t := fun t k => by rw [hst0]; exact k
  rw [← hst0]
  obtain ⟨cl1, Ar1, q1, S1, N1, H1, G1⟩ := id P15
  have hin1 : ¬ (i < 0 ∨ cl1.slots.size ≤ (i).toNatClampNeg) := inb_of S1 P18
  have hat1 : cl1.slots[(i).toNatClampNeg]? = some (.int 120) := Has.at H1 hin1 (own_x120 P18)
  obtain ⟨cq2, q2, q2'⟩ := P2.cell
  obtain ⟨_, _, ⟨T2, L2, k2, n2⟩, -, X2, ⟨Lc2, hQ2, l2, y2, z2⟩, st2⟩ := X0.privateBack hx (y := (⟨own_s0, "role", own_s14⟩ : MethodName)) hown (mvT hZ (own_w hw 107 rfl)) (mvT hZ (own_w hw 108 rfl)) (Jvm.Kit.selects_private (by decide) (mvT hZ (own_w hw 13 rfl)) (mvP hZ (own_w hw 109 rfl)) (mvT hZ (own_w hw 108 rfl))) (Cond.privateMethod_at (mvP hZ (own_w hw 109 rfl) (args := #[]))) (mvT hZ (own_w hw 110 rfl)) (by decide) (backOf (W := 0) (own_role l Z a0 hw [] th ev ns sg phS phF phA phD co ct ph wz wm wl (1 : Int32) (0 : Int32) wc h0 n0 Z0 P0 P1 P2 P3 P4 P5 P6 P7 P8 P9 P10 P11 P12 P13 P14 P17) hZ (own_w hw 110 rfl) (own_w hw 14 rfl) (by decide) (by decide)) (g := (mkF m 43 #[rv th, rv ch, iv 0, iv nn, .val .null, iv en, iv 0, iv i, iv 120, rv co] [(.int 120), (.ref th)])) rfl (by rw [hml]; rfl) (Steps.refl _) (a := th) (by rw [e0]; exact q2) q2' (argsL := [(.int 120)]) (rest := []) (lenOf pd_23 rfl) rfl (by show 2 * 0 + _ ≤ _; exact Nat.le_of_eq rfl) (hb hby d24_43) (fun _ _ => ⟨rfl, e0, (by decide : 0 + 0 ≤ _), (by decide : 0 + 0 ≤ _)⟩)
  dsimp only [Pt.U, Pt.locs, Pt.cells, Pt.slots] at X2 l2 y2 z2 st2 hQ2
  subst l2 y2 z2
  obtain ⟨Nq2, y2_0, rfl, Kc2, p2_0, p2_1, p2_2, p2_3, p2_4, p2_5, p2_6, p2_7, p2_8, p2_9, p2_10, p2_11⟩ := hQ2
  have N2 := Fr.app N0 Nq2
  have K2 : Keep h0 T2.heap ([th] : List Addr) := (Keep.refl h0 ([th] : List Addr)).trans Kc2 (allS (P := fun x => x ∈ ([th] : List Addr) ∨ h0.size ≤ x) (Or.inl (List.mem_of_getElem? (i := 0) rfl)) all0)
  have Z2 : n0 ≤ T2.heap.size := Nat.le_trans Z0 Kc2.1
  have f3 := (P0.keep Kc2 (allS (P := fun x => ∀ c, h0[x]? = some c → c.vm.isStatics = false) (own_nost P2) all0))
  obtain ⟨T4, X4, e4, st4⟩ := getS2 X2 hx hZ hown (host := "") (Or.inl (own_w hw 111 rfl)) Via.refl rfl (own_ST.s7 f3) (g := (mkF m 50 #[rv th, rv ch, iv 0, iv nn, .val .null, iv en, iv 0, iv i, iv 120, rv co] [(.ref co)])) rfl (hb hby d24_50)
  obtain ⟨_, _, ⟨T5, L5, k5, n5⟩, -, X5, ⟨Lc5, hQ5, l5, y5, z5⟩, st5⟩ := Jvm.LawKit.callS X4 hx (y := (⟨own_s12, own_s15, "(C)Z"⟩ : MethodName)) hown (mvT hZ (own_w hw 114 rfl)) (mvT hZ (own_w hw 115 rfl)) (mvT hZ (own_w hw 116 rfl)) (mvT hZ (own_w hw 117 rfl)) (by decide) (backOf (W := 0) (own_low l Z a0 hw []  T2.heap n0 Z2 ) hZ (own_w hw 117 rfl) (own_w hw 116 rfl) (by decide) (by decide)) (g := (mkF m 58 #[rv th, rv ch, iv 0, iv nn, .val .null, iv en, iv 0, iv i, iv 120, rv co] [(.int 120)])) rfl (by rw [hml]; rfl) (argsL := [(.int 120)]) (rest := []) (lenOf pd_22 rfl) rfl (by show 2 * 0 + _ ≤ _; exact Nat.le_of_eq rfl) (hb hby d24_58) (fun _ _ => ⟨rfl, e4, (by decide : 0 + 0 ≤ _), (by decide : 0 + 0 ≤ _)⟩)
  dsimp only [Pt.U, Pt.locs, Pt.cells, Pt.slots] at X5 l5 y5 z5 st5 hQ5
  subst l5 y5 z5
  obtain ⟨rfl, Nq5, e5⟩ := hQ5
  have N5 := Fr.app N2 Nq5
  obtain ⟨T6, X6, e6, st6⟩ := getF X5 hx hZ hown (host := "") (Or.inl (own_w hw 72 rfl)) Via.refl e5 p2_7 (g := (mkF m 66 #[rv th, rv ch, iv 0, iv nn, .val .null, iv en, iv 0, iv i, iv 120, rv co] [(.ref th), (.ref th)])) rfl rfl (hb hby d24_66)
  obtain ⟨T7, X7, e7, st7⟩ := getF X6 hx hZ hown (host := "") (Or.inl (own_w hw 81 rfl)) Via.refl e6 p2_10 (g := (mkF m 70 #[rv th, rv ch, iv 0, iv nn, .val .null, iv en, iv 0, iv i, iv 120, rv co] [(.ref th), (.long wc), (.ref th)])) rfl rfl (hb hby d24_70)
  obtain ⟨T8, h8, X8, e8, W8, st8⟩ := putF X7 hx hZ hown (host := "") (Or.inl (own_w hw 72 rfl)) Via.refl e7 p2_7 p2_0 (Or.inl (own_w hw 73 rfl)) (own_w hw 13 rfl) (ty := .long) (by decide) rfl rfl (g := (mkF m 76 #[rv th, rv ch, iv 0, iv nn, .val .null, iv en, iv 0, iv i, iv 120, rv co] [(.long (wc + (1 : Int64))), (.ref th)])) rfl rfl (hb hby d24_76)
  have K8 : Keep h0 h8 ([th] : List Addr) := K2.wr W8 (Or.inl (List.mem_of_getElem? (i := 0) rfl))
  have N8 := Fr.snoc X8 N5 P17
  have Z8 : n0 ≤ h8.size := Nat.le_trans Z2 (Keep.of_wr W8).1
  have Fw8 := p2_7.same W8
  obtain ⟨T9, X9, e9, st9⟩ := getF X8 hx hZ hown (host := "") (Or.inl (own_w hw 72 rfl)) Via.refl e8 Fw8 (g := (mkF m 80 #[rv th, rv ch, iv 0, iv nn, .val .null, iv en, iv 0, iv i, iv 120, rv co] [(.ref th)])) rfl rfl (hb hby d24_80)
  have f10 := (p2_3.other W8 (Or.inr (own_sn80 hw)))
  obtain ⟨T11, X11, e11, st11⟩ := getF X9 hx hZ hown (host := "") (Or.inl (own_w hw 64 rfl)) Via.refl e9 f10 (g := (mkF m 84 #[rv th, rv ch, iv 0, iv nn, .val .null, iv en, iv 0, iv i, iv 120, rv co] [(.ref th), (.long (wc + (1 : Int64)))])) rfl rfl (hb hby d24_84)
  have f12 : Fld Z h8 th own_s0 "over" "Z" (.int 0) := (p2_6.other W8 (Or.inr (own_sn95 hw)))
  have f13 := (p2_0.wr W8)
  obtain ⟨T14, h14, X14, e14, W14, st14⟩ := putFN X11 hx hZ hown (own_w hw 70 rfl) Via.refl e11 f12 f13 (Or.inl (own_w hw 71 rfl)) (own_w hw 13 rfl) (ty := .boolean) (v' := (.int 1)) (by decide) rfl rfl (g := (mkF m 93 #[rv th, rv ch, iv 0, iv nn, .val .null, iv en, iv 0, iv i, iv 120, rv co] [(.int 1), (.ref th)])) rfl rfl (hb hby d24_93)
  have K14 : Keep h0 h14 ([th] : List Addr) := K8.wr W14 (Or.inl (List.mem_of_getElem? (i := 0) rfl))
  have N14 := Fr.snoc X14 N8 P17
  have Z14 : n0 ≤ h14.size := Nat.le_trans Z8 (Keep.of_wr W14).1
  have Fw14 := f12.same W14
  have f15 : Fld Z h14 th own_s0 own_s3 "J" (.long 0) := ((p2_10.other W8 (Or.inr (own_sn57 hw))).other W14 (Or.inr (own_sn56 hw)))
  have f16 := (f13.wr W14)
  obtain ⟨T17, h17, X17, e17, W17, st17⟩ := putF X14 hx hZ hown (host := "") (Or.inl (own_w hw 81 rfl)) Via.refl e14 f15 f16 (Or.inl (own_w hw 82 rfl)) (own_w hw 13 rfl) (ty := .long) (by decide) rfl rfl (g := (mkF m 98 #[rv th, rv ch, iv 0, iv nn, .val .null, iv en, iv 0, iv i, iv 120, rv co] [(.long 0), (.ref th)])) rfl rfl (hb hby d24_98)
  have K17 : Keep h0 h17 ([th] : List Addr) := K14.wr W17 (Or.inl (List.mem_of_getElem? (i := 0) rfl))
  have N17 := Fr.snoc X17 N14 P17
  have Z17 : n0 ≤ h17.size := Nat.le_trans Z14 (Keep.of_wr W17).1
  have Fw17 := f15.same W17
  have go18 : ∀ t, own_S p e below (T17.setTop (mkF m 101 #[rv th, rv ch, iv 0, iv nn, .val .null, iv en, iv 0, iv i, iv 120, rv co] [])) t → Steps p.tables e below st0 t := by
    intro t kt
    refine go0 t ?_
    refine XS.iload X0.here hx rfl (hb hby d24_27) rfl ?_
    refine XS.iload X0.here hx rfl (hb hby d24_29) rfl ?_
    show own_S p e below (T0.setTop (mkF m 31 #[rv th, rv ch, iv 0, iv nn, .val .null, iv en, iv 0, iv i, iv 120, rv co] [(.int en), (.int i)])) _
    refine XS.icmpNo X0.here hx rfl (hb hby d24_31) rfl (tlt P19).2.1 ?_
    refine XS.aloadN X0.here hx rfl (hb hby d24_34) rfl rfl ?_
    refine XS.iload X0.here hx rfl (hb hby d24_35) rfl ?_
    show own_S p e below (T0.setTop (mkF m 37 #[rv th, rv ch, iv 0, iv nn, .val .null, iv en, iv 0, iv i, iv 120, rv co] [(.int i), (.ref ch)])) _
    refine X0.caload hx (j := i) (v := (.int 120)) (by rw [e0]; exact Ar1.1) (State.isArrayOf_alike hZ.alike Ar1.2.1) Ar1.2.2 hin1 hat1 (g := (mkF m 37 #[rv th, rv ch, iv 0, iv nn, .val .null, iv en, iv 0, iv i, iv 120, rv co] [(.int i), (.ref ch)])) rfl rfl (hb hby d24_37) _ ?_
    show own_S p e below (T0.setTop (mkF m 38 #[rv th, rv ch, iv 0, iv nn, .val .null, iv en, iv 0, iv i, iv 120, rv co] [(.int 120)])) _
    refine XS.istore X0.here hx rfl (hb hby d24_38) rfl (l' := #[rv th, rv ch, iv 0, iv nn, .val .null, iv en, iv 0, iv i, iv 120, rv co]) rfl ?_
    refine XS.aloadN X0.here hx rfl (hb hby d24_40) rfl rfl ?_
    refine XS.iload X0.here hx rfl (hb hby d24_41) rfl ?_
    show own_S p e below (T0.setTop (mkF m 43 #[rv th, rv ch, iv 0, iv nn, .val .null, iv en, iv 0, iv i, iv 120, rv co] [(.int 120), (.ref th)])) _
    refine st2.trans ?_
    show own_S p e below (T2.setTop (mkF m 46 #[rv th, rv ch, iv 0, iv nn, .val .null, iv en, iv 0, iv i, iv 120, rv co] [(.ref co)])) _
    refine XS.astore X2.here hx rfl (hb hby d24_46) rfl rfl (l' := #[rv th, rv ch, iv 0, iv nn, .val .null, iv en, iv 0, iv i, iv 120, rv co]) rfl ?_
    refine XS.aload X2.here hx rfl (hb hby d24_48) rfl rfl ?_
    show own_S p e below (T2.setTop (mkF m 50 #[rv th, rv ch, iv 0, iv nn, .val .null, iv en, iv 0, iv i, iv 120, rv co] [(.ref co)])) _
    refine st4 _ ?_
    show own_S p e below (T4.setTop (mkF m 53 #[rv th, rv ch, iv 0, iv nn, .val .null, iv en, iv 0, iv i, iv 120, rv co] [(.ref co), (.ref co)])) _
    refine Jvm.RoadKit.acmp (g := (mkF m 53 #[rv th, rv ch, iv 0, iv nn, .val .null, iv en, iv 0, iv i, iv 120, rv co] [(.ref co), (.ref co)])) X4 hx rfl rfl rfl (pc0 := 53) (pc' := 56) (same := true) rfl (hb hby d24_53) rfl (decide_eq_true rfl) (by decide) (by decide) ?_
    refine XS.iload X4.here hx rfl (hb hby d24_56) rfl ?_
    show own_S p e below (T4.setTop (mkF m 58 #[rv th, rv ch, iv 0, iv nn, .val .null, iv en, iv 0, iv i, iv 120, rv co] [(.int 120)])) _
    refine st5 _ ?_
    show own_S p e below (T5.setTop (mkF m 61 #[rv th, rv ch, iv 0, iv nn, .val .null, iv en, iv 0, iv i, iv 120, rv co] [(.int 0)])) _
    refine XS.ifNo X5.here hx rfl (hb hby d24_61) rfl ((if0 _ _).trans (teq (by decide : (0 : Int32) = (0 : Int32))).2) ?_
    refine XS.aloadN X5.here hx rfl (hb hby d24_64) rfl rfl ?_
    refine XS.dup X5.here hx rfl (hb hby d24_65) rfl rfl ?_
    show own_S p e below (T5.setTop (mkF m 66 #[rv th, rv ch, iv 0, iv nn, .val .null, iv en, iv 0, iv i, iv 120, rv co] [(.ref th), (.ref th)])) _
    refine st6 _ ?_
    refine XS.aloadN X6.here hx rfl (hb hby d24_69) rfl rfl ?_
    show own_S p e below (T6.setTop (mkF m 70 #[rv th, rv ch, iv 0, iv nn, .val .null, iv en, iv 0, iv i, iv 120, rv co] [(.ref th), (.long wc), (.ref th)])) _
    refine st7 _ ?_
    refine XS.lconst X7.here hx rfl (hb hby d24_73) ?_
    refine XS.ladd X7.here hx rfl (hb hby d24_74) rfl ?_
    refine XS.ladd X7.here hx rfl (hb hby d24_75) rfl ?_
    show own_S p e below (T7.setTop (mkF m 76 #[rv th, rv ch, iv 0, iv nn, .val .null, iv en, iv 0, iv i, iv 120, rv co] [(.long (wc + (1 : Int64))), (.ref th)])) _
    refine st8 _ ?_
    refine XS.aloadN X8.here hx rfl (hb hby d24_79) rfl rfl ?_
    show own_S p e below (T8.setTop (mkF m 80 #[rv th, rv ch, iv 0, iv nn, .val .null, iv en, iv 0, iv i, iv 120, rv co] [(.ref th)])) _
    refine st9 _ ?_
    refine XS.aloadN X9.here hx rfl (hb hby d24_83) rfl rfl ?_
    show own_S p e below (T9.setTop (mkF m 84 #[rv th, rv ch, iv 0, iv nn, .val .null, iv en, iv 0, iv i, iv 120, rv co] [(.ref th), (.long (wc + (1 : Int64)))])) _
    refine st11 _ ?_
    show own_S p e below (T11.setTop (mkF m 87 #[rv th, rv ch, iv 0, iv nn, .val .null, iv en, iv 0, iv i, iv 120, rv co] [(.long wm), (.long (wc + (1 : Int64)))])) _
    refine XS.lcmp X11.here hx rfl (hb hby d24_87) rfl ?_
    show own_S p e below (T11.setTop (mkF m 88 #[rv th, rv ch, iv 0, iv nn, .val .null, iv en, iv 0, iv i, iv 120, rv co] [(.int (lcmpW (wc + (1 : Int64)) wm))])) _
    refine XS.ifNo X11.here hx rfl (hb hby d24_88) rfl (Jvm.Free.XT.ll_le_f P20) ?_
    refine XS.aloadN X11.here hx rfl (hb hby d24_91) rfl rfl ?_
    refine XS.iconst X11.here hx rfl (hb hby d24_92) ?_
    show own_S p e below (T11.setTop (mkF m 93 #[rv th, rv ch, iv 0, iv nn, .val .null, iv en, iv 0, iv i, iv 120, rv co] [(.int 1), (.ref th)])) _
    refine st14 _ ?_
    refine XS.aloadN X14.here hx rfl (hb hby d24_96) rfl rfl ?_
    refine XS.lconst X14.here hx rfl (hb hby d24_97) ?_
    show own_S p e below (T14.setTop (mkF m 98 #[rv th, rv ch, iv 0, iv nn, .val .null, iv en, iv 0, iv i, iv 120, rv co] [(.long 0), (.ref th)])) _
    refine st17 _ ?_
    show own_S p e below (T17.setTop (mkF m 101 #[rv th, rv ch, iv 0, iv nn, .val .null, iv en, iv 0, iv i, iv 120, rv co] [])) _
    exact kt
  have f19 := (f16.wr W17)
  have f20 := (((p2_1.other W8 (Or.inr (own_sn65 hw))).other W14 (Or.inr (own_sn64 hw))).other W17 (Or.inr (own_sn68 hw)))
  have f21 := (((p2_2.other W8 (Or.inr (own_sn73 hw))).other W14 (Or.inr (own_sn72 hw))).other W17 (Or.inr (own_sn76 hw)))
  have f22 := ((f10.other W14 (Or.inr (own_sn79 hw))).other W17 (Or.inr (own_sn83 hw)))
  have f23 := (((p2_4.other W8 (Or.inr (own_sn86 hw))).other W14 (Or.inr (own_sn85 hw))).other W17 (Or.inr (own_sn89 hw)))
  have f24 : Fld Z h17 th own_s0 "past" "Z" (.int 1) := (((p2_5.other W8 (Or.inr (own_sn91 hw))).other W14 (Or.inr (own_sn90 hw))).other W17 (Or.inr (own_sn94 hw)))
  have f25 : Fld Z h17 th own_s0 "over" "Z" (.int 1) := (Fw14.other W17 (Or.inr (own_sn98 hw)))
  have f26 := ((Fw8.other W14 (Or.inr (own_sn35 hw))).other W17 (Or.inr (own_sn101 hw)))
  have f27 := (((p2_8.other W8 (Or.inr (own_sn42 hw))).other W14 (Or.inr (own_sn41 hw))).other W17 (Or.inr (own_sn103 hw)))
  have f28 := (((p2_9.other W8 (Or.inr (own_sn49 hw))).other W14 (Or.inr (own_sn48 hw))).other W17 (Or.inr (own_sn104 hw)))
  exact ⟨_, _, _, y2_0, own_mono X17 (by decide) (by decide), e17, N17, K17, Z17, f19, f20, f21, f22, f23, f24, f25, f26, f27, f28, Fw17, p2_11, go18⟩
theorem ef_own_read00 (m : MethodId) (pr0 : Addr) (pr1 : Addr) (pi3 : Int32) : entryFrame m #[(.ref pr0), (.ref pr1), (.int 0), (.int pi3), .null] 10 = mkF m 0 #[rv pr0, rv pr1, iv 0, iv pi3, .val .null, .unset, .unset, .unset, .unset, .unset] [] := by first | (simp [entryFrame, mkF, argsToLocals, Value.category]; done) | rfl
def Q_own_read00 (Z : State) (pr0 : Addr) (pr1 : Addr) (pi3 : Int32) (ev : Addr) (ns : Addr) (sg : Addr) (phS : Addr) (phF : Addr) (phA : Addr) (phD : Addr) (co : Addr) (ct : Addr) (ph : Addr) (wz : Int32) (kc : ClassId) (h0 : Heap) (n0 : Nat) (v : Option Value) (h : Heap) (L : List Loc) : Prop := Fr n0 L ∧ ∃ (wl2 : Int64) (wc2 : Int64) (ph2 : Addr), v = some (.int 0) ∧ Keep h0 h ([pr0] : List Addr) ∧ Exa Z h pr0 own_s0 ∧ Fld Z h pr0 own_s0 "count" own_s1 (.ref ct) ∧ Fld Z h pr0 own_s0 own_s2 "Z" (.int wz) ∧ Fld Z h pr0 own_s0 "most" "J" (.long 0) ∧ Fld Z h pr0 own_s0 "length" "J" (.long wl2) ∧ Fld Z h pr0 own_s0 "past" "Z" (.int 1) ∧ Fld Z h pr0 own_s0 "over" "Z" (.int 1) ∧ Fld Z h pr0 own_s0 "counted" "J" (.long wc2) ∧ Fld Z h pr0 own_s0 "phase" own_s4 (.ref ph2) ∧ Fld Z h pr0 own_s0 "run" own_s5 .null ∧ Fld Z h pr0 own_s0 own_s3 "J" (.long 0)
set_option maxRecDepth 65536 in
set_option maxHeartbeats 40000000 in
theorem own_read00 (l : Launch) (Z : State) (a0 : Array Value) (hw : ∀ d ∈ tables_1, d.before a0 Z = true) (ws : List Jvm.Cond) (pr0 : Addr) (pr1 : Addr) (pi3 : Int32) (ev : Addr) (ns : Addr) (sg : Addr) (phS : Addr) (phF : Addr) (phA : Addr) (phD : Addr) (co : Addr) (ct : Addr) (ph : Addr) (wz : Int32) (kc : ClassId) (h0 : Heap) (n0 : Nat) (Z0 : n0 ≤ h0.size) (P0 : own_ST Z h0 ev ns sg phS phF phA phD co) (P1 : own_NN ev ns sg phS phF phA phD co) (P2 : Exa Z h0 pr0 own_s0) (P3 : Fld Z h0 pr0 own_s0 "count" own_s1 (.ref ct)) (P4 : Fld Z h0 pr0 own_s0 own_s2 "Z" (.int wz)) (P5 : Fld Z h0 pr0 own_s0 "most" "J" (.long 0)) (P6 : Fld Z h0 pr0 own_s0 "length" "J" (.long 0)) (P7 : Fld Z h0 pr0 own_s0 "past" "Z" (.int 0)) (P8 : Fld Z h0 pr0 own_s0 "over" "Z" (.int 0)) (P9 : Fld Z h0 pr0 own_s0 "counted" "J" (.long 0)) (P10 : Fld Z h0 pr0 own_s0 "phase" own_s4 (.ref ph)) (P11 : Fld Z h0 pr0 own_s0 "run" own_s5 .null) (P12 : Fld Z h0 pr0 own_s0 own_s3 "J" (.long 0)) (P13 : ct = ev ∨ ct = ns ∨ ct = sg) (P14 : ph = phS ∨ ph = phD) (P15 : Arv Z h0 pr1 kc .char (8 : Int32) [(.int 120), (.int 120), (.int 120), (.int 120), (.int 120), (.int 120), (.int 120), (.int 120)] (.int 0)) (P16 : pr1 ≠ pr0) (P17 : n0 ≤ pr0) (P18 : ¬ (pi3 < (1 : Int32))) :
    MetFree l (⟨own_s0, "read", own_s8⟩ : MethodName) (head1 (Jvm.Cond.code (⟨own_s0, "read", own_s8⟩ : MethodName) prog_127_method_6_code 10 (some .boolean) :: ws) ({ frames := 3, cells := 0, slots := 0, locals := 80 } : Room)) (fun a U => a = #[(.ref pr0), (.ref pr1), (.int 0), (.int pi3), .null] ∧ Z.Warmed39 U.vm ∧ U.heap = h0) (fun _ _ _ _ _ => True) (fun _ U o U' => ∃ v L, o = .returned v ∧ Q_own_read00 Z pr0 pr1 pi3 ev ns sg phS phF phA phD co ct ph wz kc h0 n0 v U'.heap L ∧ FrameEnd U o U' L ({ frames := 3, cells := 0, slots := 0, locals := 80 } : Room).cells ({ frames := 3, cells := 0, slots := 0, locals := 80 } : Room).slots) := by
  refine MetFree.of_bodySF (plainFor_of_name pn_8) hisR ?_
  intro p e s m args below meth c s₁ Bd hml0 hP hK
  obtain ⟨rfl, hZ, hh⟩ := hP
  have hx := Bd.exec
  have hby := Bd.bytes
  have hml : c.maxLocals = 10 := hml0
  have hown : s.vm.findClass own_s0 = some m.cls := findClass_of_methodNamed Bd.named
  have hnm := (name_of_methodNamed Bd.named Bd.method).1
  have X0 : Stand p l e ({ frames := 3, cells := 0, slots := 0, locals := 80 } : Room) s m #[(.ref pr0), (.ref pr1), (.int 0), (.int pi3), .null] below meth c s₁ [] 0 0 := Stand.of_body Bd
  have e0 : s₁.heap = h0 := by rw [← hh, Bd.state]; rfl
  have N0 := Fr.nil n0
  have go0 : ∀ t, own_S p e below (s₁.setTop (mkF m 0 #[rv pr0, rv pr1, iv 0, iv pi3, .val .null, .unset, .unset, .unset, .unset, .unset] [])) t → Steps p.tables e below (s₁.setTop (entryFrame m #[(.ref pr0), (.ref pr1), (.int 0), (.int pi3), .null] 10)) t := fun t k => castTop (ef_own_read00 m pr0 pr1 pi3) k
  revert go0
  generalize s₁.setTop (entryFrame m #[(.ref pr0), (.ref pr1), (.int 0), (.int pi3), .null] 10) = st0
  intro go0
  obtain ⟨T1, X1, e1, st1⟩ := getF X0 hx hZ hown (host := "") (Or.inl (own_w hw 70 rfl)) Via.refl e0 P8 (g := (mkF m 1 #[rv pr0, rv pr1, iv 0, iv pi3, .val .null, .unset, .unset, .unset, .unset, .unset] [(.ref pr0)])) rfl rfl (hb hby d24_1)
  obtain ⟨cq2, q2, q2'⟩ := P2.cell
  obtain ⟨_, _, ⟨T2, L2, k2, n2⟩, -, X2, ⟨Lc2, hQ2, l2, y2, z2⟩, st2⟩ := X1.privateBack hx (y := (⟨own_s0, "within", "([CII)I"⟩ : MethodName)) hown (mvT hZ (own_w hw 102 rfl)) (mvT hZ (own_w hw 103 rfl)) (Jvm.Kit.selects_private (by decide) (mvT hZ (own_w hw 13 rfl)) (mvP hZ (own_w hw 104 rfl)) (mvT hZ (own_w hw 103 rfl))) (Cond.privateMethod_at (mvP hZ (own_w hw 104 rfl) (args := #[]))) (mvT hZ (own_w hw 105 rfl)) (by decide) (backOf (W := 0) (own_within0 l Z a0 hw [] pr0 pr1 ((0 : Int32) + pi3) ev ns sg phS phF phA phD co ct ph wz (0 : Int64) (0 : Int64) (0 : Int32) (0 : Int64) kc h0 n0 Z0 P0 P1 P2 P3 P4 P5 P6 P7 P8 P9 P10 P11 P12 P13 P14 P15 P16 P17 (own_ltn (b := (1 : Int32)) (by decide) P18) (by decide : (0 : Int64) < ((0 : Int64) + (1 : Int64))) (own_ltE (b := (1 : Int32)) (by decide) P18) (by decide : ((0 : Int32) + (((0 : Int64) - (0 : Int64)).toInt32)) = (0 : Int32))) hZ (own_w hw 105 rfl) (own_w hw 14 rfl) (by decide) (by decide)) (g := (mkF m 22 #[rv pr0, rv pr1, iv 0, iv pi3, .val .null, .val (.int ((0 : Int32) + pi3)), iv 0, .unset, .unset, .unset] [(.int ((0 : Int32) + pi3)), (.int 0), (.ref pr1), (.ref pr0)])) rfl (by rw [hml]; rfl) (Steps.refl _) (a := pr0) (by rw [e1]; exact q2) q2' (argsL := [(.ref pr1), (.int 0), (.int ((0 : Int32) + pi3))]) (rest := []) (lenOf pd_25 rfl) rfl (by show 2 * 0 + _ ≤ _; exact Nat.le_of_eq rfl) (hb hby d24_22) (fun _ _ => ⟨rfl, e1, (by decide : 0 + 0 ≤ _), (by decide : 0 + 0 ≤ _)⟩)
  dsimp only [Pt.U, Pt.locs, Pt.cells, Pt.slots] at X2 l2 y2 z2 st2 hQ2
  subst l2 y2 z2
  obtain ⟨Nq2, y2_0, y2_1, rfl, Kc2, p2_0, p2_1, p2_2, p2_3, p2_4, p2_5, p2_6, p2_7, p2_8, p2_9, p2_10, p2_11⟩ := hQ2
  have N2 := Fr.app N0 Nq2
  have K2 : Keep h0 T2.heap ([pr0] : List Addr) := (Keep.refl h0 ([pr0] : List Addr)).trans Kc2 (allS (P := fun x => x ∈ ([pr0] : List Addr) ∨ h0.size ≤ x) (Or.inl (List.mem_of_getElem? (i := 0) rfl)) all0)
  have Z2 : n0 ≤ T2.heap.size := Nat.le_trans Z0 Kc2.1
  have f3 := (P0.keep Kc2 (allS (P := fun x => ∀ c, h0[x]? = some c → c.vm.isStatics = false) (own_nost P2) all0))
  have f4 : Arv Z T2.heap pr1 kc .char (8 : Int32) [(.int 120), (.int 120), (.int 120), (.int 120), (.int 120), (.int 120), (.int 120), (.int 120)] (.int 0) := (P15.keep Kc2 (ninS P16 nin0))
  obtain ⟨T5, h5, L5, ph2_5, X5, e5, N5, Kc5, Z5, p5_0, p5_1, p5_2, p5_3, p5_4, p5_5, p5_6, p5_7, p5_8, p5_9, p5_10, p5_11, st5⟩ := own_re0 pr0 pr1 pi3 ((0 : Int32) + pi3) (0 : Int32) ev ns sg phS phF phA phD co ct y2_1 wz (0 : Int64) y2_0 (0 : Int64) kc X2 hx hZ hw hby hml hown rfl N2 Z2 f3 P1 p2_0 p2_1 p2_2 p2_3 p2_4 p2_5 p2_6 p2_7 p2_8 p2_9 p2_10 P13 p2_11 f4 P16 P17 (by decide) (own_ltn (b := (1 : Int32)) (by decide) P18) (by decide : (0 : Int64) < ((0 : Int64) + (1 : Int64)))
  have K5 : Keep h0 h5 ([pr0] : List Addr) := K2.trans Kc5 (allS (P := fun x => x ∈ ([pr0] : List Addr) ∨ h0.size ≤ x) (Or.inl (List.mem_of_getElem? (i := 0) rfl)) all0)
  have go6 : ∀ t, own_S p e below (T5.setTop (mkF m 102 #[rv pr0, rv pr1, iv 0, iv pi3, .val .null, .val (.int ((0 : Int32) + pi3)), iv 0, iv 0, iv 120, rv co] [(.int 0)])) t → Steps p.tables e below st0 t := by
    intro t kt
    refine go0 t ?_
    refine XS.aloadN X0.here hx rfl (hb hby d24_0) rfl rfl ?_
    show own_S p e below (s₁.setTop (mkF m 1 #[rv pr0, rv pr1, iv 0, iv pi3, .val .null, .unset, .unset, .unset, .unset, .unset] [(.ref pr0)])) _
    refine st1 _ ?_
    show own_S p e below (T1.setTop (mkF m 4 #[rv pr0, rv pr1, iv 0, iv pi3, .val .null, .unset, .unset, .unset, .unset, .unset] [(.int 0)])) _
    refine XS.ifYes X1.here hx rfl (pc0 := 4) (pc' := 9) rfl (hb hby d24_4) rfl ((if0 _ _).trans (teq (by decide : (0 : Int32) = (0 : Int32))).1) (by decide) (by decide) ?_
    refine XS.iloadN X1.here hx rfl (hb hby d24_9) rfl ?_
    refine XS.iloadN X1.here hx rfl (hb hby d24_10) rfl ?_
    refine XS.iadd X1.here hx rfl (hb hby d24_11) rfl ?_
    show own_S p e below (T1.setTop (mkF m 12 #[rv pr0, rv pr1, iv 0, iv pi3, .val .null, .unset, .unset, .unset, .unset, .unset] [(.int ((0 : Int32) + pi3))])) _
    refine XS.istore X1.here hx rfl (hb hby d24_12) rfl (l' := #[rv pr0, rv pr1, iv 0, iv pi3, .val .null, .val (.int ((0 : Int32) + pi3)), .unset, .unset, .unset, .unset]) rfl ?_
    refine XS.iloadN X1.here hx rfl (hb hby d24_14) rfl ?_
    show own_S p e below (T1.setTop (mkF m 15 #[rv pr0, rv pr1, iv 0, iv pi3, .val .null, .val (.int ((0 : Int32) + pi3)), .unset, .unset, .unset, .unset] [(.int 0)])) _
    refine XS.istore X1.here hx rfl (hb hby d24_15) rfl (l' := #[rv pr0, rv pr1, iv 0, iv pi3, .val .null, .val (.int ((0 : Int32) + pi3)), iv 0, .unset, .unset, .unset]) rfl ?_
    refine XS.aloadN X1.here hx rfl (hb hby d24_17) rfl rfl ?_
    refine XS.aloadN X1.here hx rfl (hb hby d24_18) rfl rfl ?_
    refine XS.iloadN X1.here hx rfl (hb hby d24_19) rfl ?_
    show own_S p e below (T1.setTop (mkF m 20 #[rv pr0, rv pr1, iv 0, iv pi3, .val .null, .val (.int ((0 : Int32) + pi3)), iv 0, .unset, .unset, .unset] [(.int 0), (.ref pr1), (.ref pr0)])) _
    refine XS.iload X1.here hx rfl (hb hby d24_20) rfl ?_
    show own_S p e below (T1.setTop (mkF m 22 #[rv pr0, rv pr1, iv 0, iv pi3, .val .null, .val (.int ((0 : Int32) + pi3)), iv 0, .unset, .unset, .unset] [(.int ((0 : Int32) + pi3)), (.int 0), (.ref pr1), (.ref pr0)])) _
    refine st2.trans ?_
    show own_S p e below (T2.setTop (mkF m 25 #[rv pr0, rv pr1, iv 0, iv pi3, .val .null, .val (.int ((0 : Int32) + pi3)), iv 0, .unset, .unset, .unset] [(.int 0)])) _
    refine XS.istore X2.here hx rfl (hb hby d24_25) rfl (l' := #[rv pr0, rv pr1, iv 0, iv pi3, .val .null, .val (.int ((0 : Int32) + pi3)), iv 0, iv 0, .unset, .unset]) rfl ?_
    show own_S p e below (T2.setTop (mkF m 27 #[rv pr0, rv pr1, iv 0, iv pi3, .val .null, .val (.int ((0 : Int32) + pi3)), iv 0, iv 0, .unset, .unset] [])) _
    refine st5 _ ?_
    refine XS.iconst X5.here hx rfl (hb hby d24_101) ?_
    show own_S p e below (T5.setTop (mkF m 102 #[rv pr0, rv pr1, iv 0, iv pi3, .val .null, .val (.int ((0 : Int32) + pi3)), iv 0, iv 0, iv 120, rv co] [(.int 0)])) _
    exact kt
  obtain ⟨fs, hr, hrun, hended, hW, hsame⟩ := X5.leave (v := some (.int 0)) (fun h => by rw [Bd.returns] at h; cases h)
  refine ⟨_, _, go6 _ ?_, hrun, hended, _, _, rfl, ?_, ⟨_, rfl⟩, hW, hsame.mono (by decide) (by decide)⟩
  · exact retN X5 hx (t := .boolean) Bd.returns (by simp) (hb hby d24_102) hr
  · show Q_own_read00 Z pr0 pr1 pi3 ev ns sg phS phF phA phD co ct ph wz kc h0 n0 _ T5.heap _
    rw [e5]
    exact ⟨N5, y2_0, ((0 : Int64) + (1 : Int64)), ph2_5, rfl, K5, p5_0, p5_1, p5_2, p5_3, p5_4, p5_5, p5_6, p5_7, p5_8, p5_9, p5_10⟩
theorem ef_own_read10 (m : MethodId) (pr0 : Addr) (pr1 : Addr) (pi3 : Int32) : entryFrame m #[(.ref pr0), (.ref pr1), (.int 0), (.int pi3), .null] 10 = mkF m 0 #[rv pr0, rv pr1, iv 0, iv pi3, .val .null, .unset, .unset, .unset, .unset, .unset] [] := by first | (simp [entryFrame, mkF, argsToLocals, Value.category]; done) | rfl
def Q_own_read10 (Z : State) (pr0 : Addr) (pr1 : Addr) (pi3 : Int32) (ev : Addr) (ns : Addr) (sg : Addr) (phS : Addr) (phF : Addr) (phA : Addr) (phD : Addr) (co : Addr) (ct : Addr) (ph : Addr) (wz : Int32) (kc : ClassId) (h0 : Heap) (n0 : Nat) (v : Option Value) (h : Heap) (L : List Loc) : Prop := Fr n0 L ∧ ∃ (wl2 : Int64) (wc2 : Int64) (ph2 : Addr), v = some (.int 0) ∧ Keep h0 h ([pr0] : List Addr) ∧ Exa Z h pr0 own_s0 ∧ Fld Z h pr0 own_s0 "count" own_s1 (.ref ct) ∧ Fld Z h pr0 own_s0 own_s2 "Z" (.int wz) ∧ Fld Z h pr0 own_s0 "most" "J" (.long 1) ∧ Fld Z h pr0 own_s0 "length" "J" (.long wl2) ∧ Fld Z h pr0 own_s0 "past" "Z" (.int 1) ∧ Fld Z h pr0 own_s0 "over" "Z" (.int 1) ∧ Fld Z h pr0 own_s0 "counted" "J" (.long wc2) ∧ Fld Z h pr0 own_s0 "phase" own_s4 (.ref ph2) ∧ Fld Z h pr0 own_s0 "run" own_s5 .null ∧ Fld Z h pr0 own_s0 own_s3 "J" (.long 0)
set_option maxRecDepth 65536 in
set_option maxHeartbeats 40000000 in
theorem own_read10 (l : Launch) (Z : State) (a0 : Array Value) (hw : ∀ d ∈ tables_1, d.before a0 Z = true) (ws : List Jvm.Cond) (pr0 : Addr) (pr1 : Addr) (pi3 : Int32) (ev : Addr) (ns : Addr) (sg : Addr) (phS : Addr) (phF : Addr) (phA : Addr) (phD : Addr) (co : Addr) (ct : Addr) (ph : Addr) (wz : Int32) (kc : ClassId) (h0 : Heap) (n0 : Nat) (Z0 : n0 ≤ h0.size) (P0 : own_ST Z h0 ev ns sg phS phF phA phD co) (P1 : own_NN ev ns sg phS phF phA phD co) (P2 : Exa Z h0 pr0 own_s0) (P3 : Fld Z h0 pr0 own_s0 "count" own_s1 (.ref ct)) (P4 : Fld Z h0 pr0 own_s0 own_s2 "Z" (.int wz)) (P5 : Fld Z h0 pr0 own_s0 "most" "J" (.long 1)) (P6 : Fld Z h0 pr0 own_s0 "length" "J" (.long 0)) (P7 : Fld Z h0 pr0 own_s0 "past" "Z" (.int 0)) (P8 : Fld Z h0 pr0 own_s0 "over" "Z" (.int 0)) (P9 : Fld Z h0 pr0 own_s0 "counted" "J" (.long 0)) (P10 : Fld Z h0 pr0 own_s0 "phase" own_s4 (.ref ph)) (P11 : Fld Z h0 pr0 own_s0 "run" own_s5 .null) (P12 : Fld Z h0 pr0 own_s0 own_s3 "J" (.long 0)) (P13 : ct = ev ∨ ct = ns ∨ ct = sg) (P14 : ph = phS ∨ ph = phD) (P15 : Arv Z h0 pr1 kc .char (8 : Int32) [(.int 120), (.int 120), (.int 120), (.int 120), (.int 120), (.int 120), (.int 120), (.int 120)] (.int 0)) (P16 : pr1 ≠ pr0) (P17 : n0 ≤ pr0) (P18 : ¬ (pi3 < (3 : Int32))) :
    MetFree l (⟨own_s0, "read", own_s8⟩ : MethodName) (head1 (Jvm.Cond.code (⟨own_s0, "read", own_s8⟩ : MethodName) prog_127_method_6_code 10 (some .boolean) :: ws) ({ frames := 3, cells := 0, slots := 0, locals := 80 } : Room)) (fun a U => a = #[(.ref pr0), (.ref pr1), (.int 0), (.int pi3), .null] ∧ Z.Warmed39 U.vm ∧ U.heap = h0) (fun _ _ _ _ _ => True) (fun _ U o U' => ∃ v L, o = .returned v ∧ Q_own_read10 Z pr0 pr1 pi3 ev ns sg phS phF phA phD co ct ph wz kc h0 n0 v U'.heap L ∧ FrameEnd U o U' L ({ frames := 3, cells := 0, slots := 0, locals := 80 } : Room).cells ({ frames := 3, cells := 0, slots := 0, locals := 80 } : Room).slots) := by
  refine MetFree.of_bodySF (plainFor_of_name pn_8) hisR ?_
  intro p e s m args below meth c s₁ Bd hml0 hP hK
  obtain ⟨rfl, hZ, hh⟩ := hP
  have hx := Bd.exec
  have hby := Bd.bytes
  have hml : c.maxLocals = 10 := hml0
  have hown : s.vm.findClass own_s0 = some m.cls := findClass_of_methodNamed Bd.named
  have hnm := (name_of_methodNamed Bd.named Bd.method).1
  have X0 : Stand p l e ({ frames := 3, cells := 0, slots := 0, locals := 80 } : Room) s m #[(.ref pr0), (.ref pr1), (.int 0), (.int pi3), .null] below meth c s₁ [] 0 0 := Stand.of_body Bd
  have e0 : s₁.heap = h0 := by rw [← hh, Bd.state]; rfl
  have N0 := Fr.nil n0
  have go0 : ∀ t, own_S p e below (s₁.setTop (mkF m 0 #[rv pr0, rv pr1, iv 0, iv pi3, .val .null, .unset, .unset, .unset, .unset, .unset] [])) t → Steps p.tables e below (s₁.setTop (entryFrame m #[(.ref pr0), (.ref pr1), (.int 0), (.int pi3), .null] 10)) t := fun t k => castTop (ef_own_read10 m pr0 pr1 pi3) k
  revert go0
  generalize s₁.setTop (entryFrame m #[(.ref pr0), (.ref pr1), (.int 0), (.int pi3), .null] 10) = st0
  intro go0
  obtain ⟨T1, X1, e1, st1⟩ := getF X0 hx hZ hown (host := "") (Or.inl (own_w hw 70 rfl)) Via.refl e0 P8 (g := (mkF m 1 #[rv pr0, rv pr1, iv 0, iv pi3, .val .null, .unset, .unset, .unset, .unset, .unset] [(.ref pr0)])) rfl rfl (hb hby d24_1)
  obtain ⟨cq2, q2, q2'⟩ := P2.cell
  obtain ⟨_, _, ⟨T2, L2, k2, n2⟩, -, X2, ⟨Lc2, hQ2, l2, y2, z2⟩, st2⟩ := X1.privateBack hx (y := (⟨own_s0, "within", "([CII)I"⟩ : MethodName)) hown (mvT hZ (own_w hw 102 rfl)) (mvT hZ (own_w hw 103 rfl)) (Jvm.Kit.selects_private (by decide) (mvT hZ (own_w hw 13 rfl)) (mvP hZ (own_w hw 104 rfl)) (mvT hZ (own_w hw 103 rfl))) (Cond.privateMethod_at (mvP hZ (own_w hw 104 rfl) (args := #[]))) (mvT hZ (own_w hw 105 rfl)) (by decide) (backOf (W := 0) (own_within1 l Z a0 hw [] pr0 pr1 ((0 : Int32) + pi3) ev ns sg phS phF phA phD co ct ph wz (1 : Int64) (0 : Int64) (0 : Int32) (0 : Int64) kc h0 n0 Z0 P0 P1 P2 P3 P4 P5 P6 P7 P8 P9 P10 P11 P12 P13 P14 P15 P16 P17 (own_ltn (b := (3 : Int32)) (by decide) P18) (own_ltn (b := (3 : Int32)) (by decide) P18) (by decide : ¬ ((1 : Int64) < ((0 : Int64) + (1 : Int64)))) (by decide : (1 : Int64) < (((0 : Int64) + (1 : Int64)) + (1 : Int64))) (own_ltE (b := (3 : Int32)) (by decide) P18) (by decide : ((0 : Int32) + (((1 : Int64) - (0 : Int64)).toInt32)) = (1 : Int32))) hZ (own_w hw 105 rfl) (own_w hw 14 rfl) (by decide) (by decide)) (g := (mkF m 22 #[rv pr0, rv pr1, iv 0, iv pi3, .val .null, .val (.int ((0 : Int32) + pi3)), iv 0, .unset, .unset, .unset] [(.int ((0 : Int32) + pi3)), (.int 0), (.ref pr1), (.ref pr0)])) rfl (by rw [hml]; rfl) (Steps.refl _) (a := pr0) (by rw [e1]; exact q2) q2' (argsL := [(.ref pr1), (.int 0), (.int ((0 : Int32) + pi3))]) (rest := []) (lenOf pd_25 rfl) rfl (by show 2 * 0 + _ ≤ _; exact Nat.le_of_eq rfl) (hb hby d24_22) (fun _ _ => ⟨rfl, e1, (by decide : 0 + 0 ≤ _), (by decide : 0 + 0 ≤ _)⟩)
  dsimp only [Pt.U, Pt.locs, Pt.cells, Pt.slots] at X2 l2 y2 z2 st2 hQ2
  subst l2 y2 z2
  obtain ⟨Nq2, y2_0, y2_1, rfl, Kc2, p2_0, p2_1, p2_2, p2_3, p2_4, p2_5, p2_6, p2_7, p2_8, p2_9, p2_10, p2_11⟩ := hQ2
  have N2 := Fr.app N0 Nq2
  have K2 : Keep h0 T2.heap ([pr0] : List Addr) := (Keep.refl h0 ([pr0] : List Addr)).trans Kc2 (allS (P := fun x => x ∈ ([pr0] : List Addr) ∨ h0.size ≤ x) (Or.inl (List.mem_of_getElem? (i := 0) rfl)) all0)
  have Z2 : n0 ≤ T2.heap.size := Nat.le_trans Z0 Kc2.1
  have f3 := (P0.keep Kc2 (allS (P := fun x => ∀ c, h0[x]? = some c → c.vm.isStatics = false) (own_nost P2) all0))
  have f4 : Arv Z T2.heap pr1 kc .char (8 : Int32) [(.int 120), (.int 120), (.int 120), (.int 120), (.int 120), (.int 120), (.int 120), (.int 120)] (.int 0) := (P15.keep Kc2 (ninS P16 nin0))
  obtain ⟨T5, h5, L5, ph2_5, X5, e5, N5, Kc5, Z5, p5_0, p5_1, p5_2, p5_3, p5_4, p5_5, p5_6, p5_7, p5_8, p5_9, p5_10, p5_11, st5⟩ := own_rt0 pr0 pr1 pi3 ((0 : Int32) + pi3) (1 : Int32) ev ns sg phS phF phA phD co ct y2_1 wz (1 : Int64) y2_0 (0 : Int64) kc X2 hx hZ hw hby hml hown rfl N2 Z2 f3 P1 p2_0 p2_1 p2_2 p2_3 p2_4 p2_5 p2_6 p2_7 p2_8 p2_9 p2_10 P13 p2_11 f4 P16 P17 (by decide) (own_ltn (b := (3 : Int32)) (by decide) P18) (by decide : ¬ ((1 : Int64) < ((0 : Int64) + (1 : Int64))))
  have K5 : Keep h0 h5 ([pr0] : List Addr) := K2.trans Kc5 (allS (P := fun x => x ∈ ([pr0] : List Addr) ∨ h0.size ≤ x) (Or.inl (List.mem_of_getElem? (i := 0) rfl)) all0)
  have f6 := (f3.keep Kc5 (allS (P := fun x => ∀ c, T2.heap[x]? = some c → c.vm.isStatics = false) (own_nost p2_0) all0))
  have f7 : Arv Z h5 pr1 kc .char (8 : Int32) [(.int 120), (.int 120), (.int 120), (.int 120), (.int 120), (.int 120), (.int 120), (.int 120)] (.int 0) := (f4.keep Kc5 (ninS P16 nin0))
  obtain ⟨T8, h8, L8, ph2_8, X8, e8, N8, Kc8, Z8, p8_0, p8_1, p8_2, p8_3, p8_4, p8_5, p8_6, p8_7, p8_8, p8_9, p8_10, p8_11, st8⟩ := own_re1 pr0 pr1 pi3 ((0 : Int32) + pi3) (2 : Int32) ev ns sg phS phF phA phD co ct ph2_5 wz (1 : Int64) y2_0 ((0 : Int64) + (1 : Int64)) kc X5 hx hZ hw hby hml hown e5 N5 Z5 f6 P1 p5_0 p5_1 p5_2 p5_3 p5_4 p5_5 p5_6 p5_7 p5_8 p5_9 p5_10 P13 p5_11 f7 P16 P17 (by decide) (own_ltn (b := (3 : Int32)) (by decide) P18) (by decide : (1 : Int64) < (((0 : Int64) + (1 : Int64)) + (1 : Int64)))
  have K8 : Keep h0 h8 ([pr0] : List Addr) := K5.trans Kc8 (allS (P := fun x => x ∈ ([pr0] : List Addr) ∨ h0.size ≤ x) (Or.inl (List.mem_of_getElem? (i := 0) rfl)) all0)
  have go9 : ∀ t, own_S p e below (T8.setTop (mkF m 102 #[rv pr0, rv pr1, iv 0, iv pi3, .val .null, .val (.int ((0 : Int32) + pi3)), iv 0, iv 2, iv 120, rv co] [(.int 0)])) t → Steps p.tables e below st0 t := by
    intro t kt
    refine go0 t ?_
    refine XS.aloadN X0.here hx rfl (hb hby d24_0) rfl rfl ?_
    show own_S p e below (s₁.setTop (mkF m 1 #[rv pr0, rv pr1, iv 0, iv pi3, .val .null, .unset, .unset, .unset, .unset, .unset] [(.ref pr0)])) _
    refine st1 _ ?_
    show own_S p e below (T1.setTop (mkF m 4 #[rv pr0, rv pr1, iv 0, iv pi3, .val .null, .unset, .unset, .unset, .unset, .unset] [(.int 0)])) _
    refine XS.ifYes X1.here hx rfl (pc0 := 4) (pc' := 9) rfl (hb hby d24_4) rfl ((if0 _ _).trans (teq (by decide : (0 : Int32) = (0 : Int32))).1) (by decide) (by decide) ?_
    refine XS.iloadN X1.here hx rfl (hb hby d24_9) rfl ?_
    refine XS.iloadN X1.here hx rfl (hb hby d24_10) rfl ?_
    refine XS.iadd X1.here hx rfl (hb hby d24_11) rfl ?_
    show own_S p e below (T1.setTop (mkF m 12 #[rv pr0, rv pr1, iv 0, iv pi3, .val .null, .unset, .unset, .unset, .unset, .unset] [(.int ((0 : Int32) + pi3))])) _
    refine XS.istore X1.here hx rfl (hb hby d24_12) rfl (l' := #[rv pr0, rv pr1, iv 0, iv pi3, .val .null, .val (.int ((0 : Int32) + pi3)), .unset, .unset, .unset, .unset]) rfl ?_
    refine XS.iloadN X1.here hx rfl (hb hby d24_14) rfl ?_
    show own_S p e below (T1.setTop (mkF m 15 #[rv pr0, rv pr1, iv 0, iv pi3, .val .null, .val (.int ((0 : Int32) + pi3)), .unset, .unset, .unset, .unset] [(.int 0)])) _
    refine XS.istore X1.here hx rfl (hb hby d24_15) rfl (l' := #[rv pr0, rv pr1, iv 0, iv pi3, .val .null, .val (.int ((0 : Int32) + pi3)), iv 0, .unset, .unset, .unset]) rfl ?_
    refine XS.aloadN X1.here hx rfl (hb hby d24_17) rfl rfl ?_
    refine XS.aloadN X1.here hx rfl (hb hby d24_18) rfl rfl ?_
    refine XS.iloadN X1.here hx rfl (hb hby d24_19) rfl ?_
    show own_S p e below (T1.setTop (mkF m 20 #[rv pr0, rv pr1, iv 0, iv pi3, .val .null, .val (.int ((0 : Int32) + pi3)), iv 0, .unset, .unset, .unset] [(.int 0), (.ref pr1), (.ref pr0)])) _
    refine XS.iload X1.here hx rfl (hb hby d24_20) rfl ?_
    show own_S p e below (T1.setTop (mkF m 22 #[rv pr0, rv pr1, iv 0, iv pi3, .val .null, .val (.int ((0 : Int32) + pi3)), iv 0, .unset, .unset, .unset] [(.int ((0 : Int32) + pi3)), (.int 0), (.ref pr1), (.ref pr0)])) _
    refine st2.trans ?_
    show own_S p e below (T2.setTop (mkF m 25 #[rv pr0, rv pr1, iv 0, iv pi3, .val .null, .val (.int ((0 : Int32) + pi3)), iv 0, .unset, .unset, .unset] [(.int 1)])) _
    refine XS.istore X2.here hx rfl (hb hby d24_25) rfl (l' := #[rv pr0, rv pr1, iv 0, iv pi3, .val .null, .val (.int ((0 : Int32) + pi3)), iv 0, iv 1, .unset, .unset]) rfl ?_
    show own_S p e below (T2.setTop (mkF m 27 #[rv pr0, rv pr1, iv 0, iv pi3, .val .null, .val (.int ((0 : Int32) + pi3)), iv 0, iv 1, .unset, .unset] [])) _
    refine st5 _ ?_
    show own_S p e below (T5.setTop (mkF m 27 #[rv pr0, rv pr1, iv 0, iv pi3, .val .null, .val (.int ((0 : Int32) + pi3)), iv 0, iv 2, iv 120, rv co] [])) _
    refine st8 _ ?_
    refine XS.iconst X8.here hx rfl (hb hby d24_101) ?_
    show own_S p e below (T8.setTop (mkF m 102 #[rv pr0, rv pr1, iv 0, iv pi3, .val .null, .val (.int ((0 : Int32) + pi3)), iv 0, iv 2, iv 120, rv co] [(.int 0)])) _
    exact kt
  obtain ⟨fs, hr, hrun, hended, hW, hsame⟩ := X8.leave (v := some (.int 0)) (fun h => by rw [Bd.returns] at h; cases h)
  refine ⟨_, _, go9 _ ?_, hrun, hended, _, _, rfl, ?_, ⟨_, rfl⟩, hW, hsame.mono (by decide) (by decide)⟩
  · exact retN X8 hx (t := .boolean) Bd.returns (by simp) (hb hby d24_102) hr
  · show Q_own_read10 Z pr0 pr1 pi3 ev ns sg phS phF phA phD co ct ph wz kc h0 n0 _ T8.heap _
    rw [e8]
    exact ⟨N8, y2_0, (((0 : Int64) + (1 : Int64)) + (1 : Int64)), ph2_8, rfl, K8, p8_0, p8_1, p8_2, p8_3, p8_4, p8_5, p8_6, p8_7, p8_8, p8_9, p8_10⟩
theorem ef_own_read11 (m : MethodId) (pr0 : Addr) (pr1 : Addr) (pi3 : Int32) : entryFrame m #[(.ref pr0), (.ref pr1), (.int 0), (.int pi3), .null] 10 = mkF m 0 #[rv pr0, rv pr1, iv 0, iv pi3, .val .null, .unset, .unset, .unset, .unset, .unset] [] := by first | (simp [entryFrame, mkF, argsToLocals, Value.category]; done) | rfl
def Q_own_read11 (Z : State) (pr0 : Addr) (pr1 : Addr) (pi3 : Int32) (ev : Addr) (ns : Addr) (sg : Addr) (phS : Addr) (phF : Addr) (phA : Addr) (phD : Addr) (co : Addr) (ct : Addr) (ph : Addr) (wz : Int32) (kc : ClassId) (h0 : Heap) (n0 : Nat) (v : Option Value) (h : Heap) (L : List Loc) : Prop := Fr n0 L ∧ ∃ (wl2 : Int64) (wc2 : Int64) (ph2 : Addr), v = some (.int 0) ∧ Keep h0 h ([pr0] : List Addr) ∧ Exa Z h pr0 own_s0 ∧ Fld Z h pr0 own_s0 "count" own_s1 (.ref ct) ∧ Fld Z h pr0 own_s0 own_s2 "Z" (.int wz) ∧ Fld Z h pr0 own_s0 "most" "J" (.long 1) ∧ Fld Z h pr0 own_s0 "length" "J" (.long wl2) ∧ Fld Z h pr0 own_s0 "past" "Z" (.int 1) ∧ Fld Z h pr0 own_s0 "over" "Z" (.int 1) ∧ Fld Z h pr0 own_s0 "counted" "J" (.long wc2) ∧ Fld Z h pr0 own_s0 "phase" own_s4 (.ref ph2) ∧ Fld Z h pr0 own_s0 "run" own_s5 .null ∧ Fld Z h pr0 own_s0 own_s3 "J" (.long 0)
set_option maxRecDepth 65536 in
set_option maxHeartbeats 40000000 in
theorem own_read11 (l : Launch) (Z : State) (a0 : Array Value) (hw : ∀ d ∈ tables_1, d.before a0 Z = true) (ws : List Jvm.Cond) (pr0 : Addr) (pr1 : Addr) (pi3 : Int32) (ev : Addr) (ns : Addr) (sg : Addr) (phS : Addr) (phF : Addr) (phA : Addr) (phD : Addr) (co : Addr) (ct : Addr) (ph : Addr) (wz : Int32) (kc : ClassId) (h0 : Heap) (n0 : Nat) (Z0 : n0 ≤ h0.size) (P0 : own_ST Z h0 ev ns sg phS phF phA phD co) (P1 : own_NN ev ns sg phS phF phA phD co) (P2 : Exa Z h0 pr0 own_s0) (P3 : Fld Z h0 pr0 own_s0 "count" own_s1 (.ref ct)) (P4 : Fld Z h0 pr0 own_s0 own_s2 "Z" (.int wz)) (P5 : Fld Z h0 pr0 own_s0 "most" "J" (.long 1)) (P6 : Fld Z h0 pr0 own_s0 "length" "J" (.long 1)) (P7 : Fld Z h0 pr0 own_s0 "past" "Z" (.int 0)) (P8 : Fld Z h0 pr0 own_s0 "over" "Z" (.int 0)) (P9 : Fld Z h0 pr0 own_s0 "counted" "J" (.long 0)) (P10 : Fld Z h0 pr0 own_s0 "phase" own_s4 (.ref ph)) (P11 : Fld Z h0 pr0 own_s0 "run" own_s5 .null) (P12 : Fld Z h0 pr0 own_s0 own_s3 "J" (.long 0)) (P13 : ct = ev ∨ ct = ns ∨ ct = sg) (P14 : ph = phS ∨ ph = phD) (P15 : Arv Z h0 pr1 kc .char (8 : Int32) [(.int 120), (.int 120), (.int 120), (.int 120), (.int 120), (.int 120), (.int 120), (.int 120)] (.int 0)) (P16 : pr1 ≠ pr0) (P17 : n0 ≤ pr0) (P18 : ¬ (pi3 < (2 : Int32))) :
    MetFree l (⟨own_s0, "read", own_s8⟩ : MethodName) (head1 (Jvm.Cond.code (⟨own_s0, "read", own_s8⟩ : MethodName) prog_127_method_6_code 10 (some .boolean) :: ws) ({ frames := 3, cells := 0, slots := 0, locals := 80 } : Room)) (fun a U => a = #[(.ref pr0), (.ref pr1), (.int 0), (.int pi3), .null] ∧ Z.Warmed39 U.vm ∧ U.heap = h0) (fun _ _ _ _ _ => True) (fun _ U o U' => ∃ v L, o = .returned v ∧ Q_own_read11 Z pr0 pr1 pi3 ev ns sg phS phF phA phD co ct ph wz kc h0 n0 v U'.heap L ∧ FrameEnd U o U' L ({ frames := 3, cells := 0, slots := 0, locals := 80 } : Room).cells ({ frames := 3, cells := 0, slots := 0, locals := 80 } : Room).slots) := by
  refine MetFree.of_bodySF (plainFor_of_name pn_8) hisR ?_
  intro p e s m args below meth c s₁ Bd hml0 hP hK
  obtain ⟨rfl, hZ, hh⟩ := hP
  have hx := Bd.exec
  have hby := Bd.bytes
  have hml : c.maxLocals = 10 := hml0
  have hown : s.vm.findClass own_s0 = some m.cls := findClass_of_methodNamed Bd.named
  have hnm := (name_of_methodNamed Bd.named Bd.method).1
  have X0 : Stand p l e ({ frames := 3, cells := 0, slots := 0, locals := 80 } : Room) s m #[(.ref pr0), (.ref pr1), (.int 0), (.int pi3), .null] below meth c s₁ [] 0 0 := Stand.of_body Bd
  have e0 : s₁.heap = h0 := by rw [← hh, Bd.state]; rfl
  have N0 := Fr.nil n0
  have go0 : ∀ t, own_S p e below (s₁.setTop (mkF m 0 #[rv pr0, rv pr1, iv 0, iv pi3, .val .null, .unset, .unset, .unset, .unset, .unset] [])) t → Steps p.tables e below (s₁.setTop (entryFrame m #[(.ref pr0), (.ref pr1), (.int 0), (.int pi3), .null] 10)) t := fun t k => castTop (ef_own_read11 m pr0 pr1 pi3) k
  revert go0
  generalize s₁.setTop (entryFrame m #[(.ref pr0), (.ref pr1), (.int 0), (.int pi3), .null] 10) = st0
  intro go0
  obtain ⟨T1, X1, e1, st1⟩ := getF X0 hx hZ hown (host := "") (Or.inl (own_w hw 70 rfl)) Via.refl e0 P8 (g := (mkF m 1 #[rv pr0, rv pr1, iv 0, iv pi3, .val .null, .unset, .unset, .unset, .unset, .unset] [(.ref pr0)])) rfl rfl (hb hby d24_1)
  obtain ⟨cq2, q2, q2'⟩ := P2.cell
  obtain ⟨_, _, ⟨T2, L2, k2, n2⟩, -, X2, ⟨Lc2, hQ2, l2, y2, z2⟩, st2⟩ := X1.privateBack hx (y := (⟨own_s0, "within", "([CII)I"⟩ : MethodName)) hown (mvT hZ (own_w hw 102 rfl)) (mvT hZ (own_w hw 103 rfl)) (Jvm.Kit.selects_private (by decide) (mvT hZ (own_w hw 13 rfl)) (mvP hZ (own_w hw 104 rfl)) (mvT hZ (own_w hw 103 rfl))) (Cond.privateMethod_at (mvP hZ (own_w hw 104 rfl) (args := #[]))) (mvT hZ (own_w hw 105 rfl)) (by decide) (backOf (W := 0) (own_within0 l Z a0 hw [] pr0 pr1 ((0 : Int32) + pi3) ev ns sg phS phF phA phD co ct ph wz (1 : Int64) (1 : Int64) (0 : Int32) (0 : Int64) kc h0 n0 Z0 P0 P1 P2 P3 P4 P5 P6 P7 P8 P9 P10 P11 P12 P13 P14 P15 P16 P17 (own_ltn (b := (2 : Int32)) (by decide) P18) (by decide : (1 : Int64) < ((1 : Int64) + (1 : Int64))) (own_ltE (b := (2 : Int32)) (by decide) P18) (by decide : ((0 : Int32) + (((1 : Int64) - (1 : Int64)).toInt32)) = (0 : Int32))) hZ (own_w hw 105 rfl) (own_w hw 14 rfl) (by decide) (by decide)) (g := (mkF m 22 #[rv pr0, rv pr1, iv 0, iv pi3, .val .null, .val (.int ((0 : Int32) + pi3)), iv 0, .unset, .unset, .unset] [(.int ((0 : Int32) + pi3)), (.int 0), (.ref pr1), (.ref pr0)])) rfl (by rw [hml]; rfl) (Steps.refl _) (a := pr0) (by rw [e1]; exact q2) q2' (argsL := [(.ref pr1), (.int 0), (.int ((0 : Int32) + pi3))]) (rest := []) (lenOf pd_25 rfl) rfl (by show 2 * 0 + _ ≤ _; exact Nat.le_of_eq rfl) (hb hby d24_22) (fun _ _ => ⟨rfl, e1, (by decide : 0 + 0 ≤ _), (by decide : 0 + 0 ≤ _)⟩)
  dsimp only [Pt.U, Pt.locs, Pt.cells, Pt.slots] at X2 l2 y2 z2 st2 hQ2
  subst l2 y2 z2
  obtain ⟨Nq2, y2_0, y2_1, rfl, Kc2, p2_0, p2_1, p2_2, p2_3, p2_4, p2_5, p2_6, p2_7, p2_8, p2_9, p2_10, p2_11⟩ := hQ2
  have N2 := Fr.app N0 Nq2
  have K2 : Keep h0 T2.heap ([pr0] : List Addr) := (Keep.refl h0 ([pr0] : List Addr)).trans Kc2 (allS (P := fun x => x ∈ ([pr0] : List Addr) ∨ h0.size ≤ x) (Or.inl (List.mem_of_getElem? (i := 0) rfl)) all0)
  have Z2 : n0 ≤ T2.heap.size := Nat.le_trans Z0 Kc2.1
  have f3 := (P0.keep Kc2 (allS (P := fun x => ∀ c, h0[x]? = some c → c.vm.isStatics = false) (own_nost P2) all0))
  have f4 : Arv Z T2.heap pr1 kc .char (8 : Int32) [(.int 120), (.int 120), (.int 120), (.int 120), (.int 120), (.int 120), (.int 120), (.int 120)] (.int 0) := (P15.keep Kc2 (ninS P16 nin0))
  obtain ⟨T5, h5, L5, ph2_5, X5, e5, N5, Kc5, Z5, p5_0, p5_1, p5_2, p5_3, p5_4, p5_5, p5_6, p5_7, p5_8, p5_9, p5_10, p5_11, st5⟩ := own_rt0 pr0 pr1 pi3 ((0 : Int32) + pi3) (0 : Int32) ev ns sg phS phF phA phD co ct y2_1 wz (1 : Int64) y2_0 (0 : Int64) kc X2 hx hZ hw hby hml hown rfl N2 Z2 f3 P1 p2_0 p2_1 p2_2 p2_3 p2_4 p2_5 p2_6 p2_7 p2_8 p2_9 p2_10 P13 p2_11 f4 P16 P17 (by decide) (own_ltn (b := (2 : Int32)) (by decide) P18) (by decide : ¬ ((1 : Int64) < ((0 : Int64) + (1 : Int64))))
  have K5 : Keep h0 h5 ([pr0] : List Addr) := K2.trans Kc5 (allS (P := fun x => x ∈ ([pr0] : List Addr) ∨ h0.size ≤ x) (Or.inl (List.mem_of_getElem? (i := 0) rfl)) all0)
  have f6 := (f3.keep Kc5 (allS (P := fun x => ∀ c, T2.heap[x]? = some c → c.vm.isStatics = false) (own_nost p2_0) all0))
  have f7 : Arv Z h5 pr1 kc .char (8 : Int32) [(.int 120), (.int 120), (.int 120), (.int 120), (.int 120), (.int 120), (.int 120), (.int 120)] (.int 0) := (f4.keep Kc5 (ninS P16 nin0))
  obtain ⟨T8, h8, L8, ph2_8, X8, e8, N8, Kc8, Z8, p8_0, p8_1, p8_2, p8_3, p8_4, p8_5, p8_6, p8_7, p8_8, p8_9, p8_10, p8_11, st8⟩ := own_re1 pr0 pr1 pi3 ((0 : Int32) + pi3) (1 : Int32) ev ns sg phS phF phA phD co ct ph2_5 wz (1 : Int64) y2_0 ((0 : Int64) + (1 : Int64)) kc X5 hx hZ hw hby hml hown e5 N5 Z5 f6 P1 p5_0 p5_1 p5_2 p5_3 p5_4 p5_5 p5_6 p5_7 p5_8 p5_9 p5_10 P13 p5_11 f7 P16 P17 (by decide) (own_ltn (b := (2 : Int32)) (by decide) P18) (by decide : (1 : Int64) < (((0 : Int64) + (1 : Int64)) + (1 : Int64)))
  have K8 : Keep h0 h8 ([pr0] : List Addr) := K5.trans Kc8 (allS (P := fun x => x ∈ ([pr0] : List Addr) ∨ h0.size ≤ x) (Or.inl (List.mem_of_getElem? (i := 0) rfl)) all0)
  have go9 : ∀ t, own_S p e below (T8.setTop (mkF m 102 #[rv pr0, rv pr1, iv 0, iv pi3, .val .null, .val (.int ((0 : Int32) + pi3)), iv 0, iv 1, iv 120, rv co] [(.int 0)])) t → Steps p.tables e below st0 t := by
    intro t kt
    refine go0 t ?_
    refine XS.aloadN X0.here hx rfl (hb hby d24_0) rfl rfl ?_
    show own_S p e below (s₁.setTop (mkF m 1 #[rv pr0, rv pr1, iv 0, iv pi3, .val .null, .unset, .unset, .unset, .unset, .unset] [(.ref pr0)])) _
    refine st1 _ ?_
    show own_S p e below (T1.setTop (mkF m 4 #[rv pr0, rv pr1, iv 0, iv pi3, .val .null, .unset, .unset, .unset, .unset, .unset] [(.int 0)])) _
    refine XS.ifYes X1.here hx rfl (pc0 := 4) (pc' := 9) rfl (hb hby d24_4) rfl ((if0 _ _).trans (teq (by decide : (0 : Int32) = (0 : Int32))).1) (by decide) (by decide) ?_
    refine XS.iloadN X1.here hx rfl (hb hby d24_9) rfl ?_
    refine XS.iloadN X1.here hx rfl (hb hby d24_10) rfl ?_
    refine XS.iadd X1.here hx rfl (hb hby d24_11) rfl ?_
    show own_S p e below (T1.setTop (mkF m 12 #[rv pr0, rv pr1, iv 0, iv pi3, .val .null, .unset, .unset, .unset, .unset, .unset] [(.int ((0 : Int32) + pi3))])) _
    refine XS.istore X1.here hx rfl (hb hby d24_12) rfl (l' := #[rv pr0, rv pr1, iv 0, iv pi3, .val .null, .val (.int ((0 : Int32) + pi3)), .unset, .unset, .unset, .unset]) rfl ?_
    refine XS.iloadN X1.here hx rfl (hb hby d24_14) rfl ?_
    show own_S p e below (T1.setTop (mkF m 15 #[rv pr0, rv pr1, iv 0, iv pi3, .val .null, .val (.int ((0 : Int32) + pi3)), .unset, .unset, .unset, .unset] [(.int 0)])) _
    refine XS.istore X1.here hx rfl (hb hby d24_15) rfl (l' := #[rv pr0, rv pr1, iv 0, iv pi3, .val .null, .val (.int ((0 : Int32) + pi3)), iv 0, .unset, .unset, .unset]) rfl ?_
    refine XS.aloadN X1.here hx rfl (hb hby d24_17) rfl rfl ?_
    refine XS.aloadN X1.here hx rfl (hb hby d24_18) rfl rfl ?_
    refine XS.iloadN X1.here hx rfl (hb hby d24_19) rfl ?_
    show own_S p e below (T1.setTop (mkF m 20 #[rv pr0, rv pr1, iv 0, iv pi3, .val .null, .val (.int ((0 : Int32) + pi3)), iv 0, .unset, .unset, .unset] [(.int 0), (.ref pr1), (.ref pr0)])) _
    refine XS.iload X1.here hx rfl (hb hby d24_20) rfl ?_
    show own_S p e below (T1.setTop (mkF m 22 #[rv pr0, rv pr1, iv 0, iv pi3, .val .null, .val (.int ((0 : Int32) + pi3)), iv 0, .unset, .unset, .unset] [(.int ((0 : Int32) + pi3)), (.int 0), (.ref pr1), (.ref pr0)])) _
    refine st2.trans ?_
    show own_S p e below (T2.setTop (mkF m 25 #[rv pr0, rv pr1, iv 0, iv pi3, .val .null, .val (.int ((0 : Int32) + pi3)), iv 0, .unset, .unset, .unset] [(.int 0)])) _
    refine XS.istore X2.here hx rfl (hb hby d24_25) rfl (l' := #[rv pr0, rv pr1, iv 0, iv pi3, .val .null, .val (.int ((0 : Int32) + pi3)), iv 0, iv 0, .unset, .unset]) rfl ?_
    show own_S p e below (T2.setTop (mkF m 27 #[rv pr0, rv pr1, iv 0, iv pi3, .val .null, .val (.int ((0 : Int32) + pi3)), iv 0, iv 0, .unset, .unset] [])) _
    refine st5 _ ?_
    show own_S p e below (T5.setTop (mkF m 27 #[rv pr0, rv pr1, iv 0, iv pi3, .val .null, .val (.int ((0 : Int32) + pi3)), iv 0, iv 1, iv 120, rv co] [])) _
    refine st8 _ ?_
    refine XS.iconst X8.here hx rfl (hb hby d24_101) ?_
    show own_S p e below (T8.setTop (mkF m 102 #[rv pr0, rv pr1, iv 0, iv pi3, .val .null, .val (.int ((0 : Int32) + pi3)), iv 0, iv 1, iv 120, rv co] [(.int 0)])) _
    exact kt
  obtain ⟨fs, hr, hrun, hended, hW, hsame⟩ := X8.leave (v := some (.int 0)) (fun h => by rw [Bd.returns] at h; cases h)
  refine ⟨_, _, go9 _ ?_, hrun, hended, _, _, rfl, ?_, ⟨_, rfl⟩, hW, hsame.mono (by decide) (by decide)⟩
  · exact retN X8 hx (t := .boolean) Bd.returns (by simp) (hb hby d24_102) hr
  · show Q_own_read11 Z pr0 pr1 pi3 ev ns sg phS phF phA phD co ct ph wz kc h0 n0 _ T8.heap _
    rw [e8]
    exact ⟨N8, y2_0, (((0 : Int64) + (1 : Int64)) + (1 : Int64)), ph2_8, rfl, K8, p8_0, p8_1, p8_2, p8_3, p8_4, p8_5, p8_6, p8_7, p8_8, p8_9, p8_10⟩
theorem ef_own_read20 (m : MethodId) (pr0 : Addr) (pr1 : Addr) (pi3 : Int32) : entryFrame m #[(.ref pr0), (.ref pr1), (.int 0), (.int pi3), .null] 10 = mkF m 0 #[rv pr0, rv pr1, iv 0, iv pi3, .val .null, .unset, .unset, .unset, .unset, .unset] [] := by first | (simp [entryFrame, mkF, argsToLocals, Value.category]; done) | rfl
def Q_own_read20 (Z : State) (pr0 : Addr) (pr1 : Addr) (pi3 : Int32) (ev : Addr) (ns : Addr) (sg : Addr) (phS : Addr) (phF : Addr) (phA : Addr) (phD : Addr) (co : Addr) (ct : Addr) (ph : Addr) (wz : Int32) (kc : ClassId) (h0 : Heap) (n0 : Nat) (v : Option Value) (h : Heap) (L : List Loc) : Prop := Fr n0 L ∧ ∃ (wl2 : Int64) (wc2 : Int64) (ph2 : Addr), v = some (.int 0) ∧ Keep h0 h ([pr0] : List Addr) ∧ Exa Z h pr0 own_s0 ∧ Fld Z h pr0 own_s0 "count" own_s1 (.ref ct) ∧ Fld Z h pr0 own_s0 own_s2 "Z" (.int wz) ∧ Fld Z h pr0 own_s0 "most" "J" (.long 2) ∧ Fld Z h pr0 own_s0 "length" "J" (.long wl2) ∧ Fld Z h pr0 own_s0 "past" "Z" (.int 1) ∧ Fld Z h pr0 own_s0 "over" "Z" (.int 1) ∧ Fld Z h pr0 own_s0 "counted" "J" (.long wc2) ∧ Fld Z h pr0 own_s0 "phase" own_s4 (.ref ph2) ∧ Fld Z h pr0 own_s0 "run" own_s5 .null ∧ Fld Z h pr0 own_s0 own_s3 "J" (.long 0)
set_option maxRecDepth 65536 in
set_option maxHeartbeats 40000000 in
theorem own_read20 (l : Launch) (Z : State) (a0 : Array Value) (hw : ∀ d ∈ tables_1, d.before a0 Z = true) (ws : List Jvm.Cond) (pr0 : Addr) (pr1 : Addr) (pi3 : Int32) (ev : Addr) (ns : Addr) (sg : Addr) (phS : Addr) (phF : Addr) (phA : Addr) (phD : Addr) (co : Addr) (ct : Addr) (ph : Addr) (wz : Int32) (kc : ClassId) (h0 : Heap) (n0 : Nat) (Z0 : n0 ≤ h0.size) (P0 : own_ST Z h0 ev ns sg phS phF phA phD co) (P1 : own_NN ev ns sg phS phF phA phD co) (P2 : Exa Z h0 pr0 own_s0) (P3 : Fld Z h0 pr0 own_s0 "count" own_s1 (.ref ct)) (P4 : Fld Z h0 pr0 own_s0 own_s2 "Z" (.int wz)) (P5 : Fld Z h0 pr0 own_s0 "most" "J" (.long 2)) (P6 : Fld Z h0 pr0 own_s0 "length" "J" (.long 0)) (P7 : Fld Z h0 pr0 own_s0 "past" "Z" (.int 0)) (P8 : Fld Z h0 pr0 own_s0 "over" "Z" (.int 0)) (P9 : Fld Z h0 pr0 own_s0 "counted" "J" (.long 0)) (P10 : Fld Z h0 pr0 own_s0 "phase" own_s4 (.ref ph)) (P11 : Fld Z h0 pr0 own_s0 "run" own_s5 .null) (P12 : Fld Z h0 pr0 own_s0 own_s3 "J" (.long 0)) (P13 : ct = ev ∨ ct = ns ∨ ct = sg) (P14 : ph = phS ∨ ph = phD) (P15 : Arv Z h0 pr1 kc .char (8 : Int32) [(.int 120), (.int 120), (.int 120), (.int 120), (.int 120), (.int 120), (.int 120), (.int 120)] (.int 0)) (P16 : pr1 ≠ pr0) (P17 : n0 ≤ pr0) (P18 : ¬ (pi3 < (5 : Int32))) :
    MetFree l (⟨own_s0, "read", own_s8⟩ : MethodName) (head1 (Jvm.Cond.code (⟨own_s0, "read", own_s8⟩ : MethodName) prog_127_method_6_code 10 (some .boolean) :: ws) ({ frames := 3, cells := 0, slots := 0, locals := 80 } : Room)) (fun a U => a = #[(.ref pr0), (.ref pr1), (.int 0), (.int pi3), .null] ∧ Z.Warmed39 U.vm ∧ U.heap = h0) (fun _ _ _ _ _ => True) (fun _ U o U' => ∃ v L, o = .returned v ∧ Q_own_read20 Z pr0 pr1 pi3 ev ns sg phS phF phA phD co ct ph wz kc h0 n0 v U'.heap L ∧ FrameEnd U o U' L ({ frames := 3, cells := 0, slots := 0, locals := 80 } : Room).cells ({ frames := 3, cells := 0, slots := 0, locals := 80 } : Room).slots) := by
  refine MetFree.of_bodySF (plainFor_of_name pn_8) hisR ?_
  intro p e s m args below meth c s₁ Bd hml0 hP hK
  obtain ⟨rfl, hZ, hh⟩ := hP
  have hx := Bd.exec
  have hby := Bd.bytes
  have hml : c.maxLocals = 10 := hml0
  have hown : s.vm.findClass own_s0 = some m.cls := findClass_of_methodNamed Bd.named
  have hnm := (name_of_methodNamed Bd.named Bd.method).1
  have X0 : Stand p l e ({ frames := 3, cells := 0, slots := 0, locals := 80 } : Room) s m #[(.ref pr0), (.ref pr1), (.int 0), (.int pi3), .null] below meth c s₁ [] 0 0 := Stand.of_body Bd
  have e0 : s₁.heap = h0 := by rw [← hh, Bd.state]; rfl
  have N0 := Fr.nil n0
  have go0 : ∀ t, own_S p e below (s₁.setTop (mkF m 0 #[rv pr0, rv pr1, iv 0, iv pi3, .val .null, .unset, .unset, .unset, .unset, .unset] [])) t → Steps p.tables e below (s₁.setTop (entryFrame m #[(.ref pr0), (.ref pr1), (.int 0), (.int pi3), .null] 10)) t := fun t k => castTop (ef_own_read20 m pr0 pr1 pi3) k
  revert go0
  generalize s₁.setTop (entryFrame m #[(.ref pr0), (.ref pr1), (.int 0), (.int pi3), .null] 10) = st0
  intro go0
  obtain ⟨T1, X1, e1, st1⟩ := getF X0 hx hZ hown (host := "") (Or.inl (own_w hw 70 rfl)) Via.refl e0 P8 (g := (mkF m 1 #[rv pr0, rv pr1, iv 0, iv pi3, .val .null, .unset, .unset, .unset, .unset, .unset] [(.ref pr0)])) rfl rfl (hb hby d24_1)
  obtain ⟨cq2, q2, q2'⟩ := P2.cell
  obtain ⟨_, _, ⟨T2, L2, k2, n2⟩, -, X2, ⟨Lc2, hQ2, l2, y2, z2⟩, st2⟩ := X1.privateBack hx (y := (⟨own_s0, "within", "([CII)I"⟩ : MethodName)) hown (mvT hZ (own_w hw 102 rfl)) (mvT hZ (own_w hw 103 rfl)) (Jvm.Kit.selects_private (by decide) (mvT hZ (own_w hw 13 rfl)) (mvP hZ (own_w hw 104 rfl)) (mvT hZ (own_w hw 103 rfl))) (Cond.privateMethod_at (mvP hZ (own_w hw 104 rfl) (args := #[]))) (mvT hZ (own_w hw 105 rfl)) (by decide) (backOf (W := 0) (own_within2 l Z a0 hw [] pr0 pr1 ((0 : Int32) + pi3) ev ns sg phS phF phA phD co ct ph wz (2 : Int64) (0 : Int64) (0 : Int32) (0 : Int64) kc h0 n0 Z0 P0 P1 P2 P3 P4 P5 P6 P7 P8 P9 P10 P11 P12 P13 P14 P15 P16 P17 (own_ltn (b := (5 : Int32)) (by decide) P18) (own_ltn (b := (5 : Int32)) (by decide) P18) (own_ltn (b := (5 : Int32)) (by decide) P18) (by decide : ¬ ((2 : Int64) < ((0 : Int64) + (1 : Int64)))) (by decide : ¬ ((2 : Int64) < (((0 : Int64) + (1 : Int64)) + (1 : Int64)))) (by decide : (2 : Int64) < ((((0 : Int64) + (1 : Int64)) + (1 : Int64)) + (1 : Int64))) (own_ltE (b := (5 : Int32)) (by decide) P18) (by decide : ((0 : Int32) + (((2 : Int64) - (0 : Int64)).toInt32)) = (2 : Int32))) hZ (own_w hw 105 rfl) (own_w hw 14 rfl) (by decide) (by decide)) (g := (mkF m 22 #[rv pr0, rv pr1, iv 0, iv pi3, .val .null, .val (.int ((0 : Int32) + pi3)), iv 0, .unset, .unset, .unset] [(.int ((0 : Int32) + pi3)), (.int 0), (.ref pr1), (.ref pr0)])) rfl (by rw [hml]; rfl) (Steps.refl _) (a := pr0) (by rw [e1]; exact q2) q2' (argsL := [(.ref pr1), (.int 0), (.int ((0 : Int32) + pi3))]) (rest := []) (lenOf pd_25 rfl) rfl (by show 2 * 0 + _ ≤ _; exact Nat.le_of_eq rfl) (hb hby d24_22) (fun _ _ => ⟨rfl, e1, (by decide : 0 + 0 ≤ _), (by decide : 0 + 0 ≤ _)⟩)
  dsimp only [Pt.U, Pt.locs, Pt.cells, Pt.slots] at X2 l2 y2 z2 st2 hQ2
  subst l2 y2 z2
  obtain ⟨Nq2, y2_0, y2_1, rfl, Kc2, p2_0, p2_1, p2_2, p2_3, p2_4, p2_5, p2_6, p2_7, p2_8, p2_9, p2_10, p2_11⟩ := hQ2
  have N2 := Fr.app N0 Nq2
  have K2 : Keep h0 T2.heap ([pr0] : List Addr) := (Keep.refl h0 ([pr0] : List Addr)).trans Kc2 (allS (P := fun x => x ∈ ([pr0] : List Addr) ∨ h0.size ≤ x) (Or.inl (List.mem_of_getElem? (i := 0) rfl)) all0)
  have Z2 : n0 ≤ T2.heap.size := Nat.le_trans Z0 Kc2.1
  have f3 := (P0.keep Kc2 (allS (P := fun x => ∀ c, h0[x]? = some c → c.vm.isStatics = false) (own_nost P2) all0))
  have f4 : Arv Z T2.heap pr1 kc .char (8 : Int32) [(.int 120), (.int 120), (.int 120), (.int 120), (.int 120), (.int 120), (.int 120), (.int 120)] (.int 0) := (P15.keep Kc2 (ninS P16 nin0))
  obtain ⟨T5, h5, L5, ph2_5, X5, e5, N5, Kc5, Z5, p5_0, p5_1, p5_2, p5_3, p5_4, p5_5, p5_6, p5_7, p5_8, p5_9, p5_10, p5_11, st5⟩ := own_rt0 pr0 pr1 pi3 ((0 : Int32) + pi3) (2 : Int32) ev ns sg phS phF phA phD co ct y2_1 wz (2 : Int64) y2_0 (0 : Int64) kc X2 hx hZ hw hby hml hown rfl N2 Z2 f3 P1 p2_0 p2_1 p2_2 p2_3 p2_4 p2_5 p2_6 p2_7 p2_8 p2_9 p2_10 P13 p2_11 f4 P16 P17 (by decide) (own_ltn (b := (5 : Int32)) (by decide) P18) (by decide : ¬ ((2 : Int64) < ((0 : Int64) + (1 : Int64))))
  have K5 : Keep h0 h5 ([pr0] : List Addr) := K2.trans Kc5 (allS (P := fun x => x ∈ ([pr0] : List Addr) ∨ h0.size ≤ x) (Or.inl (List.mem_of_getElem? (i := 0) rfl)) all0)
  have f6 := (f3.keep Kc5 (allS (P := fun x => ∀ c, T2.heap[x]? = some c → c.vm.isStatics = false) (own_nost p2_0) all0))
  have f7 : Arv Z h5 pr1 kc .char (8 : Int32) [(.int 120), (.int 120), (.int 120), (.int 120), (.int 120), (.int 120), (.int 120), (.int 120)] (.int 0) := (f4.keep Kc5 (ninS P16 nin0))
  obtain ⟨T8, h8, L8, ph2_8, X8, e8, N8, Kc8, Z8, p8_0, p8_1, p8_2, p8_3, p8_4, p8_5, p8_6, p8_7, p8_8, p8_9, p8_10, p8_11, st8⟩ := own_rt1 pr0 pr1 pi3 ((0 : Int32) + pi3) (3 : Int32) ev ns sg phS phF phA phD co ct ph2_5 wz (2 : Int64) y2_0 ((0 : Int64) + (1 : Int64)) kc X5 hx hZ hw hby hml hown e5 N5 Z5 f6 P1 p5_0 p5_1 p5_2 p5_3 p5_4 p5_5 p5_6 p5_7 p5_8 p5_9 p5_10 P13 p5_11 f7 P16 P17 (by decide) (own_ltn (b := (5 : Int32)) (by decide) P18) (by decide : ¬ ((2 : Int64) < (((0 : Int64) + (1 : Int64)) + (1 : Int64))))
  have K8 : Keep h0 h8 ([pr0] : List Addr) := K5.trans Kc8 (allS (P := fun x => x ∈ ([pr0] : List Addr) ∨ h0.size ≤ x) (Or.inl (List.mem_of_getElem? (i := 0) rfl)) all0)
  have f9 := (f6.keep Kc8 (allS (P := fun x => ∀ c, h5[x]? = some c → c.vm.isStatics = false) (own_nost p5_0) all0))
  have f10 : Arv Z h8 pr1 kc .char (8 : Int32) [(.int 120), (.int 120), (.int 120), (.int 120), (.int 120), (.int 120), (.int 120), (.int 120)] (.int 0) := (f7.keep Kc8 (ninS P16 nin0))
  obtain ⟨T11, h11, L11, ph2_11, X11, e11, N11, Kc11, Z11, p11_0, p11_1, p11_2, p11_3, p11_4, p11_5, p11_6, p11_7, p11_8, p11_9, p11_10, p11_11, st11⟩ := own_re1 pr0 pr1 pi3 ((0 : Int32) + pi3) (4 : Int32) ev ns sg phS phF phA phD co ct ph2_8 wz (2 : Int64) y2_0 (((0 : Int64) + (1 : Int64)) + (1 : Int64)) kc X8 hx hZ hw hby hml hown e8 N8 Z8 f9 P1 p8_0 p8_1 p8_2 p8_3 p8_4 p8_5 p8_6 p8_7 p8_8 p8_9 p8_10 P13 p8_11 f10 P16 P17 (by decide) (own_ltn (b := (5 : Int32)) (by decide) P18) (by decide : (2 : Int64) < ((((0 : Int64) + (1 : Int64)) + (1 : Int64)) + (1 : Int64)))
  have K11 : Keep h0 h11 ([pr0] : List Addr) := K8.trans Kc11 (allS (P := fun x => x ∈ ([pr0] : List Addr) ∨ h0.size ≤ x) (Or.inl (List.mem_of_getElem? (i := 0) rfl)) all0)
  have go12 : ∀ t, own_S p e below (T11.setTop (mkF m 102 #[rv pr0, rv pr1, iv 0, iv pi3, .val .null, .val (.int ((0 : Int32) + pi3)), iv 0, iv 4, iv 120, rv co] [(.int 0)])) t → Steps p.tables e below st0 t := by
    intro t kt
    refine go0 t ?_
    refine XS.aloadN X0.here hx rfl (hb hby d24_0) rfl rfl ?_
    show own_S p e below (s₁.setTop (mkF m 1 #[rv pr0, rv pr1, iv 0, iv pi3, .val .null, .unset, .unset, .unset, .unset, .unset] [(.ref pr0)])) _
    refine st1 _ ?_
    show own_S p e below (T1.setTop (mkF m 4 #[rv pr0, rv pr1, iv 0, iv pi3, .val .null, .unset, .unset, .unset, .unset, .unset] [(.int 0)])) _
    refine XS.ifYes X1.here hx rfl (pc0 := 4) (pc' := 9) rfl (hb hby d24_4) rfl ((if0 _ _).trans (teq (by decide : (0 : Int32) = (0 : Int32))).1) (by decide) (by decide) ?_
    refine XS.iloadN X1.here hx rfl (hb hby d24_9) rfl ?_
    refine XS.iloadN X1.here hx rfl (hb hby d24_10) rfl ?_
    refine XS.iadd X1.here hx rfl (hb hby d24_11) rfl ?_
    show own_S p e below (T1.setTop (mkF m 12 #[rv pr0, rv pr1, iv 0, iv pi3, .val .null, .unset, .unset, .unset, .unset, .unset] [(.int ((0 : Int32) + pi3))])) _
    refine XS.istore X1.here hx rfl (hb hby d24_12) rfl (l' := #[rv pr0, rv pr1, iv 0, iv pi3, .val .null, .val (.int ((0 : Int32) + pi3)), .unset, .unset, .unset, .unset]) rfl ?_
    refine XS.iloadN X1.here hx rfl (hb hby d24_14) rfl ?_
    show own_S p e below (T1.setTop (mkF m 15 #[rv pr0, rv pr1, iv 0, iv pi3, .val .null, .val (.int ((0 : Int32) + pi3)), .unset, .unset, .unset, .unset] [(.int 0)])) _
    refine XS.istore X1.here hx rfl (hb hby d24_15) rfl (l' := #[rv pr0, rv pr1, iv 0, iv pi3, .val .null, .val (.int ((0 : Int32) + pi3)), iv 0, .unset, .unset, .unset]) rfl ?_
    refine XS.aloadN X1.here hx rfl (hb hby d24_17) rfl rfl ?_
    refine XS.aloadN X1.here hx rfl (hb hby d24_18) rfl rfl ?_
    refine XS.iloadN X1.here hx rfl (hb hby d24_19) rfl ?_
    show own_S p e below (T1.setTop (mkF m 20 #[rv pr0, rv pr1, iv 0, iv pi3, .val .null, .val (.int ((0 : Int32) + pi3)), iv 0, .unset, .unset, .unset] [(.int 0), (.ref pr1), (.ref pr0)])) _
    refine XS.iload X1.here hx rfl (hb hby d24_20) rfl ?_
    show own_S p e below (T1.setTop (mkF m 22 #[rv pr0, rv pr1, iv 0, iv pi3, .val .null, .val (.int ((0 : Int32) + pi3)), iv 0, .unset, .unset, .unset] [(.int ((0 : Int32) + pi3)), (.int 0), (.ref pr1), (.ref pr0)])) _
    refine st2.trans ?_
    show own_S p e below (T2.setTop (mkF m 25 #[rv pr0, rv pr1, iv 0, iv pi3, .val .null, .val (.int ((0 : Int32) + pi3)), iv 0, .unset, .unset, .unset] [(.int 2)])) _
    refine XS.istore X2.here hx rfl (hb hby d24_25) rfl (l' := #[rv pr0, rv pr1, iv 0, iv pi3, .val .null, .val (.int ((0 : Int32) + pi3)), iv 0, iv 2, .unset, .unset]) rfl ?_
    show own_S p e below (T2.setTop (mkF m 27 #[rv pr0, rv pr1, iv 0, iv pi3, .val .null, .val (.int ((0 : Int32) + pi3)), iv 0, iv 2, .unset, .unset] [])) _
    refine st5 _ ?_
    show own_S p e below (T5.setTop (mkF m 27 #[rv pr0, rv pr1, iv 0, iv pi3, .val .null, .val (.int ((0 : Int32) + pi3)), iv 0, iv 3, iv 120, rv co] [])) _
    refine st8 _ ?_
    show own_S p e below (T8.setTop (mkF m 27 #[rv pr0, rv pr1, iv 0, iv pi3, .val .null, .val (.int ((0 : Int32) + pi3)), iv 0, iv 4, iv 120, rv co] [])) _
    refine st11 _ ?_
    refine XS.iconst X11.here hx rfl (hb hby d24_101) ?_
    show own_S p e below (T11.setTop (mkF m 102 #[rv pr0, rv pr1, iv 0, iv pi3, .val .null, .val (.int ((0 : Int32) + pi3)), iv 0, iv 4, iv 120, rv co] [(.int 0)])) _
    exact kt
  obtain ⟨fs, hr, hrun, hended, hW, hsame⟩ := X11.leave (v := some (.int 0)) (fun h => by rw [Bd.returns] at h; cases h)
  refine ⟨_, _, go12 _ ?_, hrun, hended, _, _, rfl, ?_, ⟨_, rfl⟩, hW, hsame.mono (by decide) (by decide)⟩
  · exact retN X11 hx (t := .boolean) Bd.returns (by simp) (hb hby d24_102) hr
  · show Q_own_read20 Z pr0 pr1 pi3 ev ns sg phS phF phA phD co ct ph wz kc h0 n0 _ T11.heap _
    rw [e11]
    exact ⟨N11, y2_0, ((((0 : Int64) + (1 : Int64)) + (1 : Int64)) + (1 : Int64)), ph2_11, rfl, K11, p11_0, p11_1, p11_2, p11_3, p11_4, p11_5, p11_6, p11_7, p11_8, p11_9, p11_10⟩
theorem ef_own_read21 (m : MethodId) (pr0 : Addr) (pr1 : Addr) (pi3 : Int32) : entryFrame m #[(.ref pr0), (.ref pr1), (.int 0), (.int pi3), .null] 10 = mkF m 0 #[rv pr0, rv pr1, iv 0, iv pi3, .val .null, .unset, .unset, .unset, .unset, .unset] [] := by first | (simp [entryFrame, mkF, argsToLocals, Value.category]; done) | rfl
def Q_own_read21 (Z : State) (pr0 : Addr) (pr1 : Addr) (pi3 : Int32) (ev : Addr) (ns : Addr) (sg : Addr) (phS : Addr) (phF : Addr) (phA : Addr) (phD : Addr) (co : Addr) (ct : Addr) (ph : Addr) (wz : Int32) (kc : ClassId) (h0 : Heap) (n0 : Nat) (v : Option Value) (h : Heap) (L : List Loc) : Prop := Fr n0 L ∧ ∃ (wl2 : Int64) (wc2 : Int64) (ph2 : Addr), v = some (.int 0) ∧ Keep h0 h ([pr0] : List Addr) ∧ Exa Z h pr0 own_s0 ∧ Fld Z h pr0 own_s0 "count" own_s1 (.ref ct) ∧ Fld Z h pr0 own_s0 own_s2 "Z" (.int wz) ∧ Fld Z h pr0 own_s0 "most" "J" (.long 2) ∧ Fld Z h pr0 own_s0 "length" "J" (.long wl2) ∧ Fld Z h pr0 own_s0 "past" "Z" (.int 1) ∧ Fld Z h pr0 own_s0 "over" "Z" (.int 1) ∧ Fld Z h pr0 own_s0 "counted" "J" (.long wc2) ∧ Fld Z h pr0 own_s0 "phase" own_s4 (.ref ph2) ∧ Fld Z h pr0 own_s0 "run" own_s5 .null ∧ Fld Z h pr0 own_s0 own_s3 "J" (.long 0)
set_option maxRecDepth 65536 in
set_option maxHeartbeats 40000000 in
theorem own_read21 (l : Launch) (Z : State) (a0 : Array Value) (hw : ∀ d ∈ tables_1, d.before a0 Z = true) (ws : List Jvm.Cond) (pr0 : Addr) (pr1 : Addr) (pi3 : Int32) (ev : Addr) (ns : Addr) (sg : Addr) (phS : Addr) (phF : Addr) (phA : Addr) (phD : Addr) (co : Addr) (ct : Addr) (ph : Addr) (wz : Int32) (kc : ClassId) (h0 : Heap) (n0 : Nat) (Z0 : n0 ≤ h0.size) (P0 : own_ST Z h0 ev ns sg phS phF phA phD co) (P1 : own_NN ev ns sg phS phF phA phD co) (P2 : Exa Z h0 pr0 own_s0) (P3 : Fld Z h0 pr0 own_s0 "count" own_s1 (.ref ct)) (P4 : Fld Z h0 pr0 own_s0 own_s2 "Z" (.int wz)) (P5 : Fld Z h0 pr0 own_s0 "most" "J" (.long 2)) (P6 : Fld Z h0 pr0 own_s0 "length" "J" (.long 1)) (P7 : Fld Z h0 pr0 own_s0 "past" "Z" (.int 0)) (P8 : Fld Z h0 pr0 own_s0 "over" "Z" (.int 0)) (P9 : Fld Z h0 pr0 own_s0 "counted" "J" (.long 0)) (P10 : Fld Z h0 pr0 own_s0 "phase" own_s4 (.ref ph)) (P11 : Fld Z h0 pr0 own_s0 "run" own_s5 .null) (P12 : Fld Z h0 pr0 own_s0 own_s3 "J" (.long 0)) (P13 : ct = ev ∨ ct = ns ∨ ct = sg) (P14 : ph = phS ∨ ph = phD) (P15 : Arv Z h0 pr1 kc .char (8 : Int32) [(.int 120), (.int 120), (.int 120), (.int 120), (.int 120), (.int 120), (.int 120), (.int 120)] (.int 0)) (P16 : pr1 ≠ pr0) (P17 : n0 ≤ pr0) (P18 : ¬ (pi3 < (4 : Int32))) :
    MetFree l (⟨own_s0, "read", own_s8⟩ : MethodName) (head1 (Jvm.Cond.code (⟨own_s0, "read", own_s8⟩ : MethodName) prog_127_method_6_code 10 (some .boolean) :: ws) ({ frames := 3, cells := 0, slots := 0, locals := 80 } : Room)) (fun a U => a = #[(.ref pr0), (.ref pr1), (.int 0), (.int pi3), .null] ∧ Z.Warmed39 U.vm ∧ U.heap = h0) (fun _ _ _ _ _ => True) (fun _ U o U' => ∃ v L, o = .returned v ∧ Q_own_read21 Z pr0 pr1 pi3 ev ns sg phS phF phA phD co ct ph wz kc h0 n0 v U'.heap L ∧ FrameEnd U o U' L ({ frames := 3, cells := 0, slots := 0, locals := 80 } : Room).cells ({ frames := 3, cells := 0, slots := 0, locals := 80 } : Room).slots) := by
  refine MetFree.of_bodySF (plainFor_of_name pn_8) hisR ?_
  intro p e s m args below meth c s₁ Bd hml0 hP hK
  obtain ⟨rfl, hZ, hh⟩ := hP
  have hx := Bd.exec
  have hby := Bd.bytes
  have hml : c.maxLocals = 10 := hml0
  have hown : s.vm.findClass own_s0 = some m.cls := findClass_of_methodNamed Bd.named
  have hnm := (name_of_methodNamed Bd.named Bd.method).1
  have X0 : Stand p l e ({ frames := 3, cells := 0, slots := 0, locals := 80 } : Room) s m #[(.ref pr0), (.ref pr1), (.int 0), (.int pi3), .null] below meth c s₁ [] 0 0 := Stand.of_body Bd
  have e0 : s₁.heap = h0 := by rw [← hh, Bd.state]; rfl
  have N0 := Fr.nil n0
  have go0 : ∀ t, own_S p e below (s₁.setTop (mkF m 0 #[rv pr0, rv pr1, iv 0, iv pi3, .val .null, .unset, .unset, .unset, .unset, .unset] [])) t → Steps p.tables e below (s₁.setTop (entryFrame m #[(.ref pr0), (.ref pr1), (.int 0), (.int pi3), .null] 10)) t := fun t k => castTop (ef_own_read21 m pr0 pr1 pi3) k
  revert go0
  generalize s₁.setTop (entryFrame m #[(.ref pr0), (.ref pr1), (.int 0), (.int pi3), .null] 10) = st0
  intro go0
  obtain ⟨T1, X1, e1, st1⟩ := getF X0 hx hZ hown (host := "") (Or.inl (own_w hw 70 rfl)) Via.refl e0 P8 (g := (mkF m 1 #[rv pr0, rv pr1, iv 0, iv pi3, .val .null, .unset, .unset, .unset, .unset, .unset] [(.ref pr0)])) rfl rfl (hb hby d24_1)
  obtain ⟨cq2, q2, q2'⟩ := P2.cell
  obtain ⟨_, _, ⟨T2, L2, k2, n2⟩, -, X2, ⟨Lc2, hQ2, l2, y2, z2⟩, st2⟩ := X1.privateBack hx (y := (⟨own_s0, "within", "([CII)I"⟩ : MethodName)) hown (mvT hZ (own_w hw 102 rfl)) (mvT hZ (own_w hw 103 rfl)) (Jvm.Kit.selects_private (by decide) (mvT hZ (own_w hw 13 rfl)) (mvP hZ (own_w hw 104 rfl)) (mvT hZ (own_w hw 103 rfl))) (Cond.privateMethod_at (mvP hZ (own_w hw 104 rfl) (args := #[]))) (mvT hZ (own_w hw 105 rfl)) (by decide) (backOf (W := 0) (own_within1 l Z a0 hw [] pr0 pr1 ((0 : Int32) + pi3) ev ns sg phS phF phA phD co ct ph wz (2 : Int64) (1 : Int64) (0 : Int32) (0 : Int64) kc h0 n0 Z0 P0 P1 P2 P3 P4 P5 P6 P7 P8 P9 P10 P11 P12 P13 P14 P15 P16 P17 (own_ltn (b := (4 : Int32)) (by decide) P18) (own_ltn (b := (4 : Int32)) (by decide) P18) (by decide : ¬ ((2 : Int64) < ((1 : Int64) + (1 : Int64)))) (by decide : (2 : Int64) < (((1 : Int64) + (1 : Int64)) + (1 : Int64))) (own_ltE (b := (4 : Int32)) (by decide) P18) (by decide : ((0 : Int32) + (((2 : Int64) - (1 : Int64)).toInt32)) = (1 : Int32))) hZ (own_w hw 105 rfl) (own_w hw 14 rfl) (by decide) (by decide)) (g := (mkF m 22 #[rv pr0, rv pr1, iv 0, iv pi3, .val .null, .val (.int ((0 : Int32) + pi3)), iv 0, .unset, .unset, .unset] [(.int ((0 : Int32) + pi3)), (.int 0), (.ref pr1), (.ref pr0)])) rfl (by rw [hml]; rfl) (Steps.refl _) (a := pr0) (by rw [e1]; exact q2) q2' (argsL := [(.ref pr1), (.int 0), (.int ((0 : Int32) + pi3))]) (rest := []) (lenOf pd_25 rfl) rfl (by show 2 * 0 + _ ≤ _; exact Nat.le_of_eq rfl) (hb hby d24_22) (fun _ _ => ⟨rfl, e1, (by decide : 0 + 0 ≤ _), (by decide : 0 + 0 ≤ _)⟩)
  dsimp only [Pt.U, Pt.locs, Pt.cells, Pt.slots] at X2 l2 y2 z2 st2 hQ2
  subst l2 y2 z2
  obtain ⟨Nq2, y2_0, y2_1, rfl, Kc2, p2_0, p2_1, p2_2, p2_3, p2_4, p2_5, p2_6, p2_7, p2_8, p2_9, p2_10, p2_11⟩ := hQ2
  have N2 := Fr.app N0 Nq2
  have K2 : Keep h0 T2.heap ([pr0] : List Addr) := (Keep.refl h0 ([pr0] : List Addr)).trans Kc2 (allS (P := fun x => x ∈ ([pr0] : List Addr) ∨ h0.size ≤ x) (Or.inl (List.mem_of_getElem? (i := 0) rfl)) all0)
  have Z2 : n0 ≤ T2.heap.size := Nat.le_trans Z0 Kc2.1
  have f3 := (P0.keep Kc2 (allS (P := fun x => ∀ c, h0[x]? = some c → c.vm.isStatics = false) (own_nost P2) all0))
  have f4 : Arv Z T2.heap pr1 kc .char (8 : Int32) [(.int 120), (.int 120), (.int 120), (.int 120), (.int 120), (.int 120), (.int 120), (.int 120)] (.int 0) := (P15.keep Kc2 (ninS P16 nin0))
  obtain ⟨T5, h5, L5, ph2_5, X5, e5, N5, Kc5, Z5, p5_0, p5_1, p5_2, p5_3, p5_4, p5_5, p5_6, p5_7, p5_8, p5_9, p5_10, p5_11, st5⟩ := own_rt0 pr0 pr1 pi3 ((0 : Int32) + pi3) (1 : Int32) ev ns sg phS phF phA phD co ct y2_1 wz (2 : Int64) y2_0 (0 : Int64) kc X2 hx hZ hw hby hml hown rfl N2 Z2 f3 P1 p2_0 p2_1 p2_2 p2_3 p2_4 p2_5 p2_6 p2_7 p2_8 p2_9 p2_10 P13 p2_11 f4 P16 P17 (by decide) (own_ltn (b := (4 : Int32)) (by decide) P18) (by decide : ¬ ((2 : Int64) < ((0 : Int64) + (1 : Int64))))
  have K5 : Keep h0 h5 ([pr0] : List Addr) := K2.trans Kc5 (allS (P := fun x => x ∈ ([pr0] : List Addr) ∨ h0.size ≤ x) (Or.inl (List.mem_of_getElem? (i := 0) rfl)) all0)
  have f6 := (f3.keep Kc5 (allS (P := fun x => ∀ c, T2.heap[x]? = some c → c.vm.isStatics = false) (own_nost p2_0) all0))
  have f7 : Arv Z h5 pr1 kc .char (8 : Int32) [(.int 120), (.int 120), (.int 120), (.int 120), (.int 120), (.int 120), (.int 120), (.int 120)] (.int 0) := (f4.keep Kc5 (ninS P16 nin0))
  obtain ⟨T8, h8, L8, ph2_8, X8, e8, N8, Kc8, Z8, p8_0, p8_1, p8_2, p8_3, p8_4, p8_5, p8_6, p8_7, p8_8, p8_9, p8_10, p8_11, st8⟩ := own_rt1 pr0 pr1 pi3 ((0 : Int32) + pi3) (2 : Int32) ev ns sg phS phF phA phD co ct ph2_5 wz (2 : Int64) y2_0 ((0 : Int64) + (1 : Int64)) kc X5 hx hZ hw hby hml hown e5 N5 Z5 f6 P1 p5_0 p5_1 p5_2 p5_3 p5_4 p5_5 p5_6 p5_7 p5_8 p5_9 p5_10 P13 p5_11 f7 P16 P17 (by decide) (own_ltn (b := (4 : Int32)) (by decide) P18) (by decide : ¬ ((2 : Int64) < (((0 : Int64) + (1 : Int64)) + (1 : Int64))))
  have K8 : Keep h0 h8 ([pr0] : List Addr) := K5.trans Kc8 (allS (P := fun x => x ∈ ([pr0] : List Addr) ∨ h0.size ≤ x) (Or.inl (List.mem_of_getElem? (i := 0) rfl)) all0)
  have f9 := (f6.keep Kc8 (allS (P := fun x => ∀ c, h5[x]? = some c → c.vm.isStatics = false) (own_nost p5_0) all0))
  have f10 : Arv Z h8 pr1 kc .char (8 : Int32) [(.int 120), (.int 120), (.int 120), (.int 120), (.int 120), (.int 120), (.int 120), (.int 120)] (.int 0) := (f7.keep Kc8 (ninS P16 nin0))
  obtain ⟨T11, h11, L11, ph2_11, X11, e11, N11, Kc11, Z11, p11_0, p11_1, p11_2, p11_3, p11_4, p11_5, p11_6, p11_7, p11_8, p11_9, p11_10, p11_11, st11⟩ := own_re1 pr0 pr1 pi3 ((0 : Int32) + pi3) (3 : Int32) ev ns sg phS phF phA phD co ct ph2_8 wz (2 : Int64) y2_0 (((0 : Int64) + (1 : Int64)) + (1 : Int64)) kc X8 hx hZ hw hby hml hown e8 N8 Z8 f9 P1 p8_0 p8_1 p8_2 p8_3 p8_4 p8_5 p8_6 p8_7 p8_8 p8_9 p8_10 P13 p8_11 f10 P16 P17 (by decide) (own_ltn (b := (4 : Int32)) (by decide) P18) (by decide : (2 : Int64) < ((((0 : Int64) + (1 : Int64)) + (1 : Int64)) + (1 : Int64)))
  have K11 : Keep h0 h11 ([pr0] : List Addr) := K8.trans Kc11 (allS (P := fun x => x ∈ ([pr0] : List Addr) ∨ h0.size ≤ x) (Or.inl (List.mem_of_getElem? (i := 0) rfl)) all0)
  have go12 : ∀ t, own_S p e below (T11.setTop (mkF m 102 #[rv pr0, rv pr1, iv 0, iv pi3, .val .null, .val (.int ((0 : Int32) + pi3)), iv 0, iv 3, iv 120, rv co] [(.int 0)])) t → Steps p.tables e below st0 t := by
    intro t kt
    refine go0 t ?_
    refine XS.aloadN X0.here hx rfl (hb hby d24_0) rfl rfl ?_
    show own_S p e below (s₁.setTop (mkF m 1 #[rv pr0, rv pr1, iv 0, iv pi3, .val .null, .unset, .unset, .unset, .unset, .unset] [(.ref pr0)])) _
    refine st1 _ ?_
    show own_S p e below (T1.setTop (mkF m 4 #[rv pr0, rv pr1, iv 0, iv pi3, .val .null, .unset, .unset, .unset, .unset, .unset] [(.int 0)])) _
    refine XS.ifYes X1.here hx rfl (pc0 := 4) (pc' := 9) rfl (hb hby d24_4) rfl ((if0 _ _).trans (teq (by decide : (0 : Int32) = (0 : Int32))).1) (by decide) (by decide) ?_
    refine XS.iloadN X1.here hx rfl (hb hby d24_9) rfl ?_
    refine XS.iloadN X1.here hx rfl (hb hby d24_10) rfl ?_
    refine XS.iadd X1.here hx rfl (hb hby d24_11) rfl ?_
    show own_S p e below (T1.setTop (mkF m 12 #[rv pr0, rv pr1, iv 0, iv pi3, .val .null, .unset, .unset, .unset, .unset, .unset] [(.int ((0 : Int32) + pi3))])) _
    refine XS.istore X1.here hx rfl (hb hby d24_12) rfl (l' := #[rv pr0, rv pr1, iv 0, iv pi3, .val .null, .val (.int ((0 : Int32) + pi3)), .unset, .unset, .unset, .unset]) rfl ?_
    refine XS.iloadN X1.here hx rfl (hb hby d24_14) rfl ?_
    show own_S p e below (T1.setTop (mkF m 15 #[rv pr0, rv pr1, iv 0, iv pi3, .val .null, .val (.int ((0 : Int32) + pi3)), .unset, .unset, .unset, .unset] [(.int 0)])) _
    refine XS.istore X1.here hx rfl (hb hby d24_15) rfl (l' := #[rv pr0, rv pr1, iv 0, iv pi3, .val .null, .val (.int ((0 : Int32) + pi3)), iv 0, .unset, .unset, .unset]) rfl ?_
    refine XS.aloadN X1.here hx rfl (hb hby d24_17) rfl rfl ?_
    refine XS.aloadN X1.here hx rfl (hb hby d24_18) rfl rfl ?_
    refine XS.iloadN X1.here hx rfl (hb hby d24_19) rfl ?_
    show own_S p e below (T1.setTop (mkF m 20 #[rv pr0, rv pr1, iv 0, iv pi3, .val .null, .val (.int ((0 : Int32) + pi3)), iv 0, .unset, .unset, .unset] [(.int 0), (.ref pr1), (.ref pr0)])) _
    refine XS.iload X1.here hx rfl (hb hby d24_20) rfl ?_
    show own_S p e below (T1.setTop (mkF m 22 #[rv pr0, rv pr1, iv 0, iv pi3, .val .null, .val (.int ((0 : Int32) + pi3)), iv 0, .unset, .unset, .unset] [(.int ((0 : Int32) + pi3)), (.int 0), (.ref pr1), (.ref pr0)])) _
    refine st2.trans ?_
    show own_S p e below (T2.setTop (mkF m 25 #[rv pr0, rv pr1, iv 0, iv pi3, .val .null, .val (.int ((0 : Int32) + pi3)), iv 0, .unset, .unset, .unset] [(.int 1)])) _
    refine XS.istore X2.here hx rfl (hb hby d24_25) rfl (l' := #[rv pr0, rv pr1, iv 0, iv pi3, .val .null, .val (.int ((0 : Int32) + pi3)), iv 0, iv 1, .unset, .unset]) rfl ?_
    show own_S p e below (T2.setTop (mkF m 27 #[rv pr0, rv pr1, iv 0, iv pi3, .val .null, .val (.int ((0 : Int32) + pi3)), iv 0, iv 1, .unset, .unset] [])) _
    refine st5 _ ?_
    show own_S p e below (T5.setTop (mkF m 27 #[rv pr0, rv pr1, iv 0, iv pi3, .val .null, .val (.int ((0 : Int32) + pi3)), iv 0, iv 2, iv 120, rv co] [])) _
    refine st8 _ ?_
    show own_S p e below (T8.setTop (mkF m 27 #[rv pr0, rv pr1, iv 0, iv pi3, .val .null, .val (.int ((0 : Int32) + pi3)), iv 0, iv 3, iv 120, rv co] [])) _
    refine st11 _ ?_
    refine XS.iconst X11.here hx rfl (hb hby d24_101) ?_
    show own_S p e below (T11.setTop (mkF m 102 #[rv pr0, rv pr1, iv 0, iv pi3, .val .null, .val (.int ((0 : Int32) + pi3)), iv 0, iv 3, iv 120, rv co] [(.int 0)])) _
    exact kt
  obtain ⟨fs, hr, hrun, hended, hW, hsame⟩ := X11.leave (v := some (.int 0)) (fun h => by rw [Bd.returns] at h; cases h)
  refine ⟨_, _, go12 _ ?_, hrun, hended, _, _, rfl, ?_, ⟨_, rfl⟩, hW, hsame.mono (by decide) (by decide)⟩
  · exact retN X11 hx (t := .boolean) Bd.returns (by simp) (hb hby d24_102) hr
  · show Q_own_read21 Z pr0 pr1 pi3 ev ns sg phS phF phA phD co ct ph wz kc h0 n0 _ T11.heap _
    rw [e11]
    exact ⟨N11, y2_0, ((((0 : Int64) + (1 : Int64)) + (1 : Int64)) + (1 : Int64)), ph2_11, rfl, K11, p11_0, p11_1, p11_2, p11_3, p11_4, p11_5, p11_6, p11_7, p11_8, p11_9, p11_10⟩
theorem ef_own_read22 (m : MethodId) (pr0 : Addr) (pr1 : Addr) (pi3 : Int32) : entryFrame m #[(.ref pr0), (.ref pr1), (.int 0), (.int pi3), .null] 10 = mkF m 0 #[rv pr0, rv pr1, iv 0, iv pi3, .val .null, .unset, .unset, .unset, .unset, .unset] [] := by first | (simp [entryFrame, mkF, argsToLocals, Value.category]; done) | rfl
def Q_own_read22 (Z : State) (pr0 : Addr) (pr1 : Addr) (pi3 : Int32) (ev : Addr) (ns : Addr) (sg : Addr) (phS : Addr) (phF : Addr) (phA : Addr) (phD : Addr) (co : Addr) (ct : Addr) (ph : Addr) (wz : Int32) (kc : ClassId) (h0 : Heap) (n0 : Nat) (v : Option Value) (h : Heap) (L : List Loc) : Prop := Fr n0 L ∧ ∃ (wl2 : Int64) (wc2 : Int64) (ph2 : Addr), v = some (.int 0) ∧ Keep h0 h ([pr0] : List Addr) ∧ Exa Z h pr0 own_s0 ∧ Fld Z h pr0 own_s0 "count" own_s1 (.ref ct) ∧ Fld Z h pr0 own_s0 own_s2 "Z" (.int wz) ∧ Fld Z h pr0 own_s0 "most" "J" (.long 2) ∧ Fld Z h pr0 own_s0 "length" "J" (.long wl2) ∧ Fld Z h pr0 own_s0 "past" "Z" (.int 1) ∧ Fld Z h pr0 own_s0 "over" "Z" (.int 1) ∧ Fld Z h pr0 own_s0 "counted" "J" (.long wc2) ∧ Fld Z h pr0 own_s0 "phase" own_s4 (.ref ph2) ∧ Fld Z h pr0 own_s0 "run" own_s5 .null ∧ Fld Z h pr0 own_s0 own_s3 "J" (.long 0)
set_option maxRecDepth 65536 in
set_option maxHeartbeats 40000000 in
theorem own_read22 (l : Launch) (Z : State) (a0 : Array Value) (hw : ∀ d ∈ tables_1, d.before a0 Z = true) (ws : List Jvm.Cond) (pr0 : Addr) (pr1 : Addr) (pi3 : Int32) (ev : Addr) (ns : Addr) (sg : Addr) (phS : Addr) (phF : Addr) (phA : Addr) (phD : Addr) (co : Addr) (ct : Addr) (ph : Addr) (wz : Int32) (kc : ClassId) (h0 : Heap) (n0 : Nat) (Z0 : n0 ≤ h0.size) (P0 : own_ST Z h0 ev ns sg phS phF phA phD co) (P1 : own_NN ev ns sg phS phF phA phD co) (P2 : Exa Z h0 pr0 own_s0) (P3 : Fld Z h0 pr0 own_s0 "count" own_s1 (.ref ct)) (P4 : Fld Z h0 pr0 own_s0 own_s2 "Z" (.int wz)) (P5 : Fld Z h0 pr0 own_s0 "most" "J" (.long 2)) (P6 : Fld Z h0 pr0 own_s0 "length" "J" (.long 2)) (P7 : Fld Z h0 pr0 own_s0 "past" "Z" (.int 0)) (P8 : Fld Z h0 pr0 own_s0 "over" "Z" (.int 0)) (P9 : Fld Z h0 pr0 own_s0 "counted" "J" (.long 0)) (P10 : Fld Z h0 pr0 own_s0 "phase" own_s4 (.ref ph)) (P11 : Fld Z h0 pr0 own_s0 "run" own_s5 .null) (P12 : Fld Z h0 pr0 own_s0 own_s3 "J" (.long 0)) (P13 : ct = ev ∨ ct = ns ∨ ct = sg) (P14 : ph = phS ∨ ph = phD) (P15 : Arv Z h0 pr1 kc .char (8 : Int32) [(.int 120), (.int 120), (.int 120), (.int 120), (.int 120), (.int 120), (.int 120), (.int 120)] (.int 0)) (P16 : pr1 ≠ pr0) (P17 : n0 ≤ pr0) (P18 : ¬ (pi3 < (3 : Int32))) :
    MetFree l (⟨own_s0, "read", own_s8⟩ : MethodName) (head1 (Jvm.Cond.code (⟨own_s0, "read", own_s8⟩ : MethodName) prog_127_method_6_code 10 (some .boolean) :: ws) ({ frames := 3, cells := 0, slots := 0, locals := 80 } : Room)) (fun a U => a = #[(.ref pr0), (.ref pr1), (.int 0), (.int pi3), .null] ∧ Z.Warmed39 U.vm ∧ U.heap = h0) (fun _ _ _ _ _ => True) (fun _ U o U' => ∃ v L, o = .returned v ∧ Q_own_read22 Z pr0 pr1 pi3 ev ns sg phS phF phA phD co ct ph wz kc h0 n0 v U'.heap L ∧ FrameEnd U o U' L ({ frames := 3, cells := 0, slots := 0, locals := 80 } : Room).cells ({ frames := 3, cells := 0, slots := 0, locals := 80 } : Room).slots) := by
  refine MetFree.of_bodySF (plainFor_of_name pn_8) hisR ?_
  intro p e s m args below meth c s₁ Bd hml0 hP hK
  obtain ⟨rfl, hZ, hh⟩ := hP
  have hx := Bd.exec
  have hby := Bd.bytes
  have hml : c.maxLocals = 10 := hml0
  have hown : s.vm.findClass own_s0 = some m.cls := findClass_of_methodNamed Bd.named
  have hnm := (name_of_methodNamed Bd.named Bd.method).1
  have X0 : Stand p l e ({ frames := 3, cells := 0, slots := 0, locals := 80 } : Room) s m #[(.ref pr0), (.ref pr1), (.int 0), (.int pi3), .null] below meth c s₁ [] 0 0 := Stand.of_body Bd
  have e0 : s₁.heap = h0 := by rw [← hh, Bd.state]; rfl
  have N0 := Fr.nil n0
  have go0 : ∀ t, own_S p e below (s₁.setTop (mkF m 0 #[rv pr0, rv pr1, iv 0, iv pi3, .val .null, .unset, .unset, .unset, .unset, .unset] [])) t → Steps p.tables e below (s₁.setTop (entryFrame m #[(.ref pr0), (.ref pr1), (.int 0), (.int pi3), .null] 10)) t := fun t k => castTop (ef_own_read22 m pr0 pr1 pi3) k
  revert go0
  generalize s₁.setTop (entryFrame m #[(.ref pr0), (.ref pr1), (.int 0), (.int pi3), .null] 10) = st0
  intro go0
  obtain ⟨T1, X1, e1, st1⟩ := getF X0 hx hZ hown (host := "") (Or.inl (own_w hw 70 rfl)) Via.refl e0 P8 (g := (mkF m 1 #[rv pr0, rv pr1, iv 0, iv pi3, .val .null, .unset, .unset, .unset, .unset, .unset] [(.ref pr0)])) rfl rfl (hb hby d24_1)
  obtain ⟨cq2, q2, q2'⟩ := P2.cell
  obtain ⟨_, _, ⟨T2, L2, k2, n2⟩, -, X2, ⟨Lc2, hQ2, l2, y2, z2⟩, st2⟩ := X1.privateBack hx (y := (⟨own_s0, "within", "([CII)I"⟩ : MethodName)) hown (mvT hZ (own_w hw 102 rfl)) (mvT hZ (own_w hw 103 rfl)) (Jvm.Kit.selects_private (by decide) (mvT hZ (own_w hw 13 rfl)) (mvP hZ (own_w hw 104 rfl)) (mvT hZ (own_w hw 103 rfl))) (Cond.privateMethod_at (mvP hZ (own_w hw 104 rfl) (args := #[]))) (mvT hZ (own_w hw 105 rfl)) (by decide) (backOf (W := 0) (own_within0 l Z a0 hw [] pr0 pr1 ((0 : Int32) + pi3) ev ns sg phS phF phA phD co ct ph wz (2 : Int64) (2 : Int64) (0 : Int32) (0 : Int64) kc h0 n0 Z0 P0 P1 P2 P3 P4 P5 P6 P7 P8 P9 P10 P11 P12 P13 P14 P15 P16 P17 (own_ltn (b := (3 : Int32)) (by decide) P18) (by decide : (2 : Int64) < ((2 : Int64) + (1 : Int64))) (own_ltE (b := (3 : Int32)) (by decide) P18) (by decide : ((0 : Int32) + (((2 : Int64) - (2 : Int64)).toInt32)) = (0 : Int32))) hZ (own_w hw 105 rfl) (own_w hw 14 rfl) (by decide) (by decide)) (g := (mkF m 22 #[rv pr0, rv pr1, iv 0, iv pi3, .val .null, .val (.int ((0 : Int32) + pi3)), iv 0, .unset, .unset, .unset] [(.int ((0 : Int32) + pi3)), (.int 0), (.ref pr1), (.ref pr0)])) rfl (by rw [hml]; rfl) (Steps.refl _) (a := pr0) (by rw [e1]; exact q2) q2' (argsL := [(.ref pr1), (.int 0), (.int ((0 : Int32) + pi3))]) (rest := []) (lenOf pd_25 rfl) rfl (by show 2 * 0 + _ ≤ _; exact Nat.le_of_eq rfl) (hb hby d24_22) (fun _ _ => ⟨rfl, e1, (by decide : 0 + 0 ≤ _), (by decide : 0 + 0 ≤ _)⟩)
  dsimp only [Pt.U, Pt.locs, Pt.cells, Pt.slots] at X2 l2 y2 z2 st2 hQ2
  subst l2 y2 z2
  obtain ⟨Nq2, y2_0, y2_1, rfl, Kc2, p2_0, p2_1, p2_2, p2_3, p2_4, p2_5, p2_6, p2_7, p2_8, p2_9, p2_10, p2_11⟩ := hQ2
  have N2 := Fr.app N0 Nq2
  have K2 : Keep h0 T2.heap ([pr0] : List Addr) := (Keep.refl h0 ([pr0] : List Addr)).trans Kc2 (allS (P := fun x => x ∈ ([pr0] : List Addr) ∨ h0.size ≤ x) (Or.inl (List.mem_of_getElem? (i := 0) rfl)) all0)
  have Z2 : n0 ≤ T2.heap.size := Nat.le_trans Z0 Kc2.1
  have f3 := (P0.keep Kc2 (allS (P := fun x => ∀ c, h0[x]? = some c → c.vm.isStatics = false) (own_nost P2) all0))
  have f4 : Arv Z T2.heap pr1 kc .char (8 : Int32) [(.int 120), (.int 120), (.int 120), (.int 120), (.int 120), (.int 120), (.int 120), (.int 120)] (.int 0) := (P15.keep Kc2 (ninS P16 nin0))
  obtain ⟨T5, h5, L5, ph2_5, X5, e5, N5, Kc5, Z5, p5_0, p5_1, p5_2, p5_3, p5_4, p5_5, p5_6, p5_7, p5_8, p5_9, p5_10, p5_11, st5⟩ := own_rt0 pr0 pr1 pi3 ((0 : Int32) + pi3) (0 : Int32) ev ns sg phS phF phA phD co ct y2_1 wz (2 : Int64) y2_0 (0 : Int64) kc X2 hx hZ hw hby hml hown rfl N2 Z2 f3 P1 p2_0 p2_1 p2_2 p2_3 p2_4 p2_5 p2_6 p2_7 p2_8 p2_9 p2_10 P13 p2_11 f4 P16 P17 (by decide) (own_ltn (b := (3 : Int32)) (by decide) P18) (by decide : ¬ ((2 : Int64) < ((0 : Int64) + (1 : Int64))))
  have K5 : Keep h0 h5 ([pr0] : List Addr) := K2.trans Kc5 (allS (P := fun x => x ∈ ([pr0] : List Addr) ∨ h0.size ≤ x) (Or.inl (List.mem_of_getElem? (i := 0) rfl)) all0)
  have f6 := (f3.keep Kc5 (allS (P := fun x => ∀ c, T2.heap[x]? = some c → c.vm.isStatics = false) (own_nost p2_0) all0))
  have f7 : Arv Z h5 pr1 kc .char (8 : Int32) [(.int 120), (.int 120), (.int 120), (.int 120), (.int 120), (.int 120), (.int 120), (.int 120)] (.int 0) := (f4.keep Kc5 (ninS P16 nin0))
  obtain ⟨T8, h8, L8, ph2_8, X8, e8, N8, Kc8, Z8, p8_0, p8_1, p8_2, p8_3, p8_4, p8_5, p8_6, p8_7, p8_8, p8_9, p8_10, p8_11, st8⟩ := own_rt1 pr0 pr1 pi3 ((0 : Int32) + pi3) (1 : Int32) ev ns sg phS phF phA phD co ct ph2_5 wz (2 : Int64) y2_0 ((0 : Int64) + (1 : Int64)) kc X5 hx hZ hw hby hml hown e5 N5 Z5 f6 P1 p5_0 p5_1 p5_2 p5_3 p5_4 p5_5 p5_6 p5_7 p5_8 p5_9 p5_10 P13 p5_11 f7 P16 P17 (by decide) (own_ltn (b := (3 : Int32)) (by decide) P18) (by decide : ¬ ((2 : Int64) < (((0 : Int64) + (1 : Int64)) + (1 : Int64))))
  have K8 : Keep h0 h8 ([pr0] : List Addr) := K5.trans Kc8 (allS (P := fun x => x ∈ ([pr0] : List Addr) ∨ h0.size ≤ x) (Or.inl (List.mem_of_getElem? (i := 0) rfl)) all0)
  have f9 := (f6.keep Kc8 (allS (P := fun x => ∀ c, h5[x]? = some c → c.vm.isStatics = false) (own_nost p5_0) all0))
  have f10 : Arv Z h8 pr1 kc .char (8 : Int32) [(.int 120), (.int 120), (.int 120), (.int 120), (.int 120), (.int 120), (.int 120), (.int 120)] (.int 0) := (f7.keep Kc8 (ninS P16 nin0))
  obtain ⟨T11, h11, L11, ph2_11, X11, e11, N11, Kc11, Z11, p11_0, p11_1, p11_2, p11_3, p11_4, p11_5, p11_6, p11_7, p11_8, p11_9, p11_10, p11_11, st11⟩ := own_re1 pr0 pr1 pi3 ((0 : Int32) + pi3) (2 : Int32) ev ns sg phS phF phA phD co ct ph2_8 wz (2 : Int64) y2_0 (((0 : Int64) + (1 : Int64)) + (1 : Int64)) kc X8 hx hZ hw hby hml hown e8 N8 Z8 f9 P1 p8_0 p8_1 p8_2 p8_3 p8_4 p8_5 p8_6 p8_7 p8_8 p8_9 p8_10 P13 p8_11 f10 P16 P17 (by decide) (own_ltn (b := (3 : Int32)) (by decide) P18) (by decide : (2 : Int64) < ((((0 : Int64) + (1 : Int64)) + (1 : Int64)) + (1 : Int64)))
  have K11 : Keep h0 h11 ([pr0] : List Addr) := K8.trans Kc11 (allS (P := fun x => x ∈ ([pr0] : List Addr) ∨ h0.size ≤ x) (Or.inl (List.mem_of_getElem? (i := 0) rfl)) all0)
  have go12 : ∀ t, own_S p e below (T11.setTop (mkF m 102 #[rv pr0, rv pr1, iv 0, iv pi3, .val .null, .val (.int ((0 : Int32) + pi3)), iv 0, iv 2, iv 120, rv co] [(.int 0)])) t → Steps p.tables e below st0 t := by
    intro t kt
    refine go0 t ?_
    refine XS.aloadN X0.here hx rfl (hb hby d24_0) rfl rfl ?_
    show own_S p e below (s₁.setTop (mkF m 1 #[rv pr0, rv pr1, iv 0, iv pi3, .val .null, .unset, .unset, .unset, .unset, .unset] [(.ref pr0)])) _
    refine st1 _ ?_
    show own_S p e below (T1.setTop (mkF m 4 #[rv pr0, rv pr1, iv 0, iv pi3, .val .null, .unset, .unset, .unset, .unset, .unset] [(.int 0)])) _
    refine XS.ifYes X1.here hx rfl (pc0 := 4) (pc' := 9) rfl (hb hby d24_4) rfl ((if0 _ _).trans (teq (by decide : (0 : Int32) = (0 : Int32))).1) (by decide) (by decide) ?_
    refine XS.iloadN X1.here hx rfl (hb hby d24_9) rfl ?_
    refine XS.iloadN X1.here hx rfl (hb hby d24_10) rfl ?_
    refine XS.iadd X1.here hx rfl (hb hby d24_11) rfl ?_
    show own_S p e below (T1.setTop (mkF m 12 #[rv pr0, rv pr1, iv 0, iv pi3, .val .null, .unset, .unset, .unset, .unset, .unset] [(.int ((0 : Int32) + pi3))])) _
    refine XS.istore X1.here hx rfl (hb hby d24_12) rfl (l' := #[rv pr0, rv pr1, iv 0, iv pi3, .val .null, .val (.int ((0 : Int32) + pi3)), .unset, .unset, .unset, .unset]) rfl ?_
    refine XS.iloadN X1.here hx rfl (hb hby d24_14) rfl ?_
    show own_S p e below (T1.setTop (mkF m 15 #[rv pr0, rv pr1, iv 0, iv pi3, .val .null, .val (.int ((0 : Int32) + pi3)), .unset, .unset, .unset, .unset] [(.int 0)])) _
    refine XS.istore X1.here hx rfl (hb hby d24_15) rfl (l' := #[rv pr0, rv pr1, iv 0, iv pi3, .val .null, .val (.int ((0 : Int32) + pi3)), iv 0, .unset, .unset, .unset]) rfl ?_
    refine XS.aloadN X1.here hx rfl (hb hby d24_17) rfl rfl ?_
    refine XS.aloadN X1.here hx rfl (hb hby d24_18) rfl rfl ?_
    refine XS.iloadN X1.here hx rfl (hb hby d24_19) rfl ?_
    show own_S p e below (T1.setTop (mkF m 20 #[rv pr0, rv pr1, iv 0, iv pi3, .val .null, .val (.int ((0 : Int32) + pi3)), iv 0, .unset, .unset, .unset] [(.int 0), (.ref pr1), (.ref pr0)])) _
    refine XS.iload X1.here hx rfl (hb hby d24_20) rfl ?_
    show own_S p e below (T1.setTop (mkF m 22 #[rv pr0, rv pr1, iv 0, iv pi3, .val .null, .val (.int ((0 : Int32) + pi3)), iv 0, .unset, .unset, .unset] [(.int ((0 : Int32) + pi3)), (.int 0), (.ref pr1), (.ref pr0)])) _
    refine st2.trans ?_
    show own_S p e below (T2.setTop (mkF m 25 #[rv pr0, rv pr1, iv 0, iv pi3, .val .null, .val (.int ((0 : Int32) + pi3)), iv 0, .unset, .unset, .unset] [(.int 0)])) _
    refine XS.istore X2.here hx rfl (hb hby d24_25) rfl (l' := #[rv pr0, rv pr1, iv 0, iv pi3, .val .null, .val (.int ((0 : Int32) + pi3)), iv 0, iv 0, .unset, .unset]) rfl ?_
    show own_S p e below (T2.setTop (mkF m 27 #[rv pr0, rv pr1, iv 0, iv pi3, .val .null, .val (.int ((0 : Int32) + pi3)), iv 0, iv 0, .unset, .unset] [])) _
    refine st5 _ ?_
    show own_S p e below (T5.setTop (mkF m 27 #[rv pr0, rv pr1, iv 0, iv pi3, .val .null, .val (.int ((0 : Int32) + pi3)), iv 0, iv 1, iv 120, rv co] [])) _
    refine st8 _ ?_
    show own_S p e below (T8.setTop (mkF m 27 #[rv pr0, rv pr1, iv 0, iv pi3, .val .null, .val (.int ((0 : Int32) + pi3)), iv 0, iv 2, iv 120, rv co] [])) _
    refine st11 _ ?_
    refine XS.iconst X11.here hx rfl (hb hby d24_101) ?_
    show own_S p e below (T11.setTop (mkF m 102 #[rv pr0, rv pr1, iv 0, iv pi3, .val .null, .val (.int ((0 : Int32) + pi3)), iv 0, iv 2, iv 120, rv co] [(.int 0)])) _
    exact kt
  obtain ⟨fs, hr, hrun, hended, hW, hsame⟩ := X11.leave (v := some (.int 0)) (fun h => by rw [Bd.returns] at h; cases h)
  refine ⟨_, _, go12 _ ?_, hrun, hended, _, _, rfl, ?_, ⟨_, rfl⟩, hW, hsame.mono (by decide) (by decide)⟩
  · exact retN X11 hx (t := .boolean) Bd.returns (by simp) (hb hby d24_102) hr
  · show Q_own_read22 Z pr0 pr1 pi3 ev ns sg phS phF phA phD co ct ph wz kc h0 n0 _ T11.heap _
    rw [e11]
    exact ⟨N11, y2_0, ((((0 : Int64) + (1 : Int64)) + (1 : Int64)) + (1 : Int64)), ph2_11, rfl, K11, p11_0, p11_1, p11_2, p11_3, p11_4, p11_5, p11_6, p11_7, p11_8, p11_9, p11_10⟩
theorem ef_own_read30 (m : MethodId) (pr0 : Addr) (pr1 : Addr) (pi3 : Int32) : entryFrame m #[(.ref pr0), (.ref pr1), (.int 0), (.int pi3), .null] 10 = mkF m 0 #[rv pr0, rv pr1, iv 0, iv pi3, .val .null, .unset, .unset, .unset, .unset, .unset] [] := by first | (simp [entryFrame, mkF, argsToLocals, Value.category]; done) | rfl
def Q_own_read30 (Z : State) (pr0 : Addr) (pr1 : Addr) (pi3 : Int32) (ev : Addr) (ns : Addr) (sg : Addr) (phS : Addr) (phF : Addr) (phA : Addr) (phD : Addr) (co : Addr) (ct : Addr) (ph : Addr) (wz : Int32) (kc : ClassId) (h0 : Heap) (n0 : Nat) (v : Option Value) (h : Heap) (L : List Loc) : Prop := Fr n0 L ∧ ∃ (wl2 : Int64) (wc2 : Int64) (ph2 : Addr), v = some (.int 0) ∧ Keep h0 h ([pr0] : List Addr) ∧ Exa Z h pr0 own_s0 ∧ Fld Z h pr0 own_s0 "count" own_s1 (.ref ct) ∧ Fld Z h pr0 own_s0 own_s2 "Z" (.int wz) ∧ Fld Z h pr0 own_s0 "most" "J" (.long 3) ∧ Fld Z h pr0 own_s0 "length" "J" (.long wl2) ∧ Fld Z h pr0 own_s0 "past" "Z" (.int 1) ∧ Fld Z h pr0 own_s0 "over" "Z" (.int 1) ∧ Fld Z h pr0 own_s0 "counted" "J" (.long wc2) ∧ Fld Z h pr0 own_s0 "phase" own_s4 (.ref ph2) ∧ Fld Z h pr0 own_s0 "run" own_s5 .null ∧ Fld Z h pr0 own_s0 own_s3 "J" (.long 0)
set_option maxRecDepth 65536 in
set_option maxHeartbeats 40000000 in
theorem own_read30 (l : Launch) (Z : State) (a0 : Array Value) (hw : ∀ d ∈ tables_1, d.before a0 Z = true) (ws : List Jvm.Cond) (pr0 : Addr) (pr1 : Addr) (pi3 : Int32) (ev : Addr) (ns : Addr) (sg : Addr) (phS : Addr) (phF : Addr) (phA : Addr) (phD : Addr) (co : Addr) (ct : Addr) (ph : Addr) (wz : Int32) (kc : ClassId) (h0 : Heap) (n0 : Nat) (Z0 : n0 ≤ h0.size) (P0 : own_ST Z h0 ev ns sg phS phF phA phD co) (P1 : own_NN ev ns sg phS phF phA phD co) (P2 : Exa Z h0 pr0 own_s0) (P3 : Fld Z h0 pr0 own_s0 "count" own_s1 (.ref ct)) (P4 : Fld Z h0 pr0 own_s0 own_s2 "Z" (.int wz)) (P5 : Fld Z h0 pr0 own_s0 "most" "J" (.long 3)) (P6 : Fld Z h0 pr0 own_s0 "length" "J" (.long 0)) (P7 : Fld Z h0 pr0 own_s0 "past" "Z" (.int 0)) (P8 : Fld Z h0 pr0 own_s0 "over" "Z" (.int 0)) (P9 : Fld Z h0 pr0 own_s0 "counted" "J" (.long 0)) (P10 : Fld Z h0 pr0 own_s0 "phase" own_s4 (.ref ph)) (P11 : Fld Z h0 pr0 own_s0 "run" own_s5 .null) (P12 : Fld Z h0 pr0 own_s0 own_s3 "J" (.long 0)) (P13 : ct = ev ∨ ct = ns ∨ ct = sg) (P14 : ph = phS ∨ ph = phD) (P15 : Arv Z h0 pr1 kc .char (8 : Int32) [(.int 120), (.int 120), (.int 120), (.int 120), (.int 120), (.int 120), (.int 120), (.int 120)] (.int 0)) (P16 : pr1 ≠ pr0) (P17 : n0 ≤ pr0) (P18 : ¬ (pi3 < (7 : Int32))) :
    MetFree l (⟨own_s0, "read", own_s8⟩ : MethodName) (head1 (Jvm.Cond.code (⟨own_s0, "read", own_s8⟩ : MethodName) prog_127_method_6_code 10 (some .boolean) :: ws) ({ frames := 3, cells := 0, slots := 0, locals := 80 } : Room)) (fun a U => a = #[(.ref pr0), (.ref pr1), (.int 0), (.int pi3), .null] ∧ Z.Warmed39 U.vm ∧ U.heap = h0) (fun _ _ _ _ _ => True) (fun _ U o U' => ∃ v L, o = .returned v ∧ Q_own_read30 Z pr0 pr1 pi3 ev ns sg phS phF phA phD co ct ph wz kc h0 n0 v U'.heap L ∧ FrameEnd U o U' L ({ frames := 3, cells := 0, slots := 0, locals := 80 } : Room).cells ({ frames := 3, cells := 0, slots := 0, locals := 80 } : Room).slots) := by
  refine MetFree.of_bodySF (plainFor_of_name pn_8) hisR ?_
  intro p e s m args below meth c s₁ Bd hml0 hP hK
  obtain ⟨rfl, hZ, hh⟩ := hP
  have hx := Bd.exec
  have hby := Bd.bytes
  have hml : c.maxLocals = 10 := hml0
  have hown : s.vm.findClass own_s0 = some m.cls := findClass_of_methodNamed Bd.named
  have hnm := (name_of_methodNamed Bd.named Bd.method).1
  have X0 : Stand p l e ({ frames := 3, cells := 0, slots := 0, locals := 80 } : Room) s m #[(.ref pr0), (.ref pr1), (.int 0), (.int pi3), .null] below meth c s₁ [] 0 0 := Stand.of_body Bd
  have e0 : s₁.heap = h0 := by rw [← hh, Bd.state]; rfl
  have N0 := Fr.nil n0
  have go0 : ∀ t, own_S p e below (s₁.setTop (mkF m 0 #[rv pr0, rv pr1, iv 0, iv pi3, .val .null, .unset, .unset, .unset, .unset, .unset] [])) t → Steps p.tables e below (s₁.setTop (entryFrame m #[(.ref pr0), (.ref pr1), (.int 0), (.int pi3), .null] 10)) t := fun t k => castTop (ef_own_read30 m pr0 pr1 pi3) k
  revert go0
  generalize s₁.setTop (entryFrame m #[(.ref pr0), (.ref pr1), (.int 0), (.int pi3), .null] 10) = st0
  intro go0
  obtain ⟨T1, X1, e1, st1⟩ := getF X0 hx hZ hown (host := "") (Or.inl (own_w hw 70 rfl)) Via.refl e0 P8 (g := (mkF m 1 #[rv pr0, rv pr1, iv 0, iv pi3, .val .null, .unset, .unset, .unset, .unset, .unset] [(.ref pr0)])) rfl rfl (hb hby d24_1)
  obtain ⟨cq2, q2, q2'⟩ := P2.cell
  obtain ⟨_, _, ⟨T2, L2, k2, n2⟩, -, X2, ⟨Lc2, hQ2, l2, y2, z2⟩, st2⟩ := X1.privateBack hx (y := (⟨own_s0, "within", "([CII)I"⟩ : MethodName)) hown (mvT hZ (own_w hw 102 rfl)) (mvT hZ (own_w hw 103 rfl)) (Jvm.Kit.selects_private (by decide) (mvT hZ (own_w hw 13 rfl)) (mvP hZ (own_w hw 104 rfl)) (mvT hZ (own_w hw 103 rfl))) (Cond.privateMethod_at (mvP hZ (own_w hw 104 rfl) (args := #[]))) (mvT hZ (own_w hw 105 rfl)) (by decide) (backOf (W := 0) (own_within3 l Z a0 hw [] pr0 pr1 ((0 : Int32) + pi3) ev ns sg phS phF phA phD co ct ph wz (3 : Int64) (0 : Int64) (0 : Int32) (0 : Int64) kc h0 n0 Z0 P0 P1 P2 P3 P4 P5 P6 P7 P8 P9 P10 P11 P12 P13 P14 P15 P16 P17 (own_ltn (b := (7 : Int32)) (by decide) P18) (own_ltn (b := (7 : Int32)) (by decide) P18) (own_ltn (b := (7 : Int32)) (by decide) P18) (own_ltn (b := (7 : Int32)) (by decide) P18) (by decide : ¬ ((3 : Int64) < ((0 : Int64) + (1 : Int64)))) (by decide : ¬ ((3 : Int64) < (((0 : Int64) + (1 : Int64)) + (1 : Int64)))) (by decide : ¬ ((3 : Int64) < ((((0 : Int64) + (1 : Int64)) + (1 : Int64)) + (1 : Int64)))) (by decide : (3 : Int64) < (((((0 : Int64) + (1 : Int64)) + (1 : Int64)) + (1 : Int64)) + (1 : Int64))) (own_ltE (b := (7 : Int32)) (by decide) P18) (by decide : ((0 : Int32) + (((3 : Int64) - (0 : Int64)).toInt32)) = (3 : Int32))) hZ (own_w hw 105 rfl) (own_w hw 14 rfl) (by decide) (by decide)) (g := (mkF m 22 #[rv pr0, rv pr1, iv 0, iv pi3, .val .null, .val (.int ((0 : Int32) + pi3)), iv 0, .unset, .unset, .unset] [(.int ((0 : Int32) + pi3)), (.int 0), (.ref pr1), (.ref pr0)])) rfl (by rw [hml]; rfl) (Steps.refl _) (a := pr0) (by rw [e1]; exact q2) q2' (argsL := [(.ref pr1), (.int 0), (.int ((0 : Int32) + pi3))]) (rest := []) (lenOf pd_25 rfl) rfl (by show 2 * 0 + _ ≤ _; exact Nat.le_of_eq rfl) (hb hby d24_22) (fun _ _ => ⟨rfl, e1, (by decide : 0 + 0 ≤ _), (by decide : 0 + 0 ≤ _)⟩)
  dsimp only [Pt.U, Pt.locs, Pt.cells, Pt.slots] at X2 l2 y2 z2 st2 hQ2
  subst l2 y2 z2
  obtain ⟨Nq2, y2_0, y2_1, rfl, Kc2, p2_0, p2_1, p2_2, p2_3, p2_4, p2_5, p2_6, p2_7, p2_8, p2_9, p2_10, p2_11⟩ := hQ2
  have N2 := Fr.app N0 Nq2
  have K2 : Keep h0 T2.heap ([pr0] : List Addr) := (Keep.refl h0 ([pr0] : List Addr)).trans Kc2 (allS (P := fun x => x ∈ ([pr0] : List Addr) ∨ h0.size ≤ x) (Or.inl (List.mem_of_getElem? (i := 0) rfl)) all0)
  have Z2 : n0 ≤ T2.heap.size := Nat.le_trans Z0 Kc2.1
  have f3 := (P0.keep Kc2 (allS (P := fun x => ∀ c, h0[x]? = some c → c.vm.isStatics = false) (own_nost P2) all0))
  have f4 : Arv Z T2.heap pr1 kc .char (8 : Int32) [(.int 120), (.int 120), (.int 120), (.int 120), (.int 120), (.int 120), (.int 120), (.int 120)] (.int 0) := (P15.keep Kc2 (ninS P16 nin0))
  obtain ⟨T5, h5, L5, ph2_5, X5, e5, N5, Kc5, Z5, p5_0, p5_1, p5_2, p5_3, p5_4, p5_5, p5_6, p5_7, p5_8, p5_9, p5_10, p5_11, st5⟩ := own_rt0 pr0 pr1 pi3 ((0 : Int32) + pi3) (3 : Int32) ev ns sg phS phF phA phD co ct y2_1 wz (3 : Int64) y2_0 (0 : Int64) kc X2 hx hZ hw hby hml hown rfl N2 Z2 f3 P1 p2_0 p2_1 p2_2 p2_3 p2_4 p2_5 p2_6 p2_7 p2_8 p2_9 p2_10 P13 p2_11 f4 P16 P17 (by decide) (own_ltn (b := (7 : Int32)) (by decide) P18) (by decide : ¬ ((3 : Int64) < ((0 : Int64) + (1 : Int64))))
  have K5 : Keep h0 h5 ([pr0] : List Addr) := K2.trans Kc5 (allS (P := fun x => x ∈ ([pr0] : List Addr) ∨ h0.size ≤ x) (Or.inl (List.mem_of_getElem? (i := 0) rfl)) all0)
  have f6 := (f3.keep Kc5 (allS (P := fun x => ∀ c, T2.heap[x]? = some c → c.vm.isStatics = false) (own_nost p2_0) all0))
  have f7 : Arv Z h5 pr1 kc .char (8 : Int32) [(.int 120), (.int 120), (.int 120), (.int 120), (.int 120), (.int 120), (.int 120), (.int 120)] (.int 0) := (f4.keep Kc5 (ninS P16 nin0))
  obtain ⟨T8, h8, L8, ph2_8, X8, e8, N8, Kc8, Z8, p8_0, p8_1, p8_2, p8_3, p8_4, p8_5, p8_6, p8_7, p8_8, p8_9, p8_10, p8_11, st8⟩ := own_rt1 pr0 pr1 pi3 ((0 : Int32) + pi3) (4 : Int32) ev ns sg phS phF phA phD co ct ph2_5 wz (3 : Int64) y2_0 ((0 : Int64) + (1 : Int64)) kc X5 hx hZ hw hby hml hown e5 N5 Z5 f6 P1 p5_0 p5_1 p5_2 p5_3 p5_4 p5_5 p5_6 p5_7 p5_8 p5_9 p5_10 P13 p5_11 f7 P16 P17 (by decide) (own_ltn (b := (7 : Int32)) (by decide) P18) (by decide : ¬ ((3 : Int64) < (((0 : Int64) + (1 : Int64)) + (1 : Int64))))
  have K8 : Keep h0 h8 ([pr0] : List Addr) := K5.trans Kc8 (allS (P := fun x => x ∈ ([pr0] : List Addr) ∨ h0.size ≤ x) (Or.inl (List.mem_of_getElem? (i := 0) rfl)) all0)
  have f9 := (f6.keep Kc8 (allS (P := fun x => ∀ c, h5[x]? = some c → c.vm.isStatics = false) (own_nost p5_0) all0))
  have f10 : Arv Z h8 pr1 kc .char (8 : Int32) [(.int 120), (.int 120), (.int 120), (.int 120), (.int 120), (.int 120), (.int 120), (.int 120)] (.int 0) := (f7.keep Kc8 (ninS P16 nin0))
  obtain ⟨T11, h11, L11, ph2_11, X11, e11, N11, Kc11, Z11, p11_0, p11_1, p11_2, p11_3, p11_4, p11_5, p11_6, p11_7, p11_8, p11_9, p11_10, p11_11, st11⟩ := own_rt1 pr0 pr1 pi3 ((0 : Int32) + pi3) (5 : Int32) ev ns sg phS phF phA phD co ct ph2_8 wz (3 : Int64) y2_0 (((0 : Int64) + (1 : Int64)) + (1 : Int64)) kc X8 hx hZ hw hby hml hown e8 N8 Z8 f9 P1 p8_0 p8_1 p8_2 p8_3 p8_4 p8_5 p8_6 p8_7 p8_8 p8_9 p8_10 P13 p8_11 f10 P16 P17 (by decide) (own_ltn (b := (7 : Int32)) (by decide) P18) (by decide : ¬ ((3 : Int64) < ((((0 : Int64) + (1 : Int64)) + (1 : Int64)) + (1 : Int64))))
  have K11 : Keep h0 h11 ([pr0] : List Addr) := K8.trans Kc11 (allS (P := fun x => x ∈ ([pr0] : List Addr) ∨ h0.size ≤ x) (Or.inl (List.mem_of_getElem? (i := 0) rfl)) all0)
  have f12 := (f9.keep Kc11 (allS (P := fun x => ∀ c, h8[x]? = some c → c.vm.isStatics = false) (own_nost p8_0) all0))
  have f13 : Arv Z h11 pr1 kc .char (8 : Int32) [(.int 120), (.int 120), (.int 120), (.int 120), (.int 120), (.int 120), (.int 120), (.int 120)] (.int 0) := (f10.keep Kc11 (ninS P16 nin0))
  obtain ⟨T14, h14, L14, ph2_14, X14, e14, N14, Kc14, Z14, p14_0, p14_1, p14_2, p14_3, p14_4, p14_5, p14_6, p14_7, p14_8, p14_9, p14_10, p14_11, st14⟩ := own_re1 pr0 pr1 pi3 ((0 : Int32) + pi3) (6 : Int32) ev ns sg phS phF phA phD co ct ph2_11 wz (3 : Int64) y2_0 ((((0 : Int64) + (1 : Int64)) + (1 : Int64)) + (1 : Int64)) kc X11 hx hZ hw hby hml hown e11 N11 Z11 f12 P1 p11_0 p11_1 p11_2 p11_3 p11_4 p11_5 p11_6 p11_7 p11_8 p11_9 p11_10 P13 p11_11 f13 P16 P17 (by decide) (own_ltn (b := (7 : Int32)) (by decide) P18) (by decide : (3 : Int64) < (((((0 : Int64) + (1 : Int64)) + (1 : Int64)) + (1 : Int64)) + (1 : Int64)))
  have K14 : Keep h0 h14 ([pr0] : List Addr) := K11.trans Kc14 (allS (P := fun x => x ∈ ([pr0] : List Addr) ∨ h0.size ≤ x) (Or.inl (List.mem_of_getElem? (i := 0) rfl)) all0)
  have go15 : ∀ t, own_S p e below (T14.setTop (mkF m 102 #[rv pr0, rv pr1, iv 0, iv pi3, .val .null, .val (.int ((0 : Int32) + pi3)), iv 0, iv 6, iv 120, rv co] [(.int 0)])) t → Steps p.tables e below st0 t := by
    intro t kt
    refine go0 t ?_
    refine XS.aloadN X0.here hx rfl (hb hby d24_0) rfl rfl ?_
    show own_S p e below (s₁.setTop (mkF m 1 #[rv pr0, rv pr1, iv 0, iv pi3, .val .null, .unset, .unset, .unset, .unset, .unset] [(.ref pr0)])) _
    refine st1 _ ?_
    show own_S p e below (T1.setTop (mkF m 4 #[rv pr0, rv pr1, iv 0, iv pi3, .val .null, .unset, .unset, .unset, .unset, .unset] [(.int 0)])) _
    refine XS.ifYes X1.here hx rfl (pc0 := 4) (pc' := 9) rfl (hb hby d24_4) rfl ((if0 _ _).trans (teq (by decide : (0 : Int32) = (0 : Int32))).1) (by decide) (by decide) ?_
    refine XS.iloadN X1.here hx rfl (hb hby d24_9) rfl ?_
    refine XS.iloadN X1.here hx rfl (hb hby d24_10) rfl ?_
    refine XS.iadd X1.here hx rfl (hb hby d24_11) rfl ?_
    show own_S p e below (T1.setTop (mkF m 12 #[rv pr0, rv pr1, iv 0, iv pi3, .val .null, .unset, .unset, .unset, .unset, .unset] [(.int ((0 : Int32) + pi3))])) _
    refine XS.istore X1.here hx rfl (hb hby d24_12) rfl (l' := #[rv pr0, rv pr1, iv 0, iv pi3, .val .null, .val (.int ((0 : Int32) + pi3)), .unset, .unset, .unset, .unset]) rfl ?_
    refine XS.iloadN X1.here hx rfl (hb hby d24_14) rfl ?_
    show own_S p e below (T1.setTop (mkF m 15 #[rv pr0, rv pr1, iv 0, iv pi3, .val .null, .val (.int ((0 : Int32) + pi3)), .unset, .unset, .unset, .unset] [(.int 0)])) _
    refine XS.istore X1.here hx rfl (hb hby d24_15) rfl (l' := #[rv pr0, rv pr1, iv 0, iv pi3, .val .null, .val (.int ((0 : Int32) + pi3)), iv 0, .unset, .unset, .unset]) rfl ?_
    refine XS.aloadN X1.here hx rfl (hb hby d24_17) rfl rfl ?_
    refine XS.aloadN X1.here hx rfl (hb hby d24_18) rfl rfl ?_
    refine XS.iloadN X1.here hx rfl (hb hby d24_19) rfl ?_
    show own_S p e below (T1.setTop (mkF m 20 #[rv pr0, rv pr1, iv 0, iv pi3, .val .null, .val (.int ((0 : Int32) + pi3)), iv 0, .unset, .unset, .unset] [(.int 0), (.ref pr1), (.ref pr0)])) _
    refine XS.iload X1.here hx rfl (hb hby d24_20) rfl ?_
    show own_S p e below (T1.setTop (mkF m 22 #[rv pr0, rv pr1, iv 0, iv pi3, .val .null, .val (.int ((0 : Int32) + pi3)), iv 0, .unset, .unset, .unset] [(.int ((0 : Int32) + pi3)), (.int 0), (.ref pr1), (.ref pr0)])) _
    refine st2.trans ?_
    show own_S p e below (T2.setTop (mkF m 25 #[rv pr0, rv pr1, iv 0, iv pi3, .val .null, .val (.int ((0 : Int32) + pi3)), iv 0, .unset, .unset, .unset] [(.int 3)])) _
    refine XS.istore X2.here hx rfl (hb hby d24_25) rfl (l' := #[rv pr0, rv pr1, iv 0, iv pi3, .val .null, .val (.int ((0 : Int32) + pi3)), iv 0, iv 3, .unset, .unset]) rfl ?_
    show own_S p e below (T2.setTop (mkF m 27 #[rv pr0, rv pr1, iv 0, iv pi3, .val .null, .val (.int ((0 : Int32) + pi3)), iv 0, iv 3, .unset, .unset] [])) _
    refine st5 _ ?_
    show own_S p e below (T5.setTop (mkF m 27 #[rv pr0, rv pr1, iv 0, iv pi3, .val .null, .val (.int ((0 : Int32) + pi3)), iv 0, iv 4, iv 120, rv co] [])) _
    refine st8 _ ?_
    show own_S p e below (T8.setTop (mkF m 27 #[rv pr0, rv pr1, iv 0, iv pi3, .val .null, .val (.int ((0 : Int32) + pi3)), iv 0, iv 5, iv 120, rv co] [])) _
    refine st11 _ ?_
    show own_S p e below (T11.setTop (mkF m 27 #[rv pr0, rv pr1, iv 0, iv pi3, .val .null, .val (.int ((0 : Int32) + pi3)), iv 0, iv 6, iv 120, rv co] [])) _
    refine st14 _ ?_
    refine XS.iconst X14.here hx rfl (hb hby d24_101) ?_
    show own_S p e below (T14.setTop (mkF m 102 #[rv pr0, rv pr1, iv 0, iv pi3, .val .null, .val (.int ((0 : Int32) + pi3)), iv 0, iv 6, iv 120, rv co] [(.int 0)])) _
    exact kt
  obtain ⟨fs, hr, hrun, hended, hW, hsame⟩ := X14.leave (v := some (.int 0)) (fun h => by rw [Bd.returns] at h; cases h)
  refine ⟨_, _, go15 _ ?_, hrun, hended, _, _, rfl, ?_, ⟨_, rfl⟩, hW, hsame.mono (by decide) (by decide)⟩
  · exact retN X14 hx (t := .boolean) Bd.returns (by simp) (hb hby d24_102) hr
  · show Q_own_read30 Z pr0 pr1 pi3 ev ns sg phS phF phA phD co ct ph wz kc h0 n0 _ T14.heap _
    rw [e14]
    exact ⟨N14, y2_0, (((((0 : Int64) + (1 : Int64)) + (1 : Int64)) + (1 : Int64)) + (1 : Int64)), ph2_14, rfl, K14, p14_0, p14_1, p14_2, p14_3, p14_4, p14_5, p14_6, p14_7, p14_8, p14_9, p14_10⟩
theorem ef_own_read31 (m : MethodId) (pr0 : Addr) (pr1 : Addr) (pi3 : Int32) : entryFrame m #[(.ref pr0), (.ref pr1), (.int 0), (.int pi3), .null] 10 = mkF m 0 #[rv pr0, rv pr1, iv 0, iv pi3, .val .null, .unset, .unset, .unset, .unset, .unset] [] := by first | (simp [entryFrame, mkF, argsToLocals, Value.category]; done) | rfl
def Q_own_read31 (Z : State) (pr0 : Addr) (pr1 : Addr) (pi3 : Int32) (ev : Addr) (ns : Addr) (sg : Addr) (phS : Addr) (phF : Addr) (phA : Addr) (phD : Addr) (co : Addr) (ct : Addr) (ph : Addr) (wz : Int32) (kc : ClassId) (h0 : Heap) (n0 : Nat) (v : Option Value) (h : Heap) (L : List Loc) : Prop := Fr n0 L ∧ ∃ (wl2 : Int64) (wc2 : Int64) (ph2 : Addr), v = some (.int 0) ∧ Keep h0 h ([pr0] : List Addr) ∧ Exa Z h pr0 own_s0 ∧ Fld Z h pr0 own_s0 "count" own_s1 (.ref ct) ∧ Fld Z h pr0 own_s0 own_s2 "Z" (.int wz) ∧ Fld Z h pr0 own_s0 "most" "J" (.long 3) ∧ Fld Z h pr0 own_s0 "length" "J" (.long wl2) ∧ Fld Z h pr0 own_s0 "past" "Z" (.int 1) ∧ Fld Z h pr0 own_s0 "over" "Z" (.int 1) ∧ Fld Z h pr0 own_s0 "counted" "J" (.long wc2) ∧ Fld Z h pr0 own_s0 "phase" own_s4 (.ref ph2) ∧ Fld Z h pr0 own_s0 "run" own_s5 .null ∧ Fld Z h pr0 own_s0 own_s3 "J" (.long 0)
set_option maxRecDepth 65536 in
set_option maxHeartbeats 40000000 in
theorem own_read31 (l : Launch) (Z : State) (a0 : Array Value) (hw : ∀ d ∈ tables_1, d.before a0 Z = true) (ws : List Jvm.Cond) (pr0 : Addr) (pr1 : Addr) (pi3 : Int32) (ev : Addr) (ns : Addr) (sg : Addr) (phS : Addr) (phF : Addr) (phA : Addr) (phD : Addr) (co : Addr) (ct : Addr) (ph : Addr) (wz : Int32) (kc : ClassId) (h0 : Heap) (n0 : Nat) (Z0 : n0 ≤ h0.size) (P0 : own_ST Z h0 ev ns sg phS phF phA phD co) (P1 : own_NN ev ns sg phS phF phA phD co) (P2 : Exa Z h0 pr0 own_s0) (P3 : Fld Z h0 pr0 own_s0 "count" own_s1 (.ref ct)) (P4 : Fld Z h0 pr0 own_s0 own_s2 "Z" (.int wz)) (P5 : Fld Z h0 pr0 own_s0 "most" "J" (.long 3)) (P6 : Fld Z h0 pr0 own_s0 "length" "J" (.long 1)) (P7 : Fld Z h0 pr0 own_s0 "past" "Z" (.int 0)) (P8 : Fld Z h0 pr0 own_s0 "over" "Z" (.int 0)) (P9 : Fld Z h0 pr0 own_s0 "counted" "J" (.long 0)) (P10 : Fld Z h0 pr0 own_s0 "phase" own_s4 (.ref ph)) (P11 : Fld Z h0 pr0 own_s0 "run" own_s5 .null) (P12 : Fld Z h0 pr0 own_s0 own_s3 "J" (.long 0)) (P13 : ct = ev ∨ ct = ns ∨ ct = sg) (P14 : ph = phS ∨ ph = phD) (P15 : Arv Z h0 pr1 kc .char (8 : Int32) [(.int 120), (.int 120), (.int 120), (.int 120), (.int 120), (.int 120), (.int 120), (.int 120)] (.int 0)) (P16 : pr1 ≠ pr0) (P17 : n0 ≤ pr0) (P18 : ¬ (pi3 < (6 : Int32))) :
    MetFree l (⟨own_s0, "read", own_s8⟩ : MethodName) (head1 (Jvm.Cond.code (⟨own_s0, "read", own_s8⟩ : MethodName) prog_127_method_6_code 10 (some .boolean) :: ws) ({ frames := 3, cells := 0, slots := 0, locals := 80 } : Room)) (fun a U => a = #[(.ref pr0), (.ref pr1), (.int 0), (.int pi3), .null] ∧ Z.Warmed39 U.vm ∧ U.heap = h0) (fun _ _ _ _ _ => True) (fun _ U o U' => ∃ v L, o = .returned v ∧ Q_own_read31 Z pr0 pr1 pi3 ev ns sg phS phF phA phD co ct ph wz kc h0 n0 v U'.heap L ∧ FrameEnd U o U' L ({ frames := 3, cells := 0, slots := 0, locals := 80 } : Room).cells ({ frames := 3, cells := 0, slots := 0, locals := 80 } : Room).slots) := by
  refine MetFree.of_bodySF (plainFor_of_name pn_8) hisR ?_
  intro p e s m args below meth c s₁ Bd hml0 hP hK
  obtain ⟨rfl, hZ, hh⟩ := hP
  have hx := Bd.exec
  have hby := Bd.bytes
  have hml : c.maxLocals = 10 := hml0
  have hown : s.vm.findClass own_s0 = some m.cls := findClass_of_methodNamed Bd.named
  have hnm := (name_of_methodNamed Bd.named Bd.method).1
  have X0 : Stand p l e ({ frames := 3, cells := 0, slots := 0, locals := 80 } : Room) s m #[(.ref pr0), (.ref pr1), (.int 0), (.int pi3), .null] below meth c s₁ [] 0 0 := Stand.of_body Bd
  have e0 : s₁.heap = h0 := by rw [← hh, Bd.state]; rfl
  have N0 := Fr.nil n0
  have go0 : ∀ t, own_S p e below (s₁.setTop (mkF m 0 #[rv pr0, rv pr1, iv 0, iv pi3, .val .null, .unset, .unset, .unset, .unset, .unset] [])) t → Steps p.tables e below (s₁.setTop (entryFrame m #[(.ref pr0), (.ref pr1), (.int 0), (.int pi3), .null] 10)) t := fun t k => castTop (ef_own_read31 m pr0 pr1 pi3) k
  revert go0
  generalize s₁.setTop (entryFrame m #[(.ref pr0), (.ref pr1), (.int 0), (.int pi3), .null] 10) = st0
  intro go0
  obtain ⟨T1, X1, e1, st1⟩ := getF X0 hx hZ hown (host := "") (Or.inl (own_w hw 70 rfl)) Via.refl e0 P8 (g := (mkF m 1 #[rv pr0, rv pr1, iv 0, iv pi3, .val .null, .unset, .unset, .unset, .unset, .unset] [(.ref pr0)])) rfl rfl (hb hby d24_1)
  obtain ⟨cq2, q2, q2'⟩ := P2.cell
  obtain ⟨_, _, ⟨T2, L2, k2, n2⟩, -, X2, ⟨Lc2, hQ2, l2, y2, z2⟩, st2⟩ := X1.privateBack hx (y := (⟨own_s0, "within", "([CII)I"⟩ : MethodName)) hown (mvT hZ (own_w hw 102 rfl)) (mvT hZ (own_w hw 103 rfl)) (Jvm.Kit.selects_private (by decide) (mvT hZ (own_w hw 13 rfl)) (mvP hZ (own_w hw 104 rfl)) (mvT hZ (own_w hw 103 rfl))) (Cond.privateMethod_at (mvP hZ (own_w hw 104 rfl) (args := #[]))) (mvT hZ (own_w hw 105 rfl)) (by decide) (backOf (W := 0) (own_within2 l Z a0 hw [] pr0 pr1 ((0 : Int32) + pi3) ev ns sg phS phF phA phD co ct ph wz (3 : Int64) (1 : Int64) (0 : Int32) (0 : Int64) kc h0 n0 Z0 P0 P1 P2 P3 P4 P5 P6 P7 P8 P9 P10 P11 P12 P13 P14 P15 P16 P17 (own_ltn (b := (6 : Int32)) (by decide) P18) (own_ltn (b := (6 : Int32)) (by decide) P18) (own_ltn (b := (6 : Int32)) (by decide) P18) (by decide : ¬ ((3 : Int64) < ((1 : Int64) + (1 : Int64)))) (by decide : ¬ ((3 : Int64) < (((1 : Int64) + (1 : Int64)) + (1 : Int64)))) (by decide : (3 : Int64) < ((((1 : Int64) + (1 : Int64)) + (1 : Int64)) + (1 : Int64))) (own_ltE (b := (6 : Int32)) (by decide) P18) (by decide : ((0 : Int32) + (((3 : Int64) - (1 : Int64)).toInt32)) = (2 : Int32))) hZ (own_w hw 105 rfl) (own_w hw 14 rfl) (by decide) (by decide)) (g := (mkF m 22 #[rv pr0, rv pr1, iv 0, iv pi3, .val .null, .val (.int ((0 : Int32) + pi3)), iv 0, .unset, .unset, .unset] [(.int ((0 : Int32) + pi3)), (.int 0), (.ref pr1), (.ref pr0)])) rfl (by rw [hml]; rfl) (Steps.refl _) (a := pr0) (by rw [e1]; exact q2) q2' (argsL := [(.ref pr1), (.int 0), (.int ((0 : Int32) + pi3))]) (rest := []) (lenOf pd_25 rfl) rfl (by show 2 * 0 + _ ≤ _; exact Nat.le_of_eq rfl) (hb hby d24_22) (fun _ _ => ⟨rfl, e1, (by decide : 0 + 0 ≤ _), (by decide : 0 + 0 ≤ _)⟩)
  dsimp only [Pt.U, Pt.locs, Pt.cells, Pt.slots] at X2 l2 y2 z2 st2 hQ2
  subst l2 y2 z2
  obtain ⟨Nq2, y2_0, y2_1, rfl, Kc2, p2_0, p2_1, p2_2, p2_3, p2_4, p2_5, p2_6, p2_7, p2_8, p2_9, p2_10, p2_11⟩ := hQ2
  have N2 := Fr.app N0 Nq2
  have K2 : Keep h0 T2.heap ([pr0] : List Addr) := (Keep.refl h0 ([pr0] : List Addr)).trans Kc2 (allS (P := fun x => x ∈ ([pr0] : List Addr) ∨ h0.size ≤ x) (Or.inl (List.mem_of_getElem? (i := 0) rfl)) all0)
  have Z2 : n0 ≤ T2.heap.size := Nat.le_trans Z0 Kc2.1
  have f3 := (P0.keep Kc2 (allS (P := fun x => ∀ c, h0[x]? = some c → c.vm.isStatics = false) (own_nost P2) all0))
  have f4 : Arv Z T2.heap pr1 kc .char (8 : Int32) [(.int 120), (.int 120), (.int 120), (.int 120), (.int 120), (.int 120), (.int 120), (.int 120)] (.int 0) := (P15.keep Kc2 (ninS P16 nin0))
  obtain ⟨T5, h5, L5, ph2_5, X5, e5, N5, Kc5, Z5, p5_0, p5_1, p5_2, p5_3, p5_4, p5_5, p5_6, p5_7, p5_8, p5_9, p5_10, p5_11, st5⟩ := own_rt0 pr0 pr1 pi3 ((0 : Int32) + pi3) (2 : Int32) ev ns sg phS phF phA phD co ct y2_1 wz (3 : Int64) y2_0 (0 : Int64) kc X2 hx hZ hw hby hml hown rfl N2 Z2 f3 P1 p2_0 p2_1 p2_2 p2_3 p2_4 p2_5 p2_6 p2_7 p2_8 p2_9 p2_10 P13 p2_11 f4 P16 P17 (by decide) (own_ltn (b := (6 : Int32)) (by decide) P18) (by decide : ¬ ((3 : Int64) < ((0 : Int64) + (1 : Int64))))
  have K5 : Keep h0 h5 ([pr0] : List Addr) := K2.trans Kc5 (allS (P := fun x => x ∈ ([pr0] : List Addr) ∨ h0.size ≤ x) (Or.inl (List.mem_of_getElem? (i := 0) rfl)) all0)
  have f6 := (f3.keep Kc5 (allS (P := fun x => ∀ c, T2.heap[x]? = some c → c.vm.isStatics = false) (own_nost p2_0) all0))
  have f7 : Arv Z h5 pr1 kc .char (8 : Int32) [(.int 120), (.int 120), (.int 120), (.int 120), (.int 120), (.int 120), (.int 120), (.int 120)] (.int 0) := (f4.keep Kc5 (ninS P16 nin0))
  obtain ⟨T8, h8, L8, ph2_8, X8, e8, N8, Kc8, Z8, p8_0, p8_1, p8_2, p8_3, p8_4, p8_5, p8_6, p8_7, p8_8, p8_9, p8_10, p8_11, st8⟩ := own_rt1 pr0 pr1 pi3 ((0 : Int32) + pi3) (3 : Int32) ev ns sg phS phF phA phD co ct ph2_5 wz (3 : Int64) y2_0 ((0 : Int64) + (1 : Int64)) kc X5 hx hZ hw hby hml hown e5 N5 Z5 f6 P1 p5_0 p5_1 p5_2 p5_3 p5_4 p5_5 p5_6 p5_7 p5_8 p5_9 p5_10 P13 p5_11 f7 P16 P17 (by decide) (own_ltn (b := (6 : Int32)) (by decide) P18) (by decide : ¬ ((3 : Int64) < (((0 : Int64) + (1 : Int64)) + (1 : Int64))))
  have K8 : Keep h0 h8 ([pr0] : List Addr) := K5.trans Kc8 (allS (P := fun x => x ∈ ([pr0] : List Addr) ∨ h0.size ≤ x) (Or.inl (List.mem_of_getElem? (i := 0) rfl)) all0)
  have f9 := (f6.keep Kc8 (allS (P := fun x => ∀ c, h5[x]? = some c → c.vm.isStatics = false) (own_nost p5_0) all0))
  have f10 : Arv Z h8 pr1 kc .char (8 : Int32) [(.int 120), (.int 120), (.int 120), (.int 120), (.int 120), (.int 120), (.int 120), (.int 120)] (.int 0) := (f7.keep Kc8 (ninS P16 nin0))
  obtain ⟨T11, h11, L11, ph2_11, X11, e11, N11, Kc11, Z11, p11_0, p11_1, p11_2, p11_3, p11_4, p11_5, p11_6, p11_7, p11_8, p11_9, p11_10, p11_11, st11⟩ := own_rt1 pr0 pr1 pi3 ((0 : Int32) + pi3) (4 : Int32) ev ns sg phS phF phA phD co ct ph2_8 wz (3 : Int64) y2_0 (((0 : Int64) + (1 : Int64)) + (1 : Int64)) kc X8 hx hZ hw hby hml hown e8 N8 Z8 f9 P1 p8_0 p8_1 p8_2 p8_3 p8_4 p8_5 p8_6 p8_7 p8_8 p8_9 p8_10 P13 p8_11 f10 P16 P17 (by decide) (own_ltn (b := (6 : Int32)) (by decide) P18) (by decide : ¬ ((3 : Int64) < ((((0 : Int64) + (1 : Int64)) + (1 : Int64)) + (1 : Int64))))
  have K11 : Keep h0 h11 ([pr0] : List Addr) := K8.trans Kc11 (allS (P := fun x => x ∈ ([pr0] : List Addr) ∨ h0.size ≤ x) (Or.inl (List.mem_of_getElem? (i := 0) rfl)) all0)
  have f12 := (f9.keep Kc11 (allS (P := fun x => ∀ c, h8[x]? = some c → c.vm.isStatics = false) (own_nost p8_0) all0))
  have f13 : Arv Z h11 pr1 kc .char (8 : Int32) [(.int 120), (.int 120), (.int 120), (.int 120), (.int 120), (.int 120), (.int 120), (.int 120)] (.int 0) := (f10.keep Kc11 (ninS P16 nin0))
  obtain ⟨T14, h14, L14, ph2_14, X14, e14, N14, Kc14, Z14, p14_0, p14_1, p14_2, p14_3, p14_4, p14_5, p14_6, p14_7, p14_8, p14_9, p14_10, p14_11, st14⟩ := own_re1 pr0 pr1 pi3 ((0 : Int32) + pi3) (5 : Int32) ev ns sg phS phF phA phD co ct ph2_11 wz (3 : Int64) y2_0 ((((0 : Int64) + (1 : Int64)) + (1 : Int64)) + (1 : Int64)) kc X11 hx hZ hw hby hml hown e11 N11 Z11 f12 P1 p11_0 p11_1 p11_2 p11_3 p11_4 p11_5 p11_6 p11_7 p11_8 p11_9 p11_10 P13 p11_11 f13 P16 P17 (by decide) (own_ltn (b := (6 : Int32)) (by decide) P18) (by decide : (3 : Int64) < (((((0 : Int64) + (1 : Int64)) + (1 : Int64)) + (1 : Int64)) + (1 : Int64)))
  have K14 : Keep h0 h14 ([pr0] : List Addr) := K11.trans Kc14 (allS (P := fun x => x ∈ ([pr0] : List Addr) ∨ h0.size ≤ x) (Or.inl (List.mem_of_getElem? (i := 0) rfl)) all0)
  have go15 : ∀ t, own_S p e below (T14.setTop (mkF m 102 #[rv pr0, rv pr1, iv 0, iv pi3, .val .null, .val (.int ((0 : Int32) + pi3)), iv 0, iv 5, iv 120, rv co] [(.int 0)])) t → Steps p.tables e below st0 t := by
    intro t kt
    refine go0 t ?_
    refine XS.aloadN X0.here hx rfl (hb hby d24_0) rfl rfl ?_
    show own_S p e below (s₁.setTop (mkF m 1 #[rv pr0, rv pr1, iv 0, iv pi3, .val .null, .unset, .unset, .unset, .unset, .unset] [(.ref pr0)])) _
    refine st1 _ ?_
    show own_S p e below (T1.setTop (mkF m 4 #[rv pr0, rv pr1, iv 0, iv pi3, .val .null, .unset, .unset, .unset, .unset, .unset] [(.int 0)])) _
    refine XS.ifYes X1.here hx rfl (pc0 := 4) (pc' := 9) rfl (hb hby d24_4) rfl ((if0 _ _).trans (teq (by decide : (0 : Int32) = (0 : Int32))).1) (by decide) (by decide) ?_
    refine XS.iloadN X1.here hx rfl (hb hby d24_9) rfl ?_
    refine XS.iloadN X1.here hx rfl (hb hby d24_10) rfl ?_
    refine XS.iadd X1.here hx rfl (hb hby d24_11) rfl ?_
    show own_S p e below (T1.setTop (mkF m 12 #[rv pr0, rv pr1, iv 0, iv pi3, .val .null, .unset, .unset, .unset, .unset, .unset] [(.int ((0 : Int32) + pi3))])) _
    refine XS.istore X1.here hx rfl (hb hby d24_12) rfl (l' := #[rv pr0, rv pr1, iv 0, iv pi3, .val .null, .val (.int ((0 : Int32) + pi3)), .unset, .unset, .unset, .unset]) rfl ?_
    refine XS.iloadN X1.here hx rfl (hb hby d24_14) rfl ?_
    show own_S p e below (T1.setTop (mkF m 15 #[rv pr0, rv pr1, iv 0, iv pi3, .val .null, .val (.int ((0 : Int32) + pi3)), .unset, .unset, .unset, .unset] [(.int 0)])) _
    refine XS.istore X1.here hx rfl (hb hby d24_15) rfl (l' := #[rv pr0, rv pr1, iv 0, iv pi3, .val .null, .val (.int ((0 : Int32) + pi3)), iv 0, .unset, .unset, .unset]) rfl ?_
    refine XS.aloadN X1.here hx rfl (hb hby d24_17) rfl rfl ?_
    refine XS.aloadN X1.here hx rfl (hb hby d24_18) rfl rfl ?_
    refine XS.iloadN X1.here hx rfl (hb hby d24_19) rfl ?_
    show own_S p e below (T1.setTop (mkF m 20 #[rv pr0, rv pr1, iv 0, iv pi3, .val .null, .val (.int ((0 : Int32) + pi3)), iv 0, .unset, .unset, .unset] [(.int 0), (.ref pr1), (.ref pr0)])) _
    refine XS.iload X1.here hx rfl (hb hby d24_20) rfl ?_
    show own_S p e below (T1.setTop (mkF m 22 #[rv pr0, rv pr1, iv 0, iv pi3, .val .null, .val (.int ((0 : Int32) + pi3)), iv 0, .unset, .unset, .unset] [(.int ((0 : Int32) + pi3)), (.int 0), (.ref pr1), (.ref pr0)])) _
    refine st2.trans ?_
    show own_S p e below (T2.setTop (mkF m 25 #[rv pr0, rv pr1, iv 0, iv pi3, .val .null, .val (.int ((0 : Int32) + pi3)), iv 0, .unset, .unset, .unset] [(.int 2)])) _
    refine XS.istore X2.here hx rfl (hb hby d24_25) rfl (l' := #[rv pr0, rv pr1, iv 0, iv pi3, .val .null, .val (.int ((0 : Int32) + pi3)), iv 0, iv 2, .unset, .unset]) rfl ?_
    show own_S p e below (T2.setTop (mkF m 27 #[rv pr0, rv pr1, iv 0, iv pi3, .val .null, .val (.int ((0 : Int32) + pi3)), iv 0, iv 2, .unset, .unset] [])) _
    refine st5 _ ?_
    show own_S p e below (T5.setTop (mkF m 27 #[rv pr0, rv pr1, iv 0, iv pi3, .val .null, .val (.int ((0 : Int32) + pi3)), iv 0, iv 3, iv 120, rv co] [])) _
    refine st8 _ ?_
    show own_S p e below (T8.setTop (mkF m 27 #[rv pr0, rv pr1, iv 0, iv pi3, .val .null, .val (.int ((0 : Int32) + pi3)), iv 0, iv 4, iv 120, rv co] [])) _
    refine st11 _ ?_
    show own_S p e below (T11.setTop (mkF m 27 #[rv pr0, rv pr1, iv 0, iv pi3, .val .null, .val (.int ((0 : Int32) + pi3)), iv 0, iv 5, iv 120, rv co] [])) _
    refine st14 _ ?_
    refine XS.iconst X14.here hx rfl (hb hby d24_101) ?_
    show own_S p e below (T14.setTop (mkF m 102 #[rv pr0, rv pr1, iv 0, iv pi3, .val .null, .val (.int ((0 : Int32) + pi3)), iv 0, iv 5, iv 120, rv co] [(.int 0)])) _
    exact kt
  obtain ⟨fs, hr, hrun, hended, hW, hsame⟩ := X14.leave (v := some (.int 0)) (fun h => by rw [Bd.returns] at h; cases h)
  refine ⟨_, _, go15 _ ?_, hrun, hended, _, _, rfl, ?_, ⟨_, rfl⟩, hW, hsame.mono (by decide) (by decide)⟩
  · exact retN X14 hx (t := .boolean) Bd.returns (by simp) (hb hby d24_102) hr
  · show Q_own_read31 Z pr0 pr1 pi3 ev ns sg phS phF phA phD co ct ph wz kc h0 n0 _ T14.heap _
    rw [e14]
    exact ⟨N14, y2_0, (((((0 : Int64) + (1 : Int64)) + (1 : Int64)) + (1 : Int64)) + (1 : Int64)), ph2_14, rfl, K14, p14_0, p14_1, p14_2, p14_3, p14_4, p14_5, p14_6, p14_7, p14_8, p14_9, p14_10⟩
theorem ef_own_read32 (m : MethodId) (pr0 : Addr) (pr1 : Addr) (pi3 : Int32) : entryFrame m #[(.ref pr0), (.ref pr1), (.int 0), (.int pi3), .null] 10 = mkF m 0 #[rv pr0, rv pr1, iv 0, iv pi3, .val .null, .unset, .unset, .unset, .unset, .unset] [] := by first | (simp [entryFrame, mkF, argsToLocals, Value.category]; done) | rfl
def Q_own_read32 (Z : State) (pr0 : Addr) (pr1 : Addr) (pi3 : Int32) (ev : Addr) (ns : Addr) (sg : Addr) (phS : Addr) (phF : Addr) (phA : Addr) (phD : Addr) (co : Addr) (ct : Addr) (ph : Addr) (wz : Int32) (kc : ClassId) (h0 : Heap) (n0 : Nat) (v : Option Value) (h : Heap) (L : List Loc) : Prop := Fr n0 L ∧ ∃ (wl2 : Int64) (wc2 : Int64) (ph2 : Addr), v = some (.int 0) ∧ Keep h0 h ([pr0] : List Addr) ∧ Exa Z h pr0 own_s0 ∧ Fld Z h pr0 own_s0 "count" own_s1 (.ref ct) ∧ Fld Z h pr0 own_s0 own_s2 "Z" (.int wz) ∧ Fld Z h pr0 own_s0 "most" "J" (.long 3) ∧ Fld Z h pr0 own_s0 "length" "J" (.long wl2) ∧ Fld Z h pr0 own_s0 "past" "Z" (.int 1) ∧ Fld Z h pr0 own_s0 "over" "Z" (.int 1) ∧ Fld Z h pr0 own_s0 "counted" "J" (.long wc2) ∧ Fld Z h pr0 own_s0 "phase" own_s4 (.ref ph2) ∧ Fld Z h pr0 own_s0 "run" own_s5 .null ∧ Fld Z h pr0 own_s0 own_s3 "J" (.long 0)
set_option maxRecDepth 65536 in
set_option maxHeartbeats 40000000 in
theorem own_read32 (l : Launch) (Z : State) (a0 : Array Value) (hw : ∀ d ∈ tables_1, d.before a0 Z = true) (ws : List Jvm.Cond) (pr0 : Addr) (pr1 : Addr) (pi3 : Int32) (ev : Addr) (ns : Addr) (sg : Addr) (phS : Addr) (phF : Addr) (phA : Addr) (phD : Addr) (co : Addr) (ct : Addr) (ph : Addr) (wz : Int32) (kc : ClassId) (h0 : Heap) (n0 : Nat) (Z0 : n0 ≤ h0.size) (P0 : own_ST Z h0 ev ns sg phS phF phA phD co) (P1 : own_NN ev ns sg phS phF phA phD co) (P2 : Exa Z h0 pr0 own_s0) (P3 : Fld Z h0 pr0 own_s0 "count" own_s1 (.ref ct)) (P4 : Fld Z h0 pr0 own_s0 own_s2 "Z" (.int wz)) (P5 : Fld Z h0 pr0 own_s0 "most" "J" (.long 3)) (P6 : Fld Z h0 pr0 own_s0 "length" "J" (.long 2)) (P7 : Fld Z h0 pr0 own_s0 "past" "Z" (.int 0)) (P8 : Fld Z h0 pr0 own_s0 "over" "Z" (.int 0)) (P9 : Fld Z h0 pr0 own_s0 "counted" "J" (.long 0)) (P10 : Fld Z h0 pr0 own_s0 "phase" own_s4 (.ref ph)) (P11 : Fld Z h0 pr0 own_s0 "run" own_s5 .null) (P12 : Fld Z h0 pr0 own_s0 own_s3 "J" (.long 0)) (P13 : ct = ev ∨ ct = ns ∨ ct = sg) (P14 : ph = phS ∨ ph = phD) (P15 : Arv Z h0 pr1 kc .char (8 : Int32) [(.int 120), (.int 120), (.int 120), (.int 120), (.int 120), (.int 120), (.int 120), (.int 120)] (.int 0)) (P16 : pr1 ≠ pr0) (P17 : n0 ≤ pr0) (P18 : ¬ (pi3 < (5 : Int32))) :
    MetFree l (⟨own_s0, "read", own_s8⟩ : MethodName) (head1 (Jvm.Cond.code (⟨own_s0, "read", own_s8⟩ : MethodName) prog_127_method_6_code 10 (some .boolean) :: ws) ({ frames := 3, cells := 0, slots := 0, locals := 80 } : Room)) (fun a U => a = #[(.ref pr0), (.ref pr1), (.int 0), (.int pi3), .null] ∧ Z.Warmed39 U.vm ∧ U.heap = h0) (fun _ _ _ _ _ => True) (fun _ U o U' => ∃ v L, o = .returned v ∧ Q_own_read32 Z pr0 pr1 pi3 ev ns sg phS phF phA phD co ct ph wz kc h0 n0 v U'.heap L ∧ FrameEnd U o U' L ({ frames := 3, cells := 0, slots := 0, locals := 80 } : Room).cells ({ frames := 3, cells := 0, slots := 0, locals := 80 } : Room).slots) := by
  refine MetFree.of_bodySF (plainFor_of_name pn_8) hisR ?_
  intro p e s m args below meth c s₁ Bd hml0 hP hK
  obtain ⟨rfl, hZ, hh⟩ := hP
  have hx := Bd.exec
  have hby := Bd.bytes
  have hml : c.maxLocals = 10 := hml0
  have hown : s.vm.findClass own_s0 = some m.cls := findClass_of_methodNamed Bd.named
  have hnm := (name_of_methodNamed Bd.named Bd.method).1
  have X0 : Stand p l e ({ frames := 3, cells := 0, slots := 0, locals := 80 } : Room) s m #[(.ref pr0), (.ref pr1), (.int 0), (.int pi3), .null] below meth c s₁ [] 0 0 := Stand.of_body Bd
  have e0 : s₁.heap = h0 := by rw [← hh, Bd.state]; rfl
  have N0 := Fr.nil n0
  have go0 : ∀ t, own_S p e below (s₁.setTop (mkF m 0 #[rv pr0, rv pr1, iv 0, iv pi3, .val .null, .unset, .unset, .unset, .unset, .unset] [])) t → Steps p.tables e below (s₁.setTop (entryFrame m #[(.ref pr0), (.ref pr1), (.int 0), (.int pi3), .null] 10)) t := fun t k => castTop (ef_own_read32 m pr0 pr1 pi3) k
  revert go0
  generalize s₁.setTop (entryFrame m #[(.ref pr0), (.ref pr1), (.int 0), (.int pi3), .null] 10) = st0
  intro go0
  obtain ⟨T1, X1, e1, st1⟩ := getF X0 hx hZ hown (host := "") (Or.inl (own_w hw 70 rfl)) Via.refl e0 P8 (g := (mkF m 1 #[rv pr0, rv pr1, iv 0, iv pi3, .val .null, .unset, .unset, .unset, .unset, .unset] [(.ref pr0)])) rfl rfl (hb hby d24_1)
  obtain ⟨cq2, q2, q2'⟩ := P2.cell
  obtain ⟨_, _, ⟨T2, L2, k2, n2⟩, -, X2, ⟨Lc2, hQ2, l2, y2, z2⟩, st2⟩ := X1.privateBack hx (y := (⟨own_s0, "within", "([CII)I"⟩ : MethodName)) hown (mvT hZ (own_w hw 102 rfl)) (mvT hZ (own_w hw 103 rfl)) (Jvm.Kit.selects_private (by decide) (mvT hZ (own_w hw 13 rfl)) (mvP hZ (own_w hw 104 rfl)) (mvT hZ (own_w hw 103 rfl))) (Cond.privateMethod_at (mvP hZ (own_w hw 104 rfl) (args := #[]))) (mvT hZ (own_w hw 105 rfl)) (by decide) (backOf (W := 0) (own_within1 l Z a0 hw [] pr0 pr1 ((0 : Int32) + pi3) ev ns sg phS phF phA phD co ct ph wz (3 : Int64) (2 : Int64) (0 : Int32) (0 : Int64) kc h0 n0 Z0 P0 P1 P2 P3 P4 P5 P6 P7 P8 P9 P10 P11 P12 P13 P14 P15 P16 P17 (own_ltn (b := (5 : Int32)) (by decide) P18) (own_ltn (b := (5 : Int32)) (by decide) P18) (by decide : ¬ ((3 : Int64) < ((2 : Int64) + (1 : Int64)))) (by decide : (3 : Int64) < (((2 : Int64) + (1 : Int64)) + (1 : Int64))) (own_ltE (b := (5 : Int32)) (by decide) P18) (by decide : ((0 : Int32) + (((3 : Int64) - (2 : Int64)).toInt32)) = (1 : Int32))) hZ (own_w hw 105 rfl) (own_w hw 14 rfl) (by decide) (by decide)) (g := (mkF m 22 #[rv pr0, rv pr1, iv 0, iv pi3, .val .null, .val (.int ((0 : Int32) + pi3)), iv 0, .unset, .unset, .unset] [(.int ((0 : Int32) + pi3)), (.int 0), (.ref pr1), (.ref pr0)])) rfl (by rw [hml]; rfl) (Steps.refl _) (a := pr0) (by rw [e1]; exact q2) q2' (argsL := [(.ref pr1), (.int 0), (.int ((0 : Int32) + pi3))]) (rest := []) (lenOf pd_25 rfl) rfl (by show 2 * 0 + _ ≤ _; exact Nat.le_of_eq rfl) (hb hby d24_22) (fun _ _ => ⟨rfl, e1, (by decide : 0 + 0 ≤ _), (by decide : 0 + 0 ≤ _)⟩)
  dsimp only [Pt.U, Pt.locs, Pt.cells, Pt.slots] at X2 l2 y2 z2 st2 hQ2
  subst l2 y2 z2
  obtain ⟨Nq2, y2_0, y2_1, rfl, Kc2, p2_0, p2_1, p2_2, p2_3, p2_4, p2_5, p2_6, p2_7, p2_8, p2_9, p2_10, p2_11⟩ := hQ2
  have N2 := Fr.app N0 Nq2
  have K2 : Keep h0 T2.heap ([pr0] : List Addr) := (Keep.refl h0 ([pr0] : List Addr)).trans Kc2 (allS (P := fun x => x ∈ ([pr0] : List Addr) ∨ h0.size ≤ x) (Or.inl (List.mem_of_getElem? (i := 0) rfl)) all0)
  have Z2 : n0 ≤ T2.heap.size := Nat.le_trans Z0 Kc2.1
  have f3 := (P0.keep Kc2 (allS (P := fun x => ∀ c, h0[x]? = some c → c.vm.isStatics = false) (own_nost P2) all0))
  have f4 : Arv Z T2.heap pr1 kc .char (8 : Int32) [(.int 120), (.int 120), (.int 120), (.int 120), (.int 120), (.int 120), (.int 120), (.int 120)] (.int 0) := (P15.keep Kc2 (ninS P16 nin0))
  obtain ⟨T5, h5, L5, ph2_5, X5, e5, N5, Kc5, Z5, p5_0, p5_1, p5_2, p5_3, p5_4, p5_5, p5_6, p5_7, p5_8, p5_9, p5_10, p5_11, st5⟩ := own_rt0 pr0 pr1 pi3 ((0 : Int32) + pi3) (1 : Int32) ev ns sg phS phF phA phD co ct y2_1 wz (3 : Int64) y2_0 (0 : Int64) kc X2 hx hZ hw hby hml hown rfl N2 Z2 f3 P1 p2_0 p2_1 p2_2 p2_3 p2_4 p2_5 p2_6 p2_7 p2_8 p2_9 p2_10 P13 p2_11 f4 P16 P17 (by decide) (own_ltn (b := (5 : Int32)) (by decide) P18) (by decide : ¬ ((3 : Int64) < ((0 : Int64) + (1 : Int64))))
  have K5 : Keep h0 h5 ([pr0] : List Addr) := K2.trans Kc5 (allS (P := fun x => x ∈ ([pr0] : List Addr) ∨ h0.size ≤ x) (Or.inl (List.mem_of_getElem? (i := 0) rfl)) all0)
  have f6 := (f3.keep Kc5 (allS (P := fun x => ∀ c, T2.heap[x]? = some c → c.vm.isStatics = false) (own_nost p2_0) all0))
  have f7 : Arv Z h5 pr1 kc .char (8 : Int32) [(.int 120), (.int 120), (.int 120), (.int 120), (.int 120), (.int 120), (.int 120), (.int 120)] (.int 0) := (f4.keep Kc5 (ninS P16 nin0))
  obtain ⟨T8, h8, L8, ph2_8, X8, e8, N8, Kc8, Z8, p8_0, p8_1, p8_2, p8_3, p8_4, p8_5, p8_6, p8_7, p8_8, p8_9, p8_10, p8_11, st8⟩ := own_rt1 pr0 pr1 pi3 ((0 : Int32) + pi3) (2 : Int32) ev ns sg phS phF phA phD co ct ph2_5 wz (3 : Int64) y2_0 ((0 : Int64) + (1 : Int64)) kc X5 hx hZ hw hby hml hown e5 N5 Z5 f6 P1 p5_0 p5_1 p5_2 p5_3 p5_4 p5_5 p5_6 p5_7 p5_8 p5_9 p5_10 P13 p5_11 f7 P16 P17 (by decide) (own_ltn (b := (5 : Int32)) (by decide) P18) (by decide : ¬ ((3 : Int64) < (((0 : Int64) + (1 : Int64)) + (1 : Int64))))
  have K8 : Keep h0 h8 ([pr0] : List Addr) := K5.trans Kc8 (allS (P := fun x => x ∈ ([pr0] : List Addr) ∨ h0.size ≤ x) (Or.inl (List.mem_of_getElem? (i := 0) rfl)) all0)
  have f9 := (f6.keep Kc8 (allS (P := fun x => ∀ c, h5[x]? = some c → c.vm.isStatics = false) (own_nost p5_0) all0))
  have f10 : Arv Z h8 pr1 kc .char (8 : Int32) [(.int 120), (.int 120), (.int 120), (.int 120), (.int 120), (.int 120), (.int 120), (.int 120)] (.int 0) := (f7.keep Kc8 (ninS P16 nin0))
  obtain ⟨T11, h11, L11, ph2_11, X11, e11, N11, Kc11, Z11, p11_0, p11_1, p11_2, p11_3, p11_4, p11_5, p11_6, p11_7, p11_8, p11_9, p11_10, p11_11, st11⟩ := own_rt1 pr0 pr1 pi3 ((0 : Int32) + pi3) (3 : Int32) ev ns sg phS phF phA phD co ct ph2_8 wz (3 : Int64) y2_0 (((0 : Int64) + (1 : Int64)) + (1 : Int64)) kc X8 hx hZ hw hby hml hown e8 N8 Z8 f9 P1 p8_0 p8_1 p8_2 p8_3 p8_4 p8_5 p8_6 p8_7 p8_8 p8_9 p8_10 P13 p8_11 f10 P16 P17 (by decide) (own_ltn (b := (5 : Int32)) (by decide) P18) (by decide : ¬ ((3 : Int64) < ((((0 : Int64) + (1 : Int64)) + (1 : Int64)) + (1 : Int64))))
  have K11 : Keep h0 h11 ([pr0] : List Addr) := K8.trans Kc11 (allS (P := fun x => x ∈ ([pr0] : List Addr) ∨ h0.size ≤ x) (Or.inl (List.mem_of_getElem? (i := 0) rfl)) all0)
  have f12 := (f9.keep Kc11 (allS (P := fun x => ∀ c, h8[x]? = some c → c.vm.isStatics = false) (own_nost p8_0) all0))
  have f13 : Arv Z h11 pr1 kc .char (8 : Int32) [(.int 120), (.int 120), (.int 120), (.int 120), (.int 120), (.int 120), (.int 120), (.int 120)] (.int 0) := (f10.keep Kc11 (ninS P16 nin0))
  obtain ⟨T14, h14, L14, ph2_14, X14, e14, N14, Kc14, Z14, p14_0, p14_1, p14_2, p14_3, p14_4, p14_5, p14_6, p14_7, p14_8, p14_9, p14_10, p14_11, st14⟩ := own_re1 pr0 pr1 pi3 ((0 : Int32) + pi3) (4 : Int32) ev ns sg phS phF phA phD co ct ph2_11 wz (3 : Int64) y2_0 ((((0 : Int64) + (1 : Int64)) + (1 : Int64)) + (1 : Int64)) kc X11 hx hZ hw hby hml hown e11 N11 Z11 f12 P1 p11_0 p11_1 p11_2 p11_3 p11_4 p11_5 p11_6 p11_7 p11_8 p11_9 p11_10 P13 p11_11 f13 P16 P17 (by decide) (own_ltn (b := (5 : Int32)) (by decide) P18) (by decide : (3 : Int64) < (((((0 : Int64) + (1 : Int64)) + (1 : Int64)) + (1 : Int64)) + (1 : Int64)))
  have K14 : Keep h0 h14 ([pr0] : List Addr) := K11.trans Kc14 (allS (P := fun x => x ∈ ([pr0] : List Addr) ∨ h0.size ≤ x) (Or.inl (List.mem_of_getElem? (i := 0) rfl)) all0)
  have go15 : ∀ t, own_S p e below (T14.setTop (mkF m 102 #[rv pr0, rv pr1, iv 0, iv pi3, .val .null, .val (.int ((0 : Int32) + pi3)), iv 0, iv 4, iv 120, rv co] [(.int 0)])) t → Steps p.tables e below st0 t := by
    intro t kt
    refine go0 t ?_
    refine XS.aloadN X0.here hx rfl (hb hby d24_0) rfl rfl ?_
    show own_S p e below (s₁.setTop (mkF m 1 #[rv pr0, rv pr1, iv 0, iv pi3, .val .null, .unset, .unset, .unset, .unset, .unset] [(.ref pr0)])) _
    refine st1 _ ?_
    show own_S p e below (T1.setTop (mkF m 4 #[rv pr0, rv pr1, iv 0, iv pi3, .val .null, .unset, .unset, .unset, .unset, .unset] [(.int 0)])) _
    refine XS.ifYes X1.here hx rfl (pc0 := 4) (pc' := 9) rfl (hb hby d24_4) rfl ((if0 _ _).trans (teq (by decide : (0 : Int32) = (0 : Int32))).1) (by decide) (by decide) ?_
    refine XS.iloadN X1.here hx rfl (hb hby d24_9) rfl ?_
    refine XS.iloadN X1.here hx rfl (hb hby d24_10) rfl ?_
    refine XS.iadd X1.here hx rfl (hb hby d24_11) rfl ?_
    show own_S p e below (T1.setTop (mkF m 12 #[rv pr0, rv pr1, iv 0, iv pi3, .val .null, .unset, .unset, .unset, .unset, .unset] [(.int ((0 : Int32) + pi3))])) _
    refine XS.istore X1.here hx rfl (hb hby d24_12) rfl (l' := #[rv pr0, rv pr1, iv 0, iv pi3, .val .null, .val (.int ((0 : Int32) + pi3)), .unset, .unset, .unset, .unset]) rfl ?_
    refine XS.iloadN X1.here hx rfl (hb hby d24_14) rfl ?_
    show own_S p e below (T1.setTop (mkF m 15 #[rv pr0, rv pr1, iv 0, iv pi3, .val .null, .val (.int ((0 : Int32) + pi3)), .unset, .unset, .unset, .unset] [(.int 0)])) _
    refine XS.istore X1.here hx rfl (hb hby d24_15) rfl (l' := #[rv pr0, rv pr1, iv 0, iv pi3, .val .null, .val (.int ((0 : Int32) + pi3)), iv 0, .unset, .unset, .unset]) rfl ?_
    refine XS.aloadN X1.here hx rfl (hb hby d24_17) rfl rfl ?_
    refine XS.aloadN X1.here hx rfl (hb hby d24_18) rfl rfl ?_
    refine XS.iloadN X1.here hx rfl (hb hby d24_19) rfl ?_
    show own_S p e below (T1.setTop (mkF m 20 #[rv pr0, rv pr1, iv 0, iv pi3, .val .null, .val (.int ((0 : Int32) + pi3)), iv 0, .unset, .unset, .unset] [(.int 0), (.ref pr1), (.ref pr0)])) _
    refine XS.iload X1.here hx rfl (hb hby d24_20) rfl ?_
    show own_S p e below (T1.setTop (mkF m 22 #[rv pr0, rv pr1, iv 0, iv pi3, .val .null, .val (.int ((0 : Int32) + pi3)), iv 0, .unset, .unset, .unset] [(.int ((0 : Int32) + pi3)), (.int 0), (.ref pr1), (.ref pr0)])) _
    refine st2.trans ?_
    show own_S p e below (T2.setTop (mkF m 25 #[rv pr0, rv pr1, iv 0, iv pi3, .val .null, .val (.int ((0 : Int32) + pi3)), iv 0, .unset, .unset, .unset] [(.int 1)])) _
    refine XS.istore X2.here hx rfl (hb hby d24_25) rfl (l' := #[rv pr0, rv pr1, iv 0, iv pi3, .val .null, .val (.int ((0 : Int32) + pi3)), iv 0, iv 1, .unset, .unset]) rfl ?_
    show own_S p e below (T2.setTop (mkF m 27 #[rv pr0, rv pr1, iv 0, iv pi3, .val .null, .val (.int ((0 : Int32) + pi3)), iv 0, iv 1, .unset, .unset] [])) _
    refine st5 _ ?_
    show own_S p e below (T5.setTop (mkF m 27 #[rv pr0, rv pr1, iv 0, iv pi3, .val .null, .val (.int ((0 : Int32) + pi3)), iv 0, iv 2, iv 120, rv co] [])) _
    refine st8 _ ?_
    show own_S p e below (T8.setTop (mkF m 27 #[rv pr0, rv pr1, iv 0, iv pi3, .val .null, .val (.int ((0 : Int32) + pi3)), iv 0, iv 3, iv 120, rv co] [])) _
    refine st11 _ ?_
    show own_S p e below (T11.setTop (mkF m 27 #[rv pr0, rv pr1, iv 0, iv pi3, .val .null, .val (.int ((0 : Int32) + pi3)), iv 0, iv 4, iv 120, rv co] [])) _
    refine st14 _ ?_
    refine XS.iconst X14.here hx rfl (hb hby d24_101) ?_
    show own_S p e below (T14.setTop (mkF m 102 #[rv pr0, rv pr1, iv 0, iv pi3, .val .null, .val (.int ((0 : Int32) + pi3)), iv 0, iv 4, iv 120, rv co] [(.int 0)])) _
    exact kt
  obtain ⟨fs, hr, hrun, hended, hW, hsame⟩ := X14.leave (v := some (.int 0)) (fun h => by rw [Bd.returns] at h; cases h)
  refine ⟨_, _, go15 _ ?_, hrun, hended, _, _, rfl, ?_, ⟨_, rfl⟩, hW, hsame.mono (by decide) (by decide)⟩
  · exact retN X14 hx (t := .boolean) Bd.returns (by simp) (hb hby d24_102) hr
  · show Q_own_read32 Z pr0 pr1 pi3 ev ns sg phS phF phA phD co ct ph wz kc h0 n0 _ T14.heap _
    rw [e14]
    exact ⟨N14, y2_0, (((((0 : Int64) + (1 : Int64)) + (1 : Int64)) + (1 : Int64)) + (1 : Int64)), ph2_14, rfl, K14, p14_0, p14_1, p14_2, p14_3, p14_4, p14_5, p14_6, p14_7, p14_8, p14_9, p14_10⟩
theorem ef_own_read33 (m : MethodId) (pr0 : Addr) (pr1 : Addr) (pi3 : Int32) : entryFrame m #[(.ref pr0), (.ref pr1), (.int 0), (.int pi3), .null] 10 = mkF m 0 #[rv pr0, rv pr1, iv 0, iv pi3, .val .null, .unset, .unset, .unset, .unset, .unset] [] := by first | (simp [entryFrame, mkF, argsToLocals, Value.category]; done) | rfl
def Q_own_read33 (Z : State) (pr0 : Addr) (pr1 : Addr) (pi3 : Int32) (ev : Addr) (ns : Addr) (sg : Addr) (phS : Addr) (phF : Addr) (phA : Addr) (phD : Addr) (co : Addr) (ct : Addr) (ph : Addr) (wz : Int32) (kc : ClassId) (h0 : Heap) (n0 : Nat) (v : Option Value) (h : Heap) (L : List Loc) : Prop := Fr n0 L ∧ ∃ (wl2 : Int64) (wc2 : Int64) (ph2 : Addr), v = some (.int 0) ∧ Keep h0 h ([pr0] : List Addr) ∧ Exa Z h pr0 own_s0 ∧ Fld Z h pr0 own_s0 "count" own_s1 (.ref ct) ∧ Fld Z h pr0 own_s0 own_s2 "Z" (.int wz) ∧ Fld Z h pr0 own_s0 "most" "J" (.long 3) ∧ Fld Z h pr0 own_s0 "length" "J" (.long wl2) ∧ Fld Z h pr0 own_s0 "past" "Z" (.int 1) ∧ Fld Z h pr0 own_s0 "over" "Z" (.int 1) ∧ Fld Z h pr0 own_s0 "counted" "J" (.long wc2) ∧ Fld Z h pr0 own_s0 "phase" own_s4 (.ref ph2) ∧ Fld Z h pr0 own_s0 "run" own_s5 .null ∧ Fld Z h pr0 own_s0 own_s3 "J" (.long 0)
set_option maxRecDepth 65536 in
set_option maxHeartbeats 40000000 in
theorem own_read33 (l : Launch) (Z : State) (a0 : Array Value) (hw : ∀ d ∈ tables_1, d.before a0 Z = true) (ws : List Jvm.Cond) (pr0 : Addr) (pr1 : Addr) (pi3 : Int32) (ev : Addr) (ns : Addr) (sg : Addr) (phS : Addr) (phF : Addr) (phA : Addr) (phD : Addr) (co : Addr) (ct : Addr) (ph : Addr) (wz : Int32) (kc : ClassId) (h0 : Heap) (n0 : Nat) (Z0 : n0 ≤ h0.size) (P0 : own_ST Z h0 ev ns sg phS phF phA phD co) (P1 : own_NN ev ns sg phS phF phA phD co) (P2 : Exa Z h0 pr0 own_s0) (P3 : Fld Z h0 pr0 own_s0 "count" own_s1 (.ref ct)) (P4 : Fld Z h0 pr0 own_s0 own_s2 "Z" (.int wz)) (P5 : Fld Z h0 pr0 own_s0 "most" "J" (.long 3)) (P6 : Fld Z h0 pr0 own_s0 "length" "J" (.long 3)) (P7 : Fld Z h0 pr0 own_s0 "past" "Z" (.int 0)) (P8 : Fld Z h0 pr0 own_s0 "over" "Z" (.int 0)) (P9 : Fld Z h0 pr0 own_s0 "counted" "J" (.long 0)) (P10 : Fld Z h0 pr0 own_s0 "phase" own_s4 (.ref ph)) (P11 : Fld Z h0 pr0 own_s0 "run" own_s5 .null) (P12 : Fld Z h0 pr0 own_s0 own_s3 "J" (.long 0)) (P13 : ct = ev ∨ ct = ns ∨ ct = sg) (P14 : ph = phS ∨ ph = phD) (P15 : Arv Z h0 pr1 kc .char (8 : Int32) [(.int 120), (.int 120), (.int 120), (.int 120), (.int 120), (.int 120), (.int 120), (.int 120)] (.int 0)) (P16 : pr1 ≠ pr0) (P17 : n0 ≤ pr0) (P18 : ¬ (pi3 < (4 : Int32))) :
    MetFree l (⟨own_s0, "read", own_s8⟩ : MethodName) (head1 (Jvm.Cond.code (⟨own_s0, "read", own_s8⟩ : MethodName) prog_127_method_6_code 10 (some .boolean) :: ws) ({ frames := 3, cells := 0, slots := 0, locals := 80 } : Room)) (fun a U => a = #[(.ref pr0), (.ref pr1), (.int 0), (.int pi3), .null] ∧ Z.Warmed39 U.vm ∧ U.heap = h0) (fun _ _ _ _ _ => True) (fun _ U o U' => ∃ v L, o = .returned v ∧ Q_own_read33 Z pr0 pr1 pi3 ev ns sg phS phF phA phD co ct ph wz kc h0 n0 v U'.heap L ∧ FrameEnd U o U' L ({ frames := 3, cells := 0, slots := 0, locals := 80 } : Room).cells ({ frames := 3, cells := 0, slots := 0, locals := 80 } : Room).slots) := by
  refine MetFree.of_bodySF (plainFor_of_name pn_8) hisR ?_
  intro p e s m args below meth c s₁ Bd hml0 hP hK
  obtain ⟨rfl, hZ, hh⟩ := hP
  have hx := Bd.exec
  have hby := Bd.bytes
  have hml : c.maxLocals = 10 := hml0
  have hown : s.vm.findClass own_s0 = some m.cls := findClass_of_methodNamed Bd.named
  have hnm := (name_of_methodNamed Bd.named Bd.method).1
  have X0 : Stand p l e ({ frames := 3, cells := 0, slots := 0, locals := 80 } : Room) s m #[(.ref pr0), (.ref pr1), (.int 0), (.int pi3), .null] below meth c s₁ [] 0 0 := Stand.of_body Bd
  have e0 : s₁.heap = h0 := by rw [← hh, Bd.state]; rfl
  have N0 := Fr.nil n0
  have go0 : ∀ t, own_S p e below (s₁.setTop (mkF m 0 #[rv pr0, rv pr1, iv 0, iv pi3, .val .null, .unset, .unset, .unset, .unset, .unset] [])) t → Steps p.tables e below (s₁.setTop (entryFrame m #[(.ref pr0), (.ref pr1), (.int 0), (.int pi3), .null] 10)) t := fun t k => castTop (ef_own_read33 m pr0 pr1 pi3) k
  revert go0
  generalize s₁.setTop (entryFrame m #[(.ref pr0), (.ref pr1), (.int 0), (.int pi3), .null] 10) = st0
  intro go0
  obtain ⟨T1, X1, e1, st1⟩ := getF X0 hx hZ hown (host := "") (Or.inl (own_w hw 70 rfl)) Via.refl e0 P8 (g := (mkF m 1 #[rv pr0, rv pr1, iv 0, iv pi3, .val .null, .unset, .unset, .unset, .unset, .unset] [(.ref pr0)])) rfl rfl (hb hby d24_1)
  obtain ⟨cq2, q2, q2'⟩ := P2.cell
  obtain ⟨_, _, ⟨T2, L2, k2, n2⟩, -, X2, ⟨Lc2, hQ2, l2, y2, z2⟩, st2⟩ := X1.privateBack hx (y := (⟨own_s0, "within", "([CII)I"⟩ : MethodName)) hown (mvT hZ (own_w hw 102 rfl)) (mvT hZ (own_w hw 103 rfl)) (Jvm.Kit.selects_private (by decide) (mvT hZ (own_w hw 13 rfl)) (mvP hZ (own_w hw 104 rfl)) (mvT hZ (own_w hw 103 rfl))) (Cond.privateMethod_at (mvP hZ (own_w hw 104 rfl) (args := #[]))) (mvT hZ (own_w hw 105 rfl)) (by decide) (backOf (W := 0) (own_within0 l Z a0 hw [] pr0 pr1 ((0 : Int32) + pi3) ev ns sg phS phF phA phD co ct ph wz (3 : Int64) (3 : Int64) (0 : Int32) (0 : Int64) kc h0 n0 Z0 P0 P1 P2 P3 P4 P5 P6 P7 P8 P9 P10 P11 P12 P13 P14 P15 P16 P17 (own_ltn (b := (4 : Int32)) (by decide) P18) (by decide : (3 : Int64) < ((3 : Int64) + (1 : Int64))) (own_ltE (b := (4 : Int32)) (by decide) P18) (by decide : ((0 : Int32) + (((3 : Int64) - (3 : Int64)).toInt32)) = (0 : Int32))) hZ (own_w hw 105 rfl) (own_w hw 14 rfl) (by decide) (by decide)) (g := (mkF m 22 #[rv pr0, rv pr1, iv 0, iv pi3, .val .null, .val (.int ((0 : Int32) + pi3)), iv 0, .unset, .unset, .unset] [(.int ((0 : Int32) + pi3)), (.int 0), (.ref pr1), (.ref pr0)])) rfl (by rw [hml]; rfl) (Steps.refl _) (a := pr0) (by rw [e1]; exact q2) q2' (argsL := [(.ref pr1), (.int 0), (.int ((0 : Int32) + pi3))]) (rest := []) (lenOf pd_25 rfl) rfl (by show 2 * 0 + _ ≤ _; exact Nat.le_of_eq rfl) (hb hby d24_22) (fun _ _ => ⟨rfl, e1, (by decide : 0 + 0 ≤ _), (by decide : 0 + 0 ≤ _)⟩)
  dsimp only [Pt.U, Pt.locs, Pt.cells, Pt.slots] at X2 l2 y2 z2 st2 hQ2
  subst l2 y2 z2
  obtain ⟨Nq2, y2_0, y2_1, rfl, Kc2, p2_0, p2_1, p2_2, p2_3, p2_4, p2_5, p2_6, p2_7, p2_8, p2_9, p2_10, p2_11⟩ := hQ2
  have N2 := Fr.app N0 Nq2
  have K2 : Keep h0 T2.heap ([pr0] : List Addr) := (Keep.refl h0 ([pr0] : List Addr)).trans Kc2 (allS (P := fun x => x ∈ ([pr0] : List Addr) ∨ h0.size ≤ x) (Or.inl (List.mem_of_getElem? (i := 0) rfl)) all0)
  have Z2 : n0 ≤ T2.heap.size := Nat.le_trans Z0 Kc2.1
  have f3 := (P0.keep Kc2 (allS (P := fun x => ∀ c, h0[x]? = some c → c.vm.isStatics = false) (own_nost P2) all0))
  have f4 : Arv Z T2.heap pr1 kc .char (8 : Int32) [(.int 120), (.int 120), (.int 120), (.int 120), (.int 120), (.int 120), (.int 120), (.int 120)] (.int 0) := (P15.keep Kc2 (ninS P16 nin0))
  obtain ⟨T5, h5, L5, ph2_5, X5, e5, N5, Kc5, Z5, p5_0, p5_1, p5_2, p5_3, p5_4, p5_5, p5_6, p5_7, p5_8, p5_9, p5_10, p5_11, st5⟩ := own_rt0 pr0 pr1 pi3 ((0 : Int32) + pi3) (0 : Int32) ev ns sg phS phF phA phD co ct y2_1 wz (3 : Int64) y2_0 (0 : Int64) kc X2 hx hZ hw hby hml hown rfl N2 Z2 f3 P1 p2_0 p2_1 p2_2 p2_3 p2_4 p2_5 p2_6 p2_7 p2_8 p2_9 p2_10 P13 p2_11 f4 P16 P17 (by decide) (own_ltn (b := (4 : Int32)) (by decide) P18) (by decide : ¬ ((3 : Int64) < ((0 : Int64) + (1 : Int64))))
  have K5 : Keep h0 h5 ([pr0] : List Addr) := K2.trans Kc5 (allS (P := fun x => x ∈ ([pr0] : List Addr) ∨ h0.size ≤ x) (Or.inl (List.mem_of_getElem? (i := 0) rfl)) all0)
  have f6 := (f3.keep Kc5 (allS (P := fun x => ∀ c, T2.heap[x]? = some c → c.vm.isStatics = false) (own_nost p2_0) all0))
  have f7 : Arv Z h5 pr1 kc .char (8 : Int32) [(.int 120), (.int 120), (.int 120), (.int 120), (.int 120), (.int 120), (.int 120), (.int 120)] (.int 0) := (f4.keep Kc5 (ninS P16 nin0))
  obtain ⟨T8, h8, L8, ph2_8, X8, e8, N8, Kc8, Z8, p8_0, p8_1, p8_2, p8_3, p8_4, p8_5, p8_6, p8_7, p8_8, p8_9, p8_10, p8_11, st8⟩ := own_rt1 pr0 pr1 pi3 ((0 : Int32) + pi3) (1 : Int32) ev ns sg phS phF phA phD co ct ph2_5 wz (3 : Int64) y2_0 ((0 : Int64) + (1 : Int64)) kc X5 hx hZ hw hby hml hown e5 N5 Z5 f6 P1 p5_0 p5_1 p5_2 p5_3 p5_4 p5_5 p5_6 p5_7 p5_8 p5_9 p5_10 P13 p5_11 f7 P16 P17 (by decide) (own_ltn (b := (4 : Int32)) (by decide) P18) (by decide : ¬ ((3 : Int64) < (((0 : Int64) + (1 : Int64)) + (1 : Int64))))
  have K8 : Keep h0 h8 ([pr0] : List Addr) := K5.trans Kc8 (allS (P := fun x => x ∈ ([pr0] : List Addr) ∨ h0.size ≤ x) (Or.inl (List.mem_of_getElem? (i := 0) rfl)) all0)
  have f9 := (f6.keep Kc8 (allS (P := fun x => ∀ c, h5[x]? = some c → c.vm.isStatics = false) (own_nost p5_0) all0))
  have f10 : Arv Z h8 pr1 kc .char (8 : Int32) [(.int 120), (.int 120), (.int 120), (.int 120), (.int 120), (.int 120), (.int 120), (.int 120)] (.int 0) := (f7.keep Kc8 (ninS P16 nin0))
  obtain ⟨T11, h11, L11, ph2_11, X11, e11, N11, Kc11, Z11, p11_0, p11_1, p11_2, p11_3, p11_4, p11_5, p11_6, p11_7, p11_8, p11_9, p11_10, p11_11, st11⟩ := own_rt1 pr0 pr1 pi3 ((0 : Int32) + pi3) (2 : Int32) ev ns sg phS phF phA phD co ct ph2_8 wz (3 : Int64) y2_0 (((0 : Int64) + (1 : Int64)) + (1 : Int64)) kc X8 hx hZ hw hby hml hown e8 N8 Z8 f9 P1 p8_0 p8_1 p8_2 p8_3 p8_4 p8_5 p8_6 p8_7 p8_8 p8_9 p8_10 P13 p8_11 f10 P16 P17 (by decide) (own_ltn (b := (4 : Int32)) (by decide) P18) (by decide : ¬ ((3 : Int64) < ((((0 : Int64) + (1 : Int64)) + (1 : Int64)) + (1 : Int64))))
  have K11 : Keep h0 h11 ([pr0] : List Addr) := K8.trans Kc11 (allS (P := fun x => x ∈ ([pr0] : List Addr) ∨ h0.size ≤ x) (Or.inl (List.mem_of_getElem? (i := 0) rfl)) all0)
  have f12 := (f9.keep Kc11 (allS (P := fun x => ∀ c, h8[x]? = some c → c.vm.isStatics = false) (own_nost p8_0) all0))
  have f13 : Arv Z h11 pr1 kc .char (8 : Int32) [(.int 120), (.int 120), (.int 120), (.int 120), (.int 120), (.int 120), (.int 120), (.int 120)] (.int 0) := (f10.keep Kc11 (ninS P16 nin0))
  obtain ⟨T14, h14, L14, ph2_14, X14, e14, N14, Kc14, Z14, p14_0, p14_1, p14_2, p14_3, p14_4, p14_5, p14_6, p14_7, p14_8, p14_9, p14_10, p14_11, st14⟩ := own_re1 pr0 pr1 pi3 ((0 : Int32) + pi3) (3 : Int32) ev ns sg phS phF phA phD co ct ph2_11 wz (3 : Int64) y2_0 ((((0 : Int64) + (1 : Int64)) + (1 : Int64)) + (1 : Int64)) kc X11 hx hZ hw hby hml hown e11 N11 Z11 f12 P1 p11_0 p11_1 p11_2 p11_3 p11_4 p11_5 p11_6 p11_7 p11_8 p11_9 p11_10 P13 p11_11 f13 P16 P17 (by decide) (own_ltn (b := (4 : Int32)) (by decide) P18) (by decide : (3 : Int64) < (((((0 : Int64) + (1 : Int64)) + (1 : Int64)) + (1 : Int64)) + (1 : Int64)))
  have K14 : Keep h0 h14 ([pr0] : List Addr) := K11.trans Kc14 (allS (P := fun x => x ∈ ([pr0] : List Addr) ∨ h0.size ≤ x) (Or.inl (List.mem_of_getElem? (i := 0) rfl)) all0)
  have go15 : ∀ t, own_S p e below (T14.setTop (mkF m 102 #[rv pr0, rv pr1, iv 0, iv pi3, .val .null, .val (.int ((0 : Int32) + pi3)), iv 0, iv 3, iv 120, rv co] [(.int 0)])) t → Steps p.tables e below st0 t := by
    intro t kt
    refine go0 t ?_
    refine XS.aloadN X0.here hx rfl (hb hby d24_0) rfl rfl ?_
    show own_S p e below (s₁.setTop (mkF m 1 #[rv pr0, rv pr1, iv 0, iv pi3, .val .null, .unset, .unset, .unset, .unset, .unset] [(.ref pr0)])) _
    refine st1 _ ?_
    show own_S p e below (T1.setTop (mkF m 4 #[rv pr0, rv pr1, iv 0, iv pi3, .val .null, .unset, .unset, .unset, .unset, .unset] [(.int 0)])) _
    refine XS.ifYes X1.here hx rfl (pc0 := 4) (pc' := 9) rfl (hb hby d24_4) rfl ((if0 _ _).trans (teq (by decide : (0 : Int32) = (0 : Int32))).1) (by decide) (by decide) ?_
    refine XS.iloadN X1.here hx rfl (hb hby d24_9) rfl ?_
    refine XS.iloadN X1.here hx rfl (hb hby d24_10) rfl ?_
    refine XS.iadd X1.here hx rfl (hb hby d24_11) rfl ?_
    show own_S p e below (T1.setTop (mkF m 12 #[rv pr0, rv pr1, iv 0, iv pi3, .val .null, .unset, .unset, .unset, .unset, .unset] [(.int ((0 : Int32) + pi3))])) _
    refine XS.istore X1.here hx rfl (hb hby d24_12) rfl (l' := #[rv pr0, rv pr1, iv 0, iv pi3, .val .null, .val (.int ((0 : Int32) + pi3)), .unset, .unset, .unset, .unset]) rfl ?_
    refine XS.iloadN X1.here hx rfl (hb hby d24_14) rfl ?_
    show own_S p e below (T1.setTop (mkF m 15 #[rv pr0, rv pr1, iv 0, iv pi3, .val .null, .val (.int ((0 : Int32) + pi3)), .unset, .unset, .unset, .unset] [(.int 0)])) _
    refine XS.istore X1.here hx rfl (hb hby d24_15) rfl (l' := #[rv pr0, rv pr1, iv 0, iv pi3, .val .null, .val (.int ((0 : Int32) + pi3)), iv 0, .unset, .unset, .unset]) rfl ?_
    refine XS.aloadN X1.here hx rfl (hb hby d24_17) rfl rfl ?_
    refine XS.aloadN X1.here hx rfl (hb hby d24_18) rfl rfl ?_
    refine XS.iloadN X1.here hx rfl (hb hby d24_19) rfl ?_
    show own_S p e below (T1.setTop (mkF m 20 #[rv pr0, rv pr1, iv 0, iv pi3, .val .null, .val (.int ((0 : Int32) + pi3)), iv 0, .unset, .unset, .unset] [(.int 0), (.ref pr1), (.ref pr0)])) _
    refine XS.iload X1.here hx rfl (hb hby d24_20) rfl ?_
    show own_S p e below (T1.setTop (mkF m 22 #[rv pr0, rv pr1, iv 0, iv pi3, .val .null, .val (.int ((0 : Int32) + pi3)), iv 0, .unset, .unset, .unset] [(.int ((0 : Int32) + pi3)), (.int 0), (.ref pr1), (.ref pr0)])) _
    refine st2.trans ?_
    show own_S p e below (T2.setTop (mkF m 25 #[rv pr0, rv pr1, iv 0, iv pi3, .val .null, .val (.int ((0 : Int32) + pi3)), iv 0, .unset, .unset, .unset] [(.int 0)])) _
    refine XS.istore X2.here hx rfl (hb hby d24_25) rfl (l' := #[rv pr0, rv pr1, iv 0, iv pi3, .val .null, .val (.int ((0 : Int32) + pi3)), iv 0, iv 0, .unset, .unset]) rfl ?_
    show own_S p e below (T2.setTop (mkF m 27 #[rv pr0, rv pr1, iv 0, iv pi3, .val .null, .val (.int ((0 : Int32) + pi3)), iv 0, iv 0, .unset, .unset] [])) _
    refine st5 _ ?_
    show own_S p e below (T5.setTop (mkF m 27 #[rv pr0, rv pr1, iv 0, iv pi3, .val .null, .val (.int ((0 : Int32) + pi3)), iv 0, iv 1, iv 120, rv co] [])) _
    refine st8 _ ?_
    show own_S p e below (T8.setTop (mkF m 27 #[rv pr0, rv pr1, iv 0, iv pi3, .val .null, .val (.int ((0 : Int32) + pi3)), iv 0, iv 2, iv 120, rv co] [])) _
    refine st11 _ ?_
    show own_S p e below (T11.setTop (mkF m 27 #[rv pr0, rv pr1, iv 0, iv pi3, .val .null, .val (.int ((0 : Int32) + pi3)), iv 0, iv 3, iv 120, rv co] [])) _
    refine st14 _ ?_
    refine XS.iconst X14.here hx rfl (hb hby d24_101) ?_
    show own_S p e below (T14.setTop (mkF m 102 #[rv pr0, rv pr1, iv 0, iv pi3, .val .null, .val (.int ((0 : Int32) + pi3)), iv 0, iv 3, iv 120, rv co] [(.int 0)])) _
    exact kt
  obtain ⟨fs, hr, hrun, hended, hW, hsame⟩ := X14.leave (v := some (.int 0)) (fun h => by rw [Bd.returns] at h; cases h)
  refine ⟨_, _, go15 _ ?_, hrun, hended, _, _, rfl, ?_, ⟨_, rfl⟩, hW, hsame.mono (by decide) (by decide)⟩
  · exact retN X14 hx (t := .boolean) Bd.returns (by simp) (hb hby d24_102) hr
  · show Q_own_read33 Z pr0 pr1 pi3 ev ns sg phS phF phA phD co ct ph wz kc h0 n0 _ T14.heap _
    rw [e14]
    exact ⟨N14, y2_0, (((((0 : Int64) + (1 : Int64)) + (1 : Int64)) + (1 : Int64)) + (1 : Int64)), ph2_14, rfl, K14, p14_0, p14_1, p14_2, p14_3, p14_4, p14_5, p14_6, p14_7, p14_8, p14_9, p14_10⟩
set_option maxRecDepth 65536 in
set_option maxHeartbeats 40000000 in
theorem own_qt {p : Program} {l : Launch} {e : Env} {s : State} {m : MethodId} {args : Array Value} {below : List Frame} {meth : Method} {c : Code} {T0 : State} {locs : List Loc} {Z : State} {a0 : Array Value} {h0 : Heap} {n0 : Nat} (th : Addr) (ba : Addr) (to : Int32) (ln : Int32) (i : Int32) (ev : Addr) (ns : Addr) (sg : Addr) (phS : Addr) (phF : Addr) (phA : Addr) (phD : Addr) (co : Addr) (ct : Addr) (ph : Addr) (wz : Int32) (wm : Int64) (wl : Int64) (wp : Int32) (wo : Int32) (wc : Int64) (kb : ClassId) (X0 : Stand p l e ({ frames := 2, cells := 0, slots := 0, locals := 60 } : Room) s m args below meth c T0 locs 0 0) (hx : p.tables.exec = Jvm.exec) (hZ : Z.Warmed39 s.vm) (hw : ∀ d ∈ tables_1, d.before a0 Z = true) (hby : c.code = prog_127_method_8_code) (hml : c.maxLocals = 6) (hown : s.vm.findClass own_s0 = some m.cls) (e0 : T0.heap = h0) (N0 : Fr n0 locs) (Z0 : n0 ≤ h0.size) (P0 : own_ST Z h0 ev ns sg phS phF phA phD co) (P1 : Exa Z h0 th own_s0) (P2 : Fld Z h0 th own_s0 "count" own_s1 (.ref ct)) (P3 : Fld Z h0 th own_s0 own_s2 "Z" (.int wz)) (P4 : Fld Z h0 th own_s0 "most" "J" (.long wm)) (P5 : Fld Z h0 th own_s0 "length" "J" (.long wl)) (P6 : Fld Z h0 th own_s0 "past" "Z" (.int wp)) (P7 : Fld Z h0 th own_s0 "over" "Z" (.int wo)) (P8 : Fld Z h0 th own_s0 "counted" "J" (.long wc)) (P9 : Fld Z h0 th own_s0 "phase" own_s4 (.ref ph)) (P10 : Fld Z h0 th own_s0 "run" own_s5 .null) (P11 : Fld Z h0 th own_s0 own_s3 "J" (.long 0)) (P12 : Arv Z h0 ba kb .byte (8 : Int32) [(.int 120), (.int 120), (.int 120), (.int 120), (.int 120), (.int 120), (.int 120), (.int 120)] (.int 0)) (P13 : own_NN ev ns sg phS phF phA phD co) (P14 : ct = ev ∨ ct = ns ∨ ct = sg) (P15 : ph = phS ∨ ph = phD) (P16 : ba ≠ th) (P17 : n0 ≤ th) (P18 : ¬ (i < 0) ∧ i < (8 : Int32)) (P19 : i < to) :
    ∃ (T' : State) (h' : Heap) (L' : List Loc) (ph2 : Addr), Stand p l e ({ frames := 2, cells := 0, slots := 0, locals := 60 } : Room) s m args below meth c T' L' 0 0 ∧ T'.heap = h' ∧ Fr n0 L' ∧ Keep h0 h' ([th] : List Addr) ∧ n0 ≤ h'.size ∧ own_ST Z h' ev ns sg phS phF phA phD co ∧ Exa Z h' th own_s0 ∧ Fld Z h' th own_s0 "count" own_s1 (.ref ct) ∧ Fld Z h' th own_s0 own_s2 "Z" (.int wz) ∧ Fld Z h' th own_s0 "most" "J" (.long wm) ∧ Fld Z h' th own_s0 "length" "J" (.long wl) ∧ Fld Z h' th own_s0 "past" "Z" (.int wp) ∧ Fld Z h' th own_s0 "over" "Z" (.int wo) ∧ Fld Z h' th own_s0 "counted" "J" (.long wc) ∧ Fld Z h' th own_s0 "phase" own_s4 (.ref ph2) ∧ Fld Z h' th own_s0 "run" own_s5 .null ∧ Fld Z h' th own_s0 own_s3 "J" (.long 0) ∧ Arv Z h' ba kb .byte (8 : Int32) [(.int 120), (.int 120), (.int 120), (.int 120), (.int 120), (.int 120), (.int 120), (.int 120)] (.int 0) ∧ (ph2 = phS ∨ ph2 = phD) ∧ ∀ t, Steps p.tables e below (T'.setTop (mkF m 43 #[rv th, rv ba, iv 0, iv to, iv ln, .val (.int (i + (1 : Int32)))] [])) t → own_S p e below (T0.setTop (mkF m 43 #[rv th, rv ba, iv 0, iv to, iv ln, iv i] [])) t := by
  obtain ⟨st0, hst0⟩ : ∃ zst, zst = T0.setTop (mkF m 43 #[rv th, rv ba, iv 0, iv to, iv ln, iv i] []) := ⟨_, rfl⟩
  have go0 : ∀ t, own_S p e below (T0.setTop (mkF m 43 #[rv th, rv ba, iv 0, iv to, iv ln, iv i] [])) t → Steps p.tables e below st0 t := fun t k => by rw [hst0]; exact k
  rw [← hst0]
  obtain ⟨cl1, Ar1, q1, S1, N1, H1, G1⟩ := id P12
  have hin1 : ¬ (i < 0 ∨ cl1.slots.size ≤ (i).toNatClampNeg) := inb_of S1 P18
  have hat1 : cl1.slots[(i).toNatClampNeg]? = some (.int 120) := Has.at H1 hin1 (own_x120 P18)
  obtain ⟨cq2, q2, q2'⟩ := P1.cell
  obtain ⟨_, _, ⟨T2, L2, k2, n2⟩, -, X2, ⟨Lc2, hQ2, l2, y2, z2⟩, st2⟩ := X0.privateBack hx (y := (⟨own_s0, "role", own_s14⟩ : MethodName)) hown (mvT hZ (own_w hw 107 rfl)) (mvT hZ (own_w hw 108 rfl)) (Jvm.Kit.selects_private (by decide) (mvT hZ (own_w hw 13 rfl)) (mvP hZ (own_w hw 109 rfl)) (mvT hZ (own_w hw 108 rfl))) (Cond.privateMethod_at (mvP hZ (own_w hw 109 rfl) (args := #[]))) (mvT hZ (own_w hw 110 rfl)) (by decide) (backOf (W := 0) (own_role l Z a0 hw [] th ev ns sg phS phF phA phD co ct ph wz wm wl wp wo wc h0 n0 Z0 P0 P13 P1 P2 P3 P4 P5 P6 P7 P8 P9 P10 P11 P14 P15 P17) hZ (own_w hw 110 rfl) (own_w hw 14 rfl) (by decide) (by decide)) (g := (mkF m 55 #[rv th, rv ba, iv 0, iv to, iv ln, iv i] [(.int 120), (.ref th)])) rfl (by rw [hml]; rfl) (Steps.refl _) (a := th) (by rw [e0]; exact q2) q2' (argsL := [(.int 120)]) (rest := []) (lenOf pd_23 rfl) rfl (by show 2 * 0 + _ ≤ _; exact Nat.le_of_eq rfl) (hb hby d26_55) (fun _ _ => ⟨rfl, e0, (by decide : 0 + 0 ≤ _), (by decide : 0 + 0 ≤ _)⟩)
  dsimp only [Pt.U, Pt.locs, Pt.cells, Pt.slots] at X2 l2 y2 z2 st2 hQ2
  subst l2 y2 z2
  obtain ⟨Nq2, y2_0, rfl, Kc2, p2_0, p2_1, p2_2, p2_3, p2_4, p2_5, p2_6, p2_7, p2_8, p2_9, p2_10, p2_11⟩ := hQ2
  have N2 := Fr.app N0 Nq2
  have K2 : Keep h0 T2.heap ([th] : List Addr) := (Keep.refl h0 ([th] : List Addr)).trans Kc2 (allS (P := fun x => x ∈ ([th] : List Addr) ∨ h0.size ≤ x) (Or.inl (List.mem_of_getElem? (i := 0) rfl)) all0)
  have Z2 : n0 ≤ T2.heap.size := Nat.le_trans Z0 Kc2.1
  have go3 : ∀ t, own_S p e below (T2.setTop (mkF m 43 #[rv th, rv ba, iv 0, iv to, iv ln, .val (.int (i + (1 : Int32)))] [])) t → Steps p.tables e below st0 t := by
    intro t kt
    refine go0 t ?_
    refine XS.iload X0.here hx rfl (hb hby d26_43) rfl ?_
    refine XS.iloadN X0.here hx rfl (hb hby d26_45) rfl ?_
    show own_S p e below (T0.setTop (mkF m 46 #[rv th, rv ba, iv 0, iv to, iv ln, iv i] [(.int to), (.int i)])) _
    refine XS.icmpNo X0.here hx rfl (hb hby d26_46) rfl (tlt P19).2.1 ?_
    refine XS.aloadN X0.here hx rfl (hb hby d26_49) rfl rfl ?_
    refine XS.aloadN X0.here hx rfl (hb hby d26_50) rfl rfl ?_
    refine XS.iload X0.here hx rfl (hb hby d26_51) rfl ?_
    show own_S p e below (T0.setTop (mkF m 53 #[rv th, rv ba, iv 0, iv to, iv ln, iv i] [(.int i), (.ref ba), (.ref th)])) _
    refine X0.baloadBytes hx (j := i) (v := (.int 120)) (by rw [e0]; exact Ar1.1) (State.isArrayOf_alike hZ.alike Ar1.2.1) Ar1.2.2 hin1 hat1 (g := (mkF m 53 #[rv th, rv ba, iv 0, iv to, iv ln, iv i] [(.int i), (.ref ba), (.ref th)])) rfl rfl (hb hby d26_53) _ ?_
    show own_S p e below (T0.setTop (mkF m 54 #[rv th, rv ba, iv 0, iv to, iv ln, iv i] [(.int 120), (.ref th)])) _
    refine XS.i2c X0.here hx rfl (hb hby d26_54) rfl ?_
    show own_S p e below (T0.setTop (mkF m 55 #[rv th, rv ba, iv 0, iv to, iv ln, iv i] [(.int 120), (.ref th)])) _
    refine st2.trans ?_
    show own_S p e below (T2.setTop (mkF m 58 #[rv th, rv ba, iv 0, iv to, iv ln, iv i] [(.ref co)])) _
    refine XS.pop X2.here hx rfl (hb hby d26_58) rfl rfl ?_
    show own_S p e below (T2.setTop (mkF m 59 #[rv th, rv ba, iv 0, iv to, iv ln, iv i] [])) _
    refine XS.iinc X2.here hx rfl (hb hby d26_59) rfl (l' := #[rv th, rv ba, iv 0, iv to, iv ln, .val (.int (i + (1 : Int32)))]) rfl ?_
    show own_S p e below (T2.setTop (mkF m 62 #[rv th, rv ba, iv 0, iv to, iv ln, .val (.int (i + (1 : Int32)))] [])) _
    refine XS.goto X2.here hx rfl (pc0 := 62) (pc' := 43) rfl (hb hby d26_62) (by decide) (by decide) ?_
    show own_S p e below (T2.setTop (mkF m 43 #[rv th, rv ba, iv 0, iv to, iv ln, .val (.int (i + (1 : Int32)))] [])) _
    exact kt
  have f4 := (P0.keep Kc2 (allS (P := fun x => ∀ c, h0[x]? = some c → c.vm.isStatics = false) (own_nost P1) all0))
  have f5 : Arv Z T2.heap ba kb .byte (8 : Int32) [(.int 120), (.int 120), (.int 120), (.int 120), (.int 120), (.int 120), (.int 120), (.int 120)] (.int 0) := (P12.keep Kc2 (ninS P16 nin0))
  exact ⟨_, _, _, y2_0, own_mono X2 (by decide) (by decide), rfl, N2, K2, Z2, f4, p2_0, p2_1, p2_2, p2_3, p2_4, p2_5, p2_6, p2_7, p2_8, p2_9, p2_10, f5, p2_11, go3⟩
theorem own_in8 {i to : Int32} (hi : ¬ (i < 0)) (h : i < to) (h8 : ¬ ((8 : Int32) < to)) : ¬ (i < 0) ∧ i < (8 : Int32) := by
  refine ⟨hi, ?_⟩
  rw [Int32.lt_iff_toInt_lt] at *
  omega
set_option maxRecDepth 65536 in
set_option maxHeartbeats 40000000 in
theorem own_qLoop {p : Program} {l : Launch} {e : Env} {s : State} {m : MethodId} {args : Array Value} {below : List Frame} {meth : Method} {c : Code} {Z : State} {a0 : Array Value} {n0 : Nat} (th ba : Addr) (to ln : Int32) (ev : Addr) (ns : Addr) (sg : Addr) (phS : Addr) (phF : Addr) (phA : Addr) (phD : Addr) (co : Addr) (ct : Addr) (wz : Int32) (wm : Int64) (wl : Int64) (wp : Int32) (wo : Int32) (wc : Int64) (kb : ClassId) (hx : p.tables.exec = Jvm.exec) (hZ : Z.Warmed39 s.vm) (hw : ∀ d ∈ tables_1, d.before a0 Z = true) (hby : c.code = prog_127_method_8_code) (hml : c.maxLocals = 6) (hown : s.vm.findClass own_s0 = some m.cls) (hto : ¬ to < 0) (h8 : ¬ ((8 : Int32) < to)) (hNN : own_NN ev ns sg phS phF phA phD co) (hT : ct = ev ∨ ct = ns ∨ ct = sg) (hne : ba ≠ th) (ge : n0 ≤ th) : ∀ (k : Nat) (i : Int32) (ph : Addr) (T0 : State) (h0 : Heap) (locs : List Loc), Stand p l e ({ frames := 2, cells := 0, slots := 0, locals := 60 } : Room) s m args below meth c T0 locs 0 0 → T0.heap = h0 → Fr n0 locs → n0 ≤ h0.size → ¬ (i < 0) → i.toNatClampNeg + k = to.toNatClampNeg → (ph = phS ∨ ph = phD) → own_ST Z h0 ev ns sg phS phF phA phD co → Exa Z h0 th own_s0 → Fld Z h0 th own_s0 "count" own_s1 (.ref ct) → Fld Z h0 th own_s0 own_s2 "Z" (.int wz) → Fld Z h0 th own_s0 "most" "J" (.long wm) → Fld Z h0 th own_s0 "length" "J" (.long wl) → Fld Z h0 th own_s0 "past" "Z" (.int wp) → Fld Z h0 th own_s0 "over" "Z" (.int wo) → Fld Z h0 th own_s0 "counted" "J" (.long wc) → Fld Z h0 th own_s0 "phase" own_s4 (.ref ph) → Fld Z h0 th own_s0 "run" own_s5 .null → Fld Z h0 th own_s0 own_s3 "J" (.long 0) → Arv Z h0 ba kb .byte (8 : Int32) [(.int 120), (.int 120), (.int 120), (.int 120), (.int 120), (.int 120), (.int 120), (.int 120)] (.int 0) →
    ∃ (T' : State) (h' : Heap) (L' : List Loc) (ph2 : Addr), Stand p l e ({ frames := 2, cells := 0, slots := 0, locals := 60 } : Room) s m args below meth c T' L' 0 0 ∧ T'.heap = h' ∧ Fr n0 L' ∧ Keep h0 h' ([th] : List Addr) ∧ n0 ≤ h'.size ∧ own_ST Z h' ev ns sg phS phF phA phD co ∧ Exa Z h' th own_s0 ∧ Fld Z h' th own_s0 "count" own_s1 (.ref ct) ∧ Fld Z h' th own_s0 own_s2 "Z" (.int wz) ∧ Fld Z h' th own_s0 "most" "J" (.long wm) ∧ Fld Z h' th own_s0 "length" "J" (.long wl) ∧ Fld Z h' th own_s0 "past" "Z" (.int wp) ∧ Fld Z h' th own_s0 "over" "Z" (.int wo) ∧ Fld Z h' th own_s0 "counted" "J" (.long wc) ∧ Fld Z h' th own_s0 "phase" own_s4 (.ref ph2) ∧ Fld Z h' th own_s0 "run" own_s5 .null ∧ Fld Z h' th own_s0 own_s3 "J" (.long 0) ∧ Arv Z h' ba kb .byte (8 : Int32) [(.int 120), (.int 120), (.int 120), (.int 120), (.int 120), (.int 120), (.int 120), (.int 120)] (.int 0) ∧ (ph2 = phS ∨ ph2 = phD) ∧ ∀ t, Steps p.tables e below (T'.setTop (mkF m 43 #[rv th, rv ba, iv 0, iv to, iv ln, iv to] [])) t → own_S p e below (T0.setTop (mkF m 43 #[rv th, rv ba, iv 0, iv to, iv ln, iv i] [])) t := by
  intro k
  induction k with
  | zero =>
    intro i ph T0 h0 locs X0 e0 N0 Z0 hi hk hP u0 u1 u2 u3 u4 u5 u6 u7 u8 u9 u10 u11 u12
    have e : i = to := own_same hi hto (by omega)
    subst e
    exact ⟨T0, h0, locs, ph, X0, e0, N0, Keep.refl _ _, Z0, u0, u1, u2, u3, u4, u5, u6, u7, u8, u9, u10, u11, u12, hP, fun _ kt => kt⟩
  | succ k ih =>
    intro i ph T0 h0 locs X0 e0 N0 Z0 hi hk hP u0 u1 u2 u3 u4 u5 u6 u7 u8 u9 u10 u11 u12
    have hlt := own_below hi hto hk
    obtain ⟨c1, c2, c3⟩ := own_clamp hi hlt
    obtain ⟨T1, h1, L1, ph1, X1, e1, N1, K1, Z1, v0, v1, v2, v3, v4, v5, v6, v7, v8, v9, v10, v11, v12, hP1, st1⟩ := own_qt th ba to ln i ev ns sg phS phF phA phD co ct ph wz wm wl wp wo wc kb X0 hx hZ hw hby hml hown e0 N0 Z0 u0 u1 u2 u3 u4 u5 u6 u7 u8 u9 u10 u11 u12 hNN hT hP hne ge (own_in8 hi hlt h8) hlt
    obtain ⟨T2, h2, L2, ph2, X2, e2, N2, K2, Z2, w0, w1, w2, w3, w4, w5, w6, w7, w8, w9, w10, w11, w12, hP2, st2⟩ := ih (i + 1) ph1 T1 h1 L1 X1 e1 N1 Z1 c2 (by omega) hP1 v0 v1 v2 v3 v4 v5 v6 v7 v8 v9 v10 v11 v12
    exact ⟨T2, h2, L2, ph2, X2, e2, N2, K1.trans K2 (fun x hx => Or.inl hx), Z2, w0, w1, w2, w3, w4, w5, w6, w7, w8, w9, w10, w11, w12, hP2, fun t kt => st1 t (st2 t kt)⟩
theorem own_qAll {p : Program} {l : Launch} {e : Env} {s : State} {m : MethodId} {args : Array Value} {below : List Frame} {meth : Method} {c : Code} {Z : State} {a0 : Array Value} {n0 : Nat} {T0 : State} {locs : List Loc} {h0 : Heap} (th ba : Addr) (to ln : Int32) (ev : Addr) (ns : Addr) (sg : Addr) (phS : Addr) (phF : Addr) (phA : Addr) (phD : Addr) (co : Addr) (ct : Addr) (wz : Int32) (wm : Int64) (wl : Int64) (wp : Int32) (wo : Int32) (wc : Int64) (kb : ClassId) (ph : Addr) (X0 : Stand p l e ({ frames := 2, cells := 0, slots := 0, locals := 60 } : Room) s m args below meth c T0 locs 0 0) (hx : p.tables.exec = Jvm.exec) (hZ : Z.Warmed39 s.vm) (hw : ∀ d ∈ tables_1, d.before a0 Z = true) (hby : c.code = prog_127_method_8_code) (hml : c.maxLocals = 6) (hown : s.vm.findClass own_s0 = some m.cls) (e0 : T0.heap = h0) (N0 : Fr n0 locs) (Z0 : n0 ≤ h0.size) (u0 : own_ST Z h0 ev ns sg phS phF phA phD co) (u1 : Exa Z h0 th own_s0) (u2 : Fld Z h0 th own_s0 "count" own_s1 (.ref ct)) (u3 : Fld Z h0 th own_s0 own_s2 "Z" (.int wz)) (u4 : Fld Z h0 th own_s0 "most" "J" (.long wm)) (u5 : Fld Z h0 th own_s0 "length" "J" (.long wl)) (u6 : Fld Z h0 th own_s0 "past" "Z" (.int wp)) (u7 : Fld Z h0 th own_s0 "over" "Z" (.int wo)) (u8 : Fld Z h0 th own_s0 "counted" "J" (.long wc)) (u9 : Fld Z h0 th own_s0 "phase" own_s4 (.ref ph)) (u10 : Fld Z h0 th own_s0 "run" own_s5 .null) (u11 : Fld Z h0 th own_s0 own_s3 "J" (.long 0)) (u12 : Arv Z h0 ba kb .byte (8 : Int32) [(.int 120), (.int 120), (.int 120), (.int 120), (.int 120), (.int 120), (.int 120), (.int 120)] (.int 0)) (hNN : own_NN ev ns sg phS phF phA phD co) (hT : ct = ev ∨ ct = ns ∨ ct = sg) (hP : ph = phS ∨ ph = phD) (hne : ba ≠ th) (ge : n0 ≤ th) (hto : ¬ (to < 0)) (h8 : ¬ ((8 : Int32) < to)) :
    ∃ (T' : State) (h' : Heap) (L' : List Loc) (ph2 : Addr), Stand p l e ({ frames := 2, cells := 0, slots := 0, locals := 60 } : Room) s m args below meth c T' L' 0 0 ∧ T'.heap = h' ∧ Fr n0 L' ∧ Keep h0 h' ([th] : List Addr) ∧ n0 ≤ h'.size ∧ own_ST Z h' ev ns sg phS phF phA phD co ∧ Exa Z h' th own_s0 ∧ Fld Z h' th own_s0 "count" own_s1 (.ref ct) ∧ Fld Z h' th own_s0 own_s2 "Z" (.int wz) ∧ Fld Z h' th own_s0 "most" "J" (.long wm) ∧ Fld Z h' th own_s0 "length" "J" (.long wl) ∧ Fld Z h' th own_s0 "past" "Z" (.int wp) ∧ Fld Z h' th own_s0 "over" "Z" (.int wo) ∧ Fld Z h' th own_s0 "counted" "J" (.long wc) ∧ Fld Z h' th own_s0 "phase" own_s4 (.ref ph2) ∧ Fld Z h' th own_s0 "run" own_s5 .null ∧ Fld Z h' th own_s0 own_s3 "J" (.long 0) ∧ Arv Z h' ba kb .byte (8 : Int32) [(.int 120), (.int 120), (.int 120), (.int 120), (.int 120), (.int 120), (.int 120), (.int 120)] (.int 0) ∧ (ph2 = phS ∨ ph2 = phD) ∧ ∀ t, Steps p.tables e below (T'.setTop (mkF m 43 #[rv th, rv ba, iv 0, iv to, iv ln, iv to] [])) t → own_S p e below (T0.setTop (mkF m 43 #[rv th, rv ba, iv 0, iv to, iv ln, iv 0] [])) t :=
  own_qLoop th ba to ln ev ns sg phS phF phA phD co ct wz wm wl wp wo wc kb hx hZ hw hby hml hown hto h8 hNN hT hne ge to.toNatClampNeg 0 ph T0 h0 locs X0 e0 N0 Z0 (by decide) (by rw [show (0 : Int32).toNatClampNeg = 0 from rfl, Nat.zero_add]) hP u0 u1 u2 u3 u4 u5 u6 u7 u8 u9 u10 u11 u12
theorem ef_own_rw (m : MethodId) (pr0 : Addr) (pr1 : Addr) (pi3 : Int32) (pi4 : Int32) : entryFrame m #[(.ref pr0), (.ref pr1), (.int 0), (.int pi3), (.int pi4)] 6 = mkF m 0 #[rv pr0, rv pr1, iv 0, iv pi3, iv pi4, .unset] [] := by first | (simp [entryFrame, mkF, argsToLocals, Value.category]; done) | rfl
def Q_own_rw (Z : State) (pr0 : Addr) (pr1 : Addr) (pi3 : Int32) (pi4 : Int32) (ev : Addr) (ns : Addr) (sg : Addr) (phS : Addr) (phF : Addr) (phA : Addr) (phD : Addr) (co : Addr) (ct : Addr) (wz : Int32) (wm : Int64) (kb : ClassId) (h0 : Heap) (n0 : Nat) (v : Option Value) (h : Heap) (L : List Loc) : Prop := Fr n0 L ∧ ∃ (ph : Addr), v = none ∧ Keep h0 h ([pr0] : List Addr) ∧ Exa Z h pr0 own_s0 ∧ Fld Z h pr0 own_s0 "count" own_s1 (.ref ct) ∧ Fld Z h pr0 own_s0 own_s2 "Z" (.int wz) ∧ Fld Z h pr0 own_s0 "most" "J" (.long wm) ∧ Fld Z h pr0 own_s0 "length" "J" (.long ((0 : Int64) + (pi4.toInt64))) ∧ Fld Z h pr0 own_s0 "past" "Z" (.int 0) ∧ Fld Z h pr0 own_s0 "over" "Z" (.int 0) ∧ Fld Z h pr0 own_s0 "counted" "J" (.long 0) ∧ Fld Z h pr0 own_s0 "phase" own_s4 (.ref ph) ∧ Fld Z h pr0 own_s0 "run" own_s5 .null ∧ Fld Z h pr0 own_s0 own_s3 "J" (.long 0) ∧ (ph = phS ∨ ph = phD)
set_option maxRecDepth 65536 in
set_option maxHeartbeats 40000000 in
theorem own_rw (l : Launch) (Z : State) (a0 : Array Value) (hw : ∀ d ∈ tables_1, d.before a0 Z = true) (ws : List Jvm.Cond) (pr0 : Addr) (pr1 : Addr) (pi3 : Int32) (pi4 : Int32) (ev : Addr) (ns : Addr) (sg : Addr) (phS : Addr) (phF : Addr) (phA : Addr) (phD : Addr) (co : Addr) (ct : Addr) (wz : Int32) (wm : Int64) (kb : ClassId) (h0 : Heap) (n0 : Nat) (Z0 : n0 ≤ h0.size) (P0 : own_ST Z h0 ev ns sg phS phF phA phD co) (P1 : own_NN ev ns sg phS phF phA phD co) (P2 : Exa Z h0 pr0 own_s0) (P3 : Fld Z h0 pr0 own_s0 "count" own_s1 (.ref ct)) (P4 : Fld Z h0 pr0 own_s0 own_s2 "Z" (.int wz)) (P5 : Fld Z h0 pr0 own_s0 "most" "J" (.long wm)) (P6 : Fld Z h0 pr0 own_s0 "length" "J" (.long 0)) (P7 : Fld Z h0 pr0 own_s0 "past" "Z" (.int 0)) (P8 : Fld Z h0 pr0 own_s0 "over" "Z" (.int 0)) (P9 : Fld Z h0 pr0 own_s0 "counted" "J" (.long 0)) (P10 : Fld Z h0 pr0 own_s0 "phase" own_s4 (.ref phS)) (P11 : Fld Z h0 pr0 own_s0 "run" own_s5 .null) (P12 : Fld Z h0 pr0 own_s0 own_s3 "J" (.long 0)) (P13 : Arv Z h0 pr1 kb .byte (8 : Int32) [(.int 120), (.int 120), (.int 120), (.int 120), (.int 120), (.int 120), (.int 120), (.int 120)] (.int 0)) (P14 : pr1 ≠ pr0) (P15 : n0 ≤ pr0) (P16 : ct = ev ∨ ct = ns ∨ ct = sg) (P17 : ¬ (pi3 < 0)) (P18 : ¬ ((8 : Int32) < pi3)) (P19 : ¬ ((wm - (0 : Int64)) < (pi4.toInt64))) :
    MetFree l (⟨own_s0, "readWithin", "([BIII)V"⟩ : MethodName) (head1 (Jvm.Cond.code (⟨own_s0, "readWithin", "([BIII)V"⟩ : MethodName) prog_127_method_8_code 6 none :: ws) ({ frames := 2, cells := 0, slots := 0, locals := 60 } : Room)) (fun a U => a = #[(.ref pr0), (.ref pr1), (.int 0), (.int pi3), (.int pi4)] ∧ Z.Warmed39 U.vm ∧ U.heap = h0) (fun _ _ _ _ _ => True) (fun _ U o U' => ∃ v L, o = .returned v ∧ Q_own_rw Z pr0 pr1 pi3 pi4 ev ns sg phS phF phA phD co ct wz wm kb h0 n0 v U'.heap L ∧ FrameEnd U o U' L ({ frames := 2, cells := 0, slots := 0, locals := 60 } : Room).cells ({ frames := 2, cells := 0, slots := 0, locals := 60 } : Room).slots) := by
  refine MetFree.of_bodySF (plainFor_of_name pn_8) hisR ?_
  intro p e s m args below meth c s₁ Bd hml0 hP hK
  obtain ⟨rfl, hZ, hh⟩ := hP
  have hx := Bd.exec
  have hby := Bd.bytes
  have hml : c.maxLocals = 6 := hml0
  have hown : s.vm.findClass own_s0 = some m.cls := findClass_of_methodNamed Bd.named
  have hnm := (name_of_methodNamed Bd.named Bd.method).1
  have X0 : Stand p l e ({ frames := 2, cells := 0, slots := 0, locals := 60 } : Room) s m #[(.ref pr0), (.ref pr1), (.int 0), (.int pi3), (.int pi4)] below meth c s₁ [] 0 0 := Stand.of_body Bd
  have e0 : s₁.heap = h0 := by rw [← hh, Bd.state]; rfl
  have N0 := Fr.nil n0
  have go0 : ∀ t, own_S p e below (s₁.setTop (mkF m 0 #[rv pr0, rv pr1, iv 0, iv pi3, iv pi4, .unset] [])) t → Steps p.tables e below (s₁.setTop (entryFrame m #[(.ref pr0), (.ref pr1), (.int 0), (.int pi3), (.int pi4)] 6)) t := fun t k => castTop (ef_own_rw m pr0 pr1 pi3 pi4) k
  revert go0
  generalize s₁.setTop (entryFrame m #[(.ref pr0), (.ref pr1), (.int 0), (.int pi3), (.int pi4)] 6) = st0
  intro go0
  by_cases hE1 : ct = sg
  · skip
    have fc1 : Fld Z h0 pr0 own_s0 "count" own_s1 (.ref sg) := by rw [← hE1]; exact P3
    have hTs1 : sg = ev ∨ sg = ns ∨ sg = sg := Or.inr (Or.inr rfl)
    obtain ⟨cq2, kq2, q2a, q2b, q2c⟩ := isOf hZ e0 P2
    obtain ⟨_, _, ⟨T2, L2, k2, n2⟩, -, X2, ⟨Lc2, hQ2, l2, y2, z2⟩, st2⟩ := X0.virtualBack hx (y := (⟨own_s0, "room", "()J"⟩ : MethodName)) (z := (⟨own_s0, "room", "()J"⟩ : MethodName)) hown (mvT hZ (own_w hw 93 rfl)) (mvT hZ (own_w hw 84 rfl)) (notFace_of_selects (args := #[]) (mvT hZ (own_w hw 86 rfl))) (mvT hZ (own_w hw 86 rfl)) (mvT hZ (own_w hw 85 rfl)) (by decide) (backOf (W := 2) (own_room0 l Z a0 hw [] pr0 wm (0 : Int64) h0 n0 Z0 P7 P5 P6) hZ (own_w hw 87 rfl) (own_w hw 14 rfl) (by decide) (by decide)) q2a q2c (g := (mkF m 4 #[rv pr0, rv pr1, iv 0, iv pi3, iv pi4, .unset] [(.ref pr0), (.long (pi4.toInt64))])) rfl (by rw [hml]; rfl) (Steps.refl _) (argsL := []) (rest := [(.long (pi4.toInt64))]) (lenOf pd_27 rfl) rfl (by show 2 * 0 + _ ≤ _; exact Nat.le_of_eq rfl) (hb hby d26_4) (fun _ _ => ⟨rfl, e0, (by decide : 0 + 0 ≤ _), (by decide : 0 + 0 ≤ _)⟩)
    dsimp only [Pt.U, Pt.locs, Pt.cells, Pt.slots] at X2 l2 y2 z2 st2 hQ2
    subst l2 y2 z2
    obtain ⟨rfl, Nq2, e2⟩ := hQ2
    have N2 := Fr.app N0 Nq2
    obtain ⟨T3, X3, e3, st3⟩ := getF X2 hx hZ hown (host := "") (Or.inl (own_w hw 55 rfl)) Via.refl e2 fc1 (g := (mkF m 31 #[rv pr0, rv pr1, iv 0, iv pi3, iv pi4, .unset] [(.ref pr0)])) rfl rfl (hb hby d26_31)
    obtain ⟨T4, X4, e4, st4⟩ := getS2 X3 hx hZ hown (host := "") (Or.inl (own_w hw 94 rfl)) Via.refl e3 (own_ST.s2 P0) (g := (mkF m 34 #[rv pr0, rv pr1, iv 0, iv pi3, iv pi4, .unset] [(.ref sg)])) rfl (hb hby d26_34)
    obtain ⟨T5, h5, L5, ph2_5, X5, e5, N5, Kc5, Z5, p5_0, p5_1, p5_2, p5_3, p5_4, p5_5, p5_6, p5_7, p5_8, p5_9, p5_10, p5_11, p5_12, p5_13, st5⟩ := own_qAll pr0 pr1 pi3 pi4 ev ns sg phS phF phA phD co sg wz wm (0 : Int64) (0 : Int32) (0 : Int32) (0 : Int64) kb phS X4 hx hZ hw hby hml hown e4 N2 Z0 P0 P2 fc1 P4 P5 P6 P7 P8 P9 P10 P11 P12 P13 P1 hTs1 (Or.inl rfl) P14 P15 P17 P18
    have K5 : Keep h0 h5 ([pr0] : List Addr) := (Keep.refl h0 ([pr0] : List Addr)).trans Kc5 (allS (P := fun x => x ∈ ([pr0] : List Addr) ∨ h0.size ≤ x) (Or.inl (List.mem_of_getElem? (i := 0) rfl)) all0)
    have hk6 : ¬ (pi3 < pi3) := Int32.lt_irrefl
    obtain ⟨T7, X7, e7, st7⟩ := getF X5 hx hZ hown (host := "") (Or.inl (own_w hw 66 rfl)) Via.refl e5 p5_5 (g := (mkF m 67 #[rv pr0, rv pr1, iv 0, iv pi3, iv pi4, iv pi3] [(.ref pr0), (.ref pr0)])) rfl rfl (hb hby d26_67)
    obtain ⟨T8, h8, X8, e8, W8, st8⟩ := putF X7 hx hZ hown (host := "") (Or.inl (own_w hw 66 rfl)) Via.refl e7 p5_5 p5_1 (Or.inl (own_w hw 67 rfl)) (own_w hw 13 rfl) (ty := .long) (by decide) rfl rfl (g := (mkF m 74 #[rv pr0, rv pr1, iv 0, iv pi3, iv pi4, iv pi3] [(.long ((0 : Int64) + (pi4.toInt64))), (.ref pr0)])) rfl rfl (hb hby d26_74)
    have K8 : Keep h0 h8 ([pr0] : List Addr) := K5.wr W8 (Or.inl (List.mem_of_getElem? (i := 0) rfl))
    have N8 := Fr.snoc X8 N5 P15
    have Z8 : n0 ≤ h8.size := Nat.le_trans Z5 (Keep.of_wr W8).1
    have Fw8 := p5_5.same W8
    have go9 : ∀ t, own_S p e below (T8.setTop (mkF m 77 #[rv pr0, rv pr1, iv 0, iv pi3, iv pi4, iv pi3] [])) t → Steps p.tables e below st0 t := by
      intro t kt
      refine go0 t ?_
      refine XS.iload X0.here hx rfl (hb hby d26_0) rfl ?_
      show own_S p e below (s₁.setTop (mkF m 2 #[rv pr0, rv pr1, iv 0, iv pi3, iv pi4, .unset] [(.int pi4)])) _
      refine XS.i2l X0.here hx rfl (hb hby d26_2) rfl ?_
      refine XS.aloadN X0.here hx rfl (hb hby d26_3) rfl rfl ?_
      show own_S p e below (s₁.setTop (mkF m 4 #[rv pr0, rv pr1, iv 0, iv pi3, iv pi4, .unset] [(.ref pr0), (.long (pi4.toInt64))])) _
      refine st2.trans ?_
      show own_S p e below (T2.setTop (mkF m 7 #[rv pr0, rv pr1, iv 0, iv pi3, iv pi4, .unset] [(.long (wm - (0 : Int64))), (.long (pi4.toInt64))])) _
      refine XS.lcmp X2.here hx rfl (hb hby d26_7) rfl ?_
      show own_S p e below (T2.setTop (mkF m 8 #[rv pr0, rv pr1, iv 0, iv pi3, iv pi4, .unset] [(.int (lcmpW (pi4.toInt64) (wm - (0 : Int64))))])) _
      refine XS.ifYes X2.here hx rfl (pc0 := 8) (pc' := 30) rfl (hb hby d26_8) rfl (Jvm.Free.XT.ll_le_t P19) (by decide) (by decide) ?_
      refine XS.aloadN X2.here hx rfl (hb hby d26_30) rfl rfl ?_
      show own_S p e below (T2.setTop (mkF m 31 #[rv pr0, rv pr1, iv 0, iv pi3, iv pi4, .unset] [(.ref pr0)])) _
      refine st3 _ ?_
      show own_S p e below (T3.setTop (mkF m 34 #[rv pr0, rv pr1, iv 0, iv pi3, iv pi4, .unset] [(.ref sg)])) _
      refine st4 _ ?_
      show own_S p e below (T4.setTop (mkF m 37 #[rv pr0, rv pr1, iv 0, iv pi3, iv pi4, .unset] [(.ref sg), (.ref sg)])) _
      refine Jvm.RoadKit.acmp (g := (mkF m 37 #[rv pr0, rv pr1, iv 0, iv pi3, iv pi4, .unset] [(.ref sg), (.ref sg)])) X4 hx rfl rfl rfl (pc0 := 37) (pc' := 40) (same := true) rfl (hb hby d26_37) rfl (decide_eq_true rfl) (by decide) (by decide) ?_
      refine XS.iloadN X4.here hx rfl (hb hby d26_40) rfl ?_
      show own_S p e below (T4.setTop (mkF m 41 #[rv pr0, rv pr1, iv 0, iv pi3, iv pi4, .unset] [(.int 0)])) _
      refine XS.istore X4.here hx rfl (hb hby d26_41) rfl (l' := #[rv pr0, rv pr1, iv 0, iv pi3, iv pi4, iv 0]) rfl ?_
      show own_S p e below (T4.setTop (mkF m 43 #[rv pr0, rv pr1, iv 0, iv pi3, iv pi4, iv 0] [])) _
      refine st5 _ ?_
      refine XS.iload X5.here hx rfl (hb hby d26_43) rfl ?_
      refine XS.iloadN X5.here hx rfl (hb hby d26_45) rfl ?_
      show own_S p e below (T5.setTop (mkF m 46 #[rv pr0, rv pr1, iv 0, iv pi3, iv pi4, iv pi3] [(.int pi3), (.int pi3)])) _
      refine XS.icmpYes X5.here hx rfl (pc0 := 46) (pc' := 65) rfl (hb hby d26_46) rfl (flt hk6).2.1 (by decide) (by decide) ?_
      refine XS.aloadN X5.here hx rfl (hb hby d26_65) rfl rfl ?_
      refine XS.dup X5.here hx rfl (hb hby d26_66) rfl rfl ?_
      show own_S p e below (T5.setTop (mkF m 67 #[rv pr0, rv pr1, iv 0, iv pi3, iv pi4, iv pi3] [(.ref pr0), (.ref pr0)])) _
      refine st7 _ ?_
      refine XS.iload X7.here hx rfl (hb hby d26_70) rfl ?_
      show own_S p e below (T7.setTop (mkF m 72 #[rv pr0, rv pr1, iv 0, iv pi3, iv pi4, iv pi3] [(.int pi4), (.long 0), (.ref pr0)])) _
      refine XS.i2l X7.here hx rfl (hb hby d26_72) rfl ?_
      refine XS.ladd X7.here hx rfl (hb hby d26_73) rfl ?_
      show own_S p e below (T7.setTop (mkF m 74 #[rv pr0, rv pr1, iv 0, iv pi3, iv pi4, iv pi3] [(.long ((0 : Int64) + (pi4.toInt64))), (.ref pr0)])) _
      refine st8 _ ?_
      show own_S p e below (T8.setTop (mkF m 77 #[rv pr0, rv pr1, iv 0, iv pi3, iv pi4, iv pi3] [])) _
      exact kt
    obtain ⟨fs, hr, hrun, hended, hW, hsame⟩ := X8.leave (v := none) (fun _ => rfl)
    refine ⟨_, _, go9 _ ?_, hrun, hended, _, _, rfl, ?_, ⟨_, rfl⟩, hW, hsame.mono (by decide) (by decide)⟩
    · exact X8.returnOut hx Bd.returns (hb hby d26_77) hr
    · show Q_own_rw Z pr0 pr1 pi3 pi4 ev ns sg phS phF phA phD co ct wz wm kb h0 n0 _ T8.heap _
      rw [e8]
      have f10 := (p5_1.wr W8)
      have f11 := (p5_2.other W8 (Or.inr (own_sn62 hw)))
      have f12 := (p5_3.other W8 (Or.inr (own_sn70 hw)))
      have f13 := (p5_4.other W8 (Or.inr (own_sn77 hw)))
      have f14 : Fld Z h8 pr0 own_s0 "past" "Z" (.int 0) := (p5_6.other W8 (Or.inr (own_sn24 hw)))
      have f15 : Fld Z h8 pr0 own_s0 "over" "Z" (.int 0) := (p5_7.other W8 (Or.inr (own_sn28 hw)))
      have f16 : Fld Z h8 pr0 own_s0 "counted" "J" (.long 0) := (p5_8.other W8 (Or.inr (own_sn33 hw)))
      have f17 := (p5_9.other W8 (Or.inr (own_sn39 hw)))
      have f18 := (p5_10.other W8 (Or.inr (own_sn46 hw)))
      have f19 : Fld Z h8 pr0 own_s0 own_s3 "J" (.long 0) := (p5_11.other W8 (Or.inr (own_sn54 hw)))
      exact ⟨N8, ph2_5, rfl, K8, f10, (by rw [hE1]; exact f11), f12, f13, Fw8, f14, f15, f16, f17, f18, f19, p5_13⟩
  · skip
    obtain ⟨cq20, kq20, q20a, q20b, q20c⟩ := isOf hZ e0 P2
    obtain ⟨_, _, ⟨T20, L20, k20, n20⟩, -, X20, ⟨Lc20, hQ20, l20, y20, z20⟩, st20⟩ := X0.virtualBack hx (y := (⟨own_s0, "room", "()J"⟩ : MethodName)) (z := (⟨own_s0, "room", "()J"⟩ : MethodName)) hown (mvT hZ (own_w hw 93 rfl)) (mvT hZ (own_w hw 84 rfl)) (notFace_of_selects (args := #[]) (mvT hZ (own_w hw 86 rfl))) (mvT hZ (own_w hw 86 rfl)) (mvT hZ (own_w hw 85 rfl)) (by decide) (backOf (W := 2) (own_room0 l Z a0 hw [] pr0 wm (0 : Int64) h0 n0 Z0 P7 P5 P6) hZ (own_w hw 87 rfl) (own_w hw 14 rfl) (by decide) (by decide)) q20a q20c (g := (mkF m 4 #[rv pr0, rv pr1, iv 0, iv pi3, iv pi4, .unset] [(.ref pr0), (.long (pi4.toInt64))])) rfl (by rw [hml]; rfl) (Steps.refl _) (argsL := []) (rest := [(.long (pi4.toInt64))]) (lenOf pd_27 rfl) rfl (by show 2 * 0 + _ ≤ _; exact Nat.le_of_eq rfl) (hb hby d26_4) (fun _ _ => ⟨rfl, e0, (by decide : 0 + 0 ≤ _), (by decide : 0 + 0 ≤ _)⟩)
    dsimp only [Pt.U, Pt.locs, Pt.cells, Pt.slots] at X20 l20 y20 z20 st20 hQ20
    subst l20 y20 z20
    obtain ⟨rfl, Nq20, e20⟩ := hQ20
    have N20 := Fr.app N0 Nq20
    obtain ⟨T21, X21, e21, st21⟩ := getF X20 hx hZ hown (host := "") (Or.inl (own_w hw 55 rfl)) Via.refl e20 P3 (g := (mkF m 31 #[rv pr0, rv pr1, iv 0, iv pi3, iv pi4, .unset] [(.ref pr0)])) rfl rfl (hb hby d26_31)
    obtain ⟨T22, X22, e22, st22⟩ := getS2 X21 hx hZ hown (host := "") (Or.inl (own_w hw 94 rfl)) Via.refl e21 (own_ST.s2 P0) (g := (mkF m 34 #[rv pr0, rv pr1, iv 0, iv pi3, iv pi4, .unset] [(.ref ct)])) rfl (hb hby d26_34)
    obtain ⟨T23, X23, e23, st23⟩ := getF X22 hx hZ hown (host := "") (Or.inl (own_w hw 66 rfl)) Via.refl e22 P6 (g := (mkF m 67 #[rv pr0, rv pr1, iv 0, iv pi3, iv pi4, .unset] [(.ref pr0), (.ref pr0)])) rfl rfl (hb hby d26_67)
    obtain ⟨T24, h24, X24, e24, W24, st24⟩ := putF X23 hx hZ hown (host := "") (Or.inl (own_w hw 66 rfl)) Via.refl e23 P6 P2 (Or.inl (own_w hw 67 rfl)) (own_w hw 13 rfl) (ty := .long) (by decide) rfl rfl (g := (mkF m 74 #[rv pr0, rv pr1, iv 0, iv pi3, iv pi4, .unset] [(.long ((0 : Int64) + (pi4.toInt64))), (.ref pr0)])) rfl rfl (hb hby d26_74)
    have K24 : Keep h0 h24 ([pr0] : List Addr) := (Keep.refl h0 ([pr0] : List Addr)).wr W24 (Or.inl (List.mem_of_getElem? (i := 0) rfl))
    have N24 := Fr.snoc X24 N20 P15
    have Z24 : n0 ≤ h24.size := Nat.le_trans Z0 (Keep.of_wr W24).1
    have Fw24 := P6.same W24
    have go25 : ∀ t, own_S p e below (T24.setTop (mkF m 77 #[rv pr0, rv pr1, iv 0, iv pi3, iv pi4, .unset] [])) t → Steps p.tables e below st0 t := by
      intro t kt
      refine go0 t ?_
      refine XS.iload X0.here hx rfl (hb hby d26_0) rfl ?_
      show own_S p e below (s₁.setTop (mkF m 2 #[rv pr0, rv pr1, iv 0, iv pi3, iv pi4, .unset] [(.int pi4)])) _
      refine XS.i2l X0.here hx rfl (hb hby d26_2) rfl ?_
      refine XS.aloadN X0.here hx rfl (hb hby d26_3) rfl rfl ?_
      show own_S p e below (s₁.setTop (mkF m 4 #[rv pr0, rv pr1, iv 0, iv pi3, iv pi4, .unset] [(.ref pr0), (.long (pi4.toInt64))])) _
      refine st20.trans ?_
      show own_S p e below (T20.setTop (mkF m 7 #[rv pr0, rv pr1, iv 0, iv pi3, iv pi4, .unset] [(.long (wm - (0 : Int64))), (.long (pi4.toInt64))])) _
      refine XS.lcmp X20.here hx rfl (hb hby d26_7) rfl ?_
      show own_S p e below (T20.setTop (mkF m 8 #[rv pr0, rv pr1, iv 0, iv pi3, iv pi4, .unset] [(.int (lcmpW (pi4.toInt64) (wm - (0 : Int64))))])) _
      refine XS.ifYes X20.here hx rfl (pc0 := 8) (pc' := 30) rfl (hb hby d26_8) rfl (Jvm.Free.XT.ll_le_t P19) (by decide) (by decide) ?_
      refine XS.aloadN X20.here hx rfl (hb hby d26_30) rfl rfl ?_
      show own_S p e below (T20.setTop (mkF m 31 #[rv pr0, rv pr1, iv 0, iv pi3, iv pi4, .unset] [(.ref pr0)])) _
      refine st21 _ ?_
      show own_S p e below (T21.setTop (mkF m 34 #[rv pr0, rv pr1, iv 0, iv pi3, iv pi4, .unset] [(.ref ct)])) _
      refine st22 _ ?_
      show own_S p e below (T22.setTop (mkF m 37 #[rv pr0, rv pr1, iv 0, iv pi3, iv pi4, .unset] [(.ref sg), (.ref ct)])) _
      refine Jvm.RoadKit.acmp (g := (mkF m 37 #[rv pr0, rv pr1, iv 0, iv pi3, iv pi4, .unset] [(.ref sg), (.ref ct)])) X22 hx rfl rfl rfl (pc0 := 37) (pc' := 65) (same := false) rfl (hb hby d26_37) rfl (decide_eq_false fun q => hE1 (Value.ref.inj q)) (by decide) (by decide) ?_
      refine XS.aloadN X22.here hx rfl (hb hby d26_65) rfl rfl ?_
      refine XS.dup X22.here hx rfl (hb hby d26_66) rfl rfl ?_
      show own_S p e below (T22.setTop (mkF m 67 #[rv pr0, rv pr1, iv 0, iv pi3, iv pi4, .unset] [(.ref pr0), (.ref pr0)])) _
      refine st23 _ ?_
      refine XS.iload X23.here hx rfl (hb hby d26_70) rfl ?_
      show own_S p e below (T23.setTop (mkF m 72 #[rv pr0, rv pr1, iv 0, iv pi3, iv pi4, .unset] [(.int pi4), (.long 0), (.ref pr0)])) _
      refine XS.i2l X23.here hx rfl (hb hby d26_72) rfl ?_
      refine XS.ladd X23.here hx rfl (hb hby d26_73) rfl ?_
      show own_S p e below (T23.setTop (mkF m 74 #[rv pr0, rv pr1, iv 0, iv pi3, iv pi4, .unset] [(.long ((0 : Int64) + (pi4.toInt64))), (.ref pr0)])) _
      refine st24 _ ?_
      show own_S p e below (T24.setTop (mkF m 77 #[rv pr0, rv pr1, iv 0, iv pi3, iv pi4, .unset] [])) _
      exact kt
    obtain ⟨fs, hr, hrun, hended, hW, hsame⟩ := X24.leave (v := none) (fun _ => rfl)
    refine ⟨_, _, go25 _ ?_, hrun, hended, _, _, rfl, ?_, ⟨_, rfl⟩, hW, hsame.mono (by decide) (by decide)⟩
    · exact X24.returnOut hx Bd.returns (hb hby d26_77) hr
    · show Q_own_rw Z pr0 pr1 pi3 pi4 ev ns sg phS phF phA phD co ct wz wm kb h0 n0 _ T24.heap _
      rw [e24]
      have f26 := (P2.wr W24)
      have f27 := (P3.other W24 (Or.inr (own_sn62 hw)))
      have f28 := (P4.other W24 (Or.inr (own_sn70 hw)))
      have f29 := (P5.other W24 (Or.inr (own_sn77 hw)))
      have f30 : Fld Z h24 pr0 own_s0 "past" "Z" (.int 0) := (P7.other W24 (Or.inr (own_sn24 hw)))
      have f31 : Fld Z h24 pr0 own_s0 "over" "Z" (.int 0) := (P8.other W24 (Or.inr (own_sn28 hw)))
      have f32 : Fld Z h24 pr0 own_s0 "counted" "J" (.long 0) := (P9.other W24 (Or.inr (own_sn33 hw)))
      have f33 := (P10.other W24 (Or.inr (own_sn39 hw)))
      have f34 := (P11.other W24 (Or.inr (own_sn46 hw)))
      have f35 : Fld Z h24 pr0 own_s0 own_s3 "J" (.long 0) := (P12.other W24 (Or.inr (own_sn54 hw)))
      exact ⟨N24, phS, rfl, K24, f26, f27, f28, f29, Fw24, f30, f31, f32, f33, f34, f35, (Or.inl rfl)⟩
theorem own_cR {M K : Int64} (h1 : ((K.toInt32).toInt64) = K) (h2 : ¬ (M < K)) : ¬ ((M - (0 : Int64)) < ((K.toInt32).toInt64)) := by
  rw [h1, Int64.sub_zero]; exact h2
theorem own_mk {M K : Int64} (h0 : ¬ (M < (0 : Int64))) (h1 : ¬ (K < (0 : Int64))) (h2 : ¬ (M < K)) (h3 : ¬ ((3 : Int64) < M)) : (M = (0 : Int64) ∧ K = (0 : Int64)) ∨ (M = (1 : Int64) ∧ K = (0 : Int64)) ∨ (M = (1 : Int64) ∧ K = (1 : Int64)) ∨ (M = (2 : Int64) ∧ K = (0 : Int64)) ∨ (M = (2 : Int64) ∧ K = (1 : Int64)) ∨ (M = (2 : Int64) ∧ K = (2 : Int64)) ∨ (M = (3 : Int64) ∧ K = (0 : Int64)) ∨ (M = (3 : Int64) ∧ K = (1 : Int64)) ∨ (M = (3 : Int64) ∧ K = (2 : Int64)) ∨ (M = (3 : Int64) ∧ K = (3 : Int64)) := by
  have q0 : (0 : Int64).toInt = 0 := rfl
  have q3 : (3 : Int64).toInt = 3 := rfl
  rw [Int64.lt_iff_toInt_lt] at h0 h1 h2 h3
  have key : (M.toInt = 0 ∧ K.toInt = 0) ∨ (M.toInt = 1 ∧ K.toInt = 0) ∨ (M.toInt = 1 ∧ K.toInt = 1) ∨ (M.toInt = 2 ∧ K.toInt = 0) ∨ (M.toInt = 2 ∧ K.toInt = 1) ∨ (M.toInt = 2 ∧ K.toInt = 2) ∨ (M.toInt = 3 ∧ K.toInt = 0) ∨ (M.toInt = 3 ∧ K.toInt = 1) ∨ (M.toInt = 3 ∧ K.toInt = 2) ∨ (M.toInt = 3 ∧ K.toInt = 3) := by omega
  rcases key with ⟨a, b⟩ | ⟨a, b⟩ | ⟨a, b⟩ | ⟨a, b⟩ | ⟨a, b⟩ | ⟨a, b⟩ | ⟨a, b⟩ | ⟨a, b⟩ | ⟨a, b⟩ | ⟨a, b⟩
  · exact Or.inl ⟨Int64.toInt_inj.mp a, Int64.toInt_inj.mp b⟩
  · exact Or.inr (Or.inl ⟨Int64.toInt_inj.mp a, Int64.toInt_inj.mp b⟩)
  · exact Or.inr (Or.inr (Or.inl ⟨Int64.toInt_inj.mp a, Int64.toInt_inj.mp b⟩))
  · exact Or.inr (Or.inr (Or.inr (Or.inl ⟨Int64.toInt_inj.mp a, Int64.toInt_inj.mp b⟩)))
  · exact Or.inr (Or.inr (Or.inr (Or.inr (Or.inl ⟨Int64.toInt_inj.mp a, Int64.toInt_inj.mp b⟩))))
  · exact Or.inr (Or.inr (Or.inr (Or.inr (Or.inr (Or.inl ⟨Int64.toInt_inj.mp a, Int64.toInt_inj.mp b⟩)))))
  · exact Or.inr (Or.inr (Or.inr (Or.inr (Or.inr (Or.inr (Or.inl ⟨Int64.toInt_inj.mp a, Int64.toInt_inj.mp b⟩))))))
  · exact Or.inr (Or.inr (Or.inr (Or.inr (Or.inr (Or.inr (Or.inr (Or.inl ⟨Int64.toInt_inj.mp a, Int64.toInt_inj.mp b⟩)))))))
  · exact Or.inr (Or.inr (Or.inr (Or.inr (Or.inr (Or.inr (Or.inr (Or.inr (Or.inl ⟨Int64.toInt_inj.mp a, Int64.toInt_inj.mp b⟩))))))))
  · exact Or.inr (Or.inr (Or.inr (Or.inr (Or.inr (Or.inr (Or.inr (Or.inr (Or.inr (⟨Int64.toInt_inj.mp a, Int64.toInt_inj.mp b⟩)))))))))
theorem own_need (x b : Int32) (hb : 0 ≤ b.toInt ∧ b.toInt ≤ 7) : ¬ (((b.toInt64 + ((x &&& (7 : Int32)).toInt64)).toInt32) < b) := by
  have e := c_and x 7 (by decide)
  have o7 : (7 : Int32).toInt = 7 := rfl
  have a1 := c_ladd b.toInt64 ((x &&& (7 : Int32)).toInt64)
  have a2 := rng64 (b.toInt64 + ((x &&& (7 : Int32)).toInt64))
  have a3 := c_l2i (b.toInt64 + ((x &&& (7 : Int32)).toInt64))
  have a4 := rng32 ((b.toInt64 + ((x &&& (7 : Int32)).toInt64)).toInt32)
  rw [c_i2l, c_i2l] at a1
  rw [Int32.lt_iff_toInt_lt]
  omega
theorem own_to {K : Int64} (h0 : ¬ (K < (0 : Int64))) (h8 : ¬ ((8 : Int64) < K)) : ¬ ((K.toInt32) < 0) ∧ ¬ ((8 : Int32) < (K.toInt32)) := by
  have q0 : (0 : Int64).toInt = 0 := rfl
  have q8 : (8 : Int64).toInt = 8 := rfl
  have r0 : (0 : Int32).toInt = 0 := rfl
  have r8 : (8 : Int32).toInt = 8 := rfl
  have a3 := c_l2i K
  have a4 := rng32 K.toInt32
  rw [Int64.lt_iff_toInt_lt] at h0 h8
  rw [Int32.lt_iff_toInt_lt, Int32.lt_iff_toInt_lt]
  omega
theorem own_X0 (x : Int32) : ¬ (((x &&& (2147483647 : Int32)).toInt64) < (0 : Int64)) := by
  have e := c_and x 2147483647 (by decide)
  have q0 : (0 : Int64).toInt = 0 := rfl
  rw [Int64.lt_iff_toInt_lt, c_i2l]
  omega
theorem own_XX (x : Int32) : ((x.toInt64.toInt32).toInt64) = x.toInt64 := by
  rw [Int32.toInt32_toInt64]
theorem own_MM {M : Int64} {x : Int32} (h0 : ¬ (M < (0 : Int64))) (h : M < x.toInt64) : ((M.toInt32).toInt64) = M := by
  have q0 : (0 : Int64).toInt = 0 := rfl
  have a3 := c_l2i M
  have a4 := rng32 M.toInt32
  have a5 := rng32 x
  rw [Int64.lt_iff_toInt_lt] at h0 h
  rw [c_i2l] at h
  apply Int64.toInt_inj.mp
  rw [c_i2l]
  omega
theorem own_and0 (x b : Int64) (hb : 0 ≤ b.toInt) : ¬ ((x &&& b) < (0 : Int64)) := by
  have e := (c_andSL x b).2.2 hb
  have q0 : (0 : Int64).toInt = 0 := rfl
  rw [Int64.lt_iff_toInt_lt]
  omega

set_option maxRecDepth 65536 in
set_option maxHeartbeats 40000000 in
theorem own_t351 {p : Program} {l : Launch} {e : Env} {s : State} {m : MethodId} {args : Array Value} {below : List Frame} {meth : Method} {c : Code} {T0 : State} {locs : List Loc} {Z : State} {a0 : Array Value} {h0 : Heap} {n0 : Nat} (x0 : Int64) (x2 : Int32) (x3 : Int32) (x4 : Int32) (zs : Int32) (sm : Int32) (cc : Int32) (ct : Addr) (M : Int64) (K : Int64) (k1 : Int32) (ba : Addr) (bc : Addr) (to : Int32) (bt : Addr) (bm : Addr) (rr : Int64) (nd : Int64) (nn : Int32) (ev : Addr) (ns : Addr) (sg : Addr) (phS : Addr) (phF : Addr) (phA : Addr) (phD : Addr) (co : Addr) (ph : Addr) (wz : Int32) (wl : Int64) (wc : Int64) (wy : Int32) (X0 : Stand p l e room_1 s m args below meth c T0 locs 5 94) (hx : p.tables.exec = Jvm.exec) (hZ : Z.Warmed39 s.vm) (hw : ∀ d ∈ tables_1, d.before a0 Z = true) (hby : c.code = code) (hml : c.maxLocals = 26) (hown : s.vm.findClass own_s11 = some m.cls) (e0 : T0.heap = h0) (N0 : Fr n0 locs) (Z0 : n0 ≤ h0.size) (hret : meth.sig.returnType = some .boolean) (hlk : meth.locks = false) (P0 : own_ST Z h0 ev ns sg phS phF phA phD co) (P1 : own_NN ev ns sg phS phF phA phD co) (P2 : Exa Z h0 bt own_s0) (P3 : Fld Z h0 bt own_s0 "count" own_s1 (.ref ct)) (P4 : Fld Z h0 bt own_s0 own_s2 "Z" (.int wz)) (P5 : Fld Z h0 bt own_s0 "most" "J" (.long M)) (P6 : Fld Z h0 bt own_s0 "length" "J" (.long wl)) (P7 : Fld Z h0 bt own_s0 "past" "Z" (.int 1)) (P8 : Fld Z h0 bt own_s0 "over" "Z" (.int 1)) (P9 : Fld Z h0 bt own_s0 "counted" "J" (.long wc)) (P10 : Fld Z h0 bt own_s0 "phase" own_s4 (.ref ph)) (P11 : Fld Z h0 bt own_s0 "run" own_s5 .null) (P12 : Fld Z h0 bt own_s0 own_s3 "J" (.long 0)) (P13 : Exa Z h0 bm own_s6) (P14 : Fld Z h0 bm own_s6 "count" own_s1 (.ref ct)) (P15 : Fld Z h0 bm own_s6 own_s2 "Z" (.int wy)) (P16 : bm ≠ bt) (P17 : n0 ≤ bt) :
    ∃ s₂ o, own_S p e below (T0.setTop (mkF m 351 #[.val (.long x0), .second, iv x2, iv x3, iv x4, iv zs, iv sm, iv cc, rv ct, .val (.long M), .second, .val (.long K), .second, iv k1, rv ba, rv bc, iv to, rv bt, rv bm, iv 1, .val (.long rr), .second, .val (.long nd), .second, iv nn, .unset] [(.int 0)])) s₂ ∧ s₂.status = .running ∧ Ended s₂ below o ∧ ∃ v L, o = .returned v ∧ (v = some (.int 1) ∧ Fr n0 L) ∧ FrameEnd s o s₂ L room_1.cells room_1.slots := by
  obtain ⟨st0, hst0⟩ : ∃ zst, zst = T0.setTop (mkF m 351 #[.val (.long x0), .second, iv x2, iv x3, iv x4, iv zs, iv sm, iv cc, rv ct, .val (.long M), .second, .val (.long K), .second, iv k1, rv ba, rv bc, iv to, rv bt, rv bm, iv 1, .val (.long rr), .second, .val (.long nd), .second, iv nn, .unset] [(.int 0)]) := ⟨_, rfl⟩
  have go0 : ∀ t, own_S p e below (T0.setTop (mkF m 351 #[.val (.long x0), .second, iv x2, iv x3, iv x4, iv zs, iv sm, iv cc, rv ct, .val (.long M), .second, .val (.long K), .second, iv k1, rv ba, rv bc, iv to, rv bt, rv bm, iv 1, .val (.long rr), .second, .val (.long nd), .second, iv nn, .unset] [(.int 0)])) t → Steps p.tables e below st0 t := fun t k => by rw [hst0]; exact k
  rw [← hst0]
  obtain ⟨cq1, kq1, q1a, q1b, q1c⟩ := isOf hZ e0 P2
  obtain ⟨_, _, ⟨T1, L1, k1, n1⟩, -, X1, ⟨Lc1, hQ1, l1, y1, z1⟩, st1⟩ := X0.virtualBack hx (y := (⟨own_s0, "room", "()J"⟩ : MethodName)) (z := (⟨own_s0, "room", "()J"⟩ : MethodName)) hown (mvT hZ (own_w hw 83 rfl)) (mvT hZ (own_w hw 84 rfl)) (notFace_of_selects (args := #[]) (mvT hZ (own_w hw 86 rfl))) (mvT hZ (own_w hw 86 rfl)) (mvT hZ (own_w hw 85 rfl)) (by decide) (backOf (W := 0) (own_room1 l Z a0 hw [] bt h0 n0 Z0 P7) hZ (own_w hw 87 rfl) (own_w hw 14 rfl) (by decide) (by decide)) q1a q1c (g := (mkF m 365 #[.val (.long x0), .second, iv x2, iv x3, iv x4, iv zs, iv sm, iv cc, rv ct, .val (.long M), .second, .val (.long K), .second, iv k1, rv ba, rv bc, iv to, rv bt, rv bm, iv 1, .val (.long rr), .second, .val (.long nd), .second, iv nn, iv 0] [(.ref bt)])) rfl (by rw [hml]; rfl) (Steps.refl _) (argsL := []) (rest := []) (lenOf pd_27 rfl) rfl (by show 2 * 0 + _ ≤ _; exact Nat.le_of_eq rfl) (hb hby at_365) (fun _ _ => ⟨rfl, e0, (by decide : 5 + 0 ≤ _), (by decide : 94 + 0 ≤ _)⟩)
  dsimp only [Pt.U, Pt.locs, Pt.cells, Pt.slots] at X1 l1 y1 z1 st1 hQ1
  subst l1 y1 z1
  obtain ⟨rfl, Nq1, e1⟩ := hQ1
  have N1 := Fr.app N0 Nq1
  obtain ⟨cq2, kq2, q2a, q2b, q2c⟩ := isOf hZ e1 P2
  obtain ⟨_, _, ⟨T2, L2, k2, n2⟩, -, X2, ⟨Lc2, hQ2, l2, y2, z2⟩, st2⟩ := X1.virtualBack hx (y := (⟨own_s0, "start", own_s16⟩ : MethodName)) (z := (⟨own_s0, "start", own_s16⟩ : MethodName)) hown (mvT hZ (own_w hw 45 rfl)) (mvT hZ (own_w hw 46 rfl)) (notFace_of_selects (args := #[]) (mvT hZ (own_w hw 48 rfl))) (mvT hZ (own_w hw 48 rfl)) (mvT hZ (own_w hw 47 rfl)) (by decide) (backOf (W := 0) (own_start l Z a0 hw [] bt bm M ev ns sg phS phF phA phD co ct wy (.ref ct) (.int wz) (.long M) (.long wl) (.int 1) (.int 1) (.long wc) (.ref ph) .null (.long 0) h0 n0 Z0 P2 P13 P14 P15 P0 P16 P3 P17 P4 P5 P6 P7 P8 P9 P10 P11 P12) hZ (own_w hw 49 rfl) (own_w hw 14 rfl) (by decide) (by decide)) q2a q2c (g := (mkF m 386 #[.val (.long x0), .second, iv x2, iv x3, iv x4, iv zs, iv sm, iv cc, rv ct, .val (.long M), .second, .val (.long K), .second, iv k1, rv ba, rv bc, iv to, rv bt, rv bm, iv 1, .val (.long rr), .second, .val (.long nd), .second, iv nn, iv 0] [(.long M), (.ref bm), (.ref bt)])) rfl (by rw [hml]; rfl) (Steps.refl _) (argsL := [(.ref bm), (.long M)]) (rest := []) (lenOf pd_29 rfl) rfl (by show 2 * 0 + _ ≤ _; exact Nat.le_of_eq rfl) (hb hby at_386) (fun _ _ => ⟨rfl, e1, (by decide : 5 + 0 ≤ _), (by decide : 94 + 0 ≤ _)⟩)
  dsimp only [Pt.U, Pt.locs, Pt.cells, Pt.slots] at X2 l2 y2 z2 st2 hQ2
  subst l2 y2 z2
  obtain ⟨Nq2, rfl, Kc2, p2_0, p2_1, p2_2, p2_3, p2_4, p2_5, p2_6, p2_7, p2_8, p2_9, p2_10⟩ := hQ2
  have N2 := Fr.app N1 Nq2
  have Z2 : n0 ≤ T2.heap.size := Nat.le_trans Z0 Kc2.1
  obtain ⟨cq3, kq3, q3a, q3b, q3c⟩ := isOf hZ rfl p2_0
  obtain ⟨_, _, ⟨T3, L3, k3, n3⟩, -, X3, ⟨Lc3, hQ3, l3, y3, z3⟩, st3⟩ := X2.virtualBack hx (y := (⟨own_s0, "room", "()J"⟩ : MethodName)) (z := (⟨own_s0, "room", "()J"⟩ : MethodName)) hown (mvT hZ (own_w hw 83 rfl)) (mvT hZ (own_w hw 84 rfl)) (notFace_of_selects (args := #[]) (mvT hZ (own_w hw 86 rfl))) (mvT hZ (own_w hw 86 rfl)) (mvT hZ (own_w hw 85 rfl)) (by decide) (backOf (W := 0) (own_room0 l Z a0 hw [] bt M (0 : Int64) T2.heap n0 Z2 p2_5 p2_3 p2_4) hZ (own_w hw 87 rfl) (own_w hw 14 rfl) (by decide) (by decide)) q3a q3c (g := (mkF m 396 #[.val (.long x0), .second, iv x2, iv x3, iv x4, iv zs, iv sm, iv cc, rv ct, .val (.long M), .second, .val (.long K), .second, iv k1, rv ba, rv bc, iv to, rv bt, rv bm, iv 1, .val (.long rr), .second, .val (.long nd), .second, iv nn, iv 0] [(.ref bt)])) rfl (by rw [hml]; rfl) (Steps.refl _) (argsL := []) (rest := []) (lenOf pd_27 rfl) rfl (by show 2 * 0 + _ ≤ _; exact Nat.le_of_eq rfl) (hb hby at_396) (fun _ _ => ⟨rfl, rfl, (by decide : 5 + 0 ≤ _), (by decide : 94 + 0 ≤ _)⟩)
  dsimp only [Pt.U, Pt.locs, Pt.cells, Pt.slots] at X3 l3 y3 z3 st3 hQ3
  subst l3 y3 z3
  obtain ⟨rfl, Nq3, e3⟩ := hQ3
  have N3 := Fr.app N2 Nq3
  have hk4 : (M - (0 : Int64)) = M := Int64.sub_zero _
  have go5 : ∀ t, own_S p e below (T3.setTop (mkF m 414 #[.val (.long x0), .second, iv x2, iv x3, iv x4, iv zs, iv sm, iv cc, rv ct, .val (.long M), .second, .val (.long K), .second, iv k1, rv ba, rv bc, iv to, rv bt, rv bm, iv 1, .val (.long rr), .second, .val (.long nd), .second, iv nn, iv 0] [(.int 1)])) t → Steps p.tables e below st0 t := by
    intro t kt
    refine go0 t ?_
    refine XS.istore X0.here hx rfl (hb hby at_351) rfl (l' := #[.val (.long x0), .second, iv x2, iv x3, iv x4, iv zs, iv sm, iv cc, rv ct, .val (.long M), .second, .val (.long K), .second, iv k1, rv ba, rv bc, iv to, rv bt, rv bm, iv 1, .val (.long rr), .second, .val (.long nd), .second, iv nn, iv 0]) rfl ?_
    refine XS.iload X0.here hx rfl (hb hby at_353) rfl ?_
    show own_S p e below (T0.setTop (mkF m 355 #[.val (.long x0), .second, iv x2, iv x3, iv x4, iv zs, iv sm, iv cc, rv ct, .val (.long M), .second, .val (.long K), .second, iv k1, rv ba, rv bc, iv to, rv bt, rv bm, iv 1, .val (.long rr), .second, .val (.long nd), .second, iv nn, iv 0] [(.int 1)])) _
    refine XS.ifNo X0.here hx rfl (hb hby at_355) rfl ((if0 _ _).trans (feq (by decide : ¬ ((1 : Int32) = (0 : Int32)))).1) ?_
    refine XS.iload X0.here hx rfl (hb hby at_358) rfl ?_
    show own_S p e below (T0.setTop (mkF m 360 #[.val (.long x0), .second, iv x2, iv x3, iv x4, iv zs, iv sm, iv cc, rv ct, .val (.long M), .second, .val (.long K), .second, iv k1, rv ba, rv bc, iv to, rv bt, rv bm, iv 1, .val (.long rr), .second, .val (.long nd), .second, iv nn, iv 0] [(.int 0)])) _
    refine XS.ifNo X0.here hx rfl (hb hby at_360) rfl ((if0 _ _).trans (teq (by decide : (0 : Int32) = (0 : Int32))).2) ?_
    refine XS.aload X0.here hx rfl (hb hby at_363) rfl rfl ?_
    show own_S p e below (T0.setTop (mkF m 365 #[.val (.long x0), .second, iv x2, iv x3, iv x4, iv zs, iv sm, iv cc, rv ct, .val (.long M), .second, .val (.long K), .second, iv k1, rv ba, rv bc, iv to, rv bt, rv bm, iv 1, .val (.long rr), .second, .val (.long nd), .second, iv nn, iv 0] [(.ref bt)])) _
    refine st1.trans ?_
    refine XS.lconst X1.here hx rfl (hb hby at_368) ?_
    show own_S p e below (T1.setTop (mkF m 369 #[.val (.long x0), .second, iv x2, iv x3, iv x4, iv zs, iv sm, iv cc, rv ct, .val (.long M), .second, .val (.long K), .second, iv k1, rv ba, rv bc, iv to, rv bt, rv bm, iv 1, .val (.long rr), .second, .val (.long nd), .second, iv nn, iv 0] [(.long 0), (.long 0)])) _
    refine XS.lcmp X1.here hx rfl (hb hby at_369) rfl ?_
    show own_S p e below (T1.setTop (mkF m 370 #[.val (.long x0), .second, iv x2, iv x3, iv x4, iv zs, iv sm, iv cc, rv ct, .val (.long M), .second, .val (.long K), .second, iv k1, rv ba, rv bc, iv to, rv bt, rv bm, iv 1, .val (.long rr), .second, .val (.long nd), .second, iv nn, iv 0] [(.int (lcmpW (0 : Int64) (0 : Int64)))])) _
    refine XS.ifNo X1.here hx rfl (hb hby at_370) rfl (Jvm.Free.XT.ll_ne_f (by decide : (0 : Int64) = (0 : Int64))) ?_
    refine XS.iconst X1.here hx rfl (hb hby at_373) ?_
    show own_S p e below (T1.setTop (mkF m 374 #[.val (.long x0), .second, iv x2, iv x3, iv x4, iv zs, iv sm, iv cc, rv ct, .val (.long M), .second, .val (.long K), .second, iv k1, rv ba, rv bc, iv to, rv bt, rv bm, iv 1, .val (.long rr), .second, .val (.long nd), .second, iv nn, iv 0] [(.int 1)])) _
    refine XS.goto X1.here hx rfl (pc0 := 374) (pc' := 378) rfl (hb hby at_374) (by decide) (by decide) ?_
    show own_S p e below (T1.setTop (mkF m 378 #[.val (.long x0), .second, iv x2, iv x3, iv x4, iv zs, iv sm, iv cc, rv ct, .val (.long M), .second, .val (.long K), .second, iv k1, rv ba, rv bc, iv to, rv bt, rv bm, iv 1, .val (.long rr), .second, .val (.long nd), .second, iv nn, iv 0] [(.int 1)])) _
    refine XS.istore X1.here hx rfl (hb hby at_378) rfl (l' := #[.val (.long x0), .second, iv x2, iv x3, iv x4, iv zs, iv sm, iv cc, rv ct, .val (.long M), .second, .val (.long K), .second, iv k1, rv ba, rv bc, iv to, rv bt, rv bm, iv 1, .val (.long rr), .second, .val (.long nd), .second, iv nn, iv 0]) rfl ?_
    refine XS.aload X1.here hx rfl (hb hby at_380) rfl rfl ?_
    refine XS.aload X1.here hx rfl (hb hby at_382) rfl rfl ?_
    refine XS.lload X1.here hx rfl (hb hby at_384) rfl ?_
    show own_S p e below (T1.setTop (mkF m 386 #[.val (.long x0), .second, iv x2, iv x3, iv x4, iv zs, iv sm, iv cc, rv ct, .val (.long M), .second, .val (.long K), .second, iv k1, rv ba, rv bc, iv to, rv bt, rv bm, iv 1, .val (.long rr), .second, .val (.long nd), .second, iv nn, iv 0] [(.long M), (.ref bm), (.ref bt)])) _
    refine st2.trans ?_
    refine XS.iload X2.here hx rfl (hb hby at_389) rfl ?_
    show own_S p e below (T2.setTop (mkF m 391 #[.val (.long x0), .second, iv x2, iv x3, iv x4, iv zs, iv sm, iv cc, rv ct, .val (.long M), .second, .val (.long K), .second, iv k1, rv ba, rv bc, iv to, rv bt, rv bm, iv 1, .val (.long rr), .second, .val (.long nd), .second, iv nn, iv 0] [(.int 1)])) _
    refine XS.ifNo X2.here hx rfl (hb hby at_391) rfl ((if0 _ _).trans (feq (by decide : ¬ ((1 : Int32) = (0 : Int32)))).1) ?_
    refine XS.aload X2.here hx rfl (hb hby at_394) rfl rfl ?_
    show own_S p e below (T2.setTop (mkF m 396 #[.val (.long x0), .second, iv x2, iv x3, iv x4, iv zs, iv sm, iv cc, rv ct, .val (.long M), .second, .val (.long K), .second, iv k1, rv ba, rv bc, iv to, rv bt, rv bm, iv 1, .val (.long rr), .second, .val (.long nd), .second, iv nn, iv 0] [(.ref bt)])) _
    refine st3.trans ?_
    refine XS.lload X3.here hx rfl (hb hby at_399) rfl ?_
    show own_S p e below (T3.setTop (mkF m 401 #[.val (.long x0), .second, iv x2, iv x3, iv x4, iv zs, iv sm, iv cc, rv ct, .val (.long M), .second, .val (.long K), .second, iv k1, rv ba, rv bc, iv to, rv bt, rv bm, iv 1, .val (.long rr), .second, .val (.long nd), .second, iv nn, iv 0] [(.long M), (.long (M - (0 : Int64)))])) _
    refine XS.lcmp X3.here hx rfl (hb hby at_401) rfl ?_
    show own_S p e below (T3.setTop (mkF m 402 #[.val (.long x0), .second, iv x2, iv x3, iv x4, iv zs, iv sm, iv cc, rv ct, .val (.long M), .second, .val (.long K), .second, iv k1, rv ba, rv bc, iv to, rv bt, rv bm, iv 1, .val (.long rr), .second, .val (.long nd), .second, iv nn, iv 0] [(.int (lcmpW (M - (0 : Int64)) M))])) _
    refine XS.ifNo X3.here hx rfl (hb hby at_402) rfl (Jvm.Free.XT.ll_ne_f hk4) ?_
    refine XS.iconst X3.here hx rfl (hb hby at_405) ?_
    show own_S p e below (T3.setTop (mkF m 406 #[.val (.long x0), .second, iv x2, iv x3, iv x4, iv zs, iv sm, iv cc, rv ct, .val (.long M), .second, .val (.long K), .second, iv k1, rv ba, rv bc, iv to, rv bt, rv bm, iv 1, .val (.long rr), .second, .val (.long nd), .second, iv nn, iv 0] [(.int 1)])) _
    refine XS.goto X3.here hx rfl (pc0 := 406) (pc' := 410) rfl (hb hby at_406) (by decide) (by decide) ?_
    show own_S p e below (T3.setTop (mkF m 410 #[.val (.long x0), .second, iv x2, iv x3, iv x4, iv zs, iv sm, iv cc, rv ct, .val (.long M), .second, .val (.long K), .second, iv k1, rv ba, rv bc, iv to, rv bt, rv bm, iv 1, .val (.long rr), .second, .val (.long nd), .second, iv nn, iv 0] [(.int 1)])) _
    refine XS.istore X3.here hx rfl (hb hby at_410) rfl (l' := #[.val (.long x0), .second, iv x2, iv x3, iv x4, iv zs, iv sm, iv cc, rv ct, .val (.long M), .second, .val (.long K), .second, iv k1, rv ba, rv bc, iv to, rv bt, rv bm, iv 1, .val (.long rr), .second, .val (.long nd), .second, iv nn, iv 0]) rfl ?_
    refine XS.iload X3.here hx rfl (hb hby at_412) rfl ?_
    show own_S p e below (T3.setTop (mkF m 414 #[.val (.long x0), .second, iv x2, iv x3, iv x4, iv zs, iv sm, iv cc, rv ct, .val (.long M), .second, .val (.long K), .second, iv k1, rv ba, rv bc, iv to, rv bt, rv bm, iv 1, .val (.long rr), .second, .val (.long nd), .second, iv nn, iv 0] [(.int 1)])) _
    exact kt
  obtain ⟨fs, hr, hrun, hended, hW, hsame⟩ := X3.leave (v := some (.int 1)) (fun h => by rw [hret] at h; cases h) hlk
  refine ⟨_, _, go5 _ ?_, hrun, hended, _, _, rfl, ⟨rfl, N3⟩, ⟨_, rfl⟩, hW, hsame.mono (by decide) (by decide)⟩
  exact retN X3 hx (t := .boolean) hret (by simp) (hb hby at_414) hr
set_option maxRecDepth 65536 in
set_option maxHeartbeats 40000000 in
theorem own_t340_00 {p : Program} {l : Launch} {e : Env} {s : State} {m : MethodId} {args : Array Value} {below : List Frame} {meth : Method} {c : Code} {T0 : State} {locs : List Loc} {Z : State} {a0 : Array Value} {h0 : Heap} {n0 : Nat} (x0 : Int64) (x2 : Int32) (x3 : Int32) (x4 : Int32) (zs : Int32) (sm : Int32) (cc : Int32) (ct : Addr) (ba : Addr) (bc : Addr) (to : Int32) (bt : Addr) (bm : Addr) (nn : Int32) (ev : Addr) (ns : Addr) (sg : Addr) (phS : Addr) (phF : Addr) (phA : Addr) (phD : Addr) (co : Addr) (ph : Addr) (wz : Int32) (kc : ClassId) (wy : Int32) (X0 : Stand p l e room_1 s m args below meth c T0 locs 5 94) (hx : p.tables.exec = Jvm.exec) (hZ : Z.Warmed39 s.vm) (hw : ∀ d ∈ tables_1, d.before a0 Z = true) (hby : c.code = code) (hml : c.maxLocals = 26) (hown : s.vm.findClass own_s11 = some m.cls) (e0 : T0.heap = h0) (N0 : Fr n0 locs) (Z0 : n0 ≤ h0.size) (hret : meth.sig.returnType = some .boolean) (hlk : meth.locks = false) (P0 : own_ST Z h0 ev ns sg phS phF phA phD co) (P1 : own_NN ev ns sg phS phF phA phD co) (P2 : Exa Z h0 bt own_s0) (P3 : Fld Z h0 bt own_s0 "count" own_s1 (.ref ct)) (P4 : Fld Z h0 bt own_s0 own_s2 "Z" (.int wz)) (P5 : Fld Z h0 bt own_s0 "most" "J" (.long 0)) (P6 : Fld Z h0 bt own_s0 "length" "J" (.long 0)) (P7 : Fld Z h0 bt own_s0 "past" "Z" (.int 0)) (P8 : Fld Z h0 bt own_s0 "over" "Z" (.int 0)) (P9 : Fld Z h0 bt own_s0 "counted" "J" (.long 0)) (P10 : Fld Z h0 bt own_s0 "phase" own_s4 (.ref ph)) (P11 : Fld Z h0 bt own_s0 "run" own_s5 .null) (P12 : Fld Z h0 bt own_s0 own_s3 "J" (.long 0)) (P13 : ct = ev ∨ ct = ns ∨ ct = sg) (P14 : ph = phS ∨ ph = phD) (P15 : Arv Z h0 bc kc .char (8 : Int32) [(.int 120), (.int 120), (.int 120), (.int 120), (.int 120), (.int 120), (.int 120), (.int 120)] (.int 0)) (P16 : bc ≠ bt) (P17 : Exa Z h0 bm own_s6) (P18 : Fld Z h0 bm own_s6 "count" own_s1 (.ref ct)) (P19 : Fld Z h0 bm own_s6 own_s2 "Z" (.int wy)) (P20 : bm ≠ bt) (P21 : n0 ≤ bt) (P22 : ¬ (nn < (1 : Int32))) :
    ∃ s₂ o, own_S p e below (T0.setTop (mkF m 340 #[.val (.long x0), .second, iv x2, iv x3, iv x4, iv zs, iv sm, iv cc, rv ct, .val (.long 0), .second, .val (.long 0), .second, iv 0, rv ba, rv bc, iv to, rv bt, rv bm, iv 1, .val (.long 0), .second, .val (.long 1), .second, iv nn, .unset] [])) s₂ ∧ s₂.status = .running ∧ Ended s₂ below o ∧ ∃ v L, o = .returned v ∧ (v = some (.int 1) ∧ Fr n0 L) ∧ FrameEnd s o s₂ L room_1.cells room_1.slots := by
  obtain ⟨st0, hst0⟩ : ∃ zst, zst = T0.setTop (mkF m 340 #[.val (.long x0), .second, iv x2, iv x3, iv x4, iv zs, iv sm, iv cc, rv ct, .val (.long 0), .second, .val (.long 0), .second, iv 0, rv ba, rv bc, iv to, rv bt, rv bm, iv 1, .val (.long 0), .second, .val (.long 1), .second, iv nn, .unset] []) := ⟨_, rfl⟩
  have go0 : ∀ t, own_S p e below (T0.setTop (mkF m 340 #[.val (.long x0), .second, iv x2, iv x3, iv x4, iv zs, iv sm, iv cc, rv ct, .val (.long 0), .second, .val (.long 0), .second, iv 0, rv ba, rv bc, iv to, rv bt, rv bm, iv 1, .val (.long 0), .second, .val (.long 1), .second, iv nn, .unset] [])) t → Steps p.tables e below st0 t := fun t k => by rw [hst0]; exact k
  rw [← hst0]
  obtain ⟨cq1, kq1, q1a, q1b, q1c⟩ := isOf hZ e0 P2
  obtain ⟨_, _, ⟨T1, L1, k1, n1⟩, -, X1, ⟨Lc1, hQ1, l1, y1, z1⟩, st1⟩ := X0.virtualBack hx (y := (⟨own_s0, "read", own_s8⟩ : MethodName)) (z := (⟨own_s0, "read", own_s8⟩ : MethodName)) hown (mvT hZ (own_w hw 97 rfl)) (mvT hZ (own_w hw 98 rfl)) (notFace_of_selects (args := #[]) (mvT hZ (own_w hw 100 rfl))) (mvT hZ (own_w hw 100 rfl)) (mvT hZ (own_w hw 99 rfl)) (by decide) (backOf (W := 0) (own_read00 l Z a0 hw [] bt bc nn ev ns sg phS phF phA phD co ct ph wz kc h0 n0 Z0 P0 P1 P2 P3 P4 P5 P6 P7 P8 P9 P10 P11 P12 P13 P14 P15 P16 P21 P22) hZ (own_w hw 101 rfl) (own_w hw 14 rfl) (by decide) (by decide)) q1a q1c (g := (mkF m 348 #[.val (.long x0), .second, iv x2, iv x3, iv x4, iv zs, iv sm, iv cc, rv ct, .val (.long 0), .second, .val (.long 0), .second, iv 0, rv ba, rv bc, iv to, rv bt, rv bm, iv 1, .val (.long 0), .second, .val (.long 1), .second, iv nn, .unset] [.null, (.int nn), (.int 0), (.ref bc), (.ref bt)])) rfl (by rw [hml]; rfl) (Steps.refl _) (argsL := [(.ref bc), (.int 0), (.int nn), .null]) (rest := []) (lenOf pd_30 rfl) rfl (by show 2 * 0 + _ ≤ _; exact Nat.le_of_eq rfl) (hb hby at_348) (fun _ _ => ⟨rfl, e0, (by decide : 5 + 0 ≤ _), (by decide : 94 + 0 ≤ _)⟩)
  dsimp only [Pt.U, Pt.locs, Pt.cells, Pt.slots] at X1 l1 y1 z1 st1 hQ1
  subst l1 y1 z1
  obtain ⟨Nq1, y1_0, y1_1, y1_2, rfl, Kc1, p1_0, p1_1, p1_2, p1_3, p1_4, p1_5, p1_6, p1_7, p1_8, p1_9, p1_10⟩ := hQ1
  have N1 := Fr.app N0 Nq1
  have Z1 : n0 ≤ T1.heap.size := Nat.le_trans Z0 Kc1.1
  have f2 := (P0.keep Kc1 (allS (P := fun x => ∀ c, h0[x]? = some c → c.vm.isStatics = false) (own_nost P2) all0))
  have f3 := (P17.keep Kc1)
  have f4 := (P18.keep Kc1 (ninS P20 nin0))
  have f5 := (P19.keep Kc1 (ninS P20 nin0))
  have go7 : ∀ t, own_S p e below (T1.setTop (mkF m 351 #[.val (.long x0), .second, iv x2, iv x3, iv x4, iv zs, iv sm, iv cc, rv ct, .val (.long 0), .second, .val (.long 0), .second, iv 0, rv ba, rv bc, iv to, rv bt, rv bm, iv 1, .val (.long 0), .second, .val (.long 1), .second, iv nn, .unset] [(.int 0)])) t → Steps p.tables e below st0 t := by
    intro t kt
    refine go0 t ?_
    refine XS.aload X0.here hx rfl (hb hby at_340) rfl rfl ?_
    refine XS.aload X0.here hx rfl (hb hby at_342) rfl rfl ?_
    refine XS.iconst X0.here hx rfl (hb hby at_344) ?_
    show own_S p e below (T0.setTop (mkF m 345 #[.val (.long x0), .second, iv x2, iv x3, iv x4, iv zs, iv sm, iv cc, rv ct, .val (.long 0), .second, .val (.long 0), .second, iv 0, rv ba, rv bc, iv to, rv bt, rv bm, iv 1, .val (.long 0), .second, .val (.long 1), .second, iv nn, .unset] [(.int 0), (.ref bc), (.ref bt)])) _
    refine XS.iload X0.here hx rfl (hb hby at_345) rfl ?_
    show own_S p e below (T0.setTop (mkF m 347 #[.val (.long x0), .second, iv x2, iv x3, iv x4, iv zs, iv sm, iv cc, rv ct, .val (.long 0), .second, .val (.long 0), .second, iv 0, rv ba, rv bc, iv to, rv bt, rv bm, iv 1, .val (.long 0), .second, .val (.long 1), .second, iv nn, .unset] [(.int nn), (.int 0), (.ref bc), (.ref bt)])) _
    refine XS.aconstNull X0.here hx rfl (hb hby at_347) ?_
    show own_S p e below (T0.setTop (mkF m 348 #[.val (.long x0), .second, iv x2, iv x3, iv x4, iv zs, iv sm, iv cc, rv ct, .val (.long 0), .second, .val (.long 0), .second, iv 0, rv ba, rv bc, iv to, rv bt, rv bm, iv 1, .val (.long 0), .second, .val (.long 1), .second, iv nn, .unset] [.null, (.int nn), (.int 0), (.ref bc), (.ref bt)])) _
    refine st1.trans ?_
    show own_S p e below (T1.setTop (mkF m 351 #[.val (.long x0), .second, iv x2, iv x3, iv x4, iv zs, iv sm, iv cc, rv ct, .val (.long 0), .second, .val (.long 0), .second, iv 0, rv ba, rv bc, iv to, rv bt, rv bm, iv 1, .val (.long 0), .second, .val (.long 1), .second, iv nn, .unset] [(.int 0)])) _
    exact kt
  obtain ⟨s₂, o₂, hs₂, hr₂⟩ := own_t351 x0 x2 x3 x4 zs sm cc ct (0 : Int64) (0 : Int64) (0 : Int32) ba bc to bt bm (0 : Int64) (1 : Int64) nn ev ns sg phS phF phA phD co y1_2 wz y1_0 y1_1 wy X1 hx hZ hw hby hml hown rfl N1 Z1 hret hlk f2 P1 p1_0 p1_1 p1_2 p1_3 p1_4 p1_5 p1_6 p1_7 p1_8 p1_9 p1_10 f3 f4 f5 P20 P21
  exact ⟨s₂, o₂, go7 _ hs₂, hr₂⟩
set_option maxRecDepth 65536 in
set_option maxHeartbeats 40000000 in
theorem own_t340_10 {p : Program} {l : Launch} {e : Env} {s : State} {m : MethodId} {args : Array Value} {below : List Frame} {meth : Method} {c : Code} {T0 : State} {locs : List Loc} {Z : State} {a0 : Array Value} {h0 : Heap} {n0 : Nat} (x0 : Int64) (x2 : Int32) (x3 : Int32) (x4 : Int32) (zs : Int32) (sm : Int32) (cc : Int32) (ct : Addr) (ba : Addr) (bc : Addr) (to : Int32) (bt : Addr) (bm : Addr) (nn : Int32) (ev : Addr) (ns : Addr) (sg : Addr) (phS : Addr) (phF : Addr) (phA : Addr) (phD : Addr) (co : Addr) (ph : Addr) (wz : Int32) (kc : ClassId) (wy : Int32) (X0 : Stand p l e room_1 s m args below meth c T0 locs 5 94) (hx : p.tables.exec = Jvm.exec) (hZ : Z.Warmed39 s.vm) (hw : ∀ d ∈ tables_1, d.before a0 Z = true) (hby : c.code = code) (hml : c.maxLocals = 26) (hown : s.vm.findClass own_s11 = some m.cls) (e0 : T0.heap = h0) (N0 : Fr n0 locs) (Z0 : n0 ≤ h0.size) (hret : meth.sig.returnType = some .boolean) (hlk : meth.locks = false) (P0 : own_ST Z h0 ev ns sg phS phF phA phD co) (P1 : own_NN ev ns sg phS phF phA phD co) (P2 : Exa Z h0 bt own_s0) (P3 : Fld Z h0 bt own_s0 "count" own_s1 (.ref ct)) (P4 : Fld Z h0 bt own_s0 own_s2 "Z" (.int wz)) (P5 : Fld Z h0 bt own_s0 "most" "J" (.long 1)) (P6 : Fld Z h0 bt own_s0 "length" "J" (.long 0)) (P7 : Fld Z h0 bt own_s0 "past" "Z" (.int 0)) (P8 : Fld Z h0 bt own_s0 "over" "Z" (.int 0)) (P9 : Fld Z h0 bt own_s0 "counted" "J" (.long 0)) (P10 : Fld Z h0 bt own_s0 "phase" own_s4 (.ref ph)) (P11 : Fld Z h0 bt own_s0 "run" own_s5 .null) (P12 : Fld Z h0 bt own_s0 own_s3 "J" (.long 0)) (P13 : ct = ev ∨ ct = ns ∨ ct = sg) (P14 : ph = phS ∨ ph = phD) (P15 : Arv Z h0 bc kc .char (8 : Int32) [(.int 120), (.int 120), (.int 120), (.int 120), (.int 120), (.int 120), (.int 120), (.int 120)] (.int 0)) (P16 : bc ≠ bt) (P17 : Exa Z h0 bm own_s6) (P18 : Fld Z h0 bm own_s6 "count" own_s1 (.ref ct)) (P19 : Fld Z h0 bm own_s6 own_s2 "Z" (.int wy)) (P20 : bm ≠ bt) (P21 : n0 ≤ bt) (P22 : ¬ (nn < (3 : Int32))) :
    ∃ s₂ o, own_S p e below (T0.setTop (mkF m 340 #[.val (.long x0), .second, iv x2, iv x3, iv x4, iv zs, iv sm, iv cc, rv ct, .val (.long 1), .second, .val (.long 0), .second, iv 0, rv ba, rv bc, iv to, rv bt, rv bm, iv 1, .val (.long 1), .second, .val (.long 3), .second, iv nn, .unset] [])) s₂ ∧ s₂.status = .running ∧ Ended s₂ below o ∧ ∃ v L, o = .returned v ∧ (v = some (.int 1) ∧ Fr n0 L) ∧ FrameEnd s o s₂ L room_1.cells room_1.slots := by
  obtain ⟨st0, hst0⟩ : ∃ zst, zst = T0.setTop (mkF m 340 #[.val (.long x0), .second, iv x2, iv x3, iv x4, iv zs, iv sm, iv cc, rv ct, .val (.long 1), .second, .val (.long 0), .second, iv 0, rv ba, rv bc, iv to, rv bt, rv bm, iv 1, .val (.long 1), .second, .val (.long 3), .second, iv nn, .unset] []) := ⟨_, rfl⟩
  have go0 : ∀ t, own_S p e below (T0.setTop (mkF m 340 #[.val (.long x0), .second, iv x2, iv x3, iv x4, iv zs, iv sm, iv cc, rv ct, .val (.long 1), .second, .val (.long 0), .second, iv 0, rv ba, rv bc, iv to, rv bt, rv bm, iv 1, .val (.long 1), .second, .val (.long 3), .second, iv nn, .unset] [])) t → Steps p.tables e below st0 t := fun t k => by rw [hst0]; exact k
  rw [← hst0]
  obtain ⟨cq1, kq1, q1a, q1b, q1c⟩ := isOf hZ e0 P2
  obtain ⟨_, _, ⟨T1, L1, k1, n1⟩, -, X1, ⟨Lc1, hQ1, l1, y1, z1⟩, st1⟩ := X0.virtualBack hx (y := (⟨own_s0, "read", own_s8⟩ : MethodName)) (z := (⟨own_s0, "read", own_s8⟩ : MethodName)) hown (mvT hZ (own_w hw 97 rfl)) (mvT hZ (own_w hw 98 rfl)) (notFace_of_selects (args := #[]) (mvT hZ (own_w hw 100 rfl))) (mvT hZ (own_w hw 100 rfl)) (mvT hZ (own_w hw 99 rfl)) (by decide) (backOf (W := 0) (own_read10 l Z a0 hw [] bt bc nn ev ns sg phS phF phA phD co ct ph wz kc h0 n0 Z0 P0 P1 P2 P3 P4 P5 P6 P7 P8 P9 P10 P11 P12 P13 P14 P15 P16 P21 P22) hZ (own_w hw 101 rfl) (own_w hw 14 rfl) (by decide) (by decide)) q1a q1c (g := (mkF m 348 #[.val (.long x0), .second, iv x2, iv x3, iv x4, iv zs, iv sm, iv cc, rv ct, .val (.long 1), .second, .val (.long 0), .second, iv 0, rv ba, rv bc, iv to, rv bt, rv bm, iv 1, .val (.long 1), .second, .val (.long 3), .second, iv nn, .unset] [.null, (.int nn), (.int 0), (.ref bc), (.ref bt)])) rfl (by rw [hml]; rfl) (Steps.refl _) (argsL := [(.ref bc), (.int 0), (.int nn), .null]) (rest := []) (lenOf pd_30 rfl) rfl (by show 2 * 0 + _ ≤ _; exact Nat.le_of_eq rfl) (hb hby at_348) (fun _ _ => ⟨rfl, e0, (by decide : 5 + 0 ≤ _), (by decide : 94 + 0 ≤ _)⟩)
  dsimp only [Pt.U, Pt.locs, Pt.cells, Pt.slots] at X1 l1 y1 z1 st1 hQ1
  subst l1 y1 z1
  obtain ⟨Nq1, y1_0, y1_1, y1_2, rfl, Kc1, p1_0, p1_1, p1_2, p1_3, p1_4, p1_5, p1_6, p1_7, p1_8, p1_9, p1_10⟩ := hQ1
  have N1 := Fr.app N0 Nq1
  have Z1 : n0 ≤ T1.heap.size := Nat.le_trans Z0 Kc1.1
  have f2 := (P0.keep Kc1 (allS (P := fun x => ∀ c, h0[x]? = some c → c.vm.isStatics = false) (own_nost P2) all0))
  have f3 := (P17.keep Kc1)
  have f4 := (P18.keep Kc1 (ninS P20 nin0))
  have f5 := (P19.keep Kc1 (ninS P20 nin0))
  have go7 : ∀ t, own_S p e below (T1.setTop (mkF m 351 #[.val (.long x0), .second, iv x2, iv x3, iv x4, iv zs, iv sm, iv cc, rv ct, .val (.long 1), .second, .val (.long 0), .second, iv 0, rv ba, rv bc, iv to, rv bt, rv bm, iv 1, .val (.long 1), .second, .val (.long 3), .second, iv nn, .unset] [(.int 0)])) t → Steps p.tables e below st0 t := by
    intro t kt
    refine go0 t ?_
    refine XS.aload X0.here hx rfl (hb hby at_340) rfl rfl ?_
    refine XS.aload X0.here hx rfl (hb hby at_342) rfl rfl ?_
    refine XS.iconst X0.here hx rfl (hb hby at_344) ?_
    show own_S p e below (T0.setTop (mkF m 345 #[.val (.long x0), .second, iv x2, iv x3, iv x4, iv zs, iv sm, iv cc, rv ct, .val (.long 1), .second, .val (.long 0), .second, iv 0, rv ba, rv bc, iv to, rv bt, rv bm, iv 1, .val (.long 1), .second, .val (.long 3), .second, iv nn, .unset] [(.int 0), (.ref bc), (.ref bt)])) _
    refine XS.iload X0.here hx rfl (hb hby at_345) rfl ?_
    show own_S p e below (T0.setTop (mkF m 347 #[.val (.long x0), .second, iv x2, iv x3, iv x4, iv zs, iv sm, iv cc, rv ct, .val (.long 1), .second, .val (.long 0), .second, iv 0, rv ba, rv bc, iv to, rv bt, rv bm, iv 1, .val (.long 1), .second, .val (.long 3), .second, iv nn, .unset] [(.int nn), (.int 0), (.ref bc), (.ref bt)])) _
    refine XS.aconstNull X0.here hx rfl (hb hby at_347) ?_
    show own_S p e below (T0.setTop (mkF m 348 #[.val (.long x0), .second, iv x2, iv x3, iv x4, iv zs, iv sm, iv cc, rv ct, .val (.long 1), .second, .val (.long 0), .second, iv 0, rv ba, rv bc, iv to, rv bt, rv bm, iv 1, .val (.long 1), .second, .val (.long 3), .second, iv nn, .unset] [.null, (.int nn), (.int 0), (.ref bc), (.ref bt)])) _
    refine st1.trans ?_
    show own_S p e below (T1.setTop (mkF m 351 #[.val (.long x0), .second, iv x2, iv x3, iv x4, iv zs, iv sm, iv cc, rv ct, .val (.long 1), .second, .val (.long 0), .second, iv 0, rv ba, rv bc, iv to, rv bt, rv bm, iv 1, .val (.long 1), .second, .val (.long 3), .second, iv nn, .unset] [(.int 0)])) _
    exact kt
  obtain ⟨s₂, o₂, hs₂, hr₂⟩ := own_t351 x0 x2 x3 x4 zs sm cc ct (1 : Int64) (0 : Int64) (0 : Int32) ba bc to bt bm (1 : Int64) (3 : Int64) nn ev ns sg phS phF phA phD co y1_2 wz y1_0 y1_1 wy X1 hx hZ hw hby hml hown rfl N1 Z1 hret hlk f2 P1 p1_0 p1_1 p1_2 p1_3 p1_4 p1_5 p1_6 p1_7 p1_8 p1_9 p1_10 f3 f4 f5 P20 P21
  exact ⟨s₂, o₂, go7 _ hs₂, hr₂⟩
set_option maxRecDepth 65536 in
set_option maxHeartbeats 40000000 in
theorem own_t340_11 {p : Program} {l : Launch} {e : Env} {s : State} {m : MethodId} {args : Array Value} {below : List Frame} {meth : Method} {c : Code} {T0 : State} {locs : List Loc} {Z : State} {a0 : Array Value} {h0 : Heap} {n0 : Nat} (x0 : Int64) (x2 : Int32) (x3 : Int32) (x4 : Int32) (zs : Int32) (sm : Int32) (cc : Int32) (ct : Addr) (ba : Addr) (bc : Addr) (to : Int32) (bt : Addr) (bm : Addr) (nn : Int32) (ev : Addr) (ns : Addr) (sg : Addr) (phS : Addr) (phF : Addr) (phA : Addr) (phD : Addr) (co : Addr) (ph : Addr) (wz : Int32) (kc : ClassId) (wy : Int32) (X0 : Stand p l e room_1 s m args below meth c T0 locs 5 94) (hx : p.tables.exec = Jvm.exec) (hZ : Z.Warmed39 s.vm) (hw : ∀ d ∈ tables_1, d.before a0 Z = true) (hby : c.code = code) (hml : c.maxLocals = 26) (hown : s.vm.findClass own_s11 = some m.cls) (e0 : T0.heap = h0) (N0 : Fr n0 locs) (Z0 : n0 ≤ h0.size) (hret : meth.sig.returnType = some .boolean) (hlk : meth.locks = false) (P0 : own_ST Z h0 ev ns sg phS phF phA phD co) (P1 : own_NN ev ns sg phS phF phA phD co) (P2 : Exa Z h0 bt own_s0) (P3 : Fld Z h0 bt own_s0 "count" own_s1 (.ref ct)) (P4 : Fld Z h0 bt own_s0 own_s2 "Z" (.int wz)) (P5 : Fld Z h0 bt own_s0 "most" "J" (.long 1)) (P6 : Fld Z h0 bt own_s0 "length" "J" (.long 1)) (P7 : Fld Z h0 bt own_s0 "past" "Z" (.int 0)) (P8 : Fld Z h0 bt own_s0 "over" "Z" (.int 0)) (P9 : Fld Z h0 bt own_s0 "counted" "J" (.long 0)) (P10 : Fld Z h0 bt own_s0 "phase" own_s4 (.ref ph)) (P11 : Fld Z h0 bt own_s0 "run" own_s5 .null) (P12 : Fld Z h0 bt own_s0 own_s3 "J" (.long 0)) (P13 : ct = ev ∨ ct = ns ∨ ct = sg) (P14 : ph = phS ∨ ph = phD) (P15 : Arv Z h0 bc kc .char (8 : Int32) [(.int 120), (.int 120), (.int 120), (.int 120), (.int 120), (.int 120), (.int 120), (.int 120)] (.int 0)) (P16 : bc ≠ bt) (P17 : Exa Z h0 bm own_s6) (P18 : Fld Z h0 bm own_s6 "count" own_s1 (.ref ct)) (P19 : Fld Z h0 bm own_s6 own_s2 "Z" (.int wy)) (P20 : bm ≠ bt) (P21 : n0 ≤ bt) (P22 : ¬ (nn < (2 : Int32))) :
    ∃ s₂ o, own_S p e below (T0.setTop (mkF m 340 #[.val (.long x0), .second, iv x2, iv x3, iv x4, iv zs, iv sm, iv cc, rv ct, .val (.long 1), .second, .val (.long 1), .second, iv 1, rv ba, rv bc, iv to, rv bt, rv bm, iv 1, .val (.long 0), .second, .val (.long 2), .second, iv nn, .unset] [])) s₂ ∧ s₂.status = .running ∧ Ended s₂ below o ∧ ∃ v L, o = .returned v ∧ (v = some (.int 1) ∧ Fr n0 L) ∧ FrameEnd s o s₂ L room_1.cells room_1.slots := by
  obtain ⟨st0, hst0⟩ : ∃ zst, zst = T0.setTop (mkF m 340 #[.val (.long x0), .second, iv x2, iv x3, iv x4, iv zs, iv sm, iv cc, rv ct, .val (.long 1), .second, .val (.long 1), .second, iv 1, rv ba, rv bc, iv to, rv bt, rv bm, iv 1, .val (.long 0), .second, .val (.long 2), .second, iv nn, .unset] []) := ⟨_, rfl⟩
  have go0 : ∀ t, own_S p e below (T0.setTop (mkF m 340 #[.val (.long x0), .second, iv x2, iv x3, iv x4, iv zs, iv sm, iv cc, rv ct, .val (.long 1), .second, .val (.long 1), .second, iv 1, rv ba, rv bc, iv to, rv bt, rv bm, iv 1, .val (.long 0), .second, .val (.long 2), .second, iv nn, .unset] [])) t → Steps p.tables e below st0 t := fun t k => by rw [hst0]; exact k
  rw [← hst0]
  obtain ⟨cq1, kq1, q1a, q1b, q1c⟩ := isOf hZ e0 P2
  obtain ⟨_, _, ⟨T1, L1, k1, n1⟩, -, X1, ⟨Lc1, hQ1, l1, y1, z1⟩, st1⟩ := X0.virtualBack hx (y := (⟨own_s0, "read", own_s8⟩ : MethodName)) (z := (⟨own_s0, "read", own_s8⟩ : MethodName)) hown (mvT hZ (own_w hw 97 rfl)) (mvT hZ (own_w hw 98 rfl)) (notFace_of_selects (args := #[]) (mvT hZ (own_w hw 100 rfl))) (mvT hZ (own_w hw 100 rfl)) (mvT hZ (own_w hw 99 rfl)) (by decide) (backOf (W := 0) (own_read11 l Z a0 hw [] bt bc nn ev ns sg phS phF phA phD co ct ph wz kc h0 n0 Z0 P0 P1 P2 P3 P4 P5 P6 P7 P8 P9 P10 P11 P12 P13 P14 P15 P16 P21 P22) hZ (own_w hw 101 rfl) (own_w hw 14 rfl) (by decide) (by decide)) q1a q1c (g := (mkF m 348 #[.val (.long x0), .second, iv x2, iv x3, iv x4, iv zs, iv sm, iv cc, rv ct, .val (.long 1), .second, .val (.long 1), .second, iv 1, rv ba, rv bc, iv to, rv bt, rv bm, iv 1, .val (.long 0), .second, .val (.long 2), .second, iv nn, .unset] [.null, (.int nn), (.int 0), (.ref bc), (.ref bt)])) rfl (by rw [hml]; rfl) (Steps.refl _) (argsL := [(.ref bc), (.int 0), (.int nn), .null]) (rest := []) (lenOf pd_30 rfl) rfl (by show 2 * 0 + _ ≤ _; exact Nat.le_of_eq rfl) (hb hby at_348) (fun _ _ => ⟨rfl, e0, (by decide : 5 + 0 ≤ _), (by decide : 94 + 0 ≤ _)⟩)
  dsimp only [Pt.U, Pt.locs, Pt.cells, Pt.slots] at X1 l1 y1 z1 st1 hQ1
  subst l1 y1 z1
  obtain ⟨Nq1, y1_0, y1_1, y1_2, rfl, Kc1, p1_0, p1_1, p1_2, p1_3, p1_4, p1_5, p1_6, p1_7, p1_8, p1_9, p1_10⟩ := hQ1
  have N1 := Fr.app N0 Nq1
  have Z1 : n0 ≤ T1.heap.size := Nat.le_trans Z0 Kc1.1
  have f2 := (P0.keep Kc1 (allS (P := fun x => ∀ c, h0[x]? = some c → c.vm.isStatics = false) (own_nost P2) all0))
  have f3 := (P17.keep Kc1)
  have f4 := (P18.keep Kc1 (ninS P20 nin0))
  have f5 := (P19.keep Kc1 (ninS P20 nin0))
  have go7 : ∀ t, own_S p e below (T1.setTop (mkF m 351 #[.val (.long x0), .second, iv x2, iv x3, iv x4, iv zs, iv sm, iv cc, rv ct, .val (.long 1), .second, .val (.long 1), .second, iv 1, rv ba, rv bc, iv to, rv bt, rv bm, iv 1, .val (.long 0), .second, .val (.long 2), .second, iv nn, .unset] [(.int 0)])) t → Steps p.tables e below st0 t := by
    intro t kt
    refine go0 t ?_
    refine XS.aload X0.here hx rfl (hb hby at_340) rfl rfl ?_
    refine XS.aload X0.here hx rfl (hb hby at_342) rfl rfl ?_
    refine XS.iconst X0.here hx rfl (hb hby at_344) ?_
    show own_S p e below (T0.setTop (mkF m 345 #[.val (.long x0), .second, iv x2, iv x3, iv x4, iv zs, iv sm, iv cc, rv ct, .val (.long 1), .second, .val (.long 1), .second, iv 1, rv ba, rv bc, iv to, rv bt, rv bm, iv 1, .val (.long 0), .second, .val (.long 2), .second, iv nn, .unset] [(.int 0), (.ref bc), (.ref bt)])) _
    refine XS.iload X0.here hx rfl (hb hby at_345) rfl ?_
    show own_S p e below (T0.setTop (mkF m 347 #[.val (.long x0), .second, iv x2, iv x3, iv x4, iv zs, iv sm, iv cc, rv ct, .val (.long 1), .second, .val (.long 1), .second, iv 1, rv ba, rv bc, iv to, rv bt, rv bm, iv 1, .val (.long 0), .second, .val (.long 2), .second, iv nn, .unset] [(.int nn), (.int 0), (.ref bc), (.ref bt)])) _
    refine XS.aconstNull X0.here hx rfl (hb hby at_347) ?_
    show own_S p e below (T0.setTop (mkF m 348 #[.val (.long x0), .second, iv x2, iv x3, iv x4, iv zs, iv sm, iv cc, rv ct, .val (.long 1), .second, .val (.long 1), .second, iv 1, rv ba, rv bc, iv to, rv bt, rv bm, iv 1, .val (.long 0), .second, .val (.long 2), .second, iv nn, .unset] [.null, (.int nn), (.int 0), (.ref bc), (.ref bt)])) _
    refine st1.trans ?_
    show own_S p e below (T1.setTop (mkF m 351 #[.val (.long x0), .second, iv x2, iv x3, iv x4, iv zs, iv sm, iv cc, rv ct, .val (.long 1), .second, .val (.long 1), .second, iv 1, rv ba, rv bc, iv to, rv bt, rv bm, iv 1, .val (.long 0), .second, .val (.long 2), .second, iv nn, .unset] [(.int 0)])) _
    exact kt
  obtain ⟨s₂, o₂, hs₂, hr₂⟩ := own_t351 x0 x2 x3 x4 zs sm cc ct (1 : Int64) (1 : Int64) (1 : Int32) ba bc to bt bm (0 : Int64) (2 : Int64) nn ev ns sg phS phF phA phD co y1_2 wz y1_0 y1_1 wy X1 hx hZ hw hby hml hown rfl N1 Z1 hret hlk f2 P1 p1_0 p1_1 p1_2 p1_3 p1_4 p1_5 p1_6 p1_7 p1_8 p1_9 p1_10 f3 f4 f5 P20 P21
  exact ⟨s₂, o₂, go7 _ hs₂, hr₂⟩
set_option maxRecDepth 65536 in
set_option maxHeartbeats 40000000 in
theorem own_t340_20 {p : Program} {l : Launch} {e : Env} {s : State} {m : MethodId} {args : Array Value} {below : List Frame} {meth : Method} {c : Code} {T0 : State} {locs : List Loc} {Z : State} {a0 : Array Value} {h0 : Heap} {n0 : Nat} (x0 : Int64) (x2 : Int32) (x3 : Int32) (x4 : Int32) (zs : Int32) (sm : Int32) (cc : Int32) (ct : Addr) (ba : Addr) (bc : Addr) (to : Int32) (bt : Addr) (bm : Addr) (nn : Int32) (ev : Addr) (ns : Addr) (sg : Addr) (phS : Addr) (phF : Addr) (phA : Addr) (phD : Addr) (co : Addr) (ph : Addr) (wz : Int32) (kc : ClassId) (wy : Int32) (X0 : Stand p l e room_1 s m args below meth c T0 locs 5 94) (hx : p.tables.exec = Jvm.exec) (hZ : Z.Warmed39 s.vm) (hw : ∀ d ∈ tables_1, d.before a0 Z = true) (hby : c.code = code) (hml : c.maxLocals = 26) (hown : s.vm.findClass own_s11 = some m.cls) (e0 : T0.heap = h0) (N0 : Fr n0 locs) (Z0 : n0 ≤ h0.size) (hret : meth.sig.returnType = some .boolean) (hlk : meth.locks = false) (P0 : own_ST Z h0 ev ns sg phS phF phA phD co) (P1 : own_NN ev ns sg phS phF phA phD co) (P2 : Exa Z h0 bt own_s0) (P3 : Fld Z h0 bt own_s0 "count" own_s1 (.ref ct)) (P4 : Fld Z h0 bt own_s0 own_s2 "Z" (.int wz)) (P5 : Fld Z h0 bt own_s0 "most" "J" (.long 2)) (P6 : Fld Z h0 bt own_s0 "length" "J" (.long 0)) (P7 : Fld Z h0 bt own_s0 "past" "Z" (.int 0)) (P8 : Fld Z h0 bt own_s0 "over" "Z" (.int 0)) (P9 : Fld Z h0 bt own_s0 "counted" "J" (.long 0)) (P10 : Fld Z h0 bt own_s0 "phase" own_s4 (.ref ph)) (P11 : Fld Z h0 bt own_s0 "run" own_s5 .null) (P12 : Fld Z h0 bt own_s0 own_s3 "J" (.long 0)) (P13 : ct = ev ∨ ct = ns ∨ ct = sg) (P14 : ph = phS ∨ ph = phD) (P15 : Arv Z h0 bc kc .char (8 : Int32) [(.int 120), (.int 120), (.int 120), (.int 120), (.int 120), (.int 120), (.int 120), (.int 120)] (.int 0)) (P16 : bc ≠ bt) (P17 : Exa Z h0 bm own_s6) (P18 : Fld Z h0 bm own_s6 "count" own_s1 (.ref ct)) (P19 : Fld Z h0 bm own_s6 own_s2 "Z" (.int wy)) (P20 : bm ≠ bt) (P21 : n0 ≤ bt) (P22 : ¬ (nn < (5 : Int32))) :
    ∃ s₂ o, own_S p e below (T0.setTop (mkF m 340 #[.val (.long x0), .second, iv x2, iv x3, iv x4, iv zs, iv sm, iv cc, rv ct, .val (.long 2), .second, .val (.long 0), .second, iv 0, rv ba, rv bc, iv to, rv bt, rv bm, iv 1, .val (.long 2), .second, .val (.long 5), .second, iv nn, .unset] [])) s₂ ∧ s₂.status = .running ∧ Ended s₂ below o ∧ ∃ v L, o = .returned v ∧ (v = some (.int 1) ∧ Fr n0 L) ∧ FrameEnd s o s₂ L room_1.cells room_1.slots := by
  obtain ⟨st0, hst0⟩ : ∃ zst, zst = T0.setTop (mkF m 340 #[.val (.long x0), .second, iv x2, iv x3, iv x4, iv zs, iv sm, iv cc, rv ct, .val (.long 2), .second, .val (.long 0), .second, iv 0, rv ba, rv bc, iv to, rv bt, rv bm, iv 1, .val (.long 2), .second, .val (.long 5), .second, iv nn, .unset] []) := ⟨_, rfl⟩
  have go0 : ∀ t, own_S p e below (T0.setTop (mkF m 340 #[.val (.long x0), .second, iv x2, iv x3, iv x4, iv zs, iv sm, iv cc, rv ct, .val (.long 2), .second, .val (.long 0), .second, iv 0, rv ba, rv bc, iv to, rv bt, rv bm, iv 1, .val (.long 2), .second, .val (.long 5), .second, iv nn, .unset] [])) t → Steps p.tables e below st0 t := fun t k => by rw [hst0]; exact k
  rw [← hst0]
  obtain ⟨cq1, kq1, q1a, q1b, q1c⟩ := isOf hZ e0 P2
  obtain ⟨_, _, ⟨T1, L1, k1, n1⟩, -, X1, ⟨Lc1, hQ1, l1, y1, z1⟩, st1⟩ := X0.virtualBack hx (y := (⟨own_s0, "read", own_s8⟩ : MethodName)) (z := (⟨own_s0, "read", own_s8⟩ : MethodName)) hown (mvT hZ (own_w hw 97 rfl)) (mvT hZ (own_w hw 98 rfl)) (notFace_of_selects (args := #[]) (mvT hZ (own_w hw 100 rfl))) (mvT hZ (own_w hw 100 rfl)) (mvT hZ (own_w hw 99 rfl)) (by decide) (backOf (W := 0) (own_read20 l Z a0 hw [] bt bc nn ev ns sg phS phF phA phD co ct ph wz kc h0 n0 Z0 P0 P1 P2 P3 P4 P5 P6 P7 P8 P9 P10 P11 P12 P13 P14 P15 P16 P21 P22) hZ (own_w hw 101 rfl) (own_w hw 14 rfl) (by decide) (by decide)) q1a q1c (g := (mkF m 348 #[.val (.long x0), .second, iv x2, iv x3, iv x4, iv zs, iv sm, iv cc, rv ct, .val (.long 2), .second, .val (.long 0), .second, iv 0, rv ba, rv bc, iv to, rv bt, rv bm, iv 1, .val (.long 2), .second, .val (.long 5), .second, iv nn, .unset] [.null, (.int nn), (.int 0), (.ref bc), (.ref bt)])) rfl (by rw [hml]; rfl) (Steps.refl _) (argsL := [(.ref bc), (.int 0), (.int nn), .null]) (rest := []) (lenOf pd_30 rfl) rfl (by show 2 * 0 + _ ≤ _; exact Nat.le_of_eq rfl) (hb hby at_348) (fun _ _ => ⟨rfl, e0, (by decide : 5 + 0 ≤ _), (by decide : 94 + 0 ≤ _)⟩)
  dsimp only [Pt.U, Pt.locs, Pt.cells, Pt.slots] at X1 l1 y1 z1 st1 hQ1
  subst l1 y1 z1
  obtain ⟨Nq1, y1_0, y1_1, y1_2, rfl, Kc1, p1_0, p1_1, p1_2, p1_3, p1_4, p1_5, p1_6, p1_7, p1_8, p1_9, p1_10⟩ := hQ1
  have N1 := Fr.app N0 Nq1
  have Z1 : n0 ≤ T1.heap.size := Nat.le_trans Z0 Kc1.1
  have f2 := (P0.keep Kc1 (allS (P := fun x => ∀ c, h0[x]? = some c → c.vm.isStatics = false) (own_nost P2) all0))
  have f3 := (P17.keep Kc1)
  have f4 := (P18.keep Kc1 (ninS P20 nin0))
  have f5 := (P19.keep Kc1 (ninS P20 nin0))
  have go7 : ∀ t, own_S p e below (T1.setTop (mkF m 351 #[.val (.long x0), .second, iv x2, iv x3, iv x4, iv zs, iv sm, iv cc, rv ct, .val (.long 2), .second, .val (.long 0), .second, iv 0, rv ba, rv bc, iv to, rv bt, rv bm, iv 1, .val (.long 2), .second, .val (.long 5), .second, iv nn, .unset] [(.int 0)])) t → Steps p.tables e below st0 t := by
    intro t kt
    refine go0 t ?_
    refine XS.aload X0.here hx rfl (hb hby at_340) rfl rfl ?_
    refine XS.aload X0.here hx rfl (hb hby at_342) rfl rfl ?_
    refine XS.iconst X0.here hx rfl (hb hby at_344) ?_
    show own_S p e below (T0.setTop (mkF m 345 #[.val (.long x0), .second, iv x2, iv x3, iv x4, iv zs, iv sm, iv cc, rv ct, .val (.long 2), .second, .val (.long 0), .second, iv 0, rv ba, rv bc, iv to, rv bt, rv bm, iv 1, .val (.long 2), .second, .val (.long 5), .second, iv nn, .unset] [(.int 0), (.ref bc), (.ref bt)])) _
    refine XS.iload X0.here hx rfl (hb hby at_345) rfl ?_
    show own_S p e below (T0.setTop (mkF m 347 #[.val (.long x0), .second, iv x2, iv x3, iv x4, iv zs, iv sm, iv cc, rv ct, .val (.long 2), .second, .val (.long 0), .second, iv 0, rv ba, rv bc, iv to, rv bt, rv bm, iv 1, .val (.long 2), .second, .val (.long 5), .second, iv nn, .unset] [(.int nn), (.int 0), (.ref bc), (.ref bt)])) _
    refine XS.aconstNull X0.here hx rfl (hb hby at_347) ?_
    show own_S p e below (T0.setTop (mkF m 348 #[.val (.long x0), .second, iv x2, iv x3, iv x4, iv zs, iv sm, iv cc, rv ct, .val (.long 2), .second, .val (.long 0), .second, iv 0, rv ba, rv bc, iv to, rv bt, rv bm, iv 1, .val (.long 2), .second, .val (.long 5), .second, iv nn, .unset] [.null, (.int nn), (.int 0), (.ref bc), (.ref bt)])) _
    refine st1.trans ?_
    show own_S p e below (T1.setTop (mkF m 351 #[.val (.long x0), .second, iv x2, iv x3, iv x4, iv zs, iv sm, iv cc, rv ct, .val (.long 2), .second, .val (.long 0), .second, iv 0, rv ba, rv bc, iv to, rv bt, rv bm, iv 1, .val (.long 2), .second, .val (.long 5), .second, iv nn, .unset] [(.int 0)])) _
    exact kt
  obtain ⟨s₂, o₂, hs₂, hr₂⟩ := own_t351 x0 x2 x3 x4 zs sm cc ct (2 : Int64) (0 : Int64) (0 : Int32) ba bc to bt bm (2 : Int64) (5 : Int64) nn ev ns sg phS phF phA phD co y1_2 wz y1_0 y1_1 wy X1 hx hZ hw hby hml hown rfl N1 Z1 hret hlk f2 P1 p1_0 p1_1 p1_2 p1_3 p1_4 p1_5 p1_6 p1_7 p1_8 p1_9 p1_10 f3 f4 f5 P20 P21
  exact ⟨s₂, o₂, go7 _ hs₂, hr₂⟩
set_option maxRecDepth 65536 in
set_option maxHeartbeats 40000000 in
theorem own_t340_21 {p : Program} {l : Launch} {e : Env} {s : State} {m : MethodId} {args : Array Value} {below : List Frame} {meth : Method} {c : Code} {T0 : State} {locs : List Loc} {Z : State} {a0 : Array Value} {h0 : Heap} {n0 : Nat} (x0 : Int64) (x2 : Int32) (x3 : Int32) (x4 : Int32) (zs : Int32) (sm : Int32) (cc : Int32) (ct : Addr) (ba : Addr) (bc : Addr) (to : Int32) (bt : Addr) (bm : Addr) (nn : Int32) (ev : Addr) (ns : Addr) (sg : Addr) (phS : Addr) (phF : Addr) (phA : Addr) (phD : Addr) (co : Addr) (ph : Addr) (wz : Int32) (kc : ClassId) (wy : Int32) (X0 : Stand p l e room_1 s m args below meth c T0 locs 5 94) (hx : p.tables.exec = Jvm.exec) (hZ : Z.Warmed39 s.vm) (hw : ∀ d ∈ tables_1, d.before a0 Z = true) (hby : c.code = code) (hml : c.maxLocals = 26) (hown : s.vm.findClass own_s11 = some m.cls) (e0 : T0.heap = h0) (N0 : Fr n0 locs) (Z0 : n0 ≤ h0.size) (hret : meth.sig.returnType = some .boolean) (hlk : meth.locks = false) (P0 : own_ST Z h0 ev ns sg phS phF phA phD co) (P1 : own_NN ev ns sg phS phF phA phD co) (P2 : Exa Z h0 bt own_s0) (P3 : Fld Z h0 bt own_s0 "count" own_s1 (.ref ct)) (P4 : Fld Z h0 bt own_s0 own_s2 "Z" (.int wz)) (P5 : Fld Z h0 bt own_s0 "most" "J" (.long 2)) (P6 : Fld Z h0 bt own_s0 "length" "J" (.long 1)) (P7 : Fld Z h0 bt own_s0 "past" "Z" (.int 0)) (P8 : Fld Z h0 bt own_s0 "over" "Z" (.int 0)) (P9 : Fld Z h0 bt own_s0 "counted" "J" (.long 0)) (P10 : Fld Z h0 bt own_s0 "phase" own_s4 (.ref ph)) (P11 : Fld Z h0 bt own_s0 "run" own_s5 .null) (P12 : Fld Z h0 bt own_s0 own_s3 "J" (.long 0)) (P13 : ct = ev ∨ ct = ns ∨ ct = sg) (P14 : ph = phS ∨ ph = phD) (P15 : Arv Z h0 bc kc .char (8 : Int32) [(.int 120), (.int 120), (.int 120), (.int 120), (.int 120), (.int 120), (.int 120), (.int 120)] (.int 0)) (P16 : bc ≠ bt) (P17 : Exa Z h0 bm own_s6) (P18 : Fld Z h0 bm own_s6 "count" own_s1 (.ref ct)) (P19 : Fld Z h0 bm own_s6 own_s2 "Z" (.int wy)) (P20 : bm ≠ bt) (P21 : n0 ≤ bt) (P22 : ¬ (nn < (4 : Int32))) :
    ∃ s₂ o, own_S p e below (T0.setTop (mkF m 340 #[.val (.long x0), .second, iv x2, iv x3, iv x4, iv zs, iv sm, iv cc, rv ct, .val (.long 2), .second, .val (.long 1), .second, iv 1, rv ba, rv bc, iv to, rv bt, rv bm, iv 1, .val (.long 1), .second, .val (.long 4), .second, iv nn, .unset] [])) s₂ ∧ s₂.status = .running ∧ Ended s₂ below o ∧ ∃ v L, o = .returned v ∧ (v = some (.int 1) ∧ Fr n0 L) ∧ FrameEnd s o s₂ L room_1.cells room_1.slots := by
  obtain ⟨st0, hst0⟩ : ∃ zst, zst = T0.setTop (mkF m 340 #[.val (.long x0), .second, iv x2, iv x3, iv x4, iv zs, iv sm, iv cc, rv ct, .val (.long 2), .second, .val (.long 1), .second, iv 1, rv ba, rv bc, iv to, rv bt, rv bm, iv 1, .val (.long 1), .second, .val (.long 4), .second, iv nn, .unset] []) := ⟨_, rfl⟩
  have go0 : ∀ t, own_S p e below (T0.setTop (mkF m 340 #[.val (.long x0), .second, iv x2, iv x3, iv x4, iv zs, iv sm, iv cc, rv ct, .val (.long 2), .second, .val (.long 1), .second, iv 1, rv ba, rv bc, iv to, rv bt, rv bm, iv 1, .val (.long 1), .second, .val (.long 4), .second, iv nn, .unset] [])) t → Steps p.tables e below st0 t := fun t k => by rw [hst0]; exact k
  rw [← hst0]
  obtain ⟨cq1, kq1, q1a, q1b, q1c⟩ := isOf hZ e0 P2
  obtain ⟨_, _, ⟨T1, L1, k1, n1⟩, -, X1, ⟨Lc1, hQ1, l1, y1, z1⟩, st1⟩ := X0.virtualBack hx (y := (⟨own_s0, "read", own_s8⟩ : MethodName)) (z := (⟨own_s0, "read", own_s8⟩ : MethodName)) hown (mvT hZ (own_w hw 97 rfl)) (mvT hZ (own_w hw 98 rfl)) (notFace_of_selects (args := #[]) (mvT hZ (own_w hw 100 rfl))) (mvT hZ (own_w hw 100 rfl)) (mvT hZ (own_w hw 99 rfl)) (by decide) (backOf (W := 0) (own_read21 l Z a0 hw [] bt bc nn ev ns sg phS phF phA phD co ct ph wz kc h0 n0 Z0 P0 P1 P2 P3 P4 P5 P6 P7 P8 P9 P10 P11 P12 P13 P14 P15 P16 P21 P22) hZ (own_w hw 101 rfl) (own_w hw 14 rfl) (by decide) (by decide)) q1a q1c (g := (mkF m 348 #[.val (.long x0), .second, iv x2, iv x3, iv x4, iv zs, iv sm, iv cc, rv ct, .val (.long 2), .second, .val (.long 1), .second, iv 1, rv ba, rv bc, iv to, rv bt, rv bm, iv 1, .val (.long 1), .second, .val (.long 4), .second, iv nn, .unset] [.null, (.int nn), (.int 0), (.ref bc), (.ref bt)])) rfl (by rw [hml]; rfl) (Steps.refl _) (argsL := [(.ref bc), (.int 0), (.int nn), .null]) (rest := []) (lenOf pd_30 rfl) rfl (by show 2 * 0 + _ ≤ _; exact Nat.le_of_eq rfl) (hb hby at_348) (fun _ _ => ⟨rfl, e0, (by decide : 5 + 0 ≤ _), (by decide : 94 + 0 ≤ _)⟩)
  dsimp only [Pt.U, Pt.locs, Pt.cells, Pt.slots] at X1 l1 y1 z1 st1 hQ1
  subst l1 y1 z1
  obtain ⟨Nq1, y1_0, y1_1, y1_2, rfl, Kc1, p1_0, p1_1, p1_2, p1_3, p1_4, p1_5, p1_6, p1_7, p1_8, p1_9, p1_10⟩ := hQ1
  have N1 := Fr.app N0 Nq1
  have Z1 : n0 ≤ T1.heap.size := Nat.le_trans Z0 Kc1.1
  have f2 := (P0.keep Kc1 (allS (P := fun x => ∀ c, h0[x]? = some c → c.vm.isStatics = false) (own_nost P2) all0))
  have f3 := (P17.keep Kc1)
  have f4 := (P18.keep Kc1 (ninS P20 nin0))
  have f5 := (P19.keep Kc1 (ninS P20 nin0))
  have go7 : ∀ t, own_S p e below (T1.setTop (mkF m 351 #[.val (.long x0), .second, iv x2, iv x3, iv x4, iv zs, iv sm, iv cc, rv ct, .val (.long 2), .second, .val (.long 1), .second, iv 1, rv ba, rv bc, iv to, rv bt, rv bm, iv 1, .val (.long 1), .second, .val (.long 4), .second, iv nn, .unset] [(.int 0)])) t → Steps p.tables e below st0 t := by
    intro t kt
    refine go0 t ?_
    refine XS.aload X0.here hx rfl (hb hby at_340) rfl rfl ?_
    refine XS.aload X0.here hx rfl (hb hby at_342) rfl rfl ?_
    refine XS.iconst X0.here hx rfl (hb hby at_344) ?_
    show own_S p e below (T0.setTop (mkF m 345 #[.val (.long x0), .second, iv x2, iv x3, iv x4, iv zs, iv sm, iv cc, rv ct, .val (.long 2), .second, .val (.long 1), .second, iv 1, rv ba, rv bc, iv to, rv bt, rv bm, iv 1, .val (.long 1), .second, .val (.long 4), .second, iv nn, .unset] [(.int 0), (.ref bc), (.ref bt)])) _
    refine XS.iload X0.here hx rfl (hb hby at_345) rfl ?_
    show own_S p e below (T0.setTop (mkF m 347 #[.val (.long x0), .second, iv x2, iv x3, iv x4, iv zs, iv sm, iv cc, rv ct, .val (.long 2), .second, .val (.long 1), .second, iv 1, rv ba, rv bc, iv to, rv bt, rv bm, iv 1, .val (.long 1), .second, .val (.long 4), .second, iv nn, .unset] [(.int nn), (.int 0), (.ref bc), (.ref bt)])) _
    refine XS.aconstNull X0.here hx rfl (hb hby at_347) ?_
    show own_S p e below (T0.setTop (mkF m 348 #[.val (.long x0), .second, iv x2, iv x3, iv x4, iv zs, iv sm, iv cc, rv ct, .val (.long 2), .second, .val (.long 1), .second, iv 1, rv ba, rv bc, iv to, rv bt, rv bm, iv 1, .val (.long 1), .second, .val (.long 4), .second, iv nn, .unset] [.null, (.int nn), (.int 0), (.ref bc), (.ref bt)])) _
    refine st1.trans ?_
    show own_S p e below (T1.setTop (mkF m 351 #[.val (.long x0), .second, iv x2, iv x3, iv x4, iv zs, iv sm, iv cc, rv ct, .val (.long 2), .second, .val (.long 1), .second, iv 1, rv ba, rv bc, iv to, rv bt, rv bm, iv 1, .val (.long 1), .second, .val (.long 4), .second, iv nn, .unset] [(.int 0)])) _
    exact kt
  obtain ⟨s₂, o₂, hs₂, hr₂⟩ := own_t351 x0 x2 x3 x4 zs sm cc ct (2 : Int64) (1 : Int64) (1 : Int32) ba bc to bt bm (1 : Int64) (4 : Int64) nn ev ns sg phS phF phA phD co y1_2 wz y1_0 y1_1 wy X1 hx hZ hw hby hml hown rfl N1 Z1 hret hlk f2 P1 p1_0 p1_1 p1_2 p1_3 p1_4 p1_5 p1_6 p1_7 p1_8 p1_9 p1_10 f3 f4 f5 P20 P21
  exact ⟨s₂, o₂, go7 _ hs₂, hr₂⟩
set_option maxRecDepth 65536 in
set_option maxHeartbeats 40000000 in
theorem own_t340_22 {p : Program} {l : Launch} {e : Env} {s : State} {m : MethodId} {args : Array Value} {below : List Frame} {meth : Method} {c : Code} {T0 : State} {locs : List Loc} {Z : State} {a0 : Array Value} {h0 : Heap} {n0 : Nat} (x0 : Int64) (x2 : Int32) (x3 : Int32) (x4 : Int32) (zs : Int32) (sm : Int32) (cc : Int32) (ct : Addr) (ba : Addr) (bc : Addr) (to : Int32) (bt : Addr) (bm : Addr) (nn : Int32) (ev : Addr) (ns : Addr) (sg : Addr) (phS : Addr) (phF : Addr) (phA : Addr) (phD : Addr) (co : Addr) (ph : Addr) (wz : Int32) (kc : ClassId) (wy : Int32) (X0 : Stand p l e room_1 s m args below meth c T0 locs 5 94) (hx : p.tables.exec = Jvm.exec) (hZ : Z.Warmed39 s.vm) (hw : ∀ d ∈ tables_1, d.before a0 Z = true) (hby : c.code = code) (hml : c.maxLocals = 26) (hown : s.vm.findClass own_s11 = some m.cls) (e0 : T0.heap = h0) (N0 : Fr n0 locs) (Z0 : n0 ≤ h0.size) (hret : meth.sig.returnType = some .boolean) (hlk : meth.locks = false) (P0 : own_ST Z h0 ev ns sg phS phF phA phD co) (P1 : own_NN ev ns sg phS phF phA phD co) (P2 : Exa Z h0 bt own_s0) (P3 : Fld Z h0 bt own_s0 "count" own_s1 (.ref ct)) (P4 : Fld Z h0 bt own_s0 own_s2 "Z" (.int wz)) (P5 : Fld Z h0 bt own_s0 "most" "J" (.long 2)) (P6 : Fld Z h0 bt own_s0 "length" "J" (.long 2)) (P7 : Fld Z h0 bt own_s0 "past" "Z" (.int 0)) (P8 : Fld Z h0 bt own_s0 "over" "Z" (.int 0)) (P9 : Fld Z h0 bt own_s0 "counted" "J" (.long 0)) (P10 : Fld Z h0 bt own_s0 "phase" own_s4 (.ref ph)) (P11 : Fld Z h0 bt own_s0 "run" own_s5 .null) (P12 : Fld Z h0 bt own_s0 own_s3 "J" (.long 0)) (P13 : ct = ev ∨ ct = ns ∨ ct = sg) (P14 : ph = phS ∨ ph = phD) (P15 : Arv Z h0 bc kc .char (8 : Int32) [(.int 120), (.int 120), (.int 120), (.int 120), (.int 120), (.int 120), (.int 120), (.int 120)] (.int 0)) (P16 : bc ≠ bt) (P17 : Exa Z h0 bm own_s6) (P18 : Fld Z h0 bm own_s6 "count" own_s1 (.ref ct)) (P19 : Fld Z h0 bm own_s6 own_s2 "Z" (.int wy)) (P20 : bm ≠ bt) (P21 : n0 ≤ bt) (P22 : ¬ (nn < (3 : Int32))) :
    ∃ s₂ o, own_S p e below (T0.setTop (mkF m 340 #[.val (.long x0), .second, iv x2, iv x3, iv x4, iv zs, iv sm, iv cc, rv ct, .val (.long 2), .second, .val (.long 2), .second, iv 2, rv ba, rv bc, iv to, rv bt, rv bm, iv 1, .val (.long 0), .second, .val (.long 3), .second, iv nn, .unset] [])) s₂ ∧ s₂.status = .running ∧ Ended s₂ below o ∧ ∃ v L, o = .returned v ∧ (v = some (.int 1) ∧ Fr n0 L) ∧ FrameEnd s o s₂ L room_1.cells room_1.slots := by
  obtain ⟨st0, hst0⟩ : ∃ zst, zst = T0.setTop (mkF m 340 #[.val (.long x0), .second, iv x2, iv x3, iv x4, iv zs, iv sm, iv cc, rv ct, .val (.long 2), .second, .val (.long 2), .second, iv 2, rv ba, rv bc, iv to, rv bt, rv bm, iv 1, .val (.long 0), .second, .val (.long 3), .second, iv nn, .unset] []) := ⟨_, rfl⟩
  have go0 : ∀ t, own_S p e below (T0.setTop (mkF m 340 #[.val (.long x0), .second, iv x2, iv x3, iv x4, iv zs, iv sm, iv cc, rv ct, .val (.long 2), .second, .val (.long 2), .second, iv 2, rv ba, rv bc, iv to, rv bt, rv bm, iv 1, .val (.long 0), .second, .val (.long 3), .second, iv nn, .unset] [])) t → Steps p.tables e below st0 t := fun t k => by rw [hst0]; exact k
  rw [← hst0]
  obtain ⟨cq1, kq1, q1a, q1b, q1c⟩ := isOf hZ e0 P2
  obtain ⟨_, _, ⟨T1, L1, k1, n1⟩, -, X1, ⟨Lc1, hQ1, l1, y1, z1⟩, st1⟩ := X0.virtualBack hx (y := (⟨own_s0, "read", own_s8⟩ : MethodName)) (z := (⟨own_s0, "read", own_s8⟩ : MethodName)) hown (mvT hZ (own_w hw 97 rfl)) (mvT hZ (own_w hw 98 rfl)) (notFace_of_selects (args := #[]) (mvT hZ (own_w hw 100 rfl))) (mvT hZ (own_w hw 100 rfl)) (mvT hZ (own_w hw 99 rfl)) (by decide) (backOf (W := 0) (own_read22 l Z a0 hw [] bt bc nn ev ns sg phS phF phA phD co ct ph wz kc h0 n0 Z0 P0 P1 P2 P3 P4 P5 P6 P7 P8 P9 P10 P11 P12 P13 P14 P15 P16 P21 P22) hZ (own_w hw 101 rfl) (own_w hw 14 rfl) (by decide) (by decide)) q1a q1c (g := (mkF m 348 #[.val (.long x0), .second, iv x2, iv x3, iv x4, iv zs, iv sm, iv cc, rv ct, .val (.long 2), .second, .val (.long 2), .second, iv 2, rv ba, rv bc, iv to, rv bt, rv bm, iv 1, .val (.long 0), .second, .val (.long 3), .second, iv nn, .unset] [.null, (.int nn), (.int 0), (.ref bc), (.ref bt)])) rfl (by rw [hml]; rfl) (Steps.refl _) (argsL := [(.ref bc), (.int 0), (.int nn), .null]) (rest := []) (lenOf pd_30 rfl) rfl (by show 2 * 0 + _ ≤ _; exact Nat.le_of_eq rfl) (hb hby at_348) (fun _ _ => ⟨rfl, e0, (by decide : 5 + 0 ≤ _), (by decide : 94 + 0 ≤ _)⟩)
  dsimp only [Pt.U, Pt.locs, Pt.cells, Pt.slots] at X1 l1 y1 z1 st1 hQ1
  subst l1 y1 z1
  obtain ⟨Nq1, y1_0, y1_1, y1_2, rfl, Kc1, p1_0, p1_1, p1_2, p1_3, p1_4, p1_5, p1_6, p1_7, p1_8, p1_9, p1_10⟩ := hQ1
  have N1 := Fr.app N0 Nq1
  have Z1 : n0 ≤ T1.heap.size := Nat.le_trans Z0 Kc1.1
  have f2 := (P0.keep Kc1 (allS (P := fun x => ∀ c, h0[x]? = some c → c.vm.isStatics = false) (own_nost P2) all0))
  have f3 := (P17.keep Kc1)
  have f4 := (P18.keep Kc1 (ninS P20 nin0))
  have f5 := (P19.keep Kc1 (ninS P20 nin0))
  have go7 : ∀ t, own_S p e below (T1.setTop (mkF m 351 #[.val (.long x0), .second, iv x2, iv x3, iv x4, iv zs, iv sm, iv cc, rv ct, .val (.long 2), .second, .val (.long 2), .second, iv 2, rv ba, rv bc, iv to, rv bt, rv bm, iv 1, .val (.long 0), .second, .val (.long 3), .second, iv nn, .unset] [(.int 0)])) t → Steps p.tables e below st0 t := by
    intro t kt
    refine go0 t ?_
    refine XS.aload X0.here hx rfl (hb hby at_340) rfl rfl ?_
    refine XS.aload X0.here hx rfl (hb hby at_342) rfl rfl ?_
    refine XS.iconst X0.here hx rfl (hb hby at_344) ?_
    show own_S p e below (T0.setTop (mkF m 345 #[.val (.long x0), .second, iv x2, iv x3, iv x4, iv zs, iv sm, iv cc, rv ct, .val (.long 2), .second, .val (.long 2), .second, iv 2, rv ba, rv bc, iv to, rv bt, rv bm, iv 1, .val (.long 0), .second, .val (.long 3), .second, iv nn, .unset] [(.int 0), (.ref bc), (.ref bt)])) _
    refine XS.iload X0.here hx rfl (hb hby at_345) rfl ?_
    show own_S p e below (T0.setTop (mkF m 347 #[.val (.long x0), .second, iv x2, iv x3, iv x4, iv zs, iv sm, iv cc, rv ct, .val (.long 2), .second, .val (.long 2), .second, iv 2, rv ba, rv bc, iv to, rv bt, rv bm, iv 1, .val (.long 0), .second, .val (.long 3), .second, iv nn, .unset] [(.int nn), (.int 0), (.ref bc), (.ref bt)])) _
    refine XS.aconstNull X0.here hx rfl (hb hby at_347) ?_
    show own_S p e below (T0.setTop (mkF m 348 #[.val (.long x0), .second, iv x2, iv x3, iv x4, iv zs, iv sm, iv cc, rv ct, .val (.long 2), .second, .val (.long 2), .second, iv 2, rv ba, rv bc, iv to, rv bt, rv bm, iv 1, .val (.long 0), .second, .val (.long 3), .second, iv nn, .unset] [.null, (.int nn), (.int 0), (.ref bc), (.ref bt)])) _
    refine st1.trans ?_
    show own_S p e below (T1.setTop (mkF m 351 #[.val (.long x0), .second, iv x2, iv x3, iv x4, iv zs, iv sm, iv cc, rv ct, .val (.long 2), .second, .val (.long 2), .second, iv 2, rv ba, rv bc, iv to, rv bt, rv bm, iv 1, .val (.long 0), .second, .val (.long 3), .second, iv nn, .unset] [(.int 0)])) _
    exact kt
  obtain ⟨s₂, o₂, hs₂, hr₂⟩ := own_t351 x0 x2 x3 x4 zs sm cc ct (2 : Int64) (2 : Int64) (2 : Int32) ba bc to bt bm (0 : Int64) (3 : Int64) nn ev ns sg phS phF phA phD co y1_2 wz y1_0 y1_1 wy X1 hx hZ hw hby hml hown rfl N1 Z1 hret hlk f2 P1 p1_0 p1_1 p1_2 p1_3 p1_4 p1_5 p1_6 p1_7 p1_8 p1_9 p1_10 f3 f4 f5 P20 P21
  exact ⟨s₂, o₂, go7 _ hs₂, hr₂⟩
set_option maxRecDepth 65536 in
set_option maxHeartbeats 40000000 in
theorem own_t340_30 {p : Program} {l : Launch} {e : Env} {s : State} {m : MethodId} {args : Array Value} {below : List Frame} {meth : Method} {c : Code} {T0 : State} {locs : List Loc} {Z : State} {a0 : Array Value} {h0 : Heap} {n0 : Nat} (x0 : Int64) (x2 : Int32) (x3 : Int32) (x4 : Int32) (zs : Int32) (sm : Int32) (cc : Int32) (ct : Addr) (ba : Addr) (bc : Addr) (to : Int32) (bt : Addr) (bm : Addr) (nn : Int32) (ev : Addr) (ns : Addr) (sg : Addr) (phS : Addr) (phF : Addr) (phA : Addr) (phD : Addr) (co : Addr) (ph : Addr) (wz : Int32) (kc : ClassId) (wy : Int32) (X0 : Stand p l e room_1 s m args below meth c T0 locs 5 94) (hx : p.tables.exec = Jvm.exec) (hZ : Z.Warmed39 s.vm) (hw : ∀ d ∈ tables_1, d.before a0 Z = true) (hby : c.code = code) (hml : c.maxLocals = 26) (hown : s.vm.findClass own_s11 = some m.cls) (e0 : T0.heap = h0) (N0 : Fr n0 locs) (Z0 : n0 ≤ h0.size) (hret : meth.sig.returnType = some .boolean) (hlk : meth.locks = false) (P0 : own_ST Z h0 ev ns sg phS phF phA phD co) (P1 : own_NN ev ns sg phS phF phA phD co) (P2 : Exa Z h0 bt own_s0) (P3 : Fld Z h0 bt own_s0 "count" own_s1 (.ref ct)) (P4 : Fld Z h0 bt own_s0 own_s2 "Z" (.int wz)) (P5 : Fld Z h0 bt own_s0 "most" "J" (.long 3)) (P6 : Fld Z h0 bt own_s0 "length" "J" (.long 0)) (P7 : Fld Z h0 bt own_s0 "past" "Z" (.int 0)) (P8 : Fld Z h0 bt own_s0 "over" "Z" (.int 0)) (P9 : Fld Z h0 bt own_s0 "counted" "J" (.long 0)) (P10 : Fld Z h0 bt own_s0 "phase" own_s4 (.ref ph)) (P11 : Fld Z h0 bt own_s0 "run" own_s5 .null) (P12 : Fld Z h0 bt own_s0 own_s3 "J" (.long 0)) (P13 : ct = ev ∨ ct = ns ∨ ct = sg) (P14 : ph = phS ∨ ph = phD) (P15 : Arv Z h0 bc kc .char (8 : Int32) [(.int 120), (.int 120), (.int 120), (.int 120), (.int 120), (.int 120), (.int 120), (.int 120)] (.int 0)) (P16 : bc ≠ bt) (P17 : Exa Z h0 bm own_s6) (P18 : Fld Z h0 bm own_s6 "count" own_s1 (.ref ct)) (P19 : Fld Z h0 bm own_s6 own_s2 "Z" (.int wy)) (P20 : bm ≠ bt) (P21 : n0 ≤ bt) (P22 : ¬ (nn < (7 : Int32))) :
    ∃ s₂ o, own_S p e below (T0.setTop (mkF m 340 #[.val (.long x0), .second, iv x2, iv x3, iv x4, iv zs, iv sm, iv cc, rv ct, .val (.long 3), .second, .val (.long 0), .second, iv 0, rv ba, rv bc, iv to, rv bt, rv bm, iv 1, .val (.long 3), .second, .val (.long 7), .second, iv nn, .unset] [])) s₂ ∧ s₂.status = .running ∧ Ended s₂ below o ∧ ∃ v L, o = .returned v ∧ (v = some (.int 1) ∧ Fr n0 L) ∧ FrameEnd s o s₂ L room_1.cells room_1.slots := by
  obtain ⟨st0, hst0⟩ : ∃ zst, zst = T0.setTop (mkF m 340 #[.val (.long x0), .second, iv x2, iv x3, iv x4, iv zs, iv sm, iv cc, rv ct, .val (.long 3), .second, .val (.long 0), .second, iv 0, rv ba, rv bc, iv to, rv bt, rv bm, iv 1, .val (.long 3), .second, .val (.long 7), .second, iv nn, .unset] []) := ⟨_, rfl⟩
  have go0 : ∀ t, own_S p e below (T0.setTop (mkF m 340 #[.val (.long x0), .second, iv x2, iv x3, iv x4, iv zs, iv sm, iv cc, rv ct, .val (.long 3), .second, .val (.long 0), .second, iv 0, rv ba, rv bc, iv to, rv bt, rv bm, iv 1, .val (.long 3), .second, .val (.long 7), .second, iv nn, .unset] [])) t → Steps p.tables e below st0 t := fun t k => by rw [hst0]; exact k
  rw [← hst0]
  obtain ⟨cq1, kq1, q1a, q1b, q1c⟩ := isOf hZ e0 P2
  obtain ⟨_, _, ⟨T1, L1, k1, n1⟩, -, X1, ⟨Lc1, hQ1, l1, y1, z1⟩, st1⟩ := X0.virtualBack hx (y := (⟨own_s0, "read", own_s8⟩ : MethodName)) (z := (⟨own_s0, "read", own_s8⟩ : MethodName)) hown (mvT hZ (own_w hw 97 rfl)) (mvT hZ (own_w hw 98 rfl)) (notFace_of_selects (args := #[]) (mvT hZ (own_w hw 100 rfl))) (mvT hZ (own_w hw 100 rfl)) (mvT hZ (own_w hw 99 rfl)) (by decide) (backOf (W := 0) (own_read30 l Z a0 hw [] bt bc nn ev ns sg phS phF phA phD co ct ph wz kc h0 n0 Z0 P0 P1 P2 P3 P4 P5 P6 P7 P8 P9 P10 P11 P12 P13 P14 P15 P16 P21 P22) hZ (own_w hw 101 rfl) (own_w hw 14 rfl) (by decide) (by decide)) q1a q1c (g := (mkF m 348 #[.val (.long x0), .second, iv x2, iv x3, iv x4, iv zs, iv sm, iv cc, rv ct, .val (.long 3), .second, .val (.long 0), .second, iv 0, rv ba, rv bc, iv to, rv bt, rv bm, iv 1, .val (.long 3), .second, .val (.long 7), .second, iv nn, .unset] [.null, (.int nn), (.int 0), (.ref bc), (.ref bt)])) rfl (by rw [hml]; rfl) (Steps.refl _) (argsL := [(.ref bc), (.int 0), (.int nn), .null]) (rest := []) (lenOf pd_30 rfl) rfl (by show 2 * 0 + _ ≤ _; exact Nat.le_of_eq rfl) (hb hby at_348) (fun _ _ => ⟨rfl, e0, (by decide : 5 + 0 ≤ _), (by decide : 94 + 0 ≤ _)⟩)
  dsimp only [Pt.U, Pt.locs, Pt.cells, Pt.slots] at X1 l1 y1 z1 st1 hQ1
  subst l1 y1 z1
  obtain ⟨Nq1, y1_0, y1_1, y1_2, rfl, Kc1, p1_0, p1_1, p1_2, p1_3, p1_4, p1_5, p1_6, p1_7, p1_8, p1_9, p1_10⟩ := hQ1
  have N1 := Fr.app N0 Nq1
  have Z1 : n0 ≤ T1.heap.size := Nat.le_trans Z0 Kc1.1
  have f2 := (P0.keep Kc1 (allS (P := fun x => ∀ c, h0[x]? = some c → c.vm.isStatics = false) (own_nost P2) all0))
  have f3 := (P17.keep Kc1)
  have f4 := (P18.keep Kc1 (ninS P20 nin0))
  have f5 := (P19.keep Kc1 (ninS P20 nin0))
  have go7 : ∀ t, own_S p e below (T1.setTop (mkF m 351 #[.val (.long x0), .second, iv x2, iv x3, iv x4, iv zs, iv sm, iv cc, rv ct, .val (.long 3), .second, .val (.long 0), .second, iv 0, rv ba, rv bc, iv to, rv bt, rv bm, iv 1, .val (.long 3), .second, .val (.long 7), .second, iv nn, .unset] [(.int 0)])) t → Steps p.tables e below st0 t := by
    intro t kt
    refine go0 t ?_
    refine XS.aload X0.here hx rfl (hb hby at_340) rfl rfl ?_
    refine XS.aload X0.here hx rfl (hb hby at_342) rfl rfl ?_
    refine XS.iconst X0.here hx rfl (hb hby at_344) ?_
    show own_S p e below (T0.setTop (mkF m 345 #[.val (.long x0), .second, iv x2, iv x3, iv x4, iv zs, iv sm, iv cc, rv ct, .val (.long 3), .second, .val (.long 0), .second, iv 0, rv ba, rv bc, iv to, rv bt, rv bm, iv 1, .val (.long 3), .second, .val (.long 7), .second, iv nn, .unset] [(.int 0), (.ref bc), (.ref bt)])) _
    refine XS.iload X0.here hx rfl (hb hby at_345) rfl ?_
    show own_S p e below (T0.setTop (mkF m 347 #[.val (.long x0), .second, iv x2, iv x3, iv x4, iv zs, iv sm, iv cc, rv ct, .val (.long 3), .second, .val (.long 0), .second, iv 0, rv ba, rv bc, iv to, rv bt, rv bm, iv 1, .val (.long 3), .second, .val (.long 7), .second, iv nn, .unset] [(.int nn), (.int 0), (.ref bc), (.ref bt)])) _
    refine XS.aconstNull X0.here hx rfl (hb hby at_347) ?_
    show own_S p e below (T0.setTop (mkF m 348 #[.val (.long x0), .second, iv x2, iv x3, iv x4, iv zs, iv sm, iv cc, rv ct, .val (.long 3), .second, .val (.long 0), .second, iv 0, rv ba, rv bc, iv to, rv bt, rv bm, iv 1, .val (.long 3), .second, .val (.long 7), .second, iv nn, .unset] [.null, (.int nn), (.int 0), (.ref bc), (.ref bt)])) _
    refine st1.trans ?_
    show own_S p e below (T1.setTop (mkF m 351 #[.val (.long x0), .second, iv x2, iv x3, iv x4, iv zs, iv sm, iv cc, rv ct, .val (.long 3), .second, .val (.long 0), .second, iv 0, rv ba, rv bc, iv to, rv bt, rv bm, iv 1, .val (.long 3), .second, .val (.long 7), .second, iv nn, .unset] [(.int 0)])) _
    exact kt
  obtain ⟨s₂, o₂, hs₂, hr₂⟩ := own_t351 x0 x2 x3 x4 zs sm cc ct (3 : Int64) (0 : Int64) (0 : Int32) ba bc to bt bm (3 : Int64) (7 : Int64) nn ev ns sg phS phF phA phD co y1_2 wz y1_0 y1_1 wy X1 hx hZ hw hby hml hown rfl N1 Z1 hret hlk f2 P1 p1_0 p1_1 p1_2 p1_3 p1_4 p1_5 p1_6 p1_7 p1_8 p1_9 p1_10 f3 f4 f5 P20 P21
  exact ⟨s₂, o₂, go7 _ hs₂, hr₂⟩
set_option maxRecDepth 65536 in
set_option maxHeartbeats 40000000 in
theorem own_t340_31 {p : Program} {l : Launch} {e : Env} {s : State} {m : MethodId} {args : Array Value} {below : List Frame} {meth : Method} {c : Code} {T0 : State} {locs : List Loc} {Z : State} {a0 : Array Value} {h0 : Heap} {n0 : Nat} (x0 : Int64) (x2 : Int32) (x3 : Int32) (x4 : Int32) (zs : Int32) (sm : Int32) (cc : Int32) (ct : Addr) (ba : Addr) (bc : Addr) (to : Int32) (bt : Addr) (bm : Addr) (nn : Int32) (ev : Addr) (ns : Addr) (sg : Addr) (phS : Addr) (phF : Addr) (phA : Addr) (phD : Addr) (co : Addr) (ph : Addr) (wz : Int32) (kc : ClassId) (wy : Int32) (X0 : Stand p l e room_1 s m args below meth c T0 locs 5 94) (hx : p.tables.exec = Jvm.exec) (hZ : Z.Warmed39 s.vm) (hw : ∀ d ∈ tables_1, d.before a0 Z = true) (hby : c.code = code) (hml : c.maxLocals = 26) (hown : s.vm.findClass own_s11 = some m.cls) (e0 : T0.heap = h0) (N0 : Fr n0 locs) (Z0 : n0 ≤ h0.size) (hret : meth.sig.returnType = some .boolean) (hlk : meth.locks = false) (P0 : own_ST Z h0 ev ns sg phS phF phA phD co) (P1 : own_NN ev ns sg phS phF phA phD co) (P2 : Exa Z h0 bt own_s0) (P3 : Fld Z h0 bt own_s0 "count" own_s1 (.ref ct)) (P4 : Fld Z h0 bt own_s0 own_s2 "Z" (.int wz)) (P5 : Fld Z h0 bt own_s0 "most" "J" (.long 3)) (P6 : Fld Z h0 bt own_s0 "length" "J" (.long 1)) (P7 : Fld Z h0 bt own_s0 "past" "Z" (.int 0)) (P8 : Fld Z h0 bt own_s0 "over" "Z" (.int 0)) (P9 : Fld Z h0 bt own_s0 "counted" "J" (.long 0)) (P10 : Fld Z h0 bt own_s0 "phase" own_s4 (.ref ph)) (P11 : Fld Z h0 bt own_s0 "run" own_s5 .null) (P12 : Fld Z h0 bt own_s0 own_s3 "J" (.long 0)) (P13 : ct = ev ∨ ct = ns ∨ ct = sg) (P14 : ph = phS ∨ ph = phD) (P15 : Arv Z h0 bc kc .char (8 : Int32) [(.int 120), (.int 120), (.int 120), (.int 120), (.int 120), (.int 120), (.int 120), (.int 120)] (.int 0)) (P16 : bc ≠ bt) (P17 : Exa Z h0 bm own_s6) (P18 : Fld Z h0 bm own_s6 "count" own_s1 (.ref ct)) (P19 : Fld Z h0 bm own_s6 own_s2 "Z" (.int wy)) (P20 : bm ≠ bt) (P21 : n0 ≤ bt) (P22 : ¬ (nn < (6 : Int32))) :
    ∃ s₂ o, own_S p e below (T0.setTop (mkF m 340 #[.val (.long x0), .second, iv x2, iv x3, iv x4, iv zs, iv sm, iv cc, rv ct, .val (.long 3), .second, .val (.long 1), .second, iv 1, rv ba, rv bc, iv to, rv bt, rv bm, iv 1, .val (.long 2), .second, .val (.long 6), .second, iv nn, .unset] [])) s₂ ∧ s₂.status = .running ∧ Ended s₂ below o ∧ ∃ v L, o = .returned v ∧ (v = some (.int 1) ∧ Fr n0 L) ∧ FrameEnd s o s₂ L room_1.cells room_1.slots := by
  obtain ⟨st0, hst0⟩ : ∃ zst, zst = T0.setTop (mkF m 340 #[.val (.long x0), .second, iv x2, iv x3, iv x4, iv zs, iv sm, iv cc, rv ct, .val (.long 3), .second, .val (.long 1), .second, iv 1, rv ba, rv bc, iv to, rv bt, rv bm, iv 1, .val (.long 2), .second, .val (.long 6), .second, iv nn, .unset] []) := ⟨_, rfl⟩
  have go0 : ∀ t, own_S p e below (T0.setTop (mkF m 340 #[.val (.long x0), .second, iv x2, iv x3, iv x4, iv zs, iv sm, iv cc, rv ct, .val (.long 3), .second, .val (.long 1), .second, iv 1, rv ba, rv bc, iv to, rv bt, rv bm, iv 1, .val (.long 2), .second, .val (.long 6), .second, iv nn, .unset] [])) t → Steps p.tables e below st0 t := fun t k => by rw [hst0]; exact k
  rw [← hst0]
  obtain ⟨cq1, kq1, q1a, q1b, q1c⟩ := isOf hZ e0 P2
  obtain ⟨_, _, ⟨T1, L1, k1, n1⟩, -, X1, ⟨Lc1, hQ1, l1, y1, z1⟩, st1⟩ := X0.virtualBack hx (y := (⟨own_s0, "read", own_s8⟩ : MethodName)) (z := (⟨own_s0, "read", own_s8⟩ : MethodName)) hown (mvT hZ (own_w hw 97 rfl)) (mvT hZ (own_w hw 98 rfl)) (notFace_of_selects (args := #[]) (mvT hZ (own_w hw 100 rfl))) (mvT hZ (own_w hw 100 rfl)) (mvT hZ (own_w hw 99 rfl)) (by decide) (backOf (W := 0) (own_read31 l Z a0 hw [] bt bc nn ev ns sg phS phF phA phD co ct ph wz kc h0 n0 Z0 P0 P1 P2 P3 P4 P5 P6 P7 P8 P9 P10 P11 P12 P13 P14 P15 P16 P21 P22) hZ (own_w hw 101 rfl) (own_w hw 14 rfl) (by decide) (by decide)) q1a q1c (g := (mkF m 348 #[.val (.long x0), .second, iv x2, iv x3, iv x4, iv zs, iv sm, iv cc, rv ct, .val (.long 3), .second, .val (.long 1), .second, iv 1, rv ba, rv bc, iv to, rv bt, rv bm, iv 1, .val (.long 2), .second, .val (.long 6), .second, iv nn, .unset] [.null, (.int nn), (.int 0), (.ref bc), (.ref bt)])) rfl (by rw [hml]; rfl) (Steps.refl _) (argsL := [(.ref bc), (.int 0), (.int nn), .null]) (rest := []) (lenOf pd_30 rfl) rfl (by show 2 * 0 + _ ≤ _; exact Nat.le_of_eq rfl) (hb hby at_348) (fun _ _ => ⟨rfl, e0, (by decide : 5 + 0 ≤ _), (by decide : 94 + 0 ≤ _)⟩)
  dsimp only [Pt.U, Pt.locs, Pt.cells, Pt.slots] at X1 l1 y1 z1 st1 hQ1
  subst l1 y1 z1
  obtain ⟨Nq1, y1_0, y1_1, y1_2, rfl, Kc1, p1_0, p1_1, p1_2, p1_3, p1_4, p1_5, p1_6, p1_7, p1_8, p1_9, p1_10⟩ := hQ1
  have N1 := Fr.app N0 Nq1
  have Z1 : n0 ≤ T1.heap.size := Nat.le_trans Z0 Kc1.1
  have f2 := (P0.keep Kc1 (allS (P := fun x => ∀ c, h0[x]? = some c → c.vm.isStatics = false) (own_nost P2) all0))
  have f3 := (P17.keep Kc1)
  have f4 := (P18.keep Kc1 (ninS P20 nin0))
  have f5 := (P19.keep Kc1 (ninS P20 nin0))
  have go7 : ∀ t, own_S p e below (T1.setTop (mkF m 351 #[.val (.long x0), .second, iv x2, iv x3, iv x4, iv zs, iv sm, iv cc, rv ct, .val (.long 3), .second, .val (.long 1), .second, iv 1, rv ba, rv bc, iv to, rv bt, rv bm, iv 1, .val (.long 2), .second, .val (.long 6), .second, iv nn, .unset] [(.int 0)])) t → Steps p.tables e below st0 t := by
    intro t kt
    refine go0 t ?_
    refine XS.aload X0.here hx rfl (hb hby at_340) rfl rfl ?_
    refine XS.aload X0.here hx rfl (hb hby at_342) rfl rfl ?_
    refine XS.iconst X0.here hx rfl (hb hby at_344) ?_
    show own_S p e below (T0.setTop (mkF m 345 #[.val (.long x0), .second, iv x2, iv x3, iv x4, iv zs, iv sm, iv cc, rv ct, .val (.long 3), .second, .val (.long 1), .second, iv 1, rv ba, rv bc, iv to, rv bt, rv bm, iv 1, .val (.long 2), .second, .val (.long 6), .second, iv nn, .unset] [(.int 0), (.ref bc), (.ref bt)])) _
    refine XS.iload X0.here hx rfl (hb hby at_345) rfl ?_
    show own_S p e below (T0.setTop (mkF m 347 #[.val (.long x0), .second, iv x2, iv x3, iv x4, iv zs, iv sm, iv cc, rv ct, .val (.long 3), .second, .val (.long 1), .second, iv 1, rv ba, rv bc, iv to, rv bt, rv bm, iv 1, .val (.long 2), .second, .val (.long 6), .second, iv nn, .unset] [(.int nn), (.int 0), (.ref bc), (.ref bt)])) _
    refine XS.aconstNull X0.here hx rfl (hb hby at_347) ?_
    show own_S p e below (T0.setTop (mkF m 348 #[.val (.long x0), .second, iv x2, iv x3, iv x4, iv zs, iv sm, iv cc, rv ct, .val (.long 3), .second, .val (.long 1), .second, iv 1, rv ba, rv bc, iv to, rv bt, rv bm, iv 1, .val (.long 2), .second, .val (.long 6), .second, iv nn, .unset] [.null, (.int nn), (.int 0), (.ref bc), (.ref bt)])) _
    refine st1.trans ?_
    show own_S p e below (T1.setTop (mkF m 351 #[.val (.long x0), .second, iv x2, iv x3, iv x4, iv zs, iv sm, iv cc, rv ct, .val (.long 3), .second, .val (.long 1), .second, iv 1, rv ba, rv bc, iv to, rv bt, rv bm, iv 1, .val (.long 2), .second, .val (.long 6), .second, iv nn, .unset] [(.int 0)])) _
    exact kt
  obtain ⟨s₂, o₂, hs₂, hr₂⟩ := own_t351 x0 x2 x3 x4 zs sm cc ct (3 : Int64) (1 : Int64) (1 : Int32) ba bc to bt bm (2 : Int64) (6 : Int64) nn ev ns sg phS phF phA phD co y1_2 wz y1_0 y1_1 wy X1 hx hZ hw hby hml hown rfl N1 Z1 hret hlk f2 P1 p1_0 p1_1 p1_2 p1_3 p1_4 p1_5 p1_6 p1_7 p1_8 p1_9 p1_10 f3 f4 f5 P20 P21
  exact ⟨s₂, o₂, go7 _ hs₂, hr₂⟩
set_option maxRecDepth 65536 in
set_option maxHeartbeats 40000000 in
theorem own_t340_32 {p : Program} {l : Launch} {e : Env} {s : State} {m : MethodId} {args : Array Value} {below : List Frame} {meth : Method} {c : Code} {T0 : State} {locs : List Loc} {Z : State} {a0 : Array Value} {h0 : Heap} {n0 : Nat} (x0 : Int64) (x2 : Int32) (x3 : Int32) (x4 : Int32) (zs : Int32) (sm : Int32) (cc : Int32) (ct : Addr) (ba : Addr) (bc : Addr) (to : Int32) (bt : Addr) (bm : Addr) (nn : Int32) (ev : Addr) (ns : Addr) (sg : Addr) (phS : Addr) (phF : Addr) (phA : Addr) (phD : Addr) (co : Addr) (ph : Addr) (wz : Int32) (kc : ClassId) (wy : Int32) (X0 : Stand p l e room_1 s m args below meth c T0 locs 5 94) (hx : p.tables.exec = Jvm.exec) (hZ : Z.Warmed39 s.vm) (hw : ∀ d ∈ tables_1, d.before a0 Z = true) (hby : c.code = code) (hml : c.maxLocals = 26) (hown : s.vm.findClass own_s11 = some m.cls) (e0 : T0.heap = h0) (N0 : Fr n0 locs) (Z0 : n0 ≤ h0.size) (hret : meth.sig.returnType = some .boolean) (hlk : meth.locks = false) (P0 : own_ST Z h0 ev ns sg phS phF phA phD co) (P1 : own_NN ev ns sg phS phF phA phD co) (P2 : Exa Z h0 bt own_s0) (P3 : Fld Z h0 bt own_s0 "count" own_s1 (.ref ct)) (P4 : Fld Z h0 bt own_s0 own_s2 "Z" (.int wz)) (P5 : Fld Z h0 bt own_s0 "most" "J" (.long 3)) (P6 : Fld Z h0 bt own_s0 "length" "J" (.long 2)) (P7 : Fld Z h0 bt own_s0 "past" "Z" (.int 0)) (P8 : Fld Z h0 bt own_s0 "over" "Z" (.int 0)) (P9 : Fld Z h0 bt own_s0 "counted" "J" (.long 0)) (P10 : Fld Z h0 bt own_s0 "phase" own_s4 (.ref ph)) (P11 : Fld Z h0 bt own_s0 "run" own_s5 .null) (P12 : Fld Z h0 bt own_s0 own_s3 "J" (.long 0)) (P13 : ct = ev ∨ ct = ns ∨ ct = sg) (P14 : ph = phS ∨ ph = phD) (P15 : Arv Z h0 bc kc .char (8 : Int32) [(.int 120), (.int 120), (.int 120), (.int 120), (.int 120), (.int 120), (.int 120), (.int 120)] (.int 0)) (P16 : bc ≠ bt) (P17 : Exa Z h0 bm own_s6) (P18 : Fld Z h0 bm own_s6 "count" own_s1 (.ref ct)) (P19 : Fld Z h0 bm own_s6 own_s2 "Z" (.int wy)) (P20 : bm ≠ bt) (P21 : n0 ≤ bt) (P22 : ¬ (nn < (5 : Int32))) :
    ∃ s₂ o, own_S p e below (T0.setTop (mkF m 340 #[.val (.long x0), .second, iv x2, iv x3, iv x4, iv zs, iv sm, iv cc, rv ct, .val (.long 3), .second, .val (.long 2), .second, iv 2, rv ba, rv bc, iv to, rv bt, rv bm, iv 1, .val (.long 1), .second, .val (.long 5), .second, iv nn, .unset] [])) s₂ ∧ s₂.status = .running ∧ Ended s₂ below o ∧ ∃ v L, o = .returned v ∧ (v = some (.int 1) ∧ Fr n0 L) ∧ FrameEnd s o s₂ L room_1.cells room_1.slots := by
  obtain ⟨st0, hst0⟩ : ∃ zst, zst = T0.setTop (mkF m 340 #[.val (.long x0), .second, iv x2, iv x3, iv x4, iv zs, iv sm, iv cc, rv ct, .val (.long 3), .second, .val (.long 2), .second, iv 2, rv ba, rv bc, iv to, rv bt, rv bm, iv 1, .val (.long 1), .second, .val (.long 5), .second, iv nn, .unset] []) := ⟨_, rfl⟩
  have go0 : ∀ t, own_S p e below (T0.setTop (mkF m 340 #[.val (.long x0), .second, iv x2, iv x3, iv x4, iv zs, iv sm, iv cc, rv ct, .val (.long 3), .second, .val (.long 2), .second, iv 2, rv ba, rv bc, iv to, rv bt, rv bm, iv 1, .val (.long 1), .second, .val (.long 5), .second, iv nn, .unset] [])) t → Steps p.tables e below st0 t := fun t k => by rw [hst0]; exact k
  rw [← hst0]
  obtain ⟨cq1, kq1, q1a, q1b, q1c⟩ := isOf hZ e0 P2
  obtain ⟨_, _, ⟨T1, L1, k1, n1⟩, -, X1, ⟨Lc1, hQ1, l1, y1, z1⟩, st1⟩ := X0.virtualBack hx (y := (⟨own_s0, "read", own_s8⟩ : MethodName)) (z := (⟨own_s0, "read", own_s8⟩ : MethodName)) hown (mvT hZ (own_w hw 97 rfl)) (mvT hZ (own_w hw 98 rfl)) (notFace_of_selects (args := #[]) (mvT hZ (own_w hw 100 rfl))) (mvT hZ (own_w hw 100 rfl)) (mvT hZ (own_w hw 99 rfl)) (by decide) (backOf (W := 0) (own_read32 l Z a0 hw [] bt bc nn ev ns sg phS phF phA phD co ct ph wz kc h0 n0 Z0 P0 P1 P2 P3 P4 P5 P6 P7 P8 P9 P10 P11 P12 P13 P14 P15 P16 P21 P22) hZ (own_w hw 101 rfl) (own_w hw 14 rfl) (by decide) (by decide)) q1a q1c (g := (mkF m 348 #[.val (.long x0), .second, iv x2, iv x3, iv x4, iv zs, iv sm, iv cc, rv ct, .val (.long 3), .second, .val (.long 2), .second, iv 2, rv ba, rv bc, iv to, rv bt, rv bm, iv 1, .val (.long 1), .second, .val (.long 5), .second, iv nn, .unset] [.null, (.int nn), (.int 0), (.ref bc), (.ref bt)])) rfl (by rw [hml]; rfl) (Steps.refl _) (argsL := [(.ref bc), (.int 0), (.int nn), .null]) (rest := []) (lenOf pd_30 rfl) rfl (by show 2 * 0 + _ ≤ _; exact Nat.le_of_eq rfl) (hb hby at_348) (fun _ _ => ⟨rfl, e0, (by decide : 5 + 0 ≤ _), (by decide : 94 + 0 ≤ _)⟩)
  dsimp only [Pt.U, Pt.locs, Pt.cells, Pt.slots] at X1 l1 y1 z1 st1 hQ1
  subst l1 y1 z1
  obtain ⟨Nq1, y1_0, y1_1, y1_2, rfl, Kc1, p1_0, p1_1, p1_2, p1_3, p1_4, p1_5, p1_6, p1_7, p1_8, p1_9, p1_10⟩ := hQ1
  have N1 := Fr.app N0 Nq1
  have Z1 : n0 ≤ T1.heap.size := Nat.le_trans Z0 Kc1.1
  have f2 := (P0.keep Kc1 (allS (P := fun x => ∀ c, h0[x]? = some c → c.vm.isStatics = false) (own_nost P2) all0))
  have f3 := (P17.keep Kc1)
  have f4 := (P18.keep Kc1 (ninS P20 nin0))
  have f5 := (P19.keep Kc1 (ninS P20 nin0))
  have go7 : ∀ t, own_S p e below (T1.setTop (mkF m 351 #[.val (.long x0), .second, iv x2, iv x3, iv x4, iv zs, iv sm, iv cc, rv ct, .val (.long 3), .second, .val (.long 2), .second, iv 2, rv ba, rv bc, iv to, rv bt, rv bm, iv 1, .val (.long 1), .second, .val (.long 5), .second, iv nn, .unset] [(.int 0)])) t → Steps p.tables e below st0 t := by
    intro t kt
    refine go0 t ?_
    refine XS.aload X0.here hx rfl (hb hby at_340) rfl rfl ?_
    refine XS.aload X0.here hx rfl (hb hby at_342) rfl rfl ?_
    refine XS.iconst X0.here hx rfl (hb hby at_344) ?_
    show own_S p e below (T0.setTop (mkF m 345 #[.val (.long x0), .second, iv x2, iv x3, iv x4, iv zs, iv sm, iv cc, rv ct, .val (.long 3), .second, .val (.long 2), .second, iv 2, rv ba, rv bc, iv to, rv bt, rv bm, iv 1, .val (.long 1), .second, .val (.long 5), .second, iv nn, .unset] [(.int 0), (.ref bc), (.ref bt)])) _
    refine XS.iload X0.here hx rfl (hb hby at_345) rfl ?_
    show own_S p e below (T0.setTop (mkF m 347 #[.val (.long x0), .second, iv x2, iv x3, iv x4, iv zs, iv sm, iv cc, rv ct, .val (.long 3), .second, .val (.long 2), .second, iv 2, rv ba, rv bc, iv to, rv bt, rv bm, iv 1, .val (.long 1), .second, .val (.long 5), .second, iv nn, .unset] [(.int nn), (.int 0), (.ref bc), (.ref bt)])) _
    refine XS.aconstNull X0.here hx rfl (hb hby at_347) ?_
    show own_S p e below (T0.setTop (mkF m 348 #[.val (.long x0), .second, iv x2, iv x3, iv x4, iv zs, iv sm, iv cc, rv ct, .val (.long 3), .second, .val (.long 2), .second, iv 2, rv ba, rv bc, iv to, rv bt, rv bm, iv 1, .val (.long 1), .second, .val (.long 5), .second, iv nn, .unset] [.null, (.int nn), (.int 0), (.ref bc), (.ref bt)])) _
    refine st1.trans ?_
    show own_S p e below (T1.setTop (mkF m 351 #[.val (.long x0), .second, iv x2, iv x3, iv x4, iv zs, iv sm, iv cc, rv ct, .val (.long 3), .second, .val (.long 2), .second, iv 2, rv ba, rv bc, iv to, rv bt, rv bm, iv 1, .val (.long 1), .second, .val (.long 5), .second, iv nn, .unset] [(.int 0)])) _
    exact kt
  obtain ⟨s₂, o₂, hs₂, hr₂⟩ := own_t351 x0 x2 x3 x4 zs sm cc ct (3 : Int64) (2 : Int64) (2 : Int32) ba bc to bt bm (1 : Int64) (5 : Int64) nn ev ns sg phS phF phA phD co y1_2 wz y1_0 y1_1 wy X1 hx hZ hw hby hml hown rfl N1 Z1 hret hlk f2 P1 p1_0 p1_1 p1_2 p1_3 p1_4 p1_5 p1_6 p1_7 p1_8 p1_9 p1_10 f3 f4 f5 P20 P21
  exact ⟨s₂, o₂, go7 _ hs₂, hr₂⟩
set_option maxRecDepth 65536 in
set_option maxHeartbeats 40000000 in
theorem own_t340_33 {p : Program} {l : Launch} {e : Env} {s : State} {m : MethodId} {args : Array Value} {below : List Frame} {meth : Method} {c : Code} {T0 : State} {locs : List Loc} {Z : State} {a0 : Array Value} {h0 : Heap} {n0 : Nat} (x0 : Int64) (x2 : Int32) (x3 : Int32) (x4 : Int32) (zs : Int32) (sm : Int32) (cc : Int32) (ct : Addr) (ba : Addr) (bc : Addr) (to : Int32) (bt : Addr) (bm : Addr) (nn : Int32) (ev : Addr) (ns : Addr) (sg : Addr) (phS : Addr) (phF : Addr) (phA : Addr) (phD : Addr) (co : Addr) (ph : Addr) (wz : Int32) (kc : ClassId) (wy : Int32) (X0 : Stand p l e room_1 s m args below meth c T0 locs 5 94) (hx : p.tables.exec = Jvm.exec) (hZ : Z.Warmed39 s.vm) (hw : ∀ d ∈ tables_1, d.before a0 Z = true) (hby : c.code = code) (hml : c.maxLocals = 26) (hown : s.vm.findClass own_s11 = some m.cls) (e0 : T0.heap = h0) (N0 : Fr n0 locs) (Z0 : n0 ≤ h0.size) (hret : meth.sig.returnType = some .boolean) (hlk : meth.locks = false) (P0 : own_ST Z h0 ev ns sg phS phF phA phD co) (P1 : own_NN ev ns sg phS phF phA phD co) (P2 : Exa Z h0 bt own_s0) (P3 : Fld Z h0 bt own_s0 "count" own_s1 (.ref ct)) (P4 : Fld Z h0 bt own_s0 own_s2 "Z" (.int wz)) (P5 : Fld Z h0 bt own_s0 "most" "J" (.long 3)) (P6 : Fld Z h0 bt own_s0 "length" "J" (.long 3)) (P7 : Fld Z h0 bt own_s0 "past" "Z" (.int 0)) (P8 : Fld Z h0 bt own_s0 "over" "Z" (.int 0)) (P9 : Fld Z h0 bt own_s0 "counted" "J" (.long 0)) (P10 : Fld Z h0 bt own_s0 "phase" own_s4 (.ref ph)) (P11 : Fld Z h0 bt own_s0 "run" own_s5 .null) (P12 : Fld Z h0 bt own_s0 own_s3 "J" (.long 0)) (P13 : ct = ev ∨ ct = ns ∨ ct = sg) (P14 : ph = phS ∨ ph = phD) (P15 : Arv Z h0 bc kc .char (8 : Int32) [(.int 120), (.int 120), (.int 120), (.int 120), (.int 120), (.int 120), (.int 120), (.int 120)] (.int 0)) (P16 : bc ≠ bt) (P17 : Exa Z h0 bm own_s6) (P18 : Fld Z h0 bm own_s6 "count" own_s1 (.ref ct)) (P19 : Fld Z h0 bm own_s6 own_s2 "Z" (.int wy)) (P20 : bm ≠ bt) (P21 : n0 ≤ bt) (P22 : ¬ (nn < (4 : Int32))) :
    ∃ s₂ o, own_S p e below (T0.setTop (mkF m 340 #[.val (.long x0), .second, iv x2, iv x3, iv x4, iv zs, iv sm, iv cc, rv ct, .val (.long 3), .second, .val (.long 3), .second, iv 3, rv ba, rv bc, iv to, rv bt, rv bm, iv 1, .val (.long 0), .second, .val (.long 4), .second, iv nn, .unset] [])) s₂ ∧ s₂.status = .running ∧ Ended s₂ below o ∧ ∃ v L, o = .returned v ∧ (v = some (.int 1) ∧ Fr n0 L) ∧ FrameEnd s o s₂ L room_1.cells room_1.slots := by
  obtain ⟨st0, hst0⟩ : ∃ zst, zst = T0.setTop (mkF m 340 #[.val (.long x0), .second, iv x2, iv x3, iv x4, iv zs, iv sm, iv cc, rv ct, .val (.long 3), .second, .val (.long 3), .second, iv 3, rv ba, rv bc, iv to, rv bt, rv bm, iv 1, .val (.long 0), .second, .val (.long 4), .second, iv nn, .unset] []) := ⟨_, rfl⟩
  have go0 : ∀ t, own_S p e below (T0.setTop (mkF m 340 #[.val (.long x0), .second, iv x2, iv x3, iv x4, iv zs, iv sm, iv cc, rv ct, .val (.long 3), .second, .val (.long 3), .second, iv 3, rv ba, rv bc, iv to, rv bt, rv bm, iv 1, .val (.long 0), .second, .val (.long 4), .second, iv nn, .unset] [])) t → Steps p.tables e below st0 t := fun t k => by rw [hst0]; exact k
  rw [← hst0]
  obtain ⟨cq1, kq1, q1a, q1b, q1c⟩ := isOf hZ e0 P2
  obtain ⟨_, _, ⟨T1, L1, k1, n1⟩, -, X1, ⟨Lc1, hQ1, l1, y1, z1⟩, st1⟩ := X0.virtualBack hx (y := (⟨own_s0, "read", own_s8⟩ : MethodName)) (z := (⟨own_s0, "read", own_s8⟩ : MethodName)) hown (mvT hZ (own_w hw 97 rfl)) (mvT hZ (own_w hw 98 rfl)) (notFace_of_selects (args := #[]) (mvT hZ (own_w hw 100 rfl))) (mvT hZ (own_w hw 100 rfl)) (mvT hZ (own_w hw 99 rfl)) (by decide) (backOf (W := 0) (own_read33 l Z a0 hw [] bt bc nn ev ns sg phS phF phA phD co ct ph wz kc h0 n0 Z0 P0 P1 P2 P3 P4 P5 P6 P7 P8 P9 P10 P11 P12 P13 P14 P15 P16 P21 P22) hZ (own_w hw 101 rfl) (own_w hw 14 rfl) (by decide) (by decide)) q1a q1c (g := (mkF m 348 #[.val (.long x0), .second, iv x2, iv x3, iv x4, iv zs, iv sm, iv cc, rv ct, .val (.long 3), .second, .val (.long 3), .second, iv 3, rv ba, rv bc, iv to, rv bt, rv bm, iv 1, .val (.long 0), .second, .val (.long 4), .second, iv nn, .unset] [.null, (.int nn), (.int 0), (.ref bc), (.ref bt)])) rfl (by rw [hml]; rfl) (Steps.refl _) (argsL := [(.ref bc), (.int 0), (.int nn), .null]) (rest := []) (lenOf pd_30 rfl) rfl (by show 2 * 0 + _ ≤ _; exact Nat.le_of_eq rfl) (hb hby at_348) (fun _ _ => ⟨rfl, e0, (by decide : 5 + 0 ≤ _), (by decide : 94 + 0 ≤ _)⟩)
  dsimp only [Pt.U, Pt.locs, Pt.cells, Pt.slots] at X1 l1 y1 z1 st1 hQ1
  subst l1 y1 z1
  obtain ⟨Nq1, y1_0, y1_1, y1_2, rfl, Kc1, p1_0, p1_1, p1_2, p1_3, p1_4, p1_5, p1_6, p1_7, p1_8, p1_9, p1_10⟩ := hQ1
  have N1 := Fr.app N0 Nq1
  have Z1 : n0 ≤ T1.heap.size := Nat.le_trans Z0 Kc1.1
  have f2 := (P0.keep Kc1 (allS (P := fun x => ∀ c, h0[x]? = some c → c.vm.isStatics = false) (own_nost P2) all0))
  have f3 := (P17.keep Kc1)
  have f4 := (P18.keep Kc1 (ninS P20 nin0))
  have f5 := (P19.keep Kc1 (ninS P20 nin0))
  have go7 : ∀ t, own_S p e below (T1.setTop (mkF m 351 #[.val (.long x0), .second, iv x2, iv x3, iv x4, iv zs, iv sm, iv cc, rv ct, .val (.long 3), .second, .val (.long 3), .second, iv 3, rv ba, rv bc, iv to, rv bt, rv bm, iv 1, .val (.long 0), .second, .val (.long 4), .second, iv nn, .unset] [(.int 0)])) t → Steps p.tables e below st0 t := by
    intro t kt
    refine go0 t ?_
    refine XS.aload X0.here hx rfl (hb hby at_340) rfl rfl ?_
    refine XS.aload X0.here hx rfl (hb hby at_342) rfl rfl ?_
    refine XS.iconst X0.here hx rfl (hb hby at_344) ?_
    show own_S p e below (T0.setTop (mkF m 345 #[.val (.long x0), .second, iv x2, iv x3, iv x4, iv zs, iv sm, iv cc, rv ct, .val (.long 3), .second, .val (.long 3), .second, iv 3, rv ba, rv bc, iv to, rv bt, rv bm, iv 1, .val (.long 0), .second, .val (.long 4), .second, iv nn, .unset] [(.int 0), (.ref bc), (.ref bt)])) _
    refine XS.iload X0.here hx rfl (hb hby at_345) rfl ?_
    show own_S p e below (T0.setTop (mkF m 347 #[.val (.long x0), .second, iv x2, iv x3, iv x4, iv zs, iv sm, iv cc, rv ct, .val (.long 3), .second, .val (.long 3), .second, iv 3, rv ba, rv bc, iv to, rv bt, rv bm, iv 1, .val (.long 0), .second, .val (.long 4), .second, iv nn, .unset] [(.int nn), (.int 0), (.ref bc), (.ref bt)])) _
    refine XS.aconstNull X0.here hx rfl (hb hby at_347) ?_
    show own_S p e below (T0.setTop (mkF m 348 #[.val (.long x0), .second, iv x2, iv x3, iv x4, iv zs, iv sm, iv cc, rv ct, .val (.long 3), .second, .val (.long 3), .second, iv 3, rv ba, rv bc, iv to, rv bt, rv bm, iv 1, .val (.long 0), .second, .val (.long 4), .second, iv nn, .unset] [.null, (.int nn), (.int 0), (.ref bc), (.ref bt)])) _
    refine st1.trans ?_
    show own_S p e below (T1.setTop (mkF m 351 #[.val (.long x0), .second, iv x2, iv x3, iv x4, iv zs, iv sm, iv cc, rv ct, .val (.long 3), .second, .val (.long 3), .second, iv 3, rv ba, rv bc, iv to, rv bt, rv bm, iv 1, .val (.long 0), .second, .val (.long 4), .second, iv nn, .unset] [(.int 0)])) _
    exact kt
  obtain ⟨s₂, o₂, hs₂, hr₂⟩ := own_t351 x0 x2 x3 x4 zs sm cc ct (3 : Int64) (3 : Int64) (3 : Int32) ba bc to bt bm (0 : Int64) (4 : Int64) nn ev ns sg phS phF phA phD co y1_2 wz y1_0 y1_1 wy X1 hx hZ hw hby hml hown rfl N1 Z1 hret hlk f2 P1 p1_0 p1_1 p1_2 p1_3 p1_4 p1_5 p1_6 p1_7 p1_8 p1_9 p1_10 f3 f4 f5 P20 P21
  exact ⟨s₂, o₂, go7 _ hs₂, hr₂⟩
theorem own_D {M K : Int64} (h0 : ¬ (M < (0 : Int64))) (h1 : ¬ (K < (0 : Int64))) (h2 : ¬ (M < K)) (h3 : ¬ ((3 : Int64) < M)) : 1 ≤ ((((M - K) + M) + (1 : Int64))).toInt ∧ ((((M - K) + M) + (1 : Int64))).toInt ≤ 7 := by
  rcases own_mk h0 h1 h2 h3 with ⟨rfl, rfl⟩ | ⟨rfl, rfl⟩ | ⟨rfl, rfl⟩ | ⟨rfl, rfl⟩ | ⟨rfl, rfl⟩ | ⟨rfl, rfl⟩ | ⟨rfl, rfl⟩ | ⟨rfl, rfl⟩ | ⟨rfl, rfl⟩ | ⟨rfl, rfl⟩ <;> decide
theorem own_nA {D : Int64} (h : 1 ≤ D.toInt ∧ D.toInt ≤ 7) : ¬ ((8 : Int32) < (D.toInt32)) := by
  have a3 := c_l2i D
  have a4 := rng32 D.toInt32
  have r8 : (8 : Int32).toInt = 8 := rfl
  rw [Int32.lt_iff_toInt_lt]
  omega
theorem own_nB {D : Int64} (x : Int32) (h : 1 ≤ D.toInt ∧ D.toInt ≤ 7) : ¬ (((D + ((x &&& (7 : Int32)).toInt64)).toInt32) < (D.toInt32)) := by
  have e := c_and x 7 (by decide)
  have o7 : (7 : Int32).toInt = 7 := rfl
  have a1 := c_ladd D ((x &&& (7 : Int32)).toInt64)
  have a2 := rng64 (D + ((x &&& (7 : Int32)).toInt64))
  have a3 := c_l2i (D + ((x &&& (7 : Int32)).toInt64))
  have a4 := rng32 ((D + ((x &&& (7 : Int32)).toInt64)).toInt32)
  have a5 := c_l2i D
  have a6 := rng32 D.toInt32
  rw [c_i2l] at a1
  rw [Int32.lt_iff_toInt_lt]
  omega
theorem own_n8 {D : Int64} {x : Int32} (h : 1 ≤ D.toInt ∧ D.toInt ≤ 7) : ¬ ((8 : Int32) < (D.toInt32)) := own_nA h

set_option maxRecDepth 65536 in
set_option maxHeartbeats 40000000 in
theorem own_t340 {p : Program} {l : Launch} {e : Env} {s : State} {m : MethodId} {args : Array Value} {below : List Frame} {meth : Method} {c : Code} {T0 : State} {locs : List Loc} {Z : State} {a0 : Array Value} {h0 : Heap} {n0 : Nat} (x0 : Int64) (x2 : Int32) (x3 : Int32) (x4 : Int32) (zs : Int32) (sm : Int32) (cc : Int32) (ct : Addr) (M : Int64) (K : Int64) (ba : Addr) (bc : Addr) (to : Int32) (bt : Addr) (bm : Addr) (nn : Int32) (ev : Addr) (ns : Addr) (sg : Addr) (phS : Addr) (phF : Addr) (phA : Addr) (phD : Addr) (co : Addr) (ph : Addr) (wz : Int32) (kc : ClassId) (wy : Int32) (X0 : Stand p l e room_1 s m args below meth c T0 locs 5 94) (hx : p.tables.exec = Jvm.exec) (hZ : Z.Warmed39 s.vm) (hw : ∀ d ∈ tables_1, d.before a0 Z = true) (hby : c.code = code) (hml : c.maxLocals = 26) (hown : s.vm.findClass own_s11 = some m.cls) (e0 : T0.heap = h0) (N0 : Fr n0 locs) (Z0 : n0 ≤ h0.size) (hret : meth.sig.returnType = some .boolean) (hlk : meth.locks = false) (P0 : own_ST Z h0 ev ns sg phS phF phA phD co) (P1 : own_NN ev ns sg phS phF phA phD co) (P2 : Exa Z h0 bt own_s0) (P3 : Fld Z h0 bt own_s0 "count" own_s1 (.ref ct)) (P4 : Fld Z h0 bt own_s0 own_s2 "Z" (.int wz)) (P5 : Fld Z h0 bt own_s0 "most" "J" (.long M)) (P6 : Fld Z h0 bt own_s0 "length" "J" (.long ((0 : Int64) + ((K.toInt32).toInt64)))) (P7 : Fld Z h0 bt own_s0 "past" "Z" (.int 0)) (P8 : Fld Z h0 bt own_s0 "over" "Z" (.int 0)) (P9 : Fld Z h0 bt own_s0 "counted" "J" (.long 0)) (P10 : Fld Z h0 bt own_s0 "phase" own_s4 (.ref ph)) (P11 : Fld Z h0 bt own_s0 "run" own_s5 .null) (P12 : Fld Z h0 bt own_s0 own_s3 "J" (.long 0)) (P13 : ct = ev ∨ ct = ns ∨ ct = sg) (P14 : ph = phS ∨ ph = phD) (P15 : Arv Z h0 bc kc .char (8 : Int32) [(.int 120), (.int 120), (.int 120), (.int 120), (.int 120), (.int 120), (.int 120), (.int 120)] (.int 0)) (P16 : bc ≠ bt) (P17 : Exa Z h0 bm own_s6) (P18 : Fld Z h0 bm own_s6 "count" own_s1 (.ref ct)) (P19 : Fld Z h0 bm own_s6 own_s2 "Z" (.int wy)) (P20 : bm ≠ bt) (P21 : n0 ≤ bt) (P22 : ¬ (nn < ((((M - K) + M) + (1 : Int64)).toInt32))) (P23 : ¬ (M < (0 : Int64))) (P24 : ¬ (K < (0 : Int64))) (P25 : ¬ (M < K)) (P26 : ¬ ((3 : Int64) < M)) :
    ∃ s₂ o, own_S p e below (T0.setTop (mkF m 340 #[.val (.long x0), .second, iv x2, iv x3, iv x4, iv zs, iv sm, iv cc, rv ct, .val (.long M), .second, .val (.long K), .second, .val (.int (K.toInt32)), rv ba, rv bc, iv to, rv bt, rv bm, iv 1, .val (.long (M - K)), .second, .val (.long (((M - K) + M) + (1 : Int64))), .second, iv nn, .unset] [])) s₂ ∧ s₂.status = .running ∧ Ended s₂ below o ∧ ∃ v L, o = .returned v ∧ (v = some (.int 1) ∧ Fr n0 L) ∧ FrameEnd s o s₂ L room_1.cells room_1.slots := by
  obtain ⟨st0, hst0⟩ : ∃ zst, zst = T0.setTop (mkF m 340 #[.val (.long x0), .second, iv x2, iv x3, iv x4, iv zs, iv sm, iv cc, rv ct, .val (.long M), .second, .val (.long K), .second, .val (.int (K.toInt32)), rv ba, rv bc, iv to, rv bt, rv bm, iv 1, .val (.long (M - K)), .second, .val (.long (((M - K) + M) + (1 : Int64))), .second, iv nn, .unset] []) := ⟨_, rfl⟩
  have go0 : ∀ t, own_S p e below (T0.setTop (mkF m 340 #[.val (.long x0), .second, iv x2, iv x3, iv x4, iv zs, iv sm, iv cc, rv ct, .val (.long M), .second, .val (.long K), .second, .val (.int (K.toInt32)), rv ba, rv bc, iv to, rv bt, rv bm, iv 1, .val (.long (M - K)), .second, .val (.long (((M - K) + M) + (1 : Int64))), .second, iv nn, .unset] [])) t → Steps p.tables e below st0 t := fun t k => by rw [hst0]; exact k
  rw [← hst0]
  rcases own_mk P23 P24 P25 P26 with ⟨rfl, rfl⟩ | ⟨rfl, rfl⟩ | ⟨rfl, rfl⟩ | ⟨rfl, rfl⟩ | ⟨rfl, rfl⟩ | ⟨rfl, rfl⟩ | ⟨rfl, rfl⟩ | ⟨rfl, rfl⟩ | ⟨rfl, rfl⟩ | ⟨rfl, rfl⟩
  · skip
    obtain ⟨s₂, o₂, hs₂, hr₂⟩ := own_t340_00 x0 x2 x3 x4 zs sm cc ct ba bc to bt bm nn ev ns sg phS phF phA phD co ph wz kc wy X0 hx hZ hw hby hml hown e0 N0 Z0 hret hlk P0 P1 P2 P3 P4 P5 P6 P7 P8 P9 P10 P11 P12 P13 P14 P15 P16 P17 P18 P19 P20 P21 P22
    exact ⟨s₂, o₂, go0 _ hs₂, hr₂⟩
  · skip
    obtain ⟨s₂, o₂, hs₂, hr₂⟩ := own_t340_10 x0 x2 x3 x4 zs sm cc ct ba bc to bt bm nn ev ns sg phS phF phA phD co ph wz kc wy X0 hx hZ hw hby hml hown e0 N0 Z0 hret hlk P0 P1 P2 P3 P4 P5 P6 P7 P8 P9 P10 P11 P12 P13 P14 P15 P16 P17 P18 P19 P20 P21 P22
    exact ⟨s₂, o₂, go0 _ hs₂, hr₂⟩
  · skip
    obtain ⟨s₂, o₂, hs₂, hr₂⟩ := own_t340_11 x0 x2 x3 x4 zs sm cc ct ba bc to bt bm nn ev ns sg phS phF phA phD co ph wz kc wy X0 hx hZ hw hby hml hown e0 N0 Z0 hret hlk P0 P1 P2 P3 P4 P5 P6 P7 P8 P9 P10 P11 P12 P13 P14 P15 P16 P17 P18 P19 P20 P21 P22
    exact ⟨s₂, o₂, go0 _ hs₂, hr₂⟩
  · skip
    obtain ⟨s₂, o₂, hs₂, hr₂⟩ := own_t340_20 x0 x2 x3 x4 zs sm cc ct ba bc to bt bm nn ev ns sg phS phF phA phD co ph wz kc wy X0 hx hZ hw hby hml hown e0 N0 Z0 hret hlk P0 P1 P2 P3 P4 P5 P6 P7 P8 P9 P10 P11 P12 P13 P14 P15 P16 P17 P18 P19 P20 P21 P22
    exact ⟨s₂, o₂, go0 _ hs₂, hr₂⟩
  · skip
    obtain ⟨s₂, o₂, hs₂, hr₂⟩ := own_t340_21 x0 x2 x3 x4 zs sm cc ct ba bc to bt bm nn ev ns sg phS phF phA phD co ph wz kc wy X0 hx hZ hw hby hml hown e0 N0 Z0 hret hlk P0 P1 P2 P3 P4 P5 P6 P7 P8 P9 P10 P11 P12 P13 P14 P15 P16 P17 P18 P19 P20 P21 P22
    exact ⟨s₂, o₂, go0 _ hs₂, hr₂⟩
  · skip
    obtain ⟨s₂, o₂, hs₂, hr₂⟩ := own_t340_22 x0 x2 x3 x4 zs sm cc ct ba bc to bt bm nn ev ns sg phS phF phA phD co ph wz kc wy X0 hx hZ hw hby hml hown e0 N0 Z0 hret hlk P0 P1 P2 P3 P4 P5 P6 P7 P8 P9 P10 P11 P12 P13 P14 P15 P16 P17 P18 P19 P20 P21 P22
    exact ⟨s₂, o₂, go0 _ hs₂, hr₂⟩
  · skip
    obtain ⟨s₂, o₂, hs₂, hr₂⟩ := own_t340_30 x0 x2 x3 x4 zs sm cc ct ba bc to bt bm nn ev ns sg phS phF phA phD co ph wz kc wy X0 hx hZ hw hby hml hown e0 N0 Z0 hret hlk P0 P1 P2 P3 P4 P5 P6 P7 P8 P9 P10 P11 P12 P13 P14 P15 P16 P17 P18 P19 P20 P21 P22
    exact ⟨s₂, o₂, go0 _ hs₂, hr₂⟩
  · skip
    obtain ⟨s₂, o₂, hs₂, hr₂⟩ := own_t340_31 x0 x2 x3 x4 zs sm cc ct ba bc to bt bm nn ev ns sg phS phF phA phD co ph wz kc wy X0 hx hZ hw hby hml hown e0 N0 Z0 hret hlk P0 P1 P2 P3 P4 P5 P6 P7 P8 P9 P10 P11 P12 P13 P14 P15 P16 P17 P18 P19 P20 P21 P22
    exact ⟨s₂, o₂, go0 _ hs₂, hr₂⟩
  · skip
    obtain ⟨s₂, o₂, hs₂, hr₂⟩ := own_t340_32 x0 x2 x3 x4 zs sm cc ct ba bc to bt bm nn ev ns sg phS phF phA phD co ph wz kc wy X0 hx hZ hw hby hml hown e0 N0 Z0 hret hlk P0 P1 P2 P3 P4 P5 P6 P7 P8 P9 P10 P11 P12 P13 P14 P15 P16 P17 P18 P19 P20 P21 P22
    exact ⟨s₂, o₂, go0 _ hs₂, hr₂⟩
  · skip
    obtain ⟨s₂, o₂, hs₂, hr₂⟩ := own_t340_33 x0 x2 x3 x4 zs sm cc ct ba bc to bt bm nn ev ns sg phS phF phA phD co ph wz kc wy X0 hx hZ hw hby hml hown e0 N0 Z0 hret hlk P0 P1 P2 P3 P4 P5 P6 P7 P8 P9 P10 P11 P12 P13 P14 P15 P16 P17 P18 P19 P20 P21 P22
    exact ⟨s₂, o₂, go0 _ hs₂, hr₂⟩
set_option maxRecDepth 65536 in
set_option maxHeartbeats 40000000 in
theorem own_t210 {p : Program} {l : Launch} {e : Env} {s : State} {m : MethodId} {args : Array Value} {below : List Frame} {meth : Method} {c : Code} {T0 : State} {locs : List Loc} {Z : State} {a0 : Array Value} {h0 : Heap} {n0 : Nat} (x0 : Int64) (x2 : Int32) (x3 : Int32) (x4 : Int32) (zs : Int32) (sm : Int32) (cc : Int32) (ct : Addr) (M : Int64) (K : Int64) (ba : Addr) (bc : Addr) (to : Int32) (ev : Addr) (ns : Addr) (sg : Addr) (phS : Addr) (phF : Addr) (phA : Addr) (phD : Addr) (co : Addr) (kb : ClassId) (kc : ClassId) (X0 : Stand p l e room_1 s m args below meth c T0 locs 2 16) (hx : p.tables.exec = Jvm.exec) (hZ : Z.Warmed39 s.vm) (hw : ∀ d ∈ tables_1, d.before a0 Z = true) (hby : c.code = code) (hml : c.maxLocals = 26) (hown : s.vm.findClass own_s11 = some m.cls) (e0 : T0.heap = h0) (N0 : Fr n0 locs) (Z0 : n0 ≤ h0.size) (hret : meth.sig.returnType = some .boolean) (hlk : meth.locks = false) (P0 : own_ST Z h0 ev ns sg phS phF phA phD co) (P1 : own_NN ev ns sg phS phF phA phD co) (P2 : Arv Z h0 ba kb .byte (8 : Int32) [(.int 120), (.int 120), (.int 120), (.int 120), (.int 120), (.int 120), (.int 120), (.int 120)] (.int 0)) (P3 : Arv Z h0 bc kc .char (8 : Int32) [(.int 120), (.int 120), (.int 120), (.int 120), (.int 120), (.int 120), (.int 120), (.int 120)] (.int 0)) (P4 : ba ≠ bc) (P5 : ct = ev ∨ ct = ns ∨ ct = sg) (P6 : ¬ (to < 0)) (P7 : ¬ ((8 : Int32) < to)) (P8 : ¬ (M < (0 : Int64))) (P9 : ¬ (K < (0 : Int64))) (P10 : ¬ (M < K)) (P11 : ((K.toInt32).toInt64) = K) :
    ∃ s₂ o, own_S p e below (T0.setTop (mkF m 210 #[.val (.long x0), .second, iv x2, iv x3, iv x4, iv zs, iv sm, iv cc, rv ct, .val (.long M), .second, .val (.long K), .second, .val (.int (K.toInt32)), rv ba, rv bc, .unset, .unset, .unset, .unset, .unset, .unset, .unset, .unset, .unset, .unset] [(.int to)])) s₂ ∧ s₂.status = .running ∧ Ended s₂ below o ∧ ∃ v L, o = .returned v ∧ (v = some (.int 1) ∧ Fr n0 L) ∧ FrameEnd s o s₂ L room_1.cells room_1.slots := by
  obtain ⟨st0, hst0⟩ : ∃ zst, zst = T0.setTop (mkF m 210 #[.val (.long x0), .second, iv x2, iv x3, iv x4, iv zs, iv sm, iv cc, rv ct, .val (.long M), .second, .val (.long K), .second, .val (.int (K.toInt32)), rv ba, rv bc, .unset, .unset, .unset, .unset, .unset, .unset, .unset, .unset, .unset, .unset] [(.int to)]) := ⟨_, rfl⟩
  have go0 : ∀ t, own_S p e below (T0.setTop (mkF m 210 #[.val (.long x0), .second, iv x2, iv x3, iv x4, iv zs, iv sm, iv cc, rv ct, .val (.long M), .second, .val (.long K), .second, .val (.int (K.toInt32)), rv ba, rv bc, .unset, .unset, .unset, .unset, .unset, .unset, .unset, .unset, .unset, .unset] [(.int to)])) t → Steps p.tables e below st0 t := fun t k => by rw [hst0]; exact k
  rw [← hst0]
  obtain ⟨T1, h1, X1, e1, E1, A1, D1, -, st1⟩ := newO X0 hx hZ hown (own_w hw 12 rfl) (own_w hw 13 rfl) (own_w hw 14 rfl) e0 (g := (mkF m 212 #[.val (.long x0), .second, iv x2, iv x3, iv x4, iv zs, iv sm, iv cc, rv ct, .val (.long M), .second, .val (.long K), .second, .val (.int (K.toInt32)), rv ba, rv bc, iv to, .unset, .unset, .unset, .unset, .unset, .unset, .unset, .unset, .unset] [])) rfl (hb hby at_212) (by decide) (by decide)
  obtain ⟨b1, g1⟩ : ∃ zsz, zsz = h0.size := ⟨_, rfl⟩
  rw [← g1] at A1 D1 st1
  have ne1_ba : ba ≠ b1 := Nat.ne_of_lt (Nat.lt_of_lt_of_eq P2.lt g1.symm)
  have ne1_bc : bc ≠ b1 := Nat.ne_of_lt (Nat.lt_of_lt_of_eq P3.lt g1.symm)
  have ge1 : n0 ≤ b1 := Nat.le_trans Z0 (Nat.le_of_eq g1.symm)
  have Z1 : n0 ≤ h1.size := Nat.le_trans Z0 E1.1
  have F1_zeros : Fld Z h1 b1 own_s0 "zeros" "[C" .null := D1 (Or.inr (own_w hw 22 rfl)) (ty := (.array .char)) (by decide)
  have F1_count : Fld Z h1 b1 own_s0 "count" own_s1 .null := D1 (Or.inl (own_w hw 56 rfl)) (ty := (.object own_s7)) (by decide)
  have F1_zerosShortened : Fld Z h1 b1 own_s0 own_s2 "Z" (.int 0) := D1 (Or.inl (own_w hw 63 rfl)) (ty := .boolean) (by decide)
  have F1_most : Fld Z h1 b1 own_s0 "most" "J" (.long 0) := D1 (Or.inl (own_w hw 65 rfl)) (ty := .long) (by decide)
  have F1_length : Fld Z h1 b1 own_s0 "length" "J" (.long 0) := D1 (Or.inl (own_w hw 67 rfl)) (ty := .long) (by decide)
  have F1_past : Fld Z h1 b1 own_s0 "past" "Z" (.int 0) := D1 (Or.inl (own_w hw 69 rfl)) (ty := .boolean) (by decide)
  have F1_over : Fld Z h1 b1 own_s0 "over" "Z" (.int 0) := D1 (Or.inl (own_w hw 71 rfl)) (ty := .boolean) (by decide)
  have F1_counted : Fld Z h1 b1 own_s0 "counted" "J" (.long 0) := D1 (Or.inl (own_w hw 73 rfl)) (ty := .long) (by decide)
  have F1_phase : Fld Z h1 b1 own_s0 "phase" own_s4 .null := D1 (Or.inl (own_w hw 78 rfl)) (ty := (.object own_s9)) (by decide)
  have F1_run : Fld Z h1 b1 own_s0 "run" own_s5 .null := D1 (Or.inl (own_w hw 80 rfl)) (ty := (.object own_s10)) (by decide)
  have F1_fractionZeros : Fld Z h1 b1 own_s0 own_s3 "J" (.long 0) := D1 (Or.inl (own_w hw 82 rfl)) (ty := .long) (by decide)
  obtain ⟨_, _, ⟨T2, L2, k2, n2⟩, -, X2, ⟨Lc2, hQ2, l2, y2, z2⟩, st2⟩ := X1.specialBack hx (y := (⟨own_s0, "<init>", "()V"⟩ : MethodName)) rfl hown (mvT hZ (own_w hw 15 rfl)) (mvT hZ (own_w hw 16 rfl)) (mvT hZ (own_w hw 17 rfl)) (by decide) (backOf (W := 1) (own_vt l Z a0 hw [] b1 h1 n0 Z1 A1 F1_count F1_zerosShortened F1_most F1_length F1_past F1_over F1_counted F1_phase F1_run F1_fractionZeros F1_zeros ge1) hZ (own_w hw 17 rfl) (own_w hw 14 rfl) (by decide) (by decide)) (g := (mkF m 216 #[.val (.long x0), .second, iv x2, iv x3, iv x4, iv zs, iv sm, iv cc, rv ct, .val (.long M), .second, .val (.long K), .second, .val (.int (K.toInt32)), rv ba, rv bc, iv to, .unset, .unset, .unset, .unset, .unset, .unset, .unset, .unset, .unset] [(.ref b1), (.ref b1)])) rfl (by rw [hml]; rfl) (Steps.refl _) (a := b1) (argsL := []) (rest := [(.ref b1)]) (lenOf pd_10 rfl) rfl (by show 2 * 0 + _ ≤ _; exact Nat.le_of_eq rfl) (hb hby at_216) (fun _ _ => ⟨rfl, e1, (by decide : 3 + 1 ≤ _), (by decide : 27 + 64 ≤ _)⟩)
  dsimp only [Pt.U, Pt.locs, Pt.cells, Pt.slots] at X2 l2 y2 z2 st2 hQ2
  subst l2 y2 z2
  obtain ⟨Nq2, rfl, Kc2, p2_0, p2_1, p2_2, p2_3, p2_4, p2_5, p2_6, p2_7, p2_8, p2_9, p2_10⟩ := hQ2
  have N2 := Fr.app N0 Nq2
  have Z2 : n0 ≤ T2.heap.size := Nat.le_trans Z1 Kc2.1
  obtain ⟨T3, h3, X3, e3, E3, A3, D3, -, st3⟩ := newO X2 hx hZ hown (own_w hw 27 rfl) (own_w hw 28 rfl) (own_w hw 29 rfl) rfl (g := (mkF m 221 #[.val (.long x0), .second, iv x2, iv x3, iv x4, iv zs, iv sm, iv cc, rv ct, .val (.long M), .second, .val (.long K), .second, .val (.int (K.toInt32)), rv ba, rv bc, iv to, rv b1, .unset, .unset, .unset, .unset, .unset, .unset, .unset, .unset] [])) rfl (hb hby at_221) (by decide) (by decide)
  obtain ⟨b3, g3⟩ : ∃ zsz, zsz = T2.heap.size := ⟨_, rfl⟩
  rw [← g3] at A3 D3 st3
  have f4 : Arv Z T2.heap ba kb .byte (8 : Int32) [(.int 120), (.int 120), (.int 120), (.int 120), (.int 120), (.int 120), (.int 120), (.int 120)] (.int 0) := ((P2.ext E1).keep Kc2 (ninS ne1_ba nin0))
  have ne3_ba : ba ≠ b3 := Nat.ne_of_lt (Nat.lt_of_lt_of_eq f4.lt g3.symm)
  have ne3_b1 : b1 ≠ b3 := Nat.ne_of_lt (Nat.lt_of_lt_of_eq p2_0.lt g3.symm)
  have f5 : Arv Z T2.heap bc kc .char (8 : Int32) [(.int 120), (.int 120), (.int 120), (.int 120), (.int 120), (.int 120), (.int 120), (.int 120)] (.int 0) := ((P3.ext E1).keep Kc2 (ninS ne1_bc nin0))
  have ne3_bc : bc ≠ b3 := Nat.ne_of_lt (Nat.lt_of_lt_of_eq f5.lt g3.symm)
  have ge3 : n0 ≤ b3 := Nat.le_trans Z2 (Nat.le_of_eq g3.symm)
  have Z3 : n0 ≤ h3.size := Nat.le_trans Z2 E3.1
  have F3_count : Fld Z h3 b3 own_s6 "count" own_s1 .null := D3 (Or.inr (own_w hw 40 rfl)) (ty := (.object own_s7)) (by decide)
  have F3_most : Fld Z h3 b3 own_s6 "most" "J" (.long 0) := D3 (Or.inr (own_w hw 42 rfl)) (ty := .long) (by decide)
  have F3_zerosShortened : Fld Z h3 b3 own_s6 own_s2 "Z" (.int 0) := D3 (Or.inr (own_w hw 44 rfl)) (ty := .boolean) (by decide)
  obtain ⟨_, _, ⟨T6, L6, k6, n6⟩, -, X6, ⟨Lc6, hQ6, l6, y6, z6⟩, st6⟩ := X3.specialBack hx (y := (⟨own_s6, "<init>", "(Lcom/example/corsia/corsia/engine/ValueLengths$Count;JZ)V"⟩ : MethodName)) rfl hown (mvT hZ (own_w hw 30 rfl)) (mvT hZ (own_w hw 31 rfl)) (mvT hZ (own_w hw 32 rfl)) (by decide) (backOf (W := 1) (own_lim l Z a0 hw [] b3 ct M zs h3 n0 Z3 A3 F3_count F3_most F3_zerosShortened ge3) hZ (own_w hw 32 rfl) (own_w hw 29 rfl) (by decide) (by decide)) (g := (mkF m 231 #[.val (.long x0), .second, iv x2, iv x3, iv x4, iv zs, iv sm, iv cc, rv ct, .val (.long M), .second, .val (.long K), .second, .val (.int (K.toInt32)), rv ba, rv bc, iv to, rv b1, .unset, .unset, .unset, .unset, .unset, .unset, .unset, .unset] [(.int zs), (.long M), (.ref ct), (.ref b3), (.ref b3)])) rfl (by rw [hml]; rfl) (Steps.refl _) (a := b3) (argsL := [(.ref ct), (.long M), (.int zs)]) (rest := [(.ref b3)]) (lenOf pd_31 rfl) rfl (by show 2 * 0 + _ ≤ _; exact Nat.le_of_eq rfl) (hb hby at_231) (fun _ _ => ⟨rfl, e3, (by decide : 5 + 0 ≤ _), (by decide : 94 + 0 ≤ _)⟩)
  dsimp only [Pt.U, Pt.locs, Pt.cells, Pt.slots] at X6 l6 y6 z6 st6 hQ6
  subst l6 y6 z6
  obtain ⟨Nq6, rfl, Kc6, p6_0, p6_1, p6_2⟩ := hQ6
  have N6 := Fr.app N2 Nq6
  have Z6 : n0 ≤ T6.heap.size := Nat.le_trans Z3 Kc6.1
  have f7 := ((p2_0.ext E3).keep Kc6)
  have f8 := ((((P0.ext E1).keep Kc2 (allS (P := fun x => ∀ c, h1[x]? = some c → c.vm.isStatics = false) (own_nost A1) all0)).ext E3).keep Kc6 (allS (P := fun x => ∀ c, h3[x]? = some c → c.vm.isStatics = false) (own_nost A3) all0))
  have f9 := ((p2_1.ext E3).keep Kc6 (ninS ne3_b1 nin0))
  have f10 : Fld Z T6.heap b1 own_s0 own_s2 "Z" (.int 0) := ((p2_2.ext E3).keep Kc6 (ninS ne3_b1 nin0))
  have f11 : Fld Z T6.heap b1 own_s0 "most" "J" (.long 0) := ((p2_3.ext E3).keep Kc6 (ninS ne3_b1 nin0))
  have f12 : Fld Z T6.heap b1 own_s0 "length" "J" (.long 0) := ((p2_4.ext E3).keep Kc6 (ninS ne3_b1 nin0))
  have f13 : Fld Z T6.heap b1 own_s0 "past" "Z" (.int 0) := ((p2_5.ext E3).keep Kc6 (ninS ne3_b1 nin0))
  have f14 : Fld Z T6.heap b1 own_s0 "over" "Z" (.int 0) := ((p2_6.ext E3).keep Kc6 (ninS ne3_b1 nin0))
  have f15 : Fld Z T6.heap b1 own_s0 "counted" "J" (.long 0) := ((p2_7.ext E3).keep Kc6 (ninS ne3_b1 nin0))
  have f16 := ((p2_8.ext E3).keep Kc6 (ninS ne3_b1 nin0))
  have f17 := ((p2_9.ext E3).keep Kc6 (ninS ne3_b1 nin0))
  have f18 : Fld Z T6.heap b1 own_s0 own_s3 "J" (.long 0) := ((p2_10.ext E3).keep Kc6 (ninS ne3_b1 nin0))
  obtain ⟨cq19, kq19, q19a, q19b, q19c⟩ := isOf hZ rfl f7
  obtain ⟨_, _, ⟨T19, L19, k19, n19⟩, -, X19, ⟨Lc19, hQ19, l19, y19, z19⟩, st19⟩ := X6.virtualBack hx (y := (⟨own_s0, "start", own_s16⟩ : MethodName)) (z := (⟨own_s0, "start", own_s16⟩ : MethodName)) hown (mvT hZ (own_w hw 45 rfl)) (mvT hZ (own_w hw 46 rfl)) (notFace_of_selects (args := #[]) (mvT hZ (own_w hw 48 rfl))) (mvT hZ (own_w hw 48 rfl)) (mvT hZ (own_w hw 47 rfl)) (by decide) (backOf (W := 0) (own_start l Z a0 hw [] b1 b3 M ev ns sg phS phF phA phD co ct (nar .boolean zs) .null (.int 0) (.long 0) (.long 0) (.int 0) (.int 0) (.long 0) .null .null (.long 0) T6.heap n0 Z6 f7 p6_0 p6_1 p6_2 f8 (Ne.symm ne3_b1) f9 ge1 f10 f11 f12 f13 f14 f15 f16 f17 f18) hZ (own_w hw 49 rfl) (own_w hw 14 rfl) (by decide) (by decide)) q19a q19c (g := (mkF m 242 #[.val (.long x0), .second, iv x2, iv x3, iv x4, iv zs, iv sm, iv cc, rv ct, .val (.long M), .second, .val (.long K), .second, .val (.int (K.toInt32)), rv ba, rv bc, iv to, rv b1, rv b3, .unset, .unset, .unset, .unset, .unset, .unset, .unset] [(.long M), (.ref b3), (.ref b1)])) rfl (by rw [hml]; rfl) (Steps.refl _) (argsL := [(.ref b3), (.long M)]) (rest := []) (lenOf pd_29 rfl) rfl (by show 2 * 0 + _ ≤ _; exact Nat.le_of_eq rfl) (hb hby at_242) (fun _ _ => ⟨rfl, rfl, (by decide : 5 + 0 ≤ _), (by decide : 94 + 0 ≤ _)⟩)
  dsimp only [Pt.U, Pt.locs, Pt.cells, Pt.slots] at X19 l19 y19 z19 st19 hQ19
  subst l19 y19 z19
  obtain ⟨Nq19, rfl, Kc19, p19_0, p19_1, p19_2, p19_3, p19_4, p19_5, p19_6, p19_7, p19_8, p19_9, p19_10⟩ := hQ19
  have N19 := Fr.app N6 Nq19
  have Z19 : n0 ≤ T19.heap.size := Nat.le_trans Z6 Kc19.1
  obtain ⟨cq20, kq20, q20a, q20b, q20c⟩ := isOf hZ rfl p19_0
  obtain ⟨_, _, ⟨T20, L20, k20, n20⟩, -, X20, ⟨Lc20, hQ20, l20, y20, z20⟩, st20⟩ := X19.virtualBack hx (y := (⟨own_s0, "room", "()J"⟩ : MethodName)) (z := (⟨own_s0, "room", "()J"⟩ : MethodName)) hown (mvT hZ (own_w hw 83 rfl)) (mvT hZ (own_w hw 84 rfl)) (notFace_of_selects (args := #[]) (mvT hZ (own_w hw 86 rfl))) (mvT hZ (own_w hw 86 rfl)) (mvT hZ (own_w hw 85 rfl)) (by decide) (backOf (W := 0) (own_room0 l Z a0 hw [] b1 M (0 : Int64) T19.heap n0 Z19 p19_5 p19_3 p19_4) hZ (own_w hw 87 rfl) (own_w hw 14 rfl) (by decide) (by decide)) q20a q20c (g := (mkF m 247 #[.val (.long x0), .second, iv x2, iv x3, iv x4, iv zs, iv sm, iv cc, rv ct, .val (.long M), .second, .val (.long K), .second, .val (.int (K.toInt32)), rv ba, rv bc, iv to, rv b1, rv b3, .unset, .unset, .unset, .unset, .unset, .unset, .unset] [(.ref b1)])) rfl (by rw [hml]; rfl) (Steps.refl _) (argsL := []) (rest := []) (lenOf pd_27 rfl) rfl (by show 2 * 0 + _ ≤ _; exact Nat.le_of_eq rfl) (hb hby at_247) (fun _ _ => ⟨rfl, rfl, (by decide : 5 + 0 ≤ _), (by decide : 94 + 0 ≤ _)⟩)
  dsimp only [Pt.U, Pt.locs, Pt.cells, Pt.slots] at X20 l20 y20 z20 st20 hQ20
  subst l20 y20 z20
  obtain ⟨rfl, Nq20, e20⟩ := hQ20
  have N20 := Fr.app N19 Nq20
  have hk21 : (M - (0 : Int64)) = M := Int64.sub_zero _
  have f22 := (f8.keep Kc19 (allS (P := fun x => ∀ c, T6.heap[x]? = some c → c.vm.isStatics = false) (own_nost f7) all0))
  have f23 : Arv Z T19.heap ba kb .byte (8 : Int32) [(.int 120), (.int 120), (.int 120), (.int 120), (.int 120), (.int 120), (.int 120), (.int 120)] (.int 0) := (((f4.ext E3).keep Kc6 (ninS ne3_ba nin0)).keep Kc19 (ninS ne1_ba nin0))
  obtain ⟨cq24, kq24, q24a, q24b, q24c⟩ := isOf hZ e20 p19_0
  obtain ⟨_, _, ⟨T24, L24, k24, n24⟩, -, X24, ⟨Lc24, hQ24, l24, y24, z24⟩, st24⟩ := X20.virtualBack hx (y := (⟨own_s0, "readWithin", "([BIII)V"⟩ : MethodName)) (z := (⟨own_s0, "readWithin", "([BIII)V"⟩ : MethodName)) hown (mvT hZ (own_w hw 88 rfl)) (mvT hZ (own_w hw 89 rfl)) (notFace_of_selects (args := #[]) (mvT hZ (own_w hw 91 rfl))) (mvT hZ (own_w hw 91 rfl)) (mvT hZ (own_w hw 90 rfl)) (by decide) (backOf (W := 0) (own_rw l Z a0 hw [] b1 ba to (K.toInt32) ev ns sg phS phF phA phD co ct (nar .boolean (nar .boolean (nar .boolean zs))) M kb T19.heap n0 Z19 f22 P1 p19_0 p19_1 p19_2 p19_3 p19_4 p19_5 p19_6 p19_7 p19_8 p19_9 p19_10 f23 ne1_ba ge1 P5 P6 P7 (own_cR P11 P10)) hZ (own_w hw 92 rfl) (own_w hw 14 rfl) (by decide) (by decide)) q24a q24c (g := (mkF m 272 #[.val (.long x0), .second, iv x2, iv x3, iv x4, iv zs, iv sm, iv cc, rv ct, .val (.long M), .second, .val (.long K), .second, .val (.int (K.toInt32)), rv ba, rv bc, iv to, rv b1, rv b3, iv 1, .unset, .unset, .unset, .unset, .unset, .unset] [(.int (K.toInt32)), (.int to), (.int 0), (.ref ba), (.ref b1)])) rfl (by rw [hml]; rfl) (Steps.refl _) (argsL := [(.ref ba), (.int 0), (.int to), (.int (K.toInt32))]) (rest := []) (lenOf pd_32 rfl) rfl (by show 2 * 0 + _ ≤ _; exact Nat.le_of_eq rfl) (hb hby at_272) (fun _ _ => ⟨rfl, e20, (by decide : 5 + 0 ≤ _), (by decide : 94 + 0 ≤ _)⟩)
  dsimp only [Pt.U, Pt.locs, Pt.cells, Pt.slots] at X24 l24 y24 z24 st24 hQ24
  subst l24 y24 z24
  obtain ⟨Nq24, y24_0, rfl, Kc24, p24_0, p24_1, p24_2, p24_3, p24_4, p24_5, p24_6, p24_7, p24_8, p24_9, p24_10, p24_11⟩ := hQ24
  have N24 := Fr.app N20 Nq24
  have Z24 : n0 ≤ T24.heap.size := Nat.le_trans Z19 Kc24.1
  obtain ⟨cq25, kq25, q25a, q25b, q25c⟩ := isOf hZ rfl p24_0
  obtain ⟨_, _, ⟨T25, L25, k25, n25⟩, -, X25, ⟨Lc25, hQ25, l25, y25, z25⟩, st25⟩ := X24.virtualBack hx (y := (⟨own_s0, "room", "()J"⟩ : MethodName)) (z := (⟨own_s0, "room", "()J"⟩ : MethodName)) hown (mvT hZ (own_w hw 83 rfl)) (mvT hZ (own_w hw 84 rfl)) (notFace_of_selects (args := #[]) (mvT hZ (own_w hw 86 rfl))) (mvT hZ (own_w hw 86 rfl)) (mvT hZ (own_w hw 85 rfl)) (by decide) (backOf (W := 0) (own_room0 l Z a0 hw [] b1 M ((0 : Int64) + ((K.toInt32).toInt64)) T24.heap n0 Z24 p24_5 p24_3 p24_4) hZ (own_w hw 87 rfl) (own_w hw 14 rfl) (by decide) (by decide)) q25a q25c (g := (mkF m 289 #[.val (.long x0), .second, iv x2, iv x3, iv x4, iv zs, iv sm, iv cc, rv ct, .val (.long M), .second, .val (.long K), .second, .val (.int (K.toInt32)), rv ba, rv bc, iv to, rv b1, rv b3, iv 1, .val (.long (M - K)), .second, .unset, .unset, .unset, .unset] [(.ref b1)])) rfl (by rw [hml]; rfl) (Steps.refl _) (argsL := []) (rest := []) (lenOf pd_27 rfl) rfl (by show 2 * 0 + _ ≤ _; exact Nat.le_of_eq rfl) (hb hby at_289) (fun _ _ => ⟨rfl, rfl, (by decide : 5 + 0 ≤ _), (by decide : 94 + 0 ≤ _)⟩)
  dsimp only [Pt.U, Pt.locs, Pt.cells, Pt.slots] at X25 l25 y25 z25 st25 hQ25
  subst l25 y25 z25
  obtain ⟨rfl, Nq25, e25⟩ := hQ25
  have N25 := Fr.app N24 Nq25
  have hk26 : (M - ((0 : Int64) + ((K.toInt32).toInt64))) = (M - K) := (by rw [P11, Int64.zero_add])
  have go27 : ∀ t, own_S p e below (T25.setTop (mkF m 311 #[.val (.long x0), .second, iv x2, iv x3, iv x4, iv zs, iv sm, iv cc, rv ct, .val (.long M), .second, .val (.long K), .second, .val (.int (K.toInt32)), rv ba, rv bc, iv to, rv b1, rv b3, iv 1, .val (.long (M - K)), .second, .unset, .unset, .unset, .unset] [(.int (lcmpW M (3 : Int64)))])) t → Steps p.tables e below st0 t := by
    intro t kt
    refine go0 t ?_
    refine XS.istore X0.here hx rfl (hb hby at_210) rfl (l' := #[.val (.long x0), .second, iv x2, iv x3, iv x4, iv zs, iv sm, iv cc, rv ct, .val (.long M), .second, .val (.long K), .second, .val (.int (K.toInt32)), rv ba, rv bc, iv to, .unset, .unset, .unset, .unset, .unset, .unset, .unset, .unset, .unset]) rfl ?_
    show own_S p e below (T0.setTop (mkF m 212 #[.val (.long x0), .second, iv x2, iv x3, iv x4, iv zs, iv sm, iv cc, rv ct, .val (.long M), .second, .val (.long K), .second, .val (.int (K.toInt32)), rv ba, rv bc, iv to, .unset, .unset, .unset, .unset, .unset, .unset, .unset, .unset, .unset] [])) _
    refine st1 _ ?_
    refine XS.dup X1.here hx rfl (hb hby at_215) rfl rfl ?_
    show own_S p e below (T1.setTop (mkF m 216 #[.val (.long x0), .second, iv x2, iv x3, iv x4, iv zs, iv sm, iv cc, rv ct, .val (.long M), .second, .val (.long K), .second, .val (.int (K.toInt32)), rv ba, rv bc, iv to, .unset, .unset, .unset, .unset, .unset, .unset, .unset, .unset, .unset] [(.ref b1), (.ref b1)])) _
    refine st2.trans ?_
    show own_S p e below (T2.setTop (mkF m 219 #[.val (.long x0), .second, iv x2, iv x3, iv x4, iv zs, iv sm, iv cc, rv ct, .val (.long M), .second, .val (.long K), .second, .val (.int (K.toInt32)), rv ba, rv bc, iv to, .unset, .unset, .unset, .unset, .unset, .unset, .unset, .unset, .unset] [(.ref b1)])) _
    refine XS.astore X2.here hx rfl (hb hby at_219) rfl rfl (l' := #[.val (.long x0), .second, iv x2, iv x3, iv x4, iv zs, iv sm, iv cc, rv ct, .val (.long M), .second, .val (.long K), .second, .val (.int (K.toInt32)), rv ba, rv bc, iv to, rv b1, .unset, .unset, .unset, .unset, .unset, .unset, .unset, .unset]) rfl ?_
    show own_S p e below (T2.setTop (mkF m 221 #[.val (.long x0), .second, iv x2, iv x3, iv x4, iv zs, iv sm, iv cc, rv ct, .val (.long M), .second, .val (.long K), .second, .val (.int (K.toInt32)), rv ba, rv bc, iv to, rv b1, .unset, .unset, .unset, .unset, .unset, .unset, .unset, .unset] [])) _
    refine st3 _ ?_
    refine XS.dup X3.here hx rfl (hb hby at_224) rfl rfl ?_
    refine XS.aload X3.here hx rfl (hb hby at_225) rfl rfl ?_
    refine XS.lload X3.here hx rfl (hb hby at_227) rfl ?_
    show own_S p e below (T3.setTop (mkF m 229 #[.val (.long x0), .second, iv x2, iv x3, iv x4, iv zs, iv sm, iv cc, rv ct, .val (.long M), .second, .val (.long K), .second, .val (.int (K.toInt32)), rv ba, rv bc, iv to, rv b1, .unset, .unset, .unset, .unset, .unset, .unset, .unset, .unset] [(.long M), (.ref ct), (.ref b3), (.ref b3)])) _
    refine XS.iload X3.here hx rfl (hb hby at_229) rfl ?_
    show own_S p e below (T3.setTop (mkF m 231 #[.val (.long x0), .second, iv x2, iv x3, iv x4, iv zs, iv sm, iv cc, rv ct, .val (.long M), .second, .val (.long K), .second, .val (.int (K.toInt32)), rv ba, rv bc, iv to, rv b1, .unset, .unset, .unset, .unset, .unset, .unset, .unset, .unset] [(.int zs), (.long M), (.ref ct), (.ref b3), (.ref b3)])) _
    refine st6.trans ?_
    show own_S p e below (T6.setTop (mkF m 234 #[.val (.long x0), .second, iv x2, iv x3, iv x4, iv zs, iv sm, iv cc, rv ct, .val (.long M), .second, .val (.long K), .second, .val (.int (K.toInt32)), rv ba, rv bc, iv to, rv b1, .unset, .unset, .unset, .unset, .unset, .unset, .unset, .unset] [(.ref b3)])) _
    refine XS.astore X6.here hx rfl (hb hby at_234) rfl rfl (l' := #[.val (.long x0), .second, iv x2, iv x3, iv x4, iv zs, iv sm, iv cc, rv ct, .val (.long M), .second, .val (.long K), .second, .val (.int (K.toInt32)), rv ba, rv bc, iv to, rv b1, rv b3, .unset, .unset, .unset, .unset, .unset, .unset, .unset]) rfl ?_
    refine XS.aload X6.here hx rfl (hb hby at_236) rfl rfl ?_
    refine XS.aload X6.here hx rfl (hb hby at_238) rfl rfl ?_
    refine XS.lload X6.here hx rfl (hb hby at_240) rfl ?_
    show own_S p e below (T6.setTop (mkF m 242 #[.val (.long x0), .second, iv x2, iv x3, iv x4, iv zs, iv sm, iv cc, rv ct, .val (.long M), .second, .val (.long K), .second, .val (.int (K.toInt32)), rv ba, rv bc, iv to, rv b1, rv b3, .unset, .unset, .unset, .unset, .unset, .unset, .unset] [(.long M), (.ref b3), (.ref b1)])) _
    refine st19.trans ?_
    refine XS.aload X19.here hx rfl (hb hby at_245) rfl rfl ?_
    show own_S p e below (T19.setTop (mkF m 247 #[.val (.long x0), .second, iv x2, iv x3, iv x4, iv zs, iv sm, iv cc, rv ct, .val (.long M), .second, .val (.long K), .second, .val (.int (K.toInt32)), rv ba, rv bc, iv to, rv b1, rv b3, .unset, .unset, .unset, .unset, .unset, .unset, .unset] [(.ref b1)])) _
    refine st20.trans ?_
    refine XS.lload X20.here hx rfl (hb hby at_250) rfl ?_
    show own_S p e below (T20.setTop (mkF m 252 #[.val (.long x0), .second, iv x2, iv x3, iv x4, iv zs, iv sm, iv cc, rv ct, .val (.long M), .second, .val (.long K), .second, .val (.int (K.toInt32)), rv ba, rv bc, iv to, rv b1, rv b3, .unset, .unset, .unset, .unset, .unset, .unset, .unset] [(.long M), (.long (M - (0 : Int64)))])) _
    refine XS.lcmp X20.here hx rfl (hb hby at_252) rfl ?_
    show own_S p e below (T20.setTop (mkF m 253 #[.val (.long x0), .second, iv x2, iv x3, iv x4, iv zs, iv sm, iv cc, rv ct, .val (.long M), .second, .val (.long K), .second, .val (.int (K.toInt32)), rv ba, rv bc, iv to, rv b1, rv b3, .unset, .unset, .unset, .unset, .unset, .unset, .unset] [(.int (lcmpW (M - (0 : Int64)) M))])) _
    refine XS.ifNo X20.here hx rfl (hb hby at_253) rfl (Jvm.Free.XT.ll_ne_f hk21) ?_
    refine XS.iconst X20.here hx rfl (hb hby at_256) ?_
    show own_S p e below (T20.setTop (mkF m 257 #[.val (.long x0), .second, iv x2, iv x3, iv x4, iv zs, iv sm, iv cc, rv ct, .val (.long M), .second, .val (.long K), .second, .val (.int (K.toInt32)), rv ba, rv bc, iv to, rv b1, rv b3, .unset, .unset, .unset, .unset, .unset, .unset, .unset] [(.int 1)])) _
    refine XS.goto X20.here hx rfl (pc0 := 257) (pc' := 261) rfl (hb hby at_257) (by decide) (by decide) ?_
    show own_S p e below (T20.setTop (mkF m 261 #[.val (.long x0), .second, iv x2, iv x3, iv x4, iv zs, iv sm, iv cc, rv ct, .val (.long M), .second, .val (.long K), .second, .val (.int (K.toInt32)), rv ba, rv bc, iv to, rv b1, rv b3, .unset, .unset, .unset, .unset, .unset, .unset, .unset] [(.int 1)])) _
    refine XS.istore X20.here hx rfl (hb hby at_261) rfl (l' := #[.val (.long x0), .second, iv x2, iv x3, iv x4, iv zs, iv sm, iv cc, rv ct, .val (.long M), .second, .val (.long K), .second, .val (.int (K.toInt32)), rv ba, rv bc, iv to, rv b1, rv b3, iv 1, .unset, .unset, .unset, .unset, .unset, .unset]) rfl ?_
    refine XS.aload X20.here hx rfl (hb hby at_263) rfl rfl ?_
    refine XS.aload X20.here hx rfl (hb hby at_265) rfl rfl ?_
    refine XS.iconst X20.here hx rfl (hb hby at_267) ?_
    show own_S p e below (T20.setTop (mkF m 268 #[.val (.long x0), .second, iv x2, iv x3, iv x4, iv zs, iv sm, iv cc, rv ct, .val (.long M), .second, .val (.long K), .second, .val (.int (K.toInt32)), rv ba, rv bc, iv to, rv b1, rv b3, iv 1, .unset, .unset, .unset, .unset, .unset, .unset] [(.int 0), (.ref ba), (.ref b1)])) _
    refine XS.iload X20.here hx rfl (hb hby at_268) rfl ?_
    show own_S p e below (T20.setTop (mkF m 270 #[.val (.long x0), .second, iv x2, iv x3, iv x4, iv zs, iv sm, iv cc, rv ct, .val (.long M), .second, .val (.long K), .second, .val (.int (K.toInt32)), rv ba, rv bc, iv to, rv b1, rv b3, iv 1, .unset, .unset, .unset, .unset, .unset, .unset] [(.int to), (.int 0), (.ref ba), (.ref b1)])) _
    refine XS.iload X20.here hx rfl (hb hby at_270) rfl ?_
    show own_S p e below (T20.setTop (mkF m 272 #[.val (.long x0), .second, iv x2, iv x3, iv x4, iv zs, iv sm, iv cc, rv ct, .val (.long M), .second, .val (.long K), .second, .val (.int (K.toInt32)), rv ba, rv bc, iv to, rv b1, rv b3, iv 1, .unset, .unset, .unset, .unset, .unset, .unset] [(.int (K.toInt32)), (.int to), (.int 0), (.ref ba), (.ref b1)])) _
    refine st24.trans ?_
    refine XS.lload X24.here hx rfl (hb hby at_275) rfl ?_
    refine XS.lload X24.here hx rfl (hb hby at_277) rfl ?_
    refine XS.lsub X24.here hx rfl (hb hby at_279) rfl ?_
    show own_S p e below (T24.setTop (mkF m 280 #[.val (.long x0), .second, iv x2, iv x3, iv x4, iv zs, iv sm, iv cc, rv ct, .val (.long M), .second, .val (.long K), .second, .val (.int (K.toInt32)), rv ba, rv bc, iv to, rv b1, rv b3, iv 1, .unset, .unset, .unset, .unset, .unset, .unset] [(.long (M - K))])) _
    refine XS.lstore X24.here hx rfl (hb hby at_280) rfl (l' := #[.val (.long x0), .second, iv x2, iv x3, iv x4, iv zs, iv sm, iv cc, rv ct, .val (.long M), .second, .val (.long K), .second, .val (.int (K.toInt32)), rv ba, rv bc, iv to, rv b1, rv b3, iv 1, .val (.long (M - K)), .second, .unset, .unset, .unset, .unset]) rfl ?_
    refine XS.iload X24.here hx rfl (hb hby at_282) rfl ?_
    show own_S p e below (T24.setTop (mkF m 284 #[.val (.long x0), .second, iv x2, iv x3, iv x4, iv zs, iv sm, iv cc, rv ct, .val (.long M), .second, .val (.long K), .second, .val (.int (K.toInt32)), rv ba, rv bc, iv to, rv b1, rv b3, iv 1, .val (.long (M - K)), .second, .unset, .unset, .unset, .unset] [(.int 1)])) _
    refine XS.ifNo X24.here hx rfl (hb hby at_284) rfl ((if0 _ _).trans (feq (by decide : ¬ ((1 : Int32) = (0 : Int32)))).1) ?_
    refine XS.aload X24.here hx rfl (hb hby at_287) rfl rfl ?_
    show own_S p e below (T24.setTop (mkF m 289 #[.val (.long x0), .second, iv x2, iv x3, iv x4, iv zs, iv sm, iv cc, rv ct, .val (.long M), .second, .val (.long K), .second, .val (.int (K.toInt32)), rv ba, rv bc, iv to, rv b1, rv b3, iv 1, .val (.long (M - K)), .second, .unset, .unset, .unset, .unset] [(.ref b1)])) _
    refine st25.trans ?_
    refine XS.lload X25.here hx rfl (hb hby at_292) rfl ?_
    show own_S p e below (T25.setTop (mkF m 294 #[.val (.long x0), .second, iv x2, iv x3, iv x4, iv zs, iv sm, iv cc, rv ct, .val (.long M), .second, .val (.long K), .second, .val (.int (K.toInt32)), rv ba, rv bc, iv to, rv b1, rv b3, iv 1, .val (.long (M - K)), .second, .unset, .unset, .unset, .unset] [(.long (M - K)), (.long (M - ((0 : Int64) + ((K.toInt32).toInt64))))])) _
    refine XS.lcmp X25.here hx rfl (hb hby at_294) rfl ?_
    show own_S p e below (T25.setTop (mkF m 295 #[.val (.long x0), .second, iv x2, iv x3, iv x4, iv zs, iv sm, iv cc, rv ct, .val (.long M), .second, .val (.long K), .second, .val (.int (K.toInt32)), rv ba, rv bc, iv to, rv b1, rv b3, iv 1, .val (.long (M - K)), .second, .unset, .unset, .unset, .unset] [(.int (lcmpW (M - ((0 : Int64) + ((K.toInt32).toInt64))) (M - K)))])) _
    refine XS.ifNo X25.here hx rfl (hb hby at_295) rfl (Jvm.Free.XT.ll_ne_f hk26) ?_
    refine XS.iconst X25.here hx rfl (hb hby at_298) ?_
    show own_S p e below (T25.setTop (mkF m 299 #[.val (.long x0), .second, iv x2, iv x3, iv x4, iv zs, iv sm, iv cc, rv ct, .val (.long M), .second, .val (.long K), .second, .val (.int (K.toInt32)), rv ba, rv bc, iv to, rv b1, rv b3, iv 1, .val (.long (M - K)), .second, .unset, .unset, .unset, .unset] [(.int 1)])) _
    refine XS.goto X25.here hx rfl (pc0 := 299) (pc' := 303) rfl (hb hby at_299) (by decide) (by decide) ?_
    show own_S p e below (T25.setTop (mkF m 303 #[.val (.long x0), .second, iv x2, iv x3, iv x4, iv zs, iv sm, iv cc, rv ct, .val (.long M), .second, .val (.long K), .second, .val (.int (K.toInt32)), rv ba, rv bc, iv to, rv b1, rv b3, iv 1, .val (.long (M - K)), .second, .unset, .unset, .unset, .unset] [(.int 1)])) _
    refine XS.istore X25.here hx rfl (hb hby at_303) rfl (l' := #[.val (.long x0), .second, iv x2, iv x3, iv x4, iv zs, iv sm, iv cc, rv ct, .val (.long M), .second, .val (.long K), .second, .val (.int (K.toInt32)), rv ba, rv bc, iv to, rv b1, rv b3, iv 1, .val (.long (M - K)), .second, .unset, .unset, .unset, .unset]) rfl ?_
    refine XS.lload X25.here hx rfl (hb hby at_305) rfl ?_
    show own_S p e below (T25.setTop (mkF m 307 #[.val (.long x0), .second, iv x2, iv x3, iv x4, iv zs, iv sm, iv cc, rv ct, .val (.long M), .second, .val (.long K), .second, .val (.int (K.toInt32)), rv ba, rv bc, iv to, rv b1, rv b3, iv 1, .val (.long (M - K)), .second, .unset, .unset, .unset, .unset] [(.long M)])) _
    refine X25.ldc2Long hx hown (mvT hZ (own_w hw 96 rfl)) (g := (mkF m 307 #[.val (.long x0), .second, iv x2, iv x3, iv x4, iv zs, iv sm, iv cc, rv ct, .val (.long M), .second, .val (.long K), .second, .val (.int (K.toInt32)), rv ba, rv bc, iv to, rv b1, rv b3, iv 1, .val (.long (M - K)), .second, .unset, .unset, .unset, .unset] [(.long M)])) rfl (hb hby at_307) _ ?_
    show own_S p e below (T25.setTop (mkF m 310 #[.val (.long x0), .second, iv x2, iv x3, iv x4, iv zs, iv sm, iv cc, rv ct, .val (.long M), .second, .val (.long K), .second, .val (.int (K.toInt32)), rv ba, rv bc, iv to, rv b1, rv b3, iv 1, .val (.long (M - K)), .second, .unset, .unset, .unset, .unset] [(.long 3), (.long M)])) _
    refine XS.lcmp X25.here hx rfl (hb hby at_310) rfl ?_
    show own_S p e below (T25.setTop (mkF m 311 #[.val (.long x0), .second, iv x2, iv x3, iv x4, iv zs, iv sm, iv cc, rv ct, .val (.long M), .second, .val (.long K), .second, .val (.int (K.toInt32)), rv ba, rv bc, iv to, rv b1, rv b3, iv 1, .val (.long (M - K)), .second, .unset, .unset, .unset, .unset] [(.int (lcmpW M (3 : Int64)))])) _
    exact kt
  by_cases hc28 : (3 : Int64) < M
  · skip
    have f29 := ((p6_0.keep Kc19).keep Kc24)
    have f30 := ((p6_1.keep Kc19 (ninS (Ne.symm ne3_b1) nin0)).keep Kc24 (ninS (Ne.symm ne3_b1) nin0))
    have f31 := ((p6_2.keep Kc19 (ninS (Ne.symm ne3_b1) nin0)).keep Kc24 (ninS (Ne.symm ne3_b1) nin0))
    have f32 := (f22.keep Kc24 (allS (P := fun x => ∀ c, T19.heap[x]? = some c → c.vm.isStatics = false) (own_nost p19_0) all0))
    obtain ⟨cq33, kq33, q33a, q33b, q33c⟩ := isOf hZ e25 p24_0
    obtain ⟨_, _, ⟨T33, L33, k33, n33⟩, -, X33, ⟨Lc33, hQ33, l33, y33, z33⟩, st33⟩ := X25.virtualBack hx (y := (⟨own_s0, "start", own_s16⟩ : MethodName)) (z := (⟨own_s0, "start", own_s16⟩ : MethodName)) hown (mvT hZ (own_w hw 45 rfl)) (mvT hZ (own_w hw 46 rfl)) (notFace_of_selects (args := #[]) (mvT hZ (own_w hw 48 rfl))) (mvT hZ (own_w hw 48 rfl)) (mvT hZ (own_w hw 47 rfl)) (by decide) (backOf (W := 0) (own_start l Z a0 hw [] b1 b3 M ev ns sg phS phF phA phD co ct (nar .boolean zs) (.ref ct) (.int (nar .boolean (nar .boolean (nar .boolean zs)))) (.long M) (.long ((0 : Int64) + ((K.toInt32).toInt64))) (.int 0) (.int 0) (.long 0) (.ref y24_0) .null (.long 0) T24.heap n0 Z24 p24_0 f29 f30 f31 f32 (Ne.symm ne3_b1) p24_1 ge1 p24_2 p24_3 p24_4 p24_5 p24_6 p24_7 p24_8 p24_9 p24_10) hZ (own_w hw 49 rfl) (own_w hw 14 rfl) (by decide) (by decide)) q33a q33c (g := (mkF m 386 #[.val (.long x0), .second, iv x2, iv x3, iv x4, iv zs, iv sm, iv cc, rv ct, .val (.long M), .second, .val (.long K), .second, .val (.int (K.toInt32)), rv ba, rv bc, iv to, rv b1, rv b3, iv 1, .val (.long (M - K)), .second, .unset, .unset, .unset, .unset] [(.long M), (.ref b3), (.ref b1)])) rfl (by rw [hml]; rfl) (Steps.refl _) (argsL := [(.ref b3), (.long M)]) (rest := []) (lenOf pd_29 rfl) rfl (by show 2 * 0 + _ ≤ _; exact Nat.le_of_eq rfl) (hb hby at_386) (fun _ _ => ⟨rfl, e25, (by decide : 5 + 0 ≤ _), (by decide : 94 + 0 ≤ _)⟩)
    dsimp only [Pt.U, Pt.locs, Pt.cells, Pt.slots] at X33 l33 y33 z33 st33 hQ33
    subst l33 y33 z33
    obtain ⟨Nq33, rfl, Kc33, p33_0, p33_1, p33_2, p33_3, p33_4, p33_5, p33_6, p33_7, p33_8, p33_9, p33_10⟩ := hQ33
    have N33 := Fr.app N25 Nq33
    have Z33 : n0 ≤ T33.heap.size := Nat.le_trans Z24 Kc33.1
    obtain ⟨cq34, kq34, q34a, q34b, q34c⟩ := isOf hZ rfl p33_0
    obtain ⟨_, _, ⟨T34, L34, k34, n34⟩, -, X34, ⟨Lc34, hQ34, l34, y34, z34⟩, st34⟩ := X33.virtualBack hx (y := (⟨own_s0, "room", "()J"⟩ : MethodName)) (z := (⟨own_s0, "room", "()J"⟩ : MethodName)) hown (mvT hZ (own_w hw 83 rfl)) (mvT hZ (own_w hw 84 rfl)) (notFace_of_selects (args := #[]) (mvT hZ (own_w hw 86 rfl))) (mvT hZ (own_w hw 86 rfl)) (mvT hZ (own_w hw 85 rfl)) (by decide) (backOf (W := 0) (own_room0 l Z a0 hw [] b1 M (0 : Int64) T33.heap n0 Z33 p33_5 p33_3 p33_4) hZ (own_w hw 87 rfl) (own_w hw 14 rfl) (by decide) (by decide)) q34a q34c (g := (mkF m 396 #[.val (.long x0), .second, iv x2, iv x3, iv x4, iv zs, iv sm, iv cc, rv ct, .val (.long M), .second, .val (.long K), .second, .val (.int (K.toInt32)), rv ba, rv bc, iv to, rv b1, rv b3, iv 1, .val (.long (M - K)), .second, .unset, .unset, .unset, .unset] [(.ref b1)])) rfl (by rw [hml]; rfl) (Steps.refl _) (argsL := []) (rest := []) (lenOf pd_27 rfl) rfl (by show 2 * 0 + _ ≤ _; exact Nat.le_of_eq rfl) (hb hby at_396) (fun _ _ => ⟨rfl, rfl, (by decide : 5 + 0 ≤ _), (by decide : 94 + 0 ≤ _)⟩)
    dsimp only [Pt.U, Pt.locs, Pt.cells, Pt.slots] at X34 l34 y34 z34 st34 hQ34
    subst l34 y34 z34
    obtain ⟨rfl, Nq34, e34⟩ := hQ34
    have N34 := Fr.app N33 Nq34
    have go35 : ∀ t, own_S p e below (T34.setTop (mkF m 414 #[.val (.long x0), .second, iv x2, iv x3, iv x4, iv zs, iv sm, iv cc, rv ct, .val (.long M), .second, .val (.long K), .second, .val (.int (K.toInt32)), rv ba, rv bc, iv to, rv b1, rv b3, iv 1, .val (.long (M - K)), .second, .unset, .unset, .unset, .unset] [(.int 1)])) t → Steps p.tables e below st0 t := by
      intro t kt
      refine go27 t ?_
      refine XS.ifYes X25.here hx rfl (pc0 := 311) (pc' := 380) rfl (hb hby at_311) rfl (Jvm.Free.XT.ll_gt_t hc28) (by decide) (by decide) ?_
      refine XS.aload X25.here hx rfl (hb hby at_380) rfl rfl ?_
      refine XS.aload X25.here hx rfl (hb hby at_382) rfl rfl ?_
      refine XS.lload X25.here hx rfl (hb hby at_384) rfl ?_
      show own_S p e below (T25.setTop (mkF m 386 #[.val (.long x0), .second, iv x2, iv x3, iv x4, iv zs, iv sm, iv cc, rv ct, .val (.long M), .second, .val (.long K), .second, .val (.int (K.toInt32)), rv ba, rv bc, iv to, rv b1, rv b3, iv 1, .val (.long (M - K)), .second, .unset, .unset, .unset, .unset] [(.long M), (.ref b3), (.ref b1)])) _
      refine st33.trans ?_
      refine XS.iload X33.here hx rfl (hb hby at_389) rfl ?_
      show own_S p e below (T33.setTop (mkF m 391 #[.val (.long x0), .second, iv x2, iv x3, iv x4, iv zs, iv sm, iv cc, rv ct, .val (.long M), .second, .val (.long K), .second, .val (.int (K.toInt32)), rv ba, rv bc, iv to, rv b1, rv b3, iv 1, .val (.long (M - K)), .second, .unset, .unset, .unset, .unset] [(.int 1)])) _
      refine XS.ifNo X33.here hx rfl (hb hby at_391) rfl ((if0 _ _).trans (feq (by decide : ¬ ((1 : Int32) = (0 : Int32)))).1) ?_
      refine XS.aload X33.here hx rfl (hb hby at_394) rfl rfl ?_
      show own_S p e below (T33.setTop (mkF m 396 #[.val (.long x0), .second, iv x2, iv x3, iv x4, iv zs, iv sm, iv cc, rv ct, .val (.long M), .second, .val (.long K), .second, .val (.int (K.toInt32)), rv ba, rv bc, iv to, rv b1, rv b3, iv 1, .val (.long (M - K)), .second, .unset, .unset, .unset, .unset] [(.ref b1)])) _
      refine st34.trans ?_
      refine XS.lload X34.here hx rfl (hb hby at_399) rfl ?_
      show own_S p e below (T34.setTop (mkF m 401 #[.val (.long x0), .second, iv x2, iv x3, iv x4, iv zs, iv sm, iv cc, rv ct, .val (.long M), .second, .val (.long K), .second, .val (.int (K.toInt32)), rv ba, rv bc, iv to, rv b1, rv b3, iv 1, .val (.long (M - K)), .second, .unset, .unset, .unset, .unset] [(.long M), (.long (M - (0 : Int64)))])) _
      refine XS.lcmp X34.here hx rfl (hb hby at_401) rfl ?_
      show own_S p e below (T34.setTop (mkF m 402 #[.val (.long x0), .second, iv x2, iv x3, iv x4, iv zs, iv sm, iv cc, rv ct, .val (.long M), .second, .val (.long K), .second, .val (.int (K.toInt32)), rv ba, rv bc, iv to, rv b1, rv b3, iv 1, .val (.long (M - K)), .second, .unset, .unset, .unset, .unset] [(.int (lcmpW (M - (0 : Int64)) M))])) _
      refine XS.ifNo X34.here hx rfl (hb hby at_402) rfl (Jvm.Free.XT.ll_ne_f hk21) ?_
      refine XS.iconst X34.here hx rfl (hb hby at_405) ?_
      show own_S p e below (T34.setTop (mkF m 406 #[.val (.long x0), .second, iv x2, iv x3, iv x4, iv zs, iv sm, iv cc, rv ct, .val (.long M), .second, .val (.long K), .second, .val (.int (K.toInt32)), rv ba, rv bc, iv to, rv b1, rv b3, iv 1, .val (.long (M - K)), .second, .unset, .unset, .unset, .unset] [(.int 1)])) _
      refine XS.goto X34.here hx rfl (pc0 := 406) (pc' := 410) rfl (hb hby at_406) (by decide) (by decide) ?_
      show own_S p e below (T34.setTop (mkF m 410 #[.val (.long x0), .second, iv x2, iv x3, iv x4, iv zs, iv sm, iv cc, rv ct, .val (.long M), .second, .val (.long K), .second, .val (.int (K.toInt32)), rv ba, rv bc, iv to, rv b1, rv b3, iv 1, .val (.long (M - K)), .second, .unset, .unset, .unset, .unset] [(.int 1)])) _
      refine XS.istore X34.here hx rfl (hb hby at_410) rfl (l' := #[.val (.long x0), .second, iv x2, iv x3, iv x4, iv zs, iv sm, iv cc, rv ct, .val (.long M), .second, .val (.long K), .second, .val (.int (K.toInt32)), rv ba, rv bc, iv to, rv b1, rv b3, iv 1, .val (.long (M - K)), .second, .unset, .unset, .unset, .unset]) rfl ?_
      refine XS.iload X34.here hx rfl (hb hby at_412) rfl ?_
      show own_S p e below (T34.setTop (mkF m 414 #[.val (.long x0), .second, iv x2, iv x3, iv x4, iv zs, iv sm, iv cc, rv ct, .val (.long M), .second, .val (.long K), .second, .val (.int (K.toInt32)), rv ba, rv bc, iv to, rv b1, rv b3, iv 1, .val (.long (M - K)), .second, .unset, .unset, .unset, .unset] [(.int 1)])) _
      exact kt
    obtain ⟨fs, hr, hrun, hended, hW, hsame⟩ := X34.leave (v := some (.int 1)) (fun h => by rw [hret] at h; cases h) hlk
    refine ⟨_, _, go35 _ ?_, hrun, hended, _, _, rfl, ⟨rfl, N34⟩, ⟨_, rfl⟩, hW, hsame.mono (by decide) (by decide)⟩
    exact retN X34 hx (t := .boolean) hret (by simp) (hb hby at_414) hr
  · skip
    have go36 : ∀ t, own_S p e below (T25.setTop (mkF m 334 #[.val (.long x0), .second, iv x2, iv x3, iv x4, iv zs, iv sm, iv cc, rv ct, .val (.long M), .second, .val (.long K), .second, .val (.int (K.toInt32)), rv ba, rv bc, iv to, rv b1, rv b3, iv 1, .val (.long (M - K)), .second, .val (.long (((M - K) + M) + (1 : Int64))), .second, .unset, .unset] [(.long ((((M - K) + M) + (1 : Int64)) + ((x3 &&& (7 : Int32)).toInt64))), (.long 8)])) t → Steps p.tables e below st0 t := by
      intro t kt
      refine go27 t ?_
      refine XS.ifNo X25.here hx rfl (hb hby at_311) rfl (Jvm.Free.XT.ll_gt_f hc28) ?_
      refine XS.lload X25.here hx rfl (hb hby at_314) rfl ?_
      refine XS.lload X25.here hx rfl (hb hby at_316) rfl ?_
      refine XS.ladd X25.here hx rfl (hb hby at_318) rfl ?_
      show own_S p e below (T25.setTop (mkF m 319 #[.val (.long x0), .second, iv x2, iv x3, iv x4, iv zs, iv sm, iv cc, rv ct, .val (.long M), .second, .val (.long K), .second, .val (.int (K.toInt32)), rv ba, rv bc, iv to, rv b1, rv b3, iv 1, .val (.long (M - K)), .second, .unset, .unset, .unset, .unset] [(.long ((M - K) + M))])) _
      refine XS.lconst X25.here hx rfl (hb hby at_319) ?_
      show own_S p e below (T25.setTop (mkF m 320 #[.val (.long x0), .second, iv x2, iv x3, iv x4, iv zs, iv sm, iv cc, rv ct, .val (.long M), .second, .val (.long K), .second, .val (.int (K.toInt32)), rv ba, rv bc, iv to, rv b1, rv b3, iv 1, .val (.long (M - K)), .second, .unset, .unset, .unset, .unset] [(.long 1), (.long ((M - K) + M))])) _
      refine XS.ladd X25.here hx rfl (hb hby at_320) rfl ?_
      show own_S p e below (T25.setTop (mkF m 321 #[.val (.long x0), .second, iv x2, iv x3, iv x4, iv zs, iv sm, iv cc, rv ct, .val (.long M), .second, .val (.long K), .second, .val (.int (K.toInt32)), rv ba, rv bc, iv to, rv b1, rv b3, iv 1, .val (.long (M - K)), .second, .unset, .unset, .unset, .unset] [(.long (((M - K) + M) + (1 : Int64)))])) _
      refine XS.lstore X25.here hx rfl (hb hby at_321) rfl (l' := #[.val (.long x0), .second, iv x2, iv x3, iv x4, iv zs, iv sm, iv cc, rv ct, .val (.long M), .second, .val (.long K), .second, .val (.int (K.toInt32)), rv ba, rv bc, iv to, rv b1, rv b3, iv 1, .val (.long (M - K)), .second, .val (.long (((M - K) + M) + (1 : Int64))), .second, .unset, .unset]) rfl ?_
      show own_S p e below (T25.setTop (mkF m 323 #[.val (.long x0), .second, iv x2, iv x3, iv x4, iv zs, iv sm, iv cc, rv ct, .val (.long M), .second, .val (.long K), .second, .val (.int (K.toInt32)), rv ba, rv bc, iv to, rv b1, rv b3, iv 1, .val (.long (M - K)), .second, .val (.long (((M - K) + M) + (1 : Int64))), .second, .unset, .unset] [])) _
      refine X25.ldc2Long hx hown (mvT hZ (own_w hw 11 rfl)) (g := (mkF m 323 #[.val (.long x0), .second, iv x2, iv x3, iv x4, iv zs, iv sm, iv cc, rv ct, .val (.long M), .second, .val (.long K), .second, .val (.int (K.toInt32)), rv ba, rv bc, iv to, rv b1, rv b3, iv 1, .val (.long (M - K)), .second, .val (.long (((M - K) + M) + (1 : Int64))), .second, .unset, .unset] [])) rfl (hb hby at_323) _ ?_
      refine XS.lload X25.here hx rfl (hb hby at_326) rfl ?_
      refine XS.iloadN X25.here hx rfl (hb hby at_328) rfl ?_
      refine XS.bipush X25.here hx rfl (hb hby at_329) ?_
      show own_S p e below (T25.setTop (mkF m 331 #[.val (.long x0), .second, iv x2, iv x3, iv x4, iv zs, iv sm, iv cc, rv ct, .val (.long M), .second, .val (.long K), .second, .val (.int (K.toInt32)), rv ba, rv bc, iv to, rv b1, rv b3, iv 1, .val (.long (M - K)), .second, .val (.long (((M - K) + M) + (1 : Int64))), .second, .unset, .unset] [(.int 7), (.int x3), (.long (((M - K) + M) + (1 : Int64))), (.long 8)])) _
      refine XS.iand X25.here hx rfl (hb hby at_331) rfl ?_
      show own_S p e below (T25.setTop (mkF m 332 #[.val (.long x0), .second, iv x2, iv x3, iv x4, iv zs, iv sm, iv cc, rv ct, .val (.long M), .second, .val (.long K), .second, .val (.int (K.toInt32)), rv ba, rv bc, iv to, rv b1, rv b3, iv 1, .val (.long (M - K)), .second, .val (.long (((M - K) + M) + (1 : Int64))), .second, .unset, .unset] [(.int (x3 &&& (7 : Int32))), (.long (((M - K) + M) + (1 : Int64))), (.long 8)])) _
      refine XS.i2l X25.here hx rfl (hb hby at_332) rfl ?_
      refine XS.ladd X25.here hx rfl (hb hby at_333) rfl ?_
      show own_S p e below (T25.setTop (mkF m 334 #[.val (.long x0), .second, iv x2, iv x3, iv x4, iv zs, iv sm, iv cc, rv ct, .val (.long M), .second, .val (.long K), .second, .val (.int (K.toInt32)), rv ba, rv bc, iv to, rv b1, rv b3, iv 1, .val (.long (M - K)), .second, .val (.long (((M - K) + M) + (1 : Int64))), .second, .unset, .unset] [(.long ((((M - K) + M) + (1 : Int64)) + ((x3 &&& (7 : Int32)).toInt64))), (.long 8)])) _
      exact kt
    by_cases hc37 : ((((M - K) + M) + (1 : Int64)) + ((x3 &&& (7 : Int32)).toInt64)) < (8 : Int64)
    · skip
      obtain ⟨_, _, ⟨T38, L38, k38, n38⟩, -, X38, ⟨Lc38, hQ38, l38, y38, z38⟩, st38⟩ := Jvm.LawKit.callS X25 hx (y := (⟨own_s13, "min", "(JJ)J"⟩ : MethodName)) hown (mvT hZ (own_w hw 5 rfl)) (mvT hZ (own_w hw 6 rfl)) (mvT hZ (own_w hw 7 rfl)) (mvT hZ (own_w hw 8 rfl)) (by decide) (backOf (W := 0) (own_minB l Z a0 hw [] (8 : Int64) ((((M - K) + M) + (1 : Int64)) + ((x3 &&& (7 : Int32)).toInt64)) T24.heap n0 Z24 hc37) hZ (own_w hw 8 rfl) (own_w hw 7 rfl) (by decide) (by decide)) (g := (mkF m 334 #[.val (.long x0), .second, iv x2, iv x3, iv x4, iv zs, iv sm, iv cc, rv ct, .val (.long M), .second, .val (.long K), .second, .val (.int (K.toInt32)), rv ba, rv bc, iv to, rv b1, rv b3, iv 1, .val (.long (M - K)), .second, .val (.long (((M - K) + M) + (1 : Int64))), .second, .unset, .unset] [(.long ((((M - K) + M) + (1 : Int64)) + ((x3 &&& (7 : Int32)).toInt64))), (.long 8)])) rfl (by rw [hml]; rfl) (argsL := [(.long 8), (.long ((((M - K) + M) + (1 : Int64)) + ((x3 &&& (7 : Int32)).toInt64)))]) (rest := []) (lenOf pd_33 rfl) rfl (by show 2 * 0 + _ ≤ _; exact Nat.le_of_eq rfl) (hb hby at_334) (fun _ _ => ⟨rfl, e25, (by decide : 5 + 0 ≤ _), (by decide : 94 + 0 ≤ _)⟩)
      dsimp only [Pt.U, Pt.locs, Pt.cells, Pt.slots] at X38 l38 y38 z38 st38 hQ38
      subst l38 y38 z38
      obtain ⟨rfl, Nq38, e38⟩ := hQ38
      have N38 := Fr.app N25 Nq38
      have f39 := (f22.keep Kc24 (allS (P := fun x => ∀ c, T19.heap[x]? = some c → c.vm.isStatics = false) (own_nost p19_0) all0))
      have f40 : Arv Z T24.heap bc kc .char (8 : Int32) [(.int 120), (.int 120), (.int 120), (.int 120), (.int 120), (.int 120), (.int 120), (.int 120)] (.int 0) := ((((f5.ext E3).keep Kc6 (ninS ne3_bc nin0)).keep Kc19 (ninS ne1_bc nin0)).keep Kc24 (ninS ne1_bc nin0))
      have f41 := ((p6_0.keep Kc19).keep Kc24)
      have f42 := ((p6_1.keep Kc19 (ninS (Ne.symm ne3_b1) nin0)).keep Kc24 (ninS (Ne.symm ne3_b1) nin0))
      have f43 := ((p6_2.keep Kc19 (ninS (Ne.symm ne3_b1) nin0)).keep Kc24 (ninS (Ne.symm ne3_b1) nin0))
      have go45 : ∀ t, own_S p e below (T38.setTop (mkF m 340 #[.val (.long x0), .second, iv x2, iv x3, iv x4, iv zs, iv sm, iv cc, rv ct, .val (.long M), .second, .val (.long K), .second, .val (.int (K.toInt32)), rv ba, rv bc, iv to, rv b1, rv b3, iv 1, .val (.long (M - K)), .second, .val (.long (((M - K) + M) + (1 : Int64))), .second, .val (.int (((((M - K) + M) + (1 : Int64)) + ((x3 &&& (7 : Int32)).toInt64)).toInt32)), .unset] [])) t → Steps p.tables e below st0 t := by
        intro t kt
        refine go36 t ?_
        refine st38 _ ?_
        show own_S p e below (T38.setTop (mkF m 337 #[.val (.long x0), .second, iv x2, iv x3, iv x4, iv zs, iv sm, iv cc, rv ct, .val (.long M), .second, .val (.long K), .second, .val (.int (K.toInt32)), rv ba, rv bc, iv to, rv b1, rv b3, iv 1, .val (.long (M - K)), .second, .val (.long (((M - K) + M) + (1 : Int64))), .second, .unset, .unset] [(.long ((((M - K) + M) + (1 : Int64)) + ((x3 &&& (7 : Int32)).toInt64)))])) _
        refine XS.l2i X38.here hx rfl (hb hby at_337) rfl ?_
        show own_S p e below (T38.setTop (mkF m 338 #[.val (.long x0), .second, iv x2, iv x3, iv x4, iv zs, iv sm, iv cc, rv ct, .val (.long M), .second, .val (.long K), .second, .val (.int (K.toInt32)), rv ba, rv bc, iv to, rv b1, rv b3, iv 1, .val (.long (M - K)), .second, .val (.long (((M - K) + M) + (1 : Int64))), .second, .unset, .unset] [(.int (((((M - K) + M) + (1 : Int64)) + ((x3 &&& (7 : Int32)).toInt64)).toInt32))])) _
        refine XS.istore X38.here hx rfl (hb hby at_338) rfl (l' := #[.val (.long x0), .second, iv x2, iv x3, iv x4, iv zs, iv sm, iv cc, rv ct, .val (.long M), .second, .val (.long K), .second, .val (.int (K.toInt32)), rv ba, rv bc, iv to, rv b1, rv b3, iv 1, .val (.long (M - K)), .second, .val (.long (((M - K) + M) + (1 : Int64))), .second, .val (.int (((((M - K) + M) + (1 : Int64)) + ((x3 &&& (7 : Int32)).toInt64)).toInt32)), .unset]) rfl ?_
        show own_S p e below (T38.setTop (mkF m 340 #[.val (.long x0), .second, iv x2, iv x3, iv x4, iv zs, iv sm, iv cc, rv ct, .val (.long M), .second, .val (.long K), .second, .val (.int (K.toInt32)), rv ba, rv bc, iv to, rv b1, rv b3, iv 1, .val (.long (M - K)), .second, .val (.long (((M - K) + M) + (1 : Int64))), .second, .val (.int (((((M - K) + M) + (1 : Int64)) + ((x3 &&& (7 : Int32)).toInt64)).toInt32)), .unset] [])) _
        exact kt
      obtain ⟨s₂, o₂, hs₂, hr₂⟩ := own_t340 x0 x2 x3 x4 zs sm cc ct M K ba bc to b1 b3 (((((M - K) + M) + (1 : Int64)) + ((x3 &&& (7 : Int32)).toInt64)).toInt32) ev ns sg phS phF phA phD co y24_0 (nar .boolean (nar .boolean (nar .boolean zs))) kc (nar .boolean zs) X38 hx hZ hw hby hml hown e38 N38 Z24 hret hlk f39 P1 p24_0 p24_1 p24_2 p24_3 p24_4 p24_5 p24_6 p24_7 p24_8 p24_9 p24_10 P5 p24_11 f40 ne1_bc f41 f42 f43 (Ne.symm ne3_b1) ge1 (own_nB x3 (own_D P8 P9 P10 hc28)) P8 P9 P10 hc28
      exact ⟨s₂, o₂, go45 _ hs₂, hr₂⟩
    · skip
      obtain ⟨_, _, ⟨T46, L46, k46, n46⟩, -, X46, ⟨Lc46, hQ46, l46, y46, z46⟩, st46⟩ := Jvm.LawKit.callS X25 hx (y := (⟨own_s13, "min", "(JJ)J"⟩ : MethodName)) hown (mvT hZ (own_w hw 5 rfl)) (mvT hZ (own_w hw 6 rfl)) (mvT hZ (own_w hw 7 rfl)) (mvT hZ (own_w hw 8 rfl)) (by decide) (backOf (W := 0) (own_minA l Z a0 hw [] (8 : Int64) ((((M - K) + M) + (1 : Int64)) + ((x3 &&& (7 : Int32)).toInt64)) T24.heap n0 Z24 hc37) hZ (own_w hw 8 rfl) (own_w hw 7 rfl) (by decide) (by decide)) (g := (mkF m 334 #[.val (.long x0), .second, iv x2, iv x3, iv x4, iv zs, iv sm, iv cc, rv ct, .val (.long M), .second, .val (.long K), .second, .val (.int (K.toInt32)), rv ba, rv bc, iv to, rv b1, rv b3, iv 1, .val (.long (M - K)), .second, .val (.long (((M - K) + M) + (1 : Int64))), .second, .unset, .unset] [(.long ((((M - K) + M) + (1 : Int64)) + ((x3 &&& (7 : Int32)).toInt64))), (.long 8)])) rfl (by rw [hml]; rfl) (argsL := [(.long 8), (.long ((((M - K) + M) + (1 : Int64)) + ((x3 &&& (7 : Int32)).toInt64)))]) (rest := []) (lenOf pd_33 rfl) rfl (by show 2 * 0 + _ ≤ _; exact Nat.le_of_eq rfl) (hb hby at_334) (fun _ _ => ⟨rfl, e25, (by decide : 5 + 0 ≤ _), (by decide : 94 + 0 ≤ _)⟩)
      dsimp only [Pt.U, Pt.locs, Pt.cells, Pt.slots] at X46 l46 y46 z46 st46 hQ46
      subst l46 y46 z46
      obtain ⟨rfl, Nq46, e46⟩ := hQ46
      have N46 := Fr.app N25 Nq46
      have f47 := (f22.keep Kc24 (allS (P := fun x => ∀ c, T19.heap[x]? = some c → c.vm.isStatics = false) (own_nost p19_0) all0))
      have f48 : Arv Z T24.heap bc kc .char (8 : Int32) [(.int 120), (.int 120), (.int 120), (.int 120), (.int 120), (.int 120), (.int 120), (.int 120)] (.int 0) := ((((f5.ext E3).keep Kc6 (ninS ne3_bc nin0)).keep Kc19 (ninS ne1_bc nin0)).keep Kc24 (ninS ne1_bc nin0))
      have f49 := ((p6_0.keep Kc19).keep Kc24)
      have f50 := ((p6_1.keep Kc19 (ninS (Ne.symm ne3_b1) nin0)).keep Kc24 (ninS (Ne.symm ne3_b1) nin0))
      have f51 := ((p6_2.keep Kc19 (ninS (Ne.symm ne3_b1) nin0)).keep Kc24 (ninS (Ne.symm ne3_b1) nin0))
      have go53 : ∀ t, own_S p e below (T46.setTop (mkF m 340 #[.val (.long x0), .second, iv x2, iv x3, iv x4, iv zs, iv sm, iv cc, rv ct, .val (.long M), .second, .val (.long K), .second, .val (.int (K.toInt32)), rv ba, rv bc, iv to, rv b1, rv b3, iv 1, .val (.long (M - K)), .second, .val (.long (((M - K) + M) + (1 : Int64))), .second, iv 8, .unset] [])) t → Steps p.tables e below st0 t := by
        intro t kt
        refine go36 t ?_
        refine st46 _ ?_
        show own_S p e below (T46.setTop (mkF m 337 #[.val (.long x0), .second, iv x2, iv x3, iv x4, iv zs, iv sm, iv cc, rv ct, .val (.long M), .second, .val (.long K), .second, .val (.int (K.toInt32)), rv ba, rv bc, iv to, rv b1, rv b3, iv 1, .val (.long (M - K)), .second, .val (.long (((M - K) + M) + (1 : Int64))), .second, .unset, .unset] [(.long 8)])) _
        refine XS.l2i X46.here hx rfl (hb hby at_337) rfl ?_
        show own_S p e below (T46.setTop (mkF m 338 #[.val (.long x0), .second, iv x2, iv x3, iv x4, iv zs, iv sm, iv cc, rv ct, .val (.long M), .second, .val (.long K), .second, .val (.int (K.toInt32)), rv ba, rv bc, iv to, rv b1, rv b3, iv 1, .val (.long (M - K)), .second, .val (.long (((M - K) + M) + (1 : Int64))), .second, .unset, .unset] [(.int 8)])) _
        refine XS.istore X46.here hx rfl (hb hby at_338) rfl (l' := #[.val (.long x0), .second, iv x2, iv x3, iv x4, iv zs, iv sm, iv cc, rv ct, .val (.long M), .second, .val (.long K), .second, .val (.int (K.toInt32)), rv ba, rv bc, iv to, rv b1, rv b3, iv 1, .val (.long (M - K)), .second, .val (.long (((M - K) + M) + (1 : Int64))), .second, iv 8, .unset]) rfl ?_
        show own_S p e below (T46.setTop (mkF m 340 #[.val (.long x0), .second, iv x2, iv x3, iv x4, iv zs, iv sm, iv cc, rv ct, .val (.long M), .second, .val (.long K), .second, .val (.int (K.toInt32)), rv ba, rv bc, iv to, rv b1, rv b3, iv 1, .val (.long (M - K)), .second, .val (.long (((M - K) + M) + (1 : Int64))), .second, iv 8, .unset] [])) _
        exact kt
      obtain ⟨s₂, o₂, hs₂, hr₂⟩ := own_t340 x0 x2 x3 x4 zs sm cc ct M K ba bc to b1 b3 (8 : Int32) ev ns sg phS phF phA phD co y24_0 (nar .boolean (nar .boolean (nar .boolean zs))) kc (nar .boolean zs) X46 hx hZ hw hby hml hown e46 N46 Z24 hret hlk f47 P1 p24_0 p24_1 p24_2 p24_3 p24_4 p24_5 p24_6 p24_7 p24_8 p24_9 p24_10 P5 p24_11 f48 ne1_bc f49 f50 f51 (Ne.symm ne3_b1) ge1 (own_nA (own_D P8 P9 P10 hc28)) P8 P9 P10 hc28
      exact ⟨s₂, o₂, go53 _ hs₂, hr₂⟩
set_option maxRecDepth 65536 in
set_option maxHeartbeats 40000000 in
theorem own_t98 {p : Program} {l : Launch} {e : Env} {s : State} {m : MethodId} {args : Array Value} {below : List Frame} {meth : Method} {c : Code} {T0 : State} {locs : List Loc} {Z : State} {a0 : Array Value} {h0 : Heap} {n0 : Nat} (x0 : Int64) (x2 : Int32) (x3 : Int32) (x4 : Int32) (zs : Int32) (sm : Int32) (cc : Int32) (ct : Addr) (M : Int64) (K : Int64) (ev : Addr) (ns : Addr) (sg : Addr) (phS : Addr) (phF : Addr) (phA : Addr) (phD : Addr) (co : Addr) (X0 : Stand p l e room_1 s m args below meth c T0 locs 0 0) (hx : p.tables.exec = Jvm.exec) (hZ : Z.Warmed39 s.vm) (hw : ∀ d ∈ tables_1, d.before a0 Z = true) (hby : c.code = code) (hml : c.maxLocals = 26) (hown : s.vm.findClass own_s11 = some m.cls) (e0 : T0.heap = h0) (N0 : Fr n0 locs) (Z0 : n0 ≤ h0.size) (hret : meth.sig.returnType = some .boolean) (hlk : meth.locks = false) (P0 : own_ST Z h0 ev ns sg phS phF phA phD co) (P1 : own_NN ev ns sg phS phF phA phD co) (P2 : ct = ev ∨ ct = ns ∨ ct = sg) (P3 : ¬ (M < (0 : Int64))) (P4 : ¬ (K < (0 : Int64))) (P5 : ¬ (M < K)) (P6 : ((K.toInt32).toInt64) = K) :
    ∃ s₂ o, own_S p e below (T0.setTop (mkF m 98 #[.val (.long x0), .second, iv x2, iv x3, iv x4, iv zs, iv sm, iv cc, rv ct, .val (.long M), .second, .unset, .unset, .unset, .unset, .unset, .unset, .unset, .unset, .unset, .unset, .unset, .unset, .unset, .unset, .unset] [(.long K)])) s₂ ∧ s₂.status = .running ∧ Ended s₂ below o ∧ ∃ v L, o = .returned v ∧ (v = some (.int 1) ∧ Fr n0 L) ∧ FrameEnd s o s₂ L room_1.cells room_1.slots := by
  obtain ⟨st0, hst0⟩ : ∃ zst, zst = T0.setTop (mkF m 98 #[.val (.long x0), .second, iv x2, iv x3, iv x4, iv zs, iv sm, iv cc, rv ct, .val (.long M), .second, .unset, .unset, .unset, .unset, .unset, .unset, .unset, .unset, .unset, .unset, .unset, .unset, .unset, .unset, .unset] [(.long K)]) := ⟨_, rfl⟩
  have go0 : ∀ t, own_S p e below (T0.setTop (mkF m 98 #[.val (.long x0), .second, iv x2, iv x3, iv x4, iv zs, iv sm, iv cc, rv ct, .val (.long M), .second, .unset, .unset, .unset, .unset, .unset, .unset, .unset, .unset, .unset, .unset, .unset, .unset, .unset, .unset, .unset] [(.long K)])) t → Steps p.tables e below st0 t := fun t k => by rw [hst0]; exact k
  rw [← hst0]
  obtain ⟨T1, h1, k1, X1, e1, E1, A1, st1⟩ := newP X0 hx hZ (own_w hw 9 rfl) e0 (g := (mkF m 107 #[.val (.long x0), .second, iv x2, iv x3, iv x4, iv zs, iv sm, iv cc, rv ct, .val (.long M), .second, .val (.long K), .second, .val (.int (K.toInt32)), .unset, .unset, .unset, .unset, .unset, .unset, .unset, .unset, .unset, .unset, .unset, .unset] [(.int 8)])) rfl (hb hby at_107) rfl (by decide) (cap := 8) (by decide) (by decide) (by decide) (by decide)
  obtain ⟨b1, g1⟩ : ∃ zsz, zsz = h0.size := ⟨_, rfl⟩
  rw [← g1] at A1 st1
  have ge1 : n0 ≤ b1 := Nat.le_trans Z0 (Nat.le_of_eq g1.symm)
  have Z1 : n0 ≤ h1.size := Nat.le_trans Z0 E1.1
  have V1 : Arv Z h1 b1 k1 .byte (8 : Int32) [(.int 0), (.int 0), (.int 0), (.int 0), (.int 0), (.int 0), (.int 0), (.int 0)] (.int 0) := (Arv.new A1 (by decide)).pad (pad_rep [] (.int 0) 8)
  obtain ⟨cl2, Ar2, q2, S2, N2, H2, G2⟩ := id V1
  have hin2 : ¬ ((0 : Int32) < 0 ∨ cl2.slots.size ≤ ((0 : Int32)).toNatClampNeg) := inb_of S2 ⟨by decide, by decide⟩
  obtain ⟨T3, h3, X3, e3, W3, st3⟩ := stB X1 hx hZ e1 Ar2 (j := (0 : Int32)) hin2 (g := (mkF m 113 #[.val (.long x0), .second, iv x2, iv x3, iv x4, iv zs, iv sm, iv cc, rv ct, .val (.long M), .second, .val (.long K), .second, .val (.int (K.toInt32)), .unset, .unset, .unset, .unset, .unset, .unset, .unset, .unset, .unset, .unset, .unset, .unset] [(.int 120), (.int 0), (.ref b1), (.ref b1)])) rfl rfl (hb hby at_113)
  have N3 := Fr.snoc X3 N0 ge1
  have Z3 : n0 ≤ h3.size := Nat.le_trans Z1 (Keep.of_wr W3).1
  have V3 : Arv Z h3 b1 k1 .byte (8 : Int32) [(.int 120), (.int 0), (.int 0), (.int 0), (.int 0), (.int 0), (.int 0), (.int 0)] (.int 0) := Arv.set Ar2 q2 S2 N2 H2 G2 (by decide) W3 0 rfl (Nat.le_of_ble_eq_true rfl)
  obtain ⟨cl4, Ar4, q4, S4, N4, H4, G4⟩ := id V3
  have hin4 : ¬ ((1 : Int32) < 0 ∨ cl4.slots.size ≤ ((1 : Int32)).toNatClampNeg) := inb_of S4 ⟨by decide, by decide⟩
  obtain ⟨T5, h5, X5, e5, W5, st5⟩ := stB X3 hx hZ e3 Ar4 (j := (1 : Int32)) hin4 (g := (mkF m 118 #[.val (.long x0), .second, iv x2, iv x3, iv x4, iv zs, iv sm, iv cc, rv ct, .val (.long M), .second, .val (.long K), .second, .val (.int (K.toInt32)), .unset, .unset, .unset, .unset, .unset, .unset, .unset, .unset, .unset, .unset, .unset, .unset] [(.int 120), (.int 1), (.ref b1), (.ref b1)])) rfl rfl (hb hby at_118)
  have N5 := Fr.snoc X5 N3 ge1
  have Z5 : n0 ≤ h5.size := Nat.le_trans Z3 (Keep.of_wr W5).1
  have V5 : Arv Z h5 b1 k1 .byte (8 : Int32) [(.int 120), (.int 120), (.int 0), (.int 0), (.int 0), (.int 0), (.int 0), (.int 0)] (.int 0) := Arv.set Ar4 q4 S4 N4 H4 G4 (by decide) W5 1 rfl (Nat.le_of_ble_eq_true rfl)
  obtain ⟨cl6, Ar6, q6, S6, N6, H6, G6⟩ := id V5
  have hin6 : ¬ ((2 : Int32) < 0 ∨ cl6.slots.size ≤ ((2 : Int32)).toNatClampNeg) := inb_of S6 ⟨by decide, by decide⟩
  obtain ⟨T7, h7, X7, e7, W7, st7⟩ := stB X5 hx hZ e5 Ar6 (j := (2 : Int32)) hin6 (g := (mkF m 123 #[.val (.long x0), .second, iv x2, iv x3, iv x4, iv zs, iv sm, iv cc, rv ct, .val (.long M), .second, .val (.long K), .second, .val (.int (K.toInt32)), .unset, .unset, .unset, .unset, .unset, .unset, .unset, .unset, .unset, .unset, .unset, .unset] [(.int 120), (.int 2), (.ref b1), (.ref b1)])) rfl rfl (hb hby at_123)
  have N7 := Fr.snoc X7 N5 ge1
  have Z7 : n0 ≤ h7.size := Nat.le_trans Z5 (Keep.of_wr W7).1
  have V7 : Arv Z h7 b1 k1 .byte (8 : Int32) [(.int 120), (.int 120), (.int 120), (.int 0), (.int 0), (.int 0), (.int 0), (.int 0)] (.int 0) := Arv.set Ar6 q6 S6 N6 H6 G6 (by decide) W7 2 rfl (Nat.le_of_ble_eq_true rfl)
  obtain ⟨cl8, Ar8, q8, S8, N8, H8, G8⟩ := id V7
  have hin8 : ¬ ((3 : Int32) < 0 ∨ cl8.slots.size ≤ ((3 : Int32)).toNatClampNeg) := inb_of S8 ⟨by decide, by decide⟩
  obtain ⟨T9, h9, X9, e9, W9, st9⟩ := stB X7 hx hZ e7 Ar8 (j := (3 : Int32)) hin8 (g := (mkF m 128 #[.val (.long x0), .second, iv x2, iv x3, iv x4, iv zs, iv sm, iv cc, rv ct, .val (.long M), .second, .val (.long K), .second, .val (.int (K.toInt32)), .unset, .unset, .unset, .unset, .unset, .unset, .unset, .unset, .unset, .unset, .unset, .unset] [(.int 120), (.int 3), (.ref b1), (.ref b1)])) rfl rfl (hb hby at_128)
  have N9 := Fr.snoc X9 N7 ge1
  have Z9 : n0 ≤ h9.size := Nat.le_trans Z7 (Keep.of_wr W9).1
  have V9 : Arv Z h9 b1 k1 .byte (8 : Int32) [(.int 120), (.int 120), (.int 120), (.int 120), (.int 0), (.int 0), (.int 0), (.int 0)] (.int 0) := Arv.set Ar8 q8 S8 N8 H8 G8 (by decide) W9 3 rfl (Nat.le_of_ble_eq_true rfl)
  obtain ⟨cl10, Ar10, q10, S10, N10, H10, G10⟩ := id V9
  have hin10 : ¬ ((4 : Int32) < 0 ∨ cl10.slots.size ≤ ((4 : Int32)).toNatClampNeg) := inb_of S10 ⟨by decide, by decide⟩
  obtain ⟨T11, h11, X11, e11, W11, st11⟩ := stB X9 hx hZ e9 Ar10 (j := (4 : Int32)) hin10 (g := (mkF m 133 #[.val (.long x0), .second, iv x2, iv x3, iv x4, iv zs, iv sm, iv cc, rv ct, .val (.long M), .second, .val (.long K), .second, .val (.int (K.toInt32)), .unset, .unset, .unset, .unset, .unset, .unset, .unset, .unset, .unset, .unset, .unset, .unset] [(.int 120), (.int 4), (.ref b1), (.ref b1)])) rfl rfl (hb hby at_133)
  have N11 := Fr.snoc X11 N9 ge1
  have Z11 : n0 ≤ h11.size := Nat.le_trans Z9 (Keep.of_wr W11).1
  have V11 : Arv Z h11 b1 k1 .byte (8 : Int32) [(.int 120), (.int 120), (.int 120), (.int 120), (.int 120), (.int 0), (.int 0), (.int 0)] (.int 0) := Arv.set Ar10 q10 S10 N10 H10 G10 (by decide) W11 4 rfl (Nat.le_of_ble_eq_true rfl)
  obtain ⟨cl12, Ar12, q12, S12, N12, H12, G12⟩ := id V11
  have hin12 : ¬ ((5 : Int32) < 0 ∨ cl12.slots.size ≤ ((5 : Int32)).toNatClampNeg) := inb_of S12 ⟨by decide, by decide⟩
  obtain ⟨T13, h13, X13, e13, W13, st13⟩ := stB X11 hx hZ e11 Ar12 (j := (5 : Int32)) hin12 (g := (mkF m 138 #[.val (.long x0), .second, iv x2, iv x3, iv x4, iv zs, iv sm, iv cc, rv ct, .val (.long M), .second, .val (.long K), .second, .val (.int (K.toInt32)), .unset, .unset, .unset, .unset, .unset, .unset, .unset, .unset, .unset, .unset, .unset, .unset] [(.int 120), (.int 5), (.ref b1), (.ref b1)])) rfl rfl (hb hby at_138)
  have N13 := Fr.snoc X13 N11 ge1
  have Z13 : n0 ≤ h13.size := Nat.le_trans Z11 (Keep.of_wr W13).1
  have V13 : Arv Z h13 b1 k1 .byte (8 : Int32) [(.int 120), (.int 120), (.int 120), (.int 120), (.int 120), (.int 120), (.int 0), (.int 0)] (.int 0) := Arv.set Ar12 q12 S12 N12 H12 G12 (by decide) W13 5 rfl (Nat.le_of_ble_eq_true rfl)
  obtain ⟨cl14, Ar14, q14, S14, N14, H14, G14⟩ := id V13
  have hin14 : ¬ ((6 : Int32) < 0 ∨ cl14.slots.size ≤ ((6 : Int32)).toNatClampNeg) := inb_of S14 ⟨by decide, by decide⟩
  obtain ⟨T15, h15, X15, e15, W15, st15⟩ := stB X13 hx hZ e13 Ar14 (j := (6 : Int32)) hin14 (g := (mkF m 144 #[.val (.long x0), .second, iv x2, iv x3, iv x4, iv zs, iv sm, iv cc, rv ct, .val (.long M), .second, .val (.long K), .second, .val (.int (K.toInt32)), .unset, .unset, .unset, .unset, .unset, .unset, .unset, .unset, .unset, .unset, .unset, .unset] [(.int 120), (.int 6), (.ref b1), (.ref b1)])) rfl rfl (hb hby at_144)
  have N15 := Fr.snoc X15 N13 ge1
  have Z15 : n0 ≤ h15.size := Nat.le_trans Z13 (Keep.of_wr W15).1
  have V15 : Arv Z h15 b1 k1 .byte (8 : Int32) [(.int 120), (.int 120), (.int 120), (.int 120), (.int 120), (.int 120), (.int 120), (.int 0)] (.int 0) := Arv.set Ar14 q14 S14 N14 H14 G14 (by decide) W15 6 rfl (Nat.le_of_ble_eq_true rfl)
  obtain ⟨cl16, Ar16, q16, S16, N16, H16, G16⟩ := id V15
  have hin16 : ¬ ((7 : Int32) < 0 ∨ cl16.slots.size ≤ ((7 : Int32)).toNatClampNeg) := inb_of S16 ⟨by decide, by decide⟩
  obtain ⟨T17, h17, X17, e17, W17, st17⟩ := stB X15 hx hZ e15 Ar16 (j := (7 : Int32)) hin16 (g := (mkF m 150 #[.val (.long x0), .second, iv x2, iv x3, iv x4, iv zs, iv sm, iv cc, rv ct, .val (.long M), .second, .val (.long K), .second, .val (.int (K.toInt32)), .unset, .unset, .unset, .unset, .unset, .unset, .unset, .unset, .unset, .unset, .unset, .unset] [(.int 120), (.int 7), (.ref b1), (.ref b1)])) rfl rfl (hb hby at_150)
  have N17 := Fr.snoc X17 N15 ge1
  have Z17 : n0 ≤ h17.size := Nat.le_trans Z15 (Keep.of_wr W17).1
  have V17 : Arv Z h17 b1 k1 .byte (8 : Int32) [(.int 120), (.int 120), (.int 120), (.int 120), (.int 120), (.int 120), (.int 120), (.int 120)] (.int 0) := Arv.set Ar16 q16 S16 N16 H16 G16 (by decide) W17 7 rfl (Nat.le_of_ble_eq_true rfl)
  obtain ⟨T18, h18, k18, X18, e18, E18, A18, st18⟩ := newP X17 hx hZ (own_w hw 10 rfl) e17 (g := (mkF m 155 #[.val (.long x0), .second, iv x2, iv x3, iv x4, iv zs, iv sm, iv cc, rv ct, .val (.long M), .second, .val (.long K), .second, .val (.int (K.toInt32)), rv b1, .unset, .unset, .unset, .unset, .unset, .unset, .unset, .unset, .unset, .unset, .unset] [(.int 8)])) rfl (hb hby at_155) rfl (by decide) (cap := 8) (by decide) (by decide) (by decide) (by decide)
  obtain ⟨b18, g18⟩ : ∃ zsz, zsz = h17.size := ⟨_, rfl⟩
  rw [← g18] at A18 st18
  have ne18_b1 : b1 ≠ b18 := Nat.ne_of_lt (Nat.lt_of_lt_of_eq V17.lt g18.symm)
  have ge18 : n0 ≤ b18 := Nat.le_trans Z17 (Nat.le_of_eq g18.symm)
  have Z18 : n0 ≤ h18.size := Nat.le_trans Z17 E18.1
  have V18 : Arv Z h18 b18 k18 .char (8 : Int32) [(.int 0), (.int 0), (.int 0), (.int 0), (.int 0), (.int 0), (.int 0), (.int 0)] (.int 0) := (Arv.new A18 (by decide)).pad (pad_rep [] (.int 0) 8)
  obtain ⟨cl19, Ar19, q19, S19, N19, H19, G19⟩ := id V18
  have hin19 : ¬ ((0 : Int32) < 0 ∨ cl19.slots.size ≤ ((0 : Int32)).toNatClampNeg) := inb_of S19 ⟨by decide, by decide⟩
  obtain ⟨T20, h20, X20, e20, W20, st20⟩ := stC X18 hx hZ e18 Ar19 (j := (0 : Int32)) hin19 (g := (mkF m 161 #[.val (.long x0), .second, iv x2, iv x3, iv x4, iv zs, iv sm, iv cc, rv ct, .val (.long M), .second, .val (.long K), .second, .val (.int (K.toInt32)), rv b1, .unset, .unset, .unset, .unset, .unset, .unset, .unset, .unset, .unset, .unset, .unset] [(.int 120), (.int 0), (.ref b18), (.ref b18)])) rfl rfl (hb hby at_161)
  have N20 := Fr.snoc X20 N17 ge18
  have Z20 : n0 ≤ h20.size := Nat.le_trans Z18 (Keep.of_wr W20).1
  have V20 : Arv Z h20 b18 k18 .char (8 : Int32) [(.int 120), (.int 0), (.int 0), (.int 0), (.int 0), (.int 0), (.int 0), (.int 0)] (.int 0) := Arv.set Ar19 q19 S19 N19 H19 G19 (by decide) W20 0 rfl (Nat.le_of_ble_eq_true rfl)
  obtain ⟨cl21, Ar21, q21, S21, N21, H21, G21⟩ := id V20
  have hin21 : ¬ ((1 : Int32) < 0 ∨ cl21.slots.size ≤ ((1 : Int32)).toNatClampNeg) := inb_of S21 ⟨by decide, by decide⟩
  obtain ⟨T22, h22, X22, e22, W22, st22⟩ := stC X20 hx hZ e20 Ar21 (j := (1 : Int32)) hin21 (g := (mkF m 166 #[.val (.long x0), .second, iv x2, iv x3, iv x4, iv zs, iv sm, iv cc, rv ct, .val (.long M), .second, .val (.long K), .second, .val (.int (K.toInt32)), rv b1, .unset, .unset, .unset, .unset, .unset, .unset, .unset, .unset, .unset, .unset, .unset] [(.int 120), (.int 1), (.ref b18), (.ref b18)])) rfl rfl (hb hby at_166)
  have N22 := Fr.snoc X22 N20 ge18
  have Z22 : n0 ≤ h22.size := Nat.le_trans Z20 (Keep.of_wr W22).1
  have V22 : Arv Z h22 b18 k18 .char (8 : Int32) [(.int 120), (.int 120), (.int 0), (.int 0), (.int 0), (.int 0), (.int 0), (.int 0)] (.int 0) := Arv.set Ar21 q21 S21 N21 H21 G21 (by decide) W22 1 rfl (Nat.le_of_ble_eq_true rfl)
  obtain ⟨cl23, Ar23, q23, S23, N23, H23, G23⟩ := id V22
  have hin23 : ¬ ((2 : Int32) < 0 ∨ cl23.slots.size ≤ ((2 : Int32)).toNatClampNeg) := inb_of S23 ⟨by decide, by decide⟩
  obtain ⟨T24, h24, X24, e24, W24, st24⟩ := stC X22 hx hZ e22 Ar23 (j := (2 : Int32)) hin23 (g := (mkF m 171 #[.val (.long x0), .second, iv x2, iv x3, iv x4, iv zs, iv sm, iv cc, rv ct, .val (.long M), .second, .val (.long K), .second, .val (.int (K.toInt32)), rv b1, .unset, .unset, .unset, .unset, .unset, .unset, .unset, .unset, .unset, .unset, .unset] [(.int 120), (.int 2), (.ref b18), (.ref b18)])) rfl rfl (hb hby at_171)
  have N24 := Fr.snoc X24 N22 ge18
  have Z24 : n0 ≤ h24.size := Nat.le_trans Z22 (Keep.of_wr W24).1
  have V24 : Arv Z h24 b18 k18 .char (8 : Int32) [(.int 120), (.int 120), (.int 120), (.int 0), (.int 0), (.int 0), (.int 0), (.int 0)] (.int 0) := Arv.set Ar23 q23 S23 N23 H23 G23 (by decide) W24 2 rfl (Nat.le_of_ble_eq_true rfl)
  obtain ⟨cl25, Ar25, q25, S25, N25, H25, G25⟩ := id V24
  have hin25 : ¬ ((3 : Int32) < 0 ∨ cl25.slots.size ≤ ((3 : Int32)).toNatClampNeg) := inb_of S25 ⟨by decide, by decide⟩
  obtain ⟨T26, h26, X26, e26, W26, st26⟩ := stC X24 hx hZ e24 Ar25 (j := (3 : Int32)) hin25 (g := (mkF m 176 #[.val (.long x0), .second, iv x2, iv x3, iv x4, iv zs, iv sm, iv cc, rv ct, .val (.long M), .second, .val (.long K), .second, .val (.int (K.toInt32)), rv b1, .unset, .unset, .unset, .unset, .unset, .unset, .unset, .unset, .unset, .unset, .unset] [(.int 120), (.int 3), (.ref b18), (.ref b18)])) rfl rfl (hb hby at_176)
  have N26 := Fr.snoc X26 N24 ge18
  have Z26 : n0 ≤ h26.size := Nat.le_trans Z24 (Keep.of_wr W26).1
  have V26 : Arv Z h26 b18 k18 .char (8 : Int32) [(.int 120), (.int 120), (.int 120), (.int 120), (.int 0), (.int 0), (.int 0), (.int 0)] (.int 0) := Arv.set Ar25 q25 S25 N25 H25 G25 (by decide) W26 3 rfl (Nat.le_of_ble_eq_true rfl)
  obtain ⟨cl27, Ar27, q27, S27, N27, H27, G27⟩ := id V26
  have hin27 : ¬ ((4 : Int32) < 0 ∨ cl27.slots.size ≤ ((4 : Int32)).toNatClampNeg) := inb_of S27 ⟨by decide, by decide⟩
  obtain ⟨T28, h28, X28, e28, W28, st28⟩ := stC X26 hx hZ e26 Ar27 (j := (4 : Int32)) hin27 (g := (mkF m 181 #[.val (.long x0), .second, iv x2, iv x3, iv x4, iv zs, iv sm, iv cc, rv ct, .val (.long M), .second, .val (.long K), .second, .val (.int (K.toInt32)), rv b1, .unset, .unset, .unset, .unset, .unset, .unset, .unset, .unset, .unset, .unset, .unset] [(.int 120), (.int 4), (.ref b18), (.ref b18)])) rfl rfl (hb hby at_181)
  have N28 := Fr.snoc X28 N26 ge18
  have Z28 : n0 ≤ h28.size := Nat.le_trans Z26 (Keep.of_wr W28).1
  have V28 : Arv Z h28 b18 k18 .char (8 : Int32) [(.int 120), (.int 120), (.int 120), (.int 120), (.int 120), (.int 0), (.int 0), (.int 0)] (.int 0) := Arv.set Ar27 q27 S27 N27 H27 G27 (by decide) W28 4 rfl (Nat.le_of_ble_eq_true rfl)
  obtain ⟨cl29, Ar29, q29, S29, N29, H29, G29⟩ := id V28
  have hin29 : ¬ ((5 : Int32) < 0 ∨ cl29.slots.size ≤ ((5 : Int32)).toNatClampNeg) := inb_of S29 ⟨by decide, by decide⟩
  obtain ⟨T30, h30, X30, e30, W30, st30⟩ := stC X28 hx hZ e28 Ar29 (j := (5 : Int32)) hin29 (g := (mkF m 186 #[.val (.long x0), .second, iv x2, iv x3, iv x4, iv zs, iv sm, iv cc, rv ct, .val (.long M), .second, .val (.long K), .second, .val (.int (K.toInt32)), rv b1, .unset, .unset, .unset, .unset, .unset, .unset, .unset, .unset, .unset, .unset, .unset] [(.int 120), (.int 5), (.ref b18), (.ref b18)])) rfl rfl (hb hby at_186)
  have N30 := Fr.snoc X30 N28 ge18
  have Z30 : n0 ≤ h30.size := Nat.le_trans Z28 (Keep.of_wr W30).1
  have V30 : Arv Z h30 b18 k18 .char (8 : Int32) [(.int 120), (.int 120), (.int 120), (.int 120), (.int 120), (.int 120), (.int 0), (.int 0)] (.int 0) := Arv.set Ar29 q29 S29 N29 H29 G29 (by decide) W30 5 rfl (Nat.le_of_ble_eq_true rfl)
  obtain ⟨cl31, Ar31, q31, S31, N31, H31, G31⟩ := id V30
  have hin31 : ¬ ((6 : Int32) < 0 ∨ cl31.slots.size ≤ ((6 : Int32)).toNatClampNeg) := inb_of S31 ⟨by decide, by decide⟩
  obtain ⟨T32, h32, X32, e32, W32, st32⟩ := stC X30 hx hZ e30 Ar31 (j := (6 : Int32)) hin31 (g := (mkF m 192 #[.val (.long x0), .second, iv x2, iv x3, iv x4, iv zs, iv sm, iv cc, rv ct, .val (.long M), .second, .val (.long K), .second, .val (.int (K.toInt32)), rv b1, .unset, .unset, .unset, .unset, .unset, .unset, .unset, .unset, .unset, .unset, .unset] [(.int 120), (.int 6), (.ref b18), (.ref b18)])) rfl rfl (hb hby at_192)
  have N32 := Fr.snoc X32 N30 ge18
  have Z32 : n0 ≤ h32.size := Nat.le_trans Z30 (Keep.of_wr W32).1
  have V32 : Arv Z h32 b18 k18 .char (8 : Int32) [(.int 120), (.int 120), (.int 120), (.int 120), (.int 120), (.int 120), (.int 120), (.int 0)] (.int 0) := Arv.set Ar31 q31 S31 N31 H31 G31 (by decide) W32 6 rfl (Nat.le_of_ble_eq_true rfl)
  obtain ⟨cl33, Ar33, q33, S33, N33, H33, G33⟩ := id V32
  have hin33 : ¬ ((7 : Int32) < 0 ∨ cl33.slots.size ≤ ((7 : Int32)).toNatClampNeg) := inb_of S33 ⟨by decide, by decide⟩
  obtain ⟨T34, h34, X34, e34, W34, st34⟩ := stC X32 hx hZ e32 Ar33 (j := (7 : Int32)) hin33 (g := (mkF m 198 #[.val (.long x0), .second, iv x2, iv x3, iv x4, iv zs, iv sm, iv cc, rv ct, .val (.long M), .second, .val (.long K), .second, .val (.int (K.toInt32)), rv b1, .unset, .unset, .unset, .unset, .unset, .unset, .unset, .unset, .unset, .unset, .unset] [(.int 120), (.int 7), (.ref b18), (.ref b18)])) rfl rfl (hb hby at_198)
  have N34 := Fr.snoc X34 N32 ge18
  have Z34 : n0 ≤ h34.size := Nat.le_trans Z32 (Keep.of_wr W34).1
  have V34 : Arv Z h34 b18 k18 .char (8 : Int32) [(.int 120), (.int 120), (.int 120), (.int 120), (.int 120), (.int 120), (.int 120), (.int 120)] (.int 0) := Arv.set Ar33 q33 S33 N33 H33 G33 (by decide) W34 7 rfl (Nat.le_of_ble_eq_true rfl)
  have go35 : ∀ t, own_S p e below (T34.setTop (mkF m 206 #[.val (.long x0), .second, iv x2, iv x3, iv x4, iv zs, iv sm, iv cc, rv ct, .val (.long M), .second, .val (.long K), .second, .val (.int (K.toInt32)), rv b1, rv b18, .unset, .unset, .unset, .unset, .unset, .unset, .unset, .unset, .unset, .unset] [(.long 8), (.long K)])) t → Steps p.tables e below st0 t := by
    intro t kt
    refine go0 t ?_
    refine XS.lstore X0.here hx rfl (hb hby at_98) rfl (l' := #[.val (.long x0), .second, iv x2, iv x3, iv x4, iv zs, iv sm, iv cc, rv ct, .val (.long M), .second, .val (.long K), .second, .unset, .unset, .unset, .unset, .unset, .unset, .unset, .unset, .unset, .unset, .unset, .unset, .unset]) rfl ?_
    refine XS.lload X0.here hx rfl (hb hby at_100) rfl ?_
    show own_S p e below (T0.setTop (mkF m 102 #[.val (.long x0), .second, iv x2, iv x3, iv x4, iv zs, iv sm, iv cc, rv ct, .val (.long M), .second, .val (.long K), .second, .unset, .unset, .unset, .unset, .unset, .unset, .unset, .unset, .unset, .unset, .unset, .unset, .unset] [(.long K)])) _
    refine XS.l2i X0.here hx rfl (hb hby at_102) rfl ?_
    show own_S p e below (T0.setTop (mkF m 103 #[.val (.long x0), .second, iv x2, iv x3, iv x4, iv zs, iv sm, iv cc, rv ct, .val (.long M), .second, .val (.long K), .second, .unset, .unset, .unset, .unset, .unset, .unset, .unset, .unset, .unset, .unset, .unset, .unset, .unset] [(.int (K.toInt32))])) _
    refine XS.istore X0.here hx rfl (hb hby at_103) rfl (l' := #[.val (.long x0), .second, iv x2, iv x3, iv x4, iv zs, iv sm, iv cc, rv ct, .val (.long M), .second, .val (.long K), .second, .val (.int (K.toInt32)), .unset, .unset, .unset, .unset, .unset, .unset, .unset, .unset, .unset, .unset, .unset, .unset]) rfl ?_
    refine XS.bipush X0.here hx rfl (hb hby at_105) ?_
    show own_S p e below (T0.setTop (mkF m 107 #[.val (.long x0), .second, iv x2, iv x3, iv x4, iv zs, iv sm, iv cc, rv ct, .val (.long M), .second, .val (.long K), .second, .val (.int (K.toInt32)), .unset, .unset, .unset, .unset, .unset, .unset, .unset, .unset, .unset, .unset, .unset, .unset] [(.int 8)])) _
    refine st1 _ ?_
    refine XS.dup X1.here hx rfl (hb hby at_109) rfl rfl ?_
    refine XS.iconst X1.here hx rfl (hb hby at_110) ?_
    refine XS.bipush X1.here hx rfl (hb hby at_111) ?_
    show own_S p e below (T1.setTop (mkF m 113 #[.val (.long x0), .second, iv x2, iv x3, iv x4, iv zs, iv sm, iv cc, rv ct, .val (.long M), .second, .val (.long K), .second, .val (.int (K.toInt32)), .unset, .unset, .unset, .unset, .unset, .unset, .unset, .unset, .unset, .unset, .unset, .unset] [(.int 120), (.int 0), (.ref b1), (.ref b1)])) _
    refine st3 _ ?_
    refine XS.dup X3.here hx rfl (hb hby at_114) rfl rfl ?_
    refine XS.iconst X3.here hx rfl (hb hby at_115) ?_
    refine XS.bipush X3.here hx rfl (hb hby at_116) ?_
    show own_S p e below (T3.setTop (mkF m 118 #[.val (.long x0), .second, iv x2, iv x3, iv x4, iv zs, iv sm, iv cc, rv ct, .val (.long M), .second, .val (.long K), .second, .val (.int (K.toInt32)), .unset, .unset, .unset, .unset, .unset, .unset, .unset, .unset, .unset, .unset, .unset, .unset] [(.int 120), (.int 1), (.ref b1), (.ref b1)])) _
    refine st5 _ ?_
    refine XS.dup X5.here hx rfl (hb hby at_119) rfl rfl ?_
    refine XS.iconst X5.here hx rfl (hb hby at_120) ?_
    refine XS.bipush X5.here hx rfl (hb hby at_121) ?_
    show own_S p e below (T5.setTop (mkF m 123 #[.val (.long x0), .second, iv x2, iv x3, iv x4, iv zs, iv sm, iv cc, rv ct, .val (.long M), .second, .val (.long K), .second, .val (.int (K.toInt32)), .unset, .unset, .unset, .unset, .unset, .unset, .unset, .unset, .unset, .unset, .unset, .unset] [(.int 120), (.int 2), (.ref b1), (.ref b1)])) _
    refine st7 _ ?_
    refine XS.dup X7.here hx rfl (hb hby at_124) rfl rfl ?_
    refine XS.iconst X7.here hx rfl (hb hby at_125) ?_
    refine XS.bipush X7.here hx rfl (hb hby at_126) ?_
    show own_S p e below (T7.setTop (mkF m 128 #[.val (.long x0), .second, iv x2, iv x3, iv x4, iv zs, iv sm, iv cc, rv ct, .val (.long M), .second, .val (.long K), .second, .val (.int (K.toInt32)), .unset, .unset, .unset, .unset, .unset, .unset, .unset, .unset, .unset, .unset, .unset, .unset] [(.int 120), (.int 3), (.ref b1), (.ref b1)])) _
    refine st9 _ ?_
    refine XS.dup X9.here hx rfl (hb hby at_129) rfl rfl ?_
    refine XS.iconst X9.here hx rfl (hb hby at_130) ?_
    refine XS.bipush X9.here hx rfl (hb hby at_131) ?_
    show own_S p e below (T9.setTop (mkF m 133 #[.val (.long x0), .second, iv x2, iv x3, iv x4, iv zs, iv sm, iv cc, rv ct, .val (.long M), .second, .val (.long K), .second, .val (.int (K.toInt32)), .unset, .unset, .unset, .unset, .unset, .unset, .unset, .unset, .unset, .unset, .unset, .unset] [(.int 120), (.int 4), (.ref b1), (.ref b1)])) _
    refine st11 _ ?_
    refine XS.dup X11.here hx rfl (hb hby at_134) rfl rfl ?_
    refine XS.iconst X11.here hx rfl (hb hby at_135) ?_
    refine XS.bipush X11.here hx rfl (hb hby at_136) ?_
    show own_S p e below (T11.setTop (mkF m 138 #[.val (.long x0), .second, iv x2, iv x3, iv x4, iv zs, iv sm, iv cc, rv ct, .val (.long M), .second, .val (.long K), .second, .val (.int (K.toInt32)), .unset, .unset, .unset, .unset, .unset, .unset, .unset, .unset, .unset, .unset, .unset, .unset] [(.int 120), (.int 5), (.ref b1), (.ref b1)])) _
    refine st13 _ ?_
    refine XS.dup X13.here hx rfl (hb hby at_139) rfl rfl ?_
    refine XS.bipush X13.here hx rfl (hb hby at_140) ?_
    refine XS.bipush X13.here hx rfl (hb hby at_142) ?_
    show own_S p e below (T13.setTop (mkF m 144 #[.val (.long x0), .second, iv x2, iv x3, iv x4, iv zs, iv sm, iv cc, rv ct, .val (.long M), .second, .val (.long K), .second, .val (.int (K.toInt32)), .unset, .unset, .unset, .unset, .unset, .unset, .unset, .unset, .unset, .unset, .unset, .unset] [(.int 120), (.int 6), (.ref b1), (.ref b1)])) _
    refine st15 _ ?_
    refine XS.dup X15.here hx rfl (hb hby at_145) rfl rfl ?_
    refine XS.bipush X15.here hx rfl (hb hby at_146) ?_
    refine XS.bipush X15.here hx rfl (hb hby at_148) ?_
    show own_S p e below (T15.setTop (mkF m 150 #[.val (.long x0), .second, iv x2, iv x3, iv x4, iv zs, iv sm, iv cc, rv ct, .val (.long M), .second, .val (.long K), .second, .val (.int (K.toInt32)), .unset, .unset, .unset, .unset, .unset, .unset, .unset, .unset, .unset, .unset, .unset, .unset] [(.int 120), (.int 7), (.ref b1), (.ref b1)])) _
    refine st17 _ ?_
    show own_S p e below (T17.setTop (mkF m 151 #[.val (.long x0), .second, iv x2, iv x3, iv x4, iv zs, iv sm, iv cc, rv ct, .val (.long M), .second, .val (.long K), .second, .val (.int (K.toInt32)), .unset, .unset, .unset, .unset, .unset, .unset, .unset, .unset, .unset, .unset, .unset, .unset] [(.ref b1)])) _
    refine XS.astore X17.here hx rfl (hb hby at_151) rfl rfl (l' := #[.val (.long x0), .second, iv x2, iv x3, iv x4, iv zs, iv sm, iv cc, rv ct, .val (.long M), .second, .val (.long K), .second, .val (.int (K.toInt32)), rv b1, .unset, .unset, .unset, .unset, .unset, .unset, .unset, .unset, .unset, .unset, .unset]) rfl ?_
    refine XS.bipush X17.here hx rfl (hb hby at_153) ?_
    show own_S p e below (T17.setTop (mkF m 155 #[.val (.long x0), .second, iv x2, iv x3, iv x4, iv zs, iv sm, iv cc, rv ct, .val (.long M), .second, .val (.long K), .second, .val (.int (K.toInt32)), rv b1, .unset, .unset, .unset, .unset, .unset, .unset, .unset, .unset, .unset, .unset, .unset] [(.int 8)])) _
    refine st18 _ ?_
    refine XS.dup X18.here hx rfl (hb hby at_157) rfl rfl ?_
    refine XS.iconst X18.here hx rfl (hb hby at_158) ?_
    refine XS.bipush X18.here hx rfl (hb hby at_159) ?_
    show own_S p e below (T18.setTop (mkF m 161 #[.val (.long x0), .second, iv x2, iv x3, iv x4, iv zs, iv sm, iv cc, rv ct, .val (.long M), .second, .val (.long K), .second, .val (.int (K.toInt32)), rv b1, .unset, .unset, .unset, .unset, .unset, .unset, .unset, .unset, .unset, .unset, .unset] [(.int 120), (.int 0), (.ref b18), (.ref b18)])) _
    refine st20 _ ?_
    refine XS.dup X20.here hx rfl (hb hby at_162) rfl rfl ?_
    refine XS.iconst X20.here hx rfl (hb hby at_163) ?_
    refine XS.bipush X20.here hx rfl (hb hby at_164) ?_
    show own_S p e below (T20.setTop (mkF m 166 #[.val (.long x0), .second, iv x2, iv x3, iv x4, iv zs, iv sm, iv cc, rv ct, .val (.long M), .second, .val (.long K), .second, .val (.int (K.toInt32)), rv b1, .unset, .unset, .unset, .unset, .unset, .unset, .unset, .unset, .unset, .unset, .unset] [(.int 120), (.int 1), (.ref b18), (.ref b18)])) _
    refine st22 _ ?_
    refine XS.dup X22.here hx rfl (hb hby at_167) rfl rfl ?_
    refine XS.iconst X22.here hx rfl (hb hby at_168) ?_
    refine XS.bipush X22.here hx rfl (hb hby at_169) ?_
    show own_S p e below (T22.setTop (mkF m 171 #[.val (.long x0), .second, iv x2, iv x3, iv x4, iv zs, iv sm, iv cc, rv ct, .val (.long M), .second, .val (.long K), .second, .val (.int (K.toInt32)), rv b1, .unset, .unset, .unset, .unset, .unset, .unset, .unset, .unset, .unset, .unset, .unset] [(.int 120), (.int 2), (.ref b18), (.ref b18)])) _
    refine st24 _ ?_
    refine XS.dup X24.here hx rfl (hb hby at_172) rfl rfl ?_
    refine XS.iconst X24.here hx rfl (hb hby at_173) ?_
    refine XS.bipush X24.here hx rfl (hb hby at_174) ?_
    show own_S p e below (T24.setTop (mkF m 176 #[.val (.long x0), .second, iv x2, iv x3, iv x4, iv zs, iv sm, iv cc, rv ct, .val (.long M), .second, .val (.long K), .second, .val (.int (K.toInt32)), rv b1, .unset, .unset, .unset, .unset, .unset, .unset, .unset, .unset, .unset, .unset, .unset] [(.int 120), (.int 3), (.ref b18), (.ref b18)])) _
    refine st26 _ ?_
    refine XS.dup X26.here hx rfl (hb hby at_177) rfl rfl ?_
    refine XS.iconst X26.here hx rfl (hb hby at_178) ?_
    refine XS.bipush X26.here hx rfl (hb hby at_179) ?_
    show own_S p e below (T26.setTop (mkF m 181 #[.val (.long x0), .second, iv x2, iv x3, iv x4, iv zs, iv sm, iv cc, rv ct, .val (.long M), .second, .val (.long K), .second, .val (.int (K.toInt32)), rv b1, .unset, .unset, .unset, .unset, .unset, .unset, .unset, .unset, .unset, .unset, .unset] [(.int 120), (.int 4), (.ref b18), (.ref b18)])) _
    refine st28 _ ?_
    refine XS.dup X28.here hx rfl (hb hby at_182) rfl rfl ?_
    refine XS.iconst X28.here hx rfl (hb hby at_183) ?_
    refine XS.bipush X28.here hx rfl (hb hby at_184) ?_
    show own_S p e below (T28.setTop (mkF m 186 #[.val (.long x0), .second, iv x2, iv x3, iv x4, iv zs, iv sm, iv cc, rv ct, .val (.long M), .second, .val (.long K), .second, .val (.int (K.toInt32)), rv b1, .unset, .unset, .unset, .unset, .unset, .unset, .unset, .unset, .unset, .unset, .unset] [(.int 120), (.int 5), (.ref b18), (.ref b18)])) _
    refine st30 _ ?_
    refine XS.dup X30.here hx rfl (hb hby at_187) rfl rfl ?_
    refine XS.bipush X30.here hx rfl (hb hby at_188) ?_
    refine XS.bipush X30.here hx rfl (hb hby at_190) ?_
    show own_S p e below (T30.setTop (mkF m 192 #[.val (.long x0), .second, iv x2, iv x3, iv x4, iv zs, iv sm, iv cc, rv ct, .val (.long M), .second, .val (.long K), .second, .val (.int (K.toInt32)), rv b1, .unset, .unset, .unset, .unset, .unset, .unset, .unset, .unset, .unset, .unset, .unset] [(.int 120), (.int 6), (.ref b18), (.ref b18)])) _
    refine st32 _ ?_
    refine XS.dup X32.here hx rfl (hb hby at_193) rfl rfl ?_
    refine XS.bipush X32.here hx rfl (hb hby at_194) ?_
    refine XS.bipush X32.here hx rfl (hb hby at_196) ?_
    show own_S p e below (T32.setTop (mkF m 198 #[.val (.long x0), .second, iv x2, iv x3, iv x4, iv zs, iv sm, iv cc, rv ct, .val (.long M), .second, .val (.long K), .second, .val (.int (K.toInt32)), rv b1, .unset, .unset, .unset, .unset, .unset, .unset, .unset, .unset, .unset, .unset, .unset] [(.int 120), (.int 7), (.ref b18), (.ref b18)])) _
    refine st34 _ ?_
    show own_S p e below (T34.setTop (mkF m 199 #[.val (.long x0), .second, iv x2, iv x3, iv x4, iv zs, iv sm, iv cc, rv ct, .val (.long M), .second, .val (.long K), .second, .val (.int (K.toInt32)), rv b1, .unset, .unset, .unset, .unset, .unset, .unset, .unset, .unset, .unset, .unset, .unset] [(.ref b18)])) _
    refine XS.astore X34.here hx rfl (hb hby at_199) rfl rfl (l' := #[.val (.long x0), .second, iv x2, iv x3, iv x4, iv zs, iv sm, iv cc, rv ct, .val (.long M), .second, .val (.long K), .second, .val (.int (K.toInt32)), rv b1, rv b18, .unset, .unset, .unset, .unset, .unset, .unset, .unset, .unset, .unset, .unset]) rfl ?_
    refine XS.lload X34.here hx rfl (hb hby at_201) rfl ?_
    show own_S p e below (T34.setTop (mkF m 203 #[.val (.long x0), .second, iv x2, iv x3, iv x4, iv zs, iv sm, iv cc, rv ct, .val (.long M), .second, .val (.long K), .second, .val (.int (K.toInt32)), rv b1, rv b18, .unset, .unset, .unset, .unset, .unset, .unset, .unset, .unset, .unset, .unset] [(.long K)])) _
    refine X34.ldc2Long hx hown (mvT hZ (own_w hw 11 rfl)) (g := (mkF m 203 #[.val (.long x0), .second, iv x2, iv x3, iv x4, iv zs, iv sm, iv cc, rv ct, .val (.long M), .second, .val (.long K), .second, .val (.int (K.toInt32)), rv b1, rv b18, .unset, .unset, .unset, .unset, .unset, .unset, .unset, .unset, .unset, .unset] [(.long K)])) rfl (hb hby at_203) _ ?_
    show own_S p e below (T34.setTop (mkF m 206 #[.val (.long x0), .second, iv x2, iv x3, iv x4, iv zs, iv sm, iv cc, rv ct, .val (.long M), .second, .val (.long K), .second, .val (.int (K.toInt32)), rv b1, rv b18, .unset, .unset, .unset, .unset, .unset, .unset, .unset, .unset, .unset, .unset] [(.long 8), (.long K)])) _
    exact kt
  by_cases hc36 : (8 : Int64) < K
  · skip
    obtain ⟨_, _, ⟨T37, L37, k37, n37⟩, -, X37, ⟨Lc37, hQ37, l37, y37, z37⟩, st37⟩ := Jvm.LawKit.callS X34 hx (y := (⟨own_s13, "min", "(JJ)J"⟩ : MethodName)) hown (mvT hZ (own_w hw 5 rfl)) (mvT hZ (own_w hw 6 rfl)) (mvT hZ (own_w hw 7 rfl)) (mvT hZ (own_w hw 8 rfl)) (by decide) (backOf (W := 0) (own_minB l Z a0 hw [] K (8 : Int64) h34 n0 Z34 hc36) hZ (own_w hw 8 rfl) (own_w hw 7 rfl) (by decide) (by decide)) (g := (mkF m 206 #[.val (.long x0), .second, iv x2, iv x3, iv x4, iv zs, iv sm, iv cc, rv ct, .val (.long M), .second, .val (.long K), .second, .val (.int (K.toInt32)), rv b1, rv b18, .unset, .unset, .unset, .unset, .unset, .unset, .unset, .unset, .unset, .unset] [(.long 8), (.long K)])) rfl (by rw [hml]; rfl) (argsL := [(.long K), (.long 8)]) (rest := []) (lenOf pd_33 rfl) rfl (by show 2 * 0 + _ ≤ _; exact Nat.le_of_eq rfl) (hb hby at_206) (fun _ _ => ⟨rfl, e34, (by decide : 2 + 0 ≤ _), (by decide : 16 + 0 ≤ _)⟩)
    dsimp only [Pt.U, Pt.locs, Pt.cells, Pt.slots] at X37 l37 y37 z37 st37 hQ37
    subst l37 y37 z37
    obtain ⟨rfl, Nq37, e37⟩ := hQ37
    have N37 := Fr.app N34 Nq37
    have f38 : own_ST Z h34 ev ns sg phS phF phA phD co := ((((((((((((((((((P0.ext E1).wr W3).wr W5).wr W7).wr W9).wr W11).wr W13).wr W15).wr W17).ext E18).wr W20).wr W22).wr W24).wr W26).wr W28).wr W30).wr W32).wr W34)
    have f39 : Arv Z h34 b1 k1 .byte (8 : Int32) [(.int 120), (.int 120), (.int 120), (.int 120), (.int 120), (.int 120), (.int 120), (.int 120)] (.int 0) := (((((((((V17.ext E18).other W20 ne18_b1).other W22 ne18_b1).other W24 ne18_b1).other W26 ne18_b1).other W28 ne18_b1).other W30 ne18_b1).other W32 ne18_b1).other W34 ne18_b1)
    have go41 : ∀ t, own_S p e below (T37.setTop (mkF m 210 #[.val (.long x0), .second, iv x2, iv x3, iv x4, iv zs, iv sm, iv cc, rv ct, .val (.long M), .second, .val (.long K), .second, .val (.int (K.toInt32)), rv b1, rv b18, .unset, .unset, .unset, .unset, .unset, .unset, .unset, .unset, .unset, .unset] [(.int 8)])) t → Steps p.tables e below st0 t := by
      intro t kt
      refine go35 t ?_
      refine st37 _ ?_
      show own_S p e below (T37.setTop (mkF m 209 #[.val (.long x0), .second, iv x2, iv x3, iv x4, iv zs, iv sm, iv cc, rv ct, .val (.long M), .second, .val (.long K), .second, .val (.int (K.toInt32)), rv b1, rv b18, .unset, .unset, .unset, .unset, .unset, .unset, .unset, .unset, .unset, .unset] [(.long 8)])) _
      refine XS.l2i X37.here hx rfl (hb hby at_209) rfl ?_
      show own_S p e below (T37.setTop (mkF m 210 #[.val (.long x0), .second, iv x2, iv x3, iv x4, iv zs, iv sm, iv cc, rv ct, .val (.long M), .second, .val (.long K), .second, .val (.int (K.toInt32)), rv b1, rv b18, .unset, .unset, .unset, .unset, .unset, .unset, .unset, .unset, .unset, .unset] [(.int 8)])) _
      exact kt
    obtain ⟨s₂, o₂, hs₂, hr₂⟩ := own_t210 x0 x2 x3 x4 zs sm cc ct M K b1 b18 (8 : Int32) ev ns sg phS phF phA phD co k1 k18 X37 hx hZ hw hby hml hown e37 N37 Z34 hret hlk f38 P1 f39 V34 ne18_b1 P2 (by decide) (by decide : ¬ ((8 : Int32) < (8 : Int32))) P3 P4 P5 P6
    exact ⟨s₂, o₂, go41 _ hs₂, hr₂⟩
  · skip
    obtain ⟨_, _, ⟨T42, L42, k42, n42⟩, -, X42, ⟨Lc42, hQ42, l42, y42, z42⟩, st42⟩ := Jvm.LawKit.callS X34 hx (y := (⟨own_s13, "min", "(JJ)J"⟩ : MethodName)) hown (mvT hZ (own_w hw 5 rfl)) (mvT hZ (own_w hw 6 rfl)) (mvT hZ (own_w hw 7 rfl)) (mvT hZ (own_w hw 8 rfl)) (by decide) (backOf (W := 0) (own_minA l Z a0 hw [] K (8 : Int64) h34 n0 Z34 hc36) hZ (own_w hw 8 rfl) (own_w hw 7 rfl) (by decide) (by decide)) (g := (mkF m 206 #[.val (.long x0), .second, iv x2, iv x3, iv x4, iv zs, iv sm, iv cc, rv ct, .val (.long M), .second, .val (.long K), .second, .val (.int (K.toInt32)), rv b1, rv b18, .unset, .unset, .unset, .unset, .unset, .unset, .unset, .unset, .unset, .unset] [(.long 8), (.long K)])) rfl (by rw [hml]; rfl) (argsL := [(.long K), (.long 8)]) (rest := []) (lenOf pd_33 rfl) rfl (by show 2 * 0 + _ ≤ _; exact Nat.le_of_eq rfl) (hb hby at_206) (fun _ _ => ⟨rfl, e34, (by decide : 2 + 0 ≤ _), (by decide : 16 + 0 ≤ _)⟩)
    dsimp only [Pt.U, Pt.locs, Pt.cells, Pt.slots] at X42 l42 y42 z42 st42 hQ42
    subst l42 y42 z42
    obtain ⟨rfl, Nq42, e42⟩ := hQ42
    have N42 := Fr.app N34 Nq42
    have f43 : own_ST Z h34 ev ns sg phS phF phA phD co := ((((((((((((((((((P0.ext E1).wr W3).wr W5).wr W7).wr W9).wr W11).wr W13).wr W15).wr W17).ext E18).wr W20).wr W22).wr W24).wr W26).wr W28).wr W30).wr W32).wr W34)
    have f44 : Arv Z h34 b1 k1 .byte (8 : Int32) [(.int 120), (.int 120), (.int 120), (.int 120), (.int 120), (.int 120), (.int 120), (.int 120)] (.int 0) := (((((((((V17.ext E18).other W20 ne18_b1).other W22 ne18_b1).other W24 ne18_b1).other W26 ne18_b1).other W28 ne18_b1).other W30 ne18_b1).other W32 ne18_b1).other W34 ne18_b1)
    have go46 : ∀ t, own_S p e below (T42.setTop (mkF m 210 #[.val (.long x0), .second, iv x2, iv x3, iv x4, iv zs, iv sm, iv cc, rv ct, .val (.long M), .second, .val (.long K), .second, .val (.int (K.toInt32)), rv b1, rv b18, .unset, .unset, .unset, .unset, .unset, .unset, .unset, .unset, .unset, .unset] [(.int (K.toInt32))])) t → Steps p.tables e below st0 t := by
      intro t kt
      refine go35 t ?_
      refine st42 _ ?_
      show own_S p e below (T42.setTop (mkF m 209 #[.val (.long x0), .second, iv x2, iv x3, iv x4, iv zs, iv sm, iv cc, rv ct, .val (.long M), .second, .val (.long K), .second, .val (.int (K.toInt32)), rv b1, rv b18, .unset, .unset, .unset, .unset, .unset, .unset, .unset, .unset, .unset, .unset] [(.long K)])) _
      refine XS.l2i X42.here hx rfl (hb hby at_209) rfl ?_
      show own_S p e below (T42.setTop (mkF m 210 #[.val (.long x0), .second, iv x2, iv x3, iv x4, iv zs, iv sm, iv cc, rv ct, .val (.long M), .second, .val (.long K), .second, .val (.int (K.toInt32)), rv b1, rv b18, .unset, .unset, .unset, .unset, .unset, .unset, .unset, .unset, .unset, .unset] [(.int (K.toInt32))])) _
      exact kt
    obtain ⟨s₂, o₂, hs₂, hr₂⟩ := own_t210 x0 x2 x3 x4 zs sm cc ct M K b1 b18 (K.toInt32) ev ns sg phS phF phA phD co k1 k18 X42 hx hZ hw hby hml hown e42 N42 Z34 hret hlk f43 P1 f44 V34 ne18_b1 P2 (own_to P4 hc36).1 (own_to P4 hc36).2 P3 P4 P5 P6
    exact ⟨s₂, o₂, go46 _ hs₂, hr₂⟩
set_option maxRecDepth 65536 in
set_option maxHeartbeats 40000000 in
theorem own_t88 {p : Program} {l : Launch} {e : Env} {s : State} {m : MethodId} {args : Array Value} {below : List Frame} {meth : Method} {c : Code} {T0 : State} {locs : List Loc} {Z : State} {a0 : Array Value} {h0 : Heap} {n0 : Nat} (x0 : Int64) (x2 : Int32) (x3 : Int32) (x4 : Int32) (zs : Int32) (sm : Int32) (cc : Int32) (ct : Addr) (M : Int64) (ev : Addr) (ns : Addr) (sg : Addr) (phS : Addr) (phF : Addr) (phA : Addr) (phD : Addr) (co : Addr) (X0 : Stand p l e room_1 s m args below meth c T0 locs 0 0) (hx : p.tables.exec = Jvm.exec) (hZ : Z.Warmed39 s.vm) (hw : ∀ d ∈ tables_1, d.before a0 Z = true) (hby : c.code = code) (hml : c.maxLocals = 26) (hown : s.vm.findClass own_s11 = some m.cls) (e0 : T0.heap = h0) (N0 : Fr n0 locs) (Z0 : n0 ≤ h0.size) (hret : meth.sig.returnType = some .boolean) (hlk : meth.locks = false) (P0 : own_ST Z h0 ev ns sg phS phF phA phD co) (P1 : own_NN ev ns sg phS phF phA phD co) (P2 : ct = ev ∨ ct = ns ∨ ct = sg) (P3 : ¬ (M < (0 : Int64))) :
    ∃ s₂ o, own_S p e below (T0.setTop (mkF m 88 #[.val (.long x0), .second, iv x2, iv x3, iv x4, iv zs, iv sm, iv cc, rv ct, .val (.long M), .second, .unset, .unset, .unset, .unset, .unset, .unset, .unset, .unset, .unset, .unset, .unset, .unset, .unset, .unset, .unset] [])) s₂ ∧ s₂.status = .running ∧ Ended s₂ below o ∧ ∃ v L, o = .returned v ∧ (v = some (.int 1) ∧ Fr n0 L) ∧ FrameEnd s o s₂ L room_1.cells room_1.slots := by
  obtain ⟨st0, hst0⟩ : ∃ zst, zst = T0.setTop (mkF m 88 #[.val (.long x0), .second, iv x2, iv x3, iv x4, iv zs, iv sm, iv cc, rv ct, .val (.long M), .second, .unset, .unset, .unset, .unset, .unset, .unset, .unset, .unset, .unset, .unset, .unset, .unset, .unset, .unset, .unset] []) := ⟨_, rfl⟩
  have go0 : ∀ t, own_S p e below (T0.setTop (mkF m 88 #[.val (.long x0), .second, iv x2, iv x3, iv x4, iv zs, iv sm, iv cc, rv ct, .val (.long M), .second, .unset, .unset, .unset, .unset, .unset, .unset, .unset, .unset, .unset, .unset, .unset, .unset, .unset, .unset, .unset] [])) t → Steps p.tables e below st0 t := fun t k => by rw [hst0]; exact k
  rw [← hst0]
  have go1 : ∀ t, own_S p e below (T0.setTop (mkF m 95 #[.val (.long x0), .second, iv x2, iv x3, iv x4, iv zs, iv sm, iv cc, rv ct, .val (.long M), .second, .unset, .unset, .unset, .unset, .unset, .unset, .unset, .unset, .unset, .unset, .unset, .unset, .unset, .unset, .unset] [(.long M), (.long ((x2 &&& (2147483647 : Int32)).toInt64))])) t → Steps p.tables e below st0 t := by
    intro t kt
    refine go0 t ?_
    refine XS.iloadN X0.here hx rfl (hb hby at_88) rfl ?_
    show own_S p e below (T0.setTop (mkF m 89 #[.val (.long x0), .second, iv x2, iv x3, iv x4, iv zs, iv sm, iv cc, rv ct, .val (.long M), .second, .unset, .unset, .unset, .unset, .unset, .unset, .unset, .unset, .unset, .unset, .unset, .unset, .unset, .unset, .unset] [(.int x2)])) _
    refine X0.ldcInt hx hown (mvT hZ (own_w hw 4 rfl)) (g := (mkF m 89 #[.val (.long x0), .second, iv x2, iv x3, iv x4, iv zs, iv sm, iv cc, rv ct, .val (.long M), .second, .unset, .unset, .unset, .unset, .unset, .unset, .unset, .unset, .unset, .unset, .unset, .unset, .unset, .unset, .unset] [(.int x2)])) rfl (hb hby at_89) _ ?_
    refine XS.iand X0.here hx rfl (hb hby at_91) rfl ?_
    show own_S p e below (T0.setTop (mkF m 92 #[.val (.long x0), .second, iv x2, iv x3, iv x4, iv zs, iv sm, iv cc, rv ct, .val (.long M), .second, .unset, .unset, .unset, .unset, .unset, .unset, .unset, .unset, .unset, .unset, .unset, .unset, .unset, .unset, .unset] [(.int (x2 &&& (2147483647 : Int32)))])) _
    refine XS.i2l X0.here hx rfl (hb hby at_92) rfl ?_
    refine XS.lload X0.here hx rfl (hb hby at_93) rfl ?_
    show own_S p e below (T0.setTop (mkF m 95 #[.val (.long x0), .second, iv x2, iv x3, iv x4, iv zs, iv sm, iv cc, rv ct, .val (.long M), .second, .unset, .unset, .unset, .unset, .unset, .unset, .unset, .unset, .unset, .unset, .unset, .unset, .unset, .unset, .unset] [(.long M), (.long ((x2 &&& (2147483647 : Int32)).toInt64))])) _
    exact kt
  by_cases hc2 : M < ((x2 &&& (2147483647 : Int32)).toInt64)
  · skip
    obtain ⟨_, _, ⟨T3, L3, k3, n3⟩, -, X3, ⟨Lc3, hQ3, l3, y3, z3⟩, st3⟩ := Jvm.LawKit.callS X0 hx (y := (⟨own_s13, "min", "(JJ)J"⟩ : MethodName)) hown (mvT hZ (own_w hw 5 rfl)) (mvT hZ (own_w hw 6 rfl)) (mvT hZ (own_w hw 7 rfl)) (mvT hZ (own_w hw 8 rfl)) (by decide) (backOf (W := 0) (own_minB l Z a0 hw [] ((x2 &&& (2147483647 : Int32)).toInt64) M h0 n0 Z0 hc2) hZ (own_w hw 8 rfl) (own_w hw 7 rfl) (by decide) (by decide)) (g := (mkF m 95 #[.val (.long x0), .second, iv x2, iv x3, iv x4, iv zs, iv sm, iv cc, rv ct, .val (.long M), .second, .unset, .unset, .unset, .unset, .unset, .unset, .unset, .unset, .unset, .unset, .unset, .unset, .unset, .unset, .unset] [(.long M), (.long ((x2 &&& (2147483647 : Int32)).toInt64))])) rfl (by rw [hml]; rfl) (argsL := [(.long ((x2 &&& (2147483647 : Int32)).toInt64)), (.long M)]) (rest := []) (lenOf pd_33 rfl) rfl (by show 2 * 0 + _ ≤ _; exact Nat.le_of_eq rfl) (hb hby at_95) (fun _ _ => ⟨rfl, e0, (by decide : 0 + 0 ≤ _), (by decide : 0 + 0 ≤ _)⟩)
    dsimp only [Pt.U, Pt.locs, Pt.cells, Pt.slots] at X3 l3 y3 z3 st3 hQ3
    subst l3 y3 z3
    obtain ⟨rfl, Nq3, e3⟩ := hQ3
    have N3 := Fr.app N0 Nq3
    have go5 : ∀ t, own_S p e below (T3.setTop (mkF m 98 #[.val (.long x0), .second, iv x2, iv x3, iv x4, iv zs, iv sm, iv cc, rv ct, .val (.long M), .second, .unset, .unset, .unset, .unset, .unset, .unset, .unset, .unset, .unset, .unset, .unset, .unset, .unset, .unset, .unset] [(.long M)])) t → Steps p.tables e below st0 t := by
      intro t kt
      refine go1 t ?_
      refine st3 _ ?_
      show own_S p e below (T3.setTop (mkF m 98 #[.val (.long x0), .second, iv x2, iv x3, iv x4, iv zs, iv sm, iv cc, rv ct, .val (.long M), .second, .unset, .unset, .unset, .unset, .unset, .unset, .unset, .unset, .unset, .unset, .unset, .unset, .unset, .unset, .unset] [(.long M)])) _
      exact kt
    obtain ⟨s₂, o₂, hs₂, hr₂⟩ := own_t98 x0 x2 x3 x4 zs sm cc ct M M ev ns sg phS phF phA phD co X3 hx hZ hw hby hml hown e3 N3 Z0 hret hlk P0 P1 P2 P3 P3 Int64.lt_irrefl (own_MM P3 hc2)
    exact ⟨s₂, o₂, go5 _ hs₂, hr₂⟩
  · skip
    obtain ⟨_, _, ⟨T6, L6, k6, n6⟩, -, X6, ⟨Lc6, hQ6, l6, y6, z6⟩, st6⟩ := Jvm.LawKit.callS X0 hx (y := (⟨own_s13, "min", "(JJ)J"⟩ : MethodName)) hown (mvT hZ (own_w hw 5 rfl)) (mvT hZ (own_w hw 6 rfl)) (mvT hZ (own_w hw 7 rfl)) (mvT hZ (own_w hw 8 rfl)) (by decide) (backOf (W := 0) (own_minA l Z a0 hw [] ((x2 &&& (2147483647 : Int32)).toInt64) M h0 n0 Z0 hc2) hZ (own_w hw 8 rfl) (own_w hw 7 rfl) (by decide) (by decide)) (g := (mkF m 95 #[.val (.long x0), .second, iv x2, iv x3, iv x4, iv zs, iv sm, iv cc, rv ct, .val (.long M), .second, .unset, .unset, .unset, .unset, .unset, .unset, .unset, .unset, .unset, .unset, .unset, .unset, .unset, .unset, .unset] [(.long M), (.long ((x2 &&& (2147483647 : Int32)).toInt64))])) rfl (by rw [hml]; rfl) (argsL := [(.long ((x2 &&& (2147483647 : Int32)).toInt64)), (.long M)]) (rest := []) (lenOf pd_33 rfl) rfl (by show 2 * 0 + _ ≤ _; exact Nat.le_of_eq rfl) (hb hby at_95) (fun _ _ => ⟨rfl, e0, (by decide : 0 + 0 ≤ _), (by decide : 0 + 0 ≤ _)⟩)
    dsimp only [Pt.U, Pt.locs, Pt.cells, Pt.slots] at X6 l6 y6 z6 st6 hQ6
    subst l6 y6 z6
    obtain ⟨rfl, Nq6, e6⟩ := hQ6
    have N6 := Fr.app N0 Nq6
    have go8 : ∀ t, own_S p e below (T6.setTop (mkF m 98 #[.val (.long x0), .second, iv x2, iv x3, iv x4, iv zs, iv sm, iv cc, rv ct, .val (.long M), .second, .unset, .unset, .unset, .unset, .unset, .unset, .unset, .unset, .unset, .unset, .unset, .unset, .unset, .unset, .unset] [(.long ((x2 &&& (2147483647 : Int32)).toInt64))])) t → Steps p.tables e below st0 t := by
      intro t kt
      refine go1 t ?_
      refine st6 _ ?_
      show own_S p e below (T6.setTop (mkF m 98 #[.val (.long x0), .second, iv x2, iv x3, iv x4, iv zs, iv sm, iv cc, rv ct, .val (.long M), .second, .unset, .unset, .unset, .unset, .unset, .unset, .unset, .unset, .unset, .unset, .unset, .unset, .unset, .unset, .unset] [(.long ((x2 &&& (2147483647 : Int32)).toInt64))])) _
      exact kt
    obtain ⟨s₂, o₂, hs₂, hr₂⟩ := own_t98 x0 x2 x3 x4 zs sm cc ct M ((x2 &&& (2147483647 : Int32)).toInt64) ev ns sg phS phF phA phD co X6 hx hZ hw hby hml hown e6 N6 Z0 hret hlk P0 P1 P2 P3 (own_X0 x2) hc2 (own_XX _)
    exact ⟨s₂, o₂, go8 _ hs₂, hr₂⟩
set_option maxRecDepth 65536 in
set_option maxHeartbeats 40000000 in
theorem own_t68 {p : Program} {l : Launch} {e : Env} {s : State} {m : MethodId} {args : Array Value} {below : List Frame} {meth : Method} {c : Code} {T0 : State} {locs : List Loc} {Z : State} {a0 : Array Value} {h0 : Heap} {n0 : Nat} (x0 : Int64) (x2 : Int32) (x3 : Int32) (x4 : Int32) (zs : Int32) (sm : Int32) (cc : Int32) (ct : Addr) (ev : Addr) (ns : Addr) (sg : Addr) (phS : Addr) (phF : Addr) (phA : Addr) (phD : Addr) (co : Addr) (X0 : Stand p l e room_1 s m args below meth c T0 locs 0 0) (hx : p.tables.exec = Jvm.exec) (hZ : Z.Warmed39 s.vm) (hw : ∀ d ∈ tables_1, d.before a0 Z = true) (hby : c.code = code) (hml : c.maxLocals = 26) (hown : s.vm.findClass own_s11 = some m.cls) (e0 : T0.heap = h0) (N0 : Fr n0 locs) (Z0 : n0 ≤ h0.size) (hret : meth.sig.returnType = some .boolean) (hlk : meth.locks = false) (P0 : own_ST Z h0 ev ns sg phS phF phA phD co) (P1 : own_NN ev ns sg phS phF phA phD co) (P2 : ct = ev ∨ ct = ns ∨ ct = sg) :
    ∃ s₂ o, own_S p e below (T0.setTop (mkF m 68 #[.val (.long x0), .second, iv x2, iv x3, iv x4, iv zs, iv sm, iv cc, rv ct, .unset, .unset, .unset, .unset, .unset, .unset, .unset, .unset, .unset, .unset, .unset, .unset, .unset, .unset, .unset, .unset, .unset] [])) s₂ ∧ s₂.status = .running ∧ Ended s₂ below o ∧ ∃ v L, o = .returned v ∧ (v = some (.int 1) ∧ Fr n0 L) ∧ FrameEnd s o s₂ L room_1.cells room_1.slots := by
  obtain ⟨st0, hst0⟩ : ∃ zst, zst = T0.setTop (mkF m 68 #[.val (.long x0), .second, iv x2, iv x3, iv x4, iv zs, iv sm, iv cc, rv ct, .unset, .unset, .unset, .unset, .unset, .unset, .unset, .unset, .unset, .unset, .unset, .unset, .unset, .unset, .unset, .unset, .unset] []) := ⟨_, rfl⟩
  have go0 : ∀ t, own_S p e below (T0.setTop (mkF m 68 #[.val (.long x0), .second, iv x2, iv x3, iv x4, iv zs, iv sm, iv cc, rv ct, .unset, .unset, .unset, .unset, .unset, .unset, .unset, .unset, .unset, .unset, .unset, .unset, .unset, .unset, .unset, .unset, .unset] [])) t → Steps p.tables e below st0 t := fun t k => by rw [hst0]; exact k
  rw [← hst0]
  have go1 : ∀ t, own_S p e below (T0.setTop (mkF m 70 #[.val (.long x0), .second, iv x2, iv x3, iv x4, iv zs, iv sm, iv cc, rv ct, .unset, .unset, .unset, .unset, .unset, .unset, .unset, .unset, .unset, .unset, .unset, .unset, .unset, .unset, .unset, .unset, .unset] [(.int sm)])) t → Steps p.tables e below st0 t := by
    intro t kt
    refine go0 t ?_
    refine XS.iload X0.here hx rfl (hb hby at_68) rfl ?_
    show own_S p e below (T0.setTop (mkF m 70 #[.val (.long x0), .second, iv x2, iv x3, iv x4, iv zs, iv sm, iv cc, rv ct, .unset, .unset, .unset, .unset, .unset, .unset, .unset, .unset, .unset, .unset, .unset, .unset, .unset, .unset, .unset, .unset, .unset] [(.int sm)])) _
    exact kt
  by_cases hc2 : sm = (0 : Int32)
  · skip
    have go4 : ∀ t, own_S p e below (T0.setTop (mkF m 88 #[.val (.long x0), .second, iv x2, iv x3, iv x4, iv zs, iv sm, iv cc, rv ct, .val (.long (x0 &&& (9223372036854775807 : Int64))), .second, .unset, .unset, .unset, .unset, .unset, .unset, .unset, .unset, .unset, .unset, .unset, .unset, .unset, .unset, .unset] [])) t → Steps p.tables e below st0 t := by
      intro t kt
      refine go1 t ?_
      refine XS.ifYes X0.here hx rfl (pc0 := 70) (pc' := 81) rfl (hb hby at_70) rfl ((if0 _ _).trans (teq hc2).1) (by decide) (by decide) ?_
      refine XS.lloadN X0.here hx rfl (hb hby at_81) rfl ?_
      show own_S p e below (T0.setTop (mkF m 82 #[.val (.long x0), .second, iv x2, iv x3, iv x4, iv zs, iv sm, iv cc, rv ct, .unset, .unset, .unset, .unset, .unset, .unset, .unset, .unset, .unset, .unset, .unset, .unset, .unset, .unset, .unset, .unset, .unset] [(.long x0)])) _
      refine X0.ldc2Long hx hown (mvT hZ (own_w hw 3 rfl)) (g := (mkF m 82 #[.val (.long x0), .second, iv x2, iv x3, iv x4, iv zs, iv sm, iv cc, rv ct, .unset, .unset, .unset, .unset, .unset, .unset, .unset, .unset, .unset, .unset, .unset, .unset, .unset, .unset, .unset, .unset, .unset] [(.long x0)])) rfl (hb hby at_82) _ ?_
      show own_S p e below (T0.setTop (mkF m 85 #[.val (.long x0), .second, iv x2, iv x3, iv x4, iv zs, iv sm, iv cc, rv ct, .unset, .unset, .unset, .unset, .unset, .unset, .unset, .unset, .unset, .unset, .unset, .unset, .unset, .unset, .unset, .unset, .unset] [(.long 9223372036854775807), (.long x0)])) _
      refine XS.land X0.here hx rfl (hb hby at_85) rfl ?_
      show own_S p e below (T0.setTop (mkF m 86 #[.val (.long x0), .second, iv x2, iv x3, iv x4, iv zs, iv sm, iv cc, rv ct, .unset, .unset, .unset, .unset, .unset, .unset, .unset, .unset, .unset, .unset, .unset, .unset, .unset, .unset, .unset, .unset, .unset] [(.long (x0 &&& (9223372036854775807 : Int64)))])) _
      refine XS.lstore X0.here hx rfl (hb hby at_86) rfl (l' := #[.val (.long x0), .second, iv x2, iv x3, iv x4, iv zs, iv sm, iv cc, rv ct, .val (.long (x0 &&& (9223372036854775807 : Int64))), .second, .unset, .unset, .unset, .unset, .unset, .unset, .unset, .unset, .unset, .unset, .unset, .unset, .unset, .unset, .unset]) rfl ?_
      show own_S p e below (T0.setTop (mkF m 88 #[.val (.long x0), .second, iv x2, iv x3, iv x4, iv zs, iv sm, iv cc, rv ct, .val (.long (x0 &&& (9223372036854775807 : Int64))), .second, .unset, .unset, .unset, .unset, .unset, .unset, .unset, .unset, .unset, .unset, .unset, .unset, .unset, .unset, .unset] [])) _
      exact kt
    obtain ⟨s₂, o₂, hs₂, hr₂⟩ := own_t88 x0 x2 x3 x4 zs sm cc ct (x0 &&& (9223372036854775807 : Int64)) ev ns sg phS phF phA phD co X0 hx hZ hw hby hml hown e0 N0 Z0 hret hlk P0 P1 P2 (own_and0 x0 9223372036854775807 (by decide))
    exact ⟨s₂, o₂, go4 _ hs₂, hr₂⟩
  · skip
    have go6 : ∀ t, own_S p e below (T0.setTop (mkF m 88 #[.val (.long x0), .second, iv x2, iv x3, iv x4, iv zs, iv sm, iv cc, rv ct, .val (.long (x0 &&& (3 : Int64))), .second, .unset, .unset, .unset, .unset, .unset, .unset, .unset, .unset, .unset, .unset, .unset, .unset, .unset, .unset, .unset] [])) t → Steps p.tables e below st0 t := by
      intro t kt
      refine go1 t ?_
      refine XS.ifNo X0.here hx rfl (hb hby at_70) rfl ((if0 _ _).trans (feq hc2).1) ?_
      refine XS.lloadN X0.here hx rfl (hb hby at_73) rfl ?_
      show own_S p e below (T0.setTop (mkF m 74 #[.val (.long x0), .second, iv x2, iv x3, iv x4, iv zs, iv sm, iv cc, rv ct, .unset, .unset, .unset, .unset, .unset, .unset, .unset, .unset, .unset, .unset, .unset, .unset, .unset, .unset, .unset, .unset, .unset] [(.long x0)])) _
      refine X0.ldc2Long hx hown (mvT hZ (own_w hw 96 rfl)) (g := (mkF m 74 #[.val (.long x0), .second, iv x2, iv x3, iv x4, iv zs, iv sm, iv cc, rv ct, .unset, .unset, .unset, .unset, .unset, .unset, .unset, .unset, .unset, .unset, .unset, .unset, .unset, .unset, .unset, .unset, .unset] [(.long x0)])) rfl (hb hby at_74) _ ?_
      show own_S p e below (T0.setTop (mkF m 77 #[.val (.long x0), .second, iv x2, iv x3, iv x4, iv zs, iv sm, iv cc, rv ct, .unset, .unset, .unset, .unset, .unset, .unset, .unset, .unset, .unset, .unset, .unset, .unset, .unset, .unset, .unset, .unset, .unset] [(.long 3), (.long x0)])) _
      refine XS.land X0.here hx rfl (hb hby at_77) rfl ?_
      show own_S p e below (T0.setTop (mkF m 78 #[.val (.long x0), .second, iv x2, iv x3, iv x4, iv zs, iv sm, iv cc, rv ct, .unset, .unset, .unset, .unset, .unset, .unset, .unset, .unset, .unset, .unset, .unset, .unset, .unset, .unset, .unset, .unset, .unset] [(.long (x0 &&& (3 : Int64)))])) _
      refine XS.goto X0.here hx rfl (pc0 := 78) (pc' := 86) rfl (hb hby at_78) (by decide) (by decide) ?_
      show own_S p e below (T0.setTop (mkF m 86 #[.val (.long x0), .second, iv x2, iv x3, iv x4, iv zs, iv sm, iv cc, rv ct, .unset, .unset, .unset, .unset, .unset, .unset, .unset, .unset, .unset, .unset, .unset, .unset, .unset, .unset, .unset, .unset, .unset] [(.long (x0 &&& (3 : Int64)))])) _
      refine XS.lstore X0.here hx rfl (hb hby at_86) rfl (l' := #[.val (.long x0), .second, iv x2, iv x3, iv x4, iv zs, iv sm, iv cc, rv ct, .val (.long (x0 &&& (3 : Int64))), .second, .unset, .unset, .unset, .unset, .unset, .unset, .unset, .unset, .unset, .unset, .unset, .unset, .unset, .unset, .unset]) rfl ?_
      show own_S p e below (T0.setTop (mkF m 88 #[.val (.long x0), .second, iv x2, iv x3, iv x4, iv zs, iv sm, iv cc, rv ct, .val (.long (x0 &&& (3 : Int64))), .second, .unset, .unset, .unset, .unset, .unset, .unset, .unset, .unset, .unset, .unset, .unset, .unset, .unset, .unset, .unset] [])) _
      exact kt
    obtain ⟨s₂, o₂, hs₂, hr₂⟩ := own_t88 x0 x2 x3 x4 zs sm cc ct (x0 &&& (3 : Int64)) ev ns sg phS phF phA phD co X0 hx hZ hw hby hml hown e0 N0 Z0 hret hlk P0 P1 P2 (own_and0 x0 3 (by decide))
    exact ⟨s₂, o₂, go6 _ hs₂, hr₂⟩
set_option maxRecDepth 65536 in
set_option maxHeartbeats 40000000 in
theorem own_t28 {p : Program} {l : Launch} {e : Env} {s : State} {m : MethodId} {args : Array Value} {below : List Frame} {meth : Method} {c : Code} {T0 : State} {locs : List Loc} {Z : State} {a0 : Array Value} {h0 : Heap} {n0 : Nat} (x0 : Int64) (x2 : Int32) (x3 : Int32) (x4 : Int32) (zs : Int32) (sm : Int32) (ev : Addr) (ns : Addr) (sg : Addr) (phS : Addr) (phF : Addr) (phA : Addr) (phD : Addr) (co : Addr) (X0 : Stand p l e room_1 s m args below meth c T0 locs 0 0) (hx : p.tables.exec = Jvm.exec) (hZ : Z.Warmed39 s.vm) (hw : ∀ d ∈ tables_1, d.before a0 Z = true) (hby : c.code = code) (hml : c.maxLocals = 26) (hown : s.vm.findClass own_s11 = some m.cls) (e0 : T0.heap = h0) (N0 : Fr n0 locs) (Z0 : n0 ≤ h0.size) (hret : meth.sig.returnType = some .boolean) (hlk : meth.locks = false) (P0 : own_ST Z h0 ev ns sg phS phF phA phD co) (P1 : own_NN ev ns sg phS phF phA phD co) :
    ∃ s₂ o, own_S p e below (T0.setTop (mkF m 28 #[.val (.long x0), .second, iv x2, iv x3, iv x4, iv zs, iv sm, .unset, .unset, .unset, .unset, .unset, .unset, .unset, .unset, .unset, .unset, .unset, .unset, .unset, .unset, .unset, .unset, .unset, .unset, .unset] [])) s₂ ∧ s₂.status = .running ∧ Ended s₂ below o ∧ ∃ v L, o = .returned v ∧ (v = some (.int 1) ∧ Fr n0 L) ∧ FrameEnd s o s₂ L room_1.cells room_1.slots := by
  obtain ⟨st0, hst0⟩ : ∃ zst, zst = T0.setTop (mkF m 28 #[.val (.long x0), .second, iv x2, iv x3, iv x4, iv zs, iv sm, .unset, .unset, .unset, .unset, .unset, .unset, .unset, .unset, .unset, .unset, .unset, .unset, .unset, .unset, .unset, .unset, .unset, .unset, .unset] []) := ⟨_, rfl⟩
  have go0 : ∀ t, own_S p e below (T0.setTop (mkF m 28 #[.val (.long x0), .second, iv x2, iv x3, iv x4, iv zs, iv sm, .unset, .unset, .unset, .unset, .unset, .unset, .unset, .unset, .unset, .unset, .unset, .unset, .unset, .unset, .unset, .unset, .unset, .unset, .unset] [])) t → Steps p.tables e below st0 t := fun t k => by rw [hst0]; exact k
  rw [← hst0]
  have go1 : ∀ t, own_S p e below (T0.setTop (mkF m 42 #[.val (.long x0), .second, iv x2, iv x3, iv x4, iv zs, iv sm, .val (.int ((((x4.toUInt32 >>> ((2 : Int32) &&& 31).toUInt32).toInt32) &&& (255 : Int32)) % (3 : Int32))), .unset, .unset, .unset, .unset, .unset, .unset, .unset, .unset, .unset, .unset, .unset, .unset, .unset, .unset, .unset, .unset, .unset, .unset] [(.int ((((x4.toUInt32 >>> ((2 : Int32) &&& 31).toUInt32).toInt32) &&& (255 : Int32)) % (3 : Int32)))])) t → Steps p.tables e below st0 t := by
    intro t kt
    refine go0 t ?_
    refine XS.iload X0.here hx rfl (hb hby at_28) rfl ?_
    refine XS.iconst X0.here hx rfl (hb hby at_30) ?_
    show own_S p e below (T0.setTop (mkF m 31 #[.val (.long x0), .second, iv x2, iv x3, iv x4, iv zs, iv sm, .unset, .unset, .unset, .unset, .unset, .unset, .unset, .unset, .unset, .unset, .unset, .unset, .unset, .unset, .unset, .unset, .unset, .unset, .unset] [(.int 2), (.int x4)])) _
    refine XS.iushr X0.here hx rfl (hb hby at_31) rfl ?_
    refine XS.sipush X0.here hx rfl (hb hby at_32) ?_
    refine XS.iand X0.here hx rfl (hb hby at_35) rfl ?_
    refine XS.iconst X0.here hx rfl (hb hby at_36) ?_
    show own_S p e below (T0.setTop (mkF m 37 #[.val (.long x0), .second, iv x2, iv x3, iv x4, iv zs, iv sm, .unset, .unset, .unset, .unset, .unset, .unset, .unset, .unset, .unset, .unset, .unset, .unset, .unset, .unset, .unset, .unset, .unset, .unset, .unset] [(.int 3), (.int (((x4.toUInt32 >>> ((2 : Int32) &&& 31).toUInt32).toInt32) &&& (255 : Int32)))])) _
    refine iremM X0 hx rfl (hb hby at_37) rfl (by decide : ¬ ((3 : Int32) = (0 : Int32))) ?_
    show own_S p e below (T0.setTop (mkF m 38 #[.val (.long x0), .second, iv x2, iv x3, iv x4, iv zs, iv sm, .unset, .unset, .unset, .unset, .unset, .unset, .unset, .unset, .unset, .unset, .unset, .unset, .unset, .unset, .unset, .unset, .unset, .unset, .unset] [(.int ((((x4.toUInt32 >>> ((2 : Int32) &&& 31).toUInt32).toInt32) &&& (255 : Int32)) % (3 : Int32)))])) _
    refine XS.istore X0.here hx rfl (hb hby at_38) rfl (l' := #[.val (.long x0), .second, iv x2, iv x3, iv x4, iv zs, iv sm, .val (.int ((((x4.toUInt32 >>> ((2 : Int32) &&& 31).toUInt32).toInt32) &&& (255 : Int32)) % (3 : Int32))), .unset, .unset, .unset, .unset, .unset, .unset, .unset, .unset, .unset, .unset, .unset, .unset, .unset, .unset, .unset, .unset, .unset, .unset]) rfl ?_
    refine XS.iload X0.here hx rfl (hb hby at_40) rfl ?_
    show own_S p e below (T0.setTop (mkF m 42 #[.val (.long x0), .second, iv x2, iv x3, iv x4, iv zs, iv sm, .val (.int ((((x4.toUInt32 >>> ((2 : Int32) &&& 31).toUInt32).toInt32) &&& (255 : Int32)) % (3 : Int32))), .unset, .unset, .unset, .unset, .unset, .unset, .unset, .unset, .unset, .unset, .unset, .unset, .unset, .unset, .unset, .unset, .unset, .unset] [(.int ((((x4.toUInt32 >>> ((2 : Int32) &&& 31).toUInt32).toInt32) &&& (255 : Int32)) % (3 : Int32)))])) _
    exact kt
  by_cases hc2 : ((((x4.toUInt32 >>> ((2 : Int32) &&& 31).toUInt32).toInt32) &&& (255 : Int32)) % (3 : Int32)) = (0 : Int32)
  · skip
    obtain ⟨T3, X3, e3, st3⟩ := getS2 X0 hx hZ hown (host := "") (Or.inl (own_w hw 0 rfl)) Via.refl e0 (own_ST.s0 P0) (g := (mkF m 45 #[.val (.long x0), .second, iv x2, iv x3, iv x4, iv zs, iv sm, .val (.int ((((x4.toUInt32 >>> ((2 : Int32) &&& 31).toUInt32).toInt32) &&& (255 : Int32)) % (3 : Int32))), .unset, .unset, .unset, .unset, .unset, .unset, .unset, .unset, .unset, .unset, .unset, .unset, .unset, .unset, .unset, .unset, .unset, .unset] [])) rfl (hb hby at_45)
    have go5 : ∀ t, own_S p e below (T3.setTop (mkF m 68 #[.val (.long x0), .second, iv x2, iv x3, iv x4, iv zs, iv sm, .val (.int ((((x4.toUInt32 >>> ((2 : Int32) &&& 31).toUInt32).toInt32) &&& (255 : Int32)) % (3 : Int32))), rv ev, .unset, .unset, .unset, .unset, .unset, .unset, .unset, .unset, .unset, .unset, .unset, .unset, .unset, .unset, .unset, .unset, .unset] [])) t → Steps p.tables e below st0 t := by
      intro t kt
      refine go1 t ?_
      refine XS.ifNo X0.here hx rfl (hb hby at_42) rfl ((if0 _ _).trans (teq hc2).2) ?_
      show own_S p e below (T0.setTop (mkF m 45 #[.val (.long x0), .second, iv x2, iv x3, iv x4, iv zs, iv sm, .val (.int ((((x4.toUInt32 >>> ((2 : Int32) &&& 31).toUInt32).toInt32) &&& (255 : Int32)) % (3 : Int32))), .unset, .unset, .unset, .unset, .unset, .unset, .unset, .unset, .unset, .unset, .unset, .unset, .unset, .unset, .unset, .unset, .unset, .unset] [])) _
      refine st3 _ ?_
      show own_S p e below (T3.setTop (mkF m 48 #[.val (.long x0), .second, iv x2, iv x3, iv x4, iv zs, iv sm, .val (.int ((((x4.toUInt32 >>> ((2 : Int32) &&& 31).toUInt32).toInt32) &&& (255 : Int32)) % (3 : Int32))), .unset, .unset, .unset, .unset, .unset, .unset, .unset, .unset, .unset, .unset, .unset, .unset, .unset, .unset, .unset, .unset, .unset, .unset] [(.ref ev)])) _
      refine XS.goto X3.here hx rfl (pc0 := 48) (pc' := 66) rfl (hb hby at_48) (by decide) (by decide) ?_
      show own_S p e below (T3.setTop (mkF m 66 #[.val (.long x0), .second, iv x2, iv x3, iv x4, iv zs, iv sm, .val (.int ((((x4.toUInt32 >>> ((2 : Int32) &&& 31).toUInt32).toInt32) &&& (255 : Int32)) % (3 : Int32))), .unset, .unset, .unset, .unset, .unset, .unset, .unset, .unset, .unset, .unset, .unset, .unset, .unset, .unset, .unset, .unset, .unset, .unset] [(.ref ev)])) _
      refine XS.astore X3.here hx rfl (hb hby at_66) rfl rfl (l' := #[.val (.long x0), .second, iv x2, iv x3, iv x4, iv zs, iv sm, .val (.int ((((x4.toUInt32 >>> ((2 : Int32) &&& 31).toUInt32).toInt32) &&& (255 : Int32)) % (3 : Int32))), rv ev, .unset, .unset, .unset, .unset, .unset, .unset, .unset, .unset, .unset, .unset, .unset, .unset, .unset, .unset, .unset, .unset, .unset]) rfl ?_
      show own_S p e below (T3.setTop (mkF m 68 #[.val (.long x0), .second, iv x2, iv x3, iv x4, iv zs, iv sm, .val (.int ((((x4.toUInt32 >>> ((2 : Int32) &&& 31).toUInt32).toInt32) &&& (255 : Int32)) % (3 : Int32))), rv ev, .unset, .unset, .unset, .unset, .unset, .unset, .unset, .unset, .unset, .unset, .unset, .unset, .unset, .unset, .unset, .unset, .unset] [])) _
      exact kt
    obtain ⟨s₂, o₂, hs₂, hr₂⟩ := own_t68 x0 x2 x3 x4 zs sm ((((x4.toUInt32 >>> ((2 : Int32) &&& 31).toUInt32).toInt32) &&& (255 : Int32)) % (3 : Int32)) ev ev ns sg phS phF phA phD co X3 hx hZ hw hby hml hown e3 N0 Z0 hret hlk P0 P1 (Or.inl rfl)
    exact ⟨s₂, o₂, go5 _ hs₂, hr₂⟩
  · skip
    have go6 : ∀ t, own_S p e below (T0.setTop (mkF m 54 #[.val (.long x0), .second, iv x2, iv x3, iv x4, iv zs, iv sm, .val (.int ((((x4.toUInt32 >>> ((2 : Int32) &&& 31).toUInt32).toInt32) &&& (255 : Int32)) % (3 : Int32))), .unset, .unset, .unset, .unset, .unset, .unset, .unset, .unset, .unset, .unset, .unset, .unset, .unset, .unset, .unset, .unset, .unset, .unset] [(.int 1), (.int ((((x4.toUInt32 >>> ((2 : Int32) &&& 31).toUInt32).toInt32) &&& (255 : Int32)) % (3 : Int32)))])) t → Steps p.tables e below st0 t := by
      intro t kt
      refine go1 t ?_
      refine XS.ifYes X0.here hx rfl (pc0 := 42) (pc' := 51) rfl (hb hby at_42) rfl ((if0 _ _).trans (feq hc2).2) (by decide) (by decide) ?_
      refine XS.iload X0.here hx rfl (hb hby at_51) rfl ?_
      refine XS.iconst X0.here hx rfl (hb hby at_53) ?_
      show own_S p e below (T0.setTop (mkF m 54 #[.val (.long x0), .second, iv x2, iv x3, iv x4, iv zs, iv sm, .val (.int ((((x4.toUInt32 >>> ((2 : Int32) &&& 31).toUInt32).toInt32) &&& (255 : Int32)) % (3 : Int32))), .unset, .unset, .unset, .unset, .unset, .unset, .unset, .unset, .unset, .unset, .unset, .unset, .unset, .unset, .unset, .unset, .unset, .unset] [(.int 1), (.int ((((x4.toUInt32 >>> ((2 : Int32) &&& 31).toUInt32).toInt32) &&& (255 : Int32)) % (3 : Int32)))])) _
      exact kt
    by_cases hc7 : ((((x4.toUInt32 >>> ((2 : Int32) &&& 31).toUInt32).toInt32) &&& (255 : Int32)) % (3 : Int32)) = (1 : Int32)
    · skip
      obtain ⟨T8, X8, e8, st8⟩ := getS2 X0 hx hZ hown (host := "") (Or.inl (own_w hw 119 rfl)) Via.refl e0 (own_ST.s1 P0) (g := (mkF m 57 #[.val (.long x0), .second, iv x2, iv x3, iv x4, iv zs, iv sm, .val (.int ((((x4.toUInt32 >>> ((2 : Int32) &&& 31).toUInt32).toInt32) &&& (255 : Int32)) % (3 : Int32))), .unset, .unset, .unset, .unset, .unset, .unset, .unset, .unset, .unset, .unset, .unset, .unset, .unset, .unset, .unset, .unset, .unset, .unset] [])) rfl (hb hby at_57)
      have go10 : ∀ t, own_S p e below (T8.setTop (mkF m 68 #[.val (.long x0), .second, iv x2, iv x3, iv x4, iv zs, iv sm, .val (.int ((((x4.toUInt32 >>> ((2 : Int32) &&& 31).toUInt32).toInt32) &&& (255 : Int32)) % (3 : Int32))), rv ns, .unset, .unset, .unset, .unset, .unset, .unset, .unset, .unset, .unset, .unset, .unset, .unset, .unset, .unset, .unset, .unset, .unset] [])) t → Steps p.tables e below st0 t := by
        intro t kt
        refine go6 t ?_
        refine XS.icmpNo X0.here hx rfl (hb hby at_54) rfl (teq hc7).2 ?_
        show own_S p e below (T0.setTop (mkF m 57 #[.val (.long x0), .second, iv x2, iv x3, iv x4, iv zs, iv sm, .val (.int ((((x4.toUInt32 >>> ((2 : Int32) &&& 31).toUInt32).toInt32) &&& (255 : Int32)) % (3 : Int32))), .unset, .unset, .unset, .unset, .unset, .unset, .unset, .unset, .unset, .unset, .unset, .unset, .unset, .unset, .unset, .unset, .unset, .unset] [])) _
        refine st8 _ ?_
        show own_S p e below (T8.setTop (mkF m 60 #[.val (.long x0), .second, iv x2, iv x3, iv x4, iv zs, iv sm, .val (.int ((((x4.toUInt32 >>> ((2 : Int32) &&& 31).toUInt32).toInt32) &&& (255 : Int32)) % (3 : Int32))), .unset, .unset, .unset, .unset, .unset, .unset, .unset, .unset, .unset, .unset, .unset, .unset, .unset, .unset, .unset, .unset, .unset, .unset] [(.ref ns)])) _
        refine XS.goto X8.here hx rfl (pc0 := 60) (pc' := 66) rfl (hb hby at_60) (by decide) (by decide) ?_
        show own_S p e below (T8.setTop (mkF m 66 #[.val (.long x0), .second, iv x2, iv x3, iv x4, iv zs, iv sm, .val (.int ((((x4.toUInt32 >>> ((2 : Int32) &&& 31).toUInt32).toInt32) &&& (255 : Int32)) % (3 : Int32))), .unset, .unset, .unset, .unset, .unset, .unset, .unset, .unset, .unset, .unset, .unset, .unset, .unset, .unset, .unset, .unset, .unset, .unset] [(.ref ns)])) _
        refine XS.astore X8.here hx rfl (hb hby at_66) rfl rfl (l' := #[.val (.long x0), .second, iv x2, iv x3, iv x4, iv zs, iv sm, .val (.int ((((x4.toUInt32 >>> ((2 : Int32) &&& 31).toUInt32).toInt32) &&& (255 : Int32)) % (3 : Int32))), rv ns, .unset, .unset, .unset, .unset, .unset, .unset, .unset, .unset, .unset, .unset, .unset, .unset, .unset, .unset, .unset, .unset, .unset]) rfl ?_
        show own_S p e below (T8.setTop (mkF m 68 #[.val (.long x0), .second, iv x2, iv x3, iv x4, iv zs, iv sm, .val (.int ((((x4.toUInt32 >>> ((2 : Int32) &&& 31).toUInt32).toInt32) &&& (255 : Int32)) % (3 : Int32))), rv ns, .unset, .unset, .unset, .unset, .unset, .unset, .unset, .unset, .unset, .unset, .unset, .unset, .unset, .unset, .unset, .unset, .unset] [])) _
        exact kt
      obtain ⟨s₂, o₂, hs₂, hr₂⟩ := own_t68 x0 x2 x3 x4 zs sm ((((x4.toUInt32 >>> ((2 : Int32) &&& 31).toUInt32).toInt32) &&& (255 : Int32)) % (3 : Int32)) ns ev ns sg phS phF phA phD co X8 hx hZ hw hby hml hown e8 N0 Z0 hret hlk P0 P1 (Or.inr (Or.inl rfl))
      exact ⟨s₂, o₂, go10 _ hs₂, hr₂⟩
    · skip
      obtain ⟨T11, X11, e11, st11⟩ := getS2 X0 hx hZ hown (host := "") (Or.inl (own_w hw 122 rfl)) Via.refl e0 (own_ST.s2 P0) (g := (mkF m 63 #[.val (.long x0), .second, iv x2, iv x3, iv x4, iv zs, iv sm, .val (.int ((((x4.toUInt32 >>> ((2 : Int32) &&& 31).toUInt32).toInt32) &&& (255 : Int32)) % (3 : Int32))), .unset, .unset, .unset, .unset, .unset, .unset, .unset, .unset, .unset, .unset, .unset, .unset, .unset, .unset, .unset, .unset, .unset, .unset] [])) rfl (hb hby at_63)
      have go13 : ∀ t, own_S p e below (T11.setTop (mkF m 68 #[.val (.long x0), .second, iv x2, iv x3, iv x4, iv zs, iv sm, .val (.int ((((x4.toUInt32 >>> ((2 : Int32) &&& 31).toUInt32).toInt32) &&& (255 : Int32)) % (3 : Int32))), rv sg, .unset, .unset, .unset, .unset, .unset, .unset, .unset, .unset, .unset, .unset, .unset, .unset, .unset, .unset, .unset, .unset, .unset] [])) t → Steps p.tables e below st0 t := by
        intro t kt
        refine go6 t ?_
        refine XS.icmpYes X0.here hx rfl (pc0 := 54) (pc' := 63) rfl (hb hby at_54) rfl (feq hc7).2 (by decide) (by decide) ?_
        show own_S p e below (T0.setTop (mkF m 63 #[.val (.long x0), .second, iv x2, iv x3, iv x4, iv zs, iv sm, .val (.int ((((x4.toUInt32 >>> ((2 : Int32) &&& 31).toUInt32).toInt32) &&& (255 : Int32)) % (3 : Int32))), .unset, .unset, .unset, .unset, .unset, .unset, .unset, .unset, .unset, .unset, .unset, .unset, .unset, .unset, .unset, .unset, .unset, .unset] [])) _
        refine st11 _ ?_
        show own_S p e below (T11.setTop (mkF m 66 #[.val (.long x0), .second, iv x2, iv x3, iv x4, iv zs, iv sm, .val (.int ((((x4.toUInt32 >>> ((2 : Int32) &&& 31).toUInt32).toInt32) &&& (255 : Int32)) % (3 : Int32))), .unset, .unset, .unset, .unset, .unset, .unset, .unset, .unset, .unset, .unset, .unset, .unset, .unset, .unset, .unset, .unset, .unset, .unset] [(.ref sg)])) _
        refine XS.astore X11.here hx rfl (hb hby at_66) rfl rfl (l' := #[.val (.long x0), .second, iv x2, iv x3, iv x4, iv zs, iv sm, .val (.int ((((x4.toUInt32 >>> ((2 : Int32) &&& 31).toUInt32).toInt32) &&& (255 : Int32)) % (3 : Int32))), rv sg, .unset, .unset, .unset, .unset, .unset, .unset, .unset, .unset, .unset, .unset, .unset, .unset, .unset, .unset, .unset, .unset, .unset]) rfl ?_
        show own_S p e below (T11.setTop (mkF m 68 #[.val (.long x0), .second, iv x2, iv x3, iv x4, iv zs, iv sm, .val (.int ((((x4.toUInt32 >>> ((2 : Int32) &&& 31).toUInt32).toInt32) &&& (255 : Int32)) % (3 : Int32))), rv sg, .unset, .unset, .unset, .unset, .unset, .unset, .unset, .unset, .unset, .unset, .unset, .unset, .unset, .unset, .unset, .unset, .unset] [])) _
        exact kt
      obtain ⟨s₂, o₂, hs₂, hr₂⟩ := own_t68 x0 x2 x3 x4 zs sm ((((x4.toUInt32 >>> ((2 : Int32) &&& 31).toUInt32).toInt32) &&& (255 : Int32)) % (3 : Int32)) sg ev ns sg phS phF phA phD co X11 hx hZ hw hby hml hown e11 N0 Z0 hret hlk P0 P1 (Or.inr (Or.inr rfl))
      exact ⟨s₂, o₂, go13 _ hs₂, hr₂⟩
theorem ef_own_law (m : MethodId) (pj0 : Int64) (pi1 : Int32) (pi2 : Int32) (pi3 : Int32) : entryFrame m #[(.long pj0), (.int pi1), (.int pi2), (.int pi3)] maxLocals = mkF m 0 #[.val (.long pj0), .second, iv pi1, iv pi2, iv pi3, .unset, .unset, .unset, .unset, .unset, .unset, .unset, .unset, .unset, .unset, .unset, .unset, .unset, .unset, .unset, .unset, .unset, .unset, .unset, .unset, .unset] [] := by first | (simp [entryFrame, mkF, argsToLocals, Value.category, maxLocals]; done) | rfl
def Q_own_law (Z : State) (pj0 : Int64) (pi1 : Int32) (pi2 : Int32) (pi3 : Int32) (ev : Addr) (ns : Addr) (sg : Addr) (phS : Addr) (phF : Addr) (phA : Addr) (phD : Addr) (co : Addr) (h0 : Heap) (n0 : Nat) (v : Option Value) (h : Heap) (L : List Loc) : Prop := v = some (.int 1) ∧ Fr n0 L
set_option maxRecDepth 65536 in
set_option maxHeartbeats 40000000 in
theorem own_law (l : Launch) (Z : State) (a0 : Array Value) (hw : ∀ d ∈ tables_1, d.before a0 Z = true) (ws : List Jvm.Cond) (pj0 : Int64) (pi1 : Int32) (pi2 : Int32) (pi3 : Int32) (ev : Addr) (ns : Addr) (sg : Addr) (phS : Addr) (phF : Addr) (phA : Addr) (phD : Addr) (co : Addr) (h0 : Heap) (n0 : Nat) (Z0 : n0 ≤ h0.size) (P0 : own_ST Z h0 ev ns sg phS phF phA phD co) (P1 : own_NN ev ns sg phS phF phA phD co) :
    MetFree l x (head1 (Jvm.Cond.code x code maxLocals ret :: ws) room_1) (fun a U => a = #[(.long pj0), (.int pi1), (.int pi2), (.int pi3)] ∧ Z.Warmed39 U.vm ∧ U.heap = h0) (fun _ _ _ _ _ => True) (fun _ U o U' => ∃ v L, o = .returned v ∧ Q_own_law Z pj0 pi1 pi2 pi3 ev ns sg phS phF phA phD co h0 n0 v U'.heap L ∧ FrameEnd U o U' L room_1.cells room_1.slots) := by
  refine MetFree.of_bodySF (plainFor_of_name pn_34) hisR ?_
  intro p e s m args below meth c s₁ Bd hml0 hP hK
  obtain ⟨rfl, hZ, hh⟩ := hP
  have hx := Bd.exec
  have hby := Bd.bytes
  have hml : c.maxLocals = 26 := hml0
  have hown : s.vm.findClass own_s11 = some m.cls := findClass_of_methodNamed Bd.named
  have hnm := (name_of_methodNamed Bd.named Bd.method).1
  have X0 : Stand p l e room_1 s m #[(.long pj0), (.int pi1), (.int pi2), (.int pi3)] below meth c s₁ [] 0 0 := Stand.of_body Bd
  have e0 : s₁.heap = h0 := by rw [← hh, Bd.state]; rfl
  have N0 := Fr.nil n0
  have go0 : ∀ t, own_S p e below (s₁.setTop (mkF m 0 #[.val (.long pj0), .second, iv pi1, iv pi2, iv pi3, .unset, .unset, .unset, .unset, .unset, .unset, .unset, .unset, .unset, .unset, .unset, .unset, .unset, .unset, .unset, .unset, .unset, .unset, .unset, .unset, .unset] [])) t → Steps p.tables e below (s₁.setTop (entryFrame m #[(.long pj0), (.int pi1), (.int pi2), (.int pi3)] maxLocals)) t := fun t k => castTop (ef_own_law m pj0 pi1 pi2 pi3) k
  revert go0
  generalize s₁.setTop (entryFrame m #[(.long pj0), (.int pi1), (.int pi2), (.int pi3)] maxLocals) = st0
  intro go0
  have go1 : ∀ t, own_S p e below (s₁.setTop (mkF m 4 #[.val (.long pj0), .second, iv pi1, iv pi2, iv pi3, .unset, .unset, .unset, .unset, .unset, .unset, .unset, .unset, .unset, .unset, .unset, .unset, .unset, .unset, .unset, .unset, .unset, .unset, .unset, .unset, .unset] [(.int (pi3 &&& (1 : Int32)))])) t → Steps p.tables e below st0 t := by
    intro t kt
    refine go0 t ?_
    refine XS.iload X0.here hx rfl (hb hby at_0) rfl ?_
    refine XS.iconst X0.here hx rfl (hb hby at_2) ?_
    refine XS.iand X0.here hx rfl (hb hby at_3) rfl ?_
    show own_S p e below (s₁.setTop (mkF m 4 #[.val (.long pj0), .second, iv pi1, iv pi2, iv pi3, .unset, .unset, .unset, .unset, .unset, .unset, .unset, .unset, .unset, .unset, .unset, .unset, .unset, .unset, .unset, .unset, .unset, .unset, .unset, .unset, .unset] [(.int (pi3 &&& (1 : Int32)))])) _
    exact kt
  by_cases hc2 : (pi3 &&& (1 : Int32)) = (0 : Int32)
  · skip
    have go3 : ∀ t, own_S p e below (s₁.setTop (mkF m 18 #[.val (.long pj0), .second, iv pi1, iv pi2, iv pi3, iv 0, .unset, .unset, .unset, .unset, .unset, .unset, .unset, .unset, .unset, .unset, .unset, .unset, .unset, .unset, .unset, .unset, .unset, .unset, .unset, .unset] [(.int (pi3 &&& (2 : Int32)))])) t → Steps p.tables e below st0 t := by
      intro t kt
      refine go1 t ?_
      refine XS.ifYes X0.here hx rfl (pc0 := 4) (pc' := 11) rfl (hb hby at_4) rfl ((if0 _ _).trans (teq hc2).1) (by decide) (by decide) ?_
      refine XS.iconst X0.here hx rfl (hb hby at_11) ?_
      show own_S p e below (s₁.setTop (mkF m 12 #[.val (.long pj0), .second, iv pi1, iv pi2, iv pi3, .unset, .unset, .unset, .unset, .unset, .unset, .unset, .unset, .unset, .unset, .unset, .unset, .unset, .unset, .unset, .unset, .unset, .unset, .unset, .unset, .unset] [(.int 0)])) _
      refine XS.istore X0.here hx rfl (hb hby at_12) rfl (l' := #[.val (.long pj0), .second, iv pi1, iv pi2, iv pi3, iv 0, .unset, .unset, .unset, .unset, .unset, .unset, .unset, .unset, .unset, .unset, .unset, .unset, .unset, .unset, .unset, .unset, .unset, .unset, .unset, .unset]) rfl ?_
      refine XS.iload X0.here hx rfl (hb hby at_14) rfl ?_
      refine XS.iconst X0.here hx rfl (hb hby at_16) ?_
      refine XS.iand X0.here hx rfl (hb hby at_17) rfl ?_
      show own_S p e below (s₁.setTop (mkF m 18 #[.val (.long pj0), .second, iv pi1, iv pi2, iv pi3, iv 0, .unset, .unset, .unset, .unset, .unset, .unset, .unset, .unset, .unset, .unset, .unset, .unset, .unset, .unset, .unset, .unset, .unset, .unset, .unset, .unset] [(.int (pi3 &&& (2 : Int32)))])) _
      exact kt
    by_cases hc4 : (pi3 &&& (2 : Int32)) = (0 : Int32)
    · skip
      have go6 : ∀ t, own_S p e below (s₁.setTop (mkF m 28 #[.val (.long pj0), .second, iv pi1, iv pi2, iv pi3, iv 0, iv 0, .unset, .unset, .unset, .unset, .unset, .unset, .unset, .unset, .unset, .unset, .unset, .unset, .unset, .unset, .unset, .unset, .unset, .unset, .unset] [])) t → Steps p.tables e below st0 t := by
        intro t kt
        refine go3 t ?_
        refine XS.ifYes X0.here hx rfl (pc0 := 18) (pc' := 25) rfl (hb hby at_18) rfl ((if0 _ _).trans (teq hc4).1) (by decide) (by decide) ?_
        refine XS.iconst X0.here hx rfl (hb hby at_25) ?_
        show own_S p e below (s₁.setTop (mkF m 26 #[.val (.long pj0), .second, iv pi1, iv pi2, iv pi3, iv 0, .unset, .unset, .unset, .unset, .unset, .unset, .unset, .unset, .unset, .unset, .unset, .unset, .unset, .unset, .unset, .unset, .unset, .unset, .unset, .unset] [(.int 0)])) _
        refine XS.istore X0.here hx rfl (hb hby at_26) rfl (l' := #[.val (.long pj0), .second, iv pi1, iv pi2, iv pi3, iv 0, iv 0, .unset, .unset, .unset, .unset, .unset, .unset, .unset, .unset, .unset, .unset, .unset, .unset, .unset, .unset, .unset, .unset, .unset, .unset, .unset]) rfl ?_
        show own_S p e below (s₁.setTop (mkF m 28 #[.val (.long pj0), .second, iv pi1, iv pi2, iv pi3, iv 0, iv 0, .unset, .unset, .unset, .unset, .unset, .unset, .unset, .unset, .unset, .unset, .unset, .unset, .unset, .unset, .unset, .unset, .unset, .unset, .unset] [])) _
        exact kt
      obtain ⟨s₂, o₂, hs₂, hr₂⟩ := own_t28 pj0 pi1 pi2 pi3 (0 : Int32) (0 : Int32) ev ns sg phS phF phA phD co X0 hx hZ hw hby hml hown e0 N0 Z0 Bd.returns (BodyLoose.notSynchronized Bd) P0 P1
      exact ⟨s₂, o₂, go6 _ hs₂, hr₂⟩
    · skip
      have go8 : ∀ t, own_S p e below (s₁.setTop (mkF m 28 #[.val (.long pj0), .second, iv pi1, iv pi2, iv pi3, iv 0, iv 1, .unset, .unset, .unset, .unset, .unset, .unset, .unset, .unset, .unset, .unset, .unset, .unset, .unset, .unset, .unset, .unset, .unset, .unset, .unset] [])) t → Steps p.tables e below st0 t := by
        intro t kt
        refine go3 t ?_
        refine XS.ifNo X0.here hx rfl (hb hby at_18) rfl ((if0 _ _).trans (feq hc4).1) ?_
        refine XS.iconst X0.here hx rfl (hb hby at_21) ?_
        show own_S p e below (s₁.setTop (mkF m 22 #[.val (.long pj0), .second, iv pi1, iv pi2, iv pi3, iv 0, .unset, .unset, .unset, .unset, .unset, .unset, .unset, .unset, .unset, .unset, .unset, .unset, .unset, .unset, .unset, .unset, .unset, .unset, .unset, .unset] [(.int 1)])) _
        refine XS.goto X0.here hx rfl (pc0 := 22) (pc' := 26) rfl (hb hby at_22) (by decide) (by decide) ?_
        show own_S p e below (s₁.setTop (mkF m 26 #[.val (.long pj0), .second, iv pi1, iv pi2, iv pi3, iv 0, .unset, .unset, .unset, .unset, .unset, .unset, .unset, .unset, .unset, .unset, .unset, .unset, .unset, .unset, .unset, .unset, .unset, .unset, .unset, .unset] [(.int 1)])) _
        refine XS.istore X0.here hx rfl (hb hby at_26) rfl (l' := #[.val (.long pj0), .second, iv pi1, iv pi2, iv pi3, iv 0, iv 1, .unset, .unset, .unset, .unset, .unset, .unset, .unset, .unset, .unset, .unset, .unset, .unset, .unset, .unset, .unset, .unset, .unset, .unset, .unset]) rfl ?_
        show own_S p e below (s₁.setTop (mkF m 28 #[.val (.long pj0), .second, iv pi1, iv pi2, iv pi3, iv 0, iv 1, .unset, .unset, .unset, .unset, .unset, .unset, .unset, .unset, .unset, .unset, .unset, .unset, .unset, .unset, .unset, .unset, .unset, .unset, .unset] [])) _
        exact kt
      obtain ⟨s₂, o₂, hs₂, hr₂⟩ := own_t28 pj0 pi1 pi2 pi3 (0 : Int32) (1 : Int32) ev ns sg phS phF phA phD co X0 hx hZ hw hby hml hown e0 N0 Z0 Bd.returns (BodyLoose.notSynchronized Bd) P0 P1
      exact ⟨s₂, o₂, go8 _ hs₂, hr₂⟩
  · skip
    have go9 : ∀ t, own_S p e below (s₁.setTop (mkF m 18 #[.val (.long pj0), .second, iv pi1, iv pi2, iv pi3, iv 1, .unset, .unset, .unset, .unset, .unset, .unset, .unset, .unset, .unset, .unset, .unset, .unset, .unset, .unset, .unset, .unset, .unset, .unset, .unset, .unset] [(.int (pi3 &&& (2 : Int32)))])) t → Steps p.tables e below st0 t := by
      intro t kt
      refine go1 t ?_
      refine XS.ifNo X0.here hx rfl (hb hby at_4) rfl ((if0 _ _).trans (feq hc2).1) ?_
      refine XS.iconst X0.here hx rfl (hb hby at_7) ?_
      show own_S p e below (s₁.setTop (mkF m 8 #[.val (.long pj0), .second, iv pi1, iv pi2, iv pi3, .unset, .unset, .unset, .unset, .unset, .unset, .unset, .unset, .unset, .unset, .unset, .unset, .unset, .unset, .unset, .unset, .unset, .unset, .unset, .unset, .unset] [(.int 1)])) _
      refine XS.goto X0.here hx rfl (pc0 := 8) (pc' := 12) rfl (hb hby at_8) (by decide) (by decide) ?_
      show own_S p e below (s₁.setTop (mkF m 12 #[.val (.long pj0), .second, iv pi1, iv pi2, iv pi3, .unset, .unset, .unset, .unset, .unset, .unset, .unset, .unset, .unset, .unset, .unset, .unset, .unset, .unset, .unset, .unset, .unset, .unset, .unset, .unset, .unset] [(.int 1)])) _
      refine XS.istore X0.here hx rfl (hb hby at_12) rfl (l' := #[.val (.long pj0), .second, iv pi1, iv pi2, iv pi3, iv 1, .unset, .unset, .unset, .unset, .unset, .unset, .unset, .unset, .unset, .unset, .unset, .unset, .unset, .unset, .unset, .unset, .unset, .unset, .unset, .unset]) rfl ?_
      refine XS.iload X0.here hx rfl (hb hby at_14) rfl ?_
      refine XS.iconst X0.here hx rfl (hb hby at_16) ?_
      refine XS.iand X0.here hx rfl (hb hby at_17) rfl ?_
      show own_S p e below (s₁.setTop (mkF m 18 #[.val (.long pj0), .second, iv pi1, iv pi2, iv pi3, iv 1, .unset, .unset, .unset, .unset, .unset, .unset, .unset, .unset, .unset, .unset, .unset, .unset, .unset, .unset, .unset, .unset, .unset, .unset, .unset, .unset] [(.int (pi3 &&& (2 : Int32)))])) _
      exact kt
    by_cases hc10 : (pi3 &&& (2 : Int32)) = (0 : Int32)
    · skip
      have go12 : ∀ t, own_S p e below (s₁.setTop (mkF m 28 #[.val (.long pj0), .second, iv pi1, iv pi2, iv pi3, iv 1, iv 0, .unset, .unset, .unset, .unset, .unset, .unset, .unset, .unset, .unset, .unset, .unset, .unset, .unset, .unset, .unset, .unset, .unset, .unset, .unset] [])) t → Steps p.tables e below st0 t := by
        intro t kt
        refine go9 t ?_
        refine XS.ifYes X0.here hx rfl (pc0 := 18) (pc' := 25) rfl (hb hby at_18) rfl ((if0 _ _).trans (teq hc10).1) (by decide) (by decide) ?_
        refine XS.iconst X0.here hx rfl (hb hby at_25) ?_
        show own_S p e below (s₁.setTop (mkF m 26 #[.val (.long pj0), .second, iv pi1, iv pi2, iv pi3, iv 1, .unset, .unset, .unset, .unset, .unset, .unset, .unset, .unset, .unset, .unset, .unset, .unset, .unset, .unset, .unset, .unset, .unset, .unset, .unset, .unset] [(.int 0)])) _
        refine XS.istore X0.here hx rfl (hb hby at_26) rfl (l' := #[.val (.long pj0), .second, iv pi1, iv pi2, iv pi3, iv 1, iv 0, .unset, .unset, .unset, .unset, .unset, .unset, .unset, .unset, .unset, .unset, .unset, .unset, .unset, .unset, .unset, .unset, .unset, .unset, .unset]) rfl ?_
        show own_S p e below (s₁.setTop (mkF m 28 #[.val (.long pj0), .second, iv pi1, iv pi2, iv pi3, iv 1, iv 0, .unset, .unset, .unset, .unset, .unset, .unset, .unset, .unset, .unset, .unset, .unset, .unset, .unset, .unset, .unset, .unset, .unset, .unset, .unset] [])) _
        exact kt
      obtain ⟨s₂, o₂, hs₂, hr₂⟩ := own_t28 pj0 pi1 pi2 pi3 (1 : Int32) (0 : Int32) ev ns sg phS phF phA phD co X0 hx hZ hw hby hml hown e0 N0 Z0 Bd.returns (BodyLoose.notSynchronized Bd) P0 P1
      exact ⟨s₂, o₂, go12 _ hs₂, hr₂⟩
    · skip
      have go14 : ∀ t, own_S p e below (s₁.setTop (mkF m 28 #[.val (.long pj0), .second, iv pi1, iv pi2, iv pi3, iv 1, iv 1, .unset, .unset, .unset, .unset, .unset, .unset, .unset, .unset, .unset, .unset, .unset, .unset, .unset, .unset, .unset, .unset, .unset, .unset, .unset] [])) t → Steps p.tables e below st0 t := by
        intro t kt
        refine go9 t ?_
        refine XS.ifNo X0.here hx rfl (hb hby at_18) rfl ((if0 _ _).trans (feq hc10).1) ?_
        refine XS.iconst X0.here hx rfl (hb hby at_21) ?_
        show own_S p e below (s₁.setTop (mkF m 22 #[.val (.long pj0), .second, iv pi1, iv pi2, iv pi3, iv 1, .unset, .unset, .unset, .unset, .unset, .unset, .unset, .unset, .unset, .unset, .unset, .unset, .unset, .unset, .unset, .unset, .unset, .unset, .unset, .unset] [(.int 1)])) _
        refine XS.goto X0.here hx rfl (pc0 := 22) (pc' := 26) rfl (hb hby at_22) (by decide) (by decide) ?_
        show own_S p e below (s₁.setTop (mkF m 26 #[.val (.long pj0), .second, iv pi1, iv pi2, iv pi3, iv 1, .unset, .unset, .unset, .unset, .unset, .unset, .unset, .unset, .unset, .unset, .unset, .unset, .unset, .unset, .unset, .unset, .unset, .unset, .unset, .unset] [(.int 1)])) _
        refine XS.istore X0.here hx rfl (hb hby at_26) rfl (l' := #[.val (.long pj0), .second, iv pi1, iv pi2, iv pi3, iv 1, iv 1, .unset, .unset, .unset, .unset, .unset, .unset, .unset, .unset, .unset, .unset, .unset, .unset, .unset, .unset, .unset, .unset, .unset, .unset, .unset]) rfl ?_
        show own_S p e below (s₁.setTop (mkF m 28 #[.val (.long pj0), .second, iv pi1, iv pi2, iv pi3, iv 1, iv 1, .unset, .unset, .unset, .unset, .unset, .unset, .unset, .unset, .unset, .unset, .unset, .unset, .unset, .unset, .unset, .unset, .unset, .unset, .unset] [])) _
        exact kt
      obtain ⟨s₂, o₂, hs₂, hr₂⟩ := own_t28 pj0 pi1 pi2 pi3 (1 : Int32) (1 : Int32) ev ns sg phS phF phA phD co X0 hx hZ hw hby hml hown e0 N0 Z0 Bd.returns (BodyLoose.notSynchronized Bd) P0 P1
      exact ⟨s₂, o₂, go14 _ hs₂, hr₂⟩
set_option maxRecDepth 65536 in
set_option maxHeartbeats 40000000 in
theorem comes_1 {Post : Tables → Env → Array Value → State → Outcome → State → Prop} (hpost : ∀ tb e args s v u, (limb_1_1.after args s (.returned v) u = true ∧ limb_1_2.after args s (.returned v) u = true ∧ True) → FrameEnd s (.returned v) u (Jvm.fieldLocs frame_1_writes args s ++ Jvm.arrayLocs frame_1_arrays args s ++ Jvm.staticLocs frame_1_statics s) 24 256 → Post tb e args s (.returned v) u) :
    ArmFor flags0 classFile x code maxLocals ret World_1 tables_1 room_1 Calls_1 rest_1 Pre_1 Post := by
  intro l hfl _ _ p e ha hc hk s m args below hf hA hF happ hP
  obtain ⟨hcalls, hrest, hpre⟩ := hP
  obtain ⟨-, -, -, hnamed, -, -, -, hat⟩ := (Spec.applies_iff hf).mp happ
  obtain ⟨hg, hn⟩ := and_e (Cond.before_iff.mp (show (Jvm.Cond.and given_1 narrow_1).before args s = true from hpre))
  obtain ⟨g1a, g1b⟩ := and_e hg
  obtain ⟨g2a, g2b⟩ := and_e g1b
  obtain ⟨g3a, g3b⟩ := and_e g2b
  obtain ⟨g4a, g4b⟩ := and_e g3b
  obtain ⟨w0, w1, w2, w3, rfl⟩ : ∃ w0 w1 w2 w3 : Value, args = #[w0, w1, w2, w3] := by
    have hs : args.size = 4 := by simpa [Cond.value, given_1] using g1a
    obtain ⟨L⟩ := args
    match L, hs with
    | [w0, w1, w2, w3], _ => exact ⟨w0, w1, w2, w3, rfl⟩
  have hw := fun d (hd : d ∈ tables_1) => atoms_spec (ws := Jvm.Cond.code x code maxLocals ret :: tables_1) hat d (List.mem_cons_of_mem _ hd)
  have hfit : Fit s := fun {y c} hc i hi => by
    obtain ⟨ha, rfl⟩ := Array.getElem?_eq_some_iff.mp hc
    have q := List.all_eq_true.mp ((Array.all_eq_true_iff_forall_mem.mp hF) _ (Array.getElem_mem ha)) i (List.mem_range.mpr hi)
    simpa [Array.getElem?_eq_getElem hi] using q
  obtain ⟨i0, ei0⟩ := isL_v g2a
  obtain rfl : w0 = (.long i0) := Option.some.inj ei0
  obtain ⟨i1, ei1⟩ := is_v g3a
  obtain rfl : w1 = (.int i1) := Option.some.inj ei1
  obtain ⟨i2, ei2⟩ := is_v g4a
  obtain rfl : w2 = (.int i2) := Option.some.inj ei2
  obtain ⟨i3, ei3⟩ := is_v g4b
  obtain rfl : w3 = (.int i3) := Option.some.inj ei3
  obtain ⟨g5a, g5b⟩ := and_e hn
  obtain ⟨g6a, g6b⟩ := and_e g5b
  obtain ⟨g7a, g7b⟩ := and_e g6b
  obtain ⟨g8a, g8b⟩ := and_e g7b
  obtain ⟨g9a, g9b⟩ := and_e g8b
  obtain ⟨g10a, g10b⟩ := and_e g9b
  obtain ⟨g11a, g11b⟩ := and_e g10b
  obtain ⟨g12a, g12b⟩ := and_e g11b
  obtain ⟨g13a, g13b⟩ := and_e g12b
  obtain ⟨g14a, g14b⟩ := and_e g13b
  obtain ⟨g15a, g15b⟩ := and_e g14b
  obtain ⟨g16a, g16b⟩ := and_e g15b
  obtain ⟨g17a, g17b⟩ := and_e g16b
  obtain ⟨g18a, g18b⟩ := and_e g17b
  obtain ⟨v_ValueLengths_Count_EVERY, ev_v_ValueLengths_Count_EVERY⟩ := exa_v g5a
  have E_v_ValueLengths_Count_EVERY : Exa s s.heap v_ValueLengths_Count_EVERY own_s7 := Exa.start ev_v_ValueLengths_Count_EVERY g5a
  have S_v_ValueLengths_Count_EVERY : Sta s s.heap own_s7 "EVERY" own_s1 (.ref v_ValueLengths_Count_EVERY) := Sta.start ev_v_ValueLengths_Count_EVERY (Or.inr ⟨(own_w hw 1 rfl), (own_w hw 2 rfl)⟩)
  obtain ⟨v_ValueText_Phase_START, ev_v_ValueText_Phase_START⟩ := exa_v g6a
  have E_v_ValueText_Phase_START : Exa s s.heap v_ValueText_Phase_START own_s9 := Exa.start ev_v_ValueText_Phase_START g6a
  have S_v_ValueText_Phase_START : Sta s s.heap own_s9 "START" own_s4 (.ref v_ValueText_Phase_START) := Sta.start ev_v_ValueText_Phase_START (Or.inr ⟨(own_w hw 75 rfl), (own_w hw 76 rfl)⟩)
  obtain ⟨v_ValueLengths_Count_SIGNIFICANT, ev_v_ValueLengths_Count_SIGNIFICANT⟩ := exa_v g7a
  have E_v_ValueLengths_Count_SIGNIFICANT : Exa s s.heap v_ValueLengths_Count_SIGNIFICANT own_s7 := Exa.start ev_v_ValueLengths_Count_SIGNIFICANT g7a
  have S_v_ValueLengths_Count_SIGNIFICANT : Sta s s.heap own_s7 "SIGNIFICANT" own_s1 (.ref v_ValueLengths_Count_SIGNIFICANT) := Sta.start ev_v_ValueLengths_Count_SIGNIFICANT (Or.inr ⟨(own_w hw 1 rfl), (own_w hw 95 rfl)⟩)
  obtain ⟨v_ValueText_Role_COUNTED, ev_v_ValueText_Role_COUNTED⟩ := exa_v g10a
  have E_v_ValueText_Role_COUNTED : Exa s s.heap v_ValueText_Role_COUNTED own_s10 := Exa.start ev_v_ValueText_Role_COUNTED g10a
  have S_v_ValueText_Role_COUNTED : Sta s s.heap own_s10 "COUNTED" own_s5 (.ref v_ValueText_Role_COUNTED) := Sta.start ev_v_ValueText_Role_COUNTED (Or.inr ⟨(own_w hw 112 rfl), (own_w hw 113 rfl)⟩)
  obtain ⟨v_ValueLengths_Count_NOT_SPACE, ev_v_ValueLengths_Count_NOT_SPACE⟩ := exa_v g11a
  have E_v_ValueLengths_Count_NOT_SPACE : Exa s s.heap v_ValueLengths_Count_NOT_SPACE own_s7 := Exa.start ev_v_ValueLengths_Count_NOT_SPACE g11a
  have S_v_ValueLengths_Count_NOT_SPACE : Sta s s.heap own_s7 "NOT_SPACE" own_s1 (.ref v_ValueLengths_Count_NOT_SPACE) := Sta.start ev_v_ValueLengths_Count_NOT_SPACE (Or.inr ⟨(own_w hw 1 rfl), (own_w hw 120 rfl)⟩)
  obtain ⟨v_ValueText_Phase_FRACTION, ev_v_ValueText_Phase_FRACTION⟩ := exa_v g13a
  have E_v_ValueText_Phase_FRACTION : Exa s s.heap v_ValueText_Phase_FRACTION own_s9 := Exa.start ev_v_ValueText_Phase_FRACTION g13a
  have S_v_ValueText_Phase_FRACTION : Sta s s.heap own_s9 "FRACTION" own_s4 (.ref v_ValueText_Phase_FRACTION) := Sta.start ev_v_ValueText_Phase_FRACTION (Or.inr ⟨(own_w hw 75 rfl), (own_w hw 124 rfl)⟩)
  obtain ⟨v_ValueText_Phase_AFTER, ev_v_ValueText_Phase_AFTER⟩ := exa_v g16a
  have E_v_ValueText_Phase_AFTER : Exa s s.heap v_ValueText_Phase_AFTER own_s9 := Exa.start ev_v_ValueText_Phase_AFTER g16a
  have S_v_ValueText_Phase_AFTER : Sta s s.heap own_s9 "AFTER" own_s4 (.ref v_ValueText_Phase_AFTER) := Sta.start ev_v_ValueText_Phase_AFTER (Or.inr ⟨(own_w hw 75 rfl), (own_w hw 126 rfl)⟩)
  obtain ⟨v_ValueText_Phase_DIGITS, ev_v_ValueText_Phase_DIGITS⟩ := exa_v g18a
  have E_v_ValueText_Phase_DIGITS : Exa s s.heap v_ValueText_Phase_DIGITS own_s9 := Exa.start ev_v_ValueText_Phase_DIGITS g18a
  have S_v_ValueText_Phase_DIGITS : Sta s s.heap own_s9 "DIGITS" own_s4 (.ref v_ValueText_Phase_DIGITS) := Sta.start ev_v_ValueText_Phase_DIGITS (Or.inr ⟨(own_w hw 75 rfl), (own_w hw 128 rfl)⟩)
  have F_v_ValueLengths_Count_EVERY_ordinal : Fld s s.heap v_ValueLengths_Count_EVERY own_s18 "ordinal" "I" (.int 0) := own_fldI ev_v_ValueLengths_Count_EVERY g8a
  have F_v_ValueLengths_Count_SIGNIFICANT_ordinal : Fld s s.heap v_ValueLengths_Count_SIGNIFICANT own_s18 "ordinal" "I" (.int 2) := own_fldI ev_v_ValueLengths_Count_SIGNIFICANT g9a
  have F_v_ValueLengths_Count_NOT_SPACE_ordinal : Fld s s.heap v_ValueLengths_Count_NOT_SPACE own_s18 "ordinal" "I" (.int 1) := own_fldI ev_v_ValueLengths_Count_NOT_SPACE g12a
  have F_v_ValueText_Phase_START_ordinal : Fld s s.heap v_ValueText_Phase_START own_s18 "ordinal" "I" (.int 0) := own_fldI ev_v_ValueText_Phase_START g14a
  have F_v_ValueText_Phase_FRACTION_ordinal : Fld s s.heap v_ValueText_Phase_FRACTION own_s18 "ordinal" "I" (.int 4) := own_fldI ev_v_ValueText_Phase_FRACTION g15a
  have F_v_ValueText_Phase_AFTER_ordinal : Fld s s.heap v_ValueText_Phase_AFTER own_s18 "ordinal" "I" (.int 5) := own_fldI ev_v_ValueText_Phase_AFTER g17a
  have F_v_ValueText_Phase_DIGITS_ordinal : Fld s s.heap v_ValueText_Phase_DIGITS own_s18 "ordinal" "I" (.int 3) := own_fldI ev_v_ValueText_Phase_DIGITS g18b
  obtain ⟨n, o, h1, h2, h3, _, L, rfl, ⟨rfl, N⟩, hq⟩ := own_law l s _ hw tables_1 i0 i1 i2 i3 v_ValueLengths_Count_EVERY v_ValueLengths_Count_NOT_SPACE v_ValueLengths_Count_SIGNIFICANT v_ValueText_Phase_START v_ValueText_Phase_FRACTION v_ValueText_Phase_AFTER v_ValueText_Phase_DIGITS v_ValueText_Role_COUNTED s.heap s.heap.size (Nat.le_refl _) ⟨S_v_ValueLengths_Count_EVERY, S_v_ValueLengths_Count_NOT_SPACE, S_v_ValueLengths_Count_SIGNIFICANT, S_v_ValueText_Phase_START, S_v_ValueText_Phase_FRACTION, S_v_ValueText_Phase_AFTER, S_v_ValueText_Phase_DIGITS, S_v_ValueText_Role_COUNTED⟩ ⟨F_v_ValueLengths_Count_NOT_SPACE_ordinal.ne F_v_ValueLengths_Count_EVERY_ordinal (by decide), F_v_ValueLengths_Count_SIGNIFICANT_ordinal.ne F_v_ValueLengths_Count_EVERY_ordinal (by decide), F_v_ValueLengths_Count_SIGNIFICANT_ordinal.ne F_v_ValueLengths_Count_NOT_SPACE_ordinal (by decide), F_v_ValueText_Phase_START_ordinal.ne F_v_ValueText_Phase_FRACTION_ordinal (by decide), F_v_ValueText_Phase_START_ordinal.ne F_v_ValueText_Phase_AFTER_ordinal (by decide), F_v_ValueText_Phase_DIGITS_ordinal.ne F_v_ValueText_Phase_FRACTION_ordinal (by decide), F_v_ValueText_Phase_DIGITS_ordinal.ne F_v_ValueText_Phase_AFTER_ordinal (by decide), F_v_ValueText_Phase_DIGITS_ordinal.ne F_v_ValueText_Phase_START_ordinal (by decide)⟩ p e ha hc hk s m _ below hf ((Spec.applies_iff_loose hf).mp happ).1 ⟨rfl, State.Warmed39.refl s, rfl⟩ trivial
  refine ⟨n, _, h1, h2, h3, hpost _ _ _ _ _ _ ⟨Cond.after_iff.mpr rfl, Cond.after_iff.mpr (eq_i res_at (Term.int_eval (1)) rfl), trivial⟩ ⟨hq.1, hq.2.1, (hq.2.2.sift fun y hy => Or.inr (N y hy)).mono (by decide) (by decide)⟩⟩
theorem main_1_1 : Claimed_1_1 := comes_1 fun _ _ _ _ _ _ h hF => ⟨h.1, hF⟩
theorem main_1_2 : Claimed_1_2 := comes_1 fun _ _ _ _ _ _ h hF => ⟨h.2.1, hF⟩
end Jvm.Pilot.@@N@@
namespace Jvm.Pilot.@@N@@
open Jvm Jvm.ClassFile Sem Op Lib Jvm.Free Jvm.Stand Jvm.Pilot.@@N@@.Jvm.D
/-! MADE BY PROGRAM (witnessworld.py) out of the Statement's table words and the real class files: 22 classes; the members and pool entries that the words name. The judged class is class 1, her method 1. -/
namespace start1
open Jvm.ClassFile
def u (s : String) : CpInfo := .utf8 (stringToUtf16 s)
/-- a pool by its gaps: so many unusable entries, then the entry; so many at the end -/
def gap : Nat → List CpInfo → List CpInfo
  | 0, r => r
  | n + 1, r => .unusable :: gap n r
def poolList (es : List (Nat × CpInfo)) (last : Nat) : List CpInfo := es.foldr (fun e r => gap e.1 (e.2 :: r)) (gap last [])
def pool (es : List (Nat × CpInfo)) (last : Nat) : Array CpInfo := ⟨poolList es last⟩
def fileOf (pool : Array CpInfo) (this : Nat) (attrs : Array Attribute := #[]) (ms : Array MethodInfo := #[]) (fl : Nat := 33) (sup : Nat := 0) (ifs : Array Nat := #[]) (fds : Array FieldInfo := #[]) : ClassFile where
  minorVersion := 0
  majorVersion := 65
  constantPool := pool
  accessFlags := fl
  thisClass := this
  superClass := sup
  interfaces := ifs
  fields := fds
  methods := ms
  attributes := attrs
def plain (name : String) (sup : Option ClassId) : Class where
  name := name
  kind := .ordinary
  loader := none
  accessFlags := 33
  super := sup
  interfaces := #[]
  cf := none
  fields := #[]
  methods := #[]
  instanceTypes := #[]
  staticTypes := #[]
  resolved := #[]
  callSites := []
  init := .initialized
  statics := none
  mirror := none

def pool0 : Array CpInfo := pool [(5, u "<init>"), (0, u "()V"), (1, .class_ 10), (1, u "java/lang/Object")] 113

def k0c0 : Code := { maxStack := 0, maxLocals := 1, code := object_method_1_code, exceptionTable := #[], attributes := #[] }
def k0m0 : Method := { name := "<init>", desc := "()V", sig := { parameters := [], returnType := none }, accessFlags := 1, code := some k0c0 }
/-- java/lang/Object -/
def k0 : Class := { plain "java/lang/Object" none with
  accessFlags := 33
  interfaces := #[]
  cf := some (fileOf pool0 8 #[] #[{ accessFlags := 1, nameIndex := 5, descriptorIndex := 6, attributes := #[] }] 33 0 #[] #[])
  fields := #[]
  methods := #[k0m0]
  instanceTypes := #[]
  staticTypes := #[]
  resolved := Array.replicate 124 none
  statics := none }

def pool1 : Array CpInfo := pool [(2, .class_ 4), (0, .nameAndType 5 6), (0, u "java/lang/Object"), (0, u "<init>"), (0, u "()V"), (0, .fieldref 8 9), (0, .class_ 10), (0, .nameAndType 11 12), (0, u "com/example/corsia/corsia/engine/ValueLengths$Count"), (0, u "EVERY"), (0, u "Lcom/example/corsia/corsia/engine/ValueLengths$Count;"), (0, .fieldref 8 14), (0, .nameAndType 15 12), (0, u "NOT_SPACE"), (0, .fieldref 8 17), (0, .nameAndType 18 12), (0, u "SIGNIFICANT"), (0, .long 3), (3, .long 9223372036854775807), (1, .integer 2147483647), (0, .methodref 27 28), (0, .class_ 29), (0, .nameAndType 30 31), (0, u "java/lang/Math"), (0, u "min"), (0, u "(JJ)J"), (0, .long 8), (1, .class_ 35), (0, u "com/example/corsia/corsia/engine/ValueText"), (0, .methodref 34 3), (0, .class_ 38), (0, u "com/example/corsia/corsia/engine/ValueLengths$Limit"), (0, .methodref 37 40), (0, .nameAndType 5 41), (0, u "(Lcom/example/corsia/corsia/engine/ValueLengths$Count;JZ)V"), (0, .methodref 34 43), (0, .nameAndType 44 45), (0, u "start"), (0, u "(Lcom/example/corsia/corsia/engine/ValueLengths$Limit;J)V"), (0, .methodref 34 47), (0, .nameAndType 48 49), (0, u "room"), (0, u "()J"), (0, .methodref 34 51), (0, .nameAndType 52 53), (0, u "readWithin"), (0, u "([BIII)V"), (0, .methodref 34 55), (0, .nameAndType 56 57), (0, u "read"), (0, u "([CIILcom/example/corsia/corsia/engine/ValueText$Sink;)Z"), (0, .class_ 59), (0, u "com/example/corsia/corsia/engine/ValueTextRoomPinLaw"), (2, u "law"), (0, u "(JIII)Z")] 15

def k1m0 : Method := { name := "<init>", desc := "()V", sig := { parameters := [], returnType := none }, accessFlags := 2, code := none }
def k1c1 : Code := { maxStack := 6, maxLocals := 26, code := code, exceptionTable := #[], attributes := #[] }
def k1m1 : Method := { name := "law", desc := "(JIII)Z", sig := { parameters := [.long, .int, .int, .int], returnType := some .boolean }, accessFlags := 9, code := some k1c1 }
/-- com/example/corsia/corsia/engine/ValueTextRoomPinLaw -/
def k1 : Class := { plain "com/example/corsia/corsia/engine/ValueTextRoomPinLaw" (some 0) with
  accessFlags := 49
  interfaces := #[]
  cf := some (fileOf pool1 58 #[] #[{ accessFlags := 2, nameIndex := 5, descriptorIndex := 6, attributes := #[] }, { accessFlags := 9, nameIndex := 62, descriptorIndex := 63, attributes := #[] }] 49 2 #[] #[])
  fields := #[]
  methods := #[k1m0, k1m1]
  instanceTypes := #[]
  staticTypes := #[]
  resolved := Array.replicate 79 none
  statics := none }

def pool2 : Array CpInfo := pool [(1, .class_ 2), (0, u "java/lang/constant/Constable"), (0, .class_ 4), (0, u "java/lang/Object")] 6

/-- java/lang/constant/Constable -/
def k2 : Class := { plain "java/lang/constant/Constable" (some 0) with
  accessFlags := 1537
  interfaces := #[]
  cf := some (fileOf pool2 1 #[] #[] 1537 3 #[] #[])
  fields := #[]
  methods := #[]
  instanceTypes := #[]
  staticTypes := #[]
  resolved := Array.replicate 11 none
  statics := none }

def pool3 : Array CpInfo := pool [(1, .class_ 2), (0, u "java/lang/Comparable"), (0, .class_ 4), (0, u "java/lang/Object")] 7

/-- java/lang/Comparable -/
def k3 : Class := { plain "java/lang/Comparable" (some 0) with
  accessFlags := 1537
  interfaces := #[]
  cf := some (fileOf pool3 1 #[] #[] 1537 3 #[] #[])
  fields := #[]
  methods := #[]
  instanceTypes := #[]
  staticTypes := #[]
  resolved := Array.replicate 12 none
  statics := none }

def pool4 : Array CpInfo := pool [(1, .class_ 2), (0, u "java/io/Serializable"), (0, .class_ 4), (0, u "java/lang/Object")] 2

/-- java/io/Serializable -/
def k4 : Class := { plain "java/io/Serializable" (some 0) with
  accessFlags := 1537
  interfaces := #[]
  cf := some (fileOf pool4 1 #[] #[] 1537 3 #[] #[])
  fields := #[]
  methods := #[]
  instanceTypes := #[]
  staticTypes := #[]
  resolved := Array.replicate 7 none
  statics := none }

def pool5 : Array CpInfo := pool [(2, .class_ 4), (1, u "java/lang/Enum"), (0, u "name"), (0, u "Ljava/lang/String;"), (2, u "ordinal"), (0, u "I"), (1, .class_ 14), (1, u "java/lang/Object"), (4, u "hash"), (86, .class_ 108), (1, u "java/lang/Enum$EnumDesc"), (2, .class_ 112), (0, u "java/lang/constant/Constable"), (0, .class_ 114), (0, u "java/lang/Comparable"), (0, .class_ 116), (0, u "java/io/Serializable")] 87

/-- java/lang/Enum -/
def k5 : Class := { plain "java/lang/Enum" (some 0) with
  accessFlags := 1057
  interfaces := #[2, 3, 4]
  cf := some (fileOf pool5 2 #[.nestMembers #[106]] #[] 1057 12 #[111, 113, 115] #[{ accessFlags := 18, nameIndex := 5, descriptorIndex := 6, attributes := #[] }, { accessFlags := 18, nameIndex := 9, descriptorIndex := 10, attributes := #[] }, { accessFlags := 2, nameIndex := 19, descriptorIndex := 10, attributes := #[] }])
  fields := #[{ name := "name", type := (.object "java/lang/String"), accessFlags := 18, slot := 0, constantValue := 0 }, { name := "ordinal", type := .int, accessFlags := 18, slot := 1, constantValue := 0 }, { name := "hash", type := .int, accessFlags := 2, slot := 2, constantValue := 0 }]
  methods := #[]
  instanceTypes := #[(.object "java/lang/String"), .int, .int]
  staticTypes := #[]
  resolved := Array.replicate 204 none
  statics := none }

def pool6 : Array CpInfo := pool [(1, .class_ 2), (0, u "com/example/corsia/corsia/engine/ValueLengths$Count"), (2, u "EVERY"), (0, u "Lcom/example/corsia/corsia/engine/ValueLengths$Count;"), (2, u "NOT_SPACE"), (2, u "SIGNIFICANT"), (2, u "$VALUES"), (0, u "[Lcom/example/corsia/corsia/engine/ValueLengths$Count;"), (6, .class_ 25), (1, u "java/lang/Enum"), (8, u "what"), (0, u "Ljava/lang/String;"), (37, .class_ 74), (0, u "com/example/corsia/corsia/engine/ValueLengths")] 2

/-- com/example/corsia/corsia/engine/ValueLengths$Count -/
def k6 : Class := { plain "com/example/corsia/corsia/engine/ValueLengths$Count" (some 5) with
  accessFlags := 16432
  interfaces := #[]
  cf := some (fileOf pool6 1 #[.nestHost 73] #[] 16432 23 #[] #[{ accessFlags := 16409, nameIndex := 5, descriptorIndex := 6, attributes := #[] }, { accessFlags := 16409, nameIndex := 9, descriptorIndex := 6, attributes := #[] }, { accessFlags := 16409, nameIndex := 12, descriptorIndex := 6, attributes := #[] }, { accessFlags := 18, nameIndex := 34, descriptorIndex := 35, attributes := #[] }, { accessFlags := 4122, nameIndex := 15, descriptorIndex := 16, attributes := #[] }])
  fields := #[{ name := "EVERY", type := (.object "com/example/corsia/corsia/engine/ValueLengths$Count"), accessFlags := 16409, slot := 0, constantValue := 0 }, { name := "NOT_SPACE", type := (.object "com/example/corsia/corsia/engine/ValueLengths$Count"), accessFlags := 16409, slot := 1, constantValue := 0 }, { name := "SIGNIFICANT", type := (.object "com/example/corsia/corsia/engine/ValueLengths$Count"), accessFlags := 16409, slot := 2, constantValue := 0 }, { name := "what", type := (.object "java/lang/String"), accessFlags := 18, slot := 3, constantValue := 0 }, { name := "$VALUES", type := (.array (.object "com/example/corsia/corsia/engine/ValueLengths$Count")), accessFlags := 4122, slot := 3, constantValue := 0 }]
  methods := #[]
  instanceTypes := #[(.object "java/lang/String"), .int, .int, (.object "java/lang/String")]
  staticTypes := #[(.object "com/example/corsia/corsia/engine/ValueLengths$Count"), (.object "com/example/corsia/corsia/engine/ValueLengths$Count"), (.object "com/example/corsia/corsia/engine/ValueLengths$Count"), (.array (.object "com/example/corsia/corsia/engine/ValueLengths$Count"))]
  resolved := Array.replicate 77 none
  statics := some 0 }

def pool7 : Array CpInfo := pool [(1, .class_ 2), (0, u "java/lang/Math"), (1, .class_ 6), (1, u "java/lang/Object"), (0, u "<init>"), (0, u "()V"), (89, .class_ 100), (1, u "java/lang/Math$RandomNumberGeneratorHolder"), (20, u "(JJ)J"), (50, u "negativeZeroFloatBits"), (0, u "J"), (2, u "negativeZeroDoubleBits"), (24, u "min"), (43, u "$assertionsDisabled"), (0, u "Z"), (91, u "twoToTheDoubleScaleDown"), (0, u "D"), (4, u "twoToTheDoubleScaleUp"), (9, u "E"), (3, u "PI"), (2, u "TAU"), (2, u "DEGREES_TO_RADIANS"), (0, u "RADIANS_TO_DEGREES")] 94

def k7m0 : Method := { name := "<init>", desc := "()V", sig := { parameters := [], returnType := none }, accessFlags := 2, code := none }
def k7c1 : Code := { maxStack := 4, maxLocals := 4, code := jdk_29_method_70_code, exceptionTable := #[], attributes := #[] }
def k7m1 : Method := { name := "min", desc := "(JJ)J", sig := { parameters := [.long, .long], returnType := some .long }, accessFlags := 9, code := some k7c1 }
/-- java/lang/Math -/
def k7 : Class := { plain "java/lang/Math" (some 0) with
  accessFlags := 49
  interfaces := #[]
  cf := some (fileOf pool7 1 #[.nestMembers #[98]] #[{ accessFlags := 2, nameIndex := 7, descriptorIndex := 8, attributes := #[] }, { accessFlags := 9, nameIndex := 201, descriptorIndex := 121, attributes := #[] }] 49 4 #[] #[{ accessFlags := 25, nameIndex := 354, descriptorIndex := 339, attributes := #[] }, { accessFlags := 25, nameIndex := 358, descriptorIndex := 339, attributes := #[] }, { accessFlags := 25, nameIndex := 361, descriptorIndex := 339, attributes := #[] }, { accessFlags := 26, nameIndex := 364, descriptorIndex := 339, attributes := #[] }, { accessFlags := 26, nameIndex := 365, descriptorIndex := 339, attributes := #[] }, { accessFlags := 26, nameIndex := 172, descriptorIndex := 173, attributes := #[] }, { accessFlags := 26, nameIndex := 176, descriptorIndex := 173, attributes := #[] }, { accessFlags := 8, nameIndex := 344, descriptorIndex := 339, attributes := #[] }, { accessFlags := 8, nameIndex := 338, descriptorIndex := 339, attributes := #[] }, { accessFlags := 4120, nameIndex := 245, descriptorIndex := 246, attributes := #[] }])
  fields := #[{ name := "E", type := .double, accessFlags := 25, slot := 0, constantValue := 0 }, { name := "PI", type := .double, accessFlags := 25, slot := 1, constantValue := 0 }, { name := "TAU", type := .double, accessFlags := 25, slot := 2, constantValue := 0 }, { name := "DEGREES_TO_RADIANS", type := .double, accessFlags := 26, slot := 3, constantValue := 0 }, { name := "RADIANS_TO_DEGREES", type := .double, accessFlags := 26, slot := 4, constantValue := 0 }, { name := "negativeZeroFloatBits", type := .long, accessFlags := 26, slot := 5, constantValue := 0 }, { name := "negativeZeroDoubleBits", type := .long, accessFlags := 26, slot := 6, constantValue := 0 }, { name := "twoToTheDoubleScaleUp", type := .double, accessFlags := 8, slot := 7, constantValue := 0 }, { name := "twoToTheDoubleScaleDown", type := .double, accessFlags := 8, slot := 8, constantValue := 0 }, { name := "$assertionsDisabled", type := .boolean, accessFlags := 4120, slot := 9, constantValue := 0 }]
  methods := #[k7m0, k7m1]
  instanceTypes := #[]
  staticTypes := #[.double, .double, .double, .double, .double, .long, .long, .double, .double, .boolean]
  resolved := Array.replicate 460 none
  statics := none }

def pool8 : Array CpInfo := pool [(1, .methodref 2 3), (0, .class_ 4), (0, .nameAndType 5 6), (0, u "java/lang/Object"), (0, u "<init>"), (0, u "()V"), (0, .fieldref 8 9), (0, .class_ 10), (0, .nameAndType 11 12), (0, u "com/example/corsia/corsia/engine/ValueText"), (0, u "zeros"), (0, u "[C"), (0, .methodref 14 15), (0, .class_ 16), (0, .nameAndType 17 18), (0, u "java/util/Arrays"), (0, u "fill"), (0, u "([CC)V"), (0, .methodref 20 21), (0, .class_ 22), (0, .nameAndType 23 24), (0, u "com/example/corsia/corsia/engine/ValueLengths$Limit"), (0, u "count"), (0, u "()Lcom/example/corsia/corsia/engine/ValueLengths$Count;"), (0, .fieldref 8 26), (0, .nameAndType 23 27), (0, u "Lcom/example/corsia/corsia/engine/ValueLengths$Count;"), (0, .methodref 20 29), (0, .nameAndType 30 31), (0, u "zerosShortened"), (0, u "()Z"), (0, .fieldref 8 33), (0, .nameAndType 30 34), (0, u "Z"), (0, .fieldref 8 36), (0, .nameAndType 37 38), (0, u "most"), (0, u "J"), (0, .fieldref 8 40), (0, .nameAndType 41 38), (0, u "length"), (0, .fieldref 8 43), (0, .nameAndType 44 34), (0, u "past"), (0, .fieldref 8 46), (0, .nameAndType 47 34), (0, u "over"), (0, .fieldref 8 49), (0, .nameAndType 50 38), (0, u "counted"), (0, .fieldref 52 53), (0, .class_ 54), (0, .nameAndType 55 56), (0, u "com/example/corsia/corsia/engine/ValueText$Phase"), (0, u "START"), (0, u "Lcom/example/corsia/corsia/engine/ValueText$Phase;"), (0, .fieldref 8 58), (0, .nameAndType 59 56), (0, u "phase"), (0, .fieldref 8 61), (0, .nameAndType 62 63), (0, u "run"), (0, u "Lcom/example/corsia/corsia/engine/ValueText$Role;"), (0, .fieldref 8 65), (0, .nameAndType 66 38), (0, u "fractionZeros"), (0, .methodref 8 68), (0, .nameAndType 69 70), (0, u "within"), (0, u "([CII)I"), (0, .methodref 8 72), (0, .nameAndType 73 74), (0, u "role"), (0, u "(C)Lcom/example/corsia/corsia/engine/ValueText$Role;"), (0, .fieldref 76 77), (0, .class_ 78), (0, .nameAndType 79 63), (0, u "com/example/corsia/corsia/engine/ValueText$Role"), (0, u "COUNTED"), (0, .methodref 81 82), (0, .class_ 83), (0, .nameAndType 84 85), (0, u "java/lang/Character"), (0, u "isLowSurrogate"), (0, u "(C)Z"), (14, .methodref 8 101), (0, .nameAndType 102 103), (0, u "room"), (0, u "()J"), (9, .fieldref 114 115), (0, .class_ 116), (0, .nameAndType 117 27), (0, u "com/example/corsia/corsia/engine/ValueLengths$Count"), (0, u "SIGNIFICANT"), (0, .fieldref 114 119), (0, .nameAndType 120 27), (0, u "EVERY"), (0, .fieldref 114 122), (0, .nameAndType 123 27), (0, u "NOT_SPACE"), (0, .fieldref 52 125), (0, .nameAndType 126 56), (0, u "AFTER"), (10, .fieldref 52 138), (0, .nameAndType 139 56), (0, u "FRACTION"), (3, .fieldref 52 144), (0, .nameAndType 145 56), (0, u "DIGITS"), (1, .class_ 149), (1, u "com/example/corsia/corsia/engine/ValueText$Sink"), (10, u "start"), (0, u "(Lcom/example/corsia/corsia/engine/ValueLengths$Limit;J)V"), (0, u "read"), (0, u "([CIILcom/example/corsia/corsia/engine/ValueText$Sink;)Z"), (1, u "readWithin"), (0, u "([BIII)V")] 28

def k8c0 : Code := { maxStack := 2, maxLocals := 1, code := prog_127_method_1_code, exceptionTable := #[], attributes := #[] }
def k8m0 : Method := { name := "<init>", desc := "()V", sig := { parameters := [], returnType := none }, accessFlags := 0, code := some k8c0 }
def k8c1 : Code := { maxStack := 3, maxLocals := 4, code := prog_127_method_2_code, exceptionTable := #[], attributes := #[] }
def k8m1 : Method := { name := "start", desc := "(Lcom/example/corsia/corsia/engine/ValueLengths$Limit;J)V", sig := { parameters := [(.object "com/example/corsia/corsia/engine/ValueLengths$Limit"), .long], returnType := none }, accessFlags := 0, code := some k8c1 }
def k8c2 : Code := { maxStack := 7, maxLocals := 10, code := prog_127_method_6_code, exceptionTable := #[], attributes := #[] }
def k8m2 : Method := { name := "read", desc := "([CIILcom/example/corsia/corsia/engine/ValueText$Sink;)Z", sig := { parameters := [(.array .char), .int, .int, (.object "com/example/corsia/corsia/engine/ValueText$Sink")], returnType := some .boolean }, accessFlags := 0, code := some k8c2 }
def k8c3 : Code := { maxStack := 4, maxLocals := 1, code := prog_127_method_7_code, exceptionTable := #[], attributes := #[] }
def k8m3 : Method := { name := "room", desc := "()J", sig := { parameters := [], returnType := some .long }, accessFlags := 0, code := some k8c3 }
def k8c4 : Code := { maxStack := 5, maxLocals := 6, code := prog_127_method_8_code, exceptionTable := #[], attributes := #[] }
def k8m4 : Method := { name := "readWithin", desc := "([BIII)V", sig := { parameters := [(.array .byte), .int, .int, .int], returnType := none }, accessFlags := 0, code := some k8c4 }
def k8c5 : Code := { maxStack := 5, maxLocals := 6, code := prog_127_method_11_code, exceptionTable := #[], attributes := #[] }
def k8m5 : Method := { name := "within", desc := "([CII)I", sig := { parameters := [(.array .char), .int, .int], returnType := some .int }, accessFlags := 2, code := some k8c5 }
def k8c6 : Code := { maxStack := 2, maxLocals := 3, code := prog_127_method_12_code, exceptionTable := #[], attributes := #[] }
def k8m6 : Method := { name := "role", desc := "(C)Lcom/example/corsia/corsia/engine/ValueText$Role;", sig := { parameters := [.char], returnType := some (.object "com/example/corsia/corsia/engine/ValueText$Role") }, accessFlags := 2, code := some k8c6 }
/-- com/example/corsia/corsia/engine/ValueText -/
def k8 : Class := { plain "com/example/corsia/corsia/engine/ValueText" (some 0) with
  accessFlags := 48
  interfaces := #[]
  cf := some (fileOf pool8 8 #[.nestMembers #[52, 76, 147]] #[{ accessFlags := 0, nameIndex := 5, descriptorIndex := 6, attributes := #[] }, { accessFlags := 0, nameIndex := 160, descriptorIndex := 161, attributes := #[] }, { accessFlags := 0, nameIndex := 162, descriptorIndex := 163, attributes := #[] }, { accessFlags := 0, nameIndex := 102, descriptorIndex := 103, attributes := #[] }, { accessFlags := 0, nameIndex := 165, descriptorIndex := 166, attributes := #[] }, { accessFlags := 2, nameIndex := 69, descriptorIndex := 70, attributes := #[] }, { accessFlags := 2, nameIndex := 73, descriptorIndex := 74, attributes := #[] }] 48 2 #[] #[{ accessFlags := 18, nameIndex := 11, descriptorIndex := 12, attributes := #[] }, { accessFlags := 2, nameIndex := 23, descriptorIndex := 27, attributes := #[] }, { accessFlags := 2, nameIndex := 30, descriptorIndex := 34, attributes := #[] }, { accessFlags := 2, nameIndex := 37, descriptorIndex := 38, attributes := #[] }, { accessFlags := 2, nameIndex := 41, descriptorIndex := 38, attributes := #[] }, { accessFlags := 2, nameIndex := 44, descriptorIndex := 34, attributes := #[] }, { accessFlags := 2, nameIndex := 47, descriptorIndex := 34, attributes := #[] }, { accessFlags := 2, nameIndex := 50, descriptorIndex := 38, attributes := #[] }, { accessFlags := 2, nameIndex := 59, descriptorIndex := 56, attributes := #[] }, { accessFlags := 2, nameIndex := 62, descriptorIndex := 63, attributes := #[] }, { accessFlags := 2, nameIndex := 66, descriptorIndex := 38, attributes := #[] }])
  fields := #[{ name := "zeros", type := (.array .char), accessFlags := 18, slot := 0, constantValue := 0 }, { name := "count", type := (.object "com/example/corsia/corsia/engine/ValueLengths$Count"), accessFlags := 2, slot := 1, constantValue := 0 }, { name := "zerosShortened", type := .boolean, accessFlags := 2, slot := 2, constantValue := 0 }, { name := "most", type := .long, accessFlags := 2, slot := 3, constantValue := 0 }, { name := "length", type := .long, accessFlags := 2, slot := 4, constantValue := 0 }, { name := "past", type := .boolean, accessFlags := 2, slot := 5, constantValue := 0 }, { name := "over", type := .boolean, accessFlags := 2, slot := 6, constantValue := 0 }, { name := "counted", type := .long, accessFlags := 2, slot := 7, constantValue := 0 }, { name := "phase", type := (.object "com/example/corsia/corsia/engine/ValueText$Phase"), accessFlags := 2, slot := 8, constantValue := 0 }, { name := "run", type := (.object "com/example/corsia/corsia/engine/ValueText$Role"), accessFlags := 2, slot := 9, constantValue := 0 }, { name := "fractionZeros", type := .long, accessFlags := 2, slot := 10, constantValue := 0 }]
  methods := #[k8m0, k8m1, k8m2, k8m3, k8m4, k8m5, k8m6]
  instanceTypes := #[(.array .char), (.object "com/example/corsia/corsia/engine/ValueLengths$Count"), .boolean, .long, .long, .boolean, .boolean, .long, (.object "com/example/corsia/corsia/engine/ValueText$Phase"), (.object "com/example/corsia/corsia/engine/ValueText$Role"), .long]
  staticTypes := #[]
  resolved := Array.replicate 195 none
  statics := none }

def pool9 : Array CpInfo := pool [(2, .class_ 4), (1, u "java/lang/Object"), (0, u "<init>"), (0, u "()V"), (7, .class_ 16), (1, u "java/util/Arrays"), (57, .class_ 76), (1, u "java/util/Arrays$NaturalOrder"), (36, .class_ 115), (1, u "java/util/Arrays$LegacyMergeSort"), (1, u "Z"), (257, .class_ 376), (0, u "java/util/Arrays$ArrayList"), (68, u "$assertionsDisabled"), (269, u "MIN_ARRAY_SORT_GRAN"), (0, u "I"), (2, u "INSERTIONSORT_THRESHOLD"), (120, u "fill"), (7, u "([CC)V"), (126, .class_ 976), (0, u "java/util/Arrays$ArrayItr")] 52

def k9m0 : Method := { name := "<init>", desc := "()V", sig := { parameters := [], returnType := none }, accessFlags := 2, code := none }
def k9c1 : Code := { maxStack := 3, maxLocals := 4, code := jdk_65_method_107_code, exceptionTable := #[], attributes := #[] }
def k9m1 : Method := { name := "fill", desc := "([CC)V", sig := { parameters := [(.array .char), .char], returnType := none }, accessFlags := 9, code := some k9c1 }
/-- java/util/Arrays -/
def k9 : Class := { plain "java/util/Arrays" (some 0) with
  accessFlags := 49
  interfaces := #[]
  cf := some (fileOf pool9 14 #[.nestMembers #[975, 375, 113, 74]] #[{ accessFlags := 2, nameIndex := 5, descriptorIndex := 6, attributes := #[] }, { accessFlags := 9, nameIndex := 840, descriptorIndex := 848, attributes := #[] }] 49 2 #[] #[{ accessFlags := 26, nameIndex := 715, descriptorIndex := 716, attributes := #[] }, { accessFlags := 26, nameIndex := 719, descriptorIndex := 716, attributes := #[] }, { accessFlags := 4120, nameIndex := 445, descriptorIndex := 117, attributes := #[] }])
  fields := #[{ name := "MIN_ARRAY_SORT_GRAN", type := .int, accessFlags := 26, slot := 0, constantValue := 0 }, { name := "INSERTIONSORT_THRESHOLD", type := .int, accessFlags := 26, slot := 1, constantValue := 0 }, { name := "$assertionsDisabled", type := .boolean, accessFlags := 4120, slot := 2, constantValue := 0 }]
  methods := #[k9m0, k9m1]
  instanceTypes := #[]
  staticTypes := #[.int, .int, .boolean]
  resolved := Array.replicate 1029 none
  statics := none }

def pool10 : Array CpInfo := pool [(1, .methodref 2 3), (0, .class_ 4), (0, .nameAndType 5 6), (0, u "java/lang/Object"), (0, u "<init>"), (0, u "()V"), (0, .class_ 8), (0, u "java/lang/Record")] 13

def k10c0 : Code := { maxStack := 1, maxLocals := 1, code := jdk_30_method_1_code, exceptionTable := #[], attributes := #[] }
def k10m0 : Method := { name := "<init>", desc := "()V", sig := { parameters := [], returnType := none }, accessFlags := 4, code := some k10c0 }
/-- java/lang/Record -/
def k10 : Class := { plain "java/lang/Record" (some 0) with
  accessFlags := 1057
  interfaces := #[]
  cf := some (fileOf pool10 7 #[] #[{ accessFlags := 4, nameIndex := 5, descriptorIndex := 6, attributes := #[] }] 1057 2 #[] #[])
  fields := #[]
  methods := #[k10m0]
  instanceTypes := #[]
  staticTypes := #[]
  resolved := Array.replicate 22 none
  statics := none }

def pool11 : Array CpInfo := pool [(1, .methodref 2 3), (0, .class_ 4), (0, .nameAndType 5 6), (0, u "java/lang/Record"), (0, u "<init>"), (0, u "()V"), (0, .fieldref 8 9), (0, .class_ 10), (0, .nameAndType 11 12), (0, u "com/example/corsia/corsia/engine/ValueLengths$Limit"), (0, u "count"), (0, u "Lcom/example/corsia/corsia/engine/ValueLengths$Count;"), (0, .fieldref 8 14), (0, .nameAndType 15 16), (0, u "most"), (0, u "J"), (0, .fieldref 8 18), (0, .nameAndType 19 20), (0, u "zerosShortened"), (0, u "Z"), (12, u "(Lcom/example/corsia/corsia/engine/ValueLengths$Count;JZ)V"), (6, u "()Lcom/example/corsia/corsia/engine/ValueLengths$Count;"), (1, u "()Z"), (3, .class_ 47), (0, u "com/example/corsia/corsia/engine/ValueLengths")] 24

def k11c0 : Code := { maxStack := 3, maxLocals := 5, code := prog_124_method_1_code, exceptionTable := #[], attributes := #[] }
def k11m0 : Method := { name := "<init>", desc := "(Lcom/example/corsia/corsia/engine/ValueLengths$Count;JZ)V", sig := { parameters := [(.object "com/example/corsia/corsia/engine/ValueLengths$Count"), .long, .boolean], returnType := none }, accessFlags := 0, code := some k11c0 }
def k11c1 : Code := { maxStack := 1, maxLocals := 1, code := prog_124_method_5_code, exceptionTable := #[], attributes := #[] }
def k11m1 : Method := { name := "count", desc := "()Lcom/example/corsia/corsia/engine/ValueLengths$Count;", sig := { parameters := [], returnType := some (.object "com/example/corsia/corsia/engine/ValueLengths$Count") }, accessFlags := 1, code := some k11c1 }
def k11c2 : Code := { maxStack := 1, maxLocals := 1, code := prog_124_method_7_code, exceptionTable := #[], attributes := #[] }
def k11m2 : Method := { name := "zerosShortened", desc := "()Z", sig := { parameters := [], returnType := some .boolean }, accessFlags := 1, code := some k11c2 }
/-- com/example/corsia/corsia/engine/ValueLengths$Limit -/
def k11 : Class := { plain "com/example/corsia/corsia/engine/ValueLengths$Limit" (some 10) with
  accessFlags := 48
  interfaces := #[]
  cf := some (fileOf pool11 8 #[.nestHost 46] #[{ accessFlags := 0, nameIndex := 5, descriptorIndex := 33, attributes := #[] }, { accessFlags := 1, nameIndex := 11, descriptorIndex := 40, attributes := #[] }, { accessFlags := 1, nameIndex := 19, descriptorIndex := 42, attributes := #[] }] 48 2 #[] #[{ accessFlags := 18, nameIndex := 11, descriptorIndex := 12, attributes := #[] }, { accessFlags := 18, nameIndex := 15, descriptorIndex := 16, attributes := #[] }, { accessFlags := 18, nameIndex := 19, descriptorIndex := 20, attributes := #[] }])
  fields := #[{ name := "count", type := (.object "com/example/corsia/corsia/engine/ValueLengths$Count"), accessFlags := 18, slot := 0, constantValue := 0 }, { name := "most", type := .long, accessFlags := 18, slot := 1, constantValue := 0 }, { name := "zerosShortened", type := .boolean, accessFlags := 18, slot := 2, constantValue := 0 }]
  methods := #[k11m0, k11m1, k11m2]
  instanceTypes := #[(.object "com/example/corsia/corsia/engine/ValueLengths$Count"), .long, .boolean]
  staticTypes := #[]
  resolved := Array.replicate 72 none
  statics := none }

def pool12 : Array CpInfo := pool [(1, .class_ 2), (0, u "com/example/corsia/corsia/engine/ValueText$Phase"), (2, u "START"), (0, u "Lcom/example/corsia/corsia/engine/ValueText$Phase;"), (2, u "SIGNED"), (2, u "ZEROS"), (2, u "DIGITS"), (2, u "FRACTION"), (2, u "AFTER"), (2, u "$VALUES"), (0, u "[Lcom/example/corsia/corsia/engine/ValueText$Phase;"), (6, .class_ 34), (1, u "java/lang/Enum"), (29, .class_ 65), (0, u "com/example/corsia/corsia/engine/ValueText")] 2

/-- com/example/corsia/corsia/engine/ValueText$Phase -/
def k12 : Class := { plain "com/example/corsia/corsia/engine/ValueText$Phase" (some 5) with
  accessFlags := 16432
  interfaces := #[]
  cf := some (fileOf pool12 1 #[.nestHost 64] #[] 16432 32 #[] #[{ accessFlags := 16409, nameIndex := 5, descriptorIndex := 6, attributes := #[] }, { accessFlags := 16409, nameIndex := 9, descriptorIndex := 6, attributes := #[] }, { accessFlags := 16409, nameIndex := 12, descriptorIndex := 6, attributes := #[] }, { accessFlags := 16409, nameIndex := 15, descriptorIndex := 6, attributes := #[] }, { accessFlags := 16409, nameIndex := 18, descriptorIndex := 6, attributes := #[] }, { accessFlags := 16409, nameIndex := 21, descriptorIndex := 6, attributes := #[] }, { accessFlags := 4122, nameIndex := 24, descriptorIndex := 25, attributes := #[] }])
  fields := #[{ name := "START", type := (.object "com/example/corsia/corsia/engine/ValueText$Phase"), accessFlags := 16409, slot := 0, constantValue := 0 }, { name := "SIGNED", type := (.object "com/example/corsia/corsia/engine/ValueText$Phase"), accessFlags := 16409, slot := 1, constantValue := 0 }, { name := "ZEROS", type := (.object "com/example/corsia/corsia/engine/ValueText$Phase"), accessFlags := 16409, slot := 2, constantValue := 0 }, { name := "DIGITS", type := (.object "com/example/corsia/corsia/engine/ValueText$Phase"), accessFlags := 16409, slot := 3, constantValue := 0 }, { name := "FRACTION", type := (.object "com/example/corsia/corsia/engine/ValueText$Phase"), accessFlags := 16409, slot := 4, constantValue := 0 }, { name := "AFTER", type := (.object "com/example/corsia/corsia/engine/ValueText$Phase"), accessFlags := 16409, slot := 5, constantValue := 0 }, { name := "$VALUES", type := (.array (.object "com/example/corsia/corsia/engine/ValueText$Phase")), accessFlags := 4122, slot := 6, constantValue := 0 }]
  methods := #[]
  instanceTypes := #[(.object "java/lang/String"), .int, .int]
  staticTypes := #[(.object "com/example/corsia/corsia/engine/ValueText$Phase"), (.object "com/example/corsia/corsia/engine/ValueText$Phase"), (.object "com/example/corsia/corsia/engine/ValueText$Phase"), (.object "com/example/corsia/corsia/engine/ValueText$Phase"), (.object "com/example/corsia/corsia/engine/ValueText$Phase"), (.object "com/example/corsia/corsia/engine/ValueText$Phase"), (.array (.object "com/example/corsia/corsia/engine/ValueText$Phase"))]
  resolved := Array.replicate 68 none
  statics := some 1 }

def pool13 : Array CpInfo := pool [(1, .class_ 2), (0, u "com/example/corsia/corsia/engine/ValueText$Role"), (2, u "COUNTED"), (0, u "Lcom/example/corsia/corsia/engine/ValueText$Role;"), (2, u "SPACE"), (2, u "LEADING_ZERO"), (2, u "FRACTION_ZERO"), (2, u "$VALUES"), (0, u "[Lcom/example/corsia/corsia/engine/ValueText$Role;"), (6, .class_ 28), (1, u "java/lang/Enum"), (27, .class_ 57), (0, u "com/example/corsia/corsia/engine/ValueText")] 2

/-- com/example/corsia/corsia/engine/ValueText$Role -/
def k13 : Class := { plain "com/example/corsia/corsia/engine/ValueText$Role" (some 5) with
  accessFlags := 16432
  interfaces := #[]
  cf := some (fileOf pool13 1 #[.nestHost 56] #[] 16432 26 #[] #[{ accessFlags := 16409, nameIndex := 5, descriptorIndex := 6, attributes := #[] }, { accessFlags := 16409, nameIndex := 9, descriptorIndex := 6, attributes := #[] }, { accessFlags := 16409, nameIndex := 12, descriptorIndex := 6, attributes := #[] }, { accessFlags := 16409, nameIndex := 15, descriptorIndex := 6, attributes := #[] }, { accessFlags := 4122, nameIndex := 18, descriptorIndex := 19, attributes := #[] }])
  fields := #[{ name := "COUNTED", type := (.object "com/example/corsia/corsia/engine/ValueText$Role"), accessFlags := 16409, slot := 0, constantValue := 0 }, { name := "SPACE", type := (.object "com/example/corsia/corsia/engine/ValueText$Role"), accessFlags := 16409, slot := 1, constantValue := 0 }, { name := "LEADING_ZERO", type := (.object "com/example/corsia/corsia/engine/ValueText$Role"), accessFlags := 16409, slot := 2, constantValue := 0 }, { name := "FRACTION_ZERO", type := (.object "com/example/corsia/corsia/engine/ValueText$Role"), accessFlags := 16409, slot := 3, constantValue := 0 }, { name := "$VALUES", type := (.array (.object "com/example/corsia/corsia/engine/ValueText$Role")), accessFlags := 4122, slot := 4, constantValue := 0 }]
  methods := #[]
  instanceTypes := #[(.object "java/lang/String"), .int, .int]
  staticTypes := #[(.object "com/example/corsia/corsia/engine/ValueText$Role"), (.object "com/example/corsia/corsia/engine/ValueText$Role"), (.object "com/example/corsia/corsia/engine/ValueText$Role"), (.object "com/example/corsia/corsia/engine/ValueText$Role"), (.array (.object "com/example/corsia/corsia/engine/ValueText$Role"))]
  resolved := Array.replicate 60 none
  statics := some 2 }

def pool14 : Array CpInfo := pool [(1, .class_ 2), (0, u "java/lang/Character"), (18, u "value"), (0, u "C"), (19, .class_ 44), (1, u "java/lang/Object"), (3, .class_ 50), (1, u "java/lang/Character$CharacterCache"), (25, .integer 56320), (4, u "(C)Z"), (2, u "isLowSurrogate"), (199, u "$assertionsDisabled"), (0, u "Z"), (21, .class_ 309), (1, u "java/lang/Character$UnicodeBlock"), (73, u "TYPE"), (0, u "Ljava/lang/Class;"), (0, .class_ 386), (0, u "java/io/Serializable"), (0, .class_ 388), (0, u "java/lang/Comparable"), (0, .class_ 390), (0, u "java/lang/constant/Constable"), (0, u "MIN_RADIX"), (0, u "I"), (2, u "MAX_RADIX"), (1, u "MIN_VALUE"), (1, u "MAX_VALUE"), (3, u "UNASSIGNED"), (0, u "B"), (0, u "UPPERCASE_LETTER"), (1, u "LOWERCASE_LETTER"), (0, u "TITLECASE_LETTER"), (1, u "MODIFIER_LETTER"), (1, u "OTHER_LETTER"), (1, u "NON_SPACING_MARK"), (1, u "ENCLOSING_MARK"), (1, u "COMBINING_SPACING_MARK"), (1, u "DECIMAL_DIGIT_NUMBER"), (1, u "LETTER_NUMBER"), (1, u "OTHER_NUMBER"), (1, u "SPACE_SEPARATOR"), (1, u "LINE_SEPARATOR"), (1, u "PARAGRAPH_SEPARATOR"), (1, u "CONTROL"), (1, u "FORMAT"), (1, u "PRIVATE_USE"), (1, u "SURROGATE"), (1, u "DASH_PUNCTUATION"), (1, u "START_PUNCTUATION"), (1, u "END_PUNCTUATION"), (1, u "CONNECTOR_PUNCTUATION"), (1, u "OTHER_PUNCTUATION"), (1, u "MATH_SYMBOL"), (1, u "CURRENCY_SYMBOL"), (1, u "MODIFIER_SYMBOL"), (1, u "OTHER_SYMBOL"), (1, u "INITIAL_QUOTE_PUNCTUATION"), (1, u "FINAL_QUOTE_PUNCTUATION"), (1, u "ERROR"), (1, u "DIRECTIONALITY_UNDEFINED"), (0, u "DIRECTIONALITY_LEFT_TO_RIGHT"), (0, u "DIRECTIONALITY_RIGHT_TO_LEFT"), (0, u "DIRECTIONALITY_RIGHT_TO_LEFT_ARABIC"), (0, u "DIRECTIONALITY_EUROPEAN_NUMBER"), (0, u "DIRECTIONALITY_EUROPEAN_NUMBER_SEPARATOR"), (0, u "DIRECTIONALITY_EUROPEAN_NUMBER_TERMINATOR"), (0, u "DIRECTIONALITY_ARABIC_NUMBER"), (0, u "DIRECTIONALITY_COMMON_NUMBER_SEPARATOR"), (0, u "DIRECTIONALITY_NONSPACING_MARK"), (0, u "DIRECTIONALITY_BOUNDARY_NEUTRAL"), (0, u "DIRECTIONALITY_PARAGRAPH_SEPARATOR"), (0, u "DIRECTIONALITY_SEGMENT_SEPARATOR"), (0, u "DIRECTIONALITY_WHITESPACE"), (0, u "DIRECTIONALITY_OTHER_NEUTRALS"), (0, u "DIRECTIONALITY_LEFT_TO_RIGHT_EMBEDDING"), (0, u "DIRECTIONALITY_LEFT_TO_RIGHT_OVERRIDE"), (0, u "DIRECTIONALITY_RIGHT_TO_LEFT_EMBEDDING"), (0, u "DIRECTIONALITY_RIGHT_TO_LEFT_OVERRIDE"), (1, u "DIRECTIONALITY_POP_DIRECTIONAL_FORMAT"), (0, u "DIRECTIONALITY_LEFT_TO_RIGHT_ISOLATE"), (0, u "DIRECTIONALITY_RIGHT_TO_LEFT_ISOLATE"), (0, u "DIRECTIONALITY_FIRST_STRONG_ISOLATE"), (0, u "DIRECTIONALITY_POP_DIRECTIONAL_ISOLATE"), (0, u "MIN_HIGH_SURROGATE"), (0, u "MAX_HIGH_SURROGATE"), (1, u "MIN_LOW_SURROGATE"), (0, u "MAX_LOW_SURROGATE"), (1, u "MIN_SURROGATE"), (0, u "MAX_SURROGATE"), (0, u "MIN_SUPPLEMENTARY_CODE_POINT"), (0, u "MIN_CODE_POINT"), (0, u "MAX_CODE_POINT"), (1, u "serialVersionUID"), (0, u "J"), (2, u "SIZE"), (0, u "BYTES"), (88, .class_ 596), (0, u "java/lang/Character$UnicodeScript"), (0, .class_ 598), (0, u "java/lang/Character$Subset")] 5

def k14c0 : Code := { maxStack := 2, maxLocals := 1, code := jdk_89_method_15_code, exceptionTable := #[], attributes := #[] }
def k14m0 : Method := { name := "isLowSurrogate", desc := "(C)Z", sig := { parameters := [.char], returnType := some .boolean }, accessFlags := 9, code := some k14c0 }
/-- java/lang/Character -/
def k14 : Class := { plain "java/lang/Character" (some 0) with
  accessFlags := 49
  interfaces := #[4, 3, 2]
  cf := some (fileOf pool14 1 #[.nestMembers #[48, 595, 307, 597]] #[{ accessFlags := 9, nameIndex := 84, descriptorIndex := 81, attributes := #[] }] 49 42 #[385, 387, 389] #[{ accessFlags := 25, nameIndex := 391, descriptorIndex := 392, attributes := #[] }, { accessFlags := 25, nameIndex := 395, descriptorIndex := 392, attributes := #[] }, { accessFlags := 25, nameIndex := 397, descriptorIndex := 22, attributes := #[] }, { accessFlags := 25, nameIndex := 399, descriptorIndex := 22, attributes := #[] }, { accessFlags := 25, nameIndex := 383, descriptorIndex := 384, attributes := #[] }, { accessFlags := 25, nameIndex := 403, descriptorIndex := 404, attributes := #[] }, { accessFlags := 25, nameIndex := 405, descriptorIndex := 404, attributes := #[] }, { accessFlags := 25, nameIndex := 407, descriptorIndex := 404, attributes := #[] }, { accessFlags := 25, nameIndex := 408, descriptorIndex := 404, attributes := #[] }, { accessFlags := 25, nameIndex := 410, descriptorIndex := 404, attributes := #[] }, { accessFlags := 25, nameIndex := 412, descriptorIndex := 404, attributes := #[] }, { accessFlags := 25, nameIndex := 414, descriptorIndex := 404, attributes := #[] }, { accessFlags := 25, nameIndex := 416, descriptorIndex := 404, attributes := #[] }, { accessFlags := 25, nameIndex := 418, descriptorIndex := 404, attributes := #[] }, { accessFlags := 25, nameIndex := 420, descriptorIndex := 404, attributes := #[] }, { accessFlags := 25, nameIndex := 422, descriptorIndex := 404, attributes := #[] }, { accessFlags := 25, nameIndex := 424, descriptorIndex := 404, attributes := #[] }, { accessFlags := 25, nameIndex := 426, descriptorIndex := 404, attributes := #[] }, { accessFlags := 25, nameIndex := 428, descriptorIndex := 404, attributes := #[] }, { accessFlags := 25, nameIndex := 430, descriptorIndex := 404, attributes := #[] }, { accessFlags := 25, nameIndex := 432, descriptorIndex := 404, attributes := #[] }, { accessFlags := 25, nameIndex := 434, descriptorIndex := 404, attributes := #[] }, { accessFlags := 25, nameIndex := 436, descriptorIndex := 404, attributes := #[] }, { accessFlags := 25, nameIndex := 438, descriptorIndex := 404, attributes := #[] }, { accessFlags := 25, nameIndex := 440, descriptorIndex := 404, attributes := #[] }, { accessFlags := 25, nameIndex := 442, descriptorIndex := 404, attributes := #[] }, { accessFlags := 25, nameIndex := 444, descriptorIndex := 404, attributes := #[] }, { accessFlags := 25, nameIndex := 446, descriptorIndex := 404, attributes := #[] }, { accessFlags := 25, nameIndex := 448, descriptorIndex := 404, attributes := #[] }, { accessFlags := 25, nameIndex := 450, descriptorIndex := 404, attributes := #[] }, { accessFlags := 25, nameIndex := 452, descriptorIndex := 404, attributes := #[] }, { accessFlags := 25, nameIndex := 454, descriptorIndex := 404, attributes := #[] }, { accessFlags := 25, nameIndex := 456, descriptorIndex := 404, attributes := #[] }, { accessFlags := 25, nameIndex := 458, descriptorIndex := 404, attributes := #[] }, { accessFlags := 25, nameIndex := 460, descriptorIndex := 404, attributes := #[] }, { accessFlags := 24, nameIndex := 462, descriptorIndex := 392, attributes := #[] }, { accessFlags := 25, nameIndex := 464, descriptorIndex := 404, attributes := #[] }, { accessFlags := 25, nameIndex := 465, descriptorIndex := 404, attributes := #[] }, { accessFlags := 25, nameIndex := 466, descriptorIndex := 404, attributes := #[] }, { accessFlags := 25, nameIndex := 467, descriptorIndex := 404, attributes := #[] }, { accessFlags := 25, nameIndex := 468, descriptorIndex := 404, attributes := #[] }, { accessFlags := 25, nameIndex := 469, descriptorIndex := 404, attributes := #[] }, { accessFlags := 25, nameIndex := 470, descriptorIndex := 404, attributes := #[] }, { accessFlags := 25, nameIndex := 471, descriptorIndex := 404, attributes := #[] }, { accessFlags := 25, nameIndex := 472, descriptorIndex := 404, attributes := #[] }, { accessFlags := 25, nameIndex := 473, descriptorIndex := 404, attributes := #[] }, { accessFlags := 25, nameIndex := 474, descriptorIndex := 404, attributes := #[] }, { accessFlags := 25, nameIndex := 475, descriptorIndex := 404, attributes := #[] }, { accessFlags := 25, nameIndex := 476, descriptorIndex := 404, attributes := #[] }, { accessFlags := 25, nameIndex := 477, descriptorIndex := 404, attributes := #[] }, { accessFlags := 25, nameIndex := 478, descriptorIndex := 404, attributes := #[] }, { accessFlags := 25, nameIndex := 479, descriptorIndex := 404, attributes := #[] }, { accessFlags := 25, nameIndex := 480, descriptorIndex := 404, attributes := #[] }, { accessFlags := 25, nameIndex := 481, descriptorIndex := 404, attributes := #[] }, { accessFlags := 25, nameIndex := 482, descriptorIndex := 404, attributes := #[] }, { accessFlags := 25, nameIndex := 484, descriptorIndex := 404, attributes := #[] }, { accessFlags := 25, nameIndex := 485, descriptorIndex := 404, attributes := #[] }, { accessFlags := 25, nameIndex := 486, descriptorIndex := 404, attributes := #[] }, { accessFlags := 25, nameIndex := 487, descriptorIndex := 404, attributes := #[] }, { accessFlags := 25, nameIndex := 488, descriptorIndex := 404, attributes := #[] }, { accessFlags := 25, nameIndex := 489, descriptorIndex := 22, attributes := #[] }, { accessFlags := 25, nameIndex := 490, descriptorIndex := 22, attributes := #[] }, { accessFlags := 25, nameIndex := 492, descriptorIndex := 22, attributes := #[] }, { accessFlags := 25, nameIndex := 493, descriptorIndex := 22, attributes := #[] }, { accessFlags := 25, nameIndex := 495, descriptorIndex := 22, attributes := #[] }, { accessFlags := 25, nameIndex := 496, descriptorIndex := 22, attributes := #[] }, { accessFlags := 25, nameIndex := 497, descriptorIndex := 392, attributes := #[] }, { accessFlags := 25, nameIndex := 498, descriptorIndex := 392, attributes := #[] }, { accessFlags := 25, nameIndex := 499, descriptorIndex := 392, attributes := #[] }, { accessFlags := 18, nameIndex := 21, descriptorIndex := 22, attributes := #[] }, { accessFlags := 26, nameIndex := 501, descriptorIndex := 502, attributes := #[] }, { accessFlags := 25, nameIndex := 505, descriptorIndex := 392, attributes := #[] }, { accessFlags := 25, nameIndex := 506, descriptorIndex := 392, attributes := #[] }, { accessFlags := 4120, nameIndex := 284, descriptorIndex := 285, attributes := #[] }])
  fields := #[{ name := "MIN_RADIX", type := .int, accessFlags := 25, slot := 0, constantValue := 0 }, { name := "MAX_RADIX", type := .int, accessFlags := 25, slot := 1, constantValue := 0 }, { name := "MIN_VALUE", type := .char, accessFlags := 25, slot := 2, constantValue := 0 }, { name := "MAX_VALUE", type := .char, accessFlags := 25, slot := 3, constantValue := 0 }, { name := "TYPE", type := (.object "java/lang/Class"), accessFlags := 25, slot := 4, constantValue := 0 }, { name := "UNASSIGNED", type := .byte, accessFlags := 25, slot := 5, constantValue := 0 }, { name := "UPPERCASE_LETTER", type := .byte, accessFlags := 25, slot := 6, constantValue := 0 }, { name := "LOWERCASE_LETTER", type := .byte, accessFlags := 25, slot := 7, constantValue := 0 }, { name := "TITLECASE_LETTER", type := .byte, accessFlags := 25, slot := 8, constantValue := 0 }, { name := "MODIFIER_LETTER", type := .byte, accessFlags := 25, slot := 9, constantValue := 0 }, { name := "OTHER_LETTER", type := .byte, accessFlags := 25, slot := 10, constantValue := 0 }, { name := "NON_SPACING_MARK", type := .byte, accessFlags := 25, slot := 11, constantValue := 0 }, { name := "ENCLOSING_MARK", type := .byte, accessFlags := 25, slot := 12, constantValue := 0 }, { name := "COMBINING_SPACING_MARK", type := .byte, accessFlags := 25, slot := 13, constantValue := 0 }, { name := "DECIMAL_DIGIT_NUMBER", type := .byte, accessFlags := 25, slot := 14, constantValue := 0 }, { name := "LETTER_NUMBER", type := .byte, accessFlags := 25, slot := 15, constantValue := 0 }, { name := "OTHER_NUMBER", type := .byte, accessFlags := 25, slot := 16, constantValue := 0 }, { name := "SPACE_SEPARATOR", type := .byte, accessFlags := 25, slot := 17, constantValue := 0 }, { name := "LINE_SEPARATOR", type := .byte, accessFlags := 25, slot := 18, constantValue := 0 }, { name := "PARAGRAPH_SEPARATOR", type := .byte, accessFlags := 25, slot := 19, constantValue := 0 }, { name := "CONTROL", type := .byte, accessFlags := 25, slot := 20, constantValue := 0 }, { name := "FORMAT", type := .byte, accessFlags := 25, slot := 21, constantValue := 0 }, { name := "PRIVATE_USE", type := .byte, accessFlags := 25, slot := 22, constantValue := 0 }, { name := "SURROGATE", type := .byte, accessFlags := 25, slot := 23, constantValue := 0 }, { name := "DASH_PUNCTUATION", type := .byte, accessFlags := 25, slot := 24, constantValue := 0 }, { name := "START_PUNCTUATION", type := .byte, accessFlags := 25, slot := 25, constantValue := 0 }, { name := "END_PUNCTUATION", type := .byte, accessFlags := 25, slot := 26, constantValue := 0 }, { name := "CONNECTOR_PUNCTUATION", type := .byte, accessFlags := 25, slot := 27, constantValue := 0 }, { name := "OTHER_PUNCTUATION", type := .byte, accessFlags := 25, slot := 28, constantValue := 0 }, { name := "MATH_SYMBOL", type := .byte, accessFlags := 25, slot := 29, constantValue := 0 }, { name := "CURRENCY_SYMBOL", type := .byte, accessFlags := 25, slot := 30, constantValue := 0 }, { name := "MODIFIER_SYMBOL", type := .byte, accessFlags := 25, slot := 31, constantValue := 0 }, { name := "OTHER_SYMBOL", type := .byte, accessFlags := 25, slot := 32, constantValue := 0 }, { name := "INITIAL_QUOTE_PUNCTUATION", type := .byte, accessFlags := 25, slot := 33, constantValue := 0 }, { name := "FINAL_QUOTE_PUNCTUATION", type := .byte, accessFlags := 25, slot := 34, constantValue := 0 }, { name := "ERROR", type := .int, accessFlags := 24, slot := 35, constantValue := 0 }, { name := "DIRECTIONALITY_UNDEFINED", type := .byte, accessFlags := 25, slot := 36, constantValue := 0 }, { name := "DIRECTIONALITY_LEFT_TO_RIGHT", type := .byte, accessFlags := 25, slot := 37, constantValue := 0 }, { name := "DIRECTIONALITY_RIGHT_TO_LEFT", type := .byte, accessFlags := 25, slot := 38, constantValue := 0 }, { name := "DIRECTIONALITY_RIGHT_TO_LEFT_ARABIC", type := .byte, accessFlags := 25, slot := 39, constantValue := 0 }, { name := "DIRECTIONALITY_EUROPEAN_NUMBER", type := .byte, accessFlags := 25, slot := 40, constantValue := 0 }, { name := "DIRECTIONALITY_EUROPEAN_NUMBER_SEPARATOR", type := .byte, accessFlags := 25, slot := 41, constantValue := 0 }, { name := "DIRECTIONALITY_EUROPEAN_NUMBER_TERMINATOR", type := .byte, accessFlags := 25, slot := 42, constantValue := 0 }, { name := "DIRECTIONALITY_ARABIC_NUMBER", type := .byte, accessFlags := 25, slot := 43, constantValue := 0 }, { name := "DIRECTIONALITY_COMMON_NUMBER_SEPARATOR", type := .byte, accessFlags := 25, slot := 44, constantValue := 0 }, { name := "DIRECTIONALITY_NONSPACING_MARK", type := .byte, accessFlags := 25, slot := 45, constantValue := 0 }, { name := "DIRECTIONALITY_BOUNDARY_NEUTRAL", type := .byte, accessFlags := 25, slot := 46, constantValue := 0 }, { name := "DIRECTIONALITY_PARAGRAPH_SEPARATOR", type := .byte, accessFlags := 25, slot := 47, constantValue := 0 }, { name := "DIRECTIONALITY_SEGMENT_SEPARATOR", type := .byte, accessFlags := 25, slot := 48, constantValue := 0 }, { name := "DIRECTIONALITY_WHITESPACE", type := .byte, accessFlags := 25, slot := 49, constantValue := 0 }, { name := "DIRECTIONALITY_OTHER_NEUTRALS", type := .byte, accessFlags := 25, slot := 50, constantValue := 0 }, { name := "DIRECTIONALITY_LEFT_TO_RIGHT_EMBEDDING", type := .byte, accessFlags := 25, slot := 51, constantValue := 0 }, { name := "DIRECTIONALITY_LEFT_TO_RIGHT_OVERRIDE", type := .byte, accessFlags := 25, slot := 52, constantValue := 0 }, { name := "DIRECTIONALITY_RIGHT_TO_LEFT_EMBEDDING", type := .byte, accessFlags := 25, slot := 53, constantValue := 0 }, { name := "DIRECTIONALITY_RIGHT_TO_LEFT_OVERRIDE", type := .byte, accessFlags := 25, slot := 54, constantValue := 0 }, { name := "DIRECTIONALITY_POP_DIRECTIONAL_FORMAT", type := .byte, accessFlags := 25, slot := 55, constantValue := 0 }, { name := "DIRECTIONALITY_LEFT_TO_RIGHT_ISOLATE", type := .byte, accessFlags := 25, slot := 56, constantValue := 0 }, { name := "DIRECTIONALITY_RIGHT_TO_LEFT_ISOLATE", type := .byte, accessFlags := 25, slot := 57, constantValue := 0 }, { name := "DIRECTIONALITY_FIRST_STRONG_ISOLATE", type := .byte, accessFlags := 25, slot := 58, constantValue := 0 }, { name := "DIRECTIONALITY_POP_DIRECTIONAL_ISOLATE", type := .byte, accessFlags := 25, slot := 59, constantValue := 0 }, { name := "MIN_HIGH_SURROGATE", type := .char, accessFlags := 25, slot := 60, constantValue := 0 }, { name := "MAX_HIGH_SURROGATE", type := .char, accessFlags := 25, slot := 61, constantValue := 0 }, { name := "MIN_LOW_SURROGATE", type := .char, accessFlags := 25, slot := 62, constantValue := 0 }, { name := "MAX_LOW_SURROGATE", type := .char, accessFlags := 25, slot := 63, constantValue := 0 }, { name := "MIN_SURROGATE", type := .char, accessFlags := 25, slot := 64, constantValue := 0 }, { name := "MAX_SURROGATE", type := .char, accessFlags := 25, slot := 65, constantValue := 0 }, { name := "MIN_SUPPLEMENTARY_CODE_POINT", type := .int, accessFlags := 25, slot := 66, constantValue := 0 }, { name := "MIN_CODE_POINT", type := .int, accessFlags := 25, slot := 67, constantValue := 0 }, { name := "MAX_CODE_POINT", type := .int, accessFlags := 25, slot := 68, constantValue := 0 }, { name := "value", type := .char, accessFlags := 18, slot := 0, constantValue := 0 }, { name := "serialVersionUID", type := .long, accessFlags := 26, slot := 69, constantValue := 0 }, { name := "SIZE", type := .int, accessFlags := 25, slot := 70, constantValue := 0 }, { name := "BYTES", type := .int, accessFlags := 25, slot := 71, constantValue := 0 }, { name := "$assertionsDisabled", type := .boolean, accessFlags := 4120, slot := 72, constantValue := 0 }]
  methods := #[k14m0]
  instanceTypes := #[.char]
  staticTypes := #[.int, .int, .char, .char, (.object "java/lang/Class"), .byte, .byte, .byte, .byte, .byte, .byte, .byte, .byte, .byte, .byte, .byte, .byte, .byte, .byte, .byte, .byte, .byte, .byte, .byte, .byte, .byte, .byte, .byte, .byte, .byte, .byte, .byte, .byte, .byte, .byte, .int, .byte, .byte, .byte, .byte, .byte, .byte, .byte, .byte, .byte, .byte, .byte, .byte, .byte, .byte, .byte, .byte, .byte, .byte, .byte, .byte, .byte, .byte, .byte, .byte, .char, .char, .char, .char, .char, .char, .int, .int, .int, .long, .int, .int, .boolean]
  resolved := Array.replicate 604 none
  statics := none }

def pool15 : Array CpInfo := pool [(1, u "java/lang/Cloneable"), (0, .class_ 1), (0, u "java/lang/Object"), (0, .class_ 3)] 3

/-- java/lang/Cloneable -/
def k15 : Class := { plain "java/lang/Cloneable" (some 0) with
  accessFlags := 1537
  interfaces := #[]
  cf := some (fileOf pool15 2 #[] #[] 1537 4 #[] #[])
  fields := #[]
  methods := #[]
  instanceTypes := #[]
  staticTypes := #[]
  resolved := Array.replicate 8 none
  statics := none }

/-- the primitive byte -/
def k16 : Class := { plain "byte" none with kind := .primitive 'B', accessFlags := 0x411 }
/-- [B -/
def k17 : Class := { plain "[B" (some 0) with kind := .array 16 .byte, interfaces := #[15, 4], accessFlags := 1041 }

/-- the primitive char -/
def k18 : Class := { plain "char" none with kind := .primitive 'C', accessFlags := 0x411 }
/-- [C -/
def k19 : Class := { plain "[C" (some 0) with kind := .array 18 .char, interfaces := #[15, 4], accessFlags := 1041 }

/-- the primitive int -/
def k20 : Class := { plain "int" none with kind := .primitive 'I', accessFlags := 0x411 }
/-- [I -/
def k21 : Class := { plain "[I" (some 0) with kind := .array 20 .int, interfaces := #[15, 4], accessFlags := 1041 }

def heap : Heap := #[{ cls := 6, slots := #[.ref 3, .ref 4, .ref 5, .null], vm := .statics 6 },
  { cls := 12, slots := #[.ref 6, .null, .null, .ref 9, .ref 7, .ref 8, .null], vm := .statics 12 },
  { cls := 13, slots := #[.ref 10, .null, .null, .null, .null], vm := .statics 13 },
  { cls := 6, slots := #[.null, .int 0, .int 0, .null], vm := .none },
  { cls := 6, slots := #[.null, .int 1, .int 0, .null], vm := .none },
  { cls := 6, slots := #[.null, .int 2, .int 0, .null], vm := .none },
  { cls := 12, slots := #[.null, .int 0, .int 0], vm := .none },
  { cls := 12, slots := #[.null, .int 4, .int 0], vm := .none },
  { cls := 12, slots := #[.null, .int 5, .int 0], vm := .none },
  { cls := 12, slots := #[.null, .int 3, .int 0], vm := .none },
  { cls := 13, slots := #[.null, .int 0, .int 0], vm := .none }]
def classes : Array Class := #[k0, k1, k2, k3, k4, k5, k6, k7, k8, k9, k10, k11, k12, k13, k14, k15, k16, k17, k18, k19, k20, k21]
def interned : List (Array UInt16 × Addr) := []
def slotsUsed : Nat := 43
def theMethod : MethodId := ⟨1, 1⟩
def args0 : Array Value := #[.long 2, .int 1, .int 3, .int 5]
def aboutOver (below : List Frame) : State where
  vm := { classes := classes, interned := interned.toArray }
  heap := heap
  slotsUsed := slotsUsed
  threads := #[{ frames := .invoking theMethod args0 :: below }]
def below0 : List Frame := [.native { method := ⟨0, 0⟩, args := #[] }]
def about1 : State := aboutOver below0
def p0 : Program := .bare "" "" ""
def e0 : Env := launch0.env 0 0 0
theorem w_frames : about1.frames = Frame.invoking theMethod args0 :: below0 := rfl
set_option maxRecDepth 65536 in
theorem w_args : argsFit about1.vm theMethod args0 = true := by decide +kernel
set_option maxRecDepth 65536 in
theorem w_heap : heapFits about1 = true := by decide +kernel
set_option maxRecDepth 65536 in
theorem w_runnable : about1.curStatus? = some .runnable := by decide +kernel
set_option maxRecDepth 65536 in
theorem w_alone : about1.alone = true := by decide +kernel
set_option maxRecDepth 65536 in
theorem w_named : about1.methodNamed? x = some theMethod := by decide +kernel
set_option maxRecDepth 65536 in
theorem w_hears : about1.hears theMethod below0 = true := by decide +kernel
set_option maxRecDepth 65536 in
theorem w_ripe : about1.ripe theMethod args0 below0 = true := by decide +kernel
theorem w_running : about1.status = .running := rfl
set_option maxRecDepth 65536 in
theorem w_room : about1.hasRoom e0.platform room_1 = true :=
  launch0.hasRoom_least _ room_1 (by decide +kernel) (by decide +kernel) (by decide +kernel) (by decide +kernel) (by decide +kernel) (by decide +kernel)
theorem allAtoms_all (ts : List Jvm.Cond) (a : Array Jvm.Value) (st : Jvm.State) : (allAtoms ts).before a st = ts.all (fun c => c.before a st) := by
  induction ts with
  | nil => rfl
  | cons c t ih =>
    show (Jvm.Cond.and c (allAtoms t)).before a st = _
    rw [Jvm.Cond.before_and, ih, List.all_cons]
def words1 : List Jvm.Cond := Jvm.Cond.code x code maxLocals ret :: tables_1
/-- a 'code' word, met by the world's own term for the bytes: nothing is compared byte by byte -/
theorem code_word {y : MethodName} {bytes : ByteArray} {mx : Nat} {rt : Option FieldType} {a : Array Value} {s : State} {m : MethodId} {meth : Method} {c : Code} (h1 : s.methodNamed? y = some m) (h2 : s.vm.method? m = some meth) (h3 : meth.code = some c) (h4 : c.code = bytes)
    (h5 : (c.maxLocals == mx && c.exceptionTable.isEmpty && decide (c.maxStack ≤ mostOperands) && decide (meth.sig.returnType = rt) && !meth.locks && decide (parseMethodDescriptor y.desc = some meth.sig)) = true) : (Jvm.Cond.code y bytes mx rt).before a s = true := by
  simp only [Bool.and_eq_true, beq_iff_eq, Bool.not_eq_true', decide_eq_true_eq] at h5
  obtain ⟨⟨⟨⟨⟨g1, g2⟩, g3⟩, g4⟩, g5⟩, g6⟩ := h5
  simp [Cond.before, Cond.holds, Cond.value, h1, h2, h3, h4, g1, g2, g3, g4, g5, g6]
def isCode : Jvm.Cond → Bool
  | .code _ _ _ _ => true
  | _ => false
theorem all_split {L : List Jvm.Cond} {P : Jvm.Cond → Bool} (h1 : L.all (fun c => isCode c || P c) = true) (h2 : ∀ c ∈ L.filter isCode, P c = true) : L.all P = true := by
  refine List.all_eq_true.mpr fun c hc => ?_
  have h := List.all_eq_true.mp h1 c hc
  rcases Bool.eq_false_or_eq_true (isCode c) with hi | hi
  · exact h2 c (List.mem_filter.mpr ⟨hc, hi⟩)
  · simpa [hi] using h
set_option maxRecDepth 65536 in
theorem w_c0 : (Jvm.Cond.code x code maxLocals ret).before args0 about1 = true := code_word (m := ⟨1, 1⟩) (meth := k1m1) (c := k1c1) (by decide +kernel) rfl rfl rfl (by decide +kernel)
set_option maxRecDepth 65536 in
theorem w_c1 : (Jvm.Cond.code ({ cls := "java/lang/Math", name := "min", desc := "(JJ)J" } : Jvm.MethodName) jdk_29_method_70_code (4 : Nat) (Option.some Jvm.ClassFile.FieldType.long)).before args0 about1 = true := code_word (m := ⟨7, 1⟩) (meth := k7m1) (c := k7c1) (by decide +kernel) rfl rfl rfl (by decide +kernel)
set_option maxRecDepth 65536 in
theorem w_c2 : (Jvm.Cond.code ({ cls := "com/example/corsia/corsia/engine/ValueText", name := "<init>", desc := "()V" } : Jvm.MethodName) prog_127_method_1_code (1 : Nat) (Option.none : Option Jvm.ClassFile.FieldType)).before args0 about1 = true := code_word (m := ⟨8, 0⟩) (meth := k8m0) (c := k8c0) (by decide +kernel) rfl rfl rfl (by decide +kernel)
set_option maxRecDepth 65536 in
theorem w_c3 : (Jvm.Cond.code ({ cls := "java/lang/Object", name := "<init>", desc := "()V" } : Jvm.MethodName) object_method_1_code (1 : Nat) (Option.none : Option Jvm.ClassFile.FieldType)).before args0 about1 = true := code_word (m := ⟨0, 0⟩) (meth := k0m0) (c := k0c0) (by decide +kernel) rfl rfl rfl (by decide +kernel)
set_option maxRecDepth 65536 in
theorem w_c4 : (Jvm.Cond.code ({ cls := "java/util/Arrays", name := "fill", desc := "([CC)V" } : Jvm.MethodName) jdk_65_method_107_code (4 : Nat) (Option.none : Option Jvm.ClassFile.FieldType)).before args0 about1 = true := code_word (m := ⟨9, 1⟩) (meth := k9m1) (c := k9c1) (by decide +kernel) rfl rfl rfl (by decide +kernel)
set_option maxRecDepth 65536 in
theorem w_c5 : (Jvm.Cond.code ({ cls := "com/example/corsia/corsia/engine/ValueLengths$Limit", name := "<init>", desc := "(Lcom/example/corsia/corsia/engine/ValueLengths$Count;JZ)V" } : Jvm.MethodName) prog_124_method_1_code (5 : Nat) (Option.none : Option Jvm.ClassFile.FieldType)).before args0 about1 = true := code_word (m := ⟨11, 0⟩) (meth := k11m0) (c := k11c0) (by decide +kernel) rfl rfl rfl (by decide +kernel)
set_option maxRecDepth 65536 in
theorem w_c6 : (Jvm.Cond.code ({ cls := "java/lang/Record", name := "<init>", desc := "()V" } : Jvm.MethodName) jdk_30_method_1_code (1 : Nat) (Option.none : Option Jvm.ClassFile.FieldType)).before args0 about1 = true := code_word (m := ⟨10, 0⟩) (meth := k10m0) (c := k10c0) (by decide +kernel) rfl rfl rfl (by decide +kernel)
set_option maxRecDepth 65536 in
theorem w_c7 : (Jvm.Cond.code ({ cls := "com/example/corsia/corsia/engine/ValueText", name := "start", desc := "(Lcom/example/corsia/corsia/engine/ValueLengths$Limit;J)V" } : Jvm.MethodName) prog_127_method_2_code (4 : Nat) (Option.none : Option Jvm.ClassFile.FieldType)).before args0 about1 = true := code_word (m := ⟨8, 1⟩) (meth := k8m1) (c := k8c1) (by decide +kernel) rfl rfl rfl (by decide +kernel)
set_option maxRecDepth 65536 in
theorem w_c8 : (Jvm.Cond.code ({ cls := "com/example/corsia/corsia/engine/ValueLengths$Limit", name := "count", desc := "()Lcom/example/corsia/corsia/engine/ValueLengths$Count;" } : Jvm.MethodName) prog_124_method_5_code (1 : Nat) (Option.some (Jvm.ClassFile.FieldType.object "com/example/corsia/corsia/engine/ValueLengths$Count"))).before args0 about1 = true := code_word (m := ⟨11, 1⟩) (meth := k11m1) (c := k11c1) (by decide +kernel) rfl rfl rfl (by decide +kernel)
set_option maxRecDepth 65536 in
theorem w_c9 : (Jvm.Cond.code ({ cls := "com/example/corsia/corsia/engine/ValueLengths$Limit", name := "zerosShortened", desc := "()Z" } : Jvm.MethodName) prog_124_method_7_code (1 : Nat) (Option.some Jvm.ClassFile.FieldType.boolean)).before args0 about1 = true := code_word (m := ⟨11, 2⟩) (meth := k11m2) (c := k11c2) (by decide +kernel) rfl rfl rfl (by decide +kernel)
set_option maxRecDepth 65536 in
theorem w_c10 : (Jvm.Cond.code ({ cls := "com/example/corsia/corsia/engine/ValueText", name := "room", desc := "()J" } : Jvm.MethodName) prog_127_method_7_code (1 : Nat) (Option.some Jvm.ClassFile.FieldType.long)).before args0 about1 = true := code_word (m := ⟨8, 3⟩) (meth := k8m3) (c := k8c3) (by decide +kernel) rfl rfl rfl (by decide +kernel)
set_option maxRecDepth 65536 in
theorem w_c11 : (Jvm.Cond.code ({ cls := "com/example/corsia/corsia/engine/ValueText", name := "readWithin", desc := "([BIII)V" } : Jvm.MethodName) prog_127_method_8_code (6 : Nat) (Option.none : Option Jvm.ClassFile.FieldType)).before args0 about1 = true := code_word (m := ⟨8, 4⟩) (meth := k8m4) (c := k8c4) (by decide +kernel) rfl rfl rfl (by decide +kernel)
set_option maxRecDepth 65536 in
theorem w_c12 : (Jvm.Cond.code ({ cls := "com/example/corsia/corsia/engine/ValueText", name := "read", desc := "([CIILcom/example/corsia/corsia/engine/ValueText$Sink;)Z" } : Jvm.MethodName) prog_127_method_6_code (10 : Nat) (Option.some Jvm.ClassFile.FieldType.boolean)).before args0 about1 = true := code_word (m := ⟨8, 2⟩) (meth := k8m2) (c := k8c2) (by decide +kernel) rfl rfl rfl (by decide +kernel)
set_option maxRecDepth 65536 in
theorem w_c13 : (Jvm.Cond.code ({ cls := "com/example/corsia/corsia/engine/ValueText", name := "within", desc := "([CII)I" } : Jvm.MethodName) prog_127_method_11_code (6 : Nat) (Option.some Jvm.ClassFile.FieldType.int)).before args0 about1 = true := code_word (m := ⟨8, 5⟩) (meth := k8m5) (c := k8c5) (by decide +kernel) rfl rfl rfl (by decide +kernel)
set_option maxRecDepth 65536 in
theorem w_c14 : (Jvm.Cond.code ({ cls := "com/example/corsia/corsia/engine/ValueText", name := "role", desc := "(C)Lcom/example/corsia/corsia/engine/ValueText$Role;" } : Jvm.MethodName) prog_127_method_12_code (3 : Nat) (Option.some (Jvm.ClassFile.FieldType.object "com/example/corsia/corsia/engine/ValueText$Role"))).before args0 about1 = true := code_word (m := ⟨8, 6⟩) (meth := k8m6) (c := k8c6) (by decide +kernel) rfl rfl rfl (by decide +kernel)
set_option maxRecDepth 65536 in
theorem w_c15 : (Jvm.Cond.code ({ cls := "java/lang/Character", name := "isLowSurrogate", desc := "(C)Z" } : Jvm.MethodName) jdk_89_method_15_code (1 : Nat) (Option.some Jvm.ClassFile.FieldType.boolean)).before args0 about1 = true := code_word (m := ⟨14, 0⟩) (meth := k14m0) (c := k14c0) (by decide +kernel) rfl rfl rfl (by decide +kernel)
def codes1 : List Jvm.Cond := [Jvm.Cond.code x code maxLocals ret, Jvm.Cond.code ({ cls := "java/lang/Math", name := "min", desc := "(JJ)J" } : Jvm.MethodName) jdk_29_method_70_code (4 : Nat) (Option.some Jvm.ClassFile.FieldType.long), Jvm.Cond.code ({ cls := "com/example/corsia/corsia/engine/ValueText", name := "<init>", desc := "()V" } : Jvm.MethodName) prog_127_method_1_code (1 : Nat) (Option.none : Option Jvm.ClassFile.FieldType), Jvm.Cond.code ({ cls := "java/lang/Object", name := "<init>", desc := "()V" } : Jvm.MethodName) object_method_1_code (1 : Nat) (Option.none : Option Jvm.ClassFile.FieldType), Jvm.Cond.code ({ cls := "java/util/Arrays", name := "fill", desc := "([CC)V" } : Jvm.MethodName) jdk_65_method_107_code (4 : Nat) (Option.none : Option Jvm.ClassFile.FieldType), Jvm.Cond.code ({ cls := "com/example/corsia/corsia/engine/ValueLengths$Limit", name := "<init>", desc := "(Lcom/example/corsia/corsia/engine/ValueLengths$Count;JZ)V" } : Jvm.MethodName) prog_124_method_1_code (5 : Nat) (Option.none : Option Jvm.ClassFile.FieldType), Jvm.Cond.code ({ cls := "java/lang/Record", name := "<init>", desc := "()V" } : Jvm.MethodName) jdk_30_method_1_code (1 : Nat) (Option.none : Option Jvm.ClassFile.FieldType), Jvm.Cond.code ({ cls := "com/example/corsia/corsia/engine/ValueText", name := "start", desc := "(Lcom/example/corsia/corsia/engine/ValueLengths$Limit;J)V" } : Jvm.MethodName) prog_127_method_2_code (4 : Nat) (Option.none : Option Jvm.ClassFile.FieldType), Jvm.Cond.code ({ cls := "com/example/corsia/corsia/engine/ValueLengths$Limit", name := "count", desc := "()Lcom/example/corsia/corsia/engine/ValueLengths$Count;" } : Jvm.MethodName) prog_124_method_5_code (1 : Nat) (Option.some (Jvm.ClassFile.FieldType.object "com/example/corsia/corsia/engine/ValueLengths$Count")), Jvm.Cond.code ({ cls := "com/example/corsia/corsia/engine/ValueLengths$Limit", name := "zerosShortened", desc := "()Z" } : Jvm.MethodName) prog_124_method_7_code (1 : Nat) (Option.some Jvm.ClassFile.FieldType.boolean), Jvm.Cond.code ({ cls := "com/example/corsia/corsia/engine/ValueText", name := "room", desc := "()J" } : Jvm.MethodName) prog_127_method_7_code (1 : Nat) (Option.some Jvm.ClassFile.FieldType.long), Jvm.Cond.code ({ cls := "com/example/corsia/corsia/engine/ValueText", name := "readWithin", desc := "([BIII)V" } : Jvm.MethodName) prog_127_method_8_code (6 : Nat) (Option.none : Option Jvm.ClassFile.FieldType), Jvm.Cond.code ({ cls := "com/example/corsia/corsia/engine/ValueText", name := "read", desc := "([CIILcom/example/corsia/corsia/engine/ValueText$Sink;)Z" } : Jvm.MethodName) prog_127_method_6_code (10 : Nat) (Option.some Jvm.ClassFile.FieldType.boolean), Jvm.Cond.code ({ cls := "com/example/corsia/corsia/engine/ValueText", name := "within", desc := "([CII)I" } : Jvm.MethodName) prog_127_method_11_code (6 : Nat) (Option.some Jvm.ClassFile.FieldType.int), Jvm.Cond.code ({ cls := "com/example/corsia/corsia/engine/ValueText", name := "role", desc := "(C)Lcom/example/corsia/corsia/engine/ValueText$Role;" } : Jvm.MethodName) prog_127_method_12_code (3 : Nat) (Option.some (Jvm.ClassFile.FieldType.object "com/example/corsia/corsia/engine/ValueText$Role")), Jvm.Cond.code ({ cls := "java/lang/Character", name := "isLowSurrogate", desc := "(C)Z" } : Jvm.MethodName) jdk_89_method_15_code (1 : Nat) (Option.some Jvm.ClassFile.FieldType.boolean)]
set_option maxRecDepth 65536 in
theorem codes_eq : words1.filter isCode = codes1 := rfl
theorem w_codes : ∀ c ∈ words1.filter isCode, c.before args0 about1 = true := by
  rw [codes_eq]
  intro c hc
  simp only [codes1, List.mem_cons, List.not_mem_nil, or_false] at hc
  rcases hc with rfl | rfl | rfl | rfl | rfl | rfl | rfl | rfl | rfl | rfl | rfl | rfl | rfl | rfl | rfl | rfl
  · exact w_c0
  · exact w_c1
  · exact w_c2
  · exact w_c3
  · exact w_c4
  · exact w_c5
  · exact w_c6
  · exact w_c7
  · exact w_c8
  · exact w_c9
  · exact w_c10
  · exact w_c11
  · exact w_c12
  · exact w_c13
  · exact w_c14
  · exact w_c15
set_option maxRecDepth 65536 in
theorem w_t1 : (words1.take 24).all (fun c => isCode c || c.before args0 about1) = true := by decide +kernel
set_option maxRecDepth 65536 in
theorem w_t2 : ((words1.drop 24).take 24).all (fun c => isCode c || c.before args0 about1) = true := by decide +kernel
set_option maxRecDepth 65536 in
theorem w_t3 : (((words1.drop 24).drop 24).take 24).all (fun c => isCode c || c.before args0 about1) = true := by decide +kernel
set_option maxRecDepth 65536 in
theorem w_t4 : ((((words1.drop 24).drop 24).drop 24).take 24).all (fun c => isCode c || c.before args0 about1) = true := by decide +kernel
set_option maxRecDepth 65536 in
theorem w_t5 : (((((words1.drop 24).drop 24).drop 24).drop 24).take 24).all (fun c => isCode c || c.before args0 about1) = true := by decide +kernel
set_option maxRecDepth 65536 in
theorem w_t6 : (((((words1.drop 24).drop 24).drop 24).drop 24).drop 24).all (fun c => isCode c || c.before args0 about1) = true := by decide +kernel
theorem w_tables : (allAtoms (Jvm.Cond.code x code maxLocals ret :: tables_1)).before args0 about1 = true := by
  rw [allAtoms_all]
  show words1.all (fun c => c.before args0 about1) = true
  refine all_split ?_ w_codes
  rw [← List.take_append_drop 24 words1, List.all_append, w_t1, ← List.take_append_drop 24 (words1.drop 24), List.all_append, w_t2, ← List.take_append_drop 24 ((words1.drop 24).drop 24), List.all_append, w_t3, ← List.take_append_drop 24 (((words1.drop 24).drop 24).drop 24), List.all_append, w_t4, ← List.take_append_drop 24 ((((words1.drop 24).drop 24).drop 24).drop 24), List.all_append, w_t5, w_t6]
  rfl
set_option maxRecDepth 65536 in
theorem w_case : (Jvm.Cond.and given_1 narrow_1).before args0 about1 = true := by decide +kernel
theorem w_applies : (headSpec (Jvm.Cond.code x code maxLocals ret :: tables_1) room_1).applies x e0.platform about1 = true :=
  (Spec.applies_iff w_frames).mpr ⟨w_running, w_runnable, w_alone, w_named, w_hears, w_ripe, w_room, w_tables⟩
theorem atStart : AtStart classFile x code maxLocals ret World_1 tables_1 room_1 Calls_1 rest_1 Pre_1 launch0 p0 e0 about1 theMethod args0 below0 :=
  ⟨lists_1, trivial, launch0.admits_env _ _ _, launch0.least_env, fairChoices_fair.cas, fairChoices_fair.clock, w_frames, w_args, w_heap, w_applies, trivial, trivial, w_case⟩
end start1
theorem witness_1 : WitnessClaimed_1 := ⟨start1.p0, start1.e0, start1.about1, start1.theMethod, start1.args0, start1.below0, start1.atStart⟩
end Jvm.Pilot.@@N@@
