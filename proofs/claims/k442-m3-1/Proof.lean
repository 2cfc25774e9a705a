import JvmDerived
import JvmDerived.Pilot.@@N@@Statement
import JvmDerived.Pilot.@@N@@Code
set_option linter.unusedVariables false
set_option linter.unusedSimpArgs false
@@BLOCK:HandJ.lean.txt@@
@@BLOCK:SymMore.lean.txt@@
namespace Jvm.RoadKit
open Sem ClassFile Op Lib Jvm.Stand Jvm.Free Jvm.LawKit
section New
variable {p : Program} {l : Launch} {e : Env} {R : Room} {s : State} {m : MethodId} {args : Array Value} {below : List Frame} {meth : Method} {c : Code} {T : State} {locs : List Loc} {cells slots : Nat}
theorem retI (X : Stand p l e R s m args below meth c T locs cells slots) (hx : p.tables.exec = Jvm.exec) {pc : Nat} {Ls : Array Slot} {z : Int32} {rest : List Value} (hret : meth.sig.returnType = some .int) (hd : decode c.code pc = .ok (.ireturn, 1)) {fs : List Frame}
    (hl : ∀ (f : JFrame) (acts : List Action), f.method = m → f.locked = none → f.entered = [] → (doReturn e (T.setTop f) acts (some (.int z))).1 = T.setFrames fs) : Steps p.tables e below (T.setTop (mkF m pc Ls (.int z :: rest))) (T.setFrames fs) := by
  have hm' : T.vm.method? m = some meth := X.method'
  have hn : narrow .int (.int z) = .int z := rfl
  show Steps p.tables e below (T.setTop { method := m, pc := pc, locals := Ls, stack := _ :: rest, locked := none }) _
  jvm_step X.here [X.here.top, hx, hd, hm', hret, hn]
  first | (intro acts; rw [hl _ acts rfl rfl rfl]) | rw [hl _ _ rfl rfl rfl]
  exact Steps.refl _
end New
end Jvm.RoadKit
namespace Jvm.Pilot.@@N@@
open Jvm Jvm.ClassFile Sem Op Lib Jvm.Free Jvm.Stand Jvm.LawKit Jvm.RoadKit Bundle Jvm.Pilot.@@N@@.Jvm.D
theorem own_fldI {s : State} {args : Array Value} {t : Term} {x : Addr} {C n d : String} {k : Int32} (ev : t.eval args s none [] s = some (.ref x)) (h : (Cond.eq (.field t C n d) (.int k)).value args s none s [] = some true) : Fld s s.heap x C n d (.int k) := by
  refine Fld.start ?_
  have e := fld_at (C := C) (n := n) (dd := d) ev
  cases hq : s.fieldOf? x C n d with
  | none => rw [hq] at e; simp [Cond.value, e] at h
  | some v =>
    rw [hq] at e
    have e2 : (Term.int k).eval args s none [] s = some (.int k) := rfl
    cases v <;> simp [Cond.value, e, e2] at h
    rw [h]
theorem own_fldN {s : State} {args : Array Value} {t : Term} {x : Addr} {C n d : String} (ev : t.eval args s none [] s = some (.ref x)) (h : (Cond.eq (.field t C n d) .null).value args s none s [] = some true) : Fld s s.heap x C n d .null := by
  refine Fld.start ?_
  rw [← fld_at (C := C) (n := n) (dd := d) ev]
  exact null_v h
theorem own_fldR {s : State} {args : Array Value} {t u : Term} {x y : Addr} {C n d : String} (ev : t.eval args s none [] s = some (.ref x)) (eu : u.eval args s none [] s = some (.ref y)) (h : (Cond.eq (.field t C n d) u).value args s none s [] = some true) : Fld s s.heap x C n d (.ref y) := by
  refine Fld.start ?_
  have e := fld_at (C := C) (n := n) (dd := d) ev
  cases hq : s.fieldOf? x C n d with
  | none => rw [hq] at e; simp [Cond.value, e] at h
  | some v =>
    rw [hq] at e
    cases v <;> simp [Cond.value, e, eu] at h
    rw [h]
theorem own_staI {s : State} {args : Array Value} {C n d : String} {k : Int32} (h : (Cond.eq (.static C n d) (.int k)).value args s none s [] = some true) : (Term.static C n d).eval args s none [] s = some (.int k) := by
  cases hq : (Term.static C n d).eval args s none [] s with
  | none => simp [Cond.value, hq] at h
  | some v =>
    have e2 : (Term.int k).eval args s none [] s = some (.int k) := rfl
    cases v <;> simp [Cond.value, hq, e2] at h
    rw [h]
theorem own_elemR {s : State} {args : Array Value} {t u : Term} {x y : Addr} {cl : Cell} {j : Int32} (ev : t.eval args s none [] s = some (.ref x)) (eu : u.eval args s none [] s = some (.ref y)) (hc : s.heap[x]? = some cl) (h : (Cond.eq (.elem t (.int j)) u).value args s none s [] = some true) : cl.slots[j.toNatClampNeg]? = some (.ref y) := by
  cases hq : (Term.elem t (.int j)).eval args s none [] s with
  | none => simp [Cond.value, hq] at h
  | some v =>
    have e := (elem_in hq ev rfl hc).2
    cases v <;> simp [Cond.value, hq, eu] at h
    rw [e, h]
theorem own_fresh {Z : State} {h : Heap} {a b : Addr} {C n d : String} {v w : Value} (F : Fld Z h a C n d v) (G : Fld Z h b C n d w) (q : v ≠ w) : a ≠ b := F.ne G q
theorem own_sta_keep {Z : State} {h h' : Heap} {C n d : String} {v : Value} {ws : List Addr} (F : Sta Z h C n d v) (K : Keep h h' ws) (q : ∀ x ∈ ws, ∀ c : Cell, h[x]? = some c → c.vm.isStatics = false) : Sta Z h' C n d v := by
  obtain ⟨cf, i, k, f, st, cell, h1, h2, h3, h4, h5, h6, h7⟩ := F
  refine ⟨cf, i, k, f, st, cell, h1, h2, h3, h4, K.2.1 st cell h5 (fun hm => ?_), h6, h7⟩
  rw [q st hm cell h5] at h6; cases h6
theorem own_mono {p : Program} {l : Launch} {e : Env} {R : Room} {s : State} {m : MethodId} {args : Array Value} {below : List Frame} {meth : Method} {c : Code} {T : State} {locs : List Loc} {k j k' j' : Nat} (X : Stand p l e R s m args below meth c T locs k j) (hk : k ≤ k') (hj : j ≤ j') : Stand p l e R s m args below meth c T locs k' j' := { X with same := X.same.mono hk hj }
theorem own_nost {Z : State} {h : Heap} {a : Addr} {C : String} (F : Exa Z h a C) : ∀ c : Cell, h[a]? = some c → c.vm.isStatics = false := fun c hc => by
  obtain ⟨c', _, h1, -, -, h4, -⟩ := F
  cases h1.symm.trans hc; exact h4
theorem own_nostV {Z : State} {h : Heap} {a : Addr} {k : ClassId} {ty : FieldType} {z : Int32} {vs : List Value} {dv : Value} (F : Arv Z h a k ty z vs dv) : ∀ c : Cell, h[a]? = some c → c.vm.isStatics = false := fun c hc => by
  obtain ⟨c', A, -⟩ := F
  cases A.1.symm.trans hc; exact A.plain
theorem d0_0 : decode jdk_29_method_65_code 0 = .ok (.iload_n 0, 1) := by decide +kernel
theorem d0_1 : decode jdk_29_method_65_code 1 = .ok (.iload_n 1, 1) := by decide +kernel
theorem d0_2 : decode jdk_29_method_65_code 2 = .ok (.if_icmp .lt 7, 3) := by decide +kernel
theorem d0_5 : decode jdk_29_method_65_code 5 = .ok (.iload_n 0, 1) := by decide +kernel
theorem d0_6 : decode jdk_29_method_65_code 6 = .ok (.goto 4, 3) := by decide +kernel
theorem d0_10 : decode jdk_29_method_65_code 10 = .ok (.ireturn, 1) := by decide +kernel
theorem d0_9 : decode jdk_29_method_65_code 9 = .ok (.iload_n 1, 1) := by decide +kernel
theorem d2_0 : decode jdk_29_method_69_code 0 = .ok (.iload_n 0, 1) := by decide +kernel
theorem d2_1 : decode jdk_29_method_69_code 1 = .ok (.iload_n 1, 1) := by decide +kernel
theorem d2_2 : decode jdk_29_method_69_code 2 = .ok (.if_icmp .gt 7, 3) := by decide +kernel
theorem d2_5 : decode jdk_29_method_69_code 5 = .ok (.iload_n 0, 1) := by decide +kernel
theorem d2_6 : decode jdk_29_method_69_code 6 = .ok (.goto 4, 3) := by decide +kernel
theorem d2_10 : decode jdk_29_method_69_code 10 = .ok (.ireturn, 1) := by decide +kernel
theorem d2_9 : decode jdk_29_method_69_code 9 = .ok (.iload_n 1, 1) := by decide +kernel
theorem d3_0 : decode prog_9_method_1_code 0 = .ok (.aload_n 0, 1) := by decide +kernel
theorem d3_1 : decode prog_9_method_1_code 1 = .ok (.invokespecial 1, 3) := by decide +kernel
theorem d3_4 : decode prog_9_method_1_code 4 = .ok (.aload_n 0, 1) := by decide +kernel
theorem d3_5 : decode prog_9_method_1_code 5 = .ok (.getstatic 7, 3) := by decide +kernel
theorem d3_8 : decode prog_9_method_1_code 8 = .ok (.putfield 13, 3) := by decide +kernel
theorem d3_11 : decode prog_9_method_1_code 11 = .ok (.return_, 1) := by decide +kernel
theorem pn_4 : plainName "com/example/kalends/kalends/engine/LongList" = true := by first | (simp [plainName, overriddenIn]; done) | decide +kernel
theorem d5_0 : decode prog_9_method_3_code 0 = .ok (.aload_n 0, 1) := by decide +kernel
theorem d5_1 : decode prog_9_method_3_code 1 = .ok (.getfield 23, 3) := by decide +kernel
theorem d5_4 : decode prog_9_method_3_code 4 = .ok (.ifCond .eq 13, 3) := by decide +kernel
theorem d5_17 : decode prog_9_method_3_code 17 = .ok (.aload_n 0, 1) := by decide +kernel
theorem d5_18 : decode prog_9_method_3_code 18 = .ok (.iconst 1, 1) := by decide +kernel
theorem d5_19 : decode prog_9_method_3_code 19 = .ok (.putfield 16, 3) := by decide +kernel
theorem d5_22 : decode prog_9_method_3_code 22 = .ok (.aload_n 0, 1) := by decide +kernel
theorem d5_23 : decode prog_9_method_3_code 23 = .ok (.lload_n 1, 1) := by decide +kernel
theorem d5_24 : decode prog_9_method_3_code 24 = .ok (.putfield 46, 3) := by decide +kernel
theorem d5_27 : decode prog_9_method_3_code 27 = .ok (.aload_n 0, 1) := by decide +kernel
theorem d5_28 : decode prog_9_method_3_code 28 = .ok (.lload_n 3, 1) := by decide +kernel
theorem d5_29 : decode prog_9_method_3_code 29 = .ok (.putfield 50, 3) := by decide +kernel
theorem d5_32 : decode prog_9_method_3_code 32 = .ok (.aload_n 0, 1) := by decide +kernel
theorem d5_33 : decode prog_9_method_3_code 33 = .ok (.iload 5, 2) := by decide +kernel
theorem d5_35 : decode prog_9_method_3_code 35 = .ok (.putfield 23, 3) := by decide +kernel
theorem d5_38 : decode prog_9_method_3_code 38 = .ok (.return_, 1) := by decide +kernel
theorem d6_0 : decode prog_9_method_8_code 0 = .ok (.aload_n 0, 1) := by decide +kernel
theorem d6_1 : decode prog_9_method_8_code 1 = .ok (.iconst 0, 1) := by decide +kernel
theorem d6_2 : decode prog_9_method_8_code 2 = .ok (.putfield 23, 3) := by decide +kernel
theorem d6_5 : decode prog_9_method_8_code 5 = .ok (.aload_n 0, 1) := by decide +kernel
theorem d6_6 : decode prog_9_method_8_code 6 = .ok (.iconst 0, 1) := by decide +kernel
theorem d6_7 : decode prog_9_method_8_code 7 = .ok (.putfield 16, 3) := by decide +kernel
theorem d6_10 : decode prog_9_method_8_code 10 = .ok (.return_, 1) := by decide +kernel
theorem d7_0 : decode jdk_65_method_124_code 0 = .ok (.iload_n 1, 1) := by decide +kernel
theorem d7_1 : decode jdk_65_method_124_code 1 = .ok (.aload_n 0, 1) := by decide +kernel
theorem d7_2 : decode jdk_65_method_124_code 2 = .ok (.arraylength, 1) := by decide +kernel
theorem d7_3 : decode jdk_65_method_124_code 3 = .ok (.if_icmp .ne 11, 3) := by decide +kernel
theorem d7_14 : decode jdk_65_method_124_code 14 = .ok (.iload_n 1, 1) := by decide +kernel
theorem d7_15 : decode jdk_65_method_124_code 15 = .ok (.newarray .long, 2) := by decide +kernel
theorem d7_17 : decode jdk_65_method_124_code 17 = .ok (.astore_n 2, 1) := by decide +kernel
theorem d7_18 : decode jdk_65_method_124_code 18 = .ok (.aload_n 0, 1) := by decide +kernel
theorem d7_19 : decode jdk_65_method_124_code 19 = .ok (.iconst 0, 1) := by decide +kernel
theorem d7_20 : decode jdk_65_method_124_code 20 = .ok (.aload_n 2, 1) := by decide +kernel
theorem d7_21 : decode jdk_65_method_124_code 21 = .ok (.iconst 0, 1) := by decide +kernel
theorem d7_22 : decode jdk_65_method_124_code 22 = .ok (.aload_n 0, 1) := by decide +kernel
theorem d7_23 : decode jdk_65_method_124_code 23 = .ok (.arraylength, 1) := by decide +kernel
theorem d7_24 : decode jdk_65_method_124_code 24 = .ok (.iload_n 1, 1) := by decide +kernel
theorem d7_25 : decode jdk_65_method_124_code 25 = .ok (.invokestatic 304, 3) := by decide +kernel
theorem pd_8 : parseMethodDescriptor "(II)I" = some ⟨[.int, .int], some .int⟩ := by decide +kernel
theorem d7_28 : decode jdk_65_method_124_code 28 = .ok (.invokestatic 150, 3) := by decide +kernel
theorem d7_31 : decode jdk_65_method_124_code 31 = .ok (.aload_n 2, 1) := by decide +kernel
theorem d7_32 : decode jdk_65_method_124_code 32 = .ok (.areturn, 1) := by decide +kernel
theorem pn_9 : plainName "java/util/Arrays" = true := by first | (simp [plainName, overriddenIn]; done) | decide +kernel
theorem d10_0 : decode prog_9_method_9_code 0 = .ok (.aload_n 0, 1) := by decide +kernel
theorem d10_1 : decode prog_9_method_9_code 1 = .ok (.getfield 13, 3) := by decide +kernel
theorem d10_4 : decode prog_9_method_9_code 4 = .ok (.arraylength, 1) := by decide +kernel
theorem d10_5 : decode prog_9_method_9_code 5 = .ok (.aload_n 0, 1) := by decide +kernel
theorem d10_6 : decode prog_9_method_9_code 6 = .ok (.getfield 23, 3) := by decide +kernel
theorem d10_9 : decode prog_9_method_9_code 9 = .ok (.if_icmp .ge 20, 3) := by decide +kernel
theorem d10_29 : decode prog_9_method_9_code 29 = .ok (.iconst 0, 1) := by decide +kernel
theorem d10_30 : decode prog_9_method_9_code 30 = .ok (.istore_n 1, 1) := by decide +kernel
theorem d10_31 : decode prog_9_method_9_code 31 = .ok (.iload_n 1, 1) := by decide +kernel
theorem d10_32 : decode prog_9_method_9_code 32 = .ok (.aload_n 0, 1) := by decide +kernel
theorem d10_33 : decode prog_9_method_9_code 33 = .ok (.getfield 23, 3) := by decide +kernel
theorem d10_36 : decode prog_9_method_9_code 36 = .ok (.if_icmp .ge 27, 3) := by decide +kernel
theorem d10_63 : decode prog_9_method_9_code 63 = .ok (.aload_n 0, 1) := by decide +kernel
theorem d10_64 : decode prog_9_method_9_code 64 = .ok (.iconst 0, 1) := by decide +kernel
theorem d10_65 : decode prog_9_method_9_code 65 = .ok (.putfield 16, 3) := by decide +kernel
theorem d10_68 : decode prog_9_method_9_code 68 = .ok (.return_, 1) := by decide +kernel
theorem d10_12 : decode prog_9_method_9_code 12 = .ok (.aload_n 0, 1) := by decide +kernel
theorem d10_13 : decode prog_9_method_9_code 13 = .ok (.bipush 8, 2) := by decide +kernel
theorem d10_15 : decode prog_9_method_9_code 15 = .ok (.iconst 2, 1) := by decide +kernel
theorem d10_16 : decode prog_9_method_9_code 16 = .ok (.aload_n 0, 1) := by decide +kernel
theorem d10_17 : decode prog_9_method_9_code 17 = .ok (.getfield 23, 3) := by decide +kernel
theorem d10_20 : decode prog_9_method_9_code 20 = .ok (.imul, 1) := by decide +kernel
theorem d10_21 : decode prog_9_method_9_code 21 = .ok (.invokestatic 27, 3) := by decide +kernel
theorem d10_24 : decode prog_9_method_9_code 24 = .ok (.newarray .long, 2) := by decide +kernel
theorem d10_26 : decode prog_9_method_9_code 26 = .ok (.putfield 13, 3) := by decide +kernel
theorem d10_39 : decode prog_9_method_9_code 39 = .ok (.aload_n 0, 1) := by decide +kernel
theorem d10_40 : decode prog_9_method_9_code 40 = .ok (.getfield 13, 3) := by decide +kernel
theorem d10_43 : decode prog_9_method_9_code 43 = .ok (.iload_n 1, 1) := by decide +kernel
theorem d10_44 : decode prog_9_method_9_code 44 = .ok (.aload_n 0, 1) := by decide +kernel
theorem d10_45 : decode prog_9_method_9_code 45 = .ok (.getfield 46, 3) := by decide +kernel
theorem d10_48 : decode prog_9_method_9_code 48 = .ok (.iload_n 1, 1) := by decide +kernel
theorem d10_49 : decode prog_9_method_9_code 49 = .ok (.i2l, 1) := by decide +kernel
theorem d10_50 : decode prog_9_method_9_code 50 = .ok (.aload_n 0, 1) := by decide +kernel
theorem d10_51 : decode prog_9_method_9_code 51 = .ok (.getfield 50, 3) := by decide +kernel
theorem d10_54 : decode prog_9_method_9_code 54 = .ok (.lmul, 1) := by decide +kernel
theorem d10_55 : decode prog_9_method_9_code 55 = .ok (.ladd, 1) := by decide +kernel
theorem d10_56 : decode prog_9_method_9_code 56 = .ok (.lastore, 1) := by decide +kernel
theorem d10_57 : decode prog_9_method_9_code 57 = .ok (.iinc 1 1, 3) := by decide +kernel
theorem d10_60 : decode prog_9_method_9_code 60 = .ok (.goto (-29), 3) := by decide +kernel
theorem d11_0 : decode prog_9_method_2_code 0 = .ok (.aload_n 0, 1) := by decide +kernel
theorem d11_1 : decode prog_9_method_2_code 1 = .ok (.getfield 16, 3) := by decide +kernel
theorem d11_4 : decode prog_9_method_2_code 4 = .ok (.ifCond .eq 7, 3) := by decide +kernel
theorem d11_11 : decode prog_9_method_2_code 11 = .ok (.aload_n 0, 1) := by decide +kernel
theorem d11_12 : decode prog_9_method_2_code 12 = .ok (.getfield 23, 3) := by decide +kernel
theorem d11_15 : decode prog_9_method_2_code 15 = .ok (.aload_n 0, 1) := by decide +kernel
theorem d11_16 : decode prog_9_method_2_code 16 = .ok (.getfield 13, 3) := by decide +kernel
theorem d11_19 : decode prog_9_method_2_code 19 = .ok (.arraylength, 1) := by decide +kernel
theorem d11_20 : decode prog_9_method_2_code 20 = .ok (.if_icmp .ne 25, 3) := by decide +kernel
theorem d11_23 : decode prog_9_method_2_code 23 = .ok (.aload_n 0, 1) := by decide +kernel
theorem d11_24 : decode prog_9_method_2_code 24 = .ok (.aload_n 0, 1) := by decide +kernel
theorem d11_25 : decode prog_9_method_2_code 25 = .ok (.getfield 13, 3) := by decide +kernel
theorem d11_28 : decode prog_9_method_2_code 28 = .ok (.bipush 8, 2) := by decide +kernel
theorem d11_30 : decode prog_9_method_2_code 30 = .ok (.aload_n 0, 1) := by decide +kernel
theorem d11_31 : decode prog_9_method_2_code 31 = .ok (.getfield 23, 3) := by decide +kernel
theorem d11_34 : decode prog_9_method_2_code 34 = .ok (.iconst 2, 1) := by decide +kernel
theorem d11_35 : decode prog_9_method_2_code 35 = .ok (.imul, 1) := by decide +kernel
theorem d11_36 : decode prog_9_method_2_code 36 = .ok (.invokestatic 27, 3) := by decide +kernel
theorem d11_39 : decode prog_9_method_2_code 39 = .ok (.invokestatic 33, 3) := by decide +kernel
theorem pd_12 : parseMethodDescriptor "([JI)[J" = some ⟨[(.array .long), .int], some (.array .long)⟩ := by decide +kernel
theorem d11_42 : decode prog_9_method_2_code 42 = .ok (.putfield 13, 3) := by decide +kernel
theorem d11_45 : decode prog_9_method_2_code 45 = .ok (.aload_n 0, 1) := by decide +kernel
theorem d11_46 : decode prog_9_method_2_code 46 = .ok (.getfield 13, 3) := by decide +kernel
theorem d11_49 : decode prog_9_method_2_code 49 = .ok (.aload_n 0, 1) := by decide +kernel
theorem d11_50 : decode prog_9_method_2_code 50 = .ok (.dup, 1) := by decide +kernel
theorem d11_51 : decode prog_9_method_2_code 51 = .ok (.getfield 23, 3) := by decide +kernel
theorem d11_54 : decode prog_9_method_2_code 54 = .ok (.dup_x1, 1) := by decide +kernel
theorem d11_55 : decode prog_9_method_2_code 55 = .ok (.iconst 1, 1) := by decide +kernel
theorem d11_56 : decode prog_9_method_2_code 56 = .ok (.iadd, 1) := by decide +kernel
theorem d11_57 : decode prog_9_method_2_code 57 = .ok (.putfield 23, 3) := by decide +kernel
theorem d11_60 : decode prog_9_method_2_code 60 = .ok (.lload_n 1, 1) := by decide +kernel
theorem d11_61 : decode prog_9_method_2_code 61 = .ok (.lastore, 1) := by decide +kernel
theorem d11_62 : decode prog_9_method_2_code 62 = .ok (.return_, 1) := by decide +kernel
theorem d11_7 : decode prog_9_method_2_code 7 = .ok (.aload_n 0, 1) := by decide +kernel
theorem d11_8 : decode prog_9_method_2_code 8 = .ok (.invokevirtual 20, 3) := by decide +kernel
theorem pd_13 : parseMethodDescriptor "()V" = some ⟨[], none⟩ := by decide +kernel
theorem d14_0 : decode prog_9_method_7_code 0 = .ok (.aload_n 0, 1) := by decide +kernel
theorem d14_1 : decode prog_9_method_7_code 1 = .ok (.getfield 23, 3) := by decide +kernel
theorem d14_4 : decode prog_9_method_7_code 4 = .ok (.ifCond .ne 7, 3) := by decide +kernel
theorem d14_7 : decode prog_9_method_7_code 7 = .ok (.iconst 1, 1) := by decide +kernel
theorem d14_8 : decode prog_9_method_7_code 8 = .ok (.goto 4, 3) := by decide +kernel
theorem d14_12 : decode prog_9_method_7_code 12 = .ok (.ireturn, 1) := by decide +kernel
theorem d14_11 : decode prog_9_method_7_code 11 = .ok (.iconst 0, 1) := by decide +kernel
theorem pd_16 : parseMethodDescriptor "()Z" = some ⟨[], some .boolean⟩ := by decide +kernel
theorem pd_17 : parseMethodDescriptor "(J)V" = some ⟨[.long], none⟩ := by decide +kernel
theorem pd_18 : parseMethodDescriptor "(JJI)V" = some ⟨[.long, .long, .int], none⟩ := by decide +kernel
theorem pn_19 : plainName "com/example/kalends/kalends/engine/LongListIsEmptyPinLaw" = true := by first | (simp [plainName, overriddenIn]; done) | decide +kernel
theorem own_len {s : State} {args : Array Value} {t : Term} {x : Addr} {cl : Cell} {ty : FieldType} {k : Int32} (ev : t.eval args s none [] s = some (.ref x)) (h : (Cond.eq (.length t) (.int k)).value args s none s [] = some true) (A : Arr s s.heap x cl ty) : cl.slots.size < 2 ^ 31 ∧ cl.slots.size.toInt32 = k := by
  have hA : s.arrayAt? x = some cl := A.fin (Vm.Alike.refl _)
  by_cases hl : cl.slots.size < 2 ^ 31
  · have e := len_f ev hA hl
    have e2 : (Term.int k).eval args s none [] s = some (.int k) := rfl
    refine ⟨hl, ?_⟩
    simpa [Cond.value, e, e2] using h
  · exfalso
    have e : (Term.length t).eval args s none [] s = none := by simp [Term.eval, ev, hA, hl]
    simp [Cond.value, e] at h

theorem own_andle (x m : Int32) : (x &&& m).toBitVec.toNat ≤ m.toBitVec.toNat := by
  rw [Int32.toBitVec_and, BitVec.toNat_and]; exact Nat.and_le_right
theorem own_cases {y : Int32} {n : Nat} (h : y.toBitVec.toNat ≤ n) : ∃ k, k ≤ n ∧ y = Int32.ofNat k := ⟨y.toBitVec.toNat, h, by
  apply Int32.toBitVec_inj.mp
  show _ = BitVec.ofNat 32 _
  simp⟩
theorem own_and3 (x : Int32) : x &&& (3 : Int32) = (0 : Int32) ∨ x &&& (3 : Int32) = (1 : Int32) ∨ x &&& (3 : Int32) = (2 : Int32) ∨ x &&& (3 : Int32) = (3 : Int32) := by
  obtain ⟨k, hk, e⟩ := own_cases (own_andle x 3)
  have hk' : k ≤ 3 := hk
  rw [e]
  have : k = 0 ∨ k = 1 ∨ k = 2 ∨ k = 3 := by omega
  rcases this with rfl | rfl | rfl | rfl <;> decide
theorem ef_own_max_f (m : MethodId) (pi0 : Int32) (pi1 : Int32) : entryFrame m #[(.int pi0), (.int pi1)] 2 = mkF m 0 #[.val (.int pi0), .val (.int pi1)] [] := by first | (simp [entryFrame, mkF, argsToLocals, Value.category]; done) | rfl
def Q_own_max_f (Z : State) (pi0 : Int32) (pi1 : Int32)  (h0 : Heap) (n0 : Nat) (v : Option Value) (h : Heap) (L : List Loc) : Prop := v = some (.int pi0) ∧ Fr n0 L ∧ h = h0
set_option maxRecDepth 65536 in
set_option maxHeartbeats 40000000 in
theorem own_max_f (l : Launch) (Z : State) (a0 : Array Value) (hw : ∀ d ∈ tables_1, d.before a0 Z = true) (ws : List Jvm.Cond) (pi0 : Int32) (pi1 : Int32)  (h0 : Heap) (n0 : Nat) (Z0 : n0 ≤ h0.size) (P0 : ¬ (pi0 < pi1)) :
    MetFree l (⟨"java/lang/Math", "max", "(II)I"⟩ : MethodName) (head1 (Jvm.Cond.code (⟨"java/lang/Math", "max", "(II)I"⟩ : MethodName) jdk_29_method_65_code 2 (some .int) :: ws) ({ frames := 0, cells := 0, slots := 0, locals := 0 } : Room)) (fun a U => a = #[(.int pi0), (.int pi1)] ∧ Z.Warmed39 U.vm ∧ U.heap = h0) (fun _ _ _ _ _ => True) (fun _ U o U' => ∃ v L, o = .returned v ∧ Q_own_max_f Z pi0 pi1 h0 n0 v U'.heap L ∧ FrameEnd U o U' L ({ frames := 0, cells := 0, slots := 0, locals := 0 } : Room).cells ({ frames := 0, cells := 0, slots := 0, locals := 0 } : Room).slots) := by
  refine MetFree.of_bodySF (Jvm.Free.JP.mathPlain rfl (by decide +kernel)) hisR ?_
  intro p e s m args below meth c s₁ Bd hml0 hP hK
  obtain ⟨rfl, hZ, hh⟩ := hP
  have hx := Bd.exec
  have hby := Bd.bytes
  have hml : c.maxLocals = 2 := hml0
  have hown : s.vm.findClass "java/lang/Math" = some m.cls := findClass_of_methodNamed Bd.named
  have hnm := (name_of_methodNamed Bd.named Bd.method).1
  have X0 : Stand p l e ({ frames := 0, cells := 0, slots := 0, locals := 0 } : Room) s m #[(.int pi0), (.int pi1)] below meth c s₁ [] 0 0 := Stand.of_body Bd
  have e0 : s₁.heap = h0 := by rw [← hh, Bd.state]; rfl
  have N0 := Fr.nil n0
  have go0 : ∀ t, Steps p.tables e below (s₁.setTop (mkF m 0 #[.val (.int pi0), .val (.int pi1)] [])) t → Steps p.tables e below (s₁.setTop (entryFrame m #[(.int pi0), (.int pi1)] 2)) t := fun t k => castTop (ef_own_max_f m pi0 pi1) k
  revert go0
  generalize s₁.setTop (entryFrame m #[(.int pi0), (.int pi1)] 2) = st0
  intro go0
  have go1 : ∀ t, Steps p.tables e below (s₁.setTop (mkF m 10 #[.val (.int pi0), .val (.int pi1)] [(.int pi0)])) t → Steps p.tables e below st0 t := by
    intro t kt
    refine go0 t ?_
    refine XS.iloadN X0.here hx rfl (hb hby d0_0) rfl ?_
    show Steps p.tables e below (s₁.setTop (mkF m 1 #[.val (.int pi0), .val (.int pi1)] [(.int pi0)])) _
    refine XS.iloadN X0.here hx rfl (hb hby d0_1) rfl ?_
    show Steps p.tables e below (s₁.setTop (mkF m 2 #[.val (.int pi0), .val (.int pi1)] [(.int pi1), (.int pi0)])) _
    refine XS.icmpNo X0.here hx rfl (hb hby d0_2) rfl (flt P0).1 ?_
    show Steps p.tables e below (s₁.setTop (mkF m 5 #[.val (.int pi0), .val (.int pi1)] [])) _
    refine XS.iloadN X0.here hx rfl (hb hby d0_5) rfl ?_
    show Steps p.tables e below (s₁.setTop (mkF m 6 #[.val (.int pi0), .val (.int pi1)] [(.int pi0)])) _
    refine XS.goto X0.here hx rfl (pc0 := 6) (pc' := 10) rfl (hb hby d0_6) (by decide) (by decide) ?_
    show Steps p.tables e below (s₁.setTop (mkF m 10 #[.val (.int pi0), .val (.int pi1)] [(.int pi0)])) _
    exact kt
  obtain ⟨fs, hr, hrun, hended, hW, hsame⟩ := X0.leave (v := some (.int pi0)) (fun h => by rw [Bd.returns] at h; cases h)
  refine ⟨_, _, go1 _ ?_, hrun, hended, _, _, rfl, ?_, ⟨_, rfl⟩, hW, hsame.mono (by decide) (by decide)⟩
  · exact retI X0 hx Bd.returns (hb hby d0_10) hr
  · show Q_own_max_f Z pi0 pi1 h0 n0 _ s₁.heap _
    rw [e0]
    exact ⟨rfl, N0, rfl⟩
theorem ef_own_max_t (m : MethodId) (pi0 : Int32) (pi1 : Int32) : entryFrame m #[(.int pi0), (.int pi1)] 2 = mkF m 0 #[.val (.int pi0), .val (.int pi1)] [] := by first | (simp [entryFrame, mkF, argsToLocals, Value.category]; done) | rfl
def Q_own_max_t (Z : State) (pi0 : Int32) (pi1 : Int32)  (h0 : Heap) (n0 : Nat) (v : Option Value) (h : Heap) (L : List Loc) : Prop := v = some (.int pi1) ∧ Fr n0 L ∧ h = h0
set_option maxRecDepth 65536 in
set_option maxHeartbeats 40000000 in
theorem own_max_t (l : Launch) (Z : State) (a0 : Array Value) (hw : ∀ d ∈ tables_1, d.before a0 Z = true) (ws : List Jvm.Cond) (pi0 : Int32) (pi1 : Int32)  (h0 : Heap) (n0 : Nat) (Z0 : n0 ≤ h0.size) (P0 : pi0 < pi1) :
    MetFree l (⟨"java/lang/Math", "max", "(II)I"⟩ : MethodName) (head1 (Jvm.Cond.code (⟨"java/lang/Math", "max", "(II)I"⟩ : MethodName) jdk_29_method_65_code 2 (some .int) :: ws) ({ frames := 0, cells := 0, slots := 0, locals := 0 } : Room)) (fun a U => a = #[(.int pi0), (.int pi1)] ∧ Z.Warmed39 U.vm ∧ U.heap = h0) (fun _ _ _ _ _ => True) (fun _ U o U' => ∃ v L, o = .returned v ∧ Q_own_max_t Z pi0 pi1 h0 n0 v U'.heap L ∧ FrameEnd U o U' L ({ frames := 0, cells := 0, slots := 0, locals := 0 } : Room).cells ({ frames := 0, cells := 0, slots := 0, locals := 0 } : Room).slots) := by
  refine MetFree.of_bodySF (Jvm.Free.JP.mathPlain rfl (by decide +kernel)) hisR ?_
  intro p e s m args below meth c s₁ Bd hml0 hP hK
  obtain ⟨rfl, hZ, hh⟩ := hP
  have hx := Bd.exec
  have hby := Bd.bytes
  have hml : c.maxLocals = 2 := hml0
  have hown : s.vm.findClass "java/lang/Math" = some m.cls := findClass_of_methodNamed Bd.named
  have hnm := (name_of_methodNamed Bd.named Bd.method).1
  have X0 : Stand p l e ({ frames := 0, cells := 0, slots := 0, locals := 0 } : Room) s m #[(.int pi0), (.int pi1)] below meth c s₁ [] 0 0 := Stand.of_body Bd
  have e0 : s₁.heap = h0 := by rw [← hh, Bd.state]; rfl
  have N0 := Fr.nil n0
  have go0 : ∀ t, Steps p.tables e below (s₁.setTop (mkF m 0 #[.val (.int pi0), .val (.int pi1)] [])) t → Steps p.tables e below (s₁.setTop (entryFrame m #[(.int pi0), (.int pi1)] 2)) t := fun t k => castTop (ef_own_max_t m pi0 pi1) k
  revert go0
  generalize s₁.setTop (entryFrame m #[(.int pi0), (.int pi1)] 2) = st0
  intro go0
  have go1 : ∀ t, Steps p.tables e below (s₁.setTop (mkF m 10 #[.val (.int pi0), .val (.int pi1)] [(.int pi1)])) t → Steps p.tables e below st0 t := by
    intro t kt
    refine go0 t ?_
    refine XS.iloadN X0.here hx rfl (hb hby d0_0) rfl ?_
    show Steps p.tables e below (s₁.setTop (mkF m 1 #[.val (.int pi0), .val (.int pi1)] [(.int pi0)])) _
    refine XS.iloadN X0.here hx rfl (hb hby d0_1) rfl ?_
    show Steps p.tables e below (s₁.setTop (mkF m 2 #[.val (.int pi0), .val (.int pi1)] [(.int pi1), (.int pi0)])) _
    refine XS.icmpYes X0.here hx rfl (pc0 := 2) (pc' := 9) rfl (hb hby d0_2) rfl (tlt P0).1 (by decide) (by decide) ?_
    show Steps p.tables e below (s₁.setTop (mkF m 9 #[.val (.int pi0), .val (.int pi1)] [])) _
    refine XS.iloadN X0.here hx rfl (hb hby d0_9) rfl ?_
    show Steps p.tables e below (s₁.setTop (mkF m 10 #[.val (.int pi0), .val (.int pi1)] [(.int pi1)])) _
    exact kt
  obtain ⟨fs, hr, hrun, hended, hW, hsame⟩ := X0.leave (v := some (.int pi1)) (fun h => by rw [Bd.returns] at h; cases h)
  refine ⟨_, _, go1 _ ?_, hrun, hended, _, _, rfl, ?_, ⟨_, rfl⟩, hW, hsame.mono (by decide) (by decide)⟩
  · exact retI X0 hx Bd.returns (hb hby d0_10) hr
  · show Q_own_max_t Z pi0 pi1 h0 n0 _ s₁.heap _
    rw [e0]
    exact ⟨rfl, N0, rfl⟩
theorem ef_own_min_f (m : MethodId) (pi0 : Int32) (pi1 : Int32) : entryFrame m #[(.int pi0), (.int pi1)] 2 = mkF m 0 #[.val (.int pi0), .val (.int pi1)] [] := by first | (simp [entryFrame, mkF, argsToLocals, Value.category]; done) | rfl
def Q_own_min_f (Z : State) (pi0 : Int32) (pi1 : Int32)  (h0 : Heap) (n0 : Nat) (v : Option Value) (h : Heap) (L : List Loc) : Prop := v = some (.int pi0) ∧ Fr n0 L ∧ h = h0
set_option maxRecDepth 65536 in
set_option maxHeartbeats 40000000 in
theorem own_min_f (l : Launch) (Z : State) (a0 : Array Value) (hw : ∀ d ∈ tables_1, d.before a0 Z = true) (ws : List Jvm.Cond) (pi0 : Int32) (pi1 : Int32)  (h0 : Heap) (n0 : Nat) (Z0 : n0 ≤ h0.size) (P0 : ¬ (pi1 < pi0)) :
    MetFree l (⟨"java/lang/Math", "min", "(II)I"⟩ : MethodName) (head1 (Jvm.Cond.code (⟨"java/lang/Math", "min", "(II)I"⟩ : MethodName) jdk_29_method_69_code 2 (some .int) :: ws) ({ frames := 0, cells := 0, slots := 0, locals := 0 } : Room)) (fun a U => a = #[(.int pi0), (.int pi1)] ∧ Z.Warmed39 U.vm ∧ U.heap = h0) (fun _ _ _ _ _ => True) (fun _ U o U' => ∃ v L, o = .returned v ∧ Q_own_min_f Z pi0 pi1 h0 n0 v U'.heap L ∧ FrameEnd U o U' L ({ frames := 0, cells := 0, slots := 0, locals := 0 } : Room).cells ({ frames := 0, cells := 0, slots := 0, locals := 0 } : Room).slots) := by
  refine MetFree.of_bodySF (Jvm.Free.JP.mathPlain rfl (by decide +kernel)) hisR ?_
  intro p e s m args below meth c s₁ Bd hml0 hP hK
  obtain ⟨rfl, hZ, hh⟩ := hP
  have hx := Bd.exec
  have hby := Bd.bytes
  have hml : c.maxLocals = 2 := hml0
  have hown : s.vm.findClass "java/lang/Math" = some m.cls := findClass_of_methodNamed Bd.named
  have hnm := (name_of_methodNamed Bd.named Bd.method).1
  have X0 : Stand p l e ({ frames := 0, cells := 0, slots := 0, locals := 0 } : Room) s m #[(.int pi0), (.int pi1)] below meth c s₁ [] 0 0 := Stand.of_body Bd
  have e0 : s₁.heap = h0 := by rw [← hh, Bd.state]; rfl
  have N0 := Fr.nil n0
  have go0 : ∀ t, Steps p.tables e below (s₁.setTop (mkF m 0 #[.val (.int pi0), .val (.int pi1)] [])) t → Steps p.tables e below (s₁.setTop (entryFrame m #[(.int pi0), (.int pi1)] 2)) t := fun t k => castTop (ef_own_min_f m pi0 pi1) k
  revert go0
  generalize s₁.setTop (entryFrame m #[(.int pi0), (.int pi1)] 2) = st0
  intro go0
  have go1 : ∀ t, Steps p.tables e below (s₁.setTop (mkF m 10 #[.val (.int pi0), .val (.int pi1)] [(.int pi0)])) t → Steps p.tables e below st0 t := by
    intro t kt
    refine go0 t ?_
    refine XS.iloadN X0.here hx rfl (hb hby d2_0) rfl ?_
    show Steps p.tables e below (s₁.setTop (mkF m 1 #[.val (.int pi0), .val (.int pi1)] [(.int pi0)])) _
    refine XS.iloadN X0.here hx rfl (hb hby d2_1) rfl ?_
    show Steps p.tables e below (s₁.setTop (mkF m 2 #[.val (.int pi0), .val (.int pi1)] [(.int pi1), (.int pi0)])) _
    refine XS.icmpNo X0.here hx rfl (hb hby d2_2) rfl (flt P0).2.2.1 ?_
    show Steps p.tables e below (s₁.setTop (mkF m 5 #[.val (.int pi0), .val (.int pi1)] [])) _
    refine XS.iloadN X0.here hx rfl (hb hby d2_5) rfl ?_
    show Steps p.tables e below (s₁.setTop (mkF m 6 #[.val (.int pi0), .val (.int pi1)] [(.int pi0)])) _
    refine XS.goto X0.here hx rfl (pc0 := 6) (pc' := 10) rfl (hb hby d2_6) (by decide) (by decide) ?_
    show Steps p.tables e below (s₁.setTop (mkF m 10 #[.val (.int pi0), .val (.int pi1)] [(.int pi0)])) _
    exact kt
  obtain ⟨fs, hr, hrun, hended, hW, hsame⟩ := X0.leave (v := some (.int pi0)) (fun h => by rw [Bd.returns] at h; cases h)
  refine ⟨_, _, go1 _ ?_, hrun, hended, _, _, rfl, ?_, ⟨_, rfl⟩, hW, hsame.mono (by decide) (by decide)⟩
  · exact retI X0 hx Bd.returns (hb hby d2_10) hr
  · show Q_own_min_f Z pi0 pi1 h0 n0 _ s₁.heap _
    rw [e0]
    exact ⟨rfl, N0, rfl⟩
theorem ef_own_min_t (m : MethodId) (pi0 : Int32) (pi1 : Int32) : entryFrame m #[(.int pi0), (.int pi1)] 2 = mkF m 0 #[.val (.int pi0), .val (.int pi1)] [] := by first | (simp [entryFrame, mkF, argsToLocals, Value.category]; done) | rfl
def Q_own_min_t (Z : State) (pi0 : Int32) (pi1 : Int32)  (h0 : Heap) (n0 : Nat) (v : Option Value) (h : Heap) (L : List Loc) : Prop := v = some (.int pi1) ∧ Fr n0 L ∧ h = h0
set_option maxRecDepth 65536 in
set_option maxHeartbeats 40000000 in
theorem own_min_t (l : Launch) (Z : State) (a0 : Array Value) (hw : ∀ d ∈ tables_1, d.before a0 Z = true) (ws : List Jvm.Cond) (pi0 : Int32) (pi1 : Int32)  (h0 : Heap) (n0 : Nat) (Z0 : n0 ≤ h0.size) (P0 : pi1 < pi0) :
    MetFree l (⟨"java/lang/Math", "min", "(II)I"⟩ : MethodName) (head1 (Jvm.Cond.code (⟨"java/lang/Math", "min", "(II)I"⟩ : MethodName) jdk_29_method_69_code 2 (some .int) :: ws) ({ frames := 0, cells := 0, slots := 0, locals := 0 } : Room)) (fun a U => a = #[(.int pi0), (.int pi1)] ∧ Z.Warmed39 U.vm ∧ U.heap = h0) (fun _ _ _ _ _ => True) (fun _ U o U' => ∃ v L, o = .returned v ∧ Q_own_min_t Z pi0 pi1 h0 n0 v U'.heap L ∧ FrameEnd U o U' L ({ frames := 0, cells := 0, slots := 0, locals := 0 } : Room).cells ({ frames := 0, cells := 0, slots := 0, locals := 0 } : Room).slots) := by
  refine MetFree.of_bodySF (Jvm.Free.JP.mathPlain rfl (by decide +kernel)) hisR ?_
  intro p e s m args below meth c s₁ Bd hml0 hP hK
  obtain ⟨rfl, hZ, hh⟩ := hP
  have hx := Bd.exec
  have hby := Bd.bytes
  have hml : c.maxLocals = 2 := hml0
  have hown : s.vm.findClass "java/lang/Math" = some m.cls := findClass_of_methodNamed Bd.named
  have hnm := (name_of_methodNamed Bd.named Bd.method).1
  have X0 : Stand p l e ({ frames := 0, cells := 0, slots := 0, locals := 0 } : Room) s m #[(.int pi0), (.int pi1)] below meth c s₁ [] 0 0 := Stand.of_body Bd
  have e0 : s₁.heap = h0 := by rw [← hh, Bd.state]; rfl
  have N0 := Fr.nil n0
  have go0 : ∀ t, Steps p.tables e below (s₁.setTop (mkF m 0 #[.val (.int pi0), .val (.int pi1)] [])) t → Steps p.tables e below (s₁.setTop (entryFrame m #[(.int pi0), (.int pi1)] 2)) t := fun t k => castTop (ef_own_min_t m pi0 pi1) k
  revert go0
  generalize s₁.setTop (entryFrame m #[(.int pi0), (.int pi1)] 2) = st0
  intro go0
  have go1 : ∀ t, Steps p.tables e below (s₁.setTop (mkF m 10 #[.val (.int pi0), .val (.int pi1)] [(.int pi1)])) t → Steps p.tables e below st0 t := by
    intro t kt
    refine go0 t ?_
    refine XS.iloadN X0.here hx rfl (hb hby d2_0) rfl ?_
    show Steps p.tables e below (s₁.setTop (mkF m 1 #[.val (.int pi0), .val (.int pi1)] [(.int pi0)])) _
    refine XS.iloadN X0.here hx rfl (hb hby d2_1) rfl ?_
    show Steps p.tables e below (s₁.setTop (mkF m 2 #[.val (.int pi0), .val (.int pi1)] [(.int pi1), (.int pi0)])) _
    refine XS.icmpYes X0.here hx rfl (pc0 := 2) (pc' := 9) rfl (hb hby d2_2) rfl (tlt P0).2.2.1 (by decide) (by decide) ?_
    show Steps p.tables e below (s₁.setTop (mkF m 9 #[.val (.int pi0), .val (.int pi1)] [])) _
    refine XS.iloadN X0.here hx rfl (hb hby d2_9) rfl ?_
    show Steps p.tables e below (s₁.setTop (mkF m 10 #[.val (.int pi0), .val (.int pi1)] [(.int pi1)])) _
    exact kt
  obtain ⟨fs, hr, hrun, hended, hW, hsame⟩ := X0.leave (v := some (.int pi1)) (fun h => by rw [Bd.returns] at h; cases h)
  refine ⟨_, _, go1 _ ?_, hrun, hended, _, _, rfl, ?_, ⟨_, rfl⟩, hW, hsame.mono (by decide) (by decide)⟩
  · exact retI X0 hx Bd.returns (hb hby d2_10) hr
  · show Q_own_min_t Z pi0 pi1 h0 n0 _ s₁.heap _
    rw [e0]
    exact ⟨rfl, N0, rfl⟩
theorem ef_own_init (m : MethodId) (pr0 : Addr) : entryFrame m #[(.ref pr0)] 1 = mkF m 0 #[.val (.ref pr0)] [] := by first | (simp [entryFrame, mkF, argsToLocals, Value.category]; done) | rfl
def Q_own_init (Z : State) (pr0 : Addr) (nn : Addr) (h0 : Heap) (n0 : Nat) (v : Option Value) (h : Heap) (L : List Loc) : Prop := Fr n0 L ∧ v = none ∧ Keep h0 h ([pr0] : List Addr) ∧ Exa Z h pr0 "com/example/kalends/kalends/engine/LongList" ∧ Fld Z h pr0 "com/example/kalends/kalends/engine/LongList" "values" "[J" (.ref nn) ∧ Fld Z h pr0 "com/example/kalends/kalends/engine/LongList" "size" "I" (.int (0 : Int32)) ∧ Fld Z h pr0 "com/example/kalends/kalends/engine/LongList" "run" "Z" (.int (0 : Int32)) ∧ Fld Z h pr0 "com/example/kalends/kalends/engine/LongList" "runFirst" "J" (.long (0 : Int64)) ∧ Fld Z h pr0 "com/example/kalends/kalends/engine/LongList" "runStep" "J" (.long (0 : Int64))
set_option maxRecDepth 65536 in
set_option maxHeartbeats 40000000 in
theorem own_init (l : Launch) (Z : State) (a0 : Array Value) (hw : ∀ d ∈ tables_1, d.before a0 Z = true) (ws : List Jvm.Cond) (pr0 : Addr) (nn : Addr) (h0 : Heap) (n0 : Nat) (Z0 : n0 ≤ h0.size) (P0 : Exa Z h0 pr0 "com/example/kalends/kalends/engine/LongList") (P1 : Fld Z h0 pr0 "com/example/kalends/kalends/engine/LongList" "values" "[J" .null) (P2 : Fld Z h0 pr0 "com/example/kalends/kalends/engine/LongList" "size" "I" (.int (0 : Int32))) (P3 : Fld Z h0 pr0 "com/example/kalends/kalends/engine/LongList" "run" "Z" (.int (0 : Int32))) (P4 : Fld Z h0 pr0 "com/example/kalends/kalends/engine/LongList" "runFirst" "J" (.long (0 : Int64))) (P5 : Fld Z h0 pr0 "com/example/kalends/kalends/engine/LongList" "runStep" "J" (.long (0 : Int64))) (P6 : Sta Z h0 "com/example/kalends/kalends/engine/LongList" "NONE" "[J" (.ref nn)) (P7 : n0 ≤ pr0) :
    MetFree l (⟨"com/example/kalends/kalends/engine/LongList", "<init>", "()V"⟩ : MethodName) (head1 (Jvm.Cond.code (⟨"com/example/kalends/kalends/engine/LongList", "<init>", "()V"⟩ : MethodName) prog_9_method_1_code 1 none :: ws) ({ frames := 1, cells := 0, slots := 0, locals := 12 } : Room)) (fun a U => a = #[(.ref pr0)] ∧ Z.Warmed39 U.vm ∧ U.heap = h0) (fun _ _ _ _ _ => True) (fun _ U o U' => ∃ v L, o = .returned v ∧ Q_own_init Z pr0 nn h0 n0 v U'.heap L ∧ FrameEnd U o U' L ({ frames := 1, cells := 0, slots := 0, locals := 12 } : Room).cells ({ frames := 1, cells := 0, slots := 0, locals := 12 } : Room).slots) := by
  refine MetFree.of_bodySF (plainFor_of_name pn_4) hisR ?_
  intro p e s m args below meth c s₁ Bd hml0 hP hK
  obtain ⟨rfl, hZ, hh⟩ := hP
  have hx := Bd.exec
  have hby := Bd.bytes
  have hml : c.maxLocals = 1 := hml0
  have hown : s.vm.findClass "com/example/kalends/kalends/engine/LongList" = some m.cls := findClass_of_methodNamed Bd.named
  have hnm := (name_of_methodNamed Bd.named Bd.method).1
  have X0 : Stand p l e ({ frames := 1, cells := 0, slots := 0, locals := 12 } : Room) s m #[(.ref pr0)] below meth c s₁ [] 0 0 := Stand.of_body Bd
  have e0 : s₁.heap = h0 := by rw [← hh, Bd.state]; rfl
  have N0 := Fr.nil n0
  have go0 : ∀ t, Steps p.tables e below (s₁.setTop (mkF m 0 #[.val (.ref pr0)] [])) t → Steps p.tables e below (s₁.setTop (entryFrame m #[(.ref pr0)] 1)) t := fun t k => castTop (ef_own_init m pr0) k
  revert go0
  generalize s₁.setTop (entryFrame m #[(.ref pr0)] 1) = st0
  intro go0
  obtain ⟨T1, X1, e1, st1⟩ := initO X0 hx hZ hown (hw _ (List.mem_of_getElem? (i := 6) rfl)) (hw _ (List.mem_of_getElem? (i := 7) rfl)) (hw _ (List.mem_of_getElem? (i := 8) rfl)) e0 (g := (mkF m 1 #[.val (.ref pr0)] [(.ref pr0)])) rfl (by rw [hml]; rfl) rfl (hb hby d3_1) (by decide) (W := 0) (by show 2 * 0 + _ ≤ _; exact Nat.le_of_eq rfl) (by decide)
  obtain ⟨T2, X2, e2, st2⟩ := getS2 X1 hx hZ hown (host := "") (Or.inl (hw _ (List.mem_of_getElem? (i := 9) rfl))) Via.refl e1 P6 (g := (mkF m 5 #[.val (.ref pr0)] [(.ref pr0)])) rfl (hb hby d3_5)
  obtain ⟨T3, h3, X3, e3, W3, st3⟩ := putF X2 hx hZ hown (host := "") (Or.inl (hw _ (List.mem_of_getElem? (i := 11) rfl))) Via.refl e2 P1 P0 (Or.inl (hw _ (List.mem_of_getElem? (i := 12) rfl))) (hw _ (List.mem_of_getElem? (i := 1) rfl)) (ty := (.array .long)) (by decide) rfl rfl (g := (mkF m 8 #[.val (.ref pr0)] [(.ref nn), (.ref pr0)])) rfl rfl (hb hby d3_8)
  have K3 : Keep h0 h3 ([pr0] : List Addr) := (Keep.refl h0 ([pr0] : List Addr)).wr W3 (Or.inl (List.mem_of_getElem? (i := 0) rfl))
  have N3 := Fr.snoc X3 N0 P7
  have Z3 : n0 ≤ h3.size := Nat.le_trans Z0 (Keep.of_wr W3).1
  have Fw3 := P1.same W3
  have go4 : ∀ t, Steps p.tables e below (T3.setTop (mkF m 11 #[.val (.ref pr0)] [])) t → Steps p.tables e below st0 t := by
    intro t kt
    refine go0 t ?_
    refine XS.aloadN X0.here hx rfl (hb hby d3_0) rfl rfl ?_
    show Steps p.tables e below (s₁.setTop (mkF m 1 #[.val (.ref pr0)] [(.ref pr0)])) _
    refine st1 _ ?_
    show Steps p.tables e below (T1.setTop (mkF m 4 #[.val (.ref pr0)] [])) _
    refine XS.aloadN X1.here hx rfl (hb hby d3_4) rfl rfl ?_
    show Steps p.tables e below (T1.setTop (mkF m 5 #[.val (.ref pr0)] [(.ref pr0)])) _
    refine st2 _ ?_
    show Steps p.tables e below (T2.setTop (mkF m 8 #[.val (.ref pr0)] [(.ref nn), (.ref pr0)])) _
    refine st3 _ ?_
    show Steps p.tables e below (T3.setTop (mkF m 11 #[.val (.ref pr0)] [])) _
    exact kt
  obtain ⟨fs, hr, hrun, hended, hW, hsame⟩ := X3.leave (v := none) (fun _ => rfl)
  refine ⟨_, _, go4 _ ?_, hrun, hended, _, _, rfl, ?_, ⟨_, rfl⟩, hW, hsame.mono (by decide) (by decide)⟩
  · exact X3.returnOut hx Bd.returns (hb hby d3_11) hr
  · show Q_own_init Z pr0 nn h0 n0 _ T3.heap _
    rw [e3]
    have f5 : Exa Z h3 pr0 "com/example/kalends/kalends/engine/LongList" := (P0.wr W3)
    have f6 : Fld Z h3 pr0 "com/example/kalends/kalends/engine/LongList" "size" "I" (.int (0 : Int32)) := (P2.other W3 (Or.inr (slot_ne (Or.inl (hw _ (List.mem_of_getElem? (i := 19) rfl))) (Or.inl (hw _ (List.mem_of_getElem? (i := 12) rfl))) (by decide) (t := .int) (t' := (.array .long)) (by decide) (by decide))))
    have f7 : Fld Z h3 pr0 "com/example/kalends/kalends/engine/LongList" "run" "Z" (.int (0 : Int32)) := (P3.other W3 (Or.inr (slot_ne (Or.inl (hw _ (List.mem_of_getElem? (i := 26) rfl))) (Or.inl (hw _ (List.mem_of_getElem? (i := 12) rfl))) (by decide) (t := .boolean) (t' := (.array .long)) (by decide) (by decide))))
    have f8 : Fld Z h3 pr0 "com/example/kalends/kalends/engine/LongList" "runFirst" "J" (.long (0 : Int64)) := (P4.other W3 (Or.inr (slot_ne (Or.inl (hw _ (List.mem_of_getElem? (i := 28) rfl))) (Or.inl (hw _ (List.mem_of_getElem? (i := 12) rfl))) (by decide) (t := .long) (t' := (.array .long)) (by decide) (by decide))))
    have f9 : Fld Z h3 pr0 "com/example/kalends/kalends/engine/LongList" "runStep" "J" (.long (0 : Int64)) := (P5.other W3 (Or.inr (slot_ne (Or.inl (hw _ (List.mem_of_getElem? (i := 30) rfl))) (Or.inl (hw _ (List.mem_of_getElem? (i := 12) rfl))) (by decide) (t := .long) (t' := (.array .long)) (by decide) (by decide))))
    exact ⟨N3, rfl, K3, f5, Fw3, f6, f7, f8, f9⟩
theorem ef_own_addRun (m : MethodId) (pr0 : Addr) (pj1 : Int64) (pj2 : Int64) (pi3 : Int32) : entryFrame m #[(.ref pr0), (.long pj1), (.long pj2), (.int pi3)] 6 = mkF m 0 #[.val (.ref pr0), .val (.long pj1), .second, .val (.long pj2), .second, .val (.int pi3)] [] := by first | (simp [entryFrame, mkF, argsToLocals, Value.category]; done) | rfl
def Q_own_addRun (Z : State) (pr0 : Addr) (pj1 : Int64) (pj2 : Int64) (pi3 : Int32) (vv : Addr) (h0 : Heap) (n0 : Nat) (v : Option Value) (h : Heap) (L : List Loc) : Prop := Fr n0 L ∧ v = none ∧ Keep h0 h ([pr0] : List Addr) ∧ Exa Z h pr0 "com/example/kalends/kalends/engine/LongList" ∧ Fld Z h pr0 "com/example/kalends/kalends/engine/LongList" "values" "[J" (.ref vv) ∧ Fld Z h pr0 "com/example/kalends/kalends/engine/LongList" "size" "I" (.int pi3) ∧ Fld Z h pr0 "com/example/kalends/kalends/engine/LongList" "run" "Z" (.int (1 : Int32)) ∧ Fld Z h pr0 "com/example/kalends/kalends/engine/LongList" "runFirst" "J" (.long pj1) ∧ Fld Z h pr0 "com/example/kalends/kalends/engine/LongList" "runStep" "J" (.long pj2)
set_option maxRecDepth 65536 in
set_option maxHeartbeats 40000000 in
theorem own_addRun (l : Launch) (Z : State) (a0 : Array Value) (hw : ∀ d ∈ tables_1, d.before a0 Z = true) (ws : List Jvm.Cond) (pr0 : Addr) (pj1 : Int64) (pj2 : Int64) (pi3 : Int32) (vv : Addr) (h0 : Heap) (n0 : Nat) (Z0 : n0 ≤ h0.size) (P0 : Exa Z h0 pr0 "com/example/kalends/kalends/engine/LongList") (P1 : Fld Z h0 pr0 "com/example/kalends/kalends/engine/LongList" "values" "[J" (.ref vv)) (P2 : Fld Z h0 pr0 "com/example/kalends/kalends/engine/LongList" "size" "I" (.int (0 : Int32))) (P3 : Fld Z h0 pr0 "com/example/kalends/kalends/engine/LongList" "run" "Z" (.int (0 : Int32))) (P4 : Fld Z h0 pr0 "com/example/kalends/kalends/engine/LongList" "runFirst" "J" (.long (0 : Int64))) (P5 : Fld Z h0 pr0 "com/example/kalends/kalends/engine/LongList" "runStep" "J" (.long (0 : Int64))) (P6 : n0 ≤ pr0) :
    MetFree l (⟨"com/example/kalends/kalends/engine/LongList", "addRun", "(JJI)V"⟩ : MethodName) (head1 (Jvm.Cond.code (⟨"com/example/kalends/kalends/engine/LongList", "addRun", "(JJI)V"⟩ : MethodName) prog_9_method_3_code 6 none :: ws) ({ frames := 0, cells := 0, slots := 0, locals := 0 } : Room)) (fun a U => a = #[(.ref pr0), (.long pj1), (.long pj2), (.int pi3)] ∧ Z.Warmed39 U.vm ∧ U.heap = h0) (fun _ _ _ _ _ => True) (fun _ U o U' => ∃ v L, o = .returned v ∧ Q_own_addRun Z pr0 pj1 pj2 pi3 vv h0 n0 v U'.heap L ∧ FrameEnd U o U' L ({ frames := 0, cells := 0, slots := 0, locals := 0 } : Room).cells ({ frames := 0, cells := 0, slots := 0, locals := 0 } : Room).slots) := by
  refine MetFree.of_bodySF (plainFor_of_name pn_4) hisR ?_
  intro p e s m args below meth c s₁ Bd hml0 hP hK
  obtain ⟨rfl, hZ, hh⟩ := hP
  have hx := Bd.exec
  have hby := Bd.bytes
  have hml : c.maxLocals = 6 := hml0
  have hown : s.vm.findClass "com/example/kalends/kalends/engine/LongList" = some m.cls := findClass_of_methodNamed Bd.named
  have hnm := (name_of_methodNamed Bd.named Bd.method).1
  have X0 : Stand p l e ({ frames := 0, cells := 0, slots := 0, locals := 0 } : Room) s m #[(.ref pr0), (.long pj1), (.long pj2), (.int pi3)] below meth c s₁ [] 0 0 := Stand.of_body Bd
  have e0 : s₁.heap = h0 := by rw [← hh, Bd.state]; rfl
  have N0 := Fr.nil n0
  have go0 : ∀ t, Steps p.tables e below (s₁.setTop (mkF m 0 #[.val (.ref pr0), .val (.long pj1), .second, .val (.long pj2), .second, .val (.int pi3)] [])) t → Steps p.tables e below (s₁.setTop (entryFrame m #[(.ref pr0), (.long pj1), (.long pj2), (.int pi3)] 6)) t := fun t k => castTop (ef_own_addRun m pr0 pj1 pj2 pi3) k
  revert go0
  generalize s₁.setTop (entryFrame m #[(.ref pr0), (.long pj1), (.long pj2), (.int pi3)] 6) = st0
  intro go0
  obtain ⟨T1, X1, e1, st1⟩ := getF X0 hx hZ hown (host := "") (Or.inl (hw _ (List.mem_of_getElem? (i := 18) rfl))) Via.refl e0 P2 (g := (mkF m 1 #[.val (.ref pr0), .val (.long pj1), .second, .val (.long pj2), .second, .val (.int pi3)] [(.ref pr0)])) rfl rfl (hb hby d5_1)
  obtain ⟨T2, h2, X2, e2, W2, st2⟩ := putFN X1 hx hZ hown (hw _ (List.mem_of_getElem? (i := 25) rfl)) Via.refl e1 P3 P0 (Or.inl (hw _ (List.mem_of_getElem? (i := 26) rfl))) (hw _ (List.mem_of_getElem? (i := 1) rfl)) (ty := .boolean) (v' := (.int (1 : Int32))) (by decide) rfl rfl (g := (mkF m 19 #[.val (.ref pr0), .val (.long pj1), .second, .val (.long pj2), .second, .val (.int pi3)] [(.int (1 : Int32)), (.ref pr0)])) rfl rfl (hb hby d5_19)
  have K2 : Keep h0 h2 ([pr0] : List Addr) := (Keep.refl h0 ([pr0] : List Addr)).wr W2 (Or.inl (List.mem_of_getElem? (i := 0) rfl))
  have N2 := Fr.snoc X2 N0 P6
  have Z2 : n0 ≤ h2.size := Nat.le_trans Z0 (Keep.of_wr W2).1
  have Fw2 := P3.same W2
  have f3 : Fld Z h2 pr0 "com/example/kalends/kalends/engine/LongList" "runFirst" "J" (.long (0 : Int64)) := (P4.other W2 (Or.inr (slot_ne (Or.inl (hw _ (List.mem_of_getElem? (i := 28) rfl))) (Or.inl (hw _ (List.mem_of_getElem? (i := 26) rfl))) (by decide) (t := .long) (t' := .boolean) (by decide) (by decide))))
  have f4 : Exa Z h2 pr0 "com/example/kalends/kalends/engine/LongList" := (P0.wr W2)
  obtain ⟨T5, h5, X5, e5, W5, st5⟩ := putF X2 hx hZ hown (host := "") (Or.inl (hw _ (List.mem_of_getElem? (i := 27) rfl))) Via.refl e2 f3 f4 (Or.inl (hw _ (List.mem_of_getElem? (i := 28) rfl))) (hw _ (List.mem_of_getElem? (i := 1) rfl)) (ty := .long) (by decide) rfl rfl (g := (mkF m 24 #[.val (.ref pr0), .val (.long pj1), .second, .val (.long pj2), .second, .val (.int pi3)] [(.long pj1), (.ref pr0)])) rfl rfl (hb hby d5_24)
  have K5 : Keep h0 h5 ([pr0] : List Addr) := K2.wr W5 (Or.inl (List.mem_of_getElem? (i := 0) rfl))
  have N5 := Fr.snoc X5 N2 P6
  have Z5 : n0 ≤ h5.size := Nat.le_trans Z2 (Keep.of_wr W5).1
  have Fw5 := f3.same W5
  have f6 : Fld Z h5 pr0 "com/example/kalends/kalends/engine/LongList" "runStep" "J" (.long (0 : Int64)) := ((P5.other W2 (Or.inr (slot_ne (Or.inl (hw _ (List.mem_of_getElem? (i := 30) rfl))) (Or.inl (hw _ (List.mem_of_getElem? (i := 26) rfl))) (by decide) (t := .long) (t' := .boolean) (by decide) (by decide)))).other W5 (Or.inr (slot_ne (Or.inl (hw _ (List.mem_of_getElem? (i := 30) rfl))) (Or.inl (hw _ (List.mem_of_getElem? (i := 28) rfl))) (by decide) (t := .long) (t' := .long) (by decide) (by decide))))
  have f7 : Exa Z h5 pr0 "com/example/kalends/kalends/engine/LongList" := (f4.wr W5)
  obtain ⟨T8, h8, X8, e8, W8, st8⟩ := putF X5 hx hZ hown (host := "") (Or.inl (hw _ (List.mem_of_getElem? (i := 29) rfl))) Via.refl e5 f6 f7 (Or.inl (hw _ (List.mem_of_getElem? (i := 30) rfl))) (hw _ (List.mem_of_getElem? (i := 1) rfl)) (ty := .long) (by decide) rfl rfl (g := (mkF m 29 #[.val (.ref pr0), .val (.long pj1), .second, .val (.long pj2), .second, .val (.int pi3)] [(.long pj2), (.ref pr0)])) rfl rfl (hb hby d5_29)
  have K8 : Keep h0 h8 ([pr0] : List Addr) := K5.wr W8 (Or.inl (List.mem_of_getElem? (i := 0) rfl))
  have N8 := Fr.snoc X8 N5 P6
  have Z8 : n0 ≤ h8.size := Nat.le_trans Z5 (Keep.of_wr W8).1
  have Fw8 := f6.same W8
  have f9 : Fld Z h8 pr0 "com/example/kalends/kalends/engine/LongList" "size" "I" (.int (0 : Int32)) := (((P2.other W2 (Or.inr (slot_ne (Or.inl (hw _ (List.mem_of_getElem? (i := 19) rfl))) (Or.inl (hw _ (List.mem_of_getElem? (i := 26) rfl))) (by decide) (t := .int) (t' := .boolean) (by decide) (by decide)))).other W5 (Or.inr (slot_ne (Or.inl (hw _ (List.mem_of_getElem? (i := 19) rfl))) (Or.inl (hw _ (List.mem_of_getElem? (i := 28) rfl))) (by decide) (t := .int) (t' := .long) (by decide) (by decide)))).other W8 (Or.inr (slot_ne (Or.inl (hw _ (List.mem_of_getElem? (i := 19) rfl))) (Or.inl (hw _ (List.mem_of_getElem? (i := 30) rfl))) (by decide) (t := .int) (t' := .long) (by decide) (by decide))))
  have f10 : Exa Z h8 pr0 "com/example/kalends/kalends/engine/LongList" := (f7.wr W8)
  obtain ⟨T11, h11, X11, e11, W11, st11⟩ := putF X8 hx hZ hown (host := "") (Or.inl (hw _ (List.mem_of_getElem? (i := 18) rfl))) Via.refl e8 f9 f10 (Or.inl (hw _ (List.mem_of_getElem? (i := 19) rfl))) (hw _ (List.mem_of_getElem? (i := 1) rfl)) (ty := .int) (by decide) rfl rfl (g := (mkF m 35 #[.val (.ref pr0), .val (.long pj1), .second, .val (.long pj2), .second, .val (.int pi3)] [(.int pi3), (.ref pr0)])) rfl rfl (hb hby d5_35)
  have K11 : Keep h0 h11 ([pr0] : List Addr) := K8.wr W11 (Or.inl (List.mem_of_getElem? (i := 0) rfl))
  have N11 := Fr.snoc X11 N8 P6
  have Z11 : n0 ≤ h11.size := Nat.le_trans Z8 (Keep.of_wr W11).1
  have Fw11 := f9.same W11
  have go12 : ∀ t, Steps p.tables e below (T11.setTop (mkF m 38 #[.val (.ref pr0), .val (.long pj1), .second, .val (.long pj2), .second, .val (.int pi3)] [])) t → Steps p.tables e below st0 t := by
    intro t kt
    refine go0 t ?_
    refine XS.aloadN X0.here hx rfl (hb hby d5_0) rfl rfl ?_
    show Steps p.tables e below (s₁.setTop (mkF m 1 #[.val (.ref pr0), .val (.long pj1), .second, .val (.long pj2), .second, .val (.int pi3)] [(.ref pr0)])) _
    refine st1 _ ?_
    show Steps p.tables e below (T1.setTop (mkF m 4 #[.val (.ref pr0), .val (.long pj1), .second, .val (.long pj2), .second, .val (.int pi3)] [(.int (0 : Int32))])) _
    refine XS.ifYes X1.here hx rfl (pc0 := 4) (pc' := 17) rfl (hb hby d5_4) rfl ((if0 _ _).trans (teq (by decide : (0 : Int32) = (0 : Int32))).1) (by decide) (by decide) ?_
    show Steps p.tables e below (T1.setTop (mkF m 17 #[.val (.ref pr0), .val (.long pj1), .second, .val (.long pj2), .second, .val (.int pi3)] [])) _
    refine XS.aloadN X1.here hx rfl (hb hby d5_17) rfl rfl ?_
    show Steps p.tables e below (T1.setTop (mkF m 18 #[.val (.ref pr0), .val (.long pj1), .second, .val (.long pj2), .second, .val (.int pi3)] [(.ref pr0)])) _
    refine XS.iconst X1.here hx rfl (hb hby d5_18) ?_
    show Steps p.tables e below (T1.setTop (mkF m 19 #[.val (.ref pr0), .val (.long pj1), .second, .val (.long pj2), .second, .val (.int pi3)] [(.int (1 : Int32)), (.ref pr0)])) _
    refine st2 _ ?_
    show Steps p.tables e below (T2.setTop (mkF m 22 #[.val (.ref pr0), .val (.long pj1), .second, .val (.long pj2), .second, .val (.int pi3)] [])) _
    refine XS.aloadN X2.here hx rfl (hb hby d5_22) rfl rfl ?_
    show Steps p.tables e below (T2.setTop (mkF m 23 #[.val (.ref pr0), .val (.long pj1), .second, .val (.long pj2), .second, .val (.int pi3)] [(.ref pr0)])) _
    refine XS.lloadN X2.here hx rfl (hb hby d5_23) rfl ?_
    show Steps p.tables e below (T2.setTop (mkF m 24 #[.val (.ref pr0), .val (.long pj1), .second, .val (.long pj2), .second, .val (.int pi3)] [(.long pj1), (.ref pr0)])) _
    refine st5 _ ?_
    show Steps p.tables e below (T5.setTop (mkF m 27 #[.val (.ref pr0), .val (.long pj1), .second, .val (.long pj2), .second, .val (.int pi3)] [])) _
    refine XS.aloadN X5.here hx rfl (hb hby d5_27) rfl rfl ?_
    show Steps p.tables e below (T5.setTop (mkF m 28 #[.val (.ref pr0), .val (.long pj1), .second, .val (.long pj2), .second, .val (.int pi3)] [(.ref pr0)])) _
    refine XS.lloadN X5.here hx rfl (hb hby d5_28) rfl ?_
    show Steps p.tables e below (T5.setTop (mkF m 29 #[.val (.ref pr0), .val (.long pj1), .second, .val (.long pj2), .second, .val (.int pi3)] [(.long pj2), (.ref pr0)])) _
    refine st8 _ ?_
    show Steps p.tables e below (T8.setTop (mkF m 32 #[.val (.ref pr0), .val (.long pj1), .second, .val (.long pj2), .second, .val (.int pi3)] [])) _
    refine XS.aloadN X8.here hx rfl (hb hby d5_32) rfl rfl ?_
    show Steps p.tables e below (T8.setTop (mkF m 33 #[.val (.ref pr0), .val (.long pj1), .second, .val (.long pj2), .second, .val (.int pi3)] [(.ref pr0)])) _
    refine XS.iload X8.here hx rfl (hb hby d5_33) rfl ?_
    show Steps p.tables e below (T8.setTop (mkF m 35 #[.val (.ref pr0), .val (.long pj1), .second, .val (.long pj2), .second, .val (.int pi3)] [(.int pi3), (.ref pr0)])) _
    refine st11 _ ?_
    show Steps p.tables e below (T11.setTop (mkF m 38 #[.val (.ref pr0), .val (.long pj1), .second, .val (.long pj2), .second, .val (.int pi3)] [])) _
    exact kt
  obtain ⟨fs, hr, hrun, hended, hW, hsame⟩ := X11.leave (v := none) (fun _ => rfl)
  refine ⟨_, _, go12 _ ?_, hrun, hended, _, _, rfl, ?_, ⟨_, rfl⟩, hW, hsame.mono (by decide) (by decide)⟩
  · exact X11.returnOut hx Bd.returns (hb hby d5_38) hr
  · show Q_own_addRun Z pr0 pj1 pj2 pi3 vv h0 n0 _ T11.heap _
    rw [e11]
    have f13 : Exa Z h11 pr0 "com/example/kalends/kalends/engine/LongList" := (f10.wr W11)
    have f14 : Fld Z h11 pr0 "com/example/kalends/kalends/engine/LongList" "values" "[J" (.ref vv) := ((((P1.other W2 (Or.inr (slot_ne (Or.inl (hw _ (List.mem_of_getElem? (i := 12) rfl))) (Or.inl (hw _ (List.mem_of_getElem? (i := 26) rfl))) (by decide) (t := (.array .long)) (t' := .boolean) (by decide) (by decide)))).other W5 (Or.inr (slot_ne (Or.inl (hw _ (List.mem_of_getElem? (i := 12) rfl))) (Or.inl (hw _ (List.mem_of_getElem? (i := 28) rfl))) (by decide) (t := (.array .long)) (t' := .long) (by decide) (by decide)))).other W8 (Or.inr (slot_ne (Or.inl (hw _ (List.mem_of_getElem? (i := 12) rfl))) (Or.inl (hw _ (List.mem_of_getElem? (i := 30) rfl))) (by decide) (t := (.array .long)) (t' := .long) (by decide) (by decide)))).other W11 (Or.inr (slot_ne (Or.inl (hw _ (List.mem_of_getElem? (i := 12) rfl))) (Or.inl (hw _ (List.mem_of_getElem? (i := 19) rfl))) (by decide) (t := (.array .long)) (t' := .int) (by decide) (by decide))))
    have f15 : Fld Z h11 pr0 "com/example/kalends/kalends/engine/LongList" "run" "Z" (.int (1 : Int32)) := (((Fw2.other W5 (Or.inr (slot_ne (Or.inl (hw _ (List.mem_of_getElem? (i := 26) rfl))) (Or.inl (hw _ (List.mem_of_getElem? (i := 28) rfl))) (by decide) (t := .boolean) (t' := .long) (by decide) (by decide)))).other W8 (Or.inr (slot_ne (Or.inl (hw _ (List.mem_of_getElem? (i := 26) rfl))) (Or.inl (hw _ (List.mem_of_getElem? (i := 30) rfl))) (by decide) (t := .boolean) (t' := .long) (by decide) (by decide)))).other W11 (Or.inr (slot_ne (Or.inl (hw _ (List.mem_of_getElem? (i := 26) rfl))) (Or.inl (hw _ (List.mem_of_getElem? (i := 19) rfl))) (by decide) (t := .boolean) (t' := .int) (by decide) (by decide))))
    have f16 : Fld Z h11 pr0 "com/example/kalends/kalends/engine/LongList" "runFirst" "J" (.long pj1) := ((Fw5.other W8 (Or.inr (slot_ne (Or.inl (hw _ (List.mem_of_getElem? (i := 28) rfl))) (Or.inl (hw _ (List.mem_of_getElem? (i := 30) rfl))) (by decide) (t := .long) (t' := .long) (by decide) (by decide)))).other W11 (Or.inr (slot_ne (Or.inl (hw _ (List.mem_of_getElem? (i := 28) rfl))) (Or.inl (hw _ (List.mem_of_getElem? (i := 19) rfl))) (by decide) (t := .long) (t' := .int) (by decide) (by decide))))
    have f17 : Fld Z h11 pr0 "com/example/kalends/kalends/engine/LongList" "runStep" "J" (.long pj2) := (Fw8.other W11 (Or.inr (slot_ne (Or.inl (hw _ (List.mem_of_getElem? (i := 30) rfl))) (Or.inl (hw _ (List.mem_of_getElem? (i := 19) rfl))) (by decide) (t := .long) (t' := .int) (by decide) (by decide))))
    exact ⟨N11, rfl, K11, f13, f14, Fw11, f15, f16, f17⟩
theorem ef_own_clear (m : MethodId) (pr0 : Addr) : entryFrame m #[(.ref pr0)] 1 = mkF m 0 #[.val (.ref pr0)] [] := by first | (simp [entryFrame, mkF, argsToLocals, Value.category]; done) | rfl
def Q_own_clear (Z : State) (pr0 : Addr) (u_0 : Value) (u_1 : Value) (h0 : Heap) (n0 : Nat) (v : Option Value) (h : Heap) (L : List Loc) : Prop := Fr n0 L ∧ v = none ∧ Keep h0 h ([pr0] : List Addr) ∧ Exa Z h pr0 "com/example/kalends/kalends/engine/LongList" ∧ Fld Z h pr0 "com/example/kalends/kalends/engine/LongList" "size" "I" (.int (0 : Int32)) ∧ Fld Z h pr0 "com/example/kalends/kalends/engine/LongList" "run" "Z" (.int (0 : Int32))
set_option maxRecDepth 65536 in
set_option maxHeartbeats 40000000 in
theorem own_clear (l : Launch) (Z : State) (a0 : Array Value) (hw : ∀ d ∈ tables_1, d.before a0 Z = true) (ws : List Jvm.Cond) (pr0 : Addr) (u_0 : Value) (u_1 : Value) (h0 : Heap) (n0 : Nat) (Z0 : n0 ≤ h0.size) (P0 : Exa Z h0 pr0 "com/example/kalends/kalends/engine/LongList") (P1 : Fld Z h0 pr0 "com/example/kalends/kalends/engine/LongList" "size" "I" u_0) (P2 : n0 ≤ pr0) (P3 : Fld Z h0 pr0 "com/example/kalends/kalends/engine/LongList" "run" "Z" u_1) :
    MetFree l (⟨"com/example/kalends/kalends/engine/LongList", "clear", "()V"⟩ : MethodName) (head1 (Jvm.Cond.code (⟨"com/example/kalends/kalends/engine/LongList", "clear", "()V"⟩ : MethodName) prog_9_method_8_code 1 none :: ws) ({ frames := 0, cells := 0, slots := 0, locals := 0 } : Room)) (fun a U => a = #[(.ref pr0)] ∧ Z.Warmed39 U.vm ∧ U.heap = h0) (fun _ _ _ _ _ => True) (fun _ U o U' => ∃ v L, o = .returned v ∧ Q_own_clear Z pr0 u_0 u_1 h0 n0 v U'.heap L ∧ FrameEnd U o U' L ({ frames := 0, cells := 0, slots := 0, locals := 0 } : Room).cells ({ frames := 0, cells := 0, slots := 0, locals := 0 } : Room).slots) := by
  refine MetFree.of_bodySF (plainFor_of_name pn_4) hisR ?_
  intro p e s m args below meth c s₁ Bd hml0 hP hK
  obtain ⟨rfl, hZ, hh⟩ := hP
  have hx := Bd.exec
  have hby := Bd.bytes
  have hml : c.maxLocals = 1 := hml0
  have hown : s.vm.findClass "com/example/kalends/kalends/engine/LongList" = some m.cls := findClass_of_methodNamed Bd.named
  have hnm := (name_of_methodNamed Bd.named Bd.method).1
  have X0 : Stand p l e ({ frames := 0, cells := 0, slots := 0, locals := 0 } : Room) s m #[(.ref pr0)] below meth c s₁ [] 0 0 := Stand.of_body Bd
  have e0 : s₁.heap = h0 := by rw [← hh, Bd.state]; rfl
  have N0 := Fr.nil n0
  have go0 : ∀ t, Steps p.tables e below (s₁.setTop (mkF m 0 #[.val (.ref pr0)] [])) t → Steps p.tables e below (s₁.setTop (entryFrame m #[(.ref pr0)] 1)) t := fun t k => castTop (ef_own_clear m pr0) k
  revert go0
  generalize s₁.setTop (entryFrame m #[(.ref pr0)] 1) = st0
  intro go0
  obtain ⟨T1, h1, X1, e1, W1, st1⟩ := putF X0 hx hZ hown (host := "") (Or.inl (hw _ (List.mem_of_getElem? (i := 18) rfl))) Via.refl e0 P1 P0 (Or.inl (hw _ (List.mem_of_getElem? (i := 19) rfl))) (hw _ (List.mem_of_getElem? (i := 1) rfl)) (ty := .int) (by decide) rfl rfl (g := (mkF m 2 #[.val (.ref pr0)] [(.int (0 : Int32)), (.ref pr0)])) rfl rfl (hb hby d6_2)
  have K1 : Keep h0 h1 ([pr0] : List Addr) := (Keep.refl h0 ([pr0] : List Addr)).wr W1 (Or.inl (List.mem_of_getElem? (i := 0) rfl))
  have N1 := Fr.snoc X1 N0 P2
  have Z1 : n0 ≤ h1.size := Nat.le_trans Z0 (Keep.of_wr W1).1
  have Fw1 := P1.same W1
  have f2 : Fld Z h1 pr0 "com/example/kalends/kalends/engine/LongList" "run" "Z" u_1 := (P3.other W1 (Or.inr (slot_ne (Or.inl (hw _ (List.mem_of_getElem? (i := 26) rfl))) (Or.inl (hw _ (List.mem_of_getElem? (i := 19) rfl))) (by decide) (t := .boolean) (t' := .int) (by decide) (by decide))))
  have f3 : Exa Z h1 pr0 "com/example/kalends/kalends/engine/LongList" := (P0.wr W1)
  obtain ⟨T4, h4, X4, e4, W4, st4⟩ := putFN X1 hx hZ hown (hw _ (List.mem_of_getElem? (i := 25) rfl)) Via.refl e1 f2 f3 (Or.inl (hw _ (List.mem_of_getElem? (i := 26) rfl))) (hw _ (List.mem_of_getElem? (i := 1) rfl)) (ty := .boolean) (v' := (.int (0 : Int32))) (by decide) rfl rfl (g := (mkF m 7 #[.val (.ref pr0)] [(.int (0 : Int32)), (.ref pr0)])) rfl rfl (hb hby d6_7)
  have K4 : Keep h0 h4 ([pr0] : List Addr) := K1.wr W4 (Or.inl (List.mem_of_getElem? (i := 0) rfl))
  have N4 := Fr.snoc X4 N1 P2
  have Z4 : n0 ≤ h4.size := Nat.le_trans Z1 (Keep.of_wr W4).1
  have Fw4 := f2.same W4
  have go5 : ∀ t, Steps p.tables e below (T4.setTop (mkF m 10 #[.val (.ref pr0)] [])) t → Steps p.tables e below st0 t := by
    intro t kt
    refine go0 t ?_
    refine XS.aloadN X0.here hx rfl (hb hby d6_0) rfl rfl ?_
    show Steps p.tables e below (s₁.setTop (mkF m 1 #[.val (.ref pr0)] [(.ref pr0)])) _
    refine XS.iconst X0.here hx rfl (hb hby d6_1) ?_
    show Steps p.tables e below (s₁.setTop (mkF m 2 #[.val (.ref pr0)] [(.int (0 : Int32)), (.ref pr0)])) _
    refine st1 _ ?_
    show Steps p.tables e below (T1.setTop (mkF m 5 #[.val (.ref pr0)] [])) _
    refine XS.aloadN X1.here hx rfl (hb hby d6_5) rfl rfl ?_
    show Steps p.tables e below (T1.setTop (mkF m 6 #[.val (.ref pr0)] [(.ref pr0)])) _
    refine XS.iconst X1.here hx rfl (hb hby d6_6) ?_
    show Steps p.tables e below (T1.setTop (mkF m 7 #[.val (.ref pr0)] [(.int (0 : Int32)), (.ref pr0)])) _
    refine st4 _ ?_
    show Steps p.tables e below (T4.setTop (mkF m 10 #[.val (.ref pr0)] [])) _
    exact kt
  obtain ⟨fs, hr, hrun, hended, hW, hsame⟩ := X4.leave (v := none) (fun _ => rfl)
  refine ⟨_, _, go5 _ ?_, hrun, hended, _, _, rfl, ?_, ⟨_, rfl⟩, hW, hsame.mono (by decide) (by decide)⟩
  · exact X4.returnOut hx Bd.returns (hb hby d6_10) hr
  · show Q_own_clear Z pr0 u_0 u_1 h0 n0 _ T4.heap _
    rw [e4]
    have f6 : Exa Z h4 pr0 "com/example/kalends/kalends/engine/LongList" := (f3.wr W4)
    have f7 : Fld Z h4 pr0 "com/example/kalends/kalends/engine/LongList" "size" "I" (.int (0 : Int32)) := (Fw1.other W4 (Or.inr (slot_ne (Or.inl (hw _ (List.mem_of_getElem? (i := 19) rfl))) (Or.inl (hw _ (List.mem_of_getElem? (i := 26) rfl))) (by decide) (t := .int) (t' := .boolean) (by decide) (by decide))))
    exact ⟨N4, rfl, K4, f6, f7, Fw4⟩
theorem ef_own_copy (m : MethodId) (pr0 : Addr) : entryFrame m #[(.ref pr0), (.int (8 : Int32))] 3 = mkF m 0 #[.val (.ref pr0), .val (.int (8 : Int32)), .unset] [] := by first | (simp [entryFrame, mkF, argsToLocals, Value.category]; done) | rfl
def Q_own_copy (Z : State) (pr0 : Addr) (ka : ClassId) (h0 : Heap) (n0 : Nat) (v : Option Value) (h : Heap) (L : List Loc) : Prop := Fr n0 L ∧ ∃ (bb : Addr) (kb : ClassId), v = some (.ref bb) ∧ h0.size ≤ bb ∧ Keep h0 h ([] : List Addr) ∧ Arv Z h bb kb .long (8 : Int32) [(.long (0 : Int64)), (.long (0 : Int64)), (.long (0 : Int64)), (.long (0 : Int64)), (.long (0 : Int64)), (.long (0 : Int64)), (.long (0 : Int64)), (.long (0 : Int64))] (.long (0 : Int64))
set_option maxRecDepth 65536 in
set_option maxHeartbeats 40000000 in
theorem own_copy (l : Launch) (Z : State) (a0 : Array Value) (hw : ∀ d ∈ tables_1, d.before a0 Z = true) (ws : List Jvm.Cond) (pr0 : Addr) (ka : ClassId) (h0 : Heap) (n0 : Nat) (Z0 : n0 ≤ h0.size) (P0 : Arv Z h0 pr0 ka .long (0 : Int32) [] (.long (0 : Int64))) :
    MetFree l (⟨"java/util/Arrays", "copyOf", "([JI)[J"⟩ : MethodName) (head1 (Jvm.Cond.code (⟨"java/util/Arrays", "copyOf", "([JI)[J"⟩ : MethodName) jdk_65_method_124_code 3 (some (.array .long)) :: ws) ({ frames := 1, cells := 1, slots := 8, locals := 18 } : Room)) (fun a U => a = #[(.ref pr0), (.int (8 : Int32))] ∧ Z.Warmed39 U.vm ∧ U.heap = h0) (fun _ _ _ _ _ => True) (fun _ U o U' => ∃ v L, o = .returned v ∧ Q_own_copy Z pr0 ka h0 n0 v U'.heap L ∧ FrameEnd U o U' L ({ frames := 1, cells := 1, slots := 8, locals := 18 } : Room).cells ({ frames := 1, cells := 1, slots := 8, locals := 18 } : Room).slots) := by
  refine MetFree.of_bodySF (plainFor_of_name pn_9) hisR ?_
  intro p e s m args below meth c s₁ Bd hml0 hP hK
  obtain ⟨rfl, hZ, hh⟩ := hP
  have hx := Bd.exec
  have hby := Bd.bytes
  have hml : c.maxLocals = 3 := hml0
  have hown : s.vm.findClass "java/util/Arrays" = some m.cls := findClass_of_methodNamed Bd.named
  have hnm := (name_of_methodNamed Bd.named Bd.method).1
  have X0 : Stand p l e ({ frames := 1, cells := 1, slots := 8, locals := 18 } : Room) s m #[(.ref pr0), (.int (8 : Int32))] below meth c s₁ [] 0 0 := Stand.of_body Bd
  have e0 : s₁.heap = h0 := by rw [← hh, Bd.state]; rfl
  have N0 := Fr.nil n0
  have go0 : ∀ t, Steps p.tables e below (s₁.setTop (mkF m 0 #[.val (.ref pr0), .val (.int (8 : Int32)), .unset] [])) t → Steps p.tables e below (s₁.setTop (entryFrame m #[(.ref pr0), (.int (8 : Int32))] 3)) t := fun t k => castTop (ef_own_copy m pr0) k
  revert go0
  generalize s₁.setTop (entryFrame m #[(.ref pr0), (.int (8 : Int32))] 3) = st0
  intro go0
  obtain ⟨cl1, Ar1, q1, S1, N1, H1, G1⟩ := id P0
  obtain ⟨T2, h2, k2, X2, e2, E2, A2, st2⟩ := newP X0 hx hZ (hw _ (List.mem_of_getElem? (i := 48) rfl)) e0 (g := (mkF m 15 #[.val (.ref pr0), .val (.int (8 : Int32)), .unset] [(.int (8 : Int32))])) rfl (hb hby d7_15) rfl (by decide) (cap := 8) (by decide) (by decide) (by decide) (by decide)
  obtain ⟨b2, g2⟩ : ∃ z, z = h0.size := ⟨_, rfl⟩
  rw [← g2] at A2 st2
  have ne2_pr0 : pr0 ≠ b2 := Nat.ne_of_lt (Nat.lt_of_lt_of_eq P0.lt g2.symm)
  have ge2 : n0 ≤ b2 := Nat.le_trans Z0 (Nat.le_of_eq g2.symm)
  have sz2 : h0.size ≤ b2 := Nat.le_trans (Keep.refl h0 ([] : List Addr)).1 (Nat.le_of_eq g2.symm)
  have Z2 : n0 ≤ h2.size := Nat.le_trans Z0 E2.1
  have K2 : Keep h0 h2 ([] : List Addr) := (Keep.refl h0 ([] : List Addr)).ext E2
  have V2 : Arv Z h2 b2 k2 .long (8 : Int32) [(.long (0 : Int64)), (.long (0 : Int64)), (.long (0 : Int64)), (.long (0 : Int64)), (.long (0 : Int64)), (.long (0 : Int64)), (.long (0 : Int64)), (.long (0 : Int64))] (.long (0 : Int64)) := (Arv.new A2 (by decide)).pad (pad_rep [] (.long (0 : Int64)) 8)
  have f3 : Arv Z h2 pr0 ka .long (0 : Int32) [] (.long (0 : Int64)) := (P0.ext E2)
  obtain ⟨cl4, Ar4, q4, S4, N4, H4, G4⟩ := id f3
  obtain ⟨_, _, ⟨T5, L5, k5, n5⟩, -, X5, ⟨Lc5, hQ5, l5, y5, z5⟩, st5⟩ := Jvm.LawKit.callS X2 hx (y := (⟨"java/lang/Math", "min", "(II)I"⟩ : MethodName)) hown (mvT hZ (hw _ (List.mem_of_getElem? (i := 49) rfl))) (mvT hZ (hw _ (List.mem_of_getElem? (i := 50) rfl))) (mvT hZ (hw _ (List.mem_of_getElem? (i := 42) rfl))) (mvT hZ (hw _ (List.mem_of_getElem? (i := 51) rfl))) (by decide) (backOf (W := 4) (own_min_f l Z a0 hw [] (0 : Int32) (8 : Int32) h2 n0 Z2 (by decide : ¬ ((8 : Int32) < (0 : Int32)))) hZ (hw _ (List.mem_of_getElem? (i := 51) rfl)) (hw _ (List.mem_of_getElem? (i := 42) rfl)) (by decide) (by decide)) (g := (mkF m 25 #[.val (.ref pr0), .val (.int (8 : Int32)), .val (.ref b2)] [(.int (8 : Int32)), (.int (0 : Int32)), (.int (0 : Int32)), (.ref b2), (.int (0 : Int32)), (.ref pr0)])) rfl (by rw [hml]; rfl) (argsL := [(.int (0 : Int32)), (.int (8 : Int32))]) (rest := [(.int (0 : Int32)), (.ref b2), (.int (0 : Int32)), (.ref pr0)]) (lenOf pd_8 rfl) rfl (by show 2 * 0 + _ ≤ _; exact Nat.le_of_eq rfl) (hb hby d7_25) (fun _ _ => ⟨rfl, e2, (by decide : 1 + 0 ≤ _), (by decide : 8 + 0 ≤ _)⟩)
  dsimp only [Pt.U, Pt.locs, Pt.cells, Pt.slots] at X5 l5 y5 z5 st5 hQ5
  subst l5 y5 z5
  obtain ⟨rfl, Nq5, e5⟩ := hQ5
  have N5 := Fr.app N0 Nq5
  obtain ⟨T6, h6, L6, X6, e6, N6, Kc6, V6', st6⟩ := cpA X5 hx hZ hown (hw _ (List.mem_of_getElem? (i := 52) rfl)) (hw _ (List.mem_of_getElem? (i := 55) rfl)) (hw _ (List.mem_of_getElem? (i := 53) rfl)) (hw _ (List.mem_of_getElem? (i := 54) rfl)) e5 f3 V2 (Or.inl ⟨rfl, rfl⟩) (sp := (0 : Int32)) (dp := (0 : Int32)) (nn := (0 : Int32)) (by decide) (by decide) (by decide) (by decide) (by decide) (us := []) rfl (by decide) N5 ge2 (g := (mkF m 28 #[.val (.ref pr0), .val (.int (8 : Int32)), .val (.ref b2)] [(.int (0 : Int32)), (.int (0 : Int32)), (.ref b2), (.int (0 : Int32)), (.ref pr0)])) rfl (by rw [hml]; rfl) (rest := []) rfl (hb hby d7_28) (by decide) (W := 0) (by show 2 * 0 + _ ≤ _; exact Nat.le_of_eq rfl) (by decide)
  have V6 : Arv Z h6 b2 k2 .long (8 : Int32) [(.long (0 : Int64)), (.long (0 : Int64)), (.long (0 : Int64)), (.long (0 : Int64)), (.long (0 : Int64)), (.long (0 : Int64)), (.long (0 : Int64)), (.long (0 : Int64))] (.long (0 : Int64)) := V6'
  have K6 : Keep h0 h6 ([] : List Addr) := K2.trans Kc6 (allS (P := fun x => x ∈ ([] : List Addr) ∨ h0.size ≤ x) (Or.inr sz2) all0)
  have Z6 : n0 ≤ h6.size := Nat.le_trans Z2 Kc6.1
  have go7 : ∀ t, Steps p.tables e below (T6.setTop (mkF m 32 #[.val (.ref pr0), .val (.int (8 : Int32)), .val (.ref b2)] [(.ref b2)])) t → Steps p.tables e below st0 t := by
    intro t kt
    refine go0 t ?_
    refine XS.iloadN X0.here hx rfl (hb hby d7_0) rfl ?_
    show Steps p.tables e below (s₁.setTop (mkF m 1 #[.val (.ref pr0), .val (.int (8 : Int32)), .unset] [(.int (8 : Int32))])) _
    refine XS.aloadN X0.here hx rfl (hb hby d7_1) rfl rfl ?_
    show Steps p.tables e below (s₁.setTop (mkF m 2 #[.val (.ref pr0), .val (.int (8 : Int32)), .unset] [(.ref pr0), (.int (8 : Int32))])) _
    refine X0.arraylength hx (by rw [e0]; exact Ar1.1) (State.isArrayOf_alike hZ.alike Ar1.2.1) (g := (mkF m 2 #[.val (.ref pr0), .val (.int (8 : Int32)), .unset] [(.ref pr0), (.int (8 : Int32))])) rfl rfl (hb hby d7_2) _ ?_
    rw [len_of S1 N1]
    show Steps p.tables e below (s₁.setTop (mkF m 3 #[.val (.ref pr0), .val (.int (8 : Int32)), .unset] [(.int (0 : Int32)), (.int (8 : Int32))])) _
    refine XS.icmpYes X0.here hx rfl (pc0 := 3) (pc' := 14) rfl (hb hby d7_3) rfl (feq (by decide : ¬ ((8 : Int32) = (0 : Int32)))).2 (by decide) (by decide) ?_
    show Steps p.tables e below (s₁.setTop (mkF m 14 #[.val (.ref pr0), .val (.int (8 : Int32)), .unset] [])) _
    refine XS.iloadN X0.here hx rfl (hb hby d7_14) rfl ?_
    show Steps p.tables e below (s₁.setTop (mkF m 15 #[.val (.ref pr0), .val (.int (8 : Int32)), .unset] [(.int (8 : Int32))])) _
    refine st2 _ ?_
    show Steps p.tables e below (T2.setTop (mkF m 17 #[.val (.ref pr0), .val (.int (8 : Int32)), .unset] [(.ref b2)])) _
    refine XS.astoreN X2.here hx rfl (hb hby d7_17) rfl rfl (l' := #[.val (.ref pr0), .val (.int (8 : Int32)), .val (.ref b2)]) rfl ?_
    show Steps p.tables e below (T2.setTop (mkF m 18 #[.val (.ref pr0), .val (.int (8 : Int32)), .val (.ref b2)] [])) _
    refine XS.aloadN X2.here hx rfl (hb hby d7_18) rfl rfl ?_
    show Steps p.tables e below (T2.setTop (mkF m 19 #[.val (.ref pr0), .val (.int (8 : Int32)), .val (.ref b2)] [(.ref pr0)])) _
    refine XS.iconst X2.here hx rfl (hb hby d7_19) ?_
    show Steps p.tables e below (T2.setTop (mkF m 20 #[.val (.ref pr0), .val (.int (8 : Int32)), .val (.ref b2)] [(.int (0 : Int32)), (.ref pr0)])) _
    refine XS.aloadN X2.here hx rfl (hb hby d7_20) rfl rfl ?_
    show Steps p.tables e below (T2.setTop (mkF m 21 #[.val (.ref pr0), .val (.int (8 : Int32)), .val (.ref b2)] [(.ref b2), (.int (0 : Int32)), (.ref pr0)])) _
    refine XS.iconst X2.here hx rfl (hb hby d7_21) ?_
    show Steps p.tables e below (T2.setTop (mkF m 22 #[.val (.ref pr0), .val (.int (8 : Int32)), .val (.ref b2)] [(.int (0 : Int32)), (.ref b2), (.int (0 : Int32)), (.ref pr0)])) _
    refine XS.aloadN X2.here hx rfl (hb hby d7_22) rfl rfl ?_
    show Steps p.tables e below (T2.setTop (mkF m 23 #[.val (.ref pr0), .val (.int (8 : Int32)), .val (.ref b2)] [(.ref pr0), (.int (0 : Int32)), (.ref b2), (.int (0 : Int32)), (.ref pr0)])) _
    refine X2.arraylength hx (by rw [e2]; exact Ar4.1) (State.isArrayOf_alike hZ.alike Ar4.2.1) (g := (mkF m 23 #[.val (.ref pr0), .val (.int (8 : Int32)), .val (.ref b2)] [(.ref pr0), (.int (0 : Int32)), (.ref b2), (.int (0 : Int32)), (.ref pr0)])) rfl rfl (hb hby d7_23) _ ?_
    rw [len_of S4 N4]
    show Steps p.tables e below (T2.setTop (mkF m 24 #[.val (.ref pr0), .val (.int (8 : Int32)), .val (.ref b2)] [(.int (0 : Int32)), (.int (0 : Int32)), (.ref b2), (.int (0 : Int32)), (.ref pr0)])) _
    refine XS.iloadN X2.here hx rfl (hb hby d7_24) rfl ?_
    show Steps p.tables e below (T2.setTop (mkF m 25 #[.val (.ref pr0), .val (.int (8 : Int32)), .val (.ref b2)] [(.int (8 : Int32)), (.int (0 : Int32)), (.int (0 : Int32)), (.ref b2), (.int (0 : Int32)), (.ref pr0)])) _
    refine st5 _ ?_
    show Steps p.tables e below (T5.setTop (mkF m 28 #[.val (.ref pr0), .val (.int (8 : Int32)), .val (.ref b2)] [(.int (0 : Int32)), (.int (0 : Int32)), (.ref b2), (.int (0 : Int32)), (.ref pr0)])) _
    refine st6 _ ?_
    show Steps p.tables e below (T6.setTop (mkF m 31 #[.val (.ref pr0), .val (.int (8 : Int32)), .val (.ref b2)] [])) _
    refine XS.aloadN X6.here hx rfl (hb hby d7_31) rfl rfl ?_
    show Steps p.tables e below (T6.setTop (mkF m 32 #[.val (.ref pr0), .val (.int (8 : Int32)), .val (.ref b2)] [(.ref b2)])) _
    exact kt
  obtain ⟨fs, hr, hrun, hended, hW, hsame⟩ := X6.leave (v := some (.ref b2)) (fun h => by rw [Bd.returns] at h; cases h)
  refine ⟨_, _, go7 _ ?_, hrun, hended, _, _, rfl, ?_, ⟨_, rfl⟩, hW, hsame.mono (by decide) (by decide)⟩
  · jvm_step X6.here [X6.here.top, hx, (hb hby d7_32), X6.method', Bd.returns, Value.isRef, FieldType.isReference]
    first | (intro acts; rw [hr _ acts rfl rfl rfl]) | rw [hr _ _ rfl rfl rfl]
    exact Steps.refl _
  · show Q_own_copy Z pr0 ka h0 n0 _ T6.heap _
    rw [e6]
    exact ⟨N6, b2, k2, rfl, sz2, K6, V6⟩
theorem ef_own_keep0 (m : MethodId) (pr0 : Addr) : entryFrame m #[(.ref pr0)] 2 = mkF m 0 #[.val (.ref pr0), .unset] [] := by first | (simp [entryFrame, mkF, argsToLocals, Value.category]; done) | rfl
def Q_own_keep0 (Z : State) (pr0 : Addr) (nn : Addr) (ka : ClassId) (wf : Int64) (wst : Int64) (h0 : Heap) (n0 : Nat) (v : Option Value) (h : Heap) (L : List Loc) : Prop := Fr n0 L ∧ v = none ∧ Keep h0 h ([pr0] : List Addr) ∧ Exa Z h pr0 "com/example/kalends/kalends/engine/LongList" ∧ Fld Z h pr0 "com/example/kalends/kalends/engine/LongList" "values" "[J" (.ref nn) ∧ Fld Z h pr0 "com/example/kalends/kalends/engine/LongList" "size" "I" (.int (0 : Int32)) ∧ Fld Z h pr0 "com/example/kalends/kalends/engine/LongList" "run" "Z" (.int (0 : Int32)) ∧ Fld Z h pr0 "com/example/kalends/kalends/engine/LongList" "runFirst" "J" (.long wf) ∧ Fld Z h pr0 "com/example/kalends/kalends/engine/LongList" "runStep" "J" (.long wst)
set_option maxRecDepth 65536 in
set_option maxHeartbeats 40000000 in
theorem own_keep0 (l : Launch) (Z : State) (a0 : Array Value) (hw : ∀ d ∈ tables_1, d.before a0 Z = true) (ws : List Jvm.Cond) (pr0 : Addr) (nn : Addr) (ka : ClassId) (wf : Int64) (wst : Int64) (h0 : Heap) (n0 : Nat) (Z0 : n0 ≤ h0.size) (P0 : Exa Z h0 pr0 "com/example/kalends/kalends/engine/LongList") (P1 : Fld Z h0 pr0 "com/example/kalends/kalends/engine/LongList" "values" "[J" (.ref nn)) (P2 : Fld Z h0 pr0 "com/example/kalends/kalends/engine/LongList" "size" "I" (.int (0 : Int32))) (P3 : Fld Z h0 pr0 "com/example/kalends/kalends/engine/LongList" "run" "Z" (.int (1 : Int32))) (P4 : Fld Z h0 pr0 "com/example/kalends/kalends/engine/LongList" "runFirst" "J" (.long wf)) (P5 : Fld Z h0 pr0 "com/example/kalends/kalends/engine/LongList" "runStep" "J" (.long wst)) (P6 : Arv Z h0 nn ka .long (0 : Int32) [] (.long (0 : Int64))) (P7 : nn ≠ pr0) (P8 : n0 ≤ pr0) :
    MetFree l (⟨"com/example/kalends/kalends/engine/LongList", "keepRun", "()V"⟩ : MethodName) (head1 (Jvm.Cond.code (⟨"com/example/kalends/kalends/engine/LongList", "keepRun", "()V"⟩ : MethodName) prog_9_method_9_code 2 none :: ws) ({ frames := 0, cells := 0, slots := 0, locals := 0 } : Room)) (fun a U => a = #[(.ref pr0)] ∧ Z.Warmed39 U.vm ∧ U.heap = h0) (fun _ _ _ _ _ => True) (fun _ U o U' => ∃ v L, o = .returned v ∧ Q_own_keep0 Z pr0 nn ka wf wst h0 n0 v U'.heap L ∧ FrameEnd U o U' L ({ frames := 0, cells := 0, slots := 0, locals := 0 } : Room).cells ({ frames := 0, cells := 0, slots := 0, locals := 0 } : Room).slots) := by
  refine MetFree.of_bodySF (plainFor_of_name pn_4) hisR ?_
  intro p e s m args below meth c s₁ Bd hml0 hP hK
  obtain ⟨rfl, hZ, hh⟩ := hP
  have hx := Bd.exec
  have hby := Bd.bytes
  have hml : c.maxLocals = 2 := hml0
  have hown : s.vm.findClass "com/example/kalends/kalends/engine/LongList" = some m.cls := findClass_of_methodNamed Bd.named
  have hnm := (name_of_methodNamed Bd.named Bd.method).1
  have X0 : Stand p l e ({ frames := 0, cells := 0, slots := 0, locals := 0 } : Room) s m #[(.ref pr0)] below meth c s₁ [] 0 0 := Stand.of_body Bd
  have e0 : s₁.heap = h0 := by rw [← hh, Bd.state]; rfl
  have N0 := Fr.nil n0
  have go0 : ∀ t, Steps p.tables e below (s₁.setTop (mkF m 0 #[.val (.ref pr0), .unset] [])) t → Steps p.tables e below (s₁.setTop (entryFrame m #[(.ref pr0)] 2)) t := fun t k => castTop (ef_own_keep0 m pr0) k
  revert go0
  generalize s₁.setTop (entryFrame m #[(.ref pr0)] 2) = st0
  intro go0
  obtain ⟨T1, X1, e1, st1⟩ := getF X0 hx hZ hown (host := "") (Or.inl (hw _ (List.mem_of_getElem? (i := 11) rfl))) Via.refl e0 P1 (g := (mkF m 1 #[.val (.ref pr0), .unset] [(.ref pr0)])) rfl rfl (hb hby d10_1)
  obtain ⟨cl2, Ar2, q2, S2, N2, H2, G2⟩ := id P6
  obtain ⟨T3, X3, e3, st3⟩ := getF X1 hx hZ hown (host := "") (Or.inl (hw _ (List.mem_of_getElem? (i := 18) rfl))) Via.refl e1 P2 (g := (mkF m 6 #[.val (.ref pr0), .unset] [(.ref pr0), (.int (0 : Int32))])) rfl rfl (hb hby d10_6)
  obtain ⟨T4, X4, e4, st4⟩ := getF X3 hx hZ hown (host := "") (Or.inl (hw _ (List.mem_of_getElem? (i := 18) rfl))) Via.refl e3 P2 (g := (mkF m 33 #[.val (.ref pr0), .val (.int (0 : Int32))] [(.ref pr0), (.int (0 : Int32))])) rfl rfl (hb hby d10_33)
  obtain ⟨T5, h5, X5, e5, W5, st5⟩ := putFN X4 hx hZ hown (hw _ (List.mem_of_getElem? (i := 25) rfl)) Via.refl e4 P3 P0 (Or.inl (hw _ (List.mem_of_getElem? (i := 26) rfl))) (hw _ (List.mem_of_getElem? (i := 1) rfl)) (ty := .boolean) (v' := (.int (0 : Int32))) (by decide) rfl rfl (g := (mkF m 65 #[.val (.ref pr0), .val (.int (0 : Int32))] [(.int (0 : Int32)), (.ref pr0)])) rfl rfl (hb hby d10_65)
  have K5 : Keep h0 h5 ([pr0] : List Addr) := (Keep.refl h0 ([pr0] : List Addr)).wr W5 (Or.inl (List.mem_of_getElem? (i := 0) rfl))
  have N5 := Fr.snoc X5 N0 P8
  have Z5 : n0 ≤ h5.size := Nat.le_trans Z0 (Keep.of_wr W5).1
  have Fw5 := P3.same W5
  have go6 : ∀ t, Steps p.tables e below (T5.setTop (mkF m 68 #[.val (.ref pr0), .val (.int (0 : Int32))] [])) t → Steps p.tables e below st0 t := by
    intro t kt
    refine go0 t ?_
    refine XS.aloadN X0.here hx rfl (hb hby d10_0) rfl rfl ?_
    show Steps p.tables e below (s₁.setTop (mkF m 1 #[.val (.ref pr0), .unset] [(.ref pr0)])) _
    refine st1 _ ?_
    show Steps p.tables e below (T1.setTop (mkF m 4 #[.val (.ref pr0), .unset] [(.ref nn)])) _
    refine X1.arraylength hx (by rw [e1]; exact Ar2.1) (State.isArrayOf_alike hZ.alike Ar2.2.1) (g := (mkF m 4 #[.val (.ref pr0), .unset] [(.ref nn)])) rfl rfl (hb hby d10_4) _ ?_
    rw [len_of S2 N2]
    show Steps p.tables e below (T1.setTop (mkF m 5 #[.val (.ref pr0), .unset] [(.int (0 : Int32))])) _
    refine XS.aloadN X1.here hx rfl (hb hby d10_5) rfl rfl ?_
    show Steps p.tables e below (T1.setTop (mkF m 6 #[.val (.ref pr0), .unset] [(.ref pr0), (.int (0 : Int32))])) _
    refine st3 _ ?_
    show Steps p.tables e below (T3.setTop (mkF m 9 #[.val (.ref pr0), .unset] [(.int (0 : Int32)), (.int (0 : Int32))])) _
    refine XS.icmpYes X3.here hx rfl (pc0 := 9) (pc' := 29) rfl (hb hby d10_9) rfl (flt (by decide : ¬ ((0 : Int32) < (0 : Int32)))).2.1 (by decide) (by decide) ?_
    show Steps p.tables e below (T3.setTop (mkF m 29 #[.val (.ref pr0), .unset] [])) _
    refine XS.iconst X3.here hx rfl (hb hby d10_29) ?_
    show Steps p.tables e below (T3.setTop (mkF m 30 #[.val (.ref pr0), .unset] [(.int (0 : Int32))])) _
    refine XS.istoreN X3.here hx rfl (hb hby d10_30) rfl (l' := #[.val (.ref pr0), .val (.int (0 : Int32))]) rfl ?_
    show Steps p.tables e below (T3.setTop (mkF m 31 #[.val (.ref pr0), .val (.int (0 : Int32))] [])) _
    refine XS.iloadN X3.here hx rfl (hb hby d10_31) rfl ?_
    show Steps p.tables e below (T3.setTop (mkF m 32 #[.val (.ref pr0), .val (.int (0 : Int32))] [(.int (0 : Int32))])) _
    refine XS.aloadN X3.here hx rfl (hb hby d10_32) rfl rfl ?_
    show Steps p.tables e below (T3.setTop (mkF m 33 #[.val (.ref pr0), .val (.int (0 : Int32))] [(.ref pr0), (.int (0 : Int32))])) _
    refine st4 _ ?_
    show Steps p.tables e below (T4.setTop (mkF m 36 #[.val (.ref pr0), .val (.int (0 : Int32))] [(.int (0 : Int32)), (.int (0 : Int32))])) _
    refine XS.icmpYes X4.here hx rfl (pc0 := 36) (pc' := 63) rfl (hb hby d10_36) rfl (flt (by decide : ¬ ((0 : Int32) < (0 : Int32)))).2.1 (by decide) (by decide) ?_
    show Steps p.tables e below (T4.setTop (mkF m 63 #[.val (.ref pr0), .val (.int (0 : Int32))] [])) _
    refine XS.aloadN X4.here hx rfl (hb hby d10_63) rfl rfl ?_
    show Steps p.tables e below (T4.setTop (mkF m 64 #[.val (.ref pr0), .val (.int (0 : Int32))] [(.ref pr0)])) _
    refine XS.iconst X4.here hx rfl (hb hby d10_64) ?_
    show Steps p.tables e below (T4.setTop (mkF m 65 #[.val (.ref pr0), .val (.int (0 : Int32))] [(.int (0 : Int32)), (.ref pr0)])) _
    refine st5 _ ?_
    show Steps p.tables e below (T5.setTop (mkF m 68 #[.val (.ref pr0), .val (.int (0 : Int32))] [])) _
    exact kt
  obtain ⟨fs, hr, hrun, hended, hW, hsame⟩ := X5.leave (v := none) (fun _ => rfl)
  refine ⟨_, _, go6 _ ?_, hrun, hended, _, _, rfl, ?_, ⟨_, rfl⟩, hW, hsame.mono (by decide) (by decide)⟩
  · exact X5.returnOut hx Bd.returns (hb hby d10_68) hr
  · show Q_own_keep0 Z pr0 nn ka wf wst h0 n0 _ T5.heap _
    rw [e5]
    have f7 : Exa Z h5 pr0 "com/example/kalends/kalends/engine/LongList" := (P0.wr W5)
    have f8 : Fld Z h5 pr0 "com/example/kalends/kalends/engine/LongList" "values" "[J" (.ref nn) := (P1.other W5 (Or.inr (slot_ne (Or.inl (hw _ (List.mem_of_getElem? (i := 12) rfl))) (Or.inl (hw _ (List.mem_of_getElem? (i := 26) rfl))) (by decide) (t := (.array .long)) (t' := .boolean) (by decide) (by decide))))
    have f9 : Fld Z h5 pr0 "com/example/kalends/kalends/engine/LongList" "size" "I" (.int (0 : Int32)) := (P2.other W5 (Or.inr (slot_ne (Or.inl (hw _ (List.mem_of_getElem? (i := 19) rfl))) (Or.inl (hw _ (List.mem_of_getElem? (i := 26) rfl))) (by decide) (t := .int) (t' := .boolean) (by decide) (by decide))))
    have f10 : Fld Z h5 pr0 "com/example/kalends/kalends/engine/LongList" "runFirst" "J" (.long wf) := (P4.other W5 (Or.inr (slot_ne (Or.inl (hw _ (List.mem_of_getElem? (i := 28) rfl))) (Or.inl (hw _ (List.mem_of_getElem? (i := 26) rfl))) (by decide) (t := .long) (t' := .boolean) (by decide) (by decide))))
    have f11 : Fld Z h5 pr0 "com/example/kalends/kalends/engine/LongList" "runStep" "J" (.long wst) := (P5.other W5 (Or.inr (slot_ne (Or.inl (hw _ (List.mem_of_getElem? (i := 30) rfl))) (Or.inl (hw _ (List.mem_of_getElem? (i := 26) rfl))) (by decide) (t := .long) (t' := .boolean) (by decide) (by decide))))
    exact ⟨N5, rfl, K5, f7, f8, f9, Fw5, f10, f11⟩
theorem ef_own_keep1 (m : MethodId) (pr0 : Addr) : entryFrame m #[(.ref pr0)] 2 = mkF m 0 #[.val (.ref pr0), .unset] [] := by first | (simp [entryFrame, mkF, argsToLocals, Value.category]; done) | rfl
def Q_own_keep1 (Z : State) (pr0 : Addr) (nn : Addr) (ka : ClassId) (wf : Int64) (wst : Int64) (h0 : Heap) (n0 : Nat) (v : Option Value) (h : Heap) (L : List Loc) : Prop := Fr n0 L ∧ ∃ (bb : Addr) (kb : ClassId), v = none ∧ h0.size ≤ bb ∧ Keep h0 h ([pr0] : List Addr) ∧ Exa Z h pr0 "com/example/kalends/kalends/engine/LongList" ∧ Fld Z h pr0 "com/example/kalends/kalends/engine/LongList" "values" "[J" (.ref bb) ∧ Fld Z h pr0 "com/example/kalends/kalends/engine/LongList" "size" "I" (.int (1 : Int32)) ∧ Fld Z h pr0 "com/example/kalends/kalends/engine/LongList" "run" "Z" (.int (0 : Int32)) ∧ Fld Z h pr0 "com/example/kalends/kalends/engine/LongList" "runFirst" "J" (.long wf) ∧ Fld Z h pr0 "com/example/kalends/kalends/engine/LongList" "runStep" "J" (.long wst) ∧ Arv Z h bb kb .long (8 : Int32) [(.long (wf + ((0 : Int64) * wst))), (.long (0 : Int64)), (.long (0 : Int64)), (.long (0 : Int64)), (.long (0 : Int64)), (.long (0 : Int64)), (.long (0 : Int64)), (.long (0 : Int64))] (.long (0 : Int64))
set_option maxRecDepth 65536 in
set_option maxHeartbeats 40000000 in
theorem own_keep1 (l : Launch) (Z : State) (a0 : Array Value) (hw : ∀ d ∈ tables_1, d.before a0 Z = true) (ws : List Jvm.Cond) (pr0 : Addr) (nn : Addr) (ka : ClassId) (wf : Int64) (wst : Int64) (h0 : Heap) (n0 : Nat) (Z0 : n0 ≤ h0.size) (P0 : Exa Z h0 pr0 "com/example/kalends/kalends/engine/LongList") (P1 : Fld Z h0 pr0 "com/example/kalends/kalends/engine/LongList" "values" "[J" (.ref nn)) (P2 : Fld Z h0 pr0 "com/example/kalends/kalends/engine/LongList" "size" "I" (.int (1 : Int32))) (P3 : Fld Z h0 pr0 "com/example/kalends/kalends/engine/LongList" "run" "Z" (.int (1 : Int32))) (P4 : Fld Z h0 pr0 "com/example/kalends/kalends/engine/LongList" "runFirst" "J" (.long wf)) (P5 : Fld Z h0 pr0 "com/example/kalends/kalends/engine/LongList" "runStep" "J" (.long wst)) (P6 : Arv Z h0 nn ka .long (0 : Int32) [] (.long (0 : Int64))) (P7 : nn ≠ pr0) (P8 : n0 ≤ pr0) :
    MetFree l (⟨"com/example/kalends/kalends/engine/LongList", "keepRun", "()V"⟩ : MethodName) (head1 (Jvm.Cond.code (⟨"com/example/kalends/kalends/engine/LongList", "keepRun", "()V"⟩ : MethodName) prog_9_method_9_code 2 none :: ws) ({ frames := 1, cells := 1, slots := 8, locals := 14 } : Room)) (fun a U => a = #[(.ref pr0)] ∧ Z.Warmed39 U.vm ∧ U.heap = h0) (fun _ _ _ _ _ => True) (fun _ U o U' => ∃ v L, o = .returned v ∧ Q_own_keep1 Z pr0 nn ka wf wst h0 n0 v U'.heap L ∧ FrameEnd U o U' L ({ frames := 1, cells := 1, slots := 8, locals := 14 } : Room).cells ({ frames := 1, cells := 1, slots := 8, locals := 14 } : Room).slots) := by
  refine MetFree.of_bodySF (plainFor_of_name pn_4) hisR ?_
  intro p e s m args below meth c s₁ Bd hml0 hP hK
  obtain ⟨rfl, hZ, hh⟩ := hP
  have hx := Bd.exec
  have hby := Bd.bytes
  have hml : c.maxLocals = 2 := hml0
  have hown : s.vm.findClass "com/example/kalends/kalends/engine/LongList" = some m.cls := findClass_of_methodNamed Bd.named
  have hnm := (name_of_methodNamed Bd.named Bd.method).1
  have X0 : Stand p l e ({ frames := 1, cells := 1, slots := 8, locals := 14 } : Room) s m #[(.ref pr0)] below meth c s₁ [] 0 0 := Stand.of_body Bd
  have e0 : s₁.heap = h0 := by rw [← hh, Bd.state]; rfl
  have N0 := Fr.nil n0
  have go0 : ∀ t, Steps p.tables e below (s₁.setTop (mkF m 0 #[.val (.ref pr0), .unset] [])) t → Steps p.tables e below (s₁.setTop (entryFrame m #[(.ref pr0)] 2)) t := fun t k => castTop (ef_own_keep1 m pr0) k
  revert go0
  generalize s₁.setTop (entryFrame m #[(.ref pr0)] 2) = st0
  intro go0
  obtain ⟨T1, X1, e1, st1⟩ := getF X0 hx hZ hown (host := "") (Or.inl (hw _ (List.mem_of_getElem? (i := 11) rfl))) Via.refl e0 P1 (g := (mkF m 1 #[.val (.ref pr0), .unset] [(.ref pr0)])) rfl rfl (hb hby d10_1)
  obtain ⟨cl2, Ar2, q2, S2, N2, H2, G2⟩ := id P6
  obtain ⟨T3, X3, e3, st3⟩ := getF X1 hx hZ hown (host := "") (Or.inl (hw _ (List.mem_of_getElem? (i := 18) rfl))) Via.refl e1 P2 (g := (mkF m 6 #[.val (.ref pr0), .unset] [(.ref pr0), (.int (0 : Int32))])) rfl rfl (hb hby d10_6)
  obtain ⟨T4, X4, e4, st4⟩ := getF X3 hx hZ hown (host := "") (Or.inl (hw _ (List.mem_of_getElem? (i := 18) rfl))) Via.refl e3 P2 (g := (mkF m 17 #[.val (.ref pr0), .unset] [(.ref pr0), (.int (2 : Int32)), (.int (8 : Int32)), (.ref pr0)])) rfl rfl (hb hby d10_17)
  obtain ⟨_, _, ⟨T5, L5, k5, n5⟩, -, X5, ⟨Lc5, hQ5, l5, y5, z5⟩, st5⟩ := Jvm.LawKit.callS X4 hx (y := (⟨"java/lang/Math", "max", "(II)I"⟩ : MethodName)) hown (mvT hZ (hw _ (List.mem_of_getElem? (i := 40) rfl))) (mvT hZ (hw _ (List.mem_of_getElem? (i := 41) rfl))) (mvT hZ (hw _ (List.mem_of_getElem? (i := 42) rfl))) (mvT hZ (hw _ (List.mem_of_getElem? (i := 43) rfl))) (by decide) (backOf (W := 1) (own_max_f l Z a0 hw [] (8 : Int32) (2 : Int32) h0 n0 Z0 (by decide : ¬ ((8 : Int32) < (2 : Int32)))) hZ (hw _ (List.mem_of_getElem? (i := 43) rfl)) (hw _ (List.mem_of_getElem? (i := 42) rfl)) (by decide) (by decide)) (g := (mkF m 21 #[.val (.ref pr0), .unset] [(.int (2 : Int32)), (.int (8 : Int32)), (.ref pr0)])) rfl (by rw [hml]; rfl) (argsL := [(.int (8 : Int32)), (.int (2 : Int32))]) (rest := [(.ref pr0)]) (lenOf pd_8 rfl) rfl (by show 2 * 0 + _ ≤ _; exact Nat.le_of_eq rfl) (hb hby d10_21) (fun _ _ => ⟨rfl, e4, (by decide : 0 + 0 ≤ _), (by decide : 0 + 0 ≤ _)⟩)
  dsimp only [Pt.U, Pt.locs, Pt.cells, Pt.slots] at X5 l5 y5 z5 st5 hQ5
  subst l5 y5 z5
  obtain ⟨rfl, Nq5, e5⟩ := hQ5
  have N5 := Fr.app N0 Nq5
  obtain ⟨T6, h6, k6, X6, e6, E6, A6, st6⟩ := newP X5 hx hZ (hw _ (List.mem_of_getElem? (i := 48) rfl)) e5 (g := (mkF m 24 #[.val (.ref pr0), .unset] [(.int (8 : Int32)), (.ref pr0)])) rfl (hb hby d10_24) rfl (by decide) (cap := 8) (by decide) (by decide) (by decide) (by decide)
  obtain ⟨b6, g6⟩ : ∃ z, z = h0.size := ⟨_, rfl⟩
  rw [← g6] at A6 st6
  have ne6_nn : nn ≠ b6 := Nat.ne_of_lt (Nat.lt_of_lt_of_eq P6.lt g6.symm)
  have ne6_pr0 : pr0 ≠ b6 := Nat.ne_of_lt (Nat.lt_of_lt_of_eq P0.lt g6.symm)
  have ge6 : n0 ≤ b6 := Nat.le_trans Z0 (Nat.le_of_eq g6.symm)
  have sz6 : h0.size ≤ b6 := Nat.le_trans (Keep.refl h0 ([pr0] : List Addr)).1 (Nat.le_of_eq g6.symm)
  have Z6 : n0 ≤ h6.size := Nat.le_trans Z0 E6.1
  have K6 : Keep h0 h6 ([pr0] : List Addr) := (Keep.refl h0 ([pr0] : List Addr)).ext E6
  have V6 : Arv Z h6 b6 k6 .long (8 : Int32) [(.long (0 : Int64)), (.long (0 : Int64)), (.long (0 : Int64)), (.long (0 : Int64)), (.long (0 : Int64)), (.long (0 : Int64)), (.long (0 : Int64)), (.long (0 : Int64))] (.long (0 : Int64)) := (Arv.new A6 (by decide)).pad (pad_rep [] (.long (0 : Int64)) 8)
  have f7 : Fld Z h6 pr0 "com/example/kalends/kalends/engine/LongList" "values" "[J" (.ref nn) := (P1.ext E6)
  have f8 : Exa Z h6 pr0 "com/example/kalends/kalends/engine/LongList" := (P0.ext E6)
  obtain ⟨T9, h9, X9, e9, W9, st9⟩ := putF X6 hx hZ hown (host := "") (Or.inl (hw _ (List.mem_of_getElem? (i := 11) rfl))) Via.refl e6 f7 f8 (Or.inl (hw _ (List.mem_of_getElem? (i := 12) rfl))) (hw _ (List.mem_of_getElem? (i := 1) rfl)) (ty := (.array .long)) (by decide) rfl rfl (g := (mkF m 26 #[.val (.ref pr0), .unset] [(.ref b6), (.ref pr0)])) rfl rfl (hb hby d10_26)
  have K9 : Keep h0 h9 ([pr0] : List Addr) := K6.wr W9 (Or.inl (List.mem_of_getElem? (i := 0) rfl))
  have N9 := Fr.snoc X9 N5 P8
  have Z9 : n0 ≤ h9.size := Nat.le_trans Z6 (Keep.of_wr W9).1
  have Fw9 := f7.same W9
  have f10 : Fld Z h9 pr0 "com/example/kalends/kalends/engine/LongList" "size" "I" (.int (1 : Int32)) := ((P2.ext E6).other W9 (Or.inr (slot_ne (Or.inl (hw _ (List.mem_of_getElem? (i := 19) rfl))) (Or.inl (hw _ (List.mem_of_getElem? (i := 12) rfl))) (by decide) (t := .int) (t' := (.array .long)) (by decide) (by decide))))
  obtain ⟨T11, X11, e11, st11⟩ := getF X9 hx hZ hown (host := "") (Or.inl (hw _ (List.mem_of_getElem? (i := 18) rfl))) Via.refl e9 f10 (g := (mkF m 33 #[.val (.ref pr0), .val (.int (0 : Int32))] [(.ref pr0), (.int (0 : Int32))])) rfl rfl (hb hby d10_33)
  obtain ⟨T12, X12, e12, st12⟩ := getF X11 hx hZ hown (host := "") (Or.inl (hw _ (List.mem_of_getElem? (i := 11) rfl))) Via.refl e11 Fw9 (g := (mkF m 40 #[.val (.ref pr0), .val (.int (0 : Int32))] [(.ref pr0)])) rfl rfl (hb hby d10_40)
  have f13 : Fld Z h9 pr0 "com/example/kalends/kalends/engine/LongList" "runFirst" "J" (.long wf) := ((P4.ext E6).other W9 (Or.inr (slot_ne (Or.inl (hw _ (List.mem_of_getElem? (i := 28) rfl))) (Or.inl (hw _ (List.mem_of_getElem? (i := 12) rfl))) (by decide) (t := .long) (t' := (.array .long)) (by decide) (by decide))))
  obtain ⟨T14, X14, e14, st14⟩ := getF X12 hx hZ hown (host := "") (Or.inl (hw _ (List.mem_of_getElem? (i := 27) rfl))) Via.refl e12 f13 (g := (mkF m 45 #[.val (.ref pr0), .val (.int (0 : Int32))] [(.ref pr0), (.int (0 : Int32)), (.ref b6)])) rfl rfl (hb hby d10_45)
  have f15 : Fld Z h9 pr0 "com/example/kalends/kalends/engine/LongList" "runStep" "J" (.long wst) := ((P5.ext E6).other W9 (Or.inr (slot_ne (Or.inl (hw _ (List.mem_of_getElem? (i := 30) rfl))) (Or.inl (hw _ (List.mem_of_getElem? (i := 12) rfl))) (by decide) (t := .long) (t' := (.array .long)) (by decide) (by decide))))
  obtain ⟨T16, X16, e16, st16⟩ := getF X14 hx hZ hown (host := "") (Or.inl (hw _ (List.mem_of_getElem? (i := 29) rfl))) Via.refl e14 f15 (g := (mkF m 51 #[.val (.ref pr0), .val (.int (0 : Int32))] [(.ref pr0), (.long (0 : Int64)), (.long wf), (.int (0 : Int32)), (.ref b6)])) rfl rfl (hb hby d10_51)
  have f17 : Arv Z h9 b6 k6 .long (8 : Int32) [(.long (0 : Int64)), (.long (0 : Int64)), (.long (0 : Int64)), (.long (0 : Int64)), (.long (0 : Int64)), (.long (0 : Int64)), (.long (0 : Int64)), (.long (0 : Int64))] (.long (0 : Int64)) := (V6.other W9 (Ne.symm ne6_pr0))
  obtain ⟨cl18, Ar18, q18, S18, N18, H18, G18⟩ := id f17
  have hin18 : ¬ ((0 : Int32) < 0 ∨ cl18.slots.size ≤ ((0 : Int32)).toNatClampNeg) := inb_of S18 ⟨by decide, by decide⟩
  obtain ⟨T19, h19, X19, e19, W19, st19⟩ := stJ X16 hx hZ e16 Ar18 (j := (0 : Int32)) hin18 (g := (mkF m 56 #[.val (.ref pr0), .val (.int (0 : Int32))] [(.long (wf + ((0 : Int64) * wst))), (.int (0 : Int32)), (.ref b6)])) rfl rfl (hb hby d10_56)
  have K19 : Keep h0 h19 ([pr0] : List Addr) := K9.wr W19 (Or.inr sz6)
  have N19 := Fr.snoc X19 N9 ge6
  have Z19 : n0 ≤ h19.size := Nat.le_trans Z9 (Keep.of_wr W19).1
  have V19 : Arv Z h19 b6 k6 .long (8 : Int32) [(.long (wf + ((0 : Int64) * wst))), (.long (0 : Int64)), (.long (0 : Int64)), (.long (0 : Int64)), (.long (0 : Int64)), (.long (0 : Int64)), (.long (0 : Int64)), (.long (0 : Int64))] (.long (0 : Int64)) := Arv.set Ar18 q18 S18 N18 H18 G18 rfl W19 0 rfl (Nat.le_of_ble_eq_true rfl)
  have f20 : Fld Z h19 pr0 "com/example/kalends/kalends/engine/LongList" "size" "I" (.int (1 : Int32)) := (f10.other W19 (Or.inl ne6_pr0))
  obtain ⟨T21, X21, e21, st21⟩ := getF X19 hx hZ hown (host := "") (Or.inl (hw _ (List.mem_of_getElem? (i := 18) rfl))) Via.refl e19 f20 (g := (mkF m 33 #[.val (.ref pr0), .val (.int (1 : Int32))] [(.ref pr0), (.int (1 : Int32))])) rfl rfl (hb hby d10_33)
  have f22 : Fld Z h19 pr0 "com/example/kalends/kalends/engine/LongList" "run" "Z" (.int (1 : Int32)) := (((P3.ext E6).other W9 (Or.inr (slot_ne (Or.inl (hw _ (List.mem_of_getElem? (i := 26) rfl))) (Or.inl (hw _ (List.mem_of_getElem? (i := 12) rfl))) (by decide) (t := .boolean) (t' := (.array .long)) (by decide) (by decide)))).other W19 (Or.inl ne6_pr0))
  have f23 : Exa Z h19 pr0 "com/example/kalends/kalends/engine/LongList" := ((f8.wr W9).wr W19)
  obtain ⟨T24, h24, X24, e24, W24, st24⟩ := putFN X21 hx hZ hown (hw _ (List.mem_of_getElem? (i := 25) rfl)) Via.refl e21 f22 f23 (Or.inl (hw _ (List.mem_of_getElem? (i := 26) rfl))) (hw _ (List.mem_of_getElem? (i := 1) rfl)) (ty := .boolean) (v' := (.int (0 : Int32))) (by decide) rfl rfl (g := (mkF m 65 #[.val (.ref pr0), .val (.int (1 : Int32))] [(.int (0 : Int32)), (.ref pr0)])) rfl rfl (hb hby d10_65)
  have K24 : Keep h0 h24 ([pr0] : List Addr) := K19.wr W24 (Or.inl (List.mem_of_getElem? (i := 0) rfl))
  have N24 := Fr.snoc X24 N19 P8
  have Z24 : n0 ≤ h24.size := Nat.le_trans Z19 (Keep.of_wr W24).1
  have Fw24 := f22.same W24
  have go25 : ∀ t, Steps p.tables e below (T24.setTop (mkF m 68 #[.val (.ref pr0), .val (.int (1 : Int32))] [])) t → Steps p.tables e below st0 t := by
    intro t kt
    refine go0 t ?_
    refine XS.aloadN X0.here hx rfl (hb hby d10_0) rfl rfl ?_
    show Steps p.tables e below (s₁.setTop (mkF m 1 #[.val (.ref pr0), .unset] [(.ref pr0)])) _
    refine st1 _ ?_
    show Steps p.tables e below (T1.setTop (mkF m 4 #[.val (.ref pr0), .unset] [(.ref nn)])) _
    refine X1.arraylength hx (by rw [e1]; exact Ar2.1) (State.isArrayOf_alike hZ.alike Ar2.2.1) (g := (mkF m 4 #[.val (.ref pr0), .unset] [(.ref nn)])) rfl rfl (hb hby d10_4) _ ?_
    rw [len_of S2 N2]
    show Steps p.tables e below (T1.setTop (mkF m 5 #[.val (.ref pr0), .unset] [(.int (0 : Int32))])) _
    refine XS.aloadN X1.here hx rfl (hb hby d10_5) rfl rfl ?_
    show Steps p.tables e below (T1.setTop (mkF m 6 #[.val (.ref pr0), .unset] [(.ref pr0), (.int (0 : Int32))])) _
    refine st3 _ ?_
    show Steps p.tables e below (T3.setTop (mkF m 9 #[.val (.ref pr0), .unset] [(.int (1 : Int32)), (.int (0 : Int32))])) _
    refine XS.icmpNo X3.here hx rfl (hb hby d10_9) rfl (tlt (by decide : (0 : Int32) < (1 : Int32))).2.1 ?_
    show Steps p.tables e below (T3.setTop (mkF m 12 #[.val (.ref pr0), .unset] [])) _
    refine XS.aloadN X3.here hx rfl (hb hby d10_12) rfl rfl ?_
    show Steps p.tables e below (T3.setTop (mkF m 13 #[.val (.ref pr0), .unset] [(.ref pr0)])) _
    refine XS.bipush X3.here hx rfl (hb hby d10_13) ?_
    show Steps p.tables e below (T3.setTop (mkF m 15 #[.val (.ref pr0), .unset] [(.int (8 : Int32)), (.ref pr0)])) _
    refine XS.iconst X3.here hx rfl (hb hby d10_15) ?_
    show Steps p.tables e below (T3.setTop (mkF m 16 #[.val (.ref pr0), .unset] [(.int (2 : Int32)), (.int (8 : Int32)), (.ref pr0)])) _
    refine XS.aloadN X3.here hx rfl (hb hby d10_16) rfl rfl ?_
    show Steps p.tables e below (T3.setTop (mkF m 17 #[.val (.ref pr0), .unset] [(.ref pr0), (.int (2 : Int32)), (.int (8 : Int32)), (.ref pr0)])) _
    refine st4 _ ?_
    show Steps p.tables e below (T4.setTop (mkF m 20 #[.val (.ref pr0), .unset] [(.int (1 : Int32)), (.int (2 : Int32)), (.int (8 : Int32)), (.ref pr0)])) _
    refine XS.imul X4.here hx rfl (hb hby d10_20) rfl ?_
    show Steps p.tables e below (T4.setTop (mkF m 21 #[.val (.ref pr0), .unset] [(.int (2 : Int32)), (.int (8 : Int32)), (.ref pr0)])) _
    refine st5 _ ?_
    show Steps p.tables e below (T5.setTop (mkF m 24 #[.val (.ref pr0), .unset] [(.int (8 : Int32)), (.ref pr0)])) _
    refine st6 _ ?_
    show Steps p.tables e below (T6.setTop (mkF m 26 #[.val (.ref pr0), .unset] [(.ref b6), (.ref pr0)])) _
    refine st9 _ ?_
    show Steps p.tables e below (T9.setTop (mkF m 29 #[.val (.ref pr0), .unset] [])) _
    refine XS.iconst X9.here hx rfl (hb hby d10_29) ?_
    show Steps p.tables e below (T9.setTop (mkF m 30 #[.val (.ref pr0), .unset] [(.int (0 : Int32))])) _
    refine XS.istoreN X9.here hx rfl (hb hby d10_30) rfl (l' := #[.val (.ref pr0), .val (.int (0 : Int32))]) rfl ?_
    show Steps p.tables e below (T9.setTop (mkF m 31 #[.val (.ref pr0), .val (.int (0 : Int32))] [])) _
    refine XS.iloadN X9.here hx rfl (hb hby d10_31) rfl ?_
    show Steps p.tables e below (T9.setTop (mkF m 32 #[.val (.ref pr0), .val (.int (0 : Int32))] [(.int (0 : Int32))])) _
    refine XS.aloadN X9.here hx rfl (hb hby d10_32) rfl rfl ?_
    show Steps p.tables e below (T9.setTop (mkF m 33 #[.val (.ref pr0), .val (.int (0 : Int32))] [(.ref pr0), (.int (0 : Int32))])) _
    refine st11 _ ?_
    show Steps p.tables e below (T11.setTop (mkF m 36 #[.val (.ref pr0), .val (.int (0 : Int32))] [(.int (1 : Int32)), (.int (0 : Int32))])) _
    refine XS.icmpNo X11.here hx rfl (hb hby d10_36) rfl (tlt (by decide : (0 : Int32) < (1 : Int32))).2.1 ?_
    show Steps p.tables e below (T11.setTop (mkF m 39 #[.val (.ref pr0), .val (.int (0 : Int32))] [])) _
    refine XS.aloadN X11.here hx rfl (hb hby d10_39) rfl rfl ?_
    show Steps p.tables e below (T11.setTop (mkF m 40 #[.val (.ref pr0), .val (.int (0 : Int32))] [(.ref pr0)])) _
    refine st12 _ ?_
    show Steps p.tables e below (T12.setTop (mkF m 43 #[.val (.ref pr0), .val (.int (0 : Int32))] [(.ref b6)])) _
    refine XS.iloadN X12.here hx rfl (hb hby d10_43) rfl ?_
    show Steps p.tables e below (T12.setTop (mkF m 44 #[.val (.ref pr0), .val (.int (0 : Int32))] [(.int (0 : Int32)), (.ref b6)])) _
    refine XS.aloadN X12.here hx rfl (hb hby d10_44) rfl rfl ?_
    show Steps p.tables e below (T12.setTop (mkF m 45 #[.val (.ref pr0), .val (.int (0 : Int32))] [(.ref pr0), (.int (0 : Int32)), (.ref b6)])) _
    refine st14 _ ?_
    show Steps p.tables e below (T14.setTop (mkF m 48 #[.val (.ref pr0), .val (.int (0 : Int32))] [(.long wf), (.int (0 : Int32)), (.ref b6)])) _
    refine XS.iloadN X14.here hx rfl (hb hby d10_48) rfl ?_
    show Steps p.tables e below (T14.setTop (mkF m 49 #[.val (.ref pr0), .val (.int (0 : Int32))] [(.int (0 : Int32)), (.long wf), (.int (0 : Int32)), (.ref b6)])) _
    refine XS.i2l X14.here hx rfl (hb hby d10_49) rfl ?_
    show Steps p.tables e below (T14.setTop (mkF m 50 #[.val (.ref pr0), .val (.int (0 : Int32))] [(.long (0 : Int64)), (.long wf), (.int (0 : Int32)), (.ref b6)])) _
    refine XS.aloadN X14.here hx rfl (hb hby d10_50) rfl rfl ?_
    show Steps p.tables e below (T14.setTop (mkF m 51 #[.val (.ref pr0), .val (.int (0 : Int32))] [(.ref pr0), (.long (0 : Int64)), (.long wf), (.int (0 : Int32)), (.ref b6)])) _
    refine st16 _ ?_
    show Steps p.tables e below (T16.setTop (mkF m 54 #[.val (.ref pr0), .val (.int (0 : Int32))] [(.long wst), (.long (0 : Int64)), (.long wf), (.int (0 : Int32)), (.ref b6)])) _
    refine XS.lmul X16.here hx rfl (hb hby d10_54) rfl ?_
    show Steps p.tables e below (T16.setTop (mkF m 55 #[.val (.ref pr0), .val (.int (0 : Int32))] [(.long ((0 : Int64) * wst)), (.long wf), (.int (0 : Int32)), (.ref b6)])) _
    refine XS.ladd X16.here hx rfl (hb hby d10_55) rfl ?_
    show Steps p.tables e below (T16.setTop (mkF m 56 #[.val (.ref pr0), .val (.int (0 : Int32))] [(.long (wf + ((0 : Int64) * wst))), (.int (0 : Int32)), (.ref b6)])) _
    refine st19 _ ?_
    show Steps p.tables e below (T19.setTop (mkF m 57 #[.val (.ref pr0), .val (.int (0 : Int32))] [])) _
    refine XS.iinc X19.here hx rfl (hb hby d10_57) rfl (l' := #[.val (.ref pr0), .val (.int (1 : Int32))]) rfl ?_
    show Steps p.tables e below (T19.setTop (mkF m 60 #[.val (.ref pr0), .val (.int (1 : Int32))] [])) _
    refine XS.goto X19.here hx rfl (pc0 := 60) (pc' := 31) rfl (hb hby d10_60) (by decide) (by decide) ?_
    show Steps p.tables e below (T19.setTop (mkF m 31 #[.val (.ref pr0), .val (.int (1 : Int32))] [])) _
    refine XS.iloadN X19.here hx rfl (hb hby d10_31) rfl ?_
    show Steps p.tables e below (T19.setTop (mkF m 32 #[.val (.ref pr0), .val (.int (1 : Int32))] [(.int (1 : Int32))])) _
    refine XS.aloadN X19.here hx rfl (hb hby d10_32) rfl rfl ?_
    show Steps p.tables e below (T19.setTop (mkF m 33 #[.val (.ref pr0), .val (.int (1 : Int32))] [(.ref pr0), (.int (1 : Int32))])) _
    refine st21 _ ?_
    show Steps p.tables e below (T21.setTop (mkF m 36 #[.val (.ref pr0), .val (.int (1 : Int32))] [(.int (1 : Int32)), (.int (1 : Int32))])) _
    refine XS.icmpYes X21.here hx rfl (pc0 := 36) (pc' := 63) rfl (hb hby d10_36) rfl (flt (by decide : ¬ ((1 : Int32) < (1 : Int32)))).2.1 (by decide) (by decide) ?_
    show Steps p.tables e below (T21.setTop (mkF m 63 #[.val (.ref pr0), .val (.int (1 : Int32))] [])) _
    refine XS.aloadN X21.here hx rfl (hb hby d10_63) rfl rfl ?_
    show Steps p.tables e below (T21.setTop (mkF m 64 #[.val (.ref pr0), .val (.int (1 : Int32))] [(.ref pr0)])) _
    refine XS.iconst X21.here hx rfl (hb hby d10_64) ?_
    show Steps p.tables e below (T21.setTop (mkF m 65 #[.val (.ref pr0), .val (.int (1 : Int32))] [(.int (0 : Int32)), (.ref pr0)])) _
    refine st24 _ ?_
    show Steps p.tables e below (T24.setTop (mkF m 68 #[.val (.ref pr0), .val (.int (1 : Int32))] [])) _
    exact kt
  obtain ⟨fs, hr, hrun, hended, hW, hsame⟩ := X24.leave (v := none) (fun _ => rfl)
  refine ⟨_, _, go25 _ ?_, hrun, hended, _, _, rfl, ?_, ⟨_, rfl⟩, hW, hsame.mono (by decide) (by decide)⟩
  · exact X24.returnOut hx Bd.returns (hb hby d10_68) hr
  · show Q_own_keep1 Z pr0 nn ka wf wst h0 n0 _ T24.heap _
    rw [e24]
    have f26 : Exa Z h24 pr0 "com/example/kalends/kalends/engine/LongList" := (f23.wr W24)
    have f27 : Fld Z h24 pr0 "com/example/kalends/kalends/engine/LongList" "values" "[J" (.ref b6) := ((Fw9.other W19 (Or.inl ne6_pr0)).other W24 (Or.inr (slot_ne (Or.inl (hw _ (List.mem_of_getElem? (i := 12) rfl))) (Or.inl (hw _ (List.mem_of_getElem? (i := 26) rfl))) (by decide) (t := (.array .long)) (t' := .boolean) (by decide) (by decide))))
    have f28 : Fld Z h24 pr0 "com/example/kalends/kalends/engine/LongList" "size" "I" (.int (1 : Int32)) := (f20.other W24 (Or.inr (slot_ne (Or.inl (hw _ (List.mem_of_getElem? (i := 19) rfl))) (Or.inl (hw _ (List.mem_of_getElem? (i := 26) rfl))) (by decide) (t := .int) (t' := .boolean) (by decide) (by decide))))
    have f29 : Fld Z h24 pr0 "com/example/kalends/kalends/engine/LongList" "runFirst" "J" (.long wf) := ((f13.other W19 (Or.inl ne6_pr0)).other W24 (Or.inr (slot_ne (Or.inl (hw _ (List.mem_of_getElem? (i := 28) rfl))) (Or.inl (hw _ (List.mem_of_getElem? (i := 26) rfl))) (by decide) (t := .long) (t' := .boolean) (by decide) (by decide))))
    have f30 : Fld Z h24 pr0 "com/example/kalends/kalends/engine/LongList" "runStep" "J" (.long wst) := ((f15.other W19 (Or.inl ne6_pr0)).other W24 (Or.inr (slot_ne (Or.inl (hw _ (List.mem_of_getElem? (i := 30) rfl))) (Or.inl (hw _ (List.mem_of_getElem? (i := 26) rfl))) (by decide) (t := .long) (t' := .boolean) (by decide) (by decide))))
    have f31 : Arv Z h24 b6 k6 .long (8 : Int32) [(.long (wf + ((0 : Int64) * wst))), (.long (0 : Int64)), (.long (0 : Int64)), (.long (0 : Int64)), (.long (0 : Int64)), (.long (0 : Int64)), (.long (0 : Int64)), (.long (0 : Int64))] (.long (0 : Int64)) := (V19.other W24 (Ne.symm ne6_pr0))
    exact ⟨N24, b6, k6, rfl, sz6, K24, f26, f27, f28, Fw24, f29, f30, f31⟩
theorem ef_own_keep2 (m : MethodId) (pr0 : Addr) : entryFrame m #[(.ref pr0)] 2 = mkF m 0 #[.val (.ref pr0), .unset] [] := by first | (simp [entryFrame, mkF, argsToLocals, Value.category]; done) | rfl
def Q_own_keep2 (Z : State) (pr0 : Addr) (nn : Addr) (ka : ClassId) (wf : Int64) (wst : Int64) (h0 : Heap) (n0 : Nat) (v : Option Value) (h : Heap) (L : List Loc) : Prop := Fr n0 L ∧ ∃ (bb : Addr) (kb : ClassId), v = none ∧ h0.size ≤ bb ∧ Keep h0 h ([pr0] : List Addr) ∧ Exa Z h pr0 "com/example/kalends/kalends/engine/LongList" ∧ Fld Z h pr0 "com/example/kalends/kalends/engine/LongList" "values" "[J" (.ref bb) ∧ Fld Z h pr0 "com/example/kalends/kalends/engine/LongList" "size" "I" (.int (2 : Int32)) ∧ Fld Z h pr0 "com/example/kalends/kalends/engine/LongList" "run" "Z" (.int (0 : Int32)) ∧ Fld Z h pr0 "com/example/kalends/kalends/engine/LongList" "runFirst" "J" (.long wf) ∧ Fld Z h pr0 "com/example/kalends/kalends/engine/LongList" "runStep" "J" (.long wst) ∧ Arv Z h bb kb .long (8 : Int32) [(.long (wf + ((0 : Int64) * wst))), (.long (wf + ((1 : Int64) * wst))), (.long (0 : Int64)), (.long (0 : Int64)), (.long (0 : Int64)), (.long (0 : Int64)), (.long (0 : Int64)), (.long (0 : Int64))] (.long (0 : Int64))
set_option maxRecDepth 65536 in
set_option maxHeartbeats 40000000 in
theorem own_keep2 (l : Launch) (Z : State) (a0 : Array Value) (hw : ∀ d ∈ tables_1, d.before a0 Z = true) (ws : List Jvm.Cond) (pr0 : Addr) (nn : Addr) (ka : ClassId) (wf : Int64) (wst : Int64) (h0 : Heap) (n0 : Nat) (Z0 : n0 ≤ h0.size) (P0 : Exa Z h0 pr0 "com/example/kalends/kalends/engine/LongList") (P1 : Fld Z h0 pr0 "com/example/kalends/kalends/engine/LongList" "values" "[J" (.ref nn)) (P2 : Fld Z h0 pr0 "com/example/kalends/kalends/engine/LongList" "size" "I" (.int (2 : Int32))) (P3 : Fld Z h0 pr0 "com/example/kalends/kalends/engine/LongList" "run" "Z" (.int (1 : Int32))) (P4 : Fld Z h0 pr0 "com/example/kalends/kalends/engine/LongList" "runFirst" "J" (.long wf)) (P5 : Fld Z h0 pr0 "com/example/kalends/kalends/engine/LongList" "runStep" "J" (.long wst)) (P6 : Arv Z h0 nn ka .long (0 : Int32) [] (.long (0 : Int64))) (P7 : nn ≠ pr0) (P8 : n0 ≤ pr0) :
    MetFree l (⟨"com/example/kalends/kalends/engine/LongList", "keepRun", "()V"⟩ : MethodName) (head1 (Jvm.Cond.code (⟨"com/example/kalends/kalends/engine/LongList", "keepRun", "()V"⟩ : MethodName) prog_9_method_9_code 2 none :: ws) ({ frames := 1, cells := 1, slots := 8, locals := 14 } : Room)) (fun a U => a = #[(.ref pr0)] ∧ Z.Warmed39 U.vm ∧ U.heap = h0) (fun _ _ _ _ _ => True) (fun _ U o U' => ∃ v L, o = .returned v ∧ Q_own_keep2 Z pr0 nn ka wf wst h0 n0 v U'.heap L ∧ FrameEnd U o U' L ({ frames := 1, cells := 1, slots := 8, locals := 14 } : Room).cells ({ frames := 1, cells := 1, slots := 8, locals := 14 } : Room).slots) := by
  refine MetFree.of_bodySF (plainFor_of_name pn_4) hisR ?_
  intro p e s m args below meth c s₁ Bd hml0 hP hK
  obtain ⟨rfl, hZ, hh⟩ := hP
  have hx := Bd.exec
  have hby := Bd.bytes
  have hml : c.maxLocals = 2 := hml0
  have hown : s.vm.findClass "com/example/kalends/kalends/engine/LongList" = some m.cls := findClass_of_methodNamed Bd.named
  have hnm := (name_of_methodNamed Bd.named Bd.method).1
  have X0 : Stand p l e ({ frames := 1, cells := 1, slots := 8, locals := 14 } : Room) s m #[(.ref pr0)] below meth c s₁ [] 0 0 := Stand.of_body Bd
  have e0 : s₁.heap = h0 := by rw [← hh, Bd.state]; rfl
  have N0 := Fr.nil n0
  have go0 : ∀ t, Steps p.tables e below (s₁.setTop (mkF m 0 #[.val (.ref pr0), .unset] [])) t → Steps p.tables e below (s₁.setTop (entryFrame m #[(.ref pr0)] 2)) t := fun t k => castTop (ef_own_keep2 m pr0) k
  revert go0
  generalize s₁.setTop (entryFrame m #[(.ref pr0)] 2) = st0
  intro go0
  obtain ⟨T1, X1, e1, st1⟩ := getF X0 hx hZ hown (host := "") (Or.inl (hw _ (List.mem_of_getElem? (i := 11) rfl))) Via.refl e0 P1 (g := (mkF m 1 #[.val (.ref pr0), .unset] [(.ref pr0)])) rfl rfl (hb hby d10_1)
  obtain ⟨cl2, Ar2, q2, S2, N2, H2, G2⟩ := id P6
  obtain ⟨T3, X3, e3, st3⟩ := getF X1 hx hZ hown (host := "") (Or.inl (hw _ (List.mem_of_getElem? (i := 18) rfl))) Via.refl e1 P2 (g := (mkF m 6 #[.val (.ref pr0), .unset] [(.ref pr0), (.int (0 : Int32))])) rfl rfl (hb hby d10_6)
  obtain ⟨T4, X4, e4, st4⟩ := getF X3 hx hZ hown (host := "") (Or.inl (hw _ (List.mem_of_getElem? (i := 18) rfl))) Via.refl e3 P2 (g := (mkF m 17 #[.val (.ref pr0), .unset] [(.ref pr0), (.int (2 : Int32)), (.int (8 : Int32)), (.ref pr0)])) rfl rfl (hb hby d10_17)
  obtain ⟨_, _, ⟨T5, L5, k5, n5⟩, -, X5, ⟨Lc5, hQ5, l5, y5, z5⟩, st5⟩ := Jvm.LawKit.callS X4 hx (y := (⟨"java/lang/Math", "max", "(II)I"⟩ : MethodName)) hown (mvT hZ (hw _ (List.mem_of_getElem? (i := 40) rfl))) (mvT hZ (hw _ (List.mem_of_getElem? (i := 41) rfl))) (mvT hZ (hw _ (List.mem_of_getElem? (i := 42) rfl))) (mvT hZ (hw _ (List.mem_of_getElem? (i := 43) rfl))) (by decide) (backOf (W := 1) (own_max_f l Z a0 hw [] (8 : Int32) (4 : Int32) h0 n0 Z0 (by decide : ¬ ((8 : Int32) < (4 : Int32)))) hZ (hw _ (List.mem_of_getElem? (i := 43) rfl)) (hw _ (List.mem_of_getElem? (i := 42) rfl)) (by decide) (by decide)) (g := (mkF m 21 #[.val (.ref pr0), .unset] [(.int (4 : Int32)), (.int (8 : Int32)), (.ref pr0)])) rfl (by rw [hml]; rfl) (argsL := [(.int (8 : Int32)), (.int (4 : Int32))]) (rest := [(.ref pr0)]) (lenOf pd_8 rfl) rfl (by show 2 * 0 + _ ≤ _; exact Nat.le_of_eq rfl) (hb hby d10_21) (fun _ _ => ⟨rfl, e4, (by decide : 0 + 0 ≤ _), (by decide : 0 + 0 ≤ _)⟩)
  dsimp only [Pt.U, Pt.locs, Pt.cells, Pt.slots] at X5 l5 y5 z5 st5 hQ5
  subst l5 y5 z5
  obtain ⟨rfl, Nq5, e5⟩ := hQ5
  have N5 := Fr.app N0 Nq5
  obtain ⟨T6, h6, k6, X6, e6, E6, A6, st6⟩ := newP X5 hx hZ (hw _ (List.mem_of_getElem? (i := 48) rfl)) e5 (g := (mkF m 24 #[.val (.ref pr0), .unset] [(.int (8 : Int32)), (.ref pr0)])) rfl (hb hby d10_24) rfl (by decide) (cap := 8) (by decide) (by decide) (by decide) (by decide)
  obtain ⟨b6, g6⟩ : ∃ z, z = h0.size := ⟨_, rfl⟩
  rw [← g6] at A6 st6
  have ne6_nn : nn ≠ b6 := Nat.ne_of_lt (Nat.lt_of_lt_of_eq P6.lt g6.symm)
  have ne6_pr0 : pr0 ≠ b6 := Nat.ne_of_lt (Nat.lt_of_lt_of_eq P0.lt g6.symm)
  have ge6 : n0 ≤ b6 := Nat.le_trans Z0 (Nat.le_of_eq g6.symm)
  have sz6 : h0.size ≤ b6 := Nat.le_trans (Keep.refl h0 ([pr0] : List Addr)).1 (Nat.le_of_eq g6.symm)
  have Z6 : n0 ≤ h6.size := Nat.le_trans Z0 E6.1
  have K6 : Keep h0 h6 ([pr0] : List Addr) := (Keep.refl h0 ([pr0] : List Addr)).ext E6
  have V6 : Arv Z h6 b6 k6 .long (8 : Int32) [(.long (0 : Int64)), (.long (0 : Int64)), (.long (0 : Int64)), (.long (0 : Int64)), (.long (0 : Int64)), (.long (0 : Int64)), (.long (0 : Int64)), (.long (0 : Int64))] (.long (0 : Int64)) := (Arv.new A6 (by decide)).pad (pad_rep [] (.long (0 : Int64)) 8)
  have f7 : Fld Z h6 pr0 "com/example/kalends/kalends/engine/LongList" "values" "[J" (.ref nn) := (P1.ext E6)
  have f8 : Exa Z h6 pr0 "com/example/kalends/kalends/engine/LongList" := (P0.ext E6)
  obtain ⟨T9, h9, X9, e9, W9, st9⟩ := putF X6 hx hZ hown (host := "") (Or.inl (hw _ (List.mem_of_getElem? (i := 11) rfl))) Via.refl e6 f7 f8 (Or.inl (hw _ (List.mem_of_getElem? (i := 12) rfl))) (hw _ (List.mem_of_getElem? (i := 1) rfl)) (ty := (.array .long)) (by decide) rfl rfl (g := (mkF m 26 #[.val (.ref pr0), .unset] [(.ref b6), (.ref pr0)])) rfl rfl (hb hby d10_26)
  have K9 : Keep h0 h9 ([pr0] : List Addr) := K6.wr W9 (Or.inl (List.mem_of_getElem? (i := 0) rfl))
  have N9 := Fr.snoc X9 N5 P8
  have Z9 : n0 ≤ h9.size := Nat.le_trans Z6 (Keep.of_wr W9).1
  have Fw9 := f7.same W9
  have f10 : Fld Z h9 pr0 "com/example/kalends/kalends/engine/LongList" "size" "I" (.int (2 : Int32)) := ((P2.ext E6).other W9 (Or.inr (slot_ne (Or.inl (hw _ (List.mem_of_getElem? (i := 19) rfl))) (Or.inl (hw _ (List.mem_of_getElem? (i := 12) rfl))) (by decide) (t := .int) (t' := (.array .long)) (by decide) (by decide))))
  obtain ⟨T11, X11, e11, st11⟩ := getF X9 hx hZ hown (host := "") (Or.inl (hw _ (List.mem_of_getElem? (i := 18) rfl))) Via.refl e9 f10 (g := (mkF m 33 #[.val (.ref pr0), .val (.int (0 : Int32))] [(.ref pr0), (.int (0 : Int32))])) rfl rfl (hb hby d10_33)
  obtain ⟨T12, X12, e12, st12⟩ := getF X11 hx hZ hown (host := "") (Or.inl (hw _ (List.mem_of_getElem? (i := 11) rfl))) Via.refl e11 Fw9 (g := (mkF m 40 #[.val (.ref pr0), .val (.int (0 : Int32))] [(.ref pr0)])) rfl rfl (hb hby d10_40)
  have f13 : Fld Z h9 pr0 "com/example/kalends/kalends/engine/LongList" "runFirst" "J" (.long wf) := ((P4.ext E6).other W9 (Or.inr (slot_ne (Or.inl (hw _ (List.mem_of_getElem? (i := 28) rfl))) (Or.inl (hw _ (List.mem_of_getElem? (i := 12) rfl))) (by decide) (t := .long) (t' := (.array .long)) (by decide) (by decide))))
  obtain ⟨T14, X14, e14, st14⟩ := getF X12 hx hZ hown (host := "") (Or.inl (hw _ (List.mem_of_getElem? (i := 27) rfl))) Via.refl e12 f13 (g := (mkF m 45 #[.val (.ref pr0), .val (.int (0 : Int32))] [(.ref pr0), (.int (0 : Int32)), (.ref b6)])) rfl rfl (hb hby d10_45)
  have f15 : Fld Z h9 pr0 "com/example/kalends/kalends/engine/LongList" "runStep" "J" (.long wst) := ((P5.ext E6).other W9 (Or.inr (slot_ne (Or.inl (hw _ (List.mem_of_getElem? (i := 30) rfl))) (Or.inl (hw _ (List.mem_of_getElem? (i := 12) rfl))) (by decide) (t := .long) (t' := (.array .long)) (by decide) (by decide))))
  obtain ⟨T16, X16, e16, st16⟩ := getF X14 hx hZ hown (host := "") (Or.inl (hw _ (List.mem_of_getElem? (i := 29) rfl))) Via.refl e14 f15 (g := (mkF m 51 #[.val (.ref pr0), .val (.int (0 : Int32))] [(.ref pr0), (.long (0 : Int64)), (.long wf), (.int (0 : Int32)), (.ref b6)])) rfl rfl (hb hby d10_51)
  have f17 : Arv Z h9 b6 k6 .long (8 : Int32) [(.long (0 : Int64)), (.long (0 : Int64)), (.long (0 : Int64)), (.long (0 : Int64)), (.long (0 : Int64)), (.long (0 : Int64)), (.long (0 : Int64)), (.long (0 : Int64))] (.long (0 : Int64)) := (V6.other W9 (Ne.symm ne6_pr0))
  obtain ⟨cl18, Ar18, q18, S18, N18, H18, G18⟩ := id f17
  have hin18 : ¬ ((0 : Int32) < 0 ∨ cl18.slots.size ≤ ((0 : Int32)).toNatClampNeg) := inb_of S18 ⟨by decide, by decide⟩
  obtain ⟨T19, h19, X19, e19, W19, st19⟩ := stJ X16 hx hZ e16 Ar18 (j := (0 : Int32)) hin18 (g := (mkF m 56 #[.val (.ref pr0), .val (.int (0 : Int32))] [(.long (wf + ((0 : Int64) * wst))), (.int (0 : Int32)), (.ref b6)])) rfl rfl (hb hby d10_56)
  have K19 : Keep h0 h19 ([pr0] : List Addr) := K9.wr W19 (Or.inr sz6)
  have N19 := Fr.snoc X19 N9 ge6
  have Z19 : n0 ≤ h19.size := Nat.le_trans Z9 (Keep.of_wr W19).1
  have V19 : Arv Z h19 b6 k6 .long (8 : Int32) [(.long (wf + ((0 : Int64) * wst))), (.long (0 : Int64)), (.long (0 : Int64)), (.long (0 : Int64)), (.long (0 : Int64)), (.long (0 : Int64)), (.long (0 : Int64)), (.long (0 : Int64))] (.long (0 : Int64)) := Arv.set Ar18 q18 S18 N18 H18 G18 rfl W19 0 rfl (Nat.le_of_ble_eq_true rfl)
  have f20 : Fld Z h19 pr0 "com/example/kalends/kalends/engine/LongList" "size" "I" (.int (2 : Int32)) := (f10.other W19 (Or.inl ne6_pr0))
  obtain ⟨T21, X21, e21, st21⟩ := getF X19 hx hZ hown (host := "") (Or.inl (hw _ (List.mem_of_getElem? (i := 18) rfl))) Via.refl e19 f20 (g := (mkF m 33 #[.val (.ref pr0), .val (.int (1 : Int32))] [(.ref pr0), (.int (1 : Int32))])) rfl rfl (hb hby d10_33)
  have f22 : Fld Z h19 pr0 "com/example/kalends/kalends/engine/LongList" "values" "[J" (.ref b6) := (Fw9.other W19 (Or.inl ne6_pr0))
  obtain ⟨T23, X23, e23, st23⟩ := getF X21 hx hZ hown (host := "") (Or.inl (hw _ (List.mem_of_getElem? (i := 11) rfl))) Via.refl e21 f22 (g := (mkF m 40 #[.val (.ref pr0), .val (.int (1 : Int32))] [(.ref pr0)])) rfl rfl (hb hby d10_40)
  have f24 : Fld Z h19 pr0 "com/example/kalends/kalends/engine/LongList" "runFirst" "J" (.long wf) := (f13.other W19 (Or.inl ne6_pr0))
  obtain ⟨T25, X25, e25, st25⟩ := getF X23 hx hZ hown (host := "") (Or.inl (hw _ (List.mem_of_getElem? (i := 27) rfl))) Via.refl e23 f24 (g := (mkF m 45 #[.val (.ref pr0), .val (.int (1 : Int32))] [(.ref pr0), (.int (1 : Int32)), (.ref b6)])) rfl rfl (hb hby d10_45)
  have f26 : Fld Z h19 pr0 "com/example/kalends/kalends/engine/LongList" "runStep" "J" (.long wst) := (f15.other W19 (Or.inl ne6_pr0))
  obtain ⟨T27, X27, e27, st27⟩ := getF X25 hx hZ hown (host := "") (Or.inl (hw _ (List.mem_of_getElem? (i := 29) rfl))) Via.refl e25 f26 (g := (mkF m 51 #[.val (.ref pr0), .val (.int (1 : Int32))] [(.ref pr0), (.long (1 : Int64)), (.long wf), (.int (1 : Int32)), (.ref b6)])) rfl rfl (hb hby d10_51)
  obtain ⟨cl28, Ar28, q28, S28, N28, H28, G28⟩ := id V19
  have hin28 : ¬ ((1 : Int32) < 0 ∨ cl28.slots.size ≤ ((1 : Int32)).toNatClampNeg) := inb_of S28 ⟨by decide, by decide⟩
  obtain ⟨T29, h29, X29, e29, W29, st29⟩ := stJ X27 hx hZ e27 Ar28 (j := (1 : Int32)) hin28 (g := (mkF m 56 #[.val (.ref pr0), .val (.int (1 : Int32))] [(.long (wf + ((1 : Int64) * wst))), (.int (1 : Int32)), (.ref b6)])) rfl rfl (hb hby d10_56)
  have K29 : Keep h0 h29 ([pr0] : List Addr) := K19.wr W29 (Or.inr sz6)
  have N29 := Fr.snoc X29 N19 ge6
  have Z29 : n0 ≤ h29.size := Nat.le_trans Z19 (Keep.of_wr W29).1
  have V29 : Arv Z h29 b6 k6 .long (8 : Int32) [(.long (wf + ((0 : Int64) * wst))), (.long (wf + ((1 : Int64) * wst))), (.long (0 : Int64)), (.long (0 : Int64)), (.long (0 : Int64)), (.long (0 : Int64)), (.long (0 : Int64)), (.long (0 : Int64))] (.long (0 : Int64)) := Arv.set Ar28 q28 S28 N28 H28 G28 rfl W29 1 rfl (Nat.le_of_ble_eq_true rfl)
  have f30 : Fld Z h29 pr0 "com/example/kalends/kalends/engine/LongList" "size" "I" (.int (2 : Int32)) := (f20.other W29 (Or.inl ne6_pr0))
  obtain ⟨T31, X31, e31, st31⟩ := getF X29 hx hZ hown (host := "") (Or.inl (hw _ (List.mem_of_getElem? (i := 18) rfl))) Via.refl e29 f30 (g := (mkF m 33 #[.val (.ref pr0), .val (.int (2 : Int32))] [(.ref pr0), (.int (2 : Int32))])) rfl rfl (hb hby d10_33)
  have f32 : Fld Z h29 pr0 "com/example/kalends/kalends/engine/LongList" "run" "Z" (.int (1 : Int32)) := ((((P3.ext E6).other W9 (Or.inr (slot_ne (Or.inl (hw _ (List.mem_of_getElem? (i := 26) rfl))) (Or.inl (hw _ (List.mem_of_getElem? (i := 12) rfl))) (by decide) (t := .boolean) (t' := (.array .long)) (by decide) (by decide)))).other W19 (Or.inl ne6_pr0)).other W29 (Or.inl ne6_pr0))
  have f33 : Exa Z h29 pr0 "com/example/kalends/kalends/engine/LongList" := (((f8.wr W9).wr W19).wr W29)
  obtain ⟨T34, h34, X34, e34, W34, st34⟩ := putFN X31 hx hZ hown (hw _ (List.mem_of_getElem? (i := 25) rfl)) Via.refl e31 f32 f33 (Or.inl (hw _ (List.mem_of_getElem? (i := 26) rfl))) (hw _ (List.mem_of_getElem? (i := 1) rfl)) (ty := .boolean) (v' := (.int (0 : Int32))) (by decide) rfl rfl (g := (mkF m 65 #[.val (.ref pr0), .val (.int (2 : Int32))] [(.int (0 : Int32)), (.ref pr0)])) rfl rfl (hb hby d10_65)
  have K34 : Keep h0 h34 ([pr0] : List Addr) := K29.wr W34 (Or.inl (List.mem_of_getElem? (i := 0) rfl))
  have N34 := Fr.snoc X34 N29 P8
  have Z34 : n0 ≤ h34.size := Nat.le_trans Z29 (Keep.of_wr W34).1
  have Fw34 := f32.same W34
  have go35 : ∀ t, Steps p.tables e below (T34.setTop (mkF m 68 #[.val (.ref pr0), .val (.int (2 : Int32))] [])) t → Steps p.tables e below st0 t := by
    intro t kt
    refine go0 t ?_
    refine XS.aloadN X0.here hx rfl (hb hby d10_0) rfl rfl ?_
    show Steps p.tables e below (s₁.setTop (mkF m 1 #[.val (.ref pr0), .unset] [(.ref pr0)])) _
    refine st1 _ ?_
    show Steps p.tables e below (T1.setTop (mkF m 4 #[.val (.ref pr0), .unset] [(.ref nn)])) _
    refine X1.arraylength hx (by rw [e1]; exact Ar2.1) (State.isArrayOf_alike hZ.alike Ar2.2.1) (g := (mkF m 4 #[.val (.ref pr0), .unset] [(.ref nn)])) rfl rfl (hb hby d10_4) _ ?_
    rw [len_of S2 N2]
    show Steps p.tables e below (T1.setTop (mkF m 5 #[.val (.ref pr0), .unset] [(.int (0 : Int32))])) _
    refine XS.aloadN X1.here hx rfl (hb hby d10_5) rfl rfl ?_
    show Steps p.tables e below (T1.setTop (mkF m 6 #[.val (.ref pr0), .unset] [(.ref pr0), (.int (0 : Int32))])) _
    refine st3 _ ?_
    show Steps p.tables e below (T3.setTop (mkF m 9 #[.val (.ref pr0), .unset] [(.int (2 : Int32)), (.int (0 : Int32))])) _
    refine XS.icmpNo X3.here hx rfl (hb hby d10_9) rfl (tlt (by decide : (0 : Int32) < (2 : Int32))).2.1 ?_
    show Steps p.tables e below (T3.setTop (mkF m 12 #[.val (.ref pr0), .unset] [])) _
    refine XS.aloadN X3.here hx rfl (hb hby d10_12) rfl rfl ?_
    show Steps p.tables e below (T3.setTop (mkF m 13 #[.val (.ref pr0), .unset] [(.ref pr0)])) _
    refine XS.bipush X3.here hx rfl (hb hby d10_13) ?_
    show Steps p.tables e below (T3.setTop (mkF m 15 #[.val (.ref pr0), .unset] [(.int (8 : Int32)), (.ref pr0)])) _
    refine XS.iconst X3.here hx rfl (hb hby d10_15) ?_
    show Steps p.tables e below (T3.setTop (mkF m 16 #[.val (.ref pr0), .unset] [(.int (2 : Int32)), (.int (8 : Int32)), (.ref pr0)])) _
    refine XS.aloadN X3.here hx rfl (hb hby d10_16) rfl rfl ?_
    show Steps p.tables e below (T3.setTop (mkF m 17 #[.val (.ref pr0), .unset] [(.ref pr0), (.int (2 : Int32)), (.int (8 : Int32)), (.ref pr0)])) _
    refine st4 _ ?_
    show Steps p.tables e below (T4.setTop (mkF m 20 #[.val (.ref pr0), .unset] [(.int (2 : Int32)), (.int (2 : Int32)), (.int (8 : Int32)), (.ref pr0)])) _
    refine XS.imul X4.here hx rfl (hb hby d10_20) rfl ?_
    show Steps p.tables e below (T4.setTop (mkF m 21 #[.val (.ref pr0), .unset] [(.int (4 : Int32)), (.int (8 : Int32)), (.ref pr0)])) _
    refine st5 _ ?_
    show Steps p.tables e below (T5.setTop (mkF m 24 #[.val (.ref pr0), .unset] [(.int (8 : Int32)), (.ref pr0)])) _
    refine st6 _ ?_
    show Steps p.tables e below (T6.setTop (mkF m 26 #[.val (.ref pr0), .unset] [(.ref b6), (.ref pr0)])) _
    refine st9 _ ?_
    show Steps p.tables e below (T9.setTop (mkF m 29 #[.val (.ref pr0), .unset] [])) _
    refine XS.iconst X9.here hx rfl (hb hby d10_29) ?_
    show Steps p.tables e below (T9.setTop (mkF m 30 #[.val (.ref pr0), .unset] [(.int (0 : Int32))])) _
    refine XS.istoreN X9.here hx rfl (hb hby d10_30) rfl (l' := #[.val (.ref pr0), .val (.int (0 : Int32))]) rfl ?_
    show Steps p.tables e below (T9.setTop (mkF m 31 #[.val (.ref pr0), .val (.int (0 : Int32))] [])) _
    refine XS.iloadN X9.here hx rfl (hb hby d10_31) rfl ?_
    show Steps p.tables e below (T9.setTop (mkF m 32 #[.val (.ref pr0), .val (.int (0 : Int32))] [(.int (0 : Int32))])) _
    refine XS.aloadN X9.here hx rfl (hb hby d10_32) rfl rfl ?_
    show Steps p.tables e below (T9.setTop (mkF m 33 #[.val (.ref pr0), .val (.int (0 : Int32))] [(.ref pr0), (.int (0 : Int32))])) _
    refine st11 _ ?_
    show Steps p.tables e below (T11.setTop (mkF m 36 #[.val (.ref pr0), .val (.int (0 : Int32))] [(.int (2 : Int32)), (.int (0 : Int32))])) _
    refine XS.icmpNo X11.here hx rfl (hb hby d10_36) rfl (tlt (by decide : (0 : Int32) < (2 : Int32))).2.1 ?_
    show Steps p.tables e below (T11.setTop (mkF m 39 #[.val (.ref pr0), .val (.int (0 : Int32))] [])) _
    refine XS.aloadN X11.here hx rfl (hb hby d10_39) rfl rfl ?_
    show Steps p.tables e below (T11.setTop (mkF m 40 #[.val (.ref pr0), .val (.int (0 : Int32))] [(.ref pr0)])) _
    refine st12 _ ?_
    show Steps p.tables e below (T12.setTop (mkF m 43 #[.val (.ref pr0), .val (.int (0 : Int32))] [(.ref b6)])) _
    refine XS.iloadN X12.here hx rfl (hb hby d10_43) rfl ?_
    show Steps p.tables e below (T12.setTop (mkF m 44 #[.val (.ref pr0), .val (.int (0 : Int32))] [(.int (0 : Int32)), (.ref b6)])) _
    refine XS.aloadN X12.here hx rfl (hb hby d10_44) rfl rfl ?_
    show Steps p.tables e below (T12.setTop (mkF m 45 #[.val (.ref pr0), .val (.int (0 : Int32))] [(.ref pr0), (.int (0 : Int32)), (.ref b6)])) _
    refine st14 _ ?_
    show Steps p.tables e below (T14.setTop (mkF m 48 #[.val (.ref pr0), .val (.int (0 : Int32))] [(.long wf), (.int (0 : Int32)), (.ref b6)])) _
    refine XS.iloadN X14.here hx rfl (hb hby d10_48) rfl ?_
    show Steps p.tables e below (T14.setTop (mkF m 49 #[.val (.ref pr0), .val (.int (0 : Int32))] [(.int (0 : Int32)), (.long wf), (.int (0 : Int32)), (.ref b6)])) _
    refine XS.i2l X14.here hx rfl (hb hby d10_49) rfl ?_
    show Steps p.tables e below (T14.setTop (mkF m 50 #[.val (.ref pr0), .val (.int (0 : Int32))] [(.long (0 : Int64)), (.long wf), (.int (0 : Int32)), (.ref b6)])) _
    refine XS.aloadN X14.here hx rfl (hb hby d10_50) rfl rfl ?_
    show Steps p.tables e below (T14.setTop (mkF m 51 #[.val (.ref pr0), .val (.int (0 : Int32))] [(.ref pr0), (.long (0 : Int64)), (.long wf), (.int (0 : Int32)), (.ref b6)])) _
    refine st16 _ ?_
    show Steps p.tables e below (T16.setTop (mkF m 54 #[.val (.ref pr0), .val (.int (0 : Int32))] [(.long wst), (.long (0 : Int64)), (.long wf), (.int (0 : Int32)), (.ref b6)])) _
    refine XS.lmul X16.here hx rfl (hb hby d10_54) rfl ?_
    show Steps p.tables e below (T16.setTop (mkF m 55 #[.val (.ref pr0), .val (.int (0 : Int32))] [(.long ((0 : Int64) * wst)), (.long wf), (.int (0 : Int32)), (.ref b6)])) _
    refine XS.ladd X16.here hx rfl (hb hby d10_55) rfl ?_
    show Steps p.tables e below (T16.setTop (mkF m 56 #[.val (.ref pr0), .val (.int (0 : Int32))] [(.long (wf + ((0 : Int64) * wst))), (.int (0 : Int32)), (.ref b6)])) _
    refine st19 _ ?_
    show Steps p.tables e below (T19.setTop (mkF m 57 #[.val (.ref pr0), .val (.int (0 : Int32))] [])) _
    refine XS.iinc X19.here hx rfl (hb hby d10_57) rfl (l' := #[.val (.ref pr0), .val (.int (1 : Int32))]) rfl ?_
    show Steps p.tables e below (T19.setTop (mkF m 60 #[.val (.ref pr0), .val (.int (1 : Int32))] [])) _
    refine XS.goto X19.here hx rfl (pc0 := 60) (pc' := 31) rfl (hb hby d10_60) (by decide) (by decide) ?_
    show Steps p.tables e below (T19.setTop (mkF m 31 #[.val (.ref pr0), .val (.int (1 : Int32))] [])) _
    refine XS.iloadN X19.here hx rfl (hb hby d10_31) rfl ?_
    show Steps p.tables e below (T19.setTop (mkF m 32 #[.val (.ref pr0), .val (.int (1 : Int32))] [(.int (1 : Int32))])) _
    refine XS.aloadN X19.here hx rfl (hb hby d10_32) rfl rfl ?_
    show Steps p.tables e below (T19.setTop (mkF m 33 #[.val (.ref pr0), .val (.int (1 : Int32))] [(.ref pr0), (.int (1 : Int32))])) _
    refine st21 _ ?_
    show Steps p.tables e below (T21.setTop (mkF m 36 #[.val (.ref pr0), .val (.int (1 : Int32))] [(.int (2 : Int32)), (.int (1 : Int32))])) _
    refine XS.icmpNo X21.here hx rfl (hb hby d10_36) rfl (tlt (by decide : (1 : Int32) < (2 : Int32))).2.1 ?_
    show Steps p.tables e below (T21.setTop (mkF m 39 #[.val (.ref pr0), .val (.int (1 : Int32))] [])) _
    refine XS.aloadN X21.here hx rfl (hb hby d10_39) rfl rfl ?_
    show Steps p.tables e below (T21.setTop (mkF m 40 #[.val (.ref pr0), .val (.int (1 : Int32))] [(.ref pr0)])) _
    refine st23 _ ?_
    show Steps p.tables e below (T23.setTop (mkF m 43 #[.val (.ref pr0), .val (.int (1 : Int32))] [(.ref b6)])) _
    refine XS.iloadN X23.here hx rfl (hb hby d10_43) rfl ?_
    show Steps p.tables e below (T23.setTop (mkF m 44 #[.val (.ref pr0), .val (.int (1 : Int32))] [(.int (1 : Int32)), (.ref b6)])) _
    refine XS.aloadN X23.here hx rfl (hb hby d10_44) rfl rfl ?_
    show Steps p.tables e below (T23.setTop (mkF m 45 #[.val (.ref pr0), .val (.int (1 : Int32))] [(.ref pr0), (.int (1 : Int32)), (.ref b6)])) _
    refine st25 _ ?_
    show Steps p.tables e below (T25.setTop (mkF m 48 #[.val (.ref pr0), .val (.int (1 : Int32))] [(.long wf), (.int (1 : Int32)), (.ref b6)])) _
    refine XS.iloadN X25.here hx rfl (hb hby d10_48) rfl ?_
    show Steps p.tables e below (T25.setTop (mkF m 49 #[.val (.ref pr0), .val (.int (1 : Int32))] [(.int (1 : Int32)), (.long wf), (.int (1 : Int32)), (.ref b6)])) _
    refine XS.i2l X25.here hx rfl (hb hby d10_49) rfl ?_
    show Steps p.tables e below (T25.setTop (mkF m 50 #[.val (.ref pr0), .val (.int (1 : Int32))] [(.long (1 : Int64)), (.long wf), (.int (1 : Int32)), (.ref b6)])) _
    refine XS.aloadN X25.here hx rfl (hb hby d10_50) rfl rfl ?_
    show Steps p.tables e below (T25.setTop (mkF m 51 #[.val (.ref pr0), .val (.int (1 : Int32))] [(.ref pr0), (.long (1 : Int64)), (.long wf), (.int (1 : Int32)), (.ref b6)])) _
    refine st27 _ ?_
    show Steps p.tables e below (T27.setTop (mkF m 54 #[.val (.ref pr0), .val (.int (1 : Int32))] [(.long wst), (.long (1 : Int64)), (.long wf), (.int (1 : Int32)), (.ref b6)])) _
    refine XS.lmul X27.here hx rfl (hb hby d10_54) rfl ?_
    show Steps p.tables e below (T27.setTop (mkF m 55 #[.val (.ref pr0), .val (.int (1 : Int32))] [(.long ((1 : Int64) * wst)), (.long wf), (.int (1 : Int32)), (.ref b6)])) _
    refine XS.ladd X27.here hx rfl (hb hby d10_55) rfl ?_
    show Steps p.tables e below (T27.setTop (mkF m 56 #[.val (.ref pr0), .val (.int (1 : Int32))] [(.long (wf + ((1 : Int64) * wst))), (.int (1 : Int32)), (.ref b6)])) _
    refine st29 _ ?_
    show Steps p.tables e below (T29.setTop (mkF m 57 #[.val (.ref pr0), .val (.int (1 : Int32))] [])) _
    refine XS.iinc X29.here hx rfl (hb hby d10_57) rfl (l' := #[.val (.ref pr0), .val (.int (2 : Int32))]) rfl ?_
    show Steps p.tables e below (T29.setTop (mkF m 60 #[.val (.ref pr0), .val (.int (2 : Int32))] [])) _
    refine XS.goto X29.here hx rfl (pc0 := 60) (pc' := 31) rfl (hb hby d10_60) (by decide) (by decide) ?_
    show Steps p.tables e below (T29.setTop (mkF m 31 #[.val (.ref pr0), .val (.int (2 : Int32))] [])) _
    refine XS.iloadN X29.here hx rfl (hb hby d10_31) rfl ?_
    show Steps p.tables e below (T29.setTop (mkF m 32 #[.val (.ref pr0), .val (.int (2 : Int32))] [(.int (2 : Int32))])) _
    refine XS.aloadN X29.here hx rfl (hb hby d10_32) rfl rfl ?_
    show Steps p.tables e below (T29.setTop (mkF m 33 #[.val (.ref pr0), .val (.int (2 : Int32))] [(.ref pr0), (.int (2 : Int32))])) _
    refine st31 _ ?_
    show Steps p.tables e below (T31.setTop (mkF m 36 #[.val (.ref pr0), .val (.int (2 : Int32))] [(.int (2 : Int32)), (.int (2 : Int32))])) _
    refine XS.icmpYes X31.here hx rfl (pc0 := 36) (pc' := 63) rfl (hb hby d10_36) rfl (flt (by decide : ¬ ((2 : Int32) < (2 : Int32)))).2.1 (by decide) (by decide) ?_
    show Steps p.tables e below (T31.setTop (mkF m 63 #[.val (.ref pr0), .val (.int (2 : Int32))] [])) _
    refine XS.aloadN X31.here hx rfl (hb hby d10_63) rfl rfl ?_
    show Steps p.tables e below (T31.setTop (mkF m 64 #[.val (.ref pr0), .val (.int (2 : Int32))] [(.ref pr0)])) _
    refine XS.iconst X31.here hx rfl (hb hby d10_64) ?_
    show Steps p.tables e below (T31.setTop (mkF m 65 #[.val (.ref pr0), .val (.int (2 : Int32))] [(.int (0 : Int32)), (.ref pr0)])) _
    refine st34 _ ?_
    show Steps p.tables e below (T34.setTop (mkF m 68 #[.val (.ref pr0), .val (.int (2 : Int32))] [])) _
    exact kt
  obtain ⟨fs, hr, hrun, hended, hW, hsame⟩ := X34.leave (v := none) (fun _ => rfl)
  refine ⟨_, _, go35 _ ?_, hrun, hended, _, _, rfl, ?_, ⟨_, rfl⟩, hW, hsame.mono (by decide) (by decide)⟩
  · exact X34.returnOut hx Bd.returns (hb hby d10_68) hr
  · show Q_own_keep2 Z pr0 nn ka wf wst h0 n0 _ T34.heap _
    rw [e34]
    have f36 : Exa Z h34 pr0 "com/example/kalends/kalends/engine/LongList" := (f33.wr W34)
    have f37 : Fld Z h34 pr0 "com/example/kalends/kalends/engine/LongList" "values" "[J" (.ref b6) := ((f22.other W29 (Or.inl ne6_pr0)).other W34 (Or.inr (slot_ne (Or.inl (hw _ (List.mem_of_getElem? (i := 12) rfl))) (Or.inl (hw _ (List.mem_of_getElem? (i := 26) rfl))) (by decide) (t := (.array .long)) (t' := .boolean) (by decide) (by decide))))
    have f38 : Fld Z h34 pr0 "com/example/kalends/kalends/engine/LongList" "size" "I" (.int (2 : Int32)) := (f30.other W34 (Or.inr (slot_ne (Or.inl (hw _ (List.mem_of_getElem? (i := 19) rfl))) (Or.inl (hw _ (List.mem_of_getElem? (i := 26) rfl))) (by decide) (t := .int) (t' := .boolean) (by decide) (by decide))))
    have f39 : Fld Z h34 pr0 "com/example/kalends/kalends/engine/LongList" "runFirst" "J" (.long wf) := ((f24.other W29 (Or.inl ne6_pr0)).other W34 (Or.inr (slot_ne (Or.inl (hw _ (List.mem_of_getElem? (i := 28) rfl))) (Or.inl (hw _ (List.mem_of_getElem? (i := 26) rfl))) (by decide) (t := .long) (t' := .boolean) (by decide) (by decide))))
    have f40 : Fld Z h34 pr0 "com/example/kalends/kalends/engine/LongList" "runStep" "J" (.long wst) := ((f26.other W29 (Or.inl ne6_pr0)).other W34 (Or.inr (slot_ne (Or.inl (hw _ (List.mem_of_getElem? (i := 30) rfl))) (Or.inl (hw _ (List.mem_of_getElem? (i := 26) rfl))) (by decide) (t := .long) (t' := .boolean) (by decide) (by decide))))
    have f41 : Arv Z h34 b6 k6 .long (8 : Int32) [(.long (wf + ((0 : Int64) * wst))), (.long (wf + ((1 : Int64) * wst))), (.long (0 : Int64)), (.long (0 : Int64)), (.long (0 : Int64)), (.long (0 : Int64)), (.long (0 : Int64)), (.long (0 : Int64))] (.long (0 : Int64)) := (V29.other W34 (Ne.symm ne6_pr0))
    exact ⟨N34, b6, k6, rfl, sz6, K34, f36, f37, f38, Fw34, f39, f40, f41⟩
theorem ef_own_keep3 (m : MethodId) (pr0 : Addr) : entryFrame m #[(.ref pr0)] 2 = mkF m 0 #[.val (.ref pr0), .unset] [] := by first | (simp [entryFrame, mkF, argsToLocals, Value.category]; done) | rfl
def Q_own_keep3 (Z : State) (pr0 : Addr) (nn : Addr) (ka : ClassId) (wf : Int64) (wst : Int64) (h0 : Heap) (n0 : Nat) (v : Option Value) (h : Heap) (L : List Loc) : Prop := Fr n0 L ∧ ∃ (bb : Addr) (kb : ClassId), v = none ∧ h0.size ≤ bb ∧ Keep h0 h ([pr0] : List Addr) ∧ Exa Z h pr0 "com/example/kalends/kalends/engine/LongList" ∧ Fld Z h pr0 "com/example/kalends/kalends/engine/LongList" "values" "[J" (.ref bb) ∧ Fld Z h pr0 "com/example/kalends/kalends/engine/LongList" "size" "I" (.int (3 : Int32)) ∧ Fld Z h pr0 "com/example/kalends/kalends/engine/LongList" "run" "Z" (.int (0 : Int32)) ∧ Fld Z h pr0 "com/example/kalends/kalends/engine/LongList" "runFirst" "J" (.long wf) ∧ Fld Z h pr0 "com/example/kalends/kalends/engine/LongList" "runStep" "J" (.long wst) ∧ Arv Z h bb kb .long (8 : Int32) [(.long (wf + ((0 : Int64) * wst))), (.long (wf + ((1 : Int64) * wst))), (.long (wf + ((2 : Int64) * wst))), (.long (0 : Int64)), (.long (0 : Int64)), (.long (0 : Int64)), (.long (0 : Int64)), (.long (0 : Int64))] (.long (0 : Int64))
set_option maxRecDepth 65536 in
set_option maxHeartbeats 40000000 in
theorem own_keep3 (l : Launch) (Z : State) (a0 : Array Value) (hw : ∀ d ∈ tables_1, d.before a0 Z = true) (ws : List Jvm.Cond) (pr0 : Addr) (nn : Addr) (ka : ClassId) (wf : Int64) (wst : Int64) (h0 : Heap) (n0 : Nat) (Z0 : n0 ≤ h0.size) (P0 : Exa Z h0 pr0 "com/example/kalends/kalends/engine/LongList") (P1 : Fld Z h0 pr0 "com/example/kalends/kalends/engine/LongList" "values" "[J" (.ref nn)) (P2 : Fld Z h0 pr0 "com/example/kalends/kalends/engine/LongList" "size" "I" (.int (3 : Int32))) (P3 : Fld Z h0 pr0 "com/example/kalends/kalends/engine/LongList" "run" "Z" (.int (1 : Int32))) (P4 : Fld Z h0 pr0 "com/example/kalends/kalends/engine/LongList" "runFirst" "J" (.long wf)) (P5 : Fld Z h0 pr0 "com/example/kalends/kalends/engine/LongList" "runStep" "J" (.long wst)) (P6 : Arv Z h0 nn ka .long (0 : Int32) [] (.long (0 : Int64))) (P7 : nn ≠ pr0) (P8 : n0 ≤ pr0) :
    MetFree l (⟨"com/example/kalends/kalends/engine/LongList", "keepRun", "()V"⟩ : MethodName) (head1 (Jvm.Cond.code (⟨"com/example/kalends/kalends/engine/LongList", "keepRun", "()V"⟩ : MethodName) prog_9_method_9_code 2 none :: ws) ({ frames := 1, cells := 1, slots := 8, locals := 14 } : Room)) (fun a U => a = #[(.ref pr0)] ∧ Z.Warmed39 U.vm ∧ U.heap = h0) (fun _ _ _ _ _ => True) (fun _ U o U' => ∃ v L, o = .returned v ∧ Q_own_keep3 Z pr0 nn ka wf wst h0 n0 v U'.heap L ∧ FrameEnd U o U' L ({ frames := 1, cells := 1, slots := 8, locals := 14 } : Room).cells ({ frames := 1, cells := 1, slots := 8, locals := 14 } : Room).slots) := by
  refine MetFree.of_bodySF (plainFor_of_name pn_4) hisR ?_
  intro p e s m args below meth c s₁ Bd hml0 hP hK
  obtain ⟨rfl, hZ, hh⟩ := hP
  have hx := Bd.exec
  have hby := Bd.bytes
  have hml : c.maxLocals = 2 := hml0
  have hown : s.vm.findClass "com/example/kalends/kalends/engine/LongList" = some m.cls := findClass_of_methodNamed Bd.named
  have hnm := (name_of_methodNamed Bd.named Bd.method).1
  have X0 : Stand p l e ({ frames := 1, cells := 1, slots := 8, locals := 14 } : Room) s m #[(.ref pr0)] below meth c s₁ [] 0 0 := Stand.of_body Bd
  have e0 : s₁.heap = h0 := by rw [← hh, Bd.state]; rfl
  have N0 := Fr.nil n0
  have go0 : ∀ t, Steps p.tables e below (s₁.setTop (mkF m 0 #[.val (.ref pr0), .unset] [])) t → Steps p.tables e below (s₁.setTop (entryFrame m #[(.ref pr0)] 2)) t := fun t k => castTop (ef_own_keep3 m pr0) k
  revert go0
  generalize s₁.setTop (entryFrame m #[(.ref pr0)] 2) = st0
  intro go0
  obtain ⟨T1, X1, e1, st1⟩ := getF X0 hx hZ hown (host := "") (Or.inl (hw _ (List.mem_of_getElem? (i := 11) rfl))) Via.refl e0 P1 (g := (mkF m 1 #[.val (.ref pr0), .unset] [(.ref pr0)])) rfl rfl (hb hby d10_1)
  obtain ⟨cl2, Ar2, q2, S2, N2, H2, G2⟩ := id P6
  obtain ⟨T3, X3, e3, st3⟩ := getF X1 hx hZ hown (host := "") (Or.inl (hw _ (List.mem_of_getElem? (i := 18) rfl))) Via.refl e1 P2 (g := (mkF m 6 #[.val (.ref pr0), .unset] [(.ref pr0), (.int (0 : Int32))])) rfl rfl (hb hby d10_6)
  obtain ⟨T4, X4, e4, st4⟩ := getF X3 hx hZ hown (host := "") (Or.inl (hw _ (List.mem_of_getElem? (i := 18) rfl))) Via.refl e3 P2 (g := (mkF m 17 #[.val (.ref pr0), .unset] [(.ref pr0), (.int (2 : Int32)), (.int (8 : Int32)), (.ref pr0)])) rfl rfl (hb hby d10_17)
  obtain ⟨_, _, ⟨T5, L5, k5, n5⟩, -, X5, ⟨Lc5, hQ5, l5, y5, z5⟩, st5⟩ := Jvm.LawKit.callS X4 hx (y := (⟨"java/lang/Math", "max", "(II)I"⟩ : MethodName)) hown (mvT hZ (hw _ (List.mem_of_getElem? (i := 40) rfl))) (mvT hZ (hw _ (List.mem_of_getElem? (i := 41) rfl))) (mvT hZ (hw _ (List.mem_of_getElem? (i := 42) rfl))) (mvT hZ (hw _ (List.mem_of_getElem? (i := 43) rfl))) (by decide) (backOf (W := 1) (own_max_f l Z a0 hw [] (8 : Int32) (6 : Int32) h0 n0 Z0 (by decide : ¬ ((8 : Int32) < (6 : Int32)))) hZ (hw _ (List.mem_of_getElem? (i := 43) rfl)) (hw _ (List.mem_of_getElem? (i := 42) rfl)) (by decide) (by decide)) (g := (mkF m 21 #[.val (.ref pr0), .unset] [(.int (6 : Int32)), (.int (8 : Int32)), (.ref pr0)])) rfl (by rw [hml]; rfl) (argsL := [(.int (8 : Int32)), (.int (6 : Int32))]) (rest := [(.ref pr0)]) (lenOf pd_8 rfl) rfl (by show 2 * 0 + _ ≤ _; exact Nat.le_of_eq rfl) (hb hby d10_21) (fun _ _ => ⟨rfl, e4, (by decide : 0 + 0 ≤ _), (by decide : 0 + 0 ≤ _)⟩)
  dsimp only [Pt.U, Pt.locs, Pt.cells, Pt.slots] at X5 l5 y5 z5 st5 hQ5
  subst l5 y5 z5
  obtain ⟨rfl, Nq5, e5⟩ := hQ5
  have N5 := Fr.app N0 Nq5
  obtain ⟨T6, h6, k6, X6, e6, E6, A6, st6⟩ := newP X5 hx hZ (hw _ (List.mem_of_getElem? (i := 48) rfl)) e5 (g := (mkF m 24 #[.val (.ref pr0), .unset] [(.int (8 : Int32)), (.ref pr0)])) rfl (hb hby d10_24) rfl (by decide) (cap := 8) (by decide) (by decide) (by decide) (by decide)
  obtain ⟨b6, g6⟩ : ∃ z, z = h0.size := ⟨_, rfl⟩
  rw [← g6] at A6 st6
  have ne6_nn : nn ≠ b6 := Nat.ne_of_lt (Nat.lt_of_lt_of_eq P6.lt g6.symm)
  have ne6_pr0 : pr0 ≠ b6 := Nat.ne_of_lt (Nat.lt_of_lt_of_eq P0.lt g6.symm)
  have ge6 : n0 ≤ b6 := Nat.le_trans Z0 (Nat.le_of_eq g6.symm)
  have sz6 : h0.size ≤ b6 := Nat.le_trans (Keep.refl h0 ([pr0] : List Addr)).1 (Nat.le_of_eq g6.symm)
  have Z6 : n0 ≤ h6.size := Nat.le_trans Z0 E6.1
  have K6 : Keep h0 h6 ([pr0] : List Addr) := (Keep.refl h0 ([pr0] : List Addr)).ext E6
  have V6 : Arv Z h6 b6 k6 .long (8 : Int32) [(.long (0 : Int64)), (.long (0 : Int64)), (.long (0 : Int64)), (.long (0 : Int64)), (.long (0 : Int64)), (.long (0 : Int64)), (.long (0 : Int64)), (.long (0 : Int64))] (.long (0 : Int64)) := (Arv.new A6 (by decide)).pad (pad_rep [] (.long (0 : Int64)) 8)
  have f7 : Fld Z h6 pr0 "com/example/kalends/kalends/engine/LongList" "values" "[J" (.ref nn) := (P1.ext E6)
  have f8 : Exa Z h6 pr0 "com/example/kalends/kalends/engine/LongList" := (P0.ext E6)
  obtain ⟨T9, h9, X9, e9, W9, st9⟩ := putF X6 hx hZ hown (host := "") (Or.inl (hw _ (List.mem_of_getElem? (i := 11) rfl))) Via.refl e6 f7 f8 (Or.inl (hw _ (List.mem_of_getElem? (i := 12) rfl))) (hw _ (List.mem_of_getElem? (i := 1) rfl)) (ty := (.array .long)) (by decide) rfl rfl (g := (mkF m 26 #[.val (.ref pr0), .unset] [(.ref b6), (.ref pr0)])) rfl rfl (hb hby d10_26)
  have K9 : Keep h0 h9 ([pr0] : List Addr) := K6.wr W9 (Or.inl (List.mem_of_getElem? (i := 0) rfl))
  have N9 := Fr.snoc X9 N5 P8
  have Z9 : n0 ≤ h9.size := Nat.le_trans Z6 (Keep.of_wr W9).1
  have Fw9 := f7.same W9
  have f10 : Fld Z h9 pr0 "com/example/kalends/kalends/engine/LongList" "size" "I" (.int (3 : Int32)) := ((P2.ext E6).other W9 (Or.inr (slot_ne (Or.inl (hw _ (List.mem_of_getElem? (i := 19) rfl))) (Or.inl (hw _ (List.mem_of_getElem? (i := 12) rfl))) (by decide) (t := .int) (t' := (.array .long)) (by decide) (by decide))))
  obtain ⟨T11, X11, e11, st11⟩ := getF X9 hx hZ hown (host := "") (Or.inl (hw _ (List.mem_of_getElem? (i := 18) rfl))) Via.refl e9 f10 (g := (mkF m 33 #[.val (.ref pr0), .val (.int (0 : Int32))] [(.ref pr0), (.int (0 : Int32))])) rfl rfl (hb hby d10_33)
  obtain ⟨T12, X12, e12, st12⟩ := getF X11 hx hZ hown (host := "") (Or.inl (hw _ (List.mem_of_getElem? (i := 11) rfl))) Via.refl e11 Fw9 (g := (mkF m 40 #[.val (.ref pr0), .val (.int (0 : Int32))] [(.ref pr0)])) rfl rfl (hb hby d10_40)
  have f13 : Fld Z h9 pr0 "com/example/kalends/kalends/engine/LongList" "runFirst" "J" (.long wf) := ((P4.ext E6).other W9 (Or.inr (slot_ne (Or.inl (hw _ (List.mem_of_getElem? (i := 28) rfl))) (Or.inl (hw _ (List.mem_of_getElem? (i := 12) rfl))) (by decide) (t := .long) (t' := (.array .long)) (by decide) (by decide))))
  obtain ⟨T14, X14, e14, st14⟩ := getF X12 hx hZ hown (host := "") (Or.inl (hw _ (List.mem_of_getElem? (i := 27) rfl))) Via.refl e12 f13 (g := (mkF m 45 #[.val (.ref pr0), .val (.int (0 : Int32))] [(.ref pr0), (.int (0 : Int32)), (.ref b6)])) rfl rfl (hb hby d10_45)
  have f15 : Fld Z h9 pr0 "com/example/kalends/kalends/engine/LongList" "runStep" "J" (.long wst) := ((P5.ext E6).other W9 (Or.inr (slot_ne (Or.inl (hw _ (List.mem_of_getElem? (i := 30) rfl))) (Or.inl (hw _ (List.mem_of_getElem? (i := 12) rfl))) (by decide) (t := .long) (t' := (.array .long)) (by decide) (by decide))))
  obtain ⟨T16, X16, e16, st16⟩ := getF X14 hx hZ hown (host := "") (Or.inl (hw _ (List.mem_of_getElem? (i := 29) rfl))) Via.refl e14 f15 (g := (mkF m 51 #[.val (.ref pr0), .val (.int (0 : Int32))] [(.ref pr0), (.long (0 : Int64)), (.long wf), (.int (0 : Int32)), (.ref b6)])) rfl rfl (hb hby d10_51)
  have f17 : Arv Z h9 b6 k6 .long (8 : Int32) [(.long (0 : Int64)), (.long (0 : Int64)), (.long (0 : Int64)), (.long (0 : Int64)), (.long (0 : Int64)), (.long (0 : Int64)), (.long (0 : Int64)), (.long (0 : Int64))] (.long (0 : Int64)) := (V6.other W9 (Ne.symm ne6_pr0))
  obtain ⟨cl18, Ar18, q18, S18, N18, H18, G18⟩ := id f17
  have hin18 : ¬ ((0 : Int32) < 0 ∨ cl18.slots.size ≤ ((0 : Int32)).toNatClampNeg) := inb_of S18 ⟨by decide, by decide⟩
  obtain ⟨T19, h19, X19, e19, W19, st19⟩ := stJ X16 hx hZ e16 Ar18 (j := (0 : Int32)) hin18 (g := (mkF m 56 #[.val (.ref pr0), .val (.int (0 : Int32))] [(.long (wf + ((0 : Int64) * wst))), (.int (0 : Int32)), (.ref b6)])) rfl rfl (hb hby d10_56)
  have K19 : Keep h0 h19 ([pr0] : List Addr) := K9.wr W19 (Or.inr sz6)
  have N19 := Fr.snoc X19 N9 ge6
  have Z19 : n0 ≤ h19.size := Nat.le_trans Z9 (Keep.of_wr W19).1
  have V19 : Arv Z h19 b6 k6 .long (8 : Int32) [(.long (wf + ((0 : Int64) * wst))), (.long (0 : Int64)), (.long (0 : Int64)), (.long (0 : Int64)), (.long (0 : Int64)), (.long (0 : Int64)), (.long (0 : Int64)), (.long (0 : Int64))] (.long (0 : Int64)) := Arv.set Ar18 q18 S18 N18 H18 G18 rfl W19 0 rfl (Nat.le_of_ble_eq_true rfl)
  have f20 : Fld Z h19 pr0 "com/example/kalends/kalends/engine/LongList" "size" "I" (.int (3 : Int32)) := (f10.other W19 (Or.inl ne6_pr0))
  obtain ⟨T21, X21, e21, st21⟩ := getF X19 hx hZ hown (host := "") (Or.inl (hw _ (List.mem_of_getElem? (i := 18) rfl))) Via.refl e19 f20 (g := (mkF m 33 #[.val (.ref pr0), .val (.int (1 : Int32))] [(.ref pr0), (.int (1 : Int32))])) rfl rfl (hb hby d10_33)
  have f22 : Fld Z h19 pr0 "com/example/kalends/kalends/engine/LongList" "values" "[J" (.ref b6) := (Fw9.other W19 (Or.inl ne6_pr0))
  obtain ⟨T23, X23, e23, st23⟩ := getF X21 hx hZ hown (host := "") (Or.inl (hw _ (List.mem_of_getElem? (i := 11) rfl))) Via.refl e21 f22 (g := (mkF m 40 #[.val (.ref pr0), .val (.int (1 : Int32))] [(.ref pr0)])) rfl rfl (hb hby d10_40)
  have f24 : Fld Z h19 pr0 "com/example/kalends/kalends/engine/LongList" "runFirst" "J" (.long wf) := (f13.other W19 (Or.inl ne6_pr0))
  obtain ⟨T25, X25, e25, st25⟩ := getF X23 hx hZ hown (host := "") (Or.inl (hw _ (List.mem_of_getElem? (i := 27) rfl))) Via.refl e23 f24 (g := (mkF m 45 #[.val (.ref pr0), .val (.int (1 : Int32))] [(.ref pr0), (.int (1 : Int32)), (.ref b6)])) rfl rfl (hb hby d10_45)
  have f26 : Fld Z h19 pr0 "com/example/kalends/kalends/engine/LongList" "runStep" "J" (.long wst) := (f15.other W19 (Or.inl ne6_pr0))
  obtain ⟨T27, X27, e27, st27⟩ := getF X25 hx hZ hown (host := "") (Or.inl (hw _ (List.mem_of_getElem? (i := 29) rfl))) Via.refl e25 f26 (g := (mkF m 51 #[.val (.ref pr0), .val (.int (1 : Int32))] [(.ref pr0), (.long (1 : Int64)), (.long wf), (.int (1 : Int32)), (.ref b6)])) rfl rfl (hb hby d10_51)
  obtain ⟨cl28, Ar28, q28, S28, N28, H28, G28⟩ := id V19
  have hin28 : ¬ ((1 : Int32) < 0 ∨ cl28.slots.size ≤ ((1 : Int32)).toNatClampNeg) := inb_of S28 ⟨by decide, by decide⟩
  obtain ⟨T29, h29, X29, e29, W29, st29⟩ := stJ X27 hx hZ e27 Ar28 (j := (1 : Int32)) hin28 (g := (mkF m 56 #[.val (.ref pr0), .val (.int (1 : Int32))] [(.long (wf + ((1 : Int64) * wst))), (.int (1 : Int32)), (.ref b6)])) rfl rfl (hb hby d10_56)
  have K29 : Keep h0 h29 ([pr0] : List Addr) := K19.wr W29 (Or.inr sz6)
  have N29 := Fr.snoc X29 N19 ge6
  have Z29 : n0 ≤ h29.size := Nat.le_trans Z19 (Keep.of_wr W29).1
  have V29 : Arv Z h29 b6 k6 .long (8 : Int32) [(.long (wf + ((0 : Int64) * wst))), (.long (wf + ((1 : Int64) * wst))), (.long (0 : Int64)), (.long (0 : Int64)), (.long (0 : Int64)), (.long (0 : Int64)), (.long (0 : Int64)), (.long (0 : Int64))] (.long (0 : Int64)) := Arv.set Ar28 q28 S28 N28 H28 G28 rfl W29 1 rfl (Nat.le_of_ble_eq_true rfl)
  have f30 : Fld Z h29 pr0 "com/example/kalends/kalends/engine/LongList" "size" "I" (.int (3 : Int32)) := (f20.other W29 (Or.inl ne6_pr0))
  obtain ⟨T31, X31, e31, st31⟩ := getF X29 hx hZ hown (host := "") (Or.inl (hw _ (List.mem_of_getElem? (i := 18) rfl))) Via.refl e29 f30 (g := (mkF m 33 #[.val (.ref pr0), .val (.int (2 : Int32))] [(.ref pr0), (.int (2 : Int32))])) rfl rfl (hb hby d10_33)
  have f32 : Fld Z h29 pr0 "com/example/kalends/kalends/engine/LongList" "values" "[J" (.ref b6) := (f22.other W29 (Or.inl ne6_pr0))
  obtain ⟨T33, X33, e33, st33⟩ := getF X31 hx hZ hown (host := "") (Or.inl (hw _ (List.mem_of_getElem? (i := 11) rfl))) Via.refl e31 f32 (g := (mkF m 40 #[.val (.ref pr0), .val (.int (2 : Int32))] [(.ref pr0)])) rfl rfl (hb hby d10_40)
  have go34 : ∀ t, Steps p.tables e below (T33.setTop (mkF m 44 #[.val (.ref pr0), .val (.int (2 : Int32))] [(.int (2 : Int32)), (.ref b6)])) t → Steps p.tables e below st0 t := by
    intro t kt
    refine go0 t ?_
    refine XS.aloadN X0.here hx rfl (hb hby d10_0) rfl rfl ?_
    show Steps p.tables e below (s₁.setTop (mkF m 1 #[.val (.ref pr0), .unset] [(.ref pr0)])) _
    refine st1 _ ?_
    show Steps p.tables e below (T1.setTop (mkF m 4 #[.val (.ref pr0), .unset] [(.ref nn)])) _
    refine X1.arraylength hx (by rw [e1]; exact Ar2.1) (State.isArrayOf_alike hZ.alike Ar2.2.1) (g := (mkF m 4 #[.val (.ref pr0), .unset] [(.ref nn)])) rfl rfl (hb hby d10_4) _ ?_
    rw [len_of S2 N2]
    show Steps p.tables e below (T1.setTop (mkF m 5 #[.val (.ref pr0), .unset] [(.int (0 : Int32))])) _
    refine XS.aloadN X1.here hx rfl (hb hby d10_5) rfl rfl ?_
    show Steps p.tables e below (T1.setTop (mkF m 6 #[.val (.ref pr0), .unset] [(.ref pr0), (.int (0 : Int32))])) _
    refine st3 _ ?_
    show Steps p.tables e below (T3.setTop (mkF m 9 #[.val (.ref pr0), .unset] [(.int (3 : Int32)), (.int (0 : Int32))])) _
    refine XS.icmpNo X3.here hx rfl (hb hby d10_9) rfl (tlt (by decide : (0 : Int32) < (3 : Int32))).2.1 ?_
    show Steps p.tables e below (T3.setTop (mkF m 12 #[.val (.ref pr0), .unset] [])) _
    refine XS.aloadN X3.here hx rfl (hb hby d10_12) rfl rfl ?_
    show Steps p.tables e below (T3.setTop (mkF m 13 #[.val (.ref pr0), .unset] [(.ref pr0)])) _
    refine XS.bipush X3.here hx rfl (hb hby d10_13) ?_
    show Steps p.tables e below (T3.setTop (mkF m 15 #[.val (.ref pr0), .unset] [(.int (8 : Int32)), (.ref pr0)])) _
    refine XS.iconst X3.here hx rfl (hb hby d10_15) ?_
    show Steps p.tables e below (T3.setTop (mkF m 16 #[.val (.ref pr0), .unset] [(.int (2 : Int32)), (.int (8 : Int32)), (.ref pr0)])) _
    refine XS.aloadN X3.here hx rfl (hb hby d10_16) rfl rfl ?_
    show Steps p.tables e below (T3.setTop (mkF m 17 #[.val (.ref pr0), .unset] [(.ref pr0), (.int (2 : Int32)), (.int (8 : Int32)), (.ref pr0)])) _
    refine st4 _ ?_
    show Steps p.tables e below (T4.setTop (mkF m 20 #[.val (.ref pr0), .unset] [(.int (3 : Int32)), (.int (2 : Int32)), (.int (8 : Int32)), (.ref pr0)])) _
    refine XS.imul X4.here hx rfl (hb hby d10_20) rfl ?_
    show Steps p.tables e below (T4.setTop (mkF m 21 #[.val (.ref pr0), .unset] [(.int (6 : Int32)), (.int (8 : Int32)), (.ref pr0)])) _
    refine st5 _ ?_
    show Steps p.tables e below (T5.setTop (mkF m 24 #[.val (.ref pr0), .unset] [(.int (8 : Int32)), (.ref pr0)])) _
    refine st6 _ ?_
    show Steps p.tables e below (T6.setTop (mkF m 26 #[.val (.ref pr0), .unset] [(.ref b6), (.ref pr0)])) _
    refine st9 _ ?_
    show Steps p.tables e below (T9.setTop (mkF m 29 #[.val (.ref pr0), .unset] [])) _
    refine XS.iconst X9.here hx rfl (hb hby d10_29) ?_
    show Steps p.tables e below (T9.setTop (mkF m 30 #[.val (.ref pr0), .unset] [(.int (0 : Int32))])) _
    refine XS.istoreN X9.here hx rfl (hb hby d10_30) rfl (l' := #[.val (.ref pr0), .val (.int (0 : Int32))]) rfl ?_
    show Steps p.tables e below (T9.setTop (mkF m 31 #[.val (.ref pr0), .val (.int (0 : Int32))] [])) _
    refine XS.iloadN X9.here hx rfl (hb hby d10_31) rfl ?_
    show Steps p.tables e below (T9.setTop (mkF m 32 #[.val (.ref pr0), .val (.int (0 : Int32))] [(.int (0 : Int32))])) _
    refine XS.aloadN X9.here hx rfl (hb hby d10_32) rfl rfl ?_
    show Steps p.tables e below (T9.setTop (mkF m 33 #[.val (.ref pr0), .val (.int (0 : Int32))] [(.ref pr0), (.int (0 : Int32))])) _
    refine st11 _ ?_
    show Steps p.tables e below (T11.setTop (mkF m 36 #[.val (.ref pr0), .val (.int (0 : Int32))] [(.int (3 : Int32)), (.int (0 : Int32))])) _
    refine XS.icmpNo X11.here hx rfl (hb hby d10_36) rfl (tlt (by decide : (0 : Int32) < (3 : Int32))).2.1 ?_
    show Steps p.tables e below (T11.setTop (mkF m 39 #[.val (.ref pr0), .val (.int (0 : Int32))] [])) _
    refine XS.aloadN X11.here hx rfl (hb hby d10_39) rfl rfl ?_
    show Steps p.tables e below (T11.setTop (mkF m 40 #[.val (.ref pr0), .val (.int (0 : Int32))] [(.ref pr0)])) _
    refine st12 _ ?_
    show Steps p.tables e below (T12.setTop (mkF m 43 #[.val (.ref pr0), .val (.int (0 : Int32))] [(.ref b6)])) _
    refine XS.iloadN X12.here hx rfl (hb hby d10_43) rfl ?_
    show Steps p.tables e below (T12.setTop (mkF m 44 #[.val (.ref pr0), .val (.int (0 : Int32))] [(.int (0 : Int32)), (.ref b6)])) _
    refine XS.aloadN X12.here hx rfl (hb hby d10_44) rfl rfl ?_
    show Steps p.tables e below (T12.setTop (mkF m 45 #[.val (.ref pr0), .val (.int (0 : Int32))] [(.ref pr0), (.int (0 : Int32)), (.ref b6)])) _
    refine st14 _ ?_
    show Steps p.tables e below (T14.setTop (mkF m 48 #[.val (.ref pr0), .val (.int (0 : Int32))] [(.long wf), (.int (0 : Int32)), (.ref b6)])) _
    refine XS.iloadN X14.here hx rfl (hb hby d10_48) rfl ?_
    show Steps p.tables e below (T14.setTop (mkF m 49 #[.val (.ref pr0), .val (.int (0 : Int32))] [(.int (0 : Int32)), (.long wf), (.int (0 : Int32)), (.ref b6)])) _
    refine XS.i2l X14.here hx rfl (hb hby d10_49) rfl ?_
    show Steps p.tables e below (T14.setTop (mkF m 50 #[.val (.ref pr0), .val (.int (0 : Int32))] [(.long (0 : Int64)), (.long wf), (.int (0 : Int32)), (.ref b6)])) _
    refine XS.aloadN X14.here hx rfl (hb hby d10_50) rfl rfl ?_
    show Steps p.tables e below (T14.setTop (mkF m 51 #[.val (.ref pr0), .val (.int (0 : Int32))] [(.ref pr0), (.long (0 : Int64)), (.long wf), (.int (0 : Int32)), (.ref b6)])) _
    refine st16 _ ?_
    show Steps p.tables e below (T16.setTop (mkF m 54 #[.val (.ref pr0), .val (.int (0 : Int32))] [(.long wst), (.long (0 : Int64)), (.long wf), (.int (0 : Int32)), (.ref b6)])) _
    refine XS.lmul X16.here hx rfl (hb hby d10_54) rfl ?_
    show Steps p.tables e below (T16.setTop (mkF m 55 #[.val (.ref pr0), .val (.int (0 : Int32))] [(.long ((0 : Int64) * wst)), (.long wf), (.int (0 : Int32)), (.ref b6)])) _
    refine XS.ladd X16.here hx rfl (hb hby d10_55) rfl ?_
    show Steps p.tables e below (T16.setTop (mkF m 56 #[.val (.ref pr0), .val (.int (0 : Int32))] [(.long (wf + ((0 : Int64) * wst))), (.int (0 : Int32)), (.ref b6)])) _
    refine st19 _ ?_
    show Steps p.tables e below (T19.setTop (mkF m 57 #[.val (.ref pr0), .val (.int (0 : Int32))] [])) _
    refine XS.iinc X19.here hx rfl (hb hby d10_57) rfl (l' := #[.val (.ref pr0), .val (.int (1 : Int32))]) rfl ?_
    show Steps p.tables e below (T19.setTop (mkF m 60 #[.val (.ref pr0), .val (.int (1 : Int32))] [])) _
    refine XS.goto X19.here hx rfl (pc0 := 60) (pc' := 31) rfl (hb hby d10_60) (by decide) (by decide) ?_
    show Steps p.tables e below (T19.setTop (mkF m 31 #[.val (.ref pr0), .val (.int (1 : Int32))] [])) _
    refine XS.iloadN X19.here hx rfl (hb hby d10_31) rfl ?_
    show Steps p.tables e below (T19.setTop (mkF m 32 #[.val (.ref pr0), .val (.int (1 : Int32))] [(.int (1 : Int32))])) _
    refine XS.aloadN X19.here hx rfl (hb hby d10_32) rfl rfl ?_
    show Steps p.tables e below (T19.setTop (mkF m 33 #[.val (.ref pr0), .val (.int (1 : Int32))] [(.ref pr0), (.int (1 : Int32))])) _
    refine st21 _ ?_
    show Steps p.tables e below (T21.setTop (mkF m 36 #[.val (.ref pr0), .val (.int (1 : Int32))] [(.int (3 : Int32)), (.int (1 : Int32))])) _
    refine XS.icmpNo X21.here hx rfl (hb hby d10_36) rfl (tlt (by decide : (1 : Int32) < (3 : Int32))).2.1 ?_
    show Steps p.tables e below (T21.setTop (mkF m 39 #[.val (.ref pr0), .val (.int (1 : Int32))] [])) _
    refine XS.aloadN X21.here hx rfl (hb hby d10_39) rfl rfl ?_
    show Steps p.tables e below (T21.setTop (mkF m 40 #[.val (.ref pr0), .val (.int (1 : Int32))] [(.ref pr0)])) _
    refine st23 _ ?_
    show Steps p.tables e below (T23.setTop (mkF m 43 #[.val (.ref pr0), .val (.int (1 : Int32))] [(.ref b6)])) _
    refine XS.iloadN X23.here hx rfl (hb hby d10_43) rfl ?_
    show Steps p.tables e below (T23.setTop (mkF m 44 #[.val (.ref pr0), .val (.int (1 : Int32))] [(.int (1 : Int32)), (.ref b6)])) _
    refine XS.aloadN X23.here hx rfl (hb hby d10_44) rfl rfl ?_
    show Steps p.tables e below (T23.setTop (mkF m 45 #[.val (.ref pr0), .val (.int (1 : Int32))] [(.ref pr0), (.int (1 : Int32)), (.ref b6)])) _
    refine st25 _ ?_
    show Steps p.tables e below (T25.setTop (mkF m 48 #[.val (.ref pr0), .val (.int (1 : Int32))] [(.long wf), (.int (1 : Int32)), (.ref b6)])) _
    refine XS.iloadN X25.here hx rfl (hb hby d10_48) rfl ?_
    show Steps p.tables e below (T25.setTop (mkF m 49 #[.val (.ref pr0), .val (.int (1 : Int32))] [(.int (1 : Int32)), (.long wf), (.int (1 : Int32)), (.ref b6)])) _
    refine XS.i2l X25.here hx rfl (hb hby d10_49) rfl ?_
    show Steps p.tables e below (T25.setTop (mkF m 50 #[.val (.ref pr0), .val (.int (1 : Int32))] [(.long (1 : Int64)), (.long wf), (.int (1 : Int32)), (.ref b6)])) _
    refine XS.aloadN X25.here hx rfl (hb hby d10_50) rfl rfl ?_
    show Steps p.tables e below (T25.setTop (mkF m 51 #[.val (.ref pr0), .val (.int (1 : Int32))] [(.ref pr0), (.long (1 : Int64)), (.long wf), (.int (1 : Int32)), (.ref b6)])) _
    refine st27 _ ?_
    show Steps p.tables e below (T27.setTop (mkF m 54 #[.val (.ref pr0), .val (.int (1 : Int32))] [(.long wst), (.long (1 : Int64)), (.long wf), (.int (1 : Int32)), (.ref b6)])) _
    refine XS.lmul X27.here hx rfl (hb hby d10_54) rfl ?_
    show Steps p.tables e below (T27.setTop (mkF m 55 #[.val (.ref pr0), .val (.int (1 : Int32))] [(.long ((1 : Int64) * wst)), (.long wf), (.int (1 : Int32)), (.ref b6)])) _
    refine XS.ladd X27.here hx rfl (hb hby d10_55) rfl ?_
    show Steps p.tables e below (T27.setTop (mkF m 56 #[.val (.ref pr0), .val (.int (1 : Int32))] [(.long (wf + ((1 : Int64) * wst))), (.int (1 : Int32)), (.ref b6)])) _
    refine st29 _ ?_
    show Steps p.tables e below (T29.setTop (mkF m 57 #[.val (.ref pr0), .val (.int (1 : Int32))] [])) _
    refine XS.iinc X29.here hx rfl (hb hby d10_57) rfl (l' := #[.val (.ref pr0), .val (.int (2 : Int32))]) rfl ?_
    show Steps p.tables e below (T29.setTop (mkF m 60 #[.val (.ref pr0), .val (.int (2 : Int32))] [])) _
    refine XS.goto X29.here hx rfl (pc0 := 60) (pc' := 31) rfl (hb hby d10_60) (by decide) (by decide) ?_
    show Steps p.tables e below (T29.setTop (mkF m 31 #[.val (.ref pr0), .val (.int (2 : Int32))] [])) _
    refine XS.iloadN X29.here hx rfl (hb hby d10_31) rfl ?_
    show Steps p.tables e below (T29.setTop (mkF m 32 #[.val (.ref pr0), .val (.int (2 : Int32))] [(.int (2 : Int32))])) _
    refine XS.aloadN X29.here hx rfl (hb hby d10_32) rfl rfl ?_
    show Steps p.tables e below (T29.setTop (mkF m 33 #[.val (.ref pr0), .val (.int (2 : Int32))] [(.ref pr0), (.int (2 : Int32))])) _
    refine st31 _ ?_
    show Steps p.tables e below (T31.setTop (mkF m 36 #[.val (.ref pr0), .val (.int (2 : Int32))] [(.int (3 : Int32)), (.int (2 : Int32))])) _
    refine XS.icmpNo X31.here hx rfl (hb hby d10_36) rfl (tlt (by decide : (2 : Int32) < (3 : Int32))).2.1 ?_
    show Steps p.tables e below (T31.setTop (mkF m 39 #[.val (.ref pr0), .val (.int (2 : Int32))] [])) _
    refine XS.aloadN X31.here hx rfl (hb hby d10_39) rfl rfl ?_
    show Steps p.tables e below (T31.setTop (mkF m 40 #[.val (.ref pr0), .val (.int (2 : Int32))] [(.ref pr0)])) _
    refine st33 _ ?_
    show Steps p.tables e below (T33.setTop (mkF m 43 #[.val (.ref pr0), .val (.int (2 : Int32))] [(.ref b6)])) _
    refine XS.iloadN X33.here hx rfl (hb hby d10_43) rfl ?_
    show Steps p.tables e below (T33.setTop (mkF m 44 #[.val (.ref pr0), .val (.int (2 : Int32))] [(.int (2 : Int32)), (.ref b6)])) _
    exact kt
  have f35 : Fld Z h29 pr0 "com/example/kalends/kalends/engine/LongList" "runFirst" "J" (.long wf) := (f24.other W29 (Or.inl ne6_pr0))
  obtain ⟨T36, X36, e36, st36⟩ := getF X33 hx hZ hown (host := "") (Or.inl (hw _ (List.mem_of_getElem? (i := 27) rfl))) Via.refl e33 f35 (g := (mkF m 45 #[.val (.ref pr0), .val (.int (2 : Int32))] [(.ref pr0), (.int (2 : Int32)), (.ref b6)])) rfl rfl (hb hby d10_45)
  have f37 : Fld Z h29 pr0 "com/example/kalends/kalends/engine/LongList" "runStep" "J" (.long wst) := (f26.other W29 (Or.inl ne6_pr0))
  obtain ⟨T38, X38, e38, st38⟩ := getF X36 hx hZ hown (host := "") (Or.inl (hw _ (List.mem_of_getElem? (i := 29) rfl))) Via.refl e36 f37 (g := (mkF m 51 #[.val (.ref pr0), .val (.int (2 : Int32))] [(.ref pr0), (.long (2 : Int64)), (.long wf), (.int (2 : Int32)), (.ref b6)])) rfl rfl (hb hby d10_51)
  obtain ⟨cl39, Ar39, q39, S39, N39, H39, G39⟩ := id V29
  have hin39 : ¬ ((2 : Int32) < 0 ∨ cl39.slots.size ≤ ((2 : Int32)).toNatClampNeg) := inb_of S39 ⟨by decide, by decide⟩
  obtain ⟨T40, h40, X40, e40, W40, st40⟩ := stJ X38 hx hZ e38 Ar39 (j := (2 : Int32)) hin39 (g := (mkF m 56 #[.val (.ref pr0), .val (.int (2 : Int32))] [(.long (wf + ((2 : Int64) * wst))), (.int (2 : Int32)), (.ref b6)])) rfl rfl (hb hby d10_56)
  have K40 : Keep h0 h40 ([pr0] : List Addr) := K29.wr W40 (Or.inr sz6)
  have N40 := Fr.snoc X40 N29 ge6
  have Z40 : n0 ≤ h40.size := Nat.le_trans Z29 (Keep.of_wr W40).1
  have V40 : Arv Z h40 b6 k6 .long (8 : Int32) [(.long (wf + ((0 : Int64) * wst))), (.long (wf + ((1 : Int64) * wst))), (.long (wf + ((2 : Int64) * wst))), (.long (0 : Int64)), (.long (0 : Int64)), (.long (0 : Int64)), (.long (0 : Int64)), (.long (0 : Int64))] (.long (0 : Int64)) := Arv.set Ar39 q39 S39 N39 H39 G39 rfl W40 2 rfl (Nat.le_of_ble_eq_true rfl)
  have f41 : Fld Z h40 pr0 "com/example/kalends/kalends/engine/LongList" "size" "I" (.int (3 : Int32)) := (f30.other W40 (Or.inl ne6_pr0))
  obtain ⟨T42, X42, e42, st42⟩ := getF X40 hx hZ hown (host := "") (Or.inl (hw _ (List.mem_of_getElem? (i := 18) rfl))) Via.refl e40 f41 (g := (mkF m 33 #[.val (.ref pr0), .val (.int (3 : Int32))] [(.ref pr0), (.int (3 : Int32))])) rfl rfl (hb hby d10_33)
  have f43 : Fld Z h40 pr0 "com/example/kalends/kalends/engine/LongList" "run" "Z" (.int (1 : Int32)) := (((((P3.ext E6).other W9 (Or.inr (slot_ne (Or.inl (hw _ (List.mem_of_getElem? (i := 26) rfl))) (Or.inl (hw _ (List.mem_of_getElem? (i := 12) rfl))) (by decide) (t := .boolean) (t' := (.array .long)) (by decide) (by decide)))).other W19 (Or.inl ne6_pr0)).other W29 (Or.inl ne6_pr0)).other W40 (Or.inl ne6_pr0))
  have f44 : Exa Z h40 pr0 "com/example/kalends/kalends/engine/LongList" := ((((f8.wr W9).wr W19).wr W29).wr W40)
  obtain ⟨T45, h45, X45, e45, W45, st45⟩ := putFN X42 hx hZ hown (hw _ (List.mem_of_getElem? (i := 25) rfl)) Via.refl e42 f43 f44 (Or.inl (hw _ (List.mem_of_getElem? (i := 26) rfl))) (hw _ (List.mem_of_getElem? (i := 1) rfl)) (ty := .boolean) (v' := (.int (0 : Int32))) (by decide) rfl rfl (g := (mkF m 65 #[.val (.ref pr0), .val (.int (3 : Int32))] [(.int (0 : Int32)), (.ref pr0)])) rfl rfl (hb hby d10_65)
  have K45 : Keep h0 h45 ([pr0] : List Addr) := K40.wr W45 (Or.inl (List.mem_of_getElem? (i := 0) rfl))
  have N45 := Fr.snoc X45 N40 P8
  have Z45 : n0 ≤ h45.size := Nat.le_trans Z40 (Keep.of_wr W45).1
  have Fw45 := f43.same W45
  have go46 : ∀ t, Steps p.tables e below (T45.setTop (mkF m 68 #[.val (.ref pr0), .val (.int (3 : Int32))] [])) t → Steps p.tables e below st0 t := by
    intro t kt
    refine go34 t ?_
    refine XS.aloadN X33.here hx rfl (hb hby d10_44) rfl rfl ?_
    show Steps p.tables e below (T33.setTop (mkF m 45 #[.val (.ref pr0), .val (.int (2 : Int32))] [(.ref pr0), (.int (2 : Int32)), (.ref b6)])) _
    refine st36 _ ?_
    show Steps p.tables e below (T36.setTop (mkF m 48 #[.val (.ref pr0), .val (.int (2 : Int32))] [(.long wf), (.int (2 : Int32)), (.ref b6)])) _
    refine XS.iloadN X36.here hx rfl (hb hby d10_48) rfl ?_
    show Steps p.tables e below (T36.setTop (mkF m 49 #[.val (.ref pr0), .val (.int (2 : Int32))] [(.int (2 : Int32)), (.long wf), (.int (2 : Int32)), (.ref b6)])) _
    refine XS.i2l X36.here hx rfl (hb hby d10_49) rfl ?_
    show Steps p.tables e below (T36.setTop (mkF m 50 #[.val (.ref pr0), .val (.int (2 : Int32))] [(.long (2 : Int64)), (.long wf), (.int (2 : Int32)), (.ref b6)])) _
    refine XS.aloadN X36.here hx rfl (hb hby d10_50) rfl rfl ?_
    show Steps p.tables e below (T36.setTop (mkF m 51 #[.val (.ref pr0), .val (.int (2 : Int32))] [(.ref pr0), (.long (2 : Int64)), (.long wf), (.int (2 : Int32)), (.ref b6)])) _
    refine st38 _ ?_
    show Steps p.tables e below (T38.setTop (mkF m 54 #[.val (.ref pr0), .val (.int (2 : Int32))] [(.long wst), (.long (2 : Int64)), (.long wf), (.int (2 : Int32)), (.ref b6)])) _
    refine XS.lmul X38.here hx rfl (hb hby d10_54) rfl ?_
    show Steps p.tables e below (T38.setTop (mkF m 55 #[.val (.ref pr0), .val (.int (2 : Int32))] [(.long ((2 : Int64) * wst)), (.long wf), (.int (2 : Int32)), (.ref b6)])) _
    refine XS.ladd X38.here hx rfl (hb hby d10_55) rfl ?_
    show Steps p.tables e below (T38.setTop (mkF m 56 #[.val (.ref pr0), .val (.int (2 : Int32))] [(.long (wf + ((2 : Int64) * wst))), (.int (2 : Int32)), (.ref b6)])) _
    refine st40 _ ?_
    show Steps p.tables e below (T40.setTop (mkF m 57 #[.val (.ref pr0), .val (.int (2 : Int32))] [])) _
    refine XS.iinc X40.here hx rfl (hb hby d10_57) rfl (l' := #[.val (.ref pr0), .val (.int (3 : Int32))]) rfl ?_
    show Steps p.tables e below (T40.setTop (mkF m 60 #[.val (.ref pr0), .val (.int (3 : Int32))] [])) _
    refine XS.goto X40.here hx rfl (pc0 := 60) (pc' := 31) rfl (hb hby d10_60) (by decide) (by decide) ?_
    show Steps p.tables e below (T40.setTop (mkF m 31 #[.val (.ref pr0), .val (.int (3 : Int32))] [])) _
    refine XS.iloadN X40.here hx rfl (hb hby d10_31) rfl ?_
    show Steps p.tables e below (T40.setTop (mkF m 32 #[.val (.ref pr0), .val (.int (3 : Int32))] [(.int (3 : Int32))])) _
    refine XS.aloadN X40.here hx rfl (hb hby d10_32) rfl rfl ?_
    show Steps p.tables e below (T40.setTop (mkF m 33 #[.val (.ref pr0), .val (.int (3 : Int32))] [(.ref pr0), (.int (3 : Int32))])) _
    refine st42 _ ?_
    show Steps p.tables e below (T42.setTop (mkF m 36 #[.val (.ref pr0), .val (.int (3 : Int32))] [(.int (3 : Int32)), (.int (3 : Int32))])) _
    refine XS.icmpYes X42.here hx rfl (pc0 := 36) (pc' := 63) rfl (hb hby d10_36) rfl (flt (by decide : ¬ ((3 : Int32) < (3 : Int32)))).2.1 (by decide) (by decide) ?_
    show Steps p.tables e below (T42.setTop (mkF m 63 #[.val (.ref pr0), .val (.int (3 : Int32))] [])) _
    refine XS.aloadN X42.here hx rfl (hb hby d10_63) rfl rfl ?_
    show Steps p.tables e below (T42.setTop (mkF m 64 #[.val (.ref pr0), .val (.int (3 : Int32))] [(.ref pr0)])) _
    refine XS.iconst X42.here hx rfl (hb hby d10_64) ?_
    show Steps p.tables e below (T42.setTop (mkF m 65 #[.val (.ref pr0), .val (.int (3 : Int32))] [(.int (0 : Int32)), (.ref pr0)])) _
    refine st45 _ ?_
    show Steps p.tables e below (T45.setTop (mkF m 68 #[.val (.ref pr0), .val (.int (3 : Int32))] [])) _
    exact kt
  obtain ⟨fs, hr, hrun, hended, hW, hsame⟩ := X45.leave (v := none) (fun _ => rfl)
  refine ⟨_, _, go46 _ ?_, hrun, hended, _, _, rfl, ?_, ⟨_, rfl⟩, hW, hsame.mono (by decide) (by decide)⟩
  · exact X45.returnOut hx Bd.returns (hb hby d10_68) hr
  · show Q_own_keep3 Z pr0 nn ka wf wst h0 n0 _ T45.heap _
    rw [e45]
    have f47 : Exa Z h45 pr0 "com/example/kalends/kalends/engine/LongList" := (f44.wr W45)
    have f48 : Fld Z h45 pr0 "com/example/kalends/kalends/engine/LongList" "values" "[J" (.ref b6) := ((f32.other W40 (Or.inl ne6_pr0)).other W45 (Or.inr (slot_ne (Or.inl (hw _ (List.mem_of_getElem? (i := 12) rfl))) (Or.inl (hw _ (List.mem_of_getElem? (i := 26) rfl))) (by decide) (t := (.array .long)) (t' := .boolean) (by decide) (by decide))))
    have f49 : Fld Z h45 pr0 "com/example/kalends/kalends/engine/LongList" "size" "I" (.int (3 : Int32)) := (f41.other W45 (Or.inr (slot_ne (Or.inl (hw _ (List.mem_of_getElem? (i := 19) rfl))) (Or.inl (hw _ (List.mem_of_getElem? (i := 26) rfl))) (by decide) (t := .int) (t' := .boolean) (by decide) (by decide))))
    have f50 : Fld Z h45 pr0 "com/example/kalends/kalends/engine/LongList" "runFirst" "J" (.long wf) := ((f35.other W40 (Or.inl ne6_pr0)).other W45 (Or.inr (slot_ne (Or.inl (hw _ (List.mem_of_getElem? (i := 28) rfl))) (Or.inl (hw _ (List.mem_of_getElem? (i := 26) rfl))) (by decide) (t := .long) (t' := .boolean) (by decide) (by decide))))
    have f51 : Fld Z h45 pr0 "com/example/kalends/kalends/engine/LongList" "runStep" "J" (.long wst) := ((f37.other W40 (Or.inl ne6_pr0)).other W45 (Or.inr (slot_ne (Or.inl (hw _ (List.mem_of_getElem? (i := 30) rfl))) (Or.inl (hw _ (List.mem_of_getElem? (i := 26) rfl))) (by decide) (t := .long) (t' := .boolean) (by decide) (by decide))))
    have f52 : Arv Z h45 b6 k6 .long (8 : Int32) [(.long (wf + ((0 : Int64) * wst))), (.long (wf + ((1 : Int64) * wst))), (.long (wf + ((2 : Int64) * wst))), (.long (0 : Int64)), (.long (0 : Int64)), (.long (0 : Int64)), (.long (0 : Int64)), (.long (0 : Int64))] (.long (0 : Int64)) := (V40.other W45 (Ne.symm ne6_pr0))
    exact ⟨N45, b6, k6, rfl, sz6, K45, f47, f48, f49, Fw45, f50, f51, f52⟩
theorem ef_own_addN (m : MethodId) (pr0 : Addr) (pj1 : Int64) : entryFrame m #[(.ref pr0), (.long pj1)] 3 = mkF m 0 #[.val (.ref pr0), .val (.long pj1), .second] [] := by first | (simp [entryFrame, mkF, argsToLocals, Value.category]; done) | rfl
def Q_own_addN (Z : State) (pr0 : Addr) (pj1 : Int64) (nn : Addr) (ka : ClassId) (wf : Int64) (wst : Int64) (h0 : Heap) (n0 : Nat) (v : Option Value) (h : Heap) (L : List Loc) : Prop := Fr n0 L ∧ ∃ (bb : Addr) (kb : ClassId) (vs : List Value), v = none ∧ h0.size ≤ bb ∧ Keep h0 h ([pr0] : List Addr) ∧ Exa Z h pr0 "com/example/kalends/kalends/engine/LongList" ∧ Fld Z h pr0 "com/example/kalends/kalends/engine/LongList" "values" "[J" (.ref bb) ∧ Fld Z h pr0 "com/example/kalends/kalends/engine/LongList" "size" "I" (.int (1 : Int32)) ∧ Fld Z h pr0 "com/example/kalends/kalends/engine/LongList" "run" "Z" (.int (0 : Int32)) ∧ Arv Z h bb kb .long (8 : Int32) vs (.long (0 : Int64)) ∧ vs.length = 8
set_option maxRecDepth 65536 in
set_option maxHeartbeats 40000000 in
theorem own_addN (l : Launch) (Z : State) (a0 : Array Value) (hw : ∀ d ∈ tables_1, d.before a0 Z = true) (ws : List Jvm.Cond) (pr0 : Addr) (pj1 : Int64) (nn : Addr) (ka : ClassId) (wf : Int64) (wst : Int64) (h0 : Heap) (n0 : Nat) (Z0 : n0 ≤ h0.size) (P0 : Exa Z h0 pr0 "com/example/kalends/kalends/engine/LongList") (P1 : Fld Z h0 pr0 "com/example/kalends/kalends/engine/LongList" "values" "[J" (.ref nn)) (P2 : Fld Z h0 pr0 "com/example/kalends/kalends/engine/LongList" "size" "I" (.int (0 : Int32))) (P3 : Fld Z h0 pr0 "com/example/kalends/kalends/engine/LongList" "run" "Z" (.int (0 : Int32))) (P4 : Fld Z h0 pr0 "com/example/kalends/kalends/engine/LongList" "runFirst" "J" (.long wf)) (P5 : Fld Z h0 pr0 "com/example/kalends/kalends/engine/LongList" "runStep" "J" (.long wst)) (P6 : Arv Z h0 nn ka .long (0 : Int32) [] (.long (0 : Int64))) (P7 : nn ≠ pr0) (P8 : n0 ≤ pr0) :
    MetFree l (⟨"com/example/kalends/kalends/engine/LongList", "add", "(J)V"⟩ : MethodName) (head1 (Jvm.Cond.code (⟨"com/example/kalends/kalends/engine/LongList", "add", "(J)V"⟩ : MethodName) prog_9_method_2_code 3 none :: ws) ({ frames := 2, cells := 1, slots := 8, locals := 33 } : Room)) (fun a U => a = #[(.ref pr0), (.long pj1)] ∧ Z.Warmed39 U.vm ∧ U.heap = h0) (fun _ _ _ _ _ => True) (fun _ U o U' => ∃ v L, o = .returned v ∧ Q_own_addN Z pr0 pj1 nn ka wf wst h0 n0 v U'.heap L ∧ FrameEnd U o U' L ({ frames := 2, cells := 1, slots := 8, locals := 33 } : Room).cells ({ frames := 2, cells := 1, slots := 8, locals := 33 } : Room).slots) := by
  refine MetFree.of_bodySF (plainFor_of_name pn_4) hisR ?_
  intro p e s m args below meth c s₁ Bd hml0 hP hK
  obtain ⟨rfl, hZ, hh⟩ := hP
  have hx := Bd.exec
  have hby := Bd.bytes
  have hml : c.maxLocals = 3 := hml0
  have hown : s.vm.findClass "com/example/kalends/kalends/engine/LongList" = some m.cls := findClass_of_methodNamed Bd.named
  have hnm := (name_of_methodNamed Bd.named Bd.method).1
  have X0 : Stand p l e ({ frames := 2, cells := 1, slots := 8, locals := 33 } : Room) s m #[(.ref pr0), (.long pj1)] below meth c s₁ [] 0 0 := Stand.of_body Bd
  have e0 : s₁.heap = h0 := by rw [← hh, Bd.state]; rfl
  have N0 := Fr.nil n0
  have go0 : ∀ t, Steps p.tables e below (s₁.setTop (mkF m 0 #[.val (.ref pr0), .val (.long pj1), .second] [])) t → Steps p.tables e below (s₁.setTop (entryFrame m #[(.ref pr0), (.long pj1)] 3)) t := fun t k => castTop (ef_own_addN m pr0 pj1) k
  revert go0
  generalize s₁.setTop (entryFrame m #[(.ref pr0), (.long pj1)] 3) = st0
  intro go0
  obtain ⟨T1, X1, e1, st1⟩ := getF X0 hx hZ hown (host := "") (Or.inl (hw _ (List.mem_of_getElem? (i := 25) rfl))) Via.refl e0 P3 (g := (mkF m 1 #[.val (.ref pr0), .val (.long pj1), .second] [(.ref pr0)])) rfl rfl (hb hby d11_1)
  obtain ⟨T2, X2, e2, st2⟩ := getF X1 hx hZ hown (host := "") (Or.inl (hw _ (List.mem_of_getElem? (i := 18) rfl))) Via.refl e1 P2 (g := (mkF m 12 #[.val (.ref pr0), .val (.long pj1), .second] [(.ref pr0)])) rfl rfl (hb hby d11_12)
  obtain ⟨T3, X3, e3, st3⟩ := getF X2 hx hZ hown (host := "") (Or.inl (hw _ (List.mem_of_getElem? (i := 11) rfl))) Via.refl e2 P1 (g := (mkF m 16 #[.val (.ref pr0), .val (.long pj1), .second] [(.ref pr0), (.int (0 : Int32))])) rfl rfl (hb hby d11_16)
  obtain ⟨cl4, Ar4, q4, S4, N4, H4, G4⟩ := id P6
  obtain ⟨T5, X5, e5, st5⟩ := getF X3 hx hZ hown (host := "") (Or.inl (hw _ (List.mem_of_getElem? (i := 11) rfl))) Via.refl e3 P1 (g := (mkF m 25 #[.val (.ref pr0), .val (.long pj1), .second] [(.ref pr0), (.ref pr0)])) rfl rfl (hb hby d11_25)
  obtain ⟨T6, X6, e6, st6⟩ := getF X5 hx hZ hown (host := "") (Or.inl (hw _ (List.mem_of_getElem? (i := 18) rfl))) Via.refl e5 P2 (g := (mkF m 31 #[.val (.ref pr0), .val (.long pj1), .second] [(.ref pr0), (.int (8 : Int32)), (.ref nn), (.ref pr0)])) rfl rfl (hb hby d11_31)
  obtain ⟨_, _, ⟨T7, L7, k7, n7⟩, -, X7, ⟨Lc7, hQ7, l7, y7, z7⟩, st7⟩ := Jvm.LawKit.callS X6 hx (y := (⟨"java/lang/Math", "max", "(II)I"⟩ : MethodName)) hown (mvT hZ (hw _ (List.mem_of_getElem? (i := 40) rfl))) (mvT hZ (hw _ (List.mem_of_getElem? (i := 41) rfl))) (mvT hZ (hw _ (List.mem_of_getElem? (i := 42) rfl))) (mvT hZ (hw _ (List.mem_of_getElem? (i := 43) rfl))) (by decide) (backOf (W := 2) (own_max_f l Z a0 hw [] (8 : Int32) (0 : Int32) h0 n0 Z0 (by decide : ¬ ((8 : Int32) < (0 : Int32)))) hZ (hw _ (List.mem_of_getElem? (i := 43) rfl)) (hw _ (List.mem_of_getElem? (i := 42) rfl)) (by decide) (by decide)) (g := (mkF m 36 #[.val (.ref pr0), .val (.long pj1), .second] [(.int (0 : Int32)), (.int (8 : Int32)), (.ref nn), (.ref pr0)])) rfl (by rw [hml]; rfl) (argsL := [(.int (8 : Int32)), (.int (0 : Int32))]) (rest := [(.ref nn), (.ref pr0)]) (lenOf pd_8 rfl) rfl (by show 2 * 0 + _ ≤ _; exact Nat.le_of_eq rfl) (hb hby d11_36) (fun _ _ => ⟨rfl, e6, (by decide : 0 + 0 ≤ _), (by decide : 0 + 0 ≤ _)⟩)
  dsimp only [Pt.U, Pt.locs, Pt.cells, Pt.slots] at X7 l7 y7 z7 st7 hQ7
  subst l7 y7 z7
  obtain ⟨rfl, Nq7, e7⟩ := hQ7
  have N7 := Fr.app N0 Nq7
  obtain ⟨_, _, ⟨T8, L8, k8, n8⟩, -, X8, ⟨Lc8, hQ8, l8, y8, z8⟩, st8⟩ := Jvm.LawKit.callS X7 hx (y := (⟨"java/util/Arrays", "copyOf", "([JI)[J"⟩ : MethodName)) hown (mvT hZ (hw _ (List.mem_of_getElem? (i := 44) rfl))) (mvT hZ (hw _ (List.mem_of_getElem? (i := 45) rfl))) (mvT hZ (hw _ (List.mem_of_getElem? (i := 46) rfl))) (mvT hZ (hw _ (List.mem_of_getElem? (i := 47) rfl))) (by decide) (backOf (W := 1) (own_copy l Z a0 hw [] nn ka h0 n0 Z0 P6) hZ (hw _ (List.mem_of_getElem? (i := 47) rfl)) (hw _ (List.mem_of_getElem? (i := 46) rfl)) (by decide) (by decide)) (g := (mkF m 39 #[.val (.ref pr0), .val (.long pj1), .second] [(.int (8 : Int32)), (.ref nn), (.ref pr0)])) rfl (by rw [hml]; rfl) (argsL := [(.ref nn), (.int (8 : Int32))]) (rest := [(.ref pr0)]) (lenOf pd_12 rfl) rfl (by show 2 * 0 + _ ≤ _; exact Nat.le_of_eq rfl) (hb hby d11_39) (fun _ _ => ⟨rfl, e7, (by decide : 0 + 1 ≤ _), (by decide : 0 + 8 ≤ _)⟩)
  dsimp only [Pt.U, Pt.locs, Pt.cells, Pt.slots] at X8 l8 y8 z8 st8 hQ8
  subst l8 y8 z8
  obtain ⟨Nq8, b8_0, y8_0, rfl, szb8_0, Kc8, p8_0⟩ := hQ8
  have N8 := Fr.app N7 Nq8
  have ne_b8_0_nn : nn ≠ b8_0 := Nat.ne_of_lt (Nat.lt_of_lt_of_le P6.lt szb8_0)
  have ne_b8_0_pr0 : pr0 ≠ b8_0 := Nat.ne_of_lt (Nat.lt_of_lt_of_le P0.lt szb8_0)
  have ge_b8_0 : n0 ≤ b8_0 := Nat.le_trans Z0 szb8_0
  have sk_b8_0 : h0.size ≤ b8_0 := Nat.le_trans (Keep.refl h0 ([pr0] : List Addr)).1 szb8_0
  have K8 : Keep h0 T8.heap ([pr0] : List Addr) := (Keep.refl h0 ([pr0] : List Addr)).trans Kc8 all0
  have Z8 : n0 ≤ T8.heap.size := Nat.le_trans Z0 Kc8.1
  have f9 : Fld Z T8.heap pr0 "com/example/kalends/kalends/engine/LongList" "values" "[J" (.ref nn) := (P1.keep Kc8 nin0)
  have f10 : Exa Z T8.heap pr0 "com/example/kalends/kalends/engine/LongList" := (P0.keep Kc8)
  obtain ⟨T11, h11, X11, e11, W11, st11⟩ := putF X8 hx hZ hown (host := "") (Or.inl (hw _ (List.mem_of_getElem? (i := 11) rfl))) Via.refl rfl f9 f10 (Or.inl (hw _ (List.mem_of_getElem? (i := 12) rfl))) (hw _ (List.mem_of_getElem? (i := 1) rfl)) (ty := (.array .long)) (by decide) rfl rfl (g := (mkF m 42 #[.val (.ref pr0), .val (.long pj1), .second] [(.ref b8_0), (.ref pr0)])) rfl rfl (hb hby d11_42)
  have K11 : Keep h0 h11 ([pr0] : List Addr) := K8.wr W11 (Or.inl (List.mem_of_getElem? (i := 0) rfl))
  have N11 := Fr.snoc X11 N8 P8
  have Z11 : n0 ≤ h11.size := Nat.le_trans Z8 (Keep.of_wr W11).1
  have Fw11 := f9.same W11
  obtain ⟨T12, X12, e12, st12⟩ := getF X11 hx hZ hown (host := "") (Or.inl (hw _ (List.mem_of_getElem? (i := 11) rfl))) Via.refl e11 Fw11 (g := (mkF m 46 #[.val (.ref pr0), .val (.long pj1), .second] [(.ref pr0)])) rfl rfl (hb hby d11_46)
  have f13 : Fld Z h11 pr0 "com/example/kalends/kalends/engine/LongList" "size" "I" (.int (0 : Int32)) := ((P2.keep Kc8 nin0).other W11 (Or.inr (slot_ne (Or.inl (hw _ (List.mem_of_getElem? (i := 19) rfl))) (Or.inl (hw _ (List.mem_of_getElem? (i := 12) rfl))) (by decide) (t := .int) (t' := (.array .long)) (by decide) (by decide))))
  obtain ⟨T14, X14, e14, st14⟩ := getF X12 hx hZ hown (host := "") (Or.inl (hw _ (List.mem_of_getElem? (i := 18) rfl))) Via.refl e12 f13 (g := (mkF m 51 #[.val (.ref pr0), .val (.long pj1), .second] [(.ref pr0), (.ref pr0), (.ref b8_0)])) rfl rfl (hb hby d11_51)
  have f15 : Exa Z h11 pr0 "com/example/kalends/kalends/engine/LongList" := (f10.wr W11)
  obtain ⟨T16, h16, X16, e16, W16, st16⟩ := putF X14 hx hZ hown (host := "") (Or.inl (hw _ (List.mem_of_getElem? (i := 18) rfl))) Via.refl e14 f13 f15 (Or.inl (hw _ (List.mem_of_getElem? (i := 19) rfl))) (hw _ (List.mem_of_getElem? (i := 1) rfl)) (ty := .int) (by decide) rfl rfl (g := (mkF m 57 #[.val (.ref pr0), .val (.long pj1), .second] [(.int (1 : Int32)), (.ref pr0), (.int (0 : Int32)), (.ref b8_0)])) rfl rfl (hb hby d11_57)
  have K16 : Keep h0 h16 ([pr0] : List Addr) := K11.wr W16 (Or.inl (List.mem_of_getElem? (i := 0) rfl))
  have N16 := Fr.snoc X16 N11 P8
  have Z16 : n0 ≤ h16.size := Nat.le_trans Z11 (Keep.of_wr W16).1
  have Fw16 := f13.same W16
  have f17 : Arv Z h16 b8_0 y8_0 .long (8 : Int32) [(.long (0 : Int64)), (.long (0 : Int64)), (.long (0 : Int64)), (.long (0 : Int64)), (.long (0 : Int64)), (.long (0 : Int64)), (.long (0 : Int64)), (.long (0 : Int64))] (.long (0 : Int64)) := ((p8_0.other W11 (Ne.symm ne_b8_0_pr0)).other W16 (Ne.symm ne_b8_0_pr0))
  obtain ⟨cl18, Ar18, q18, S18, N18, H18, G18⟩ := id f17
  have hin18 : ¬ ((0 : Int32) < 0 ∨ cl18.slots.size ≤ ((0 : Int32)).toNatClampNeg) := inb_of S18 ⟨by decide, by decide⟩
  obtain ⟨T19, h19, X19, e19, W19, st19⟩ := stJ X16 hx hZ e16 Ar18 (j := (0 : Int32)) hin18 (g := (mkF m 61 #[.val (.ref pr0), .val (.long pj1), .second] [(.long pj1), (.int (0 : Int32)), (.ref b8_0)])) rfl rfl (hb hby d11_61)
  have K19 : Keep h0 h19 ([pr0] : List Addr) := K16.wr W19 (Or.inr sk_b8_0)
  have N19 := Fr.snoc X19 N16 ge_b8_0
  have Z19 : n0 ≤ h19.size := Nat.le_trans Z16 (Keep.of_wr W19).1
  have V19 : Arv Z h19 b8_0 y8_0 .long (8 : Int32) [(.long pj1), (.long (0 : Int64)), (.long (0 : Int64)), (.long (0 : Int64)), (.long (0 : Int64)), (.long (0 : Int64)), (.long (0 : Int64)), (.long (0 : Int64))] (.long (0 : Int64)) := Arv.set Ar18 q18 S18 N18 H18 G18 rfl W19 0 rfl (Nat.le_of_ble_eq_true rfl)
  have go20 : ∀ t, Steps p.tables e below (T19.setTop (mkF m 62 #[.val (.ref pr0), .val (.long pj1), .second] [])) t → Steps p.tables e below st0 t := by
    intro t kt
    refine go0 t ?_
    refine XS.aloadN X0.here hx rfl (hb hby d11_0) rfl rfl ?_
    show Steps p.tables e below (s₁.setTop (mkF m 1 #[.val (.ref pr0), .val (.long pj1), .second] [(.ref pr0)])) _
    refine st1 _ ?_
    show Steps p.tables e below (T1.setTop (mkF m 4 #[.val (.ref pr0), .val (.long pj1), .second] [(.int (0 : Int32))])) _
    refine XS.ifYes X1.here hx rfl (pc0 := 4) (pc' := 11) rfl (hb hby d11_4) rfl ((if0 _ _).trans (teq (by decide : (0 : Int32) = (0 : Int32))).1) (by decide) (by decide) ?_
    show Steps p.tables e below (T1.setTop (mkF m 11 #[.val (.ref pr0), .val (.long pj1), .second] [])) _
    refine XS.aloadN X1.here hx rfl (hb hby d11_11) rfl rfl ?_
    show Steps p.tables e below (T1.setTop (mkF m 12 #[.val (.ref pr0), .val (.long pj1), .second] [(.ref pr0)])) _
    refine st2 _ ?_
    show Steps p.tables e below (T2.setTop (mkF m 15 #[.val (.ref pr0), .val (.long pj1), .second] [(.int (0 : Int32))])) _
    refine XS.aloadN X2.here hx rfl (hb hby d11_15) rfl rfl ?_
    show Steps p.tables e below (T2.setTop (mkF m 16 #[.val (.ref pr0), .val (.long pj1), .second] [(.ref pr0), (.int (0 : Int32))])) _
    refine st3 _ ?_
    show Steps p.tables e below (T3.setTop (mkF m 19 #[.val (.ref pr0), .val (.long pj1), .second] [(.ref nn), (.int (0 : Int32))])) _
    refine X3.arraylength hx (by rw [e3]; exact Ar4.1) (State.isArrayOf_alike hZ.alike Ar4.2.1) (g := (mkF m 19 #[.val (.ref pr0), .val (.long pj1), .second] [(.ref nn), (.int (0 : Int32))])) rfl rfl (hb hby d11_19) _ ?_
    rw [len_of S4 N4]
    show Steps p.tables e below (T3.setTop (mkF m 20 #[.val (.ref pr0), .val (.long pj1), .second] [(.int (0 : Int32)), (.int (0 : Int32))])) _
    refine XS.icmpNo X3.here hx rfl (hb hby d11_20) rfl (teq (by decide : (0 : Int32) = (0 : Int32))).2 ?_
    show Steps p.tables e below (T3.setTop (mkF m 23 #[.val (.ref pr0), .val (.long pj1), .second] [])) _
    refine XS.aloadN X3.here hx rfl (hb hby d11_23) rfl rfl ?_
    show Steps p.tables e below (T3.setTop (mkF m 24 #[.val (.ref pr0), .val (.long pj1), .second] [(.ref pr0)])) _
    refine XS.aloadN X3.here hx rfl (hb hby d11_24) rfl rfl ?_
    show Steps p.tables e below (T3.setTop (mkF m 25 #[.val (.ref pr0), .val (.long pj1), .second] [(.ref pr0), (.ref pr0)])) _
    refine st5 _ ?_
    show Steps p.tables e below (T5.setTop (mkF m 28 #[.val (.ref pr0), .val (.long pj1), .second] [(.ref nn), (.ref pr0)])) _
    refine XS.bipush X5.here hx rfl (hb hby d11_28) ?_
    show Steps p.tables e below (T5.setTop (mkF m 30 #[.val (.ref pr0), .val (.long pj1), .second] [(.int (8 : Int32)), (.ref nn), (.ref pr0)])) _
    refine XS.aloadN X5.here hx rfl (hb hby d11_30) rfl rfl ?_
    show Steps p.tables e below (T5.setTop (mkF m 31 #[.val (.ref pr0), .val (.long pj1), .second] [(.ref pr0), (.int (8 : Int32)), (.ref nn), (.ref pr0)])) _
    refine st6 _ ?_
    show Steps p.tables e below (T6.setTop (mkF m 34 #[.val (.ref pr0), .val (.long pj1), .second] [(.int (0 : Int32)), (.int (8 : Int32)), (.ref nn), (.ref pr0)])) _
    refine XS.iconst X6.here hx rfl (hb hby d11_34) ?_
    show Steps p.tables e below (T6.setTop (mkF m 35 #[.val (.ref pr0), .val (.long pj1), .second] [(.int (2 : Int32)), (.int (0 : Int32)), (.int (8 : Int32)), (.ref nn), (.ref pr0)])) _
    refine XS.imul X6.here hx rfl (hb hby d11_35) rfl ?_
    show Steps p.tables e below (T6.setTop (mkF m 36 #[.val (.ref pr0), .val (.long pj1), .second] [(.int (0 : Int32)), (.int (8 : Int32)), (.ref nn), (.ref pr0)])) _
    refine st7 _ ?_
    show Steps p.tables e below (T7.setTop (mkF m 39 #[.val (.ref pr0), .val (.long pj1), .second] [(.int (8 : Int32)), (.ref nn), (.ref pr0)])) _
    refine st8 _ ?_
    show Steps p.tables e below (T8.setTop (mkF m 42 #[.val (.ref pr0), .val (.long pj1), .second] [(.ref b8_0), (.ref pr0)])) _
    refine st11 _ ?_
    show Steps p.tables e below (T11.setTop (mkF m 45 #[.val (.ref pr0), .val (.long pj1), .second] [])) _
    refine XS.aloadN X11.here hx rfl (hb hby d11_45) rfl rfl ?_
    show Steps p.tables e below (T11.setTop (mkF m 46 #[.val (.ref pr0), .val (.long pj1), .second] [(.ref pr0)])) _
    refine st12 _ ?_
    show Steps p.tables e below (T12.setTop (mkF m 49 #[.val (.ref pr0), .val (.long pj1), .second] [(.ref b8_0)])) _
    refine XS.aloadN X12.here hx rfl (hb hby d11_49) rfl rfl ?_
    show Steps p.tables e below (T12.setTop (mkF m 50 #[.val (.ref pr0), .val (.long pj1), .second] [(.ref pr0), (.ref b8_0)])) _
    refine XS.dup X12.here hx rfl (hb hby d11_50) rfl rfl ?_
    show Steps p.tables e below (T12.setTop (mkF m 51 #[.val (.ref pr0), .val (.long pj1), .second] [(.ref pr0), (.ref pr0), (.ref b8_0)])) _
    refine st14 _ ?_
    show Steps p.tables e below (T14.setTop (mkF m 54 #[.val (.ref pr0), .val (.long pj1), .second] [(.int (0 : Int32)), (.ref pr0), (.ref b8_0)])) _
    refine XS.dupX1 X14.here hx rfl (hb hby d11_54) rfl rfl rfl ?_
    show Steps p.tables e below (T14.setTop (mkF m 55 #[.val (.ref pr0), .val (.long pj1), .second] [(.int (0 : Int32)), (.ref pr0), (.int (0 : Int32)), (.ref b8_0)])) _
    refine XS.iconst X14.here hx rfl (hb hby d11_55) ?_
    show Steps p.tables e below (T14.setTop (mkF m 56 #[.val (.ref pr0), .val (.long pj1), .second] [(.int (1 : Int32)), (.int (0 : Int32)), (.ref pr0), (.int (0 : Int32)), (.ref b8_0)])) _
    refine XS.iadd X14.here hx rfl (hb hby d11_56) rfl ?_
    show Steps p.tables e below (T14.setTop (mkF m 57 #[.val (.ref pr0), .val (.long pj1), .second] [(.int (1 : Int32)), (.ref pr0), (.int (0 : Int32)), (.ref b8_0)])) _
    refine st16 _ ?_
    show Steps p.tables e below (T16.setTop (mkF m 60 #[.val (.ref pr0), .val (.long pj1), .second] [(.int (0 : Int32)), (.ref b8_0)])) _
    refine XS.lloadN X16.here hx rfl (hb hby d11_60) rfl ?_
    show Steps p.tables e below (T16.setTop (mkF m 61 #[.val (.ref pr0), .val (.long pj1), .second] [(.long pj1), (.int (0 : Int32)), (.ref b8_0)])) _
    refine st19 _ ?_
    show Steps p.tables e below (T19.setTop (mkF m 62 #[.val (.ref pr0), .val (.long pj1), .second] [])) _
    exact kt
  obtain ⟨fs, hr, hrun, hended, hW, hsame⟩ := X19.leave (v := none) (fun _ => rfl)
  refine ⟨_, _, go20 _ ?_, hrun, hended, _, _, rfl, ?_, ⟨_, rfl⟩, hW, hsame.mono (by decide) (by decide)⟩
  · exact X19.returnOut hx Bd.returns (hb hby d11_62) hr
  · show Q_own_addN Z pr0 pj1 nn ka wf wst h0 n0 _ T19.heap _
    rw [e19]
    have f21 : Exa Z h19 pr0 "com/example/kalends/kalends/engine/LongList" := ((f15.wr W16).wr W19)
    have f22 : Fld Z h19 pr0 "com/example/kalends/kalends/engine/LongList" "values" "[J" (.ref b8_0) := ((Fw11.other W16 (Or.inr (slot_ne (Or.inl (hw _ (List.mem_of_getElem? (i := 12) rfl))) (Or.inl (hw _ (List.mem_of_getElem? (i := 19) rfl))) (by decide) (t := (.array .long)) (t' := .int) (by decide) (by decide)))).other W19 (Or.inl ne_b8_0_pr0))
    have f23 : Fld Z h19 pr0 "com/example/kalends/kalends/engine/LongList" "size" "I" (.int (1 : Int32)) := (Fw16.other W19 (Or.inl ne_b8_0_pr0))
    have f24 : Fld Z h19 pr0 "com/example/kalends/kalends/engine/LongList" "run" "Z" (.int (0 : Int32)) := ((((P3.keep Kc8 nin0).other W11 (Or.inr (slot_ne (Or.inl (hw _ (List.mem_of_getElem? (i := 26) rfl))) (Or.inl (hw _ (List.mem_of_getElem? (i := 12) rfl))) (by decide) (t := .boolean) (t' := (.array .long)) (by decide) (by decide)))).other W16 (Or.inr (slot_ne (Or.inl (hw _ (List.mem_of_getElem? (i := 26) rfl))) (Or.inl (hw _ (List.mem_of_getElem? (i := 19) rfl))) (by decide) (t := .boolean) (t' := .int) (by decide) (by decide)))).other W19 (Or.inl ne_b8_0_pr0))
    exact ⟨N19, b8_0, y8_0, [(.long pj1), (.long (0 : Int64)), (.long (0 : Int64)), (.long (0 : Int64)), (.long (0 : Int64)), (.long (0 : Int64)), (.long (0 : Int64)), (.long (0 : Int64))], rfl, sk_b8_0, K19, f21, f22, f23, f24, V19, rfl⟩
theorem ef_own_addR0 (m : MethodId) (pr0 : Addr) (pj1 : Int64) : entryFrame m #[(.ref pr0), (.long pj1)] 3 = mkF m 0 #[.val (.ref pr0), .val (.long pj1), .second] [] := by first | (simp [entryFrame, mkF, argsToLocals, Value.category]; done) | rfl
def Q_own_addR0 (Z : State) (pr0 : Addr) (pj1 : Int64) (nn : Addr) (ka : ClassId) (wf : Int64) (wst : Int64) (h0 : Heap) (n0 : Nat) (v : Option Value) (h : Heap) (L : List Loc) : Prop := Fr n0 L ∧ ∃ (bb : Addr) (kb : ClassId) (vs : List Value), v = none ∧ h0.size ≤ bb ∧ Keep h0 h ([pr0] : List Addr) ∧ Exa Z h pr0 "com/example/kalends/kalends/engine/LongList" ∧ Fld Z h pr0 "com/example/kalends/kalends/engine/LongList" "values" "[J" (.ref bb) ∧ Fld Z h pr0 "com/example/kalends/kalends/engine/LongList" "size" "I" (.int (1 : Int32)) ∧ Fld Z h pr0 "com/example/kalends/kalends/engine/LongList" "run" "Z" (.int (0 : Int32)) ∧ Arv Z h bb kb .long (8 : Int32) vs (.long (0 : Int64)) ∧ vs.length = 8
set_option maxRecDepth 65536 in
set_option maxHeartbeats 40000000 in
theorem own_addR0 (l : Launch) (Z : State) (a0 : Array Value) (hw : ∀ d ∈ tables_1, d.before a0 Z = true) (ws : List Jvm.Cond) (pr0 : Addr) (pj1 : Int64) (nn : Addr) (ka : ClassId) (wf : Int64) (wst : Int64) (h0 : Heap) (n0 : Nat) (Z0 : n0 ≤ h0.size) (P0 : Exa Z h0 pr0 "com/example/kalends/kalends/engine/LongList") (P1 : Fld Z h0 pr0 "com/example/kalends/kalends/engine/LongList" "values" "[J" (.ref nn)) (P2 : Fld Z h0 pr0 "com/example/kalends/kalends/engine/LongList" "size" "I" (.int (0 : Int32))) (P3 : Fld Z h0 pr0 "com/example/kalends/kalends/engine/LongList" "run" "Z" (.int (1 : Int32))) (P4 : Fld Z h0 pr0 "com/example/kalends/kalends/engine/LongList" "runFirst" "J" (.long wf)) (P5 : Fld Z h0 pr0 "com/example/kalends/kalends/engine/LongList" "runStep" "J" (.long wst)) (P6 : Arv Z h0 nn ka .long (0 : Int32) [] (.long (0 : Int64))) (P7 : nn ≠ pr0) (P8 : n0 ≤ pr0) :
    MetFree l (⟨"com/example/kalends/kalends/engine/LongList", "add", "(J)V"⟩ : MethodName) (head1 (Jvm.Cond.code (⟨"com/example/kalends/kalends/engine/LongList", "add", "(J)V"⟩ : MethodName) prog_9_method_2_code 3 none :: ws) ({ frames := 2, cells := 1, slots := 8, locals := 33 } : Room)) (fun a U => a = #[(.ref pr0), (.long pj1)] ∧ Z.Warmed39 U.vm ∧ U.heap = h0) (fun _ _ _ _ _ => True) (fun _ U o U' => ∃ v L, o = .returned v ∧ Q_own_addR0 Z pr0 pj1 nn ka wf wst h0 n0 v U'.heap L ∧ FrameEnd U o U' L ({ frames := 2, cells := 1, slots := 8, locals := 33 } : Room).cells ({ frames := 2, cells := 1, slots := 8, locals := 33 } : Room).slots) := by
  refine MetFree.of_bodySF (plainFor_of_name pn_4) hisR ?_
  intro p e s m args below meth c s₁ Bd hml0 hP hK
  obtain ⟨rfl, hZ, hh⟩ := hP
  have hx := Bd.exec
  have hby := Bd.bytes
  have hml : c.maxLocals = 3 := hml0
  have hown : s.vm.findClass "com/example/kalends/kalends/engine/LongList" = some m.cls := findClass_of_methodNamed Bd.named
  have hnm := (name_of_methodNamed Bd.named Bd.method).1
  have X0 : Stand p l e ({ frames := 2, cells := 1, slots := 8, locals := 33 } : Room) s m #[(.ref pr0), (.long pj1)] below meth c s₁ [] 0 0 := Stand.of_body Bd
  have e0 : s₁.heap = h0 := by rw [← hh, Bd.state]; rfl
  have N0 := Fr.nil n0
  have go0 : ∀ t, Steps p.tables e below (s₁.setTop (mkF m 0 #[.val (.ref pr0), .val (.long pj1), .second] [])) t → Steps p.tables e below (s₁.setTop (entryFrame m #[(.ref pr0), (.long pj1)] 3)) t := fun t k => castTop (ef_own_addR0 m pr0 pj1) k
  revert go0
  generalize s₁.setTop (entryFrame m #[(.ref pr0), (.long pj1)] 3) = st0
  intro go0
  obtain ⟨T1, X1, e1, st1⟩ := getF X0 hx hZ hown (host := "") (Or.inl (hw _ (List.mem_of_getElem? (i := 25) rfl))) Via.refl e0 P3 (g := (mkF m 1 #[.val (.ref pr0), .val (.long pj1), .second] [(.ref pr0)])) rfl rfl (hb hby d11_1)
  obtain ⟨cq2, q2, q2'⟩ := P0.cell
  obtain ⟨_, _, ⟨T2, L2, k2, n2⟩, -, X2, ⟨Lc2, hQ2, l2, y2, z2⟩, st2⟩ := X1.privateBack hx (y := (⟨"com/example/kalends/kalends/engine/LongList", "keepRun", "()V"⟩ : MethodName)) hown (mvT hZ (hw _ (List.mem_of_getElem? (i := 36) rfl))) (mvT hZ (hw _ (List.mem_of_getElem? (i := 37) rfl))) (Jvm.Kit.selects_private (by decide) (mvT hZ (hw _ (List.mem_of_getElem? (i := 1) rfl))) (mvP hZ (hw _ (List.mem_of_getElem? (i := 38) rfl))) (mvT hZ (hw _ (List.mem_of_getElem? (i := 37) rfl)))) (Cond.privateMethod_at (mvP hZ (hw _ (List.mem_of_getElem? (i := 38) rfl)) (args := #[]))) (mvT hZ (hw _ (List.mem_of_getElem? (i := 39) rfl))) (by decide) (backOf (W := 0) (own_keep0 l Z a0 hw [] pr0 nn ka wf wst h0 n0 Z0 P0 P1 P2 P3 P4 P5 P6 P7 P8) hZ (hw _ (List.mem_of_getElem? (i := 39) rfl)) (hw _ (List.mem_of_getElem? (i := 2) rfl)) (by decide) (by decide)) (g := (mkF m 8 #[.val (.ref pr0), .val (.long pj1), .second] [(.ref pr0)])) rfl (by rw [hml]; rfl) (Steps.refl _) (a := pr0) (by rw [e1]; exact q2) q2' (argsL := []) (rest := []) (lenOf pd_13 rfl) rfl (by show 2 * 0 + _ ≤ _; exact Nat.le_of_eq rfl) (hb hby d11_8) (fun _ _ => ⟨rfl, e1, (by decide : 0 + 0 ≤ _), (by decide : 0 + 0 ≤ _)⟩)
  dsimp only [Pt.U, Pt.locs, Pt.cells, Pt.slots] at X2 l2 y2 z2 st2 hQ2
  subst l2 y2 z2
  obtain ⟨Nq2, rfl, Kc2, p2_0, p2_1, p2_2, p2_3, p2_4, p2_5⟩ := hQ2
  have N2 := Fr.app N0 Nq2
  have K2 : Keep h0 T2.heap ([pr0] : List Addr) := (Keep.refl h0 ([pr0] : List Addr)).trans Kc2 (allS (P := fun x => x ∈ ([pr0] : List Addr) ∨ h0.size ≤ x) (Or.inl (List.mem_of_getElem? (i := 0) rfl)) all0)
  have Z2 : n0 ≤ T2.heap.size := Nat.le_trans Z0 Kc2.1
  obtain ⟨T3, X3, e3, st3⟩ := getF X2 hx hZ hown (host := "") (Or.inl (hw _ (List.mem_of_getElem? (i := 18) rfl))) Via.refl rfl p2_2 (g := (mkF m 12 #[.val (.ref pr0), .val (.long pj1), .second] [(.ref pr0)])) rfl rfl (hb hby d11_12)
  obtain ⟨T4, X4, e4, st4⟩ := getF X3 hx hZ hown (host := "") (Or.inl (hw _ (List.mem_of_getElem? (i := 11) rfl))) Via.refl e3 p2_1 (g := (mkF m 16 #[.val (.ref pr0), .val (.long pj1), .second] [(.ref pr0), (.int (0 : Int32))])) rfl rfl (hb hby d11_16)
  have f5 : Arv Z T2.heap nn ka .long (0 : Int32) [] (.long (0 : Int64)) := (P6.keep Kc2 (ninS P7 nin0))
  obtain ⟨cl6, Ar6, q6, S6, N6, H6, G6⟩ := id f5
  obtain ⟨T7, X7, e7, st7⟩ := getF X4 hx hZ hown (host := "") (Or.inl (hw _ (List.mem_of_getElem? (i := 11) rfl))) Via.refl e4 p2_1 (g := (mkF m 25 #[.val (.ref pr0), .val (.long pj1), .second] [(.ref pr0), (.ref pr0)])) rfl rfl (hb hby d11_25)
  obtain ⟨T8, X8, e8, st8⟩ := getF X7 hx hZ hown (host := "") (Or.inl (hw _ (List.mem_of_getElem? (i := 18) rfl))) Via.refl e7 p2_2 (g := (mkF m 31 #[.val (.ref pr0), .val (.long pj1), .second] [(.ref pr0), (.int (8 : Int32)), (.ref nn), (.ref pr0)])) rfl rfl (hb hby d11_31)
  obtain ⟨_, _, ⟨T9, L9, k9, n9⟩, -, X9, ⟨Lc9, hQ9, l9, y9, z9⟩, st9⟩ := Jvm.LawKit.callS X8 hx (y := (⟨"java/lang/Math", "max", "(II)I"⟩ : MethodName)) hown (mvT hZ (hw _ (List.mem_of_getElem? (i := 40) rfl))) (mvT hZ (hw _ (List.mem_of_getElem? (i := 41) rfl))) (mvT hZ (hw _ (List.mem_of_getElem? (i := 42) rfl))) (mvT hZ (hw _ (List.mem_of_getElem? (i := 43) rfl))) (by decide) (backOf (W := 2) (own_max_f l Z a0 hw [] (8 : Int32) (0 : Int32) T2.heap n0 Z2 (by decide : ¬ ((8 : Int32) < (0 : Int32)))) hZ (hw _ (List.mem_of_getElem? (i := 43) rfl)) (hw _ (List.mem_of_getElem? (i := 42) rfl)) (by decide) (by decide)) (g := (mkF m 36 #[.val (.ref pr0), .val (.long pj1), .second] [(.int (0 : Int32)), (.int (8 : Int32)), (.ref nn), (.ref pr0)])) rfl (by rw [hml]; rfl) (argsL := [(.int (8 : Int32)), (.int (0 : Int32))]) (rest := [(.ref nn), (.ref pr0)]) (lenOf pd_8 rfl) rfl (by show 2 * 0 + _ ≤ _; exact Nat.le_of_eq rfl) (hb hby d11_36) (fun _ _ => ⟨rfl, e8, (by decide : 0 + 0 ≤ _), (by decide : 0 + 0 ≤ _)⟩)
  dsimp only [Pt.U, Pt.locs, Pt.cells, Pt.slots] at X9 l9 y9 z9 st9 hQ9
  subst l9 y9 z9
  obtain ⟨rfl, Nq9, e9⟩ := hQ9
  have N9 := Fr.app N2 Nq9
  obtain ⟨_, _, ⟨T10, L10, k10, n10⟩, -, X10, ⟨Lc10, hQ10, l10, y10, z10⟩, st10⟩ := Jvm.LawKit.callS X9 hx (y := (⟨"java/util/Arrays", "copyOf", "([JI)[J"⟩ : MethodName)) hown (mvT hZ (hw _ (List.mem_of_getElem? (i := 44) rfl))) (mvT hZ (hw _ (List.mem_of_getElem? (i := 45) rfl))) (mvT hZ (hw _ (List.mem_of_getElem? (i := 46) rfl))) (mvT hZ (hw _ (List.mem_of_getElem? (i := 47) rfl))) (by decide) (backOf (W := 1) (own_copy l Z a0 hw [] nn ka T2.heap n0 Z2 f5) hZ (hw _ (List.mem_of_getElem? (i := 47) rfl)) (hw _ (List.mem_of_getElem? (i := 46) rfl)) (by decide) (by decide)) (g := (mkF m 39 #[.val (.ref pr0), .val (.long pj1), .second] [(.int (8 : Int32)), (.ref nn), (.ref pr0)])) rfl (by rw [hml]; rfl) (argsL := [(.ref nn), (.int (8 : Int32))]) (rest := [(.ref pr0)]) (lenOf pd_12 rfl) rfl (by show 2 * 0 + _ ≤ _; exact Nat.le_of_eq rfl) (hb hby d11_39) (fun _ _ => ⟨rfl, e9, (by decide : 0 + 1 ≤ _), (by decide : 0 + 8 ≤ _)⟩)
  dsimp only [Pt.U, Pt.locs, Pt.cells, Pt.slots] at X10 l10 y10 z10 st10 hQ10
  subst l10 y10 z10
  obtain ⟨Nq10, b10_0, y10_0, rfl, szb10_0, Kc10, p10_0⟩ := hQ10
  have N10 := Fr.app N9 Nq10
  have ne_b10_0_nn : nn ≠ b10_0 := Nat.ne_of_lt (Nat.lt_of_lt_of_le f5.lt szb10_0)
  have ne_b10_0_pr0 : pr0 ≠ b10_0 := Nat.ne_of_lt (Nat.lt_of_lt_of_le p2_0.lt szb10_0)
  have ge_b10_0 : n0 ≤ b10_0 := Nat.le_trans Z2 szb10_0
  have sk_b10_0 : h0.size ≤ b10_0 := Nat.le_trans K2.1 szb10_0
  have K10 : Keep h0 T10.heap ([pr0] : List Addr) := K2.trans Kc10 all0
  have Z10 : n0 ≤ T10.heap.size := Nat.le_trans Z2 Kc10.1
  have f11 : Fld Z T10.heap pr0 "com/example/kalends/kalends/engine/LongList" "values" "[J" (.ref nn) := (p2_1.keep Kc10 nin0)
  have f12 : Exa Z T10.heap pr0 "com/example/kalends/kalends/engine/LongList" := (p2_0.keep Kc10)
  obtain ⟨T13, h13, X13, e13, W13, st13⟩ := putF X10 hx hZ hown (host := "") (Or.inl (hw _ (List.mem_of_getElem? (i := 11) rfl))) Via.refl rfl f11 f12 (Or.inl (hw _ (List.mem_of_getElem? (i := 12) rfl))) (hw _ (List.mem_of_getElem? (i := 1) rfl)) (ty := (.array .long)) (by decide) rfl rfl (g := (mkF m 42 #[.val (.ref pr0), .val (.long pj1), .second] [(.ref b10_0), (.ref pr0)])) rfl rfl (hb hby d11_42)
  have K13 : Keep h0 h13 ([pr0] : List Addr) := K10.wr W13 (Or.inl (List.mem_of_getElem? (i := 0) rfl))
  have N13 := Fr.snoc X13 N10 P8
  have Z13 : n0 ≤ h13.size := Nat.le_trans Z10 (Keep.of_wr W13).1
  have Fw13 := f11.same W13
  obtain ⟨T14, X14, e14, st14⟩ := getF X13 hx hZ hown (host := "") (Or.inl (hw _ (List.mem_of_getElem? (i := 11) rfl))) Via.refl e13 Fw13 (g := (mkF m 46 #[.val (.ref pr0), .val (.long pj1), .second] [(.ref pr0)])) rfl rfl (hb hby d11_46)
  have f15 : Fld Z h13 pr0 "com/example/kalends/kalends/engine/LongList" "size" "I" (.int (0 : Int32)) := ((p2_2.keep Kc10 nin0).other W13 (Or.inr (slot_ne (Or.inl (hw _ (List.mem_of_getElem? (i := 19) rfl))) (Or.inl (hw _ (List.mem_of_getElem? (i := 12) rfl))) (by decide) (t := .int) (t' := (.array .long)) (by decide) (by decide))))
  obtain ⟨T16, X16, e16, st16⟩ := getF X14 hx hZ hown (host := "") (Or.inl (hw _ (List.mem_of_getElem? (i := 18) rfl))) Via.refl e14 f15 (g := (mkF m 51 #[.val (.ref pr0), .val (.long pj1), .second] [(.ref pr0), (.ref pr0), (.ref b10_0)])) rfl rfl (hb hby d11_51)
  have f17 : Exa Z h13 pr0 "com/example/kalends/kalends/engine/LongList" := (f12.wr W13)
  obtain ⟨T18, h18, X18, e18, W18, st18⟩ := putF X16 hx hZ hown (host := "") (Or.inl (hw _ (List.mem_of_getElem? (i := 18) rfl))) Via.refl e16 f15 f17 (Or.inl (hw _ (List.mem_of_getElem? (i := 19) rfl))) (hw _ (List.mem_of_getElem? (i := 1) rfl)) (ty := .int) (by decide) rfl rfl (g := (mkF m 57 #[.val (.ref pr0), .val (.long pj1), .second] [(.int (1 : Int32)), (.ref pr0), (.int (0 : Int32)), (.ref b10_0)])) rfl rfl (hb hby d11_57)
  have K18 : Keep h0 h18 ([pr0] : List Addr) := K13.wr W18 (Or.inl (List.mem_of_getElem? (i := 0) rfl))
  have N18 := Fr.snoc X18 N13 P8
  have Z18 : n0 ≤ h18.size := Nat.le_trans Z13 (Keep.of_wr W18).1
  have Fw18 := f15.same W18
  have f19 : Arv Z h18 b10_0 y10_0 .long (8 : Int32) [(.long (0 : Int64)), (.long (0 : Int64)), (.long (0 : Int64)), (.long (0 : Int64)), (.long (0 : Int64)), (.long (0 : Int64)), (.long (0 : Int64)), (.long (0 : Int64))] (.long (0 : Int64)) := ((p10_0.other W13 (Ne.symm ne_b10_0_pr0)).other W18 (Ne.symm ne_b10_0_pr0))
  obtain ⟨cl20, Ar20, q20, S20, N20, H20, G20⟩ := id f19
  have hin20 : ¬ ((0 : Int32) < 0 ∨ cl20.slots.size ≤ ((0 : Int32)).toNatClampNeg) := inb_of S20 ⟨by decide, by decide⟩
  obtain ⟨T21, h21, X21, e21, W21, st21⟩ := stJ X18 hx hZ e18 Ar20 (j := (0 : Int32)) hin20 (g := (mkF m 61 #[.val (.ref pr0), .val (.long pj1), .second] [(.long pj1), (.int (0 : Int32)), (.ref b10_0)])) rfl rfl (hb hby d11_61)
  have K21 : Keep h0 h21 ([pr0] : List Addr) := K18.wr W21 (Or.inr sk_b10_0)
  have N21 := Fr.snoc X21 N18 ge_b10_0
  have Z21 : n0 ≤ h21.size := Nat.le_trans Z18 (Keep.of_wr W21).1
  have V21 : Arv Z h21 b10_0 y10_0 .long (8 : Int32) [(.long pj1), (.long (0 : Int64)), (.long (0 : Int64)), (.long (0 : Int64)), (.long (0 : Int64)), (.long (0 : Int64)), (.long (0 : Int64)), (.long (0 : Int64))] (.long (0 : Int64)) := Arv.set Ar20 q20 S20 N20 H20 G20 rfl W21 0 rfl (Nat.le_of_ble_eq_true rfl)
  have go22 : ∀ t, Steps p.tables e below (T21.setTop (mkF m 62 #[.val (.ref pr0), .val (.long pj1), .second] [])) t → Steps p.tables e below st0 t := by
    intro t kt
    refine go0 t ?_
    refine XS.aloadN X0.here hx rfl (hb hby d11_0) rfl rfl ?_
    show Steps p.tables e below (s₁.setTop (mkF m 1 #[.val (.ref pr0), .val (.long pj1), .second] [(.ref pr0)])) _
    refine st1 _ ?_
    show Steps p.tables e below (T1.setTop (mkF m 4 #[.val (.ref pr0), .val (.long pj1), .second] [(.int (1 : Int32))])) _
    refine XS.ifNo X1.here hx rfl (hb hby d11_4) rfl ((if0 _ _).trans (feq (by decide : ¬ ((1 : Int32) = (0 : Int32)))).1) ?_
    show Steps p.tables e below (T1.setTop (mkF m 7 #[.val (.ref pr0), .val (.long pj1), .second] [])) _
    refine XS.aloadN X1.here hx rfl (hb hby d11_7) rfl rfl ?_
    show Steps p.tables e below (T1.setTop (mkF m 8 #[.val (.ref pr0), .val (.long pj1), .second] [(.ref pr0)])) _
    refine st2.trans ?_
    show Steps p.tables e below (T2.setTop (mkF m 11 #[.val (.ref pr0), .val (.long pj1), .second] [])) _
    refine XS.aloadN X2.here hx rfl (hb hby d11_11) rfl rfl ?_
    show Steps p.tables e below (T2.setTop (mkF m 12 #[.val (.ref pr0), .val (.long pj1), .second] [(.ref pr0)])) _
    refine st3 _ ?_
    show Steps p.tables e below (T3.setTop (mkF m 15 #[.val (.ref pr0), .val (.long pj1), .second] [(.int (0 : Int32))])) _
    refine XS.aloadN X3.here hx rfl (hb hby d11_15) rfl rfl ?_
    show Steps p.tables e below (T3.setTop (mkF m 16 #[.val (.ref pr0), .val (.long pj1), .second] [(.ref pr0), (.int (0 : Int32))])) _
    refine st4 _ ?_
    show Steps p.tables e below (T4.setTop (mkF m 19 #[.val (.ref pr0), .val (.long pj1), .second] [(.ref nn), (.int (0 : Int32))])) _
    refine X4.arraylength hx (by rw [e4]; exact Ar6.1) (State.isArrayOf_alike hZ.alike Ar6.2.1) (g := (mkF m 19 #[.val (.ref pr0), .val (.long pj1), .second] [(.ref nn), (.int (0 : Int32))])) rfl rfl (hb hby d11_19) _ ?_
    rw [len_of S6 N6]
    show Steps p.tables e below (T4.setTop (mkF m 20 #[.val (.ref pr0), .val (.long pj1), .second] [(.int (0 : Int32)), (.int (0 : Int32))])) _
    refine XS.icmpNo X4.here hx rfl (hb hby d11_20) rfl (teq (by decide : (0 : Int32) = (0 : Int32))).2 ?_
    show Steps p.tables e below (T4.setTop (mkF m 23 #[.val (.ref pr0), .val (.long pj1), .second] [])) _
    refine XS.aloadN X4.here hx rfl (hb hby d11_23) rfl rfl ?_
    show Steps p.tables e below (T4.setTop (mkF m 24 #[.val (.ref pr0), .val (.long pj1), .second] [(.ref pr0)])) _
    refine XS.aloadN X4.here hx rfl (hb hby d11_24) rfl rfl ?_
    show Steps p.tables e below (T4.setTop (mkF m 25 #[.val (.ref pr0), .val (.long pj1), .second] [(.ref pr0), (.ref pr0)])) _
    refine st7 _ ?_
    show Steps p.tables e below (T7.setTop (mkF m 28 #[.val (.ref pr0), .val (.long pj1), .second] [(.ref nn), (.ref pr0)])) _
    refine XS.bipush X7.here hx rfl (hb hby d11_28) ?_
    show Steps p.tables e below (T7.setTop (mkF m 30 #[.val (.ref pr0), .val (.long pj1), .second] [(.int (8 : Int32)), (.ref nn), (.ref pr0)])) _
    refine XS.aloadN X7.here hx rfl (hb hby d11_30) rfl rfl ?_
    show Steps p.tables e below (T7.setTop (mkF m 31 #[.val (.ref pr0), .val (.long pj1), .second] [(.ref pr0), (.int (8 : Int32)), (.ref nn), (.ref pr0)])) _
    refine st8 _ ?_
    show Steps p.tables e below (T8.setTop (mkF m 34 #[.val (.ref pr0), .val (.long pj1), .second] [(.int (0 : Int32)), (.int (8 : Int32)), (.ref nn), (.ref pr0)])) _
    refine XS.iconst X8.here hx rfl (hb hby d11_34) ?_
    show Steps p.tables e below (T8.setTop (mkF m 35 #[.val (.ref pr0), .val (.long pj1), .second] [(.int (2 : Int32)), (.int (0 : Int32)), (.int (8 : Int32)), (.ref nn), (.ref pr0)])) _
    refine XS.imul X8.here hx rfl (hb hby d11_35) rfl ?_
    show Steps p.tables e below (T8.setTop (mkF m 36 #[.val (.ref pr0), .val (.long pj1), .second] [(.int (0 : Int32)), (.int (8 : Int32)), (.ref nn), (.ref pr0)])) _
    refine st9 _ ?_
    show Steps p.tables e below (T9.setTop (mkF m 39 #[.val (.ref pr0), .val (.long pj1), .second] [(.int (8 : Int32)), (.ref nn), (.ref pr0)])) _
    refine st10 _ ?_
    show Steps p.tables e below (T10.setTop (mkF m 42 #[.val (.ref pr0), .val (.long pj1), .second] [(.ref b10_0), (.ref pr0)])) _
    refine st13 _ ?_
    show Steps p.tables e below (T13.setTop (mkF m 45 #[.val (.ref pr0), .val (.long pj1), .second] [])) _
    refine XS.aloadN X13.here hx rfl (hb hby d11_45) rfl rfl ?_
    show Steps p.tables e below (T13.setTop (mkF m 46 #[.val (.ref pr0), .val (.long pj1), .second] [(.ref pr0)])) _
    refine st14 _ ?_
    show Steps p.tables e below (T14.setTop (mkF m 49 #[.val (.ref pr0), .val (.long pj1), .second] [(.ref b10_0)])) _
    refine XS.aloadN X14.here hx rfl (hb hby d11_49) rfl rfl ?_
    show Steps p.tables e below (T14.setTop (mkF m 50 #[.val (.ref pr0), .val (.long pj1), .second] [(.ref pr0), (.ref b10_0)])) _
    refine XS.dup X14.here hx rfl (hb hby d11_50) rfl rfl ?_
    show Steps p.tables e below (T14.setTop (mkF m 51 #[.val (.ref pr0), .val (.long pj1), .second] [(.ref pr0), (.ref pr0), (.ref b10_0)])) _
    refine st16 _ ?_
    show Steps p.tables e below (T16.setTop (mkF m 54 #[.val (.ref pr0), .val (.long pj1), .second] [(.int (0 : Int32)), (.ref pr0), (.ref b10_0)])) _
    refine XS.dupX1 X16.here hx rfl (hb hby d11_54) rfl rfl rfl ?_
    show Steps p.tables e below (T16.setTop (mkF m 55 #[.val (.ref pr0), .val (.long pj1), .second] [(.int (0 : Int32)), (.ref pr0), (.int (0 : Int32)), (.ref b10_0)])) _
    refine XS.iconst X16.here hx rfl (hb hby d11_55) ?_
    show Steps p.tables e below (T16.setTop (mkF m 56 #[.val (.ref pr0), .val (.long pj1), .second] [(.int (1 : Int32)), (.int (0 : Int32)), (.ref pr0), (.int (0 : Int32)), (.ref b10_0)])) _
    refine XS.iadd X16.here hx rfl (hb hby d11_56) rfl ?_
    show Steps p.tables e below (T16.setTop (mkF m 57 #[.val (.ref pr0), .val (.long pj1), .second] [(.int (1 : Int32)), (.ref pr0), (.int (0 : Int32)), (.ref b10_0)])) _
    refine st18 _ ?_
    show Steps p.tables e below (T18.setTop (mkF m 60 #[.val (.ref pr0), .val (.long pj1), .second] [(.int (0 : Int32)), (.ref b10_0)])) _
    refine XS.lloadN X18.here hx rfl (hb hby d11_60) rfl ?_
    show Steps p.tables e below (T18.setTop (mkF m 61 #[.val (.ref pr0), .val (.long pj1), .second] [(.long pj1), (.int (0 : Int32)), (.ref b10_0)])) _
    refine st21 _ ?_
    show Steps p.tables e below (T21.setTop (mkF m 62 #[.val (.ref pr0), .val (.long pj1), .second] [])) _
    exact kt
  obtain ⟨fs, hr, hrun, hended, hW, hsame⟩ := X21.leave (v := none) (fun _ => rfl)
  refine ⟨_, _, go22 _ ?_, hrun, hended, _, _, rfl, ?_, ⟨_, rfl⟩, hW, hsame.mono (by decide) (by decide)⟩
  · exact X21.returnOut hx Bd.returns (hb hby d11_62) hr
  · show Q_own_addR0 Z pr0 pj1 nn ka wf wst h0 n0 _ T21.heap _
    rw [e21]
    have f23 : Exa Z h21 pr0 "com/example/kalends/kalends/engine/LongList" := ((f17.wr W18).wr W21)
    have f24 : Fld Z h21 pr0 "com/example/kalends/kalends/engine/LongList" "values" "[J" (.ref b10_0) := ((Fw13.other W18 (Or.inr (slot_ne (Or.inl (hw _ (List.mem_of_getElem? (i := 12) rfl))) (Or.inl (hw _ (List.mem_of_getElem? (i := 19) rfl))) (by decide) (t := (.array .long)) (t' := .int) (by decide) (by decide)))).other W21 (Or.inl ne_b10_0_pr0))
    have f25 : Fld Z h21 pr0 "com/example/kalends/kalends/engine/LongList" "size" "I" (.int (1 : Int32)) := (Fw18.other W21 (Or.inl ne_b10_0_pr0))
    have f26 : Fld Z h21 pr0 "com/example/kalends/kalends/engine/LongList" "run" "Z" (.int (0 : Int32)) := ((((p2_3.keep Kc10 nin0).other W13 (Or.inr (slot_ne (Or.inl (hw _ (List.mem_of_getElem? (i := 26) rfl))) (Or.inl (hw _ (List.mem_of_getElem? (i := 12) rfl))) (by decide) (t := .boolean) (t' := (.array .long)) (by decide) (by decide)))).other W18 (Or.inr (slot_ne (Or.inl (hw _ (List.mem_of_getElem? (i := 26) rfl))) (Or.inl (hw _ (List.mem_of_getElem? (i := 19) rfl))) (by decide) (t := .boolean) (t' := .int) (by decide) (by decide)))).other W21 (Or.inl ne_b10_0_pr0))
    exact ⟨N21, b10_0, y10_0, [(.long pj1), (.long (0 : Int64)), (.long (0 : Int64)), (.long (0 : Int64)), (.long (0 : Int64)), (.long (0 : Int64)), (.long (0 : Int64)), (.long (0 : Int64))], rfl, sk_b10_0, K21, f23, f24, f25, f26, V21, rfl⟩
theorem ef_own_addR1 (m : MethodId) (pr0 : Addr) (pj1 : Int64) : entryFrame m #[(.ref pr0), (.long pj1)] 3 = mkF m 0 #[.val (.ref pr0), .val (.long pj1), .second] [] := by first | (simp [entryFrame, mkF, argsToLocals, Value.category]; done) | rfl
def Q_own_addR1 (Z : State) (pr0 : Addr) (pj1 : Int64) (nn : Addr) (ka : ClassId) (wf : Int64) (wst : Int64) (h0 : Heap) (n0 : Nat) (v : Option Value) (h : Heap) (L : List Loc) : Prop := Fr n0 L ∧ ∃ (bb : Addr) (kb : ClassId) (vs : List Value), v = none ∧ h0.size ≤ bb ∧ Keep h0 h ([pr0] : List Addr) ∧ Exa Z h pr0 "com/example/kalends/kalends/engine/LongList" ∧ Fld Z h pr0 "com/example/kalends/kalends/engine/LongList" "values" "[J" (.ref bb) ∧ Fld Z h pr0 "com/example/kalends/kalends/engine/LongList" "size" "I" (.int (2 : Int32)) ∧ Fld Z h pr0 "com/example/kalends/kalends/engine/LongList" "run" "Z" (.int (0 : Int32)) ∧ Arv Z h bb kb .long (8 : Int32) vs (.long (0 : Int64)) ∧ vs.length = 8
set_option maxRecDepth 65536 in
set_option maxHeartbeats 40000000 in
theorem own_addR1 (l : Launch) (Z : State) (a0 : Array Value) (hw : ∀ d ∈ tables_1, d.before a0 Z = true) (ws : List Jvm.Cond) (pr0 : Addr) (pj1 : Int64) (nn : Addr) (ka : ClassId) (wf : Int64) (wst : Int64) (h0 : Heap) (n0 : Nat) (Z0 : n0 ≤ h0.size) (P0 : Exa Z h0 pr0 "com/example/kalends/kalends/engine/LongList") (P1 : Fld Z h0 pr0 "com/example/kalends/kalends/engine/LongList" "values" "[J" (.ref nn)) (P2 : Fld Z h0 pr0 "com/example/kalends/kalends/engine/LongList" "size" "I" (.int (1 : Int32))) (P3 : Fld Z h0 pr0 "com/example/kalends/kalends/engine/LongList" "run" "Z" (.int (1 : Int32))) (P4 : Fld Z h0 pr0 "com/example/kalends/kalends/engine/LongList" "runFirst" "J" (.long wf)) (P5 : Fld Z h0 pr0 "com/example/kalends/kalends/engine/LongList" "runStep" "J" (.long wst)) (P6 : Arv Z h0 nn ka .long (0 : Int32) [] (.long (0 : Int64))) (P7 : nn ≠ pr0) (P8 : n0 ≤ pr0) :
    MetFree l (⟨"com/example/kalends/kalends/engine/LongList", "add", "(J)V"⟩ : MethodName) (head1 (Jvm.Cond.code (⟨"com/example/kalends/kalends/engine/LongList", "add", "(J)V"⟩ : MethodName) prog_9_method_2_code 3 none :: ws) ({ frames := 2, cells := 1, slots := 8, locals := 27 } : Room)) (fun a U => a = #[(.ref pr0), (.long pj1)] ∧ Z.Warmed39 U.vm ∧ U.heap = h0) (fun _ _ _ _ _ => True) (fun _ U o U' => ∃ v L, o = .returned v ∧ Q_own_addR1 Z pr0 pj1 nn ka wf wst h0 n0 v U'.heap L ∧ FrameEnd U o U' L ({ frames := 2, cells := 1, slots := 8, locals := 27 } : Room).cells ({ frames := 2, cells := 1, slots := 8, locals := 27 } : Room).slots) := by
  refine MetFree.of_bodySF (plainFor_of_name pn_4) hisR ?_
  intro p e s m args below meth c s₁ Bd hml0 hP hK
  obtain ⟨rfl, hZ, hh⟩ := hP
  have hx := Bd.exec
  have hby := Bd.bytes
  have hml : c.maxLocals = 3 := hml0
  have hown : s.vm.findClass "com/example/kalends/kalends/engine/LongList" = some m.cls := findClass_of_methodNamed Bd.named
  have hnm := (name_of_methodNamed Bd.named Bd.method).1
  have X0 : Stand p l e ({ frames := 2, cells := 1, slots := 8, locals := 27 } : Room) s m #[(.ref pr0), (.long pj1)] below meth c s₁ [] 0 0 := Stand.of_body Bd
  have e0 : s₁.heap = h0 := by rw [← hh, Bd.state]; rfl
  have N0 := Fr.nil n0
  have go0 : ∀ t, Steps p.tables e below (s₁.setTop (mkF m 0 #[.val (.ref pr0), .val (.long pj1), .second] [])) t → Steps p.tables e below (s₁.setTop (entryFrame m #[(.ref pr0), (.long pj1)] 3)) t := fun t k => castTop (ef_own_addR1 m pr0 pj1) k
  revert go0
  generalize s₁.setTop (entryFrame m #[(.ref pr0), (.long pj1)] 3) = st0
  intro go0
  obtain ⟨T1, X1, e1, st1⟩ := getF X0 hx hZ hown (host := "") (Or.inl (hw _ (List.mem_of_getElem? (i := 25) rfl))) Via.refl e0 P3 (g := (mkF m 1 #[.val (.ref pr0), .val (.long pj1), .second] [(.ref pr0)])) rfl rfl (hb hby d11_1)
  obtain ⟨cq2, q2, q2'⟩ := P0.cell
  obtain ⟨_, _, ⟨T2, L2, k2, n2⟩, -, X2, ⟨Lc2, hQ2, l2, y2, z2⟩, st2⟩ := X1.privateBack hx (y := (⟨"com/example/kalends/kalends/engine/LongList", "keepRun", "()V"⟩ : MethodName)) hown (mvT hZ (hw _ (List.mem_of_getElem? (i := 36) rfl))) (mvT hZ (hw _ (List.mem_of_getElem? (i := 37) rfl))) (Jvm.Kit.selects_private (by decide) (mvT hZ (hw _ (List.mem_of_getElem? (i := 1) rfl))) (mvP hZ (hw _ (List.mem_of_getElem? (i := 38) rfl))) (mvT hZ (hw _ (List.mem_of_getElem? (i := 37) rfl)))) (Cond.privateMethod_at (mvP hZ (hw _ (List.mem_of_getElem? (i := 38) rfl)) (args := #[]))) (mvT hZ (hw _ (List.mem_of_getElem? (i := 39) rfl))) (by decide) (backOf (W := 0) (own_keep1 l Z a0 hw [] pr0 nn ka wf wst h0 n0 Z0 P0 P1 P2 P3 P4 P5 P6 P7 P8) hZ (hw _ (List.mem_of_getElem? (i := 39) rfl)) (hw _ (List.mem_of_getElem? (i := 2) rfl)) (by decide) (by decide)) (g := (mkF m 8 #[.val (.ref pr0), .val (.long pj1), .second] [(.ref pr0)])) rfl (by rw [hml]; rfl) (Steps.refl _) (a := pr0) (by rw [e1]; exact q2) q2' (argsL := []) (rest := []) (lenOf pd_13 rfl) rfl (by show 2 * 0 + _ ≤ _; exact Nat.le_of_eq rfl) (hb hby d11_8) (fun _ _ => ⟨rfl, e1, (by decide : 0 + 1 ≤ _), (by decide : 0 + 8 ≤ _)⟩)
  dsimp only [Pt.U, Pt.locs, Pt.cells, Pt.slots] at X2 l2 y2 z2 st2 hQ2
  subst l2 y2 z2
  obtain ⟨Nq2, b2_0, y2_0, rfl, szb2_0, Kc2, p2_0, p2_1, p2_2, p2_3, p2_4, p2_5, p2_6⟩ := hQ2
  have N2 := Fr.app N0 Nq2
  have ne_b2_0_nn : nn ≠ b2_0 := Nat.ne_of_lt (Nat.lt_of_lt_of_le P6.lt szb2_0)
  have ne_b2_0_pr0 : pr0 ≠ b2_0 := Nat.ne_of_lt (Nat.lt_of_lt_of_le P0.lt szb2_0)
  have ge_b2_0 : n0 ≤ b2_0 := Nat.le_trans Z0 szb2_0
  have sk_b2_0 : h0.size ≤ b2_0 := Nat.le_trans (Keep.refl h0 ([pr0] : List Addr)).1 szb2_0
  have K2 : Keep h0 T2.heap ([pr0] : List Addr) := (Keep.refl h0 ([pr0] : List Addr)).trans Kc2 (allS (P := fun x => x ∈ ([pr0] : List Addr) ∨ h0.size ≤ x) (Or.inl (List.mem_of_getElem? (i := 0) rfl)) all0)
  have Z2 : n0 ≤ T2.heap.size := Nat.le_trans Z0 Kc2.1
  obtain ⟨T3, X3, e3, st3⟩ := getF X2 hx hZ hown (host := "") (Or.inl (hw _ (List.mem_of_getElem? (i := 18) rfl))) Via.refl rfl p2_2 (g := (mkF m 12 #[.val (.ref pr0), .val (.long pj1), .second] [(.ref pr0)])) rfl rfl (hb hby d11_12)
  obtain ⟨T4, X4, e4, st4⟩ := getF X3 hx hZ hown (host := "") (Or.inl (hw _ (List.mem_of_getElem? (i := 11) rfl))) Via.refl e3 p2_1 (g := (mkF m 16 #[.val (.ref pr0), .val (.long pj1), .second] [(.ref pr0), (.int (1 : Int32))])) rfl rfl (hb hby d11_16)
  obtain ⟨cl5, Ar5, q5, S5, N5, H5, G5⟩ := id p2_6
  obtain ⟨T6, X6, e6, st6⟩ := getF X4 hx hZ hown (host := "") (Or.inl (hw _ (List.mem_of_getElem? (i := 11) rfl))) Via.refl e4 p2_1 (g := (mkF m 46 #[.val (.ref pr0), .val (.long pj1), .second] [(.ref pr0)])) rfl rfl (hb hby d11_46)
  obtain ⟨T7, X7, e7, st7⟩ := getF X6 hx hZ hown (host := "") (Or.inl (hw _ (List.mem_of_getElem? (i := 18) rfl))) Via.refl e6 p2_2 (g := (mkF m 51 #[.val (.ref pr0), .val (.long pj1), .second] [(.ref pr0), (.ref pr0), (.ref b2_0)])) rfl rfl (hb hby d11_51)
  obtain ⟨T8, h8, X8, e8, W8, st8⟩ := putF X7 hx hZ hown (host := "") (Or.inl (hw _ (List.mem_of_getElem? (i := 18) rfl))) Via.refl e7 p2_2 p2_0 (Or.inl (hw _ (List.mem_of_getElem? (i := 19) rfl))) (hw _ (List.mem_of_getElem? (i := 1) rfl)) (ty := .int) (by decide) rfl rfl (g := (mkF m 57 #[.val (.ref pr0), .val (.long pj1), .second] [(.int (2 : Int32)), (.ref pr0), (.int (1 : Int32)), (.ref b2_0)])) rfl rfl (hb hby d11_57)
  have K8 : Keep h0 h8 ([pr0] : List Addr) := K2.wr W8 (Or.inl (List.mem_of_getElem? (i := 0) rfl))
  have N8 := Fr.snoc X8 N2 P8
  have Z8 : n0 ≤ h8.size := Nat.le_trans Z2 (Keep.of_wr W8).1
  have Fw8 := p2_2.same W8
  have f9 : Arv Z h8 b2_0 y2_0 .long (8 : Int32) [(.long (wf + ((0 : Int64) * wst))), (.long (0 : Int64)), (.long (0 : Int64)), (.long (0 : Int64)), (.long (0 : Int64)), (.long (0 : Int64)), (.long (0 : Int64)), (.long (0 : Int64))] (.long (0 : Int64)) := (p2_6.other W8 (Ne.symm ne_b2_0_pr0))
  obtain ⟨cl10, Ar10, q10, S10, N10, H10, G10⟩ := id f9
  have hin10 : ¬ ((1 : Int32) < 0 ∨ cl10.slots.size ≤ ((1 : Int32)).toNatClampNeg) := inb_of S10 ⟨by decide, by decide⟩
  obtain ⟨T11, h11, X11, e11, W11, st11⟩ := stJ X8 hx hZ e8 Ar10 (j := (1 : Int32)) hin10 (g := (mkF m 61 #[.val (.ref pr0), .val (.long pj1), .second] [(.long pj1), (.int (1 : Int32)), (.ref b2_0)])) rfl rfl (hb hby d11_61)
  have K11 : Keep h0 h11 ([pr0] : List Addr) := K8.wr W11 (Or.inr sk_b2_0)
  have N11 := Fr.snoc X11 N8 ge_b2_0
  have Z11 : n0 ≤ h11.size := Nat.le_trans Z8 (Keep.of_wr W11).1
  have V11 : Arv Z h11 b2_0 y2_0 .long (8 : Int32) [(.long (wf + ((0 : Int64) * wst))), (.long pj1), (.long (0 : Int64)), (.long (0 : Int64)), (.long (0 : Int64)), (.long (0 : Int64)), (.long (0 : Int64)), (.long (0 : Int64))] (.long (0 : Int64)) := Arv.set Ar10 q10 S10 N10 H10 G10 rfl W11 1 rfl (Nat.le_of_ble_eq_true rfl)
  have go12 : ∀ t, Steps p.tables e below (T11.setTop (mkF m 62 #[.val (.ref pr0), .val (.long pj1), .second] [])) t → Steps p.tables e below st0 t := by
    intro t kt
    refine go0 t ?_
    refine XS.aloadN X0.here hx rfl (hb hby d11_0) rfl rfl ?_
    show Steps p.tables e below (s₁.setTop (mkF m 1 #[.val (.ref pr0), .val (.long pj1), .second] [(.ref pr0)])) _
    refine st1 _ ?_
    show Steps p.tables e below (T1.setTop (mkF m 4 #[.val (.ref pr0), .val (.long pj1), .second] [(.int (1 : Int32))])) _
    refine XS.ifNo X1.here hx rfl (hb hby d11_4) rfl ((if0 _ _).trans (feq (by decide : ¬ ((1 : Int32) = (0 : Int32)))).1) ?_
    show Steps p.tables e below (T1.setTop (mkF m 7 #[.val (.ref pr0), .val (.long pj1), .second] [])) _
    refine XS.aloadN X1.here hx rfl (hb hby d11_7) rfl rfl ?_
    show Steps p.tables e below (T1.setTop (mkF m 8 #[.val (.ref pr0), .val (.long pj1), .second] [(.ref pr0)])) _
    refine st2.trans ?_
    show Steps p.tables e below (T2.setTop (mkF m 11 #[.val (.ref pr0), .val (.long pj1), .second] [])) _
    refine XS.aloadN X2.here hx rfl (hb hby d11_11) rfl rfl ?_
    show Steps p.tables e below (T2.setTop (mkF m 12 #[.val (.ref pr0), .val (.long pj1), .second] [(.ref pr0)])) _
    refine st3 _ ?_
    show Steps p.tables e below (T3.setTop (mkF m 15 #[.val (.ref pr0), .val (.long pj1), .second] [(.int (1 : Int32))])) _
    refine XS.aloadN X3.here hx rfl (hb hby d11_15) rfl rfl ?_
    show Steps p.tables e below (T3.setTop (mkF m 16 #[.val (.ref pr0), .val (.long pj1), .second] [(.ref pr0), (.int (1 : Int32))])) _
    refine st4 _ ?_
    show Steps p.tables e below (T4.setTop (mkF m 19 #[.val (.ref pr0), .val (.long pj1), .second] [(.ref b2_0), (.int (1 : Int32))])) _
    refine X4.arraylength hx (by rw [e4]; exact Ar5.1) (State.isArrayOf_alike hZ.alike Ar5.2.1) (g := (mkF m 19 #[.val (.ref pr0), .val (.long pj1), .second] [(.ref b2_0), (.int (1 : Int32))])) rfl rfl (hb hby d11_19) _ ?_
    rw [len_of S5 N5]
    show Steps p.tables e below (T4.setTop (mkF m 20 #[.val (.ref pr0), .val (.long pj1), .second] [(.int (8 : Int32)), (.int (1 : Int32))])) _
    refine XS.icmpYes X4.here hx rfl (pc0 := 20) (pc' := 45) rfl (hb hby d11_20) rfl (feq (by decide : ¬ ((1 : Int32) = (8 : Int32)))).2 (by decide) (by decide) ?_
    show Steps p.tables e below (T4.setTop (mkF m 45 #[.val (.ref pr0), .val (.long pj1), .second] [])) _
    refine XS.aloadN X4.here hx rfl (hb hby d11_45) rfl rfl ?_
    show Steps p.tables e below (T4.setTop (mkF m 46 #[.val (.ref pr0), .val (.long pj1), .second] [(.ref pr0)])) _
    refine st6 _ ?_
    show Steps p.tables e below (T6.setTop (mkF m 49 #[.val (.ref pr0), .val (.long pj1), .second] [(.ref b2_0)])) _
    refine XS.aloadN X6.here hx rfl (hb hby d11_49) rfl rfl ?_
    show Steps p.tables e below (T6.setTop (mkF m 50 #[.val (.ref pr0), .val (.long pj1), .second] [(.ref pr0), (.ref b2_0)])) _
    refine XS.dup X6.here hx rfl (hb hby d11_50) rfl rfl ?_
    show Steps p.tables e below (T6.setTop (mkF m 51 #[.val (.ref pr0), .val (.long pj1), .second] [(.ref pr0), (.ref pr0), (.ref b2_0)])) _
    refine st7 _ ?_
    show Steps p.tables e below (T7.setTop (mkF m 54 #[.val (.ref pr0), .val (.long pj1), .second] [(.int (1 : Int32)), (.ref pr0), (.ref b2_0)])) _
    refine XS.dupX1 X7.here hx rfl (hb hby d11_54) rfl rfl rfl ?_
    show Steps p.tables e below (T7.setTop (mkF m 55 #[.val (.ref pr0), .val (.long pj1), .second] [(.int (1 : Int32)), (.ref pr0), (.int (1 : Int32)), (.ref b2_0)])) _
    refine XS.iconst X7.here hx rfl (hb hby d11_55) ?_
    show Steps p.tables e below (T7.setTop (mkF m 56 #[.val (.ref pr0), .val (.long pj1), .second] [(.int (1 : Int32)), (.int (1 : Int32)), (.ref pr0), (.int (1 : Int32)), (.ref b2_0)])) _
    refine XS.iadd X7.here hx rfl (hb hby d11_56) rfl ?_
    show Steps p.tables e below (T7.setTop (mkF m 57 #[.val (.ref pr0), .val (.long pj1), .second] [(.int (2 : Int32)), (.ref pr0), (.int (1 : Int32)), (.ref b2_0)])) _
    refine st8 _ ?_
    show Steps p.tables e below (T8.setTop (mkF m 60 #[.val (.ref pr0), .val (.long pj1), .second] [(.int (1 : Int32)), (.ref b2_0)])) _
    refine XS.lloadN X8.here hx rfl (hb hby d11_60) rfl ?_
    show Steps p.tables e below (T8.setTop (mkF m 61 #[.val (.ref pr0), .val (.long pj1), .second] [(.long pj1), (.int (1 : Int32)), (.ref b2_0)])) _
    refine st11 _ ?_
    show Steps p.tables e below (T11.setTop (mkF m 62 #[.val (.ref pr0), .val (.long pj1), .second] [])) _
    exact kt
  obtain ⟨fs, hr, hrun, hended, hW, hsame⟩ := X11.leave (v := none) (fun _ => rfl)
  refine ⟨_, _, go12 _ ?_, hrun, hended, _, _, rfl, ?_, ⟨_, rfl⟩, hW, hsame.mono (by decide) (by decide)⟩
  · exact X11.returnOut hx Bd.returns (hb hby d11_62) hr
  · show Q_own_addR1 Z pr0 pj1 nn ka wf wst h0 n0 _ T11.heap _
    rw [e11]
    have f13 : Exa Z h11 pr0 "com/example/kalends/kalends/engine/LongList" := ((p2_0.wr W8).wr W11)
    have f14 : Fld Z h11 pr0 "com/example/kalends/kalends/engine/LongList" "values" "[J" (.ref b2_0) := ((p2_1.other W8 (Or.inr (slot_ne (Or.inl (hw _ (List.mem_of_getElem? (i := 12) rfl))) (Or.inl (hw _ (List.mem_of_getElem? (i := 19) rfl))) (by decide) (t := (.array .long)) (t' := .int) (by decide) (by decide)))).other W11 (Or.inl ne_b2_0_pr0))
    have f15 : Fld Z h11 pr0 "com/example/kalends/kalends/engine/LongList" "size" "I" (.int (2 : Int32)) := (Fw8.other W11 (Or.inl ne_b2_0_pr0))
    have f16 : Fld Z h11 pr0 "com/example/kalends/kalends/engine/LongList" "run" "Z" (.int (0 : Int32)) := ((p2_3.other W8 (Or.inr (slot_ne (Or.inl (hw _ (List.mem_of_getElem? (i := 26) rfl))) (Or.inl (hw _ (List.mem_of_getElem? (i := 19) rfl))) (by decide) (t := .boolean) (t' := .int) (by decide) (by decide)))).other W11 (Or.inl ne_b2_0_pr0))
    exact ⟨N11, b2_0, y2_0, [(.long (wf + ((0 : Int64) * wst))), (.long pj1), (.long (0 : Int64)), (.long (0 : Int64)), (.long (0 : Int64)), (.long (0 : Int64)), (.long (0 : Int64)), (.long (0 : Int64))], rfl, sk_b2_0, K11, f13, f14, f15, f16, V11, rfl⟩
theorem ef_own_addR2 (m : MethodId) (pr0 : Addr) (pj1 : Int64) : entryFrame m #[(.ref pr0), (.long pj1)] 3 = mkF m 0 #[.val (.ref pr0), .val (.long pj1), .second] [] := by first | (simp [entryFrame, mkF, argsToLocals, Value.category]; done) | rfl
def Q_own_addR2 (Z : State) (pr0 : Addr) (pj1 : Int64) (nn : Addr) (ka : ClassId) (wf : Int64) (wst : Int64) (h0 : Heap) (n0 : Nat) (v : Option Value) (h : Heap) (L : List Loc) : Prop := Fr n0 L ∧ ∃ (bb : Addr) (kb : ClassId) (vs : List Value), v = none ∧ h0.size ≤ bb ∧ Keep h0 h ([pr0] : List Addr) ∧ Exa Z h pr0 "com/example/kalends/kalends/engine/LongList" ∧ Fld Z h pr0 "com/example/kalends/kalends/engine/LongList" "values" "[J" (.ref bb) ∧ Fld Z h pr0 "com/example/kalends/kalends/engine/LongList" "size" "I" (.int (3 : Int32)) ∧ Fld Z h pr0 "com/example/kalends/kalends/engine/LongList" "run" "Z" (.int (0 : Int32)) ∧ Arv Z h bb kb .long (8 : Int32) vs (.long (0 : Int64)) ∧ vs.length = 8
set_option maxRecDepth 65536 in
set_option maxHeartbeats 40000000 in
theorem own_addR2 (l : Launch) (Z : State) (a0 : Array Value) (hw : ∀ d ∈ tables_1, d.before a0 Z = true) (ws : List Jvm.Cond) (pr0 : Addr) (pj1 : Int64) (nn : Addr) (ka : ClassId) (wf : Int64) (wst : Int64) (h0 : Heap) (n0 : Nat) (Z0 : n0 ≤ h0.size) (P0 : Exa Z h0 pr0 "com/example/kalends/kalends/engine/LongList") (P1 : Fld Z h0 pr0 "com/example/kalends/kalends/engine/LongList" "values" "[J" (.ref nn)) (P2 : Fld Z h0 pr0 "com/example/kalends/kalends/engine/LongList" "size" "I" (.int (2 : Int32))) (P3 : Fld Z h0 pr0 "com/example/kalends/kalends/engine/LongList" "run" "Z" (.int (1 : Int32))) (P4 : Fld Z h0 pr0 "com/example/kalends/kalends/engine/LongList" "runFirst" "J" (.long wf)) (P5 : Fld Z h0 pr0 "com/example/kalends/kalends/engine/LongList" "runStep" "J" (.long wst)) (P6 : Arv Z h0 nn ka .long (0 : Int32) [] (.long (0 : Int64))) (P7 : nn ≠ pr0) (P8 : n0 ≤ pr0) :
    MetFree l (⟨"com/example/kalends/kalends/engine/LongList", "add", "(J)V"⟩ : MethodName) (head1 (Jvm.Cond.code (⟨"com/example/kalends/kalends/engine/LongList", "add", "(J)V"⟩ : MethodName) prog_9_method_2_code 3 none :: ws) ({ frames := 2, cells := 1, slots := 8, locals := 27 } : Room)) (fun a U => a = #[(.ref pr0), (.long pj1)] ∧ Z.Warmed39 U.vm ∧ U.heap = h0) (fun _ _ _ _ _ => True) (fun _ U o U' => ∃ v L, o = .returned v ∧ Q_own_addR2 Z pr0 pj1 nn ka wf wst h0 n0 v U'.heap L ∧ FrameEnd U o U' L ({ frames := 2, cells := 1, slots := 8, locals := 27 } : Room).cells ({ frames := 2, cells := 1, slots := 8, locals := 27 } : Room).slots) := by
  refine MetFree.of_bodySF (plainFor_of_name pn_4) hisR ?_
  intro p e s m args below meth c s₁ Bd hml0 hP hK
  obtain ⟨rfl, hZ, hh⟩ := hP
  have hx := Bd.exec
  have hby := Bd.bytes
  have hml : c.maxLocals = 3 := hml0
  have hown : s.vm.findClass "com/example/kalends/kalends/engine/LongList" = some m.cls := findClass_of_methodNamed Bd.named
  have hnm := (name_of_methodNamed Bd.named Bd.method).1
  have X0 : Stand p l e ({ frames := 2, cells := 1, slots := 8, locals := 27 } : Room) s m #[(.ref pr0), (.long pj1)] below meth c s₁ [] 0 0 := Stand.of_body Bd
  have e0 : s₁.heap = h0 := by rw [← hh, Bd.state]; rfl
  have N0 := Fr.nil n0
  have go0 : ∀ t, Steps p.tables e below (s₁.setTop (mkF m 0 #[.val (.ref pr0), .val (.long pj1), .second] [])) t → Steps p.tables e below (s₁.setTop (entryFrame m #[(.ref pr0), (.long pj1)] 3)) t := fun t k => castTop (ef_own_addR2 m pr0 pj1) k
  revert go0
  generalize s₁.setTop (entryFrame m #[(.ref pr0), (.long pj1)] 3) = st0
  intro go0
  obtain ⟨T1, X1, e1, st1⟩ := getF X0 hx hZ hown (host := "") (Or.inl (hw _ (List.mem_of_getElem? (i := 25) rfl))) Via.refl e0 P3 (g := (mkF m 1 #[.val (.ref pr0), .val (.long pj1), .second] [(.ref pr0)])) rfl rfl (hb hby d11_1)
  obtain ⟨cq2, q2, q2'⟩ := P0.cell
  obtain ⟨_, _, ⟨T2, L2, k2, n2⟩, -, X2, ⟨Lc2, hQ2, l2, y2, z2⟩, st2⟩ := X1.privateBack hx (y := (⟨"com/example/kalends/kalends/engine/LongList", "keepRun", "()V"⟩ : MethodName)) hown (mvT hZ (hw _ (List.mem_of_getElem? (i := 36) rfl))) (mvT hZ (hw _ (List.mem_of_getElem? (i := 37) rfl))) (Jvm.Kit.selects_private (by decide) (mvT hZ (hw _ (List.mem_of_getElem? (i := 1) rfl))) (mvP hZ (hw _ (List.mem_of_getElem? (i := 38) rfl))) (mvT hZ (hw _ (List.mem_of_getElem? (i := 37) rfl)))) (Cond.privateMethod_at (mvP hZ (hw _ (List.mem_of_getElem? (i := 38) rfl)) (args := #[]))) (mvT hZ (hw _ (List.mem_of_getElem? (i := 39) rfl))) (by decide) (backOf (W := 0) (own_keep2 l Z a0 hw [] pr0 nn ka wf wst h0 n0 Z0 P0 P1 P2 P3 P4 P5 P6 P7 P8) hZ (hw _ (List.mem_of_getElem? (i := 39) rfl)) (hw _ (List.mem_of_getElem? (i := 2) rfl)) (by decide) (by decide)) (g := (mkF m 8 #[.val (.ref pr0), .val (.long pj1), .second] [(.ref pr0)])) rfl (by rw [hml]; rfl) (Steps.refl _) (a := pr0) (by rw [e1]; exact q2) q2' (argsL := []) (rest := []) (lenOf pd_13 rfl) rfl (by show 2 * 0 + _ ≤ _; exact Nat.le_of_eq rfl) (hb hby d11_8) (fun _ _ => ⟨rfl, e1, (by decide : 0 + 1 ≤ _), (by decide : 0 + 8 ≤ _)⟩)
  dsimp only [Pt.U, Pt.locs, Pt.cells, Pt.slots] at X2 l2 y2 z2 st2 hQ2
  subst l2 y2 z2
  obtain ⟨Nq2, b2_0, y2_0, rfl, szb2_0, Kc2, p2_0, p2_1, p2_2, p2_3, p2_4, p2_5, p2_6⟩ := hQ2
  have N2 := Fr.app N0 Nq2
  have ne_b2_0_nn : nn ≠ b2_0 := Nat.ne_of_lt (Nat.lt_of_lt_of_le P6.lt szb2_0)
  have ne_b2_0_pr0 : pr0 ≠ b2_0 := Nat.ne_of_lt (Nat.lt_of_lt_of_le P0.lt szb2_0)
  have ge_b2_0 : n0 ≤ b2_0 := Nat.le_trans Z0 szb2_0
  have sk_b2_0 : h0.size ≤ b2_0 := Nat.le_trans (Keep.refl h0 ([pr0] : List Addr)).1 szb2_0
  have K2 : Keep h0 T2.heap ([pr0] : List Addr) := (Keep.refl h0 ([pr0] : List Addr)).trans Kc2 (allS (P := fun x => x ∈ ([pr0] : List Addr) ∨ h0.size ≤ x) (Or.inl (List.mem_of_getElem? (i := 0) rfl)) all0)
  have Z2 : n0 ≤ T2.heap.size := Nat.le_trans Z0 Kc2.1
  obtain ⟨T3, X3, e3, st3⟩ := getF X2 hx hZ hown (host := "") (Or.inl (hw _ (List.mem_of_getElem? (i := 18) rfl))) Via.refl rfl p2_2 (g := (mkF m 12 #[.val (.ref pr0), .val (.long pj1), .second] [(.ref pr0)])) rfl rfl (hb hby d11_12)
  obtain ⟨T4, X4, e4, st4⟩ := getF X3 hx hZ hown (host := "") (Or.inl (hw _ (List.mem_of_getElem? (i := 11) rfl))) Via.refl e3 p2_1 (g := (mkF m 16 #[.val (.ref pr0), .val (.long pj1), .second] [(.ref pr0), (.int (2 : Int32))])) rfl rfl (hb hby d11_16)
  obtain ⟨cl5, Ar5, q5, S5, N5, H5, G5⟩ := id p2_6
  obtain ⟨T6, X6, e6, st6⟩ := getF X4 hx hZ hown (host := "") (Or.inl (hw _ (List.mem_of_getElem? (i := 11) rfl))) Via.refl e4 p2_1 (g := (mkF m 46 #[.val (.ref pr0), .val (.long pj1), .second] [(.ref pr0)])) rfl rfl (hb hby d11_46)
  obtain ⟨T7, X7, e7, st7⟩ := getF X6 hx hZ hown (host := "") (Or.inl (hw _ (List.mem_of_getElem? (i := 18) rfl))) Via.refl e6 p2_2 (g := (mkF m 51 #[.val (.ref pr0), .val (.long pj1), .second] [(.ref pr0), (.ref pr0), (.ref b2_0)])) rfl rfl (hb hby d11_51)
  obtain ⟨T8, h8, X8, e8, W8, st8⟩ := putF X7 hx hZ hown (host := "") (Or.inl (hw _ (List.mem_of_getElem? (i := 18) rfl))) Via.refl e7 p2_2 p2_0 (Or.inl (hw _ (List.mem_of_getElem? (i := 19) rfl))) (hw _ (List.mem_of_getElem? (i := 1) rfl)) (ty := .int) (by decide) rfl rfl (g := (mkF m 57 #[.val (.ref pr0), .val (.long pj1), .second] [(.int (3 : Int32)), (.ref pr0), (.int (2 : Int32)), (.ref b2_0)])) rfl rfl (hb hby d11_57)
  have K8 : Keep h0 h8 ([pr0] : List Addr) := K2.wr W8 (Or.inl (List.mem_of_getElem? (i := 0) rfl))
  have N8 := Fr.snoc X8 N2 P8
  have Z8 : n0 ≤ h8.size := Nat.le_trans Z2 (Keep.of_wr W8).1
  have Fw8 := p2_2.same W8
  have f9 : Arv Z h8 b2_0 y2_0 .long (8 : Int32) [(.long (wf + ((0 : Int64) * wst))), (.long (wf + ((1 : Int64) * wst))), (.long (0 : Int64)), (.long (0 : Int64)), (.long (0 : Int64)), (.long (0 : Int64)), (.long (0 : Int64)), (.long (0 : Int64))] (.long (0 : Int64)) := (p2_6.other W8 (Ne.symm ne_b2_0_pr0))
  obtain ⟨cl10, Ar10, q10, S10, N10, H10, G10⟩ := id f9
  have hin10 : ¬ ((2 : Int32) < 0 ∨ cl10.slots.size ≤ ((2 : Int32)).toNatClampNeg) := inb_of S10 ⟨by decide, by decide⟩
  obtain ⟨T11, h11, X11, e11, W11, st11⟩ := stJ X8 hx hZ e8 Ar10 (j := (2 : Int32)) hin10 (g := (mkF m 61 #[.val (.ref pr0), .val (.long pj1), .second] [(.long pj1), (.int (2 : Int32)), (.ref b2_0)])) rfl rfl (hb hby d11_61)
  have K11 : Keep h0 h11 ([pr0] : List Addr) := K8.wr W11 (Or.inr sk_b2_0)
  have N11 := Fr.snoc X11 N8 ge_b2_0
  have Z11 : n0 ≤ h11.size := Nat.le_trans Z8 (Keep.of_wr W11).1
  have V11 : Arv Z h11 b2_0 y2_0 .long (8 : Int32) [(.long (wf + ((0 : Int64) * wst))), (.long (wf + ((1 : Int64) * wst))), (.long pj1), (.long (0 : Int64)), (.long (0 : Int64)), (.long (0 : Int64)), (.long (0 : Int64)), (.long (0 : Int64))] (.long (0 : Int64)) := Arv.set Ar10 q10 S10 N10 H10 G10 rfl W11 2 rfl (Nat.le_of_ble_eq_true rfl)
  have go12 : ∀ t, Steps p.tables e below (T11.setTop (mkF m 62 #[.val (.ref pr0), .val (.long pj1), .second] [])) t → Steps p.tables e below st0 t := by
    intro t kt
    refine go0 t ?_
    refine XS.aloadN X0.here hx rfl (hb hby d11_0) rfl rfl ?_
    show Steps p.tables e below (s₁.setTop (mkF m 1 #[.val (.ref pr0), .val (.long pj1), .second] [(.ref pr0)])) _
    refine st1 _ ?_
    show Steps p.tables e below (T1.setTop (mkF m 4 #[.val (.ref pr0), .val (.long pj1), .second] [(.int (1 : Int32))])) _
    refine XS.ifNo X1.here hx rfl (hb hby d11_4) rfl ((if0 _ _).trans (feq (by decide : ¬ ((1 : Int32) = (0 : Int32)))).1) ?_
    show Steps p.tables e below (T1.setTop (mkF m 7 #[.val (.ref pr0), .val (.long pj1), .second] [])) _
    refine XS.aloadN X1.here hx rfl (hb hby d11_7) rfl rfl ?_
    show Steps p.tables e below (T1.setTop (mkF m 8 #[.val (.ref pr0), .val (.long pj1), .second] [(.ref pr0)])) _
    refine st2.trans ?_
    show Steps p.tables e below (T2.setTop (mkF m 11 #[.val (.ref pr0), .val (.long pj1), .second] [])) _
    refine XS.aloadN X2.here hx rfl (hb hby d11_11) rfl rfl ?_
    show Steps p.tables e below (T2.setTop (mkF m 12 #[.val (.ref pr0), .val (.long pj1), .second] [(.ref pr0)])) _
    refine st3 _ ?_
    show Steps p.tables e below (T3.setTop (mkF m 15 #[.val (.ref pr0), .val (.long pj1), .second] [(.int (2 : Int32))])) _
    refine XS.aloadN X3.here hx rfl (hb hby d11_15) rfl rfl ?_
    show Steps p.tables e below (T3.setTop (mkF m 16 #[.val (.ref pr0), .val (.long pj1), .second] [(.ref pr0), (.int (2 : Int32))])) _
    refine st4 _ ?_
    show Steps p.tables e below (T4.setTop (mkF m 19 #[.val (.ref pr0), .val (.long pj1), .second] [(.ref b2_0), (.int (2 : Int32))])) _
    refine X4.arraylength hx (by rw [e4]; exact Ar5.1) (State.isArrayOf_alike hZ.alike Ar5.2.1) (g := (mkF m 19 #[.val (.ref pr0), .val (.long pj1), .second] [(.ref b2_0), (.int (2 : Int32))])) rfl rfl (hb hby d11_19) _ ?_
    rw [len_of S5 N5]
    show Steps p.tables e below (T4.setTop (mkF m 20 #[.val (.ref pr0), .val (.long pj1), .second] [(.int (8 : Int32)), (.int (2 : Int32))])) _
    refine XS.icmpYes X4.here hx rfl (pc0 := 20) (pc' := 45) rfl (hb hby d11_20) rfl (feq (by decide : ¬ ((2 : Int32) = (8 : Int32)))).2 (by decide) (by decide) ?_
    show Steps p.tables e below (T4.setTop (mkF m 45 #[.val (.ref pr0), .val (.long pj1), .second] [])) _
    refine XS.aloadN X4.here hx rfl (hb hby d11_45) rfl rfl ?_
    show Steps p.tables e below (T4.setTop (mkF m 46 #[.val (.ref pr0), .val (.long pj1), .second] [(.ref pr0)])) _
    refine st6 _ ?_
    show Steps p.tables e below (T6.setTop (mkF m 49 #[.val (.ref pr0), .val (.long pj1), .second] [(.ref b2_0)])) _
    refine XS.aloadN X6.here hx rfl (hb hby d11_49) rfl rfl ?_
    show Steps p.tables e below (T6.setTop (mkF m 50 #[.val (.ref pr0), .val (.long pj1), .second] [(.ref pr0), (.ref b2_0)])) _
    refine XS.dup X6.here hx rfl (hb hby d11_50) rfl rfl ?_
    show Steps p.tables e below (T6.setTop (mkF m 51 #[.val (.ref pr0), .val (.long pj1), .second] [(.ref pr0), (.ref pr0), (.ref b2_0)])) _
    refine st7 _ ?_
    show Steps p.tables e below (T7.setTop (mkF m 54 #[.val (.ref pr0), .val (.long pj1), .second] [(.int (2 : Int32)), (.ref pr0), (.ref b2_0)])) _
    refine XS.dupX1 X7.here hx rfl (hb hby d11_54) rfl rfl rfl ?_
    show Steps p.tables e below (T7.setTop (mkF m 55 #[.val (.ref pr0), .val (.long pj1), .second] [(.int (2 : Int32)), (.ref pr0), (.int (2 : Int32)), (.ref b2_0)])) _
    refine XS.iconst X7.here hx rfl (hb hby d11_55) ?_
    show Steps p.tables e below (T7.setTop (mkF m 56 #[.val (.ref pr0), .val (.long pj1), .second] [(.int (1 : Int32)), (.int (2 : Int32)), (.ref pr0), (.int (2 : Int32)), (.ref b2_0)])) _
    refine XS.iadd X7.here hx rfl (hb hby d11_56) rfl ?_
    show Steps p.tables e below (T7.setTop (mkF m 57 #[.val (.ref pr0), .val (.long pj1), .second] [(.int (3 : Int32)), (.ref pr0), (.int (2 : Int32)), (.ref b2_0)])) _
    refine st8 _ ?_
    show Steps p.tables e below (T8.setTop (mkF m 60 #[.val (.ref pr0), .val (.long pj1), .second] [(.int (2 : Int32)), (.ref b2_0)])) _
    refine XS.lloadN X8.here hx rfl (hb hby d11_60) rfl ?_
    show Steps p.tables e below (T8.setTop (mkF m 61 #[.val (.ref pr0), .val (.long pj1), .second] [(.long pj1), (.int (2 : Int32)), (.ref b2_0)])) _
    refine st11 _ ?_
    show Steps p.tables e below (T11.setTop (mkF m 62 #[.val (.ref pr0), .val (.long pj1), .second] [])) _
    exact kt
  obtain ⟨fs, hr, hrun, hended, hW, hsame⟩ := X11.leave (v := none) (fun _ => rfl)
  refine ⟨_, _, go12 _ ?_, hrun, hended, _, _, rfl, ?_, ⟨_, rfl⟩, hW, hsame.mono (by decide) (by decide)⟩
  · exact X11.returnOut hx Bd.returns (hb hby d11_62) hr
  · show Q_own_addR2 Z pr0 pj1 nn ka wf wst h0 n0 _ T11.heap _
    rw [e11]
    have f13 : Exa Z h11 pr0 "com/example/kalends/kalends/engine/LongList" := ((p2_0.wr W8).wr W11)
    have f14 : Fld Z h11 pr0 "com/example/kalends/kalends/engine/LongList" "values" "[J" (.ref b2_0) := ((p2_1.other W8 (Or.inr (slot_ne (Or.inl (hw _ (List.mem_of_getElem? (i := 12) rfl))) (Or.inl (hw _ (List.mem_of_getElem? (i := 19) rfl))) (by decide) (t := (.array .long)) (t' := .int) (by decide) (by decide)))).other W11 (Or.inl ne_b2_0_pr0))
    have f15 : Fld Z h11 pr0 "com/example/kalends/kalends/engine/LongList" "size" "I" (.int (3 : Int32)) := (Fw8.other W11 (Or.inl ne_b2_0_pr0))
    have f16 : Fld Z h11 pr0 "com/example/kalends/kalends/engine/LongList" "run" "Z" (.int (0 : Int32)) := ((p2_3.other W8 (Or.inr (slot_ne (Or.inl (hw _ (List.mem_of_getElem? (i := 26) rfl))) (Or.inl (hw _ (List.mem_of_getElem? (i := 19) rfl))) (by decide) (t := .boolean) (t' := .int) (by decide) (by decide)))).other W11 (Or.inl ne_b2_0_pr0))
    exact ⟨N11, b2_0, y2_0, [(.long (wf + ((0 : Int64) * wst))), (.long (wf + ((1 : Int64) * wst))), (.long pj1), (.long (0 : Int64)), (.long (0 : Int64)), (.long (0 : Int64)), (.long (0 : Int64)), (.long (0 : Int64))], rfl, sk_b2_0, K11, f13, f14, f15, f16, V11, rfl⟩
theorem ef_own_addR3 (m : MethodId) (pr0 : Addr) (pj1 : Int64) : entryFrame m #[(.ref pr0), (.long pj1)] 3 = mkF m 0 #[.val (.ref pr0), .val (.long pj1), .second] [] := by first | (simp [entryFrame, mkF, argsToLocals, Value.category]; done) | rfl
def Q_own_addR3 (Z : State) (pr0 : Addr) (pj1 : Int64) (nn : Addr) (ka : ClassId) (wf : Int64) (wst : Int64) (h0 : Heap) (n0 : Nat) (v : Option Value) (h : Heap) (L : List Loc) : Prop := Fr n0 L ∧ ∃ (bb : Addr) (kb : ClassId) (vs : List Value), v = none ∧ h0.size ≤ bb ∧ Keep h0 h ([pr0] : List Addr) ∧ Exa Z h pr0 "com/example/kalends/kalends/engine/LongList" ∧ Fld Z h pr0 "com/example/kalends/kalends/engine/LongList" "values" "[J" (.ref bb) ∧ Fld Z h pr0 "com/example/kalends/kalends/engine/LongList" "size" "I" (.int (4 : Int32)) ∧ Fld Z h pr0 "com/example/kalends/kalends/engine/LongList" "run" "Z" (.int (0 : Int32)) ∧ Arv Z h bb kb .long (8 : Int32) vs (.long (0 : Int64)) ∧ vs.length = 8
set_option maxRecDepth 65536 in
set_option maxHeartbeats 40000000 in
theorem own_addR3 (l : Launch) (Z : State) (a0 : Array Value) (hw : ∀ d ∈ tables_1, d.before a0 Z = true) (ws : List Jvm.Cond) (pr0 : Addr) (pj1 : Int64) (nn : Addr) (ka : ClassId) (wf : Int64) (wst : Int64) (h0 : Heap) (n0 : Nat) (Z0 : n0 ≤ h0.size) (P0 : Exa Z h0 pr0 "com/example/kalends/kalends/engine/LongList") (P1 : Fld Z h0 pr0 "com/example/kalends/kalends/engine/LongList" "values" "[J" (.ref nn)) (P2 : Fld Z h0 pr0 "com/example/kalends/kalends/engine/LongList" "size" "I" (.int (3 : Int32))) (P3 : Fld Z h0 pr0 "com/example/kalends/kalends/engine/LongList" "run" "Z" (.int (1 : Int32))) (P4 : Fld Z h0 pr0 "com/example/kalends/kalends/engine/LongList" "runFirst" "J" (.long wf)) (P5 : Fld Z h0 pr0 "com/example/kalends/kalends/engine/LongList" "runStep" "J" (.long wst)) (P6 : Arv Z h0 nn ka .long (0 : Int32) [] (.long (0 : Int64))) (P7 : nn ≠ pr0) (P8 : n0 ≤ pr0) :
    MetFree l (⟨"com/example/kalends/kalends/engine/LongList", "add", "(J)V"⟩ : MethodName) (head1 (Jvm.Cond.code (⟨"com/example/kalends/kalends/engine/LongList", "add", "(J)V"⟩ : MethodName) prog_9_method_2_code 3 none :: ws) ({ frames := 2, cells := 1, slots := 8, locals := 27 } : Room)) (fun a U => a = #[(.ref pr0), (.long pj1)] ∧ Z.Warmed39 U.vm ∧ U.heap = h0) (fun _ _ _ _ _ => True) (fun _ U o U' => ∃ v L, o = .returned v ∧ Q_own_addR3 Z pr0 pj1 nn ka wf wst h0 n0 v U'.heap L ∧ FrameEnd U o U' L ({ frames := 2, cells := 1, slots := 8, locals := 27 } : Room).cells ({ frames := 2, cells := 1, slots := 8, locals := 27 } : Room).slots) := by
  refine MetFree.of_bodySF (plainFor_of_name pn_4) hisR ?_
  intro p e s m args below meth c s₁ Bd hml0 hP hK
  obtain ⟨rfl, hZ, hh⟩ := hP
  have hx := Bd.exec
  have hby := Bd.bytes
  have hml : c.maxLocals = 3 := hml0
  have hown : s.vm.findClass "com/example/kalends/kalends/engine/LongList" = some m.cls := findClass_of_methodNamed Bd.named
  have hnm := (name_of_methodNamed Bd.named Bd.method).1
  have X0 : Stand p l e ({ frames := 2, cells := 1, slots := 8, locals := 27 } : Room) s m #[(.ref pr0), (.long pj1)] below meth c s₁ [] 0 0 := Stand.of_body Bd
  have e0 : s₁.heap = h0 := by rw [← hh, Bd.state]; rfl
  have N0 := Fr.nil n0
  have go0 : ∀ t, Steps p.tables e below (s₁.setTop (mkF m 0 #[.val (.ref pr0), .val (.long pj1), .second] [])) t → Steps p.tables e below (s₁.setTop (entryFrame m #[(.ref pr0), (.long pj1)] 3)) t := fun t k => castTop (ef_own_addR3 m pr0 pj1) k
  revert go0
  generalize s₁.setTop (entryFrame m #[(.ref pr0), (.long pj1)] 3) = st0
  intro go0
  obtain ⟨T1, X1, e1, st1⟩ := getF X0 hx hZ hown (host := "") (Or.inl (hw _ (List.mem_of_getElem? (i := 25) rfl))) Via.refl e0 P3 (g := (mkF m 1 #[.val (.ref pr0), .val (.long pj1), .second] [(.ref pr0)])) rfl rfl (hb hby d11_1)
  obtain ⟨cq2, q2, q2'⟩ := P0.cell
  obtain ⟨_, _, ⟨T2, L2, k2, n2⟩, -, X2, ⟨Lc2, hQ2, l2, y2, z2⟩, st2⟩ := X1.privateBack hx (y := (⟨"com/example/kalends/kalends/engine/LongList", "keepRun", "()V"⟩ : MethodName)) hown (mvT hZ (hw _ (List.mem_of_getElem? (i := 36) rfl))) (mvT hZ (hw _ (List.mem_of_getElem? (i := 37) rfl))) (Jvm.Kit.selects_private (by decide) (mvT hZ (hw _ (List.mem_of_getElem? (i := 1) rfl))) (mvP hZ (hw _ (List.mem_of_getElem? (i := 38) rfl))) (mvT hZ (hw _ (List.mem_of_getElem? (i := 37) rfl)))) (Cond.privateMethod_at (mvP hZ (hw _ (List.mem_of_getElem? (i := 38) rfl)) (args := #[]))) (mvT hZ (hw _ (List.mem_of_getElem? (i := 39) rfl))) (by decide) (backOf (W := 0) (own_keep3 l Z a0 hw [] pr0 nn ka wf wst h0 n0 Z0 P0 P1 P2 P3 P4 P5 P6 P7 P8) hZ (hw _ (List.mem_of_getElem? (i := 39) rfl)) (hw _ (List.mem_of_getElem? (i := 2) rfl)) (by decide) (by decide)) (g := (mkF m 8 #[.val (.ref pr0), .val (.long pj1), .second] [(.ref pr0)])) rfl (by rw [hml]; rfl) (Steps.refl _) (a := pr0) (by rw [e1]; exact q2) q2' (argsL := []) (rest := []) (lenOf pd_13 rfl) rfl (by show 2 * 0 + _ ≤ _; exact Nat.le_of_eq rfl) (hb hby d11_8) (fun _ _ => ⟨rfl, e1, (by decide : 0 + 1 ≤ _), (by decide : 0 + 8 ≤ _)⟩)
  dsimp only [Pt.U, Pt.locs, Pt.cells, Pt.slots] at X2 l2 y2 z2 st2 hQ2
  subst l2 y2 z2
  obtain ⟨Nq2, b2_0, y2_0, rfl, szb2_0, Kc2, p2_0, p2_1, p2_2, p2_3, p2_4, p2_5, p2_6⟩ := hQ2
  have N2 := Fr.app N0 Nq2
  have ne_b2_0_nn : nn ≠ b2_0 := Nat.ne_of_lt (Nat.lt_of_lt_of_le P6.lt szb2_0)
  have ne_b2_0_pr0 : pr0 ≠ b2_0 := Nat.ne_of_lt (Nat.lt_of_lt_of_le P0.lt szb2_0)
  have ge_b2_0 : n0 ≤ b2_0 := Nat.le_trans Z0 szb2_0
  have sk_b2_0 : h0.size ≤ b2_0 := Nat.le_trans (Keep.refl h0 ([pr0] : List Addr)).1 szb2_0
  have K2 : Keep h0 T2.heap ([pr0] : List Addr) := (Keep.refl h0 ([pr0] : List Addr)).trans Kc2 (allS (P := fun x => x ∈ ([pr0] : List Addr) ∨ h0.size ≤ x) (Or.inl (List.mem_of_getElem? (i := 0) rfl)) all0)
  have Z2 : n0 ≤ T2.heap.size := Nat.le_trans Z0 Kc2.1
  obtain ⟨T3, X3, e3, st3⟩ := getF X2 hx hZ hown (host := "") (Or.inl (hw _ (List.mem_of_getElem? (i := 18) rfl))) Via.refl rfl p2_2 (g := (mkF m 12 #[.val (.ref pr0), .val (.long pj1), .second] [(.ref pr0)])) rfl rfl (hb hby d11_12)
  obtain ⟨T4, X4, e4, st4⟩ := getF X3 hx hZ hown (host := "") (Or.inl (hw _ (List.mem_of_getElem? (i := 11) rfl))) Via.refl e3 p2_1 (g := (mkF m 16 #[.val (.ref pr0), .val (.long pj1), .second] [(.ref pr0), (.int (3 : Int32))])) rfl rfl (hb hby d11_16)
  obtain ⟨cl5, Ar5, q5, S5, N5, H5, G5⟩ := id p2_6
  obtain ⟨T6, X6, e6, st6⟩ := getF X4 hx hZ hown (host := "") (Or.inl (hw _ (List.mem_of_getElem? (i := 11) rfl))) Via.refl e4 p2_1 (g := (mkF m 46 #[.val (.ref pr0), .val (.long pj1), .second] [(.ref pr0)])) rfl rfl (hb hby d11_46)
  obtain ⟨T7, X7, e7, st7⟩ := getF X6 hx hZ hown (host := "") (Or.inl (hw _ (List.mem_of_getElem? (i := 18) rfl))) Via.refl e6 p2_2 (g := (mkF m 51 #[.val (.ref pr0), .val (.long pj1), .second] [(.ref pr0), (.ref pr0), (.ref b2_0)])) rfl rfl (hb hby d11_51)
  obtain ⟨T8, h8, X8, e8, W8, st8⟩ := putF X7 hx hZ hown (host := "") (Or.inl (hw _ (List.mem_of_getElem? (i := 18) rfl))) Via.refl e7 p2_2 p2_0 (Or.inl (hw _ (List.mem_of_getElem? (i := 19) rfl))) (hw _ (List.mem_of_getElem? (i := 1) rfl)) (ty := .int) (by decide) rfl rfl (g := (mkF m 57 #[.val (.ref pr0), .val (.long pj1), .second] [(.int (4 : Int32)), (.ref pr0), (.int (3 : Int32)), (.ref b2_0)])) rfl rfl (hb hby d11_57)
  have K8 : Keep h0 h8 ([pr0] : List Addr) := K2.wr W8 (Or.inl (List.mem_of_getElem? (i := 0) rfl))
  have N8 := Fr.snoc X8 N2 P8
  have Z8 : n0 ≤ h8.size := Nat.le_trans Z2 (Keep.of_wr W8).1
  have Fw8 := p2_2.same W8
  have f9 : Arv Z h8 b2_0 y2_0 .long (8 : Int32) [(.long (wf + ((0 : Int64) * wst))), (.long (wf + ((1 : Int64) * wst))), (.long (wf + ((2 : Int64) * wst))), (.long (0 : Int64)), (.long (0 : Int64)), (.long (0 : Int64)), (.long (0 : Int64)), (.long (0 : Int64))] (.long (0 : Int64)) := (p2_6.other W8 (Ne.symm ne_b2_0_pr0))
  obtain ⟨cl10, Ar10, q10, S10, N10, H10, G10⟩ := id f9
  have hin10 : ¬ ((3 : Int32) < 0 ∨ cl10.slots.size ≤ ((3 : Int32)).toNatClampNeg) := inb_of S10 ⟨by decide, by decide⟩
  obtain ⟨T11, h11, X11, e11, W11, st11⟩ := stJ X8 hx hZ e8 Ar10 (j := (3 : Int32)) hin10 (g := (mkF m 61 #[.val (.ref pr0), .val (.long pj1), .second] [(.long pj1), (.int (3 : Int32)), (.ref b2_0)])) rfl rfl (hb hby d11_61)
  have K11 : Keep h0 h11 ([pr0] : List Addr) := K8.wr W11 (Or.inr sk_b2_0)
  have N11 := Fr.snoc X11 N8 ge_b2_0
  have Z11 : n0 ≤ h11.size := Nat.le_trans Z8 (Keep.of_wr W11).1
  have V11 : Arv Z h11 b2_0 y2_0 .long (8 : Int32) [(.long (wf + ((0 : Int64) * wst))), (.long (wf + ((1 : Int64) * wst))), (.long (wf + ((2 : Int64) * wst))), (.long pj1), (.long (0 : Int64)), (.long (0 : Int64)), (.long (0 : Int64)), (.long (0 : Int64))] (.long (0 : Int64)) := Arv.set Ar10 q10 S10 N10 H10 G10 rfl W11 3 rfl (Nat.le_of_ble_eq_true rfl)
  have go12 : ∀ t, Steps p.tables e below (T11.setTop (mkF m 62 #[.val (.ref pr0), .val (.long pj1), .second] [])) t → Steps p.tables e below st0 t := by
    intro t kt
    refine go0 t ?_
    refine XS.aloadN X0.here hx rfl (hb hby d11_0) rfl rfl ?_
    show Steps p.tables e below (s₁.setTop (mkF m 1 #[.val (.ref pr0), .val (.long pj1), .second] [(.ref pr0)])) _
    refine st1 _ ?_
    show Steps p.tables e below (T1.setTop (mkF m 4 #[.val (.ref pr0), .val (.long pj1), .second] [(.int (1 : Int32))])) _
    refine XS.ifNo X1.here hx rfl (hb hby d11_4) rfl ((if0 _ _).trans (feq (by decide : ¬ ((1 : Int32) = (0 : Int32)))).1) ?_
    show Steps p.tables e below (T1.setTop (mkF m 7 #[.val (.ref pr0), .val (.long pj1), .second] [])) _
    refine XS.aloadN X1.here hx rfl (hb hby d11_7) rfl rfl ?_
    show Steps p.tables e below (T1.setTop (mkF m 8 #[.val (.ref pr0), .val (.long pj1), .second] [(.ref pr0)])) _
    refine st2.trans ?_
    show Steps p.tables e below (T2.setTop (mkF m 11 #[.val (.ref pr0), .val (.long pj1), .second] [])) _
    refine XS.aloadN X2.here hx rfl (hb hby d11_11) rfl rfl ?_
    show Steps p.tables e below (T2.setTop (mkF m 12 #[.val (.ref pr0), .val (.long pj1), .second] [(.ref pr0)])) _
    refine st3 _ ?_
    show Steps p.tables e below (T3.setTop (mkF m 15 #[.val (.ref pr0), .val (.long pj1), .second] [(.int (3 : Int32))])) _
    refine XS.aloadN X3.here hx rfl (hb hby d11_15) rfl rfl ?_
    show Steps p.tables e below (T3.setTop (mkF m 16 #[.val (.ref pr0), .val (.long pj1), .second] [(.ref pr0), (.int (3 : Int32))])) _
    refine st4 _ ?_
    show Steps p.tables e below (T4.setTop (mkF m 19 #[.val (.ref pr0), .val (.long pj1), .second] [(.ref b2_0), (.int (3 : Int32))])) _
    refine X4.arraylength hx (by rw [e4]; exact Ar5.1) (State.isArrayOf_alike hZ.alike Ar5.2.1) (g := (mkF m 19 #[.val (.ref pr0), .val (.long pj1), .second] [(.ref b2_0), (.int (3 : Int32))])) rfl rfl (hb hby d11_19) _ ?_
    rw [len_of S5 N5]
    show Steps p.tables e below (T4.setTop (mkF m 20 #[.val (.ref pr0), .val (.long pj1), .second] [(.int (8 : Int32)), (.int (3 : Int32))])) _
    refine XS.icmpYes X4.here hx rfl (pc0 := 20) (pc' := 45) rfl (hb hby d11_20) rfl (feq (by decide : ¬ ((3 : Int32) = (8 : Int32)))).2 (by decide) (by decide) ?_
    show Steps p.tables e below (T4.setTop (mkF m 45 #[.val (.ref pr0), .val (.long pj1), .second] [])) _
    refine XS.aloadN X4.here hx rfl (hb hby d11_45) rfl rfl ?_
    show Steps p.tables e below (T4.setTop (mkF m 46 #[.val (.ref pr0), .val (.long pj1), .second] [(.ref pr0)])) _
    refine st6 _ ?_
    show Steps p.tables e below (T6.setTop (mkF m 49 #[.val (.ref pr0), .val (.long pj1), .second] [(.ref b2_0)])) _
    refine XS.aloadN X6.here hx rfl (hb hby d11_49) rfl rfl ?_
    show Steps p.tables e below (T6.setTop (mkF m 50 #[.val (.ref pr0), .val (.long pj1), .second] [(.ref pr0), (.ref b2_0)])) _
    refine XS.dup X6.here hx rfl (hb hby d11_50) rfl rfl ?_
    show Steps p.tables e below (T6.setTop (mkF m 51 #[.val (.ref pr0), .val (.long pj1), .second] [(.ref pr0), (.ref pr0), (.ref b2_0)])) _
    refine st7 _ ?_
    show Steps p.tables e below (T7.setTop (mkF m 54 #[.val (.ref pr0), .val (.long pj1), .second] [(.int (3 : Int32)), (.ref pr0), (.ref b2_0)])) _
    refine XS.dupX1 X7.here hx rfl (hb hby d11_54) rfl rfl rfl ?_
    show Steps p.tables e below (T7.setTop (mkF m 55 #[.val (.ref pr0), .val (.long pj1), .second] [(.int (3 : Int32)), (.ref pr0), (.int (3 : Int32)), (.ref b2_0)])) _
    refine XS.iconst X7.here hx rfl (hb hby d11_55) ?_
    show Steps p.tables e below (T7.setTop (mkF m 56 #[.val (.ref pr0), .val (.long pj1), .second] [(.int (1 : Int32)), (.int (3 : Int32)), (.ref pr0), (.int (3 : Int32)), (.ref b2_0)])) _
    refine XS.iadd X7.here hx rfl (hb hby d11_56) rfl ?_
    show Steps p.tables e below (T7.setTop (mkF m 57 #[.val (.ref pr0), .val (.long pj1), .second] [(.int (4 : Int32)), (.ref pr0), (.int (3 : Int32)), (.ref b2_0)])) _
    refine st8 _ ?_
    show Steps p.tables e below (T8.setTop (mkF m 60 #[.val (.ref pr0), .val (.long pj1), .second] [(.int (3 : Int32)), (.ref b2_0)])) _
    refine XS.lloadN X8.here hx rfl (hb hby d11_60) rfl ?_
    show Steps p.tables e below (T8.setTop (mkF m 61 #[.val (.ref pr0), .val (.long pj1), .second] [(.long pj1), (.int (3 : Int32)), (.ref b2_0)])) _
    refine st11 _ ?_
    show Steps p.tables e below (T11.setTop (mkF m 62 #[.val (.ref pr0), .val (.long pj1), .second] [])) _
    exact kt
  obtain ⟨fs, hr, hrun, hended, hW, hsame⟩ := X11.leave (v := none) (fun _ => rfl)
  refine ⟨_, _, go12 _ ?_, hrun, hended, _, _, rfl, ?_, ⟨_, rfl⟩, hW, hsame.mono (by decide) (by decide)⟩
  · exact X11.returnOut hx Bd.returns (hb hby d11_62) hr
  · show Q_own_addR3 Z pr0 pj1 nn ka wf wst h0 n0 _ T11.heap _
    rw [e11]
    have f13 : Exa Z h11 pr0 "com/example/kalends/kalends/engine/LongList" := ((p2_0.wr W8).wr W11)
    have f14 : Fld Z h11 pr0 "com/example/kalends/kalends/engine/LongList" "values" "[J" (.ref b2_0) := ((p2_1.other W8 (Or.inr (slot_ne (Or.inl (hw _ (List.mem_of_getElem? (i := 12) rfl))) (Or.inl (hw _ (List.mem_of_getElem? (i := 19) rfl))) (by decide) (t := (.array .long)) (t' := .int) (by decide) (by decide)))).other W11 (Or.inl ne_b2_0_pr0))
    have f15 : Fld Z h11 pr0 "com/example/kalends/kalends/engine/LongList" "size" "I" (.int (4 : Int32)) := (Fw8.other W11 (Or.inl ne_b2_0_pr0))
    have f16 : Fld Z h11 pr0 "com/example/kalends/kalends/engine/LongList" "run" "Z" (.int (0 : Int32)) := ((p2_3.other W8 (Or.inr (slot_ne (Or.inl (hw _ (List.mem_of_getElem? (i := 26) rfl))) (Or.inl (hw _ (List.mem_of_getElem? (i := 19) rfl))) (by decide) (t := .boolean) (t' := .int) (by decide) (by decide)))).other W11 (Or.inl ne_b2_0_pr0))
    exact ⟨N11, b2_0, y2_0, [(.long (wf + ((0 : Int64) * wst))), (.long (wf + ((1 : Int64) * wst))), (.long (wf + ((2 : Int64) * wst))), (.long pj1), (.long (0 : Int64)), (.long (0 : Int64)), (.long (0 : Int64)), (.long (0 : Int64))], rfl, sk_b2_0, K11, f13, f14, f15, f16, V11, rfl⟩
theorem ef_own_addV1 (m : MethodId) (pr0 : Addr) (pj1 : Int64) : entryFrame m #[(.ref pr0), (.long pj1)] 3 = mkF m 0 #[.val (.ref pr0), .val (.long pj1), .second] [] := by first | (simp [entryFrame, mkF, argsToLocals, Value.category]; done) | rfl
def Q_own_addV1 (Z : State) (pr0 : Addr) (pj1 : Int64) (bv : Addr) (ka : ClassId) (vi : List Value) (h0 : Heap) (n0 : Nat) (v : Option Value) (h : Heap) (L : List Loc) : Prop := Fr n0 L ∧ ∃ (vs : List Value), v = none ∧ Keep h0 h ([pr0, bv] : List Addr) ∧ Exa Z h pr0 "com/example/kalends/kalends/engine/LongList" ∧ Fld Z h pr0 "com/example/kalends/kalends/engine/LongList" "values" "[J" (.ref bv) ∧ Fld Z h pr0 "com/example/kalends/kalends/engine/LongList" "size" "I" (.int (2 : Int32)) ∧ Fld Z h pr0 "com/example/kalends/kalends/engine/LongList" "run" "Z" (.int (0 : Int32)) ∧ Arv Z h bv ka .long (8 : Int32) vs (.long (0 : Int64)) ∧ vs.length = 8
set_option maxRecDepth 65536 in
set_option maxHeartbeats 40000000 in
theorem own_addV1 (l : Launch) (Z : State) (a0 : Array Value) (hw : ∀ d ∈ tables_1, d.before a0 Z = true) (ws : List Jvm.Cond) (pr0 : Addr) (pj1 : Int64) (bv : Addr) (ka : ClassId) (vi : List Value) (h0 : Heap) (n0 : Nat) (Z0 : n0 ≤ h0.size) (P0 : Exa Z h0 pr0 "com/example/kalends/kalends/engine/LongList") (P1 : Fld Z h0 pr0 "com/example/kalends/kalends/engine/LongList" "values" "[J" (.ref bv)) (P2 : Fld Z h0 pr0 "com/example/kalends/kalends/engine/LongList" "size" "I" (.int (1 : Int32))) (P3 : Fld Z h0 pr0 "com/example/kalends/kalends/engine/LongList" "run" "Z" (.int (0 : Int32))) (P4 : Arv Z h0 bv ka .long (8 : Int32) vi (.long (0 : Int64))) (P5 : vi.length = 8) (P6 : bv ≠ pr0) (P7 : n0 ≤ bv) (P8 : n0 ≤ pr0) :
    MetFree l (⟨"com/example/kalends/kalends/engine/LongList", "add", "(J)V"⟩ : MethodName) (head1 (Jvm.Cond.code (⟨"com/example/kalends/kalends/engine/LongList", "add", "(J)V"⟩ : MethodName) prog_9_method_2_code 3 none :: ws) ({ frames := 0, cells := 0, slots := 0, locals := 0 } : Room)) (fun a U => a = #[(.ref pr0), (.long pj1)] ∧ Z.Warmed39 U.vm ∧ U.heap = h0) (fun _ _ _ _ _ => True) (fun _ U o U' => ∃ v L, o = .returned v ∧ Q_own_addV1 Z pr0 pj1 bv ka vi h0 n0 v U'.heap L ∧ FrameEnd U o U' L ({ frames := 0, cells := 0, slots := 0, locals := 0 } : Room).cells ({ frames := 0, cells := 0, slots := 0, locals := 0 } : Room).slots) := by
  refine MetFree.of_bodySF (plainFor_of_name pn_4) hisR ?_
  intro p e s m args below meth c s₁ Bd hml0 hP hK
  obtain ⟨rfl, hZ, hh⟩ := hP
  have hx := Bd.exec
  have hby := Bd.bytes
  have hml : c.maxLocals = 3 := hml0
  have hown : s.vm.findClass "com/example/kalends/kalends/engine/LongList" = some m.cls := findClass_of_methodNamed Bd.named
  have hnm := (name_of_methodNamed Bd.named Bd.method).1
  have X0 : Stand p l e ({ frames := 0, cells := 0, slots := 0, locals := 0 } : Room) s m #[(.ref pr0), (.long pj1)] below meth c s₁ [] 0 0 := Stand.of_body Bd
  have e0 : s₁.heap = h0 := by rw [← hh, Bd.state]; rfl
  have N0 := Fr.nil n0
  have go0 : ∀ t, Steps p.tables e below (s₁.setTop (mkF m 0 #[.val (.ref pr0), .val (.long pj1), .second] [])) t → Steps p.tables e below (s₁.setTop (entryFrame m #[(.ref pr0), (.long pj1)] 3)) t := fun t k => castTop (ef_own_addV1 m pr0 pj1) k
  revert go0
  generalize s₁.setTop (entryFrame m #[(.ref pr0), (.long pj1)] 3) = st0
  intro go0
  obtain ⟨T1, X1, e1, st1⟩ := getF X0 hx hZ hown (host := "") (Or.inl (hw _ (List.mem_of_getElem? (i := 25) rfl))) Via.refl e0 P3 (g := (mkF m 1 #[.val (.ref pr0), .val (.long pj1), .second] [(.ref pr0)])) rfl rfl (hb hby d11_1)
  obtain ⟨T2, X2, e2, st2⟩ := getF X1 hx hZ hown (host := "") (Or.inl (hw _ (List.mem_of_getElem? (i := 18) rfl))) Via.refl e1 P2 (g := (mkF m 12 #[.val (.ref pr0), .val (.long pj1), .second] [(.ref pr0)])) rfl rfl (hb hby d11_12)
  obtain ⟨T3, X3, e3, st3⟩ := getF X2 hx hZ hown (host := "") (Or.inl (hw _ (List.mem_of_getElem? (i := 11) rfl))) Via.refl e2 P1 (g := (mkF m 16 #[.val (.ref pr0), .val (.long pj1), .second] [(.ref pr0), (.int (1 : Int32))])) rfl rfl (hb hby d11_16)
  obtain ⟨cl4, Ar4, q4, S4, N4, H4, G4⟩ := id P4
  obtain ⟨T5, X5, e5, st5⟩ := getF X3 hx hZ hown (host := "") (Or.inl (hw _ (List.mem_of_getElem? (i := 11) rfl))) Via.refl e3 P1 (g := (mkF m 46 #[.val (.ref pr0), .val (.long pj1), .second] [(.ref pr0)])) rfl rfl (hb hby d11_46)
  obtain ⟨T6, X6, e6, st6⟩ := getF X5 hx hZ hown (host := "") (Or.inl (hw _ (List.mem_of_getElem? (i := 18) rfl))) Via.refl e5 P2 (g := (mkF m 51 #[.val (.ref pr0), .val (.long pj1), .second] [(.ref pr0), (.ref pr0), (.ref bv)])) rfl rfl (hb hby d11_51)
  obtain ⟨T7, h7, X7, e7, W7, st7⟩ := putF X6 hx hZ hown (host := "") (Or.inl (hw _ (List.mem_of_getElem? (i := 18) rfl))) Via.refl e6 P2 P0 (Or.inl (hw _ (List.mem_of_getElem? (i := 19) rfl))) (hw _ (List.mem_of_getElem? (i := 1) rfl)) (ty := .int) (by decide) rfl rfl (g := (mkF m 57 #[.val (.ref pr0), .val (.long pj1), .second] [(.int (2 : Int32)), (.ref pr0), (.int (1 : Int32)), (.ref bv)])) rfl rfl (hb hby d11_57)
  have K7 : Keep h0 h7 ([pr0, bv] : List Addr) := (Keep.refl h0 ([pr0, bv] : List Addr)).wr W7 (Or.inl (List.mem_of_getElem? (i := 0) rfl))
  have N7 := Fr.snoc X7 N0 P8
  have Z7 : n0 ≤ h7.size := Nat.le_trans Z0 (Keep.of_wr W7).1
  have Fw7 := P2.same W7
  have f8 : Arv Z h7 bv ka .long (8 : Int32) vi (.long (0 : Int64)) := (P4.other W7 P6)
  obtain ⟨cl9, Ar9, q9, S9, N9, H9, G9⟩ := id f8
  have hin9 : ¬ ((1 : Int32) < 0 ∨ cl9.slots.size ≤ ((1 : Int32)).toNatClampNeg) := inb_of S9 ⟨by decide, by decide⟩
  obtain ⟨T10, h10, X10, e10, W10, st10⟩ := stJ X7 hx hZ e7 Ar9 (j := (1 : Int32)) hin9 (g := (mkF m 61 #[.val (.ref pr0), .val (.long pj1), .second] [(.long pj1), (.int (1 : Int32)), (.ref bv)])) rfl rfl (hb hby d11_61)
  have K10 : Keep h0 h10 ([pr0, bv] : List Addr) := K7.wr W10 (Or.inl (List.mem_of_getElem? (i := 1) rfl))
  have N10 := Fr.snoc X10 N7 P7
  have Z10 : n0 ≤ h10.size := Nat.le_trans Z7 (Keep.of_wr W10).1
  have V10 : Arv Z h10 bv ka .long (8 : Int32) (vi.set 1 (.long pj1)) (.long (0 : Int64)) := Arv.set Ar9 q9 S9 N9 H9 G9 rfl W10 1 rfl (by rw [P5]; decide)
  have go11 : ∀ t, Steps p.tables e below (T10.setTop (mkF m 62 #[.val (.ref pr0), .val (.long pj1), .second] [])) t → Steps p.tables e below st0 t := by
    intro t kt
    refine go0 t ?_
    refine XS.aloadN X0.here hx rfl (hb hby d11_0) rfl rfl ?_
    show Steps p.tables e below (s₁.setTop (mkF m 1 #[.val (.ref pr0), .val (.long pj1), .second] [(.ref pr0)])) _
    refine st1 _ ?_
    show Steps p.tables e below (T1.setTop (mkF m 4 #[.val (.ref pr0), .val (.long pj1), .second] [(.int (0 : Int32))])) _
    refine XS.ifYes X1.here hx rfl (pc0 := 4) (pc' := 11) rfl (hb hby d11_4) rfl ((if0 _ _).trans (teq (by decide : (0 : Int32) = (0 : Int32))).1) (by decide) (by decide) ?_
    show Steps p.tables e below (T1.setTop (mkF m 11 #[.val (.ref pr0), .val (.long pj1), .second] [])) _
    refine XS.aloadN X1.here hx rfl (hb hby d11_11) rfl rfl ?_
    show Steps p.tables e below (T1.setTop (mkF m 12 #[.val (.ref pr0), .val (.long pj1), .second] [(.ref pr0)])) _
    refine st2 _ ?_
    show Steps p.tables e below (T2.setTop (mkF m 15 #[.val (.ref pr0), .val (.long pj1), .second] [(.int (1 : Int32))])) _
    refine XS.aloadN X2.here hx rfl (hb hby d11_15) rfl rfl ?_
    show Steps p.tables e below (T2.setTop (mkF m 16 #[.val (.ref pr0), .val (.long pj1), .second] [(.ref pr0), (.int (1 : Int32))])) _
    refine st3 _ ?_
    show Steps p.tables e below (T3.setTop (mkF m 19 #[.val (.ref pr0), .val (.long pj1), .second] [(.ref bv), (.int (1 : Int32))])) _
    refine X3.arraylength hx (by rw [e3]; exact Ar4.1) (State.isArrayOf_alike hZ.alike Ar4.2.1) (g := (mkF m 19 #[.val (.ref pr0), .val (.long pj1), .second] [(.ref bv), (.int (1 : Int32))])) rfl rfl (hb hby d11_19) _ ?_
    rw [len_of S4 N4]
    show Steps p.tables e below (T3.setTop (mkF m 20 #[.val (.ref pr0), .val (.long pj1), .second] [(.int (8 : Int32)), (.int (1 : Int32))])) _
    refine XS.icmpYes X3.here hx rfl (pc0 := 20) (pc' := 45) rfl (hb hby d11_20) rfl (feq (by decide : ¬ ((1 : Int32) = (8 : Int32)))).2 (by decide) (by decide) ?_
    show Steps p.tables e below (T3.setTop (mkF m 45 #[.val (.ref pr0), .val (.long pj1), .second] [])) _
    refine XS.aloadN X3.here hx rfl (hb hby d11_45) rfl rfl ?_
    show Steps p.tables e below (T3.setTop (mkF m 46 #[.val (.ref pr0), .val (.long pj1), .second] [(.ref pr0)])) _
    refine st5 _ ?_
    show Steps p.tables e below (T5.setTop (mkF m 49 #[.val (.ref pr0), .val (.long pj1), .second] [(.ref bv)])) _
    refine XS.aloadN X5.here hx rfl (hb hby d11_49) rfl rfl ?_
    show Steps p.tables e below (T5.setTop (mkF m 50 #[.val (.ref pr0), .val (.long pj1), .second] [(.ref pr0), (.ref bv)])) _
    refine XS.dup X5.here hx rfl (hb hby d11_50) rfl rfl ?_
    show Steps p.tables e below (T5.setTop (mkF m 51 #[.val (.ref pr0), .val (.long pj1), .second] [(.ref pr0), (.ref pr0), (.ref bv)])) _
    refine st6 _ ?_
    show Steps p.tables e below (T6.setTop (mkF m 54 #[.val (.ref pr0), .val (.long pj1), .second] [(.int (1 : Int32)), (.ref pr0), (.ref bv)])) _
    refine XS.dupX1 X6.here hx rfl (hb hby d11_54) rfl rfl rfl ?_
    show Steps p.tables e below (T6.setTop (mkF m 55 #[.val (.ref pr0), .val (.long pj1), .second] [(.int (1 : Int32)), (.ref pr0), (.int (1 : Int32)), (.ref bv)])) _
    refine XS.iconst X6.here hx rfl (hb hby d11_55) ?_
    show Steps p.tables e below (T6.setTop (mkF m 56 #[.val (.ref pr0), .val (.long pj1), .second] [(.int (1 : Int32)), (.int (1 : Int32)), (.ref pr0), (.int (1 : Int32)), (.ref bv)])) _
    refine XS.iadd X6.here hx rfl (hb hby d11_56) rfl ?_
    show Steps p.tables e below (T6.setTop (mkF m 57 #[.val (.ref pr0), .val (.long pj1), .second] [(.int (2 : Int32)), (.ref pr0), (.int (1 : Int32)), (.ref bv)])) _
    refine st7 _ ?_
    show Steps p.tables e below (T7.setTop (mkF m 60 #[.val (.ref pr0), .val (.long pj1), .second] [(.int (1 : Int32)), (.ref bv)])) _
    refine XS.lloadN X7.here hx rfl (hb hby d11_60) rfl ?_
    show Steps p.tables e below (T7.setTop (mkF m 61 #[.val (.ref pr0), .val (.long pj1), .second] [(.long pj1), (.int (1 : Int32)), (.ref bv)])) _
    refine st10 _ ?_
    show Steps p.tables e below (T10.setTop (mkF m 62 #[.val (.ref pr0), .val (.long pj1), .second] [])) _
    exact kt
  obtain ⟨fs, hr, hrun, hended, hW, hsame⟩ := X10.leave (v := none) (fun _ => rfl)
  refine ⟨_, _, go11 _ ?_, hrun, hended, _, _, rfl, ?_, ⟨_, rfl⟩, hW, hsame.mono (by decide) (by decide)⟩
  · exact X10.returnOut hx Bd.returns (hb hby d11_62) hr
  · show Q_own_addV1 Z pr0 pj1 bv ka vi h0 n0 _ T10.heap _
    rw [e10]
    have f12 : Exa Z h10 pr0 "com/example/kalends/kalends/engine/LongList" := ((P0.wr W7).wr W10)
    have f13 : Fld Z h10 pr0 "com/example/kalends/kalends/engine/LongList" "values" "[J" (.ref bv) := ((P1.other W7 (Or.inr (slot_ne (Or.inl (hw _ (List.mem_of_getElem? (i := 12) rfl))) (Or.inl (hw _ (List.mem_of_getElem? (i := 19) rfl))) (by decide) (t := (.array .long)) (t' := .int) (by decide) (by decide)))).other W10 (Or.inl (Ne.symm P6)))
    have f14 : Fld Z h10 pr0 "com/example/kalends/kalends/engine/LongList" "size" "I" (.int (2 : Int32)) := (Fw7.other W10 (Or.inl (Ne.symm P6)))
    have f15 : Fld Z h10 pr0 "com/example/kalends/kalends/engine/LongList" "run" "Z" (.int (0 : Int32)) := ((P3.other W7 (Or.inr (slot_ne (Or.inl (hw _ (List.mem_of_getElem? (i := 26) rfl))) (Or.inl (hw _ (List.mem_of_getElem? (i := 19) rfl))) (by decide) (t := .boolean) (t' := .int) (by decide) (by decide)))).other W10 (Or.inl (Ne.symm P6)))
    exact ⟨N10, (vi.set 1 (.long pj1)), rfl, K10, f12, f13, f14, f15, V10, (by rw [List.length_set]; exact P5)⟩
theorem ef_own_addV2 (m : MethodId) (pr0 : Addr) (pj1 : Int64) : entryFrame m #[(.ref pr0), (.long pj1)] 3 = mkF m 0 #[.val (.ref pr0), .val (.long pj1), .second] [] := by first | (simp [entryFrame, mkF, argsToLocals, Value.category]; done) | rfl
def Q_own_addV2 (Z : State) (pr0 : Addr) (pj1 : Int64) (bv : Addr) (ka : ClassId) (vi : List Value) (h0 : Heap) (n0 : Nat) (v : Option Value) (h : Heap) (L : List Loc) : Prop := Fr n0 L ∧ ∃ (vs : List Value), v = none ∧ Keep h0 h ([pr0, bv] : List Addr) ∧ Exa Z h pr0 "com/example/kalends/kalends/engine/LongList" ∧ Fld Z h pr0 "com/example/kalends/kalends/engine/LongList" "values" "[J" (.ref bv) ∧ Fld Z h pr0 "com/example/kalends/kalends/engine/LongList" "size" "I" (.int (3 : Int32)) ∧ Fld Z h pr0 "com/example/kalends/kalends/engine/LongList" "run" "Z" (.int (0 : Int32)) ∧ Arv Z h bv ka .long (8 : Int32) vs (.long (0 : Int64)) ∧ vs.length = 8
set_option maxRecDepth 65536 in
set_option maxHeartbeats 40000000 in
theorem own_addV2 (l : Launch) (Z : State) (a0 : Array Value) (hw : ∀ d ∈ tables_1, d.before a0 Z = true) (ws : List Jvm.Cond) (pr0 : Addr) (pj1 : Int64) (bv : Addr) (ka : ClassId) (vi : List Value) (h0 : Heap) (n0 : Nat) (Z0 : n0 ≤ h0.size) (P0 : Exa Z h0 pr0 "com/example/kalends/kalends/engine/LongList") (P1 : Fld Z h0 pr0 "com/example/kalends/kalends/engine/LongList" "values" "[J" (.ref bv)) (P2 : Fld Z h0 pr0 "com/example/kalends/kalends/engine/LongList" "size" "I" (.int (2 : Int32))) (P3 : Fld Z h0 pr0 "com/example/kalends/kalends/engine/LongList" "run" "Z" (.int (0 : Int32))) (P4 : Arv Z h0 bv ka .long (8 : Int32) vi (.long (0 : Int64))) (P5 : vi.length = 8) (P6 : bv ≠ pr0) (P7 : n0 ≤ bv) (P8 : n0 ≤ pr0) :
    MetFree l (⟨"com/example/kalends/kalends/engine/LongList", "add", "(J)V"⟩ : MethodName) (head1 (Jvm.Cond.code (⟨"com/example/kalends/kalends/engine/LongList", "add", "(J)V"⟩ : MethodName) prog_9_method_2_code 3 none :: ws) ({ frames := 0, cells := 0, slots := 0, locals := 0 } : Room)) (fun a U => a = #[(.ref pr0), (.long pj1)] ∧ Z.Warmed39 U.vm ∧ U.heap = h0) (fun _ _ _ _ _ => True) (fun _ U o U' => ∃ v L, o = .returned v ∧ Q_own_addV2 Z pr0 pj1 bv ka vi h0 n0 v U'.heap L ∧ FrameEnd U o U' L ({ frames := 0, cells := 0, slots := 0, locals := 0 } : Room).cells ({ frames := 0, cells := 0, slots := 0, locals := 0 } : Room).slots) := by
  refine MetFree.of_bodySF (plainFor_of_name pn_4) hisR ?_
  intro p e s m args below meth c s₁ Bd hml0 hP hK
  obtain ⟨rfl, hZ, hh⟩ := hP
  have hx := Bd.exec
  have hby := Bd.bytes
  have hml : c.maxLocals = 3 := hml0
  have hown : s.vm.findClass "com/example/kalends/kalends/engine/LongList" = some m.cls := findClass_of_methodNamed Bd.named
  have hnm := (name_of_methodNamed Bd.named Bd.method).1
  have X0 : Stand p l e ({ frames := 0, cells := 0, slots := 0, locals := 0 } : Room) s m #[(.ref pr0), (.long pj1)] below meth c s₁ [] 0 0 := Stand.of_body Bd
  have e0 : s₁.heap = h0 := by rw [← hh, Bd.state]; rfl
  have N0 := Fr.nil n0
  have go0 : ∀ t, Steps p.tables e below (s₁.setTop (mkF m 0 #[.val (.ref pr0), .val (.long pj1), .second] [])) t → Steps p.tables e below (s₁.setTop (entryFrame m #[(.ref pr0), (.long pj1)] 3)) t := fun t k => castTop (ef_own_addV2 m pr0 pj1) k
  revert go0
  generalize s₁.setTop (entryFrame m #[(.ref pr0), (.long pj1)] 3) = st0
  intro go0
  obtain ⟨T1, X1, e1, st1⟩ := getF X0 hx hZ hown (host := "") (Or.inl (hw _ (List.mem_of_getElem? (i := 25) rfl))) Via.refl e0 P3 (g := (mkF m 1 #[.val (.ref pr0), .val (.long pj1), .second] [(.ref pr0)])) rfl rfl (hb hby d11_1)
  obtain ⟨T2, X2, e2, st2⟩ := getF X1 hx hZ hown (host := "") (Or.inl (hw _ (List.mem_of_getElem? (i := 18) rfl))) Via.refl e1 P2 (g := (mkF m 12 #[.val (.ref pr0), .val (.long pj1), .second] [(.ref pr0)])) rfl rfl (hb hby d11_12)
  obtain ⟨T3, X3, e3, st3⟩ := getF X2 hx hZ hown (host := "") (Or.inl (hw _ (List.mem_of_getElem? (i := 11) rfl))) Via.refl e2 P1 (g := (mkF m 16 #[.val (.ref pr0), .val (.long pj1), .second] [(.ref pr0), (.int (2 : Int32))])) rfl rfl (hb hby d11_16)
  obtain ⟨cl4, Ar4, q4, S4, N4, H4, G4⟩ := id P4
  obtain ⟨T5, X5, e5, st5⟩ := getF X3 hx hZ hown (host := "") (Or.inl (hw _ (List.mem_of_getElem? (i := 11) rfl))) Via.refl e3 P1 (g := (mkF m 46 #[.val (.ref pr0), .val (.long pj1), .second] [(.ref pr0)])) rfl rfl (hb hby d11_46)
  obtain ⟨T6, X6, e6, st6⟩ := getF X5 hx hZ hown (host := "") (Or.inl (hw _ (List.mem_of_getElem? (i := 18) rfl))) Via.refl e5 P2 (g := (mkF m 51 #[.val (.ref pr0), .val (.long pj1), .second] [(.ref pr0), (.ref pr0), (.ref bv)])) rfl rfl (hb hby d11_51)
  obtain ⟨T7, h7, X7, e7, W7, st7⟩ := putF X6 hx hZ hown (host := "") (Or.inl (hw _ (List.mem_of_getElem? (i := 18) rfl))) Via.refl e6 P2 P0 (Or.inl (hw _ (List.mem_of_getElem? (i := 19) rfl))) (hw _ (List.mem_of_getElem? (i := 1) rfl)) (ty := .int) (by decide) rfl rfl (g := (mkF m 57 #[.val (.ref pr0), .val (.long pj1), .second] [(.int (3 : Int32)), (.ref pr0), (.int (2 : Int32)), (.ref bv)])) rfl rfl (hb hby d11_57)
  have K7 : Keep h0 h7 ([pr0, bv] : List Addr) := (Keep.refl h0 ([pr0, bv] : List Addr)).wr W7 (Or.inl (List.mem_of_getElem? (i := 0) rfl))
  have N7 := Fr.snoc X7 N0 P8
  have Z7 : n0 ≤ h7.size := Nat.le_trans Z0 (Keep.of_wr W7).1
  have Fw7 := P2.same W7
  have f8 : Arv Z h7 bv ka .long (8 : Int32) vi (.long (0 : Int64)) := (P4.other W7 P6)
  obtain ⟨cl9, Ar9, q9, S9, N9, H9, G9⟩ := id f8
  have hin9 : ¬ ((2 : Int32) < 0 ∨ cl9.slots.size ≤ ((2 : Int32)).toNatClampNeg) := inb_of S9 ⟨by decide, by decide⟩
  obtain ⟨T10, h10, X10, e10, W10, st10⟩ := stJ X7 hx hZ e7 Ar9 (j := (2 : Int32)) hin9 (g := (mkF m 61 #[.val (.ref pr0), .val (.long pj1), .second] [(.long pj1), (.int (2 : Int32)), (.ref bv)])) rfl rfl (hb hby d11_61)
  have K10 : Keep h0 h10 ([pr0, bv] : List Addr) := K7.wr W10 (Or.inl (List.mem_of_getElem? (i := 1) rfl))
  have N10 := Fr.snoc X10 N7 P7
  have Z10 : n0 ≤ h10.size := Nat.le_trans Z7 (Keep.of_wr W10).1
  have V10 : Arv Z h10 bv ka .long (8 : Int32) (vi.set 2 (.long pj1)) (.long (0 : Int64)) := Arv.set Ar9 q9 S9 N9 H9 G9 rfl W10 2 rfl (by rw [P5]; decide)
  have go11 : ∀ t, Steps p.tables e below (T10.setTop (mkF m 62 #[.val (.ref pr0), .val (.long pj1), .second] [])) t → Steps p.tables e below st0 t := by
    intro t kt
    refine go0 t ?_
    refine XS.aloadN X0.here hx rfl (hb hby d11_0) rfl rfl ?_
    show Steps p.tables e below (s₁.setTop (mkF m 1 #[.val (.ref pr0), .val (.long pj1), .second] [(.ref pr0)])) _
    refine st1 _ ?_
    show Steps p.tables e below (T1.setTop (mkF m 4 #[.val (.ref pr0), .val (.long pj1), .second] [(.int (0 : Int32))])) _
    refine XS.ifYes X1.here hx rfl (pc0 := 4) (pc' := 11) rfl (hb hby d11_4) rfl ((if0 _ _).trans (teq (by decide : (0 : Int32) = (0 : Int32))).1) (by decide) (by decide) ?_
    show Steps p.tables e below (T1.setTop (mkF m 11 #[.val (.ref pr0), .val (.long pj1), .second] [])) _
    refine XS.aloadN X1.here hx rfl (hb hby d11_11) rfl rfl ?_
    show Steps p.tables e below (T1.setTop (mkF m 12 #[.val (.ref pr0), .val (.long pj1), .second] [(.ref pr0)])) _
    refine st2 _ ?_
    show Steps p.tables e below (T2.setTop (mkF m 15 #[.val (.ref pr0), .val (.long pj1), .second] [(.int (2 : Int32))])) _
    refine XS.aloadN X2.here hx rfl (hb hby d11_15) rfl rfl ?_
    show Steps p.tables e below (T2.setTop (mkF m 16 #[.val (.ref pr0), .val (.long pj1), .second] [(.ref pr0), (.int (2 : Int32))])) _
    refine st3 _ ?_
    show Steps p.tables e below (T3.setTop (mkF m 19 #[.val (.ref pr0), .val (.long pj1), .second] [(.ref bv), (.int (2 : Int32))])) _
    refine X3.arraylength hx (by rw [e3]; exact Ar4.1) (State.isArrayOf_alike hZ.alike Ar4.2.1) (g := (mkF m 19 #[.val (.ref pr0), .val (.long pj1), .second] [(.ref bv), (.int (2 : Int32))])) rfl rfl (hb hby d11_19) _ ?_
    rw [len_of S4 N4]
    show Steps p.tables e below (T3.setTop (mkF m 20 #[.val (.ref pr0), .val (.long pj1), .second] [(.int (8 : Int32)), (.int (2 : Int32))])) _
    refine XS.icmpYes X3.here hx rfl (pc0 := 20) (pc' := 45) rfl (hb hby d11_20) rfl (feq (by decide : ¬ ((2 : Int32) = (8 : Int32)))).2 (by decide) (by decide) ?_
    show Steps p.tables e below (T3.setTop (mkF m 45 #[.val (.ref pr0), .val (.long pj1), .second] [])) _
    refine XS.aloadN X3.here hx rfl (hb hby d11_45) rfl rfl ?_
    show Steps p.tables e below (T3.setTop (mkF m 46 #[.val (.ref pr0), .val (.long pj1), .second] [(.ref pr0)])) _
    refine st5 _ ?_
    show Steps p.tables e below (T5.setTop (mkF m 49 #[.val (.ref pr0), .val (.long pj1), .second] [(.ref bv)])) _
    refine XS.aloadN X5.here hx rfl (hb hby d11_49) rfl rfl ?_
    show Steps p.tables e below (T5.setTop (mkF m 50 #[.val (.ref pr0), .val (.long pj1), .second] [(.ref pr0), (.ref bv)])) _
    refine XS.dup X5.here hx rfl (hb hby d11_50) rfl rfl ?_
    show Steps p.tables e below (T5.setTop (mkF m 51 #[.val (.ref pr0), .val (.long pj1), .second] [(.ref pr0), (.ref pr0), (.ref bv)])) _
    refine st6 _ ?_
    show Steps p.tables e below (T6.setTop (mkF m 54 #[.val (.ref pr0), .val (.long pj1), .second] [(.int (2 : Int32)), (.ref pr0), (.ref bv)])) _
    refine XS.dupX1 X6.here hx rfl (hb hby d11_54) rfl rfl rfl ?_
    show Steps p.tables e below (T6.setTop (mkF m 55 #[.val (.ref pr0), .val (.long pj1), .second] [(.int (2 : Int32)), (.ref pr0), (.int (2 : Int32)), (.ref bv)])) _
    refine XS.iconst X6.here hx rfl (hb hby d11_55) ?_
    show Steps p.tables e below (T6.setTop (mkF m 56 #[.val (.ref pr0), .val (.long pj1), .second] [(.int (1 : Int32)), (.int (2 : Int32)), (.ref pr0), (.int (2 : Int32)), (.ref bv)])) _
    refine XS.iadd X6.here hx rfl (hb hby d11_56) rfl ?_
    show Steps p.tables e below (T6.setTop (mkF m 57 #[.val (.ref pr0), .val (.long pj1), .second] [(.int (3 : Int32)), (.ref pr0), (.int (2 : Int32)), (.ref bv)])) _
    refine st7 _ ?_
    show Steps p.tables e below (T7.setTop (mkF m 60 #[.val (.ref pr0), .val (.long pj1), .second] [(.int (2 : Int32)), (.ref bv)])) _
    refine XS.lloadN X7.here hx rfl (hb hby d11_60) rfl ?_
    show Steps p.tables e below (T7.setTop (mkF m 61 #[.val (.ref pr0), .val (.long pj1), .second] [(.long pj1), (.int (2 : Int32)), (.ref bv)])) _
    refine st10 _ ?_
    show Steps p.tables e below (T10.setTop (mkF m 62 #[.val (.ref pr0), .val (.long pj1), .second] [])) _
    exact kt
  obtain ⟨fs, hr, hrun, hended, hW, hsame⟩ := X10.leave (v := none) (fun _ => rfl)
  refine ⟨_, _, go11 _ ?_, hrun, hended, _, _, rfl, ?_, ⟨_, rfl⟩, hW, hsame.mono (by decide) (by decide)⟩
  · exact X10.returnOut hx Bd.returns (hb hby d11_62) hr
  · show Q_own_addV2 Z pr0 pj1 bv ka vi h0 n0 _ T10.heap _
    rw [e10]
    have f12 : Exa Z h10 pr0 "com/example/kalends/kalends/engine/LongList" := ((P0.wr W7).wr W10)
    have f13 : Fld Z h10 pr0 "com/example/kalends/kalends/engine/LongList" "values" "[J" (.ref bv) := ((P1.other W7 (Or.inr (slot_ne (Or.inl (hw _ (List.mem_of_getElem? (i := 12) rfl))) (Or.inl (hw _ (List.mem_of_getElem? (i := 19) rfl))) (by decide) (t := (.array .long)) (t' := .int) (by decide) (by decide)))).other W10 (Or.inl (Ne.symm P6)))
    have f14 : Fld Z h10 pr0 "com/example/kalends/kalends/engine/LongList" "size" "I" (.int (3 : Int32)) := (Fw7.other W10 (Or.inl (Ne.symm P6)))
    have f15 : Fld Z h10 pr0 "com/example/kalends/kalends/engine/LongList" "run" "Z" (.int (0 : Int32)) := ((P3.other W7 (Or.inr (slot_ne (Or.inl (hw _ (List.mem_of_getElem? (i := 26) rfl))) (Or.inl (hw _ (List.mem_of_getElem? (i := 19) rfl))) (by decide) (t := .boolean) (t' := .int) (by decide) (by decide)))).other W10 (Or.inl (Ne.symm P6)))
    exact ⟨N10, (vi.set 2 (.long pj1)), rfl, K10, f12, f13, f14, f15, V10, (by rw [List.length_set]; exact P5)⟩
theorem ef_own_addV3 (m : MethodId) (pr0 : Addr) (pj1 : Int64) : entryFrame m #[(.ref pr0), (.long pj1)] 3 = mkF m 0 #[.val (.ref pr0), .val (.long pj1), .second] [] := by first | (simp [entryFrame, mkF, argsToLocals, Value.category]; done) | rfl
def Q_own_addV3 (Z : State) (pr0 : Addr) (pj1 : Int64) (bv : Addr) (ka : ClassId) (vi : List Value) (h0 : Heap) (n0 : Nat) (v : Option Value) (h : Heap) (L : List Loc) : Prop := Fr n0 L ∧ ∃ (vs : List Value), v = none ∧ Keep h0 h ([pr0, bv] : List Addr) ∧ Exa Z h pr0 "com/example/kalends/kalends/engine/LongList" ∧ Fld Z h pr0 "com/example/kalends/kalends/engine/LongList" "values" "[J" (.ref bv) ∧ Fld Z h pr0 "com/example/kalends/kalends/engine/LongList" "size" "I" (.int (4 : Int32)) ∧ Fld Z h pr0 "com/example/kalends/kalends/engine/LongList" "run" "Z" (.int (0 : Int32)) ∧ Arv Z h bv ka .long (8 : Int32) vs (.long (0 : Int64)) ∧ vs.length = 8
set_option maxRecDepth 65536 in
set_option maxHeartbeats 40000000 in
theorem own_addV3 (l : Launch) (Z : State) (a0 : Array Value) (hw : ∀ d ∈ tables_1, d.before a0 Z = true) (ws : List Jvm.Cond) (pr0 : Addr) (pj1 : Int64) (bv : Addr) (ka : ClassId) (vi : List Value) (h0 : Heap) (n0 : Nat) (Z0 : n0 ≤ h0.size) (P0 : Exa Z h0 pr0 "com/example/kalends/kalends/engine/LongList") (P1 : Fld Z h0 pr0 "com/example/kalends/kalends/engine/LongList" "values" "[J" (.ref bv)) (P2 : Fld Z h0 pr0 "com/example/kalends/kalends/engine/LongList" "size" "I" (.int (3 : Int32))) (P3 : Fld Z h0 pr0 "com/example/kalends/kalends/engine/LongList" "run" "Z" (.int (0 : Int32))) (P4 : Arv Z h0 bv ka .long (8 : Int32) vi (.long (0 : Int64))) (P5 : vi.length = 8) (P6 : bv ≠ pr0) (P7 : n0 ≤ bv) (P8 : n0 ≤ pr0) :
    MetFree l (⟨"com/example/kalends/kalends/engine/LongList", "add", "(J)V"⟩ : MethodName) (head1 (Jvm.Cond.code (⟨"com/example/kalends/kalends/engine/LongList", "add", "(J)V"⟩ : MethodName) prog_9_method_2_code 3 none :: ws) ({ frames := 0, cells := 0, slots := 0, locals := 0 } : Room)) (fun a U => a = #[(.ref pr0), (.long pj1)] ∧ Z.Warmed39 U.vm ∧ U.heap = h0) (fun _ _ _ _ _ => True) (fun _ U o U' => ∃ v L, o = .returned v ∧ Q_own_addV3 Z pr0 pj1 bv ka vi h0 n0 v U'.heap L ∧ FrameEnd U o U' L ({ frames := 0, cells := 0, slots := 0, locals := 0 } : Room).cells ({ frames := 0, cells := 0, slots := 0, locals := 0 } : Room).slots) := by
  refine MetFree.of_bodySF (plainFor_of_name pn_4) hisR ?_
  intro p e s m args below meth c s₁ Bd hml0 hP hK
  obtain ⟨rfl, hZ, hh⟩ := hP
  have hx := Bd.exec
  have hby := Bd.bytes
  have hml : c.maxLocals = 3 := hml0
  have hown : s.vm.findClass "com/example/kalends/kalends/engine/LongList" = some m.cls := findClass_of_methodNamed Bd.named
  have hnm := (name_of_methodNamed Bd.named Bd.method).1
  have X0 : Stand p l e ({ frames := 0, cells := 0, slots := 0, locals := 0 } : Room) s m #[(.ref pr0), (.long pj1)] below meth c s₁ [] 0 0 := Stand.of_body Bd
  have e0 : s₁.heap = h0 := by rw [← hh, Bd.state]; rfl
  have N0 := Fr.nil n0
  have go0 : ∀ t, Steps p.tables e below (s₁.setTop (mkF m 0 #[.val (.ref pr0), .val (.long pj1), .second] [])) t → Steps p.tables e below (s₁.setTop (entryFrame m #[(.ref pr0), (.long pj1)] 3)) t := fun t k => castTop (ef_own_addV3 m pr0 pj1) k
  revert go0
  generalize s₁.setTop (entryFrame m #[(.ref pr0), (.long pj1)] 3) = st0
  intro go0
  obtain ⟨T1, X1, e1, st1⟩ := getF X0 hx hZ hown (host := "") (Or.inl (hw _ (List.mem_of_getElem? (i := 25) rfl))) Via.refl e0 P3 (g := (mkF m 1 #[.val (.ref pr0), .val (.long pj1), .second] [(.ref pr0)])) rfl rfl (hb hby d11_1)
  obtain ⟨T2, X2, e2, st2⟩ := getF X1 hx hZ hown (host := "") (Or.inl (hw _ (List.mem_of_getElem? (i := 18) rfl))) Via.refl e1 P2 (g := (mkF m 12 #[.val (.ref pr0), .val (.long pj1), .second] [(.ref pr0)])) rfl rfl (hb hby d11_12)
  obtain ⟨T3, X3, e3, st3⟩ := getF X2 hx hZ hown (host := "") (Or.inl (hw _ (List.mem_of_getElem? (i := 11) rfl))) Via.refl e2 P1 (g := (mkF m 16 #[.val (.ref pr0), .val (.long pj1), .second] [(.ref pr0), (.int (3 : Int32))])) rfl rfl (hb hby d11_16)
  obtain ⟨cl4, Ar4, q4, S4, N4, H4, G4⟩ := id P4
  obtain ⟨T5, X5, e5, st5⟩ := getF X3 hx hZ hown (host := "") (Or.inl (hw _ (List.mem_of_getElem? (i := 11) rfl))) Via.refl e3 P1 (g := (mkF m 46 #[.val (.ref pr0), .val (.long pj1), .second] [(.ref pr0)])) rfl rfl (hb hby d11_46)
  obtain ⟨T6, X6, e6, st6⟩ := getF X5 hx hZ hown (host := "") (Or.inl (hw _ (List.mem_of_getElem? (i := 18) rfl))) Via.refl e5 P2 (g := (mkF m 51 #[.val (.ref pr0), .val (.long pj1), .second] [(.ref pr0), (.ref pr0), (.ref bv)])) rfl rfl (hb hby d11_51)
  obtain ⟨T7, h7, X7, e7, W7, st7⟩ := putF X6 hx hZ hown (host := "") (Or.inl (hw _ (List.mem_of_getElem? (i := 18) rfl))) Via.refl e6 P2 P0 (Or.inl (hw _ (List.mem_of_getElem? (i := 19) rfl))) (hw _ (List.mem_of_getElem? (i := 1) rfl)) (ty := .int) (by decide) rfl rfl (g := (mkF m 57 #[.val (.ref pr0), .val (.long pj1), .second] [(.int (4 : Int32)), (.ref pr0), (.int (3 : Int32)), (.ref bv)])) rfl rfl (hb hby d11_57)
  have K7 : Keep h0 h7 ([pr0, bv] : List Addr) := (Keep.refl h0 ([pr0, bv] : List Addr)).wr W7 (Or.inl (List.mem_of_getElem? (i := 0) rfl))
  have N7 := Fr.snoc X7 N0 P8
  have Z7 : n0 ≤ h7.size := Nat.le_trans Z0 (Keep.of_wr W7).1
  have Fw7 := P2.same W7
  have f8 : Arv Z h7 bv ka .long (8 : Int32) vi (.long (0 : Int64)) := (P4.other W7 P6)
  obtain ⟨cl9, Ar9, q9, S9, N9, H9, G9⟩ := id f8
  have hin9 : ¬ ((3 : Int32) < 0 ∨ cl9.slots.size ≤ ((3 : Int32)).toNatClampNeg) := inb_of S9 ⟨by decide, by decide⟩
  obtain ⟨T10, h10, X10, e10, W10, st10⟩ := stJ X7 hx hZ e7 Ar9 (j := (3 : Int32)) hin9 (g := (mkF m 61 #[.val (.ref pr0), .val (.long pj1), .second] [(.long pj1), (.int (3 : Int32)), (.ref bv)])) rfl rfl (hb hby d11_61)
  have K10 : Keep h0 h10 ([pr0, bv] : List Addr) := K7.wr W10 (Or.inl (List.mem_of_getElem? (i := 1) rfl))
  have N10 := Fr.snoc X10 N7 P7
  have Z10 : n0 ≤ h10.size := Nat.le_trans Z7 (Keep.of_wr W10).1
  have V10 : Arv Z h10 bv ka .long (8 : Int32) (vi.set 3 (.long pj1)) (.long (0 : Int64)) := Arv.set Ar9 q9 S9 N9 H9 G9 rfl W10 3 rfl (by rw [P5]; decide)
  have go11 : ∀ t, Steps p.tables e below (T10.setTop (mkF m 62 #[.val (.ref pr0), .val (.long pj1), .second] [])) t → Steps p.tables e below st0 t := by
    intro t kt
    refine go0 t ?_
    refine XS.aloadN X0.here hx rfl (hb hby d11_0) rfl rfl ?_
    show Steps p.tables e below (s₁.setTop (mkF m 1 #[.val (.ref pr0), .val (.long pj1), .second] [(.ref pr0)])) _
    refine st1 _ ?_
    show Steps p.tables e below (T1.setTop (mkF m 4 #[.val (.ref pr0), .val (.long pj1), .second] [(.int (0 : Int32))])) _
    refine XS.ifYes X1.here hx rfl (pc0 := 4) (pc' := 11) rfl (hb hby d11_4) rfl ((if0 _ _).trans (teq (by decide : (0 : Int32) = (0 : Int32))).1) (by decide) (by decide) ?_
    show Steps p.tables e below (T1.setTop (mkF m 11 #[.val (.ref pr0), .val (.long pj1), .second] [])) _
    refine XS.aloadN X1.here hx rfl (hb hby d11_11) rfl rfl ?_
    show Steps p.tables e below (T1.setTop (mkF m 12 #[.val (.ref pr0), .val (.long pj1), .second] [(.ref pr0)])) _
    refine st2 _ ?_
    show Steps p.tables e below (T2.setTop (mkF m 15 #[.val (.ref pr0), .val (.long pj1), .second] [(.int (3 : Int32))])) _
    refine XS.aloadN X2.here hx rfl (hb hby d11_15) rfl rfl ?_
    show Steps p.tables e below (T2.setTop (mkF m 16 #[.val (.ref pr0), .val (.long pj1), .second] [(.ref pr0), (.int (3 : Int32))])) _
    refine st3 _ ?_
    show Steps p.tables e below (T3.setTop (mkF m 19 #[.val (.ref pr0), .val (.long pj1), .second] [(.ref bv), (.int (3 : Int32))])) _
    refine X3.arraylength hx (by rw [e3]; exact Ar4.1) (State.isArrayOf_alike hZ.alike Ar4.2.1) (g := (mkF m 19 #[.val (.ref pr0), .val (.long pj1), .second] [(.ref bv), (.int (3 : Int32))])) rfl rfl (hb hby d11_19) _ ?_
    rw [len_of S4 N4]
    show Steps p.tables e below (T3.setTop (mkF m 20 #[.val (.ref pr0), .val (.long pj1), .second] [(.int (8 : Int32)), (.int (3 : Int32))])) _
    refine XS.icmpYes X3.here hx rfl (pc0 := 20) (pc' := 45) rfl (hb hby d11_20) rfl (feq (by decide : ¬ ((3 : Int32) = (8 : Int32)))).2 (by decide) (by decide) ?_
    show Steps p.tables e below (T3.setTop (mkF m 45 #[.val (.ref pr0), .val (.long pj1), .second] [])) _
    refine XS.aloadN X3.here hx rfl (hb hby d11_45) rfl rfl ?_
    show Steps p.tables e below (T3.setTop (mkF m 46 #[.val (.ref pr0), .val (.long pj1), .second] [(.ref pr0)])) _
    refine st5 _ ?_
    show Steps p.tables e below (T5.setTop (mkF m 49 #[.val (.ref pr0), .val (.long pj1), .second] [(.ref bv)])) _
    refine XS.aloadN X5.here hx rfl (hb hby d11_49) rfl rfl ?_
    show Steps p.tables e below (T5.setTop (mkF m 50 #[.val (.ref pr0), .val (.long pj1), .second] [(.ref pr0), (.ref bv)])) _
    refine XS.dup X5.here hx rfl (hb hby d11_50) rfl rfl ?_
    show Steps p.tables e below (T5.setTop (mkF m 51 #[.val (.ref pr0), .val (.long pj1), .second] [(.ref pr0), (.ref pr0), (.ref bv)])) _
    refine st6 _ ?_
    show Steps p.tables e below (T6.setTop (mkF m 54 #[.val (.ref pr0), .val (.long pj1), .second] [(.int (3 : Int32)), (.ref pr0), (.ref bv)])) _
    refine XS.dupX1 X6.here hx rfl (hb hby d11_54) rfl rfl rfl ?_
    show Steps p.tables e below (T6.setTop (mkF m 55 #[.val (.ref pr0), .val (.long pj1), .second] [(.int (3 : Int32)), (.ref pr0), (.int (3 : Int32)), (.ref bv)])) _
    refine XS.iconst X6.here hx rfl (hb hby d11_55) ?_
    show Steps p.tables e below (T6.setTop (mkF m 56 #[.val (.ref pr0), .val (.long pj1), .second] [(.int (1 : Int32)), (.int (3 : Int32)), (.ref pr0), (.int (3 : Int32)), (.ref bv)])) _
    refine XS.iadd X6.here hx rfl (hb hby d11_56) rfl ?_
    show Steps p.tables e below (T6.setTop (mkF m 57 #[.val (.ref pr0), .val (.long pj1), .second] [(.int (4 : Int32)), (.ref pr0), (.int (3 : Int32)), (.ref bv)])) _
    refine st7 _ ?_
    show Steps p.tables e below (T7.setTop (mkF m 60 #[.val (.ref pr0), .val (.long pj1), .second] [(.int (3 : Int32)), (.ref bv)])) _
    refine XS.lloadN X7.here hx rfl (hb hby d11_60) rfl ?_
    show Steps p.tables e below (T7.setTop (mkF m 61 #[.val (.ref pr0), .val (.long pj1), .second] [(.long pj1), (.int (3 : Int32)), (.ref bv)])) _
    refine st10 _ ?_
    show Steps p.tables e below (T10.setTop (mkF m 62 #[.val (.ref pr0), .val (.long pj1), .second] [])) _
    exact kt
  obtain ⟨fs, hr, hrun, hended, hW, hsame⟩ := X10.leave (v := none) (fun _ => rfl)
  refine ⟨_, _, go11 _ ?_, hrun, hended, _, _, rfl, ?_, ⟨_, rfl⟩, hW, hsame.mono (by decide) (by decide)⟩
  · exact X10.returnOut hx Bd.returns (hb hby d11_62) hr
  · show Q_own_addV3 Z pr0 pj1 bv ka vi h0 n0 _ T10.heap _
    rw [e10]
    have f12 : Exa Z h10 pr0 "com/example/kalends/kalends/engine/LongList" := ((P0.wr W7).wr W10)
    have f13 : Fld Z h10 pr0 "com/example/kalends/kalends/engine/LongList" "values" "[J" (.ref bv) := ((P1.other W7 (Or.inr (slot_ne (Or.inl (hw _ (List.mem_of_getElem? (i := 12) rfl))) (Or.inl (hw _ (List.mem_of_getElem? (i := 19) rfl))) (by decide) (t := (.array .long)) (t' := .int) (by decide) (by decide)))).other W10 (Or.inl (Ne.symm P6)))
    have f14 : Fld Z h10 pr0 "com/example/kalends/kalends/engine/LongList" "size" "I" (.int (4 : Int32)) := (Fw7.other W10 (Or.inl (Ne.symm P6)))
    have f15 : Fld Z h10 pr0 "com/example/kalends/kalends/engine/LongList" "run" "Z" (.int (0 : Int32)) := ((P3.other W7 (Or.inr (slot_ne (Or.inl (hw _ (List.mem_of_getElem? (i := 26) rfl))) (Or.inl (hw _ (List.mem_of_getElem? (i := 19) rfl))) (by decide) (t := .boolean) (t' := .int) (by decide) (by decide)))).other W10 (Or.inl (Ne.symm P6)))
    exact ⟨N10, (vi.set 3 (.long pj1)), rfl, K10, f12, f13, f14, f15, V10, (by rw [List.length_set]; exact P5)⟩
theorem ef_own_empty_f (m : MethodId) (pr0 : Addr) : entryFrame m #[(.ref pr0)] 1 = mkF m 0 #[.val (.ref pr0)] [] := by first | (simp [entryFrame, mkF, argsToLocals, Value.category]; done) | rfl
def Q_own_empty_f (Z : State) (pr0 : Addr) (w_0 : Int32) (h0 : Heap) (n0 : Nat) (v : Option Value) (h : Heap) (L : List Loc) : Prop := v = some (.int (1 : Int32)) ∧ Fr n0 L ∧ h = h0
set_option maxRecDepth 65536 in
set_option maxHeartbeats 40000000 in
theorem own_empty_f (l : Launch) (Z : State) (a0 : Array Value) (hw : ∀ d ∈ tables_1, d.before a0 Z = true) (ws : List Jvm.Cond) (pr0 : Addr) (w_0 : Int32) (h0 : Heap) (n0 : Nat) (Z0 : n0 ≤ h0.size) (P0 : Fld Z h0 pr0 "com/example/kalends/kalends/engine/LongList" "size" "I" (.int w_0)) (P1 : w_0 = (0 : Int32)) :
    MetFree l (⟨"com/example/kalends/kalends/engine/LongList", "isEmpty", "()Z"⟩ : MethodName) (head1 (Jvm.Cond.code (⟨"com/example/kalends/kalends/engine/LongList", "isEmpty", "()Z"⟩ : MethodName) prog_9_method_7_code 1 (some .boolean) :: ws) ({ frames := 0, cells := 0, slots := 0, locals := 0 } : Room)) (fun a U => a = #[(.ref pr0)] ∧ Z.Warmed39 U.vm ∧ U.heap = h0) (fun _ _ _ _ _ => True) (fun _ U o U' => ∃ v L, o = .returned v ∧ Q_own_empty_f Z pr0 w_0 h0 n0 v U'.heap L ∧ FrameEnd U o U' L ({ frames := 0, cells := 0, slots := 0, locals := 0 } : Room).cells ({ frames := 0, cells := 0, slots := 0, locals := 0 } : Room).slots) := by
  refine MetFree.of_bodySF (plainFor_of_name pn_4) hisR ?_
  intro p e s m args below meth c s₁ Bd hml0 hP hK
  obtain ⟨rfl, hZ, hh⟩ := hP
  have hx := Bd.exec
  have hby := Bd.bytes
  have hml : c.maxLocals = 1 := hml0
  have hown : s.vm.findClass "com/example/kalends/kalends/engine/LongList" = some m.cls := findClass_of_methodNamed Bd.named
  have hnm := (name_of_methodNamed Bd.named Bd.method).1
  have X0 : Stand p l e ({ frames := 0, cells := 0, slots := 0, locals := 0 } : Room) s m #[(.ref pr0)] below meth c s₁ [] 0 0 := Stand.of_body Bd
  have e0 : s₁.heap = h0 := by rw [← hh, Bd.state]; rfl
  have N0 := Fr.nil n0
  have go0 : ∀ t, Steps p.tables e below (s₁.setTop (mkF m 0 #[.val (.ref pr0)] [])) t → Steps p.tables e below (s₁.setTop (entryFrame m #[(.ref pr0)] 1)) t := fun t k => castTop (ef_own_empty_f m pr0) k
  revert go0
  generalize s₁.setTop (entryFrame m #[(.ref pr0)] 1) = st0
  intro go0
  obtain ⟨T1, X1, e1, st1⟩ := getF X0 hx hZ hown (host := "") (Or.inl (hw _ (List.mem_of_getElem? (i := 18) rfl))) Via.refl e0 P0 (g := (mkF m 1 #[.val (.ref pr0)] [(.ref pr0)])) rfl rfl (hb hby d14_1)
  have go2 : ∀ t, Steps p.tables e below (T1.setTop (mkF m 12 #[.val (.ref pr0)] [(.int (1 : Int32))])) t → Steps p.tables e below st0 t := by
    intro t kt
    refine go0 t ?_
    refine XS.aloadN X0.here hx rfl (hb hby d14_0) rfl rfl ?_
    show Steps p.tables e below (s₁.setTop (mkF m 1 #[.val (.ref pr0)] [(.ref pr0)])) _
    refine st1 _ ?_
    show Steps p.tables e below (T1.setTop (mkF m 4 #[.val (.ref pr0)] [(.int w_0)])) _
    refine XS.ifNo X1.here hx rfl (hb hby d14_4) rfl ((if0 _ _).trans (teq P1).2) ?_
    show Steps p.tables e below (T1.setTop (mkF m 7 #[.val (.ref pr0)] [])) _
    refine XS.iconst X1.here hx rfl (hb hby d14_7) ?_
    show Steps p.tables e below (T1.setTop (mkF m 8 #[.val (.ref pr0)] [(.int (1 : Int32))])) _
    refine XS.goto X1.here hx rfl (pc0 := 8) (pc' := 12) rfl (hb hby d14_8) (by decide) (by decide) ?_
    show Steps p.tables e below (T1.setTop (mkF m 12 #[.val (.ref pr0)] [(.int (1 : Int32))])) _
    exact kt
  obtain ⟨fs, hr, hrun, hended, hW, hsame⟩ := X1.leave (v := some (.int (1 : Int32))) (fun h => by rw [Bd.returns] at h; cases h)
  refine ⟨_, _, go2 _ ?_, hrun, hended, _, _, rfl, ?_, ⟨_, rfl⟩, hW, hsame.mono (by decide) (by decide)⟩
  · exact retN X1 hx (t := .boolean) Bd.returns (by simp) (hb hby d14_12) hr
  · show Q_own_empty_f Z pr0 w_0 h0 n0 _ T1.heap _
    rw [e1]
    exact ⟨rfl, N0, rfl⟩
theorem ef_own_empty_t (m : MethodId) (pr0 : Addr) : entryFrame m #[(.ref pr0)] 1 = mkF m 0 #[.val (.ref pr0)] [] := by first | (simp [entryFrame, mkF, argsToLocals, Value.category]; done) | rfl
def Q_own_empty_t (Z : State) (pr0 : Addr) (w_0 : Int32) (h0 : Heap) (n0 : Nat) (v : Option Value) (h : Heap) (L : List Loc) : Prop := v = some (.int (0 : Int32)) ∧ Fr n0 L ∧ h = h0
set_option maxRecDepth 65536 in
set_option maxHeartbeats 40000000 in
theorem own_empty_t (l : Launch) (Z : State) (a0 : Array Value) (hw : ∀ d ∈ tables_1, d.before a0 Z = true) (ws : List Jvm.Cond) (pr0 : Addr) (w_0 : Int32) (h0 : Heap) (n0 : Nat) (Z0 : n0 ≤ h0.size) (P0 : Fld Z h0 pr0 "com/example/kalends/kalends/engine/LongList" "size" "I" (.int w_0)) (P1 : ¬ (w_0 = (0 : Int32))) :
    MetFree l (⟨"com/example/kalends/kalends/engine/LongList", "isEmpty", "()Z"⟩ : MethodName) (head1 (Jvm.Cond.code (⟨"com/example/kalends/kalends/engine/LongList", "isEmpty", "()Z"⟩ : MethodName) prog_9_method_7_code 1 (some .boolean) :: ws) ({ frames := 0, cells := 0, slots := 0, locals := 0 } : Room)) (fun a U => a = #[(.ref pr0)] ∧ Z.Warmed39 U.vm ∧ U.heap = h0) (fun _ _ _ _ _ => True) (fun _ U o U' => ∃ v L, o = .returned v ∧ Q_own_empty_t Z pr0 w_0 h0 n0 v U'.heap L ∧ FrameEnd U o U' L ({ frames := 0, cells := 0, slots := 0, locals := 0 } : Room).cells ({ frames := 0, cells := 0, slots := 0, locals := 0 } : Room).slots) := by
  refine MetFree.of_bodySF (plainFor_of_name pn_4) hisR ?_
  intro p e s m args below meth c s₁ Bd hml0 hP hK
  obtain ⟨rfl, hZ, hh⟩ := hP
  have hx := Bd.exec
  have hby := Bd.bytes
  have hml : c.maxLocals = 1 := hml0
  have hown : s.vm.findClass "com/example/kalends/kalends/engine/LongList" = some m.cls := findClass_of_methodNamed Bd.named
  have hnm := (name_of_methodNamed Bd.named Bd.method).1
  have X0 : Stand p l e ({ frames := 0, cells := 0, slots := 0, locals := 0 } : Room) s m #[(.ref pr0)] below meth c s₁ [] 0 0 := Stand.of_body Bd
  have e0 : s₁.heap = h0 := by rw [← hh, Bd.state]; rfl
  have N0 := Fr.nil n0
  have go0 : ∀ t, Steps p.tables e below (s₁.setTop (mkF m 0 #[.val (.ref pr0)] [])) t → Steps p.tables e below (s₁.setTop (entryFrame m #[(.ref pr0)] 1)) t := fun t k => castTop (ef_own_empty_t m pr0) k
  revert go0
  generalize s₁.setTop (entryFrame m #[(.ref pr0)] 1) = st0
  intro go0
  obtain ⟨T1, X1, e1, st1⟩ := getF X0 hx hZ hown (host := "") (Or.inl (hw _ (List.mem_of_getElem? (i := 18) rfl))) Via.refl e0 P0 (g := (mkF m 1 #[.val (.ref pr0)] [(.ref pr0)])) rfl rfl (hb hby d14_1)
  have go2 : ∀ t, Steps p.tables e below (T1.setTop (mkF m 12 #[.val (.ref pr0)] [(.int (0 : Int32))])) t → Steps p.tables e below st0 t := by
    intro t kt
    refine go0 t ?_
    refine XS.aloadN X0.here hx rfl (hb hby d14_0) rfl rfl ?_
    show Steps p.tables e below (s₁.setTop (mkF m 1 #[.val (.ref pr0)] [(.ref pr0)])) _
    refine st1 _ ?_
    show Steps p.tables e below (T1.setTop (mkF m 4 #[.val (.ref pr0)] [(.int w_0)])) _
    refine XS.ifYes X1.here hx rfl (pc0 := 4) (pc' := 11) rfl (hb hby d14_4) rfl ((if0 _ _).trans (feq P1).2) (by decide) (by decide) ?_
    show Steps p.tables e below (T1.setTop (mkF m 11 #[.val (.ref pr0)] [])) _
    refine XS.iconst X1.here hx rfl (hb hby d14_11) ?_
    show Steps p.tables e below (T1.setTop (mkF m 12 #[.val (.ref pr0)] [(.int (0 : Int32))])) _
    exact kt
  obtain ⟨fs, hr, hrun, hended, hW, hsame⟩ := X1.leave (v := some (.int (0 : Int32))) (fun h => by rw [Bd.returns] at h; cases h)
  refine ⟨_, _, go2 _ ?_, hrun, hended, _, _, rfl, ?_, ⟨_, rfl⟩, hW, hsame.mono (by decide) (by decide)⟩
  · exact retN X1 hx (t := .boolean) Bd.returns (by simp) (hb hby d14_12) hr
  · show Q_own_empty_t Z pr0 w_0 h0 n0 _ T1.heap _
    rw [e1]
    exact ⟨rfl, N0, rfl⟩
set_option maxRecDepth 65536 in
set_option maxHeartbeats 40000000 in
theorem own_tail142 {p : Program} {l : Launch} {e : Env} {s : State} {m : MethodId} {args : Array Value} {below : List Frame} {meth : Method} {c : Code} {T0 : State} {locs : List Loc} {Z : State} {a0 : Array Value} {h0 : Heap} {n0 : Nat} (xa : Int64) (xb : Int64) (xc : Int32) (xm : Int32) (bl : Addr) (xn : Int32) (wz : Int32) (wr : Int32) (X0 : Stand p l e room_1 s m args below meth c T0 locs 5 32) (hx : p.tables.exec = Jvm.exec) (hZ : Z.Warmed39 s.vm) (hw : ∀ d ∈ tables_1, d.before a0 Z = true) (hby : c.code = code) (hml : c.maxLocals = 9) (hown : s.vm.findClass "com/example/kalends/kalends/engine/LongListIsEmptyPinLaw" = some m.cls) (e0 : T0.heap = h0) (N0 : Fr n0 locs) (Z0 : n0 ≤ h0.size) (hret : meth.sig.returnType = some .boolean) (hlk : meth.locks = false) (P0 : Exa Z h0 bl "com/example/kalends/kalends/engine/LongList") (P1 : Fld Z h0 bl "com/example/kalends/kalends/engine/LongList" "size" "I" (.int wz)) (P2 : Fld Z h0 bl "com/example/kalends/kalends/engine/LongList" "run" "Z" (.int wr)) (P3 : n0 ≤ bl) :
    ∃ s₂ o, Steps p.tables e below (T0.setTop (mkF m 142 #[.val (.long xa), .second, .val (.long xb), .second, .val (.int xc), .val (.int xm), .val (.ref bl), .val (.int (1 : Int32)), .val (.int xn)] [])) s₂ ∧ s₂.status = .running ∧ Ended s₂ below o ∧ ∃ v L, o = .returned v ∧ (v = some (.int (1 : Int32)) ∧ Fr n0 L) ∧ FrameEnd s o s₂ L room_1.cells room_1.slots := by
  obtain ⟨st0, hst0⟩ : ∃ z, z = T0.setTop (mkF m 142 #[.val (.long xa), .second, .val (.long xb), .second, .val (.int xc), .val (.int xm), .val (.ref bl), .val (.int (1 : Int32)), .val (.int xn)] []) := ⟨_, rfl⟩
  have go0 : ∀ t, Steps p.tables e below (T0.setTop (mkF m 142 #[.val (.long xa), .second, .val (.long xb), .second, .val (.int xc), .val (.int xm), .val (.ref bl), .val (.int (1 : Int32)), .val (.int xn)] [])) t → Steps p.tables e below st0 t := fun t k => by rw [hst0]; exact k
  rw [← hst0]
  have go1 : ∀ t, Steps p.tables e below (T0.setTop (mkF m 146 #[.val (.long xa), .second, .val (.long xb), .second, .val (.int xc), .val (.int xm), .val (.ref bl), .val (.int (1 : Int32)), .val (.int xn)] [(.int (xm &&& (4 : Int32)))])) t → Steps p.tables e below st0 t := by
    intro t kt
    refine go0 t ?_
    refine XS.iload X0.here hx rfl (hb hby at_142) rfl ?_
    show Steps p.tables e below (T0.setTop (mkF m 144 #[.val (.long xa), .second, .val (.long xb), .second, .val (.int xc), .val (.int xm), .val (.ref bl), .val (.int (1 : Int32)), .val (.int xn)] [(.int xm)])) _
    refine XS.iconst X0.here hx rfl (hb hby at_144) ?_
    show Steps p.tables e below (T0.setTop (mkF m 145 #[.val (.long xa), .second, .val (.long xb), .second, .val (.int xc), .val (.int xm), .val (.ref bl), .val (.int (1 : Int32)), .val (.int xn)] [(.int (4 : Int32)), (.int xm)])) _
    refine XS.iand X0.here hx rfl (hb hby at_145) rfl ?_
    show Steps p.tables e below (T0.setTop (mkF m 146 #[.val (.long xa), .second, .val (.long xb), .second, .val (.int xc), .val (.int xm), .val (.ref bl), .val (.int (1 : Int32)), .val (.int xn)] [(.int (xm &&& (4 : Int32)))])) _
    exact kt
  by_cases hc2 : (xm &&& (4 : Int32)) = (0 : Int32)
  · skip
    have go3 : ∀ t, Steps p.tables e below (T0.setTop (mkF m 176 #[.val (.long xa), .second, .val (.long xb), .second, .val (.int xc), .val (.int xm), .val (.ref bl), .val (.int (1 : Int32)), .val (.int xn)] [(.int (1 : Int32))])) t → Steps p.tables e below st0 t := by
      intro t kt
      refine go1 t ?_
      refine XS.ifYes X0.here hx rfl (pc0 := 146) (pc' := 174) rfl (hb hby at_146) rfl ((if0 _ _).trans (teq hc2).1) (by decide) (by decide) ?_
      show Steps p.tables e below (T0.setTop (mkF m 174 #[.val (.long xa), .second, .val (.long xb), .second, .val (.int xc), .val (.int xm), .val (.ref bl), .val (.int (1 : Int32)), .val (.int xn)] [])) _
      refine XS.iload X0.here hx rfl (hb hby at_174) rfl ?_
      show Steps p.tables e below (T0.setTop (mkF m 176 #[.val (.long xa), .second, .val (.long xb), .second, .val (.int xc), .val (.int xm), .val (.ref bl), .val (.int (1 : Int32)), .val (.int xn)] [(.int (1 : Int32))])) _
      exact kt
    obtain ⟨fs, hr, hrun, hended, hW, hsame⟩ := X0.leave (v := some (.int (1 : Int32))) (fun h => by rw [hret] at h; cases h) hlk
    refine ⟨_, _, go3 _ ?_, hrun, hended, _, _, rfl, ⟨rfl, N0⟩, ⟨_, rfl⟩, hW, hsame.mono (by decide) (by decide)⟩
    exact retN X0 hx (t := .boolean) hret (by simp) (hb hby at_176) hr
  · skip
    obtain ⟨cq4, kq4, q4a, q4b, q4c⟩ := isOf hZ e0 P0
    obtain ⟨_, _, ⟨T4, L4, k4, n4⟩, -, X4, ⟨Lc4, hQ4, l4, y4, z4⟩, st4⟩ := X0.virtualBack hx (y := (⟨"com/example/kalends/kalends/engine/LongList", "clear", "()V"⟩ : MethodName)) (z := (⟨"com/example/kalends/kalends/engine/LongList", "clear", "()V"⟩ : MethodName)) hown (mvT hZ (hw _ (List.mem_of_getElem? (i := 56) rfl))) (mvT hZ (hw _ (List.mem_of_getElem? (i := 57) rfl))) (notFace_of_selects (args := #[]) (mvT hZ (hw _ (List.mem_of_getElem? (i := 59) rfl)))) (mvT hZ (hw _ (List.mem_of_getElem? (i := 59) rfl))) (mvT hZ (hw _ (List.mem_of_getElem? (i := 58) rfl))) (by decide) (backOf (W := 0) (own_clear l Z a0 hw [] bl (.int wz) (.int wr) h0 n0 Z0 P0 P1 P3 P2) hZ (hw _ (List.mem_of_getElem? (i := 60) rfl)) (hw _ (List.mem_of_getElem? (i := 2) rfl)) (by decide) (by decide)) q4a q4c (g := (mkF m 151 #[.val (.long xa), .second, .val (.long xb), .second, .val (.int xc), .val (.int xm), .val (.ref bl), .val (.int (1 : Int32)), .val (.int xn)] [(.ref bl)])) rfl (by rw [hml]; rfl) (Steps.refl _) (argsL := []) (rest := []) (lenOf pd_13 rfl) rfl (by show 2 * 0 + _ ≤ _; exact Nat.le_of_eq rfl) (hb hby at_151) (fun _ _ => ⟨rfl, e0, (by decide : 5 + 0 ≤ _), (by decide : 32 + 0 ≤ _)⟩)
    dsimp only [Pt.U, Pt.locs, Pt.cells, Pt.slots] at X4 l4 y4 z4 st4 hQ4
    subst l4 y4 z4
    obtain ⟨Nq4, rfl, Kc4, p4_0, p4_1, p4_2⟩ := hQ4
    have N4 := Fr.app N0 Nq4
    have Z4 : n0 ≤ T4.heap.size := Nat.le_trans Z0 Kc4.1
    obtain ⟨cq5, kq5, q5a, q5b, q5c⟩ := isOf hZ rfl p4_0
    obtain ⟨_, _, ⟨T5, L5, k5, n5⟩, -, X5, ⟨Lc5, hQ5, l5, y5, z5⟩, st5⟩ := X4.virtualBack hx (y := (⟨"com/example/kalends/kalends/engine/LongList", "isEmpty", "()Z"⟩ : MethodName)) (z := (⟨"com/example/kalends/kalends/engine/LongList", "isEmpty", "()Z"⟩ : MethodName)) hown (mvT hZ (hw _ (List.mem_of_getElem? (i := 13) rfl))) (mvT hZ (hw _ (List.mem_of_getElem? (i := 14) rfl))) (notFace_of_selects (args := #[]) (mvT hZ (hw _ (List.mem_of_getElem? (i := 16) rfl)))) (mvT hZ (hw _ (List.mem_of_getElem? (i := 16) rfl))) (mvT hZ (hw _ (List.mem_of_getElem? (i := 15) rfl))) (by decide) (backOf (W := 0) (own_empty_f l Z a0 hw [] bl (0 : Int32) T4.heap n0 Z4 p4_1 (by decide : (0 : Int32) = (0 : Int32))) hZ (hw _ (List.mem_of_getElem? (i := 17) rfl)) (hw _ (List.mem_of_getElem? (i := 2) rfl)) (by decide) (by decide)) q5a q5c (g := (mkF m 161 #[.val (.long xa), .second, .val (.long xb), .second, .val (.int xc), .val (.int xm), .val (.ref bl), .val (.int (1 : Int32)), .val (.int xn)] [(.ref bl)])) rfl (by rw [hml]; rfl) (Steps.refl _) (argsL := []) (rest := []) (lenOf pd_16 rfl) rfl (by show 2 * 0 + _ ≤ _; exact Nat.le_of_eq rfl) (hb hby at_161) (fun _ _ => ⟨rfl, rfl, (by decide : 5 + 0 ≤ _), (by decide : 32 + 0 ≤ _)⟩)
    dsimp only [Pt.U, Pt.locs, Pt.cells, Pt.slots] at X5 l5 y5 z5 st5 hQ5
    subst l5 y5 z5
    obtain ⟨rfl, Nq5, e5⟩ := hQ5
    have N5 := Fr.app N4 Nq5
    have go6 : ∀ t, Steps p.tables e below (T5.setTop (mkF m 176 #[.val (.long xa), .second, .val (.long xb), .second, .val (.int xc), .val (.int xm), .val (.ref bl), .val (.int (1 : Int32)), .val (.int xn)] [(.int (1 : Int32))])) t → Steps p.tables e below st0 t := by
      intro t kt
      refine go1 t ?_
      refine XS.ifNo X0.here hx rfl (hb hby at_146) rfl ((if0 _ _).trans (feq hc2).1) ?_
      show Steps p.tables e below (T0.setTop (mkF m 149 #[.val (.long xa), .second, .val (.long xb), .second, .val (.int xc), .val (.int xm), .val (.ref bl), .val (.int (1 : Int32)), .val (.int xn)] [])) _
      refine XS.aload X0.here hx rfl (hb hby at_149) rfl rfl ?_
      show Steps p.tables e below (T0.setTop (mkF m 151 #[.val (.long xa), .second, .val (.long xb), .second, .val (.int xc), .val (.int xm), .val (.ref bl), .val (.int (1 : Int32)), .val (.int xn)] [(.ref bl)])) _
      refine st4.trans ?_
      show Steps p.tables e below (T4.setTop (mkF m 154 #[.val (.long xa), .second, .val (.long xb), .second, .val (.int xc), .val (.int xm), .val (.ref bl), .val (.int (1 : Int32)), .val (.int xn)] [])) _
      refine XS.iload X4.here hx rfl (hb hby at_154) rfl ?_
      show Steps p.tables e below (T4.setTop (mkF m 156 #[.val (.long xa), .second, .val (.long xb), .second, .val (.int xc), .val (.int xm), .val (.ref bl), .val (.int (1 : Int32)), .val (.int xn)] [(.int (1 : Int32))])) _
      refine XS.ifNo X4.here hx rfl (hb hby at_156) rfl ((if0 _ _).trans (feq (by decide : ¬ ((1 : Int32) = (0 : Int32)))).1) ?_
      show Steps p.tables e below (T4.setTop (mkF m 159 #[.val (.long xa), .second, .val (.long xb), .second, .val (.int xc), .val (.int xm), .val (.ref bl), .val (.int (1 : Int32)), .val (.int xn)] [])) _
      refine XS.aload X4.here hx rfl (hb hby at_159) rfl rfl ?_
      show Steps p.tables e below (T4.setTop (mkF m 161 #[.val (.long xa), .second, .val (.long xb), .second, .val (.int xc), .val (.int xm), .val (.ref bl), .val (.int (1 : Int32)), .val (.int xn)] [(.ref bl)])) _
      refine st5.trans ?_
      show Steps p.tables e below (T5.setTop (mkF m 164 #[.val (.long xa), .second, .val (.long xb), .second, .val (.int xc), .val (.int xm), .val (.ref bl), .val (.int (1 : Int32)), .val (.int xn)] [(.int (1 : Int32))])) _
      refine XS.ifNo X5.here hx rfl (hb hby at_164) rfl ((if0 _ _).trans (feq (by decide : ¬ ((1 : Int32) = (0 : Int32)))).1) ?_
      show Steps p.tables e below (T5.setTop (mkF m 167 #[.val (.long xa), .second, .val (.long xb), .second, .val (.int xc), .val (.int xm), .val (.ref bl), .val (.int (1 : Int32)), .val (.int xn)] [])) _
      refine XS.iconst X5.here hx rfl (hb hby at_167) ?_
      show Steps p.tables e below (T5.setTop (mkF m 168 #[.val (.long xa), .second, .val (.long xb), .second, .val (.int xc), .val (.int xm), .val (.ref bl), .val (.int (1 : Int32)), .val (.int xn)] [(.int (1 : Int32))])) _
      refine XS.goto X5.here hx rfl (pc0 := 168) (pc' := 172) rfl (hb hby at_168) (by decide) (by decide) ?_
      show Steps p.tables e below (T5.setTop (mkF m 172 #[.val (.long xa), .second, .val (.long xb), .second, .val (.int xc), .val (.int xm), .val (.ref bl), .val (.int (1 : Int32)), .val (.int xn)] [(.int (1 : Int32))])) _
      refine XS.istore X5.here hx rfl (hb hby at_172) rfl (l' := #[.val (.long xa), .second, .val (.long xb), .second, .val (.int xc), .val (.int xm), .val (.ref bl), .val (.int (1 : Int32)), .val (.int xn)]) rfl ?_
      show Steps p.tables e below (T5.setTop (mkF m 174 #[.val (.long xa), .second, .val (.long xb), .second, .val (.int xc), .val (.int xm), .val (.ref bl), .val (.int (1 : Int32)), .val (.int xn)] [])) _
      refine XS.iload X5.here hx rfl (hb hby at_174) rfl ?_
      show Steps p.tables e below (T5.setTop (mkF m 176 #[.val (.long xa), .second, .val (.long xb), .second, .val (.int xc), .val (.int xm), .val (.ref bl), .val (.int (1 : Int32)), .val (.int xn)] [(.int (1 : Int32))])) _
      exact kt
    obtain ⟨fs, hr, hrun, hended, hW, hsame⟩ := X5.leave (v := some (.int (1 : Int32))) (fun h => by rw [hret] at h; cases h) hlk
    refine ⟨_, _, go6 _ ?_, hrun, hended, _, _, rfl, ⟨rfl, N5⟩, ⟨_, rfl⟩, hW, hsame.mono (by decide) (by decide)⟩
    exact retN X5 hx (t := .boolean) hret (by simp) (hb hby at_176) hr
theorem ef_own_law (m : MethodId) (pj0 : Int64) (pj1 : Int64) (pi2 : Int32) (pi3 : Int32) : entryFrame m #[(.long pj0), (.long pj1), (.int pi2), (.int pi3)] maxLocals = mkF m 0 #[.val (.long pj0), .second, .val (.long pj1), .second, .val (.int pi2), .val (.int pi3), .unset, .unset, .unset] [] := by first | (simp [entryFrame, mkF, argsToLocals, Value.category, maxLocals]; done) | rfl
def Q_own_law (Z : State) (pj0 : Int64) (pj1 : Int64) (pi2 : Int32) (pi3 : Int32) (nn : Addr) (ka : ClassId) (h0 : Heap) (n0 : Nat) (v : Option Value) (h : Heap) (L : List Loc) : Prop := v = some (.int (1 : Int32)) ∧ Fr n0 L
set_option maxRecDepth 65536 in
set_option maxHeartbeats 40000000 in
theorem own_law (l : Launch) (Z : State) (a0 : Array Value) (hw : ∀ d ∈ tables_1, d.before a0 Z = true) (ws : List Jvm.Cond) (pj0 : Int64) (pj1 : Int64) (pi2 : Int32) (pi3 : Int32) (nn : Addr) (ka : ClassId) (h0 : Heap) (n0 : Nat) (Z0 : n0 ≤ h0.size) (P0 : Sta Z h0 "com/example/kalends/kalends/engine/LongList" "NONE" "[J" (.ref nn)) (P1 : Arv Z h0 nn ka .long (0 : Int32) [] (.long (0 : Int64))) :
    MetFree l x (head1 (Jvm.Cond.code x code maxLocals ret :: ws) room_1) (fun a U => a = #[(.long pj0), (.long pj1), (.int pi2), (.int pi3)] ∧ Z.Warmed39 U.vm ∧ U.heap = h0) (fun _ _ _ _ _ => True) (fun _ U o U' => ∃ v L, o = .returned v ∧ Q_own_law Z pj0 pj1 pi2 pi3 nn ka h0 n0 v U'.heap L ∧ FrameEnd U o U' L room_1.cells room_1.slots) := by
  refine MetFree.of_bodySF (plainFor_of_name pn_19) hisR ?_
  intro p e s m args below meth c s₁ Bd hml0 hP hK
  obtain ⟨rfl, hZ, hh⟩ := hP
  have hx := Bd.exec
  have hby := Bd.bytes
  have hml : c.maxLocals = 9 := hml0
  have hown : s.vm.findClass "com/example/kalends/kalends/engine/LongListIsEmptyPinLaw" = some m.cls := findClass_of_methodNamed Bd.named
  have hnm := (name_of_methodNamed Bd.named Bd.method).1
  have X0 : Stand p l e room_1 s m #[(.long pj0), (.long pj1), (.int pi2), (.int pi3)] below meth c s₁ [] 0 0 := Stand.of_body Bd
  have e0 : s₁.heap = h0 := by rw [← hh, Bd.state]; rfl
  have N0 := Fr.nil n0
  have go0 : ∀ t, Steps p.tables e below (s₁.setTop (mkF m 0 #[.val (.long pj0), .second, .val (.long pj1), .second, .val (.int pi2), .val (.int pi3), .unset, .unset, .unset] [])) t → Steps p.tables e below (s₁.setTop (entryFrame m #[(.long pj0), (.long pj1), (.int pi2), (.int pi3)] maxLocals)) t := fun t k => castTop (ef_own_law m pj0 pj1 pi2 pi3) k
  revert go0
  generalize s₁.setTop (entryFrame m #[(.long pj0), (.long pj1), (.int pi2), (.int pi3)] maxLocals) = st0
  intro go0
  obtain ⟨T1, h1, X1, e1, E1, A1, D1, -, st1⟩ := newO X0 hx hZ hown (hw _ (List.mem_of_getElem? (i := 0) rfl)) (hw _ (List.mem_of_getElem? (i := 1) rfl)) (hw _ (List.mem_of_getElem? (i := 2) rfl)) e0 (g := (mkF m 0 #[.val (.long pj0), .second, .val (.long pj1), .second, .val (.int pi2), .val (.int pi3), .unset, .unset, .unset] [])) rfl (hb hby at_0) (by decide) (by decide)
  obtain ⟨b1, g1⟩ : ∃ z, z = h0.size := ⟨_, rfl⟩
  rw [← g1] at A1 D1 st1
  have ne1_nn : nn ≠ b1 := Nat.ne_of_lt (Nat.lt_of_lt_of_eq P1.lt g1.symm)
  have ge1 : n0 ≤ b1 := Nat.le_trans Z0 (Nat.le_of_eq g1.symm)
  have Z1 : n0 ≤ h1.size := Nat.le_trans Z0 E1.1
  have F1_values : Fld Z h1 b1 "com/example/kalends/kalends/engine/LongList" "values" "[J" .null := D1 (Or.inl (hw _ (List.mem_of_getElem? (i := 12) rfl))) (ty := (.array .long)) (by decide)
  have F1_size : Fld Z h1 b1 "com/example/kalends/kalends/engine/LongList" "size" "I" (.int (0 : Int32)) := D1 (Or.inl (hw _ (List.mem_of_getElem? (i := 19) rfl))) (ty := .int) (by decide)
  have F1_run : Fld Z h1 b1 "com/example/kalends/kalends/engine/LongList" "run" "Z" (.int (0 : Int32)) := D1 (Or.inl (hw _ (List.mem_of_getElem? (i := 26) rfl))) (ty := .boolean) (by decide)
  have F1_runFirst : Fld Z h1 b1 "com/example/kalends/kalends/engine/LongList" "runFirst" "J" (.long (0 : Int64)) := D1 (Or.inl (hw _ (List.mem_of_getElem? (i := 28) rfl))) (ty := .long) (by decide)
  have F1_runStep : Fld Z h1 b1 "com/example/kalends/kalends/engine/LongList" "runStep" "J" (.long (0 : Int64)) := D1 (Or.inl (hw _ (List.mem_of_getElem? (i := 30) rfl))) (ty := .long) (by decide)
  have f2 : Sta Z h1 "com/example/kalends/kalends/engine/LongList" "NONE" "[J" (.ref nn) := (P0.ext E1)
  obtain ⟨_, _, ⟨T3, L3, k3, n3⟩, -, X3, ⟨Lc3, hQ3, l3, y3, z3⟩, st3⟩ := X1.specialBack hx (y := (⟨"com/example/kalends/kalends/engine/LongList", "<init>", "()V"⟩ : MethodName)) rfl hown (mvT hZ (hw _ (List.mem_of_getElem? (i := 3) rfl))) (mvT hZ (hw _ (List.mem_of_getElem? (i := 4) rfl))) (mvT hZ (hw _ (List.mem_of_getElem? (i := 5) rfl))) (by decide) (backOf (W := 1) (own_init l Z a0 hw [] b1 nn h1 n0 Z1 A1 F1_values F1_size F1_run F1_runFirst F1_runStep f2 ge1) hZ (hw _ (List.mem_of_getElem? (i := 5) rfl)) (hw _ (List.mem_of_getElem? (i := 2) rfl)) (by decide) (by decide)) (g := (mkF m 4 #[.val (.long pj0), .second, .val (.long pj1), .second, .val (.int pi2), .val (.int pi3), .unset, .unset, .unset] [(.ref b1), (.ref b1)])) rfl (by rw [hml]; rfl) (Steps.refl _) (a := b1) (argsL := []) (rest := [(.ref b1)]) (lenOf pd_13 rfl) rfl (by show 2 * 0 + _ ≤ _; exact Nat.le_of_eq rfl) (hb hby at_4) (fun _ _ => ⟨rfl, e1, (by decide : 1 + 0 ≤ _), (by decide : 5 + 0 ≤ _)⟩)
  dsimp only [Pt.U, Pt.locs, Pt.cells, Pt.slots] at X3 l3 y3 z3 st3 hQ3
  subst l3 y3 z3
  obtain ⟨Nq3, rfl, Kc3, p3_0, p3_1, p3_2, p3_3, p3_4, p3_5⟩ := hQ3
  have N3 := Fr.app N0 Nq3
  have Z3 : n0 ≤ T3.heap.size := Nat.le_trans Z1 Kc3.1
  obtain ⟨cq4, kq4, q4a, q4b, q4c⟩ := isOf hZ rfl p3_0
  obtain ⟨_, _, ⟨T4, L4, k4, n4⟩, -, X4, ⟨Lc4, hQ4, l4, y4, z4⟩, st4⟩ := X3.virtualBack hx (y := (⟨"com/example/kalends/kalends/engine/LongList", "isEmpty", "()Z"⟩ : MethodName)) (z := (⟨"com/example/kalends/kalends/engine/LongList", "isEmpty", "()Z"⟩ : MethodName)) hown (mvT hZ (hw _ (List.mem_of_getElem? (i := 13) rfl))) (mvT hZ (hw _ (List.mem_of_getElem? (i := 14) rfl))) (notFace_of_selects (args := #[]) (mvT hZ (hw _ (List.mem_of_getElem? (i := 16) rfl)))) (mvT hZ (hw _ (List.mem_of_getElem? (i := 16) rfl))) (mvT hZ (hw _ (List.mem_of_getElem? (i := 15) rfl))) (by decide) (backOf (W := 0) (own_empty_f l Z a0 hw [] b1 (0 : Int32) T3.heap n0 Z3 p3_2 (by decide : (0 : Int32) = (0 : Int32))) hZ (hw _ (List.mem_of_getElem? (i := 17) rfl)) (hw _ (List.mem_of_getElem? (i := 2) rfl)) (by decide) (by decide)) q4a q4c (g := (mkF m 11 #[.val (.long pj0), .second, .val (.long pj1), .second, .val (.int pi2), .val (.int pi3), .val (.ref b1), .unset, .unset] [(.ref b1)])) rfl (by rw [hml]; rfl) (Steps.refl _) (argsL := []) (rest := []) (lenOf pd_16 rfl) rfl (by show 2 * 0 + _ ≤ _; exact Nat.le_of_eq rfl) (hb hby at_11) (fun _ _ => ⟨rfl, rfl, (by decide : 1 + 0 ≤ _), (by decide : 5 + 0 ≤ _)⟩)
  dsimp only [Pt.U, Pt.locs, Pt.cells, Pt.slots] at X4 l4 y4 z4 st4 hQ4
  subst l4 y4 z4
  obtain ⟨rfl, Nq4, e4⟩ := hQ4
  have N4 := Fr.app N3 Nq4
  have go5 : ∀ t, Steps p.tables e below (T4.setTop (mkF m 22 #[.val (.long pj0), .second, .val (.long pj1), .second, .val (.int pi2), .val (.int pi3), .val (.ref b1), .val (.int (1 : Int32)), .val (.int (pi2 &&& (3 : Int32)))] [])) t → Steps p.tables e below st0 t := by
    intro t kt
    refine go0 t ?_
    refine st1 _ ?_
    show Steps p.tables e below (T1.setTop (mkF m 3 #[.val (.long pj0), .second, .val (.long pj1), .second, .val (.int pi2), .val (.int pi3), .unset, .unset, .unset] [(.ref b1)])) _
    refine XS.dup X1.here hx rfl (hb hby at_3) rfl rfl ?_
    show Steps p.tables e below (T1.setTop (mkF m 4 #[.val (.long pj0), .second, .val (.long pj1), .second, .val (.int pi2), .val (.int pi3), .unset, .unset, .unset] [(.ref b1), (.ref b1)])) _
    refine st3.trans ?_
    show Steps p.tables e below (T3.setTop (mkF m 7 #[.val (.long pj0), .second, .val (.long pj1), .second, .val (.int pi2), .val (.int pi3), .unset, .unset, .unset] [(.ref b1)])) _
    refine XS.astore X3.here hx rfl (hb hby at_7) rfl rfl (l' := #[.val (.long pj0), .second, .val (.long pj1), .second, .val (.int pi2), .val (.int pi3), .val (.ref b1), .unset, .unset]) rfl ?_
    show Steps p.tables e below (T3.setTop (mkF m 9 #[.val (.long pj0), .second, .val (.long pj1), .second, .val (.int pi2), .val (.int pi3), .val (.ref b1), .unset, .unset] [])) _
    refine XS.aload X3.here hx rfl (hb hby at_9) rfl rfl ?_
    show Steps p.tables e below (T3.setTop (mkF m 11 #[.val (.long pj0), .second, .val (.long pj1), .second, .val (.int pi2), .val (.int pi3), .val (.ref b1), .unset, .unset] [(.ref b1)])) _
    refine st4.trans ?_
    show Steps p.tables e below (T4.setTop (mkF m 14 #[.val (.long pj0), .second, .val (.long pj1), .second, .val (.int pi2), .val (.int pi3), .val (.ref b1), .unset, .unset] [(.int (1 : Int32))])) _
    refine XS.istore X4.here hx rfl (hb hby at_14) rfl (l' := #[.val (.long pj0), .second, .val (.long pj1), .second, .val (.int pi2), .val (.int pi3), .val (.ref b1), .val (.int (1 : Int32)), .unset]) rfl ?_
    show Steps p.tables e below (T4.setTop (mkF m 16 #[.val (.long pj0), .second, .val (.long pj1), .second, .val (.int pi2), .val (.int pi3), .val (.ref b1), .val (.int (1 : Int32)), .unset] [])) _
    refine XS.iload X4.here hx rfl (hb hby at_16) rfl ?_
    show Steps p.tables e below (T4.setTop (mkF m 18 #[.val (.long pj0), .second, .val (.long pj1), .second, .val (.int pi2), .val (.int pi3), .val (.ref b1), .val (.int (1 : Int32)), .unset] [(.int pi2)])) _
    refine XS.iconst X4.here hx rfl (hb hby at_18) ?_
    show Steps p.tables e below (T4.setTop (mkF m 19 #[.val (.long pj0), .second, .val (.long pj1), .second, .val (.int pi2), .val (.int pi3), .val (.ref b1), .val (.int (1 : Int32)), .unset] [(.int (3 : Int32)), (.int pi2)])) _
    refine XS.iand X4.here hx rfl (hb hby at_19) rfl ?_
    show Steps p.tables e below (T4.setTop (mkF m 20 #[.val (.long pj0), .second, .val (.long pj1), .second, .val (.int pi2), .val (.int pi3), .val (.ref b1), .val (.int (1 : Int32)), .unset] [(.int (pi2 &&& (3 : Int32)))])) _
    refine XS.istore X4.here hx rfl (hb hby at_20) rfl (l' := #[.val (.long pj0), .second, .val (.long pj1), .second, .val (.int pi2), .val (.int pi3), .val (.ref b1), .val (.int (1 : Int32)), .val (.int (pi2 &&& (3 : Int32)))]) rfl ?_
    show Steps p.tables e below (T4.setTop (mkF m 22 #[.val (.long pj0), .second, .val (.long pj1), .second, .val (.int pi2), .val (.int pi3), .val (.ref b1), .val (.int (1 : Int32)), .val (.int (pi2 &&& (3 : Int32)))] [])) _
    exact kt
  rcases own_and3 pi2 with hk6 | hk6 | hk6 | hk6
  · skip
    rw [hk6] at go5
    have go7 : ∀ t, Steps p.tables e below (T4.setTop (mkF m 26 #[.val (.long pj0), .second, .val (.long pj1), .second, .val (.int pi2), .val (.int pi3), .val (.ref b1), .val (.int (1 : Int32)), .val (.int (0 : Int32))] [(.int (pi3 &&& (1 : Int32)))])) t → Steps p.tables e below st0 t := by
      intro t kt
      refine go5 t ?_
      refine XS.iload X4.here hx rfl (hb hby at_22) rfl ?_
      show Steps p.tables e below (T4.setTop (mkF m 24 #[.val (.long pj0), .second, .val (.long pj1), .second, .val (.int pi2), .val (.int pi3), .val (.ref b1), .val (.int (1 : Int32)), .val (.int (0 : Int32))] [(.int pi3)])) _
      refine XS.iconst X4.here hx rfl (hb hby at_24) ?_
      show Steps p.tables e below (T4.setTop (mkF m 25 #[.val (.long pj0), .second, .val (.long pj1), .second, .val (.int pi2), .val (.int pi3), .val (.ref b1), .val (.int (1 : Int32)), .val (.int (0 : Int32))] [(.int (1 : Int32)), (.int pi3)])) _
      refine XS.iand X4.here hx rfl (hb hby at_25) rfl ?_
      show Steps p.tables e below (T4.setTop (mkF m 26 #[.val (.long pj0), .second, .val (.long pj1), .second, .val (.int pi2), .val (.int pi3), .val (.ref b1), .val (.int (1 : Int32)), .val (.int (0 : Int32))] [(.int (pi3 &&& (1 : Int32)))])) _
      exact kt
    by_cases hc8 : (pi3 &&& (1 : Int32)) = (0 : Int32)
    · skip
      obtain ⟨cq9, kq9, q9a, q9b, q9c⟩ := isOf hZ e4 p3_0
      obtain ⟨_, _, ⟨T9, L9, k9, n9⟩, -, X9, ⟨Lc9, hQ9, l9, y9, z9⟩, st9⟩ := X4.virtualBack hx (y := (⟨"com/example/kalends/kalends/engine/LongList", "isEmpty", "()Z"⟩ : MethodName)) (z := (⟨"com/example/kalends/kalends/engine/LongList", "isEmpty", "()Z"⟩ : MethodName)) hown (mvT hZ (hw _ (List.mem_of_getElem? (i := 13) rfl))) (mvT hZ (hw _ (List.mem_of_getElem? (i := 14) rfl))) (notFace_of_selects (args := #[]) (mvT hZ (hw _ (List.mem_of_getElem? (i := 16) rfl)))) (mvT hZ (hw _ (List.mem_of_getElem? (i := 16) rfl))) (mvT hZ (hw _ (List.mem_of_getElem? (i := 15) rfl))) (by decide) (backOf (W := 0) (own_empty_f l Z a0 hw [] b1 (0 : Int32) T3.heap n0 Z3 p3_2 (by decide : (0 : Int32) = (0 : Int32))) hZ (hw _ (List.mem_of_getElem? (i := 17) rfl)) (hw _ (List.mem_of_getElem? (i := 2) rfl)) (by decide) (by decide)) q9a q9c (g := (mkF m 86 #[.val (.long pj0), .second, .val (.long pj1), .second, .val (.int pi2), .val (.int pi3), .val (.ref b1), .val (.int (1 : Int32)), .val (.int (0 : Int32))] [(.ref b1)])) rfl (by rw [hml]; rfl) (Steps.refl _) (argsL := []) (rest := []) (lenOf pd_16 rfl) rfl (by show 2 * 0 + _ ≤ _; exact Nat.le_of_eq rfl) (hb hby at_86) (fun _ _ => ⟨rfl, e4, (by decide : 1 + 0 ≤ _), (by decide : 5 + 0 ≤ _)⟩)
      dsimp only [Pt.U, Pt.locs, Pt.cells, Pt.slots] at X9 l9 y9 z9 st9 hQ9
      subst l9 y9 z9
      obtain ⟨rfl, Nq9, e9⟩ := hQ9
      have N9 := Fr.app N4 Nq9
      have go10 : ∀ t, Steps p.tables e below (T9.setTop (mkF m 113 #[.val (.long pj0), .second, .val (.long pj1), .second, .val (.int pi2), .val (.int pi3), .val (.ref b1), .val (.int (1 : Int32)), .val (.int (0 : Int32))] [(.int (pi3 &&& (2 : Int32)))])) t → Steps p.tables e below st0 t := by
        intro t kt
        refine go7 t ?_
        refine XS.ifYes X4.here hx rfl (pc0 := 26) (pc' := 41) rfl (hb hby at_26) rfl ((if0 _ _).trans (teq hc8).1) (by decide) (by decide) ?_
        show Steps p.tables e below (T4.setTop (mkF m 41 #[.val (.long pj0), .second, .val (.long pj1), .second, .val (.int pi2), .val (.int pi3), .val (.ref b1), .val (.int (1 : Int32)), .val (.int (0 : Int32))] [])) _
        refine XS.iload X4.here hx rfl (hb hby at_41) rfl ?_
        show Steps p.tables e below (T4.setTop (mkF m 43 #[.val (.long pj0), .second, .val (.long pj1), .second, .val (.int pi2), .val (.int pi3), .val (.ref b1), .val (.int (1 : Int32)), .val (.int (0 : Int32))] [(.int (0 : Int32))])) _
        refine XS.iconst X4.here hx rfl (hb hby at_43) ?_
        show Steps p.tables e below (T4.setTop (mkF m 44 #[.val (.long pj0), .second, .val (.long pj1), .second, .val (.int pi2), .val (.int pi3), .val (.ref b1), .val (.int (1 : Int32)), .val (.int (0 : Int32))] [(.int (1 : Int32)), (.int (0 : Int32))])) _
        refine XS.icmpYes X4.here hx rfl (pc0 := 44) (pc' := 53) rfl (hb hby at_44) rfl (tlt (by decide : (0 : Int32) < (1 : Int32))).1 (by decide) (by decide) ?_
        show Steps p.tables e below (T4.setTop (mkF m 53 #[.val (.long pj0), .second, .val (.long pj1), .second, .val (.int pi2), .val (.int pi3), .val (.ref b1), .val (.int (1 : Int32)), .val (.int (0 : Int32))] [])) _
        refine XS.iload X4.here hx rfl (hb hby at_53) rfl ?_
        show Steps p.tables e below (T4.setTop (mkF m 55 #[.val (.long pj0), .second, .val (.long pj1), .second, .val (.int pi2), .val (.int pi3), .val (.ref b1), .val (.int (1 : Int32)), .val (.int (0 : Int32))] [(.int (0 : Int32))])) _
        refine XS.iconst X4.here hx rfl (hb hby at_55) ?_
        show Steps p.tables e below (T4.setTop (mkF m 56 #[.val (.long pj0), .second, .val (.long pj1), .second, .val (.int pi2), .val (.int pi3), .val (.ref b1), .val (.int (1 : Int32)), .val (.int (0 : Int32))] [(.int (2 : Int32)), (.int (0 : Int32))])) _
        refine XS.icmpYes X4.here hx rfl (pc0 := 56) (pc' := 65) rfl (hb hby at_56) rfl (tlt (by decide : (0 : Int32) < (2 : Int32))).1 (by decide) (by decide) ?_
        show Steps p.tables e below (T4.setTop (mkF m 65 #[.val (.long pj0), .second, .val (.long pj1), .second, .val (.int pi2), .val (.int pi3), .val (.ref b1), .val (.int (1 : Int32)), .val (.int (0 : Int32))] [])) _
        refine XS.iload X4.here hx rfl (hb hby at_65) rfl ?_
        show Steps p.tables e below (T4.setTop (mkF m 67 #[.val (.long pj0), .second, .val (.long pj1), .second, .val (.int pi2), .val (.int pi3), .val (.ref b1), .val (.int (1 : Int32)), .val (.int (0 : Int32))] [(.int (0 : Int32))])) _
        refine XS.iconst X4.here hx rfl (hb hby at_67) ?_
        show Steps p.tables e below (T4.setTop (mkF m 68 #[.val (.long pj0), .second, .val (.long pj1), .second, .val (.int pi2), .val (.int pi3), .val (.ref b1), .val (.int (1 : Int32)), .val (.int (0 : Int32))] [(.int (3 : Int32)), (.int (0 : Int32))])) _
        refine XS.icmpYes X4.here hx rfl (pc0 := 68) (pc' := 79) rfl (hb hby at_68) rfl (tlt (by decide : (0 : Int32) < (3 : Int32))).1 (by decide) (by decide) ?_
        show Steps p.tables e below (T4.setTop (mkF m 79 #[.val (.long pj0), .second, .val (.long pj1), .second, .val (.int pi2), .val (.int pi3), .val (.ref b1), .val (.int (1 : Int32)), .val (.int (0 : Int32))] [])) _
        refine XS.iload X4.here hx rfl (hb hby at_79) rfl ?_
        show Steps p.tables e below (T4.setTop (mkF m 81 #[.val (.long pj0), .second, .val (.long pj1), .second, .val (.int pi2), .val (.int pi3), .val (.ref b1), .val (.int (1 : Int32)), .val (.int (0 : Int32))] [(.int (1 : Int32))])) _
        refine XS.ifNo X4.here hx rfl (hb hby at_81) rfl ((if0 _ _).trans (feq (by decide : ¬ ((1 : Int32) = (0 : Int32)))).1) ?_
        show Steps p.tables e below (T4.setTop (mkF m 84 #[.val (.long pj0), .second, .val (.long pj1), .second, .val (.int pi2), .val (.int pi3), .val (.ref b1), .val (.int (1 : Int32)), .val (.int (0 : Int32))] [])) _
        refine XS.aload X4.here hx rfl (hb hby at_84) rfl rfl ?_
        show Steps p.tables e below (T4.setTop (mkF m 86 #[.val (.long pj0), .second, .val (.long pj1), .second, .val (.int pi2), .val (.int pi3), .val (.ref b1), .val (.int (1 : Int32)), .val (.int (0 : Int32))] [(.ref b1)])) _
        refine st9.trans ?_
        show Steps p.tables e below (T9.setTop (mkF m 89 #[.val (.long pj0), .second, .val (.long pj1), .second, .val (.int pi2), .val (.int pi3), .val (.ref b1), .val (.int (1 : Int32)), .val (.int (0 : Int32))] [(.int (1 : Int32))])) _
        refine XS.iload X9.here hx rfl (hb hby at_89) rfl ?_
        show Steps p.tables e below (T9.setTop (mkF m 91 #[.val (.long pj0), .second, .val (.long pj1), .second, .val (.int pi2), .val (.int pi3), .val (.ref b1), .val (.int (1 : Int32)), .val (.int (0 : Int32))] [(.int (0 : Int32)), (.int (1 : Int32))])) _
        refine XS.ifNo X9.here hx rfl (hb hby at_91) rfl ((if0 _ _).trans (teq (by decide : (0 : Int32) = (0 : Int32))).2) ?_
        show Steps p.tables e below (T9.setTop (mkF m 94 #[.val (.long pj0), .second, .val (.long pj1), .second, .val (.int pi2), .val (.int pi3), .val (.ref b1), .val (.int (1 : Int32)), .val (.int (0 : Int32))] [(.int (1 : Int32))])) _
        refine XS.iconst X9.here hx rfl (hb hby at_94) ?_
        show Steps p.tables e below (T9.setTop (mkF m 95 #[.val (.long pj0), .second, .val (.long pj1), .second, .val (.int pi2), .val (.int pi3), .val (.ref b1), .val (.int (1 : Int32)), .val (.int (0 : Int32))] [(.int (1 : Int32)), (.int (1 : Int32))])) _
        refine XS.goto X9.here hx rfl (pc0 := 95) (pc' := 99) rfl (hb hby at_95) (by decide) (by decide) ?_
        show Steps p.tables e below (T9.setTop (mkF m 99 #[.val (.long pj0), .second, .val (.long pj1), .second, .val (.int pi2), .val (.int pi3), .val (.ref b1), .val (.int (1 : Int32)), .val (.int (0 : Int32))] [(.int (1 : Int32)), (.int (1 : Int32))])) _
        refine XS.icmpNo X9.here hx rfl (hb hby at_99) rfl (teq (by decide : (1 : Int32) = (1 : Int32))).2 ?_
        show Steps p.tables e below (T9.setTop (mkF m 102 #[.val (.long pj0), .second, .val (.long pj1), .second, .val (.int pi2), .val (.int pi3), .val (.ref b1), .val (.int (1 : Int32)), .val (.int (0 : Int32))] [])) _
        refine XS.iconst X9.here hx rfl (hb hby at_102) ?_
        show Steps p.tables e below (T9.setTop (mkF m 103 #[.val (.long pj0), .second, .val (.long pj1), .second, .val (.int pi2), .val (.int pi3), .val (.ref b1), .val (.int (1 : Int32)), .val (.int (0 : Int32))] [(.int (1 : Int32))])) _
        refine XS.goto X9.here hx rfl (pc0 := 103) (pc' := 107) rfl (hb hby at_103) (by decide) (by decide) ?_
        show Steps p.tables e below (T9.setTop (mkF m 107 #[.val (.long pj0), .second, .val (.long pj1), .second, .val (.int pi2), .val (.int pi3), .val (.ref b1), .val (.int (1 : Int32)), .val (.int (0 : Int32))] [(.int (1 : Int32))])) _
        refine XS.istore X9.here hx rfl (hb hby at_107) rfl (l' := #[.val (.long pj0), .second, .val (.long pj1), .second, .val (.int pi2), .val (.int pi3), .val (.ref b1), .val (.int (1 : Int32)), .val (.int (0 : Int32))]) rfl ?_
        show Steps p.tables e below (T9.setTop (mkF m 109 #[.val (.long pj0), .second, .val (.long pj1), .second, .val (.int pi2), .val (.int pi3), .val (.ref b1), .val (.int (1 : Int32)), .val (.int (0 : Int32))] [])) _
        refine XS.iload X9.here hx rfl (hb hby at_109) rfl ?_
        show Steps p.tables e below (T9.setTop (mkF m 111 #[.val (.long pj0), .second, .val (.long pj1), .second, .val (.int pi2), .val (.int pi3), .val (.ref b1), .val (.int (1 : Int32)), .val (.int (0 : Int32))] [(.int pi3)])) _
        refine XS.iconst X9.here hx rfl (hb hby at_111) ?_
        show Steps p.tables e below (T9.setTop (mkF m 112 #[.val (.long pj0), .second, .val (.long pj1), .second, .val (.int pi2), .val (.int pi3), .val (.ref b1), .val (.int (1 : Int32)), .val (.int (0 : Int32))] [(.int (2 : Int32)), (.int pi3)])) _
        refine XS.iand X9.here hx rfl (hb hby at_112) rfl ?_
        show Steps p.tables e below (T9.setTop (mkF m 113 #[.val (.long pj0), .second, .val (.long pj1), .second, .val (.int pi2), .val (.int pi3), .val (.ref b1), .val (.int (1 : Int32)), .val (.int (0 : Int32))] [(.int (pi3 &&& (2 : Int32)))])) _
        exact kt
      by_cases hc11 : (pi3 &&& (2 : Int32)) = (0 : Int32)
      · skip
        have Xm12 := own_mono X9 (k' := 5) (j' := 32) (by decide) (by decide)
        have go14 : ∀ t, Steps p.tables e below (T9.setTop (mkF m 142 #[.val (.long pj0), .second, .val (.long pj1), .second, .val (.int pi2), .val (.int pi3), .val (.ref b1), .val (.int (1 : Int32)), .val (.int (0 : Int32))] [])) t → Steps p.tables e below st0 t := by
          intro t kt
          refine go10 t ?_
          refine XS.ifYes X9.here hx rfl (pc0 := 113) (pc' := 142) rfl (hb hby at_113) rfl ((if0 _ _).trans (teq hc11).1) (by decide) (by decide) ?_
          show Steps p.tables e below (T9.setTop (mkF m 142 #[.val (.long pj0), .second, .val (.long pj1), .second, .val (.int pi2), .val (.int pi3), .val (.ref b1), .val (.int (1 : Int32)), .val (.int (0 : Int32))] [])) _
          exact kt
        obtain ⟨s₂, o₂, hs₂, hr₂⟩ := own_tail142 pj0 pj1 pi2 pi3 b1 (0 : Int32) (0 : Int32) (0 : Int32) Xm12 hx hZ hw hby hml hown e9 N9 Z3 Bd.returns (BodyLoose.notSynchronized Bd) p3_0 p3_2 p3_3 ge1
        exact ⟨s₂, o₂, go14 _ hs₂, hr₂⟩
      · skip
        have f15 : Arv Z T3.heap nn ka .long (0 : Int32) [] (.long (0 : Int64)) := ((P1.ext E1).keep Kc3 (ninS ne1_nn nin0))
        obtain ⟨cq16, kq16, q16a, q16b, q16c⟩ := isOf hZ e9 p3_0
        obtain ⟨_, _, ⟨T16, L16, k16, n16⟩, -, X16, ⟨Lc16, hQ16, l16, y16, z16⟩, st16⟩ := X9.virtualBack hx (y := (⟨"com/example/kalends/kalends/engine/LongList", "add", "(J)V"⟩ : MethodName)) (z := (⟨"com/example/kalends/kalends/engine/LongList", "add", "(J)V"⟩ : MethodName)) hown (mvT hZ (hw _ (List.mem_of_getElem? (i := 31) rfl))) (mvT hZ (hw _ (List.mem_of_getElem? (i := 32) rfl))) (notFace_of_selects (args := #[]) (mvT hZ (hw _ (List.mem_of_getElem? (i := 34) rfl)))) (mvT hZ (hw _ (List.mem_of_getElem? (i := 34) rfl))) (mvT hZ (hw _ (List.mem_of_getElem? (i := 33) rfl))) (by decide) (backOf (W := 0) (own_addN l Z a0 hw [] b1 pj1 nn ka (0 : Int64) (0 : Int64) T3.heap n0 Z3 p3_0 p3_1 p3_2 p3_3 p3_4 p3_5 f15 ne1_nn ge1) hZ (hw _ (List.mem_of_getElem? (i := 35) rfl)) (hw _ (List.mem_of_getElem? (i := 2) rfl)) (by decide) (by decide)) q16a q16c (g := (mkF m 119 #[.val (.long pj0), .second, .val (.long pj1), .second, .val (.int pi2), .val (.int pi3), .val (.ref b1), .val (.int (1 : Int32)), .val (.int (0 : Int32))] [(.long pj1), (.ref b1)])) rfl (by rw [hml]; rfl) (Steps.refl _) (argsL := [(.long pj1)]) (rest := []) (lenOf pd_17 rfl) rfl (by show 2 * 0 + _ ≤ _; exact Nat.le_of_eq rfl) (hb hby at_119) (fun _ _ => ⟨rfl, e9, (by decide : 1 + 1 ≤ _), (by decide : 5 + 8 ≤ _)⟩)
        dsimp only [Pt.U, Pt.locs, Pt.cells, Pt.slots] at X16 l16 y16 z16 st16 hQ16
        subst l16 y16 z16
        obtain ⟨Nq16, b16_0, y16_0, y16_1, rfl, szb16_0, Kc16, p16_0, p16_1, p16_2, p16_3, p16_4, p16_5⟩ := hQ16
        have N16 := Fr.app N9 Nq16
        have ne_b16_0_b1 : b1 ≠ b16_0 := Nat.ne_of_lt (Nat.lt_of_lt_of_le p3_0.lt szb16_0)
        have ne_b16_0_nn : nn ≠ b16_0 := Nat.ne_of_lt (Nat.lt_of_lt_of_le f15.lt szb16_0)
        have ge_b16_0 : n0 ≤ b16_0 := Nat.le_trans Z3 szb16_0
        have Z16 : n0 ≤ T16.heap.size := Nat.le_trans Z3 Kc16.1
        obtain ⟨cq17, kq17, q17a, q17b, q17c⟩ := isOf hZ rfl p16_0
        obtain ⟨_, _, ⟨T17, L17, k17, n17⟩, -, X17, ⟨Lc17, hQ17, l17, y17, z17⟩, st17⟩ := X16.virtualBack hx (y := (⟨"com/example/kalends/kalends/engine/LongList", "isEmpty", "()Z"⟩ : MethodName)) (z := (⟨"com/example/kalends/kalends/engine/LongList", "isEmpty", "()Z"⟩ : MethodName)) hown (mvT hZ (hw _ (List.mem_of_getElem? (i := 13) rfl))) (mvT hZ (hw _ (List.mem_of_getElem? (i := 14) rfl))) (notFace_of_selects (args := #[]) (mvT hZ (hw _ (List.mem_of_getElem? (i := 16) rfl)))) (mvT hZ (hw _ (List.mem_of_getElem? (i := 16) rfl))) (mvT hZ (hw _ (List.mem_of_getElem? (i := 15) rfl))) (by decide) (backOf (W := 0) (own_empty_t l Z a0 hw [] b1 (1 : Int32) T16.heap n0 Z16 p16_2 (by decide : ¬ ((1 : Int32) = (0 : Int32)))) hZ (hw _ (List.mem_of_getElem? (i := 17) rfl)) (hw _ (List.mem_of_getElem? (i := 2) rfl)) (by decide) (by decide)) q17a q17c (g := (mkF m 129 #[.val (.long pj0), .second, .val (.long pj1), .second, .val (.int pi2), .val (.int pi3), .val (.ref b1), .val (.int (1 : Int32)), .val (.int (0 : Int32))] [(.ref b1)])) rfl (by rw [hml]; rfl) (Steps.refl _) (argsL := []) (rest := []) (lenOf pd_16 rfl) rfl (by show 2 * 0 + _ ≤ _; exact Nat.le_of_eq rfl) (hb hby at_129) (fun _ _ => ⟨rfl, rfl, (by decide : 2 + 0 ≤ _), (by decide : 13 + 0 ≤ _)⟩)
        dsimp only [Pt.U, Pt.locs, Pt.cells, Pt.slots] at X17 l17 y17 z17 st17 hQ17
        subst l17 y17 z17
        obtain ⟨rfl, Nq17, e17⟩ := hQ17
        have N17 := Fr.app N16 Nq17
        have Xm18 := own_mono X17 (k' := 5) (j' := 32) (by decide) (by decide)
        have go20 : ∀ t, Steps p.tables e below (T17.setTop (mkF m 142 #[.val (.long pj0), .second, .val (.long pj1), .second, .val (.int pi2), .val (.int pi3), .val (.ref b1), .val (.int (1 : Int32)), .val (.int (0 : Int32))] [])) t → Steps p.tables e below st0 t := by
          intro t kt
          refine go10 t ?_
          refine XS.ifNo X9.here hx rfl (hb hby at_113) rfl ((if0 _ _).trans (feq hc11).1) ?_
          show Steps p.tables e below (T9.setTop (mkF m 116 #[.val (.long pj0), .second, .val (.long pj1), .second, .val (.int pi2), .val (.int pi3), .val (.ref b1), .val (.int (1 : Int32)), .val (.int (0 : Int32))] [])) _
          refine XS.aload X9.here hx rfl (hb hby at_116) rfl rfl ?_
          show Steps p.tables e below (T9.setTop (mkF m 118 #[.val (.long pj0), .second, .val (.long pj1), .second, .val (.int pi2), .val (.int pi3), .val (.ref b1), .val (.int (1 : Int32)), .val (.int (0 : Int32))] [(.ref b1)])) _
          refine XS.lloadN X9.here hx rfl (hb hby at_118) rfl ?_
          show Steps p.tables e below (T9.setTop (mkF m 119 #[.val (.long pj0), .second, .val (.long pj1), .second, .val (.int pi2), .val (.int pi3), .val (.ref b1), .val (.int (1 : Int32)), .val (.int (0 : Int32))] [(.long pj1), (.ref b1)])) _
          refine st16.trans ?_
          show Steps p.tables e below (T16.setTop (mkF m 122 #[.val (.long pj0), .second, .val (.long pj1), .second, .val (.int pi2), .val (.int pi3), .val (.ref b1), .val (.int (1 : Int32)), .val (.int (0 : Int32))] [])) _
          refine XS.iload X16.here hx rfl (hb hby at_122) rfl ?_
          show Steps p.tables e below (T16.setTop (mkF m 124 #[.val (.long pj0), .second, .val (.long pj1), .second, .val (.int pi2), .val (.int pi3), .val (.ref b1), .val (.int (1 : Int32)), .val (.int (0 : Int32))] [(.int (1 : Int32))])) _
          refine XS.ifNo X16.here hx rfl (hb hby at_124) rfl ((if0 _ _).trans (feq (by decide : ¬ ((1 : Int32) = (0 : Int32)))).1) ?_
          show Steps p.tables e below (T16.setTop (mkF m 127 #[.val (.long pj0), .second, .val (.long pj1), .second, .val (.int pi2), .val (.int pi3), .val (.ref b1), .val (.int (1 : Int32)), .val (.int (0 : Int32))] [])) _
          refine XS.aload X16.here hx rfl (hb hby at_127) rfl rfl ?_
          show Steps p.tables e below (T16.setTop (mkF m 129 #[.val (.long pj0), .second, .val (.long pj1), .second, .val (.int pi2), .val (.int pi3), .val (.ref b1), .val (.int (1 : Int32)), .val (.int (0 : Int32))] [(.ref b1)])) _
          refine st17.trans ?_
          show Steps p.tables e below (T17.setTop (mkF m 132 #[.val (.long pj0), .second, .val (.long pj1), .second, .val (.int pi2), .val (.int pi3), .val (.ref b1), .val (.int (1 : Int32)), .val (.int (0 : Int32))] [(.int (0 : Int32))])) _
          refine XS.ifNo X17.here hx rfl (hb hby at_132) rfl ((if0 _ _).trans (teq (by decide : (0 : Int32) = (0 : Int32))).2) ?_
          show Steps p.tables e below (T17.setTop (mkF m 135 #[.val (.long pj0), .second, .val (.long pj1), .second, .val (.int pi2), .val (.int pi3), .val (.ref b1), .val (.int (1 : Int32)), .val (.int (0 : Int32))] [])) _
          refine XS.iconst X17.here hx rfl (hb hby at_135) ?_
          show Steps p.tables e below (T17.setTop (mkF m 136 #[.val (.long pj0), .second, .val (.long pj1), .second, .val (.int pi2), .val (.int pi3), .val (.ref b1), .val (.int (1 : Int32)), .val (.int (0 : Int32))] [(.int (1 : Int32))])) _
          refine XS.goto X17.here hx rfl (pc0 := 136) (pc' := 140) rfl (hb hby at_136) (by decide) (by decide) ?_
          show Steps p.tables e below (T17.setTop (mkF m 140 #[.val (.long pj0), .second, .val (.long pj1), .second, .val (.int pi2), .val (.int pi3), .val (.ref b1), .val (.int (1 : Int32)), .val (.int (0 : Int32))] [(.int (1 : Int32))])) _
          refine XS.istore X17.here hx rfl (hb hby at_140) rfl (l' := #[.val (.long pj0), .second, .val (.long pj1), .second, .val (.int pi2), .val (.int pi3), .val (.ref b1), .val (.int (1 : Int32)), .val (.int (0 : Int32))]) rfl ?_
          show Steps p.tables e below (T17.setTop (mkF m 142 #[.val (.long pj0), .second, .val (.long pj1), .second, .val (.int pi2), .val (.int pi3), .val (.ref b1), .val (.int (1 : Int32)), .val (.int (0 : Int32))] [])) _
          exact kt
        obtain ⟨s₂, o₂, hs₂, hr₂⟩ := own_tail142 pj0 pj1 pi2 pi3 b1 (0 : Int32) (1 : Int32) (0 : Int32) Xm18 hx hZ hw hby hml hown e17 N17 Z16 Bd.returns (BodyLoose.notSynchronized Bd) p16_0 p16_2 p16_3 ge1
        exact ⟨s₂, o₂, go20 _ hs₂, hr₂⟩
    · skip
      obtain ⟨cq21, kq21, q21a, q21b, q21c⟩ := isOf hZ e4 p3_0
      obtain ⟨_, _, ⟨T21, L21, k21, n21⟩, -, X21, ⟨Lc21, hQ21, l21, y21, z21⟩, st21⟩ := X4.virtualBack hx (y := (⟨"com/example/kalends/kalends/engine/LongList", "addRun", "(JJI)V"⟩ : MethodName)) (z := (⟨"com/example/kalends/kalends/engine/LongList", "addRun", "(JJI)V"⟩ : MethodName)) hown (mvT hZ (hw _ (List.mem_of_getElem? (i := 20) rfl))) (mvT hZ (hw _ (List.mem_of_getElem? (i := 21) rfl))) (notFace_of_selects (args := #[]) (mvT hZ (hw _ (List.mem_of_getElem? (i := 23) rfl)))) (mvT hZ (hw _ (List.mem_of_getElem? (i := 23) rfl))) (mvT hZ (hw _ (List.mem_of_getElem? (i := 22) rfl))) (by decide) (backOf (W := 0) (own_addRun l Z a0 hw [] b1 pj0 pj1 (0 : Int32) nn T3.heap n0 Z3 p3_0 p3_1 p3_2 p3_3 p3_4 p3_5 ge1) hZ (hw _ (List.mem_of_getElem? (i := 24) rfl)) (hw _ (List.mem_of_getElem? (i := 2) rfl)) (by decide) (by decide)) q21a q21c (g := (mkF m 35 #[.val (.long pj0), .second, .val (.long pj1), .second, .val (.int pi2), .val (.int pi3), .val (.ref b1), .val (.int (1 : Int32)), .val (.int (0 : Int32))] [(.int (0 : Int32)), (.long pj1), (.long pj0), (.ref b1)])) rfl (by rw [hml]; rfl) (Steps.refl _) (argsL := [(.long pj0), (.long pj1), (.int (0 : Int32))]) (rest := []) (lenOf pd_18 rfl) rfl (by show 2 * 0 + _ ≤ _; exact Nat.le_of_eq rfl) (hb hby at_35) (fun _ _ => ⟨rfl, e4, (by decide : 1 + 0 ≤ _), (by decide : 5 + 0 ≤ _)⟩)
      dsimp only [Pt.U, Pt.locs, Pt.cells, Pt.slots] at X21 l21 y21 z21 st21 hQ21
      subst l21 y21 z21
      obtain ⟨Nq21, rfl, Kc21, p21_0, p21_1, p21_2, p21_3, p21_4, p21_5⟩ := hQ21
      have N21 := Fr.app N4 Nq21
      have Z21 : n0 ≤ T21.heap.size := Nat.le_trans Z3 Kc21.1
      obtain ⟨cq22, kq22, q22a, q22b, q22c⟩ := isOf hZ rfl p21_0
      obtain ⟨_, _, ⟨T22, L22, k22, n22⟩, -, X22, ⟨Lc22, hQ22, l22, y22, z22⟩, st22⟩ := X21.virtualBack hx (y := (⟨"com/example/kalends/kalends/engine/LongList", "isEmpty", "()Z"⟩ : MethodName)) (z := (⟨"com/example/kalends/kalends/engine/LongList", "isEmpty", "()Z"⟩ : MethodName)) hown (mvT hZ (hw _ (List.mem_of_getElem? (i := 13) rfl))) (mvT hZ (hw _ (List.mem_of_getElem? (i := 14) rfl))) (notFace_of_selects (args := #[]) (mvT hZ (hw _ (List.mem_of_getElem? (i := 16) rfl)))) (mvT hZ (hw _ (List.mem_of_getElem? (i := 16) rfl))) (mvT hZ (hw _ (List.mem_of_getElem? (i := 15) rfl))) (by decide) (backOf (W := 0) (own_empty_f l Z a0 hw [] b1 (0 : Int32) T21.heap n0 Z21 p21_2 (by decide : (0 : Int32) = (0 : Int32))) hZ (hw _ (List.mem_of_getElem? (i := 17) rfl)) (hw _ (List.mem_of_getElem? (i := 2) rfl)) (by decide) (by decide)) q22a q22c (g := (mkF m 86 #[.val (.long pj0), .second, .val (.long pj1), .second, .val (.int pi2), .val (.int pi3), .val (.ref b1), .val (.int (1 : Int32)), .val (.int (0 : Int32))] [(.ref b1)])) rfl (by rw [hml]; rfl) (Steps.refl _) (argsL := []) (rest := []) (lenOf pd_16 rfl) rfl (by show 2 * 0 + _ ≤ _; exact Nat.le_of_eq rfl) (hb hby at_86) (fun _ _ => ⟨rfl, rfl, (by decide : 1 + 0 ≤ _), (by decide : 5 + 0 ≤ _)⟩)
      dsimp only [Pt.U, Pt.locs, Pt.cells, Pt.slots] at X22 l22 y22 z22 st22 hQ22
      subst l22 y22 z22
      obtain ⟨rfl, Nq22, e22⟩ := hQ22
      have N22 := Fr.app N21 Nq22
      have go23 : ∀ t, Steps p.tables e below (T22.setTop (mkF m 113 #[.val (.long pj0), .second, .val (.long pj1), .second, .val (.int pi2), .val (.int pi3), .val (.ref b1), .val (.int (1 : Int32)), .val (.int (0 : Int32))] [(.int (pi3 &&& (2 : Int32)))])) t → Steps p.tables e below st0 t := by
        intro t kt
        refine go7 t ?_
        refine XS.ifNo X4.here hx rfl (hb hby at_26) rfl ((if0 _ _).trans (feq hc8).1) ?_
        show Steps p.tables e below (T4.setTop (mkF m 29 #[.val (.long pj0), .second, .val (.long pj1), .second, .val (.int pi2), .val (.int pi3), .val (.ref b1), .val (.int (1 : Int32)), .val (.int (0 : Int32))] [])) _
        refine XS.aload X4.here hx rfl (hb hby at_29) rfl rfl ?_
        show Steps p.tables e below (T4.setTop (mkF m 31 #[.val (.long pj0), .second, .val (.long pj1), .second, .val (.int pi2), .val (.int pi3), .val (.ref b1), .val (.int (1 : Int32)), .val (.int (0 : Int32))] [(.ref b1)])) _
        refine XS.lloadN X4.here hx rfl (hb hby at_31) rfl ?_
        show Steps p.tables e below (T4.setTop (mkF m 32 #[.val (.long pj0), .second, .val (.long pj1), .second, .val (.int pi2), .val (.int pi3), .val (.ref b1), .val (.int (1 : Int32)), .val (.int (0 : Int32))] [(.long pj0), (.ref b1)])) _
        refine XS.lloadN X4.here hx rfl (hb hby at_32) rfl ?_
        show Steps p.tables e below (T4.setTop (mkF m 33 #[.val (.long pj0), .second, .val (.long pj1), .second, .val (.int pi2), .val (.int pi3), .val (.ref b1), .val (.int (1 : Int32)), .val (.int (0 : Int32))] [(.long pj1), (.long pj0), (.ref b1)])) _
        refine XS.iload X4.here hx rfl (hb hby at_33) rfl ?_
        show Steps p.tables e below (T4.setTop (mkF m 35 #[.val (.long pj0), .second, .val (.long pj1), .second, .val (.int pi2), .val (.int pi3), .val (.ref b1), .val (.int (1 : Int32)), .val (.int (0 : Int32))] [(.int (0 : Int32)), (.long pj1), (.long pj0), (.ref b1)])) _
        refine st21.trans ?_
        show Steps p.tables e below (T21.setTop (mkF m 38 #[.val (.long pj0), .second, .val (.long pj1), .second, .val (.int pi2), .val (.int pi3), .val (.ref b1), .val (.int (1 : Int32)), .val (.int (0 : Int32))] [])) _
        refine XS.goto X21.here hx rfl (pc0 := 38) (pc' := 79) rfl (hb hby at_38) (by decide) (by decide) ?_
        show Steps p.tables e below (T21.setTop (mkF m 79 #[.val (.long pj0), .second, .val (.long pj1), .second, .val (.int pi2), .val (.int pi3), .val (.ref b1), .val (.int (1 : Int32)), .val (.int (0 : Int32))] [])) _
        refine XS.iload X21.here hx rfl (hb hby at_79) rfl ?_
        show Steps p.tables e below (T21.setTop (mkF m 81 #[.val (.long pj0), .second, .val (.long pj1), .second, .val (.int pi2), .val (.int pi3), .val (.ref b1), .val (.int (1 : Int32)), .val (.int (0 : Int32))] [(.int (1 : Int32))])) _
        refine XS.ifNo X21.here hx rfl (hb hby at_81) rfl ((if0 _ _).trans (feq (by decide : ¬ ((1 : Int32) = (0 : Int32)))).1) ?_
        show Steps p.tables e below (T21.setTop (mkF m 84 #[.val (.long pj0), .second, .val (.long pj1), .second, .val (.int pi2), .val (.int pi3), .val (.ref b1), .val (.int (1 : Int32)), .val (.int (0 : Int32))] [])) _
        refine XS.aload X21.here hx rfl (hb hby at_84) rfl rfl ?_
        show Steps p.tables e below (T21.setTop (mkF m 86 #[.val (.long pj0), .second, .val (.long pj1), .second, .val (.int pi2), .val (.int pi3), .val (.ref b1), .val (.int (1 : Int32)), .val (.int (0 : Int32))] [(.ref b1)])) _
        refine st22.trans ?_
        show Steps p.tables e below (T22.setTop (mkF m 89 #[.val (.long pj0), .second, .val (.long pj1), .second, .val (.int pi2), .val (.int pi3), .val (.ref b1), .val (.int (1 : Int32)), .val (.int (0 : Int32))] [(.int (1 : Int32))])) _
        refine XS.iload X22.here hx rfl (hb hby at_89) rfl ?_
        show Steps p.tables e below (T22.setTop (mkF m 91 #[.val (.long pj0), .second, .val (.long pj1), .second, .val (.int pi2), .val (.int pi3), .val (.ref b1), .val (.int (1 : Int32)), .val (.int (0 : Int32))] [(.int (0 : Int32)), (.int (1 : Int32))])) _
        refine XS.ifNo X22.here hx rfl (hb hby at_91) rfl ((if0 _ _).trans (teq (by decide : (0 : Int32) = (0 : Int32))).2) ?_
        show Steps p.tables e below (T22.setTop (mkF m 94 #[.val (.long pj0), .second, .val (.long pj1), .second, .val (.int pi2), .val (.int pi3), .val (.ref b1), .val (.int (1 : Int32)), .val (.int (0 : Int32))] [(.int (1 : Int32))])) _
        refine XS.iconst X22.here hx rfl (hb hby at_94) ?_
        show Steps p.tables e below (T22.setTop (mkF m 95 #[.val (.long pj0), .second, .val (.long pj1), .second, .val (.int pi2), .val (.int pi3), .val (.ref b1), .val (.int (1 : Int32)), .val (.int (0 : Int32))] [(.int (1 : Int32)), (.int (1 : Int32))])) _
        refine XS.goto X22.here hx rfl (pc0 := 95) (pc' := 99) rfl (hb hby at_95) (by decide) (by decide) ?_
        show Steps p.tables e below (T22.setTop (mkF m 99 #[.val (.long pj0), .second, .val (.long pj1), .second, .val (.int pi2), .val (.int pi3), .val (.ref b1), .val (.int (1 : Int32)), .val (.int (0 : Int32))] [(.int (1 : Int32)), (.int (1 : Int32))])) _
        refine XS.icmpNo X22.here hx rfl (hb hby at_99) rfl (teq (by decide : (1 : Int32) = (1 : Int32))).2 ?_
        show Steps p.tables e below (T22.setTop (mkF m 102 #[.val (.long pj0), .second, .val (.long pj1), .second, .val (.int pi2), .val (.int pi3), .val (.ref b1), .val (.int (1 : Int32)), .val (.int (0 : Int32))] [])) _
        refine XS.iconst X22.here hx rfl (hb hby at_102) ?_
        show Steps p.tables e below (T22.setTop (mkF m 103 #[.val (.long pj0), .second, .val (.long pj1), .second, .val (.int pi2), .val (.int pi3), .val (.ref b1), .val (.int (1 : Int32)), .val (.int (0 : Int32))] [(.int (1 : Int32))])) _
        refine XS.goto X22.here hx rfl (pc0 := 103) (pc' := 107) rfl (hb hby at_103) (by decide) (by decide) ?_
        show Steps p.tables e below (T22.setTop (mkF m 107 #[.val (.long pj0), .second, .val (.long pj1), .second, .val (.int pi2), .val (.int pi3), .val (.ref b1), .val (.int (1 : Int32)), .val (.int (0 : Int32))] [(.int (1 : Int32))])) _
        refine XS.istore X22.here hx rfl (hb hby at_107) rfl (l' := #[.val (.long pj0), .second, .val (.long pj1), .second, .val (.int pi2), .val (.int pi3), .val (.ref b1), .val (.int (1 : Int32)), .val (.int (0 : Int32))]) rfl ?_
        show Steps p.tables e below (T22.setTop (mkF m 109 #[.val (.long pj0), .second, .val (.long pj1), .second, .val (.int pi2), .val (.int pi3), .val (.ref b1), .val (.int (1 : Int32)), .val (.int (0 : Int32))] [])) _
        refine XS.iload X22.here hx rfl (hb hby at_109) rfl ?_
        show Steps p.tables e below (T22.setTop (mkF m 111 #[.val (.long pj0), .second, .val (.long pj1), .second, .val (.int pi2), .val (.int pi3), .val (.ref b1), .val (.int (1 : Int32)), .val (.int (0 : Int32))] [(.int pi3)])) _
        refine XS.iconst X22.here hx rfl (hb hby at_111) ?_
        show Steps p.tables e below (T22.setTop (mkF m 112 #[.val (.long pj0), .second, .val (.long pj1), .second, .val (.int pi2), .val (.int pi3), .val (.ref b1), .val (.int (1 : Int32)), .val (.int (0 : Int32))] [(.int (2 : Int32)), (.int pi3)])) _
        refine XS.iand X22.here hx rfl (hb hby at_112) rfl ?_
        show Steps p.tables e below (T22.setTop (mkF m 113 #[.val (.long pj0), .second, .val (.long pj1), .second, .val (.int pi2), .val (.int pi3), .val (.ref b1), .val (.int (1 : Int32)), .val (.int (0 : Int32))] [(.int (pi3 &&& (2 : Int32)))])) _
        exact kt
      by_cases hc24 : (pi3 &&& (2 : Int32)) = (0 : Int32)
      · skip
        have Xm25 := own_mono X22 (k' := 5) (j' := 32) (by decide) (by decide)
        have go27 : ∀ t, Steps p.tables e below (T22.setTop (mkF m 142 #[.val (.long pj0), .second, .val (.long pj1), .second, .val (.int pi2), .val (.int pi3), .val (.ref b1), .val (.int (1 : Int32)), .val (.int (0 : Int32))] [])) t → Steps p.tables e below st0 t := by
          intro t kt
          refine go23 t ?_
          refine XS.ifYes X22.here hx rfl (pc0 := 113) (pc' := 142) rfl (hb hby at_113) rfl ((if0 _ _).trans (teq hc24).1) (by decide) (by decide) ?_
          show Steps p.tables e below (T22.setTop (mkF m 142 #[.val (.long pj0), .second, .val (.long pj1), .second, .val (.int pi2), .val (.int pi3), .val (.ref b1), .val (.int (1 : Int32)), .val (.int (0 : Int32))] [])) _
          exact kt
        obtain ⟨s₂, o₂, hs₂, hr₂⟩ := own_tail142 pj0 pj1 pi2 pi3 b1 (0 : Int32) (0 : Int32) (1 : Int32) Xm25 hx hZ hw hby hml hown e22 N22 Z21 Bd.returns (BodyLoose.notSynchronized Bd) p21_0 p21_2 p21_3 ge1
        exact ⟨s₂, o₂, go27 _ hs₂, hr₂⟩
      · skip
        have f28 : Arv Z T21.heap nn ka .long (0 : Int32) [] (.long (0 : Int64)) := (((P1.ext E1).keep Kc3 (ninS ne1_nn nin0)).keep Kc21 (ninS ne1_nn nin0))
        obtain ⟨cq29, kq29, q29a, q29b, q29c⟩ := isOf hZ e22 p21_0
        obtain ⟨_, _, ⟨T29, L29, k29, n29⟩, -, X29, ⟨Lc29, hQ29, l29, y29, z29⟩, st29⟩ := X22.virtualBack hx (y := (⟨"com/example/kalends/kalends/engine/LongList", "add", "(J)V"⟩ : MethodName)) (z := (⟨"com/example/kalends/kalends/engine/LongList", "add", "(J)V"⟩ : MethodName)) hown (mvT hZ (hw _ (List.mem_of_getElem? (i := 31) rfl))) (mvT hZ (hw _ (List.mem_of_getElem? (i := 32) rfl))) (notFace_of_selects (args := #[]) (mvT hZ (hw _ (List.mem_of_getElem? (i := 34) rfl)))) (mvT hZ (hw _ (List.mem_of_getElem? (i := 34) rfl))) (mvT hZ (hw _ (List.mem_of_getElem? (i := 33) rfl))) (by decide) (backOf (W := 0) (own_addR0 l Z a0 hw [] b1 pj1 nn ka pj0 pj1 T21.heap n0 Z21 p21_0 p21_1 p21_2 p21_3 p21_4 p21_5 f28 ne1_nn ge1) hZ (hw _ (List.mem_of_getElem? (i := 35) rfl)) (hw _ (List.mem_of_getElem? (i := 2) rfl)) (by decide) (by decide)) q29a q29c (g := (mkF m 119 #[.val (.long pj0), .second, .val (.long pj1), .second, .val (.int pi2), .val (.int pi3), .val (.ref b1), .val (.int (1 : Int32)), .val (.int (0 : Int32))] [(.long pj1), (.ref b1)])) rfl (by rw [hml]; rfl) (Steps.refl _) (argsL := [(.long pj1)]) (rest := []) (lenOf pd_17 rfl) rfl (by show 2 * 0 + _ ≤ _; exact Nat.le_of_eq rfl) (hb hby at_119) (fun _ _ => ⟨rfl, e22, (by decide : 1 + 1 ≤ _), (by decide : 5 + 8 ≤ _)⟩)
        dsimp only [Pt.U, Pt.locs, Pt.cells, Pt.slots] at X29 l29 y29 z29 st29 hQ29
        subst l29 y29 z29
        obtain ⟨Nq29, b29_0, y29_0, y29_1, rfl, szb29_0, Kc29, p29_0, p29_1, p29_2, p29_3, p29_4, p29_5⟩ := hQ29
        have N29 := Fr.app N22 Nq29
        have ne_b29_0_b1 : b1 ≠ b29_0 := Nat.ne_of_lt (Nat.lt_of_lt_of_le p21_0.lt szb29_0)
        have ne_b29_0_nn : nn ≠ b29_0 := Nat.ne_of_lt (Nat.lt_of_lt_of_le f28.lt szb29_0)
        have ge_b29_0 : n0 ≤ b29_0 := Nat.le_trans Z21 szb29_0
        have Z29 : n0 ≤ T29.heap.size := Nat.le_trans Z21 Kc29.1
        obtain ⟨cq30, kq30, q30a, q30b, q30c⟩ := isOf hZ rfl p29_0
        obtain ⟨_, _, ⟨T30, L30, k30, n30⟩, -, X30, ⟨Lc30, hQ30, l30, y30, z30⟩, st30⟩ := X29.virtualBack hx (y := (⟨"com/example/kalends/kalends/engine/LongList", "isEmpty", "()Z"⟩ : MethodName)) (z := (⟨"com/example/kalends/kalends/engine/LongList", "isEmpty", "()Z"⟩ : MethodName)) hown (mvT hZ (hw _ (List.mem_of_getElem? (i := 13) rfl))) (mvT hZ (hw _ (List.mem_of_getElem? (i := 14) rfl))) (notFace_of_selects (args := #[]) (mvT hZ (hw _ (List.mem_of_getElem? (i := 16) rfl)))) (mvT hZ (hw _ (List.mem_of_getElem? (i := 16) rfl))) (mvT hZ (hw _ (List.mem_of_getElem? (i := 15) rfl))) (by decide) (backOf (W := 0) (own_empty_t l Z a0 hw [] b1 (1 : Int32) T29.heap n0 Z29 p29_2 (by decide : ¬ ((1 : Int32) = (0 : Int32)))) hZ (hw _ (List.mem_of_getElem? (i := 17) rfl)) (hw _ (List.mem_of_getElem? (i := 2) rfl)) (by decide) (by decide)) q30a q30c (g := (mkF m 129 #[.val (.long pj0), .second, .val (.long pj1), .second, .val (.int pi2), .val (.int pi3), .val (.ref b1), .val (.int (1 : Int32)), .val (.int (0 : Int32))] [(.ref b1)])) rfl (by rw [hml]; rfl) (Steps.refl _) (argsL := []) (rest := []) (lenOf pd_16 rfl) rfl (by show 2 * 0 + _ ≤ _; exact Nat.le_of_eq rfl) (hb hby at_129) (fun _ _ => ⟨rfl, rfl, (by decide : 2 + 0 ≤ _), (by decide : 13 + 0 ≤ _)⟩)
        dsimp only [Pt.U, Pt.locs, Pt.cells, Pt.slots] at X30 l30 y30 z30 st30 hQ30
        subst l30 y30 z30
        obtain ⟨rfl, Nq30, e30⟩ := hQ30
        have N30 := Fr.app N29 Nq30
        have Xm31 := own_mono X30 (k' := 5) (j' := 32) (by decide) (by decide)
        have go33 : ∀ t, Steps p.tables e below (T30.setTop (mkF m 142 #[.val (.long pj0), .second, .val (.long pj1), .second, .val (.int pi2), .val (.int pi3), .val (.ref b1), .val (.int (1 : Int32)), .val (.int (0 : Int32))] [])) t → Steps p.tables e below st0 t := by
          intro t kt
          refine go23 t ?_
          refine XS.ifNo X22.here hx rfl (hb hby at_113) rfl ((if0 _ _).trans (feq hc24).1) ?_
          show Steps p.tables e below (T22.setTop (mkF m 116 #[.val (.long pj0), .second, .val (.long pj1), .second, .val (.int pi2), .val (.int pi3), .val (.ref b1), .val (.int (1 : Int32)), .val (.int (0 : Int32))] [])) _
          refine XS.aload X22.here hx rfl (hb hby at_116) rfl rfl ?_
          show Steps p.tables e below (T22.setTop (mkF m 118 #[.val (.long pj0), .second, .val (.long pj1), .second, .val (.int pi2), .val (.int pi3), .val (.ref b1), .val (.int (1 : Int32)), .val (.int (0 : Int32))] [(.ref b1)])) _
          refine XS.lloadN X22.here hx rfl (hb hby at_118) rfl ?_
          show Steps p.tables e below (T22.setTop (mkF m 119 #[.val (.long pj0), .second, .val (.long pj1), .second, .val (.int pi2), .val (.int pi3), .val (.ref b1), .val (.int (1 : Int32)), .val (.int (0 : Int32))] [(.long pj1), (.ref b1)])) _
          refine st29.trans ?_
          show Steps p.tables e below (T29.setTop (mkF m 122 #[.val (.long pj0), .second, .val (.long pj1), .second, .val (.int pi2), .val (.int pi3), .val (.ref b1), .val (.int (1 : Int32)), .val (.int (0 : Int32))] [])) _
          refine XS.iload X29.here hx rfl (hb hby at_122) rfl ?_
          show Steps p.tables e below (T29.setTop (mkF m 124 #[.val (.long pj0), .second, .val (.long pj1), .second, .val (.int pi2), .val (.int pi3), .val (.ref b1), .val (.int (1 : Int32)), .val (.int (0 : Int32))] [(.int (1 : Int32))])) _
          refine XS.ifNo X29.here hx rfl (hb hby at_124) rfl ((if0 _ _).trans (feq (by decide : ¬ ((1 : Int32) = (0 : Int32)))).1) ?_
          show Steps p.tables e below (T29.setTop (mkF m 127 #[.val (.long pj0), .second, .val (.long pj1), .second, .val (.int pi2), .val (.int pi3), .val (.ref b1), .val (.int (1 : Int32)), .val (.int (0 : Int32))] [])) _
          refine XS.aload X29.here hx rfl (hb hby at_127) rfl rfl ?_
          show Steps p.tables e below (T29.setTop (mkF m 129 #[.val (.long pj0), .second, .val (.long pj1), .second, .val (.int pi2), .val (.int pi3), .val (.ref b1), .val (.int (1 : Int32)), .val (.int (0 : Int32))] [(.ref b1)])) _
          refine st30.trans ?_
          show Steps p.tables e below (T30.setTop (mkF m 132 #[.val (.long pj0), .second, .val (.long pj1), .second, .val (.int pi2), .val (.int pi3), .val (.ref b1), .val (.int (1 : Int32)), .val (.int (0 : Int32))] [(.int (0 : Int32))])) _
          refine XS.ifNo X30.here hx rfl (hb hby at_132) rfl ((if0 _ _).trans (teq (by decide : (0 : Int32) = (0 : Int32))).2) ?_
          show Steps p.tables e below (T30.setTop (mkF m 135 #[.val (.long pj0), .second, .val (.long pj1), .second, .val (.int pi2), .val (.int pi3), .val (.ref b1), .val (.int (1 : Int32)), .val (.int (0 : Int32))] [])) _
          refine XS.iconst X30.here hx rfl (hb hby at_135) ?_
          show Steps p.tables e below (T30.setTop (mkF m 136 #[.val (.long pj0), .second, .val (.long pj1), .second, .val (.int pi2), .val (.int pi3), .val (.ref b1), .val (.int (1 : Int32)), .val (.int (0 : Int32))] [(.int (1 : Int32))])) _
          refine XS.goto X30.here hx rfl (pc0 := 136) (pc' := 140) rfl (hb hby at_136) (by decide) (by decide) ?_
          show Steps p.tables e below (T30.setTop (mkF m 140 #[.val (.long pj0), .second, .val (.long pj1), .second, .val (.int pi2), .val (.int pi3), .val (.ref b1), .val (.int (1 : Int32)), .val (.int (0 : Int32))] [(.int (1 : Int32))])) _
          refine XS.istore X30.here hx rfl (hb hby at_140) rfl (l' := #[.val (.long pj0), .second, .val (.long pj1), .second, .val (.int pi2), .val (.int pi3), .val (.ref b1), .val (.int (1 : Int32)), .val (.int (0 : Int32))]) rfl ?_
          show Steps p.tables e below (T30.setTop (mkF m 142 #[.val (.long pj0), .second, .val (.long pj1), .second, .val (.int pi2), .val (.int pi3), .val (.ref b1), .val (.int (1 : Int32)), .val (.int (0 : Int32))] [])) _
          exact kt
        obtain ⟨s₂, o₂, hs₂, hr₂⟩ := own_tail142 pj0 pj1 pi2 pi3 b1 (0 : Int32) (1 : Int32) (0 : Int32) Xm31 hx hZ hw hby hml hown e30 N30 Z29 Bd.returns (BodyLoose.notSynchronized Bd) p29_0 p29_2 p29_3 ge1
        exact ⟨s₂, o₂, go33 _ hs₂, hr₂⟩
  · skip
    rw [hk6] at go5
    have go34 : ∀ t, Steps p.tables e below (T4.setTop (mkF m 26 #[.val (.long pj0), .second, .val (.long pj1), .second, .val (.int pi2), .val (.int pi3), .val (.ref b1), .val (.int (1 : Int32)), .val (.int (1 : Int32))] [(.int (pi3 &&& (1 : Int32)))])) t → Steps p.tables e below st0 t := by
      intro t kt
      refine go5 t ?_
      refine XS.iload X4.here hx rfl (hb hby at_22) rfl ?_
      show Steps p.tables e below (T4.setTop (mkF m 24 #[.val (.long pj0), .second, .val (.long pj1), .second, .val (.int pi2), .val (.int pi3), .val (.ref b1), .val (.int (1 : Int32)), .val (.int (1 : Int32))] [(.int pi3)])) _
      refine XS.iconst X4.here hx rfl (hb hby at_24) ?_
      show Steps p.tables e below (T4.setTop (mkF m 25 #[.val (.long pj0), .second, .val (.long pj1), .second, .val (.int pi2), .val (.int pi3), .val (.ref b1), .val (.int (1 : Int32)), .val (.int (1 : Int32))] [(.int (1 : Int32)), (.int pi3)])) _
      refine XS.iand X4.here hx rfl (hb hby at_25) rfl ?_
      show Steps p.tables e below (T4.setTop (mkF m 26 #[.val (.long pj0), .second, .val (.long pj1), .second, .val (.int pi2), .val (.int pi3), .val (.ref b1), .val (.int (1 : Int32)), .val (.int (1 : Int32))] [(.int (pi3 &&& (1 : Int32)))])) _
      exact kt
    by_cases hc35 : (pi3 &&& (1 : Int32)) = (0 : Int32)
    · skip
      have f36 : Arv Z T3.heap nn ka .long (0 : Int32) [] (.long (0 : Int64)) := ((P1.ext E1).keep Kc3 (ninS ne1_nn nin0))
      obtain ⟨cq37, kq37, q37a, q37b, q37c⟩ := isOf hZ e4 p3_0
      obtain ⟨_, _, ⟨T37, L37, k37, n37⟩, -, X37, ⟨Lc37, hQ37, l37, y37, z37⟩, st37⟩ := X4.virtualBack hx (y := (⟨"com/example/kalends/kalends/engine/LongList", "add", "(J)V"⟩ : MethodName)) (z := (⟨"com/example/kalends/kalends/engine/LongList", "add", "(J)V"⟩ : MethodName)) hown (mvT hZ (hw _ (List.mem_of_getElem? (i := 31) rfl))) (mvT hZ (hw _ (List.mem_of_getElem? (i := 32) rfl))) (notFace_of_selects (args := #[]) (mvT hZ (hw _ (List.mem_of_getElem? (i := 34) rfl)))) (mvT hZ (hw _ (List.mem_of_getElem? (i := 34) rfl))) (mvT hZ (hw _ (List.mem_of_getElem? (i := 33) rfl))) (by decide) (backOf (W := 0) (own_addN l Z a0 hw [] b1 pj0 nn ka (0 : Int64) (0 : Int64) T3.heap n0 Z3 p3_0 p3_1 p3_2 p3_3 p3_4 p3_5 f36 ne1_nn ge1) hZ (hw _ (List.mem_of_getElem? (i := 35) rfl)) (hw _ (List.mem_of_getElem? (i := 2) rfl)) (by decide) (by decide)) q37a q37c (g := (mkF m 50 #[.val (.long pj0), .second, .val (.long pj1), .second, .val (.int pi2), .val (.int pi3), .val (.ref b1), .val (.int (1 : Int32)), .val (.int (1 : Int32))] [(.long pj0), (.ref b1)])) rfl (by rw [hml]; rfl) (Steps.refl _) (argsL := [(.long pj0)]) (rest := []) (lenOf pd_17 rfl) rfl (by show 2 * 0 + _ ≤ _; exact Nat.le_of_eq rfl) (hb hby at_50) (fun _ _ => ⟨rfl, e4, (by decide : 1 + 1 ≤ _), (by decide : 5 + 8 ≤ _)⟩)
      dsimp only [Pt.U, Pt.locs, Pt.cells, Pt.slots] at X37 l37 y37 z37 st37 hQ37
      subst l37 y37 z37
      obtain ⟨Nq37, b37_0, y37_0, y37_1, rfl, szb37_0, Kc37, p37_0, p37_1, p37_2, p37_3, p37_4, p37_5⟩ := hQ37
      have N37 := Fr.app N4 Nq37
      have ne_b37_0_b1 : b1 ≠ b37_0 := Nat.ne_of_lt (Nat.lt_of_lt_of_le p3_0.lt szb37_0)
      have ne_b37_0_nn : nn ≠ b37_0 := Nat.ne_of_lt (Nat.lt_of_lt_of_le f36.lt szb37_0)
      have ge_b37_0 : n0 ≤ b37_0 := Nat.le_trans Z3 szb37_0
      have Z37 : n0 ≤ T37.heap.size := Nat.le_trans Z3 Kc37.1
      obtain ⟨cq38, kq38, q38a, q38b, q38c⟩ := isOf hZ rfl p37_0
      obtain ⟨_, _, ⟨T38, L38, k38, n38⟩, -, X38, ⟨Lc38, hQ38, l38, y38, z38⟩, st38⟩ := X37.virtualBack hx (y := (⟨"com/example/kalends/kalends/engine/LongList", "isEmpty", "()Z"⟩ : MethodName)) (z := (⟨"com/example/kalends/kalends/engine/LongList", "isEmpty", "()Z"⟩ : MethodName)) hown (mvT hZ (hw _ (List.mem_of_getElem? (i := 13) rfl))) (mvT hZ (hw _ (List.mem_of_getElem? (i := 14) rfl))) (notFace_of_selects (args := #[]) (mvT hZ (hw _ (List.mem_of_getElem? (i := 16) rfl)))) (mvT hZ (hw _ (List.mem_of_getElem? (i := 16) rfl))) (mvT hZ (hw _ (List.mem_of_getElem? (i := 15) rfl))) (by decide) (backOf (W := 0) (own_empty_t l Z a0 hw [] b1 (1 : Int32) T37.heap n0 Z37 p37_2 (by decide : ¬ ((1 : Int32) = (0 : Int32)))) hZ (hw _ (List.mem_of_getElem? (i := 17) rfl)) (hw _ (List.mem_of_getElem? (i := 2) rfl)) (by decide) (by decide)) q38a q38c (g := (mkF m 86 #[.val (.long pj0), .second, .val (.long pj1), .second, .val (.int pi2), .val (.int pi3), .val (.ref b1), .val (.int (1 : Int32)), .val (.int (1 : Int32))] [(.ref b1)])) rfl (by rw [hml]; rfl) (Steps.refl _) (argsL := []) (rest := []) (lenOf pd_16 rfl) rfl (by show 2 * 0 + _ ≤ _; exact Nat.le_of_eq rfl) (hb hby at_86) (fun _ _ => ⟨rfl, rfl, (by decide : 2 + 0 ≤ _), (by decide : 13 + 0 ≤ _)⟩)
      dsimp only [Pt.U, Pt.locs, Pt.cells, Pt.slots] at X38 l38 y38 z38 st38 hQ38
      subst l38 y38 z38
      obtain ⟨rfl, Nq38, e38⟩ := hQ38
      have N38 := Fr.app N37 Nq38
      have go39 : ∀ t, Steps p.tables e below (T38.setTop (mkF m 113 #[.val (.long pj0), .second, .val (.long pj1), .second, .val (.int pi2), .val (.int pi3), .val (.ref b1), .val (.int (1 : Int32)), .val (.int (1 : Int32))] [(.int (pi3 &&& (2 : Int32)))])) t → Steps p.tables e below st0 t := by
        intro t kt
        refine go34 t ?_
        refine XS.ifYes X4.here hx rfl (pc0 := 26) (pc' := 41) rfl (hb hby at_26) rfl ((if0 _ _).trans (teq hc35).1) (by decide) (by decide) ?_
        show Steps p.tables e below (T4.setTop (mkF m 41 #[.val (.long pj0), .second, .val (.long pj1), .second, .val (.int pi2), .val (.int pi3), .val (.ref b1), .val (.int (1 : Int32)), .val (.int (1 : Int32))] [])) _
        refine XS.iload X4.here hx rfl (hb hby at_41) rfl ?_
        show Steps p.tables e below (T4.setTop (mkF m 43 #[.val (.long pj0), .second, .val (.long pj1), .second, .val (.int pi2), .val (.int pi3), .val (.ref b1), .val (.int (1 : Int32)), .val (.int (1 : Int32))] [(.int (1 : Int32))])) _
        refine XS.iconst X4.here hx rfl (hb hby at_43) ?_
        show Steps p.tables e below (T4.setTop (mkF m 44 #[.val (.long pj0), .second, .val (.long pj1), .second, .val (.int pi2), .val (.int pi3), .val (.ref b1), .val (.int (1 : Int32)), .val (.int (1 : Int32))] [(.int (1 : Int32)), (.int (1 : Int32))])) _
        refine XS.icmpNo X4.here hx rfl (hb hby at_44) rfl (flt (by decide : ¬ ((1 : Int32) < (1 : Int32)))).1 ?_
        show Steps p.tables e below (T4.setTop (mkF m 47 #[.val (.long pj0), .second, .val (.long pj1), .second, .val (.int pi2), .val (.int pi3), .val (.ref b1), .val (.int (1 : Int32)), .val (.int (1 : Int32))] [])) _
        refine XS.aload X4.here hx rfl (hb hby at_47) rfl rfl ?_
        show Steps p.tables e below (T4.setTop (mkF m 49 #[.val (.long pj0), .second, .val (.long pj1), .second, .val (.int pi2), .val (.int pi3), .val (.ref b1), .val (.int (1 : Int32)), .val (.int (1 : Int32))] [(.ref b1)])) _
        refine XS.lloadN X4.here hx rfl (hb hby at_49) rfl ?_
        show Steps p.tables e below (T4.setTop (mkF m 50 #[.val (.long pj0), .second, .val (.long pj1), .second, .val (.int pi2), .val (.int pi3), .val (.ref b1), .val (.int (1 : Int32)), .val (.int (1 : Int32))] [(.long pj0), (.ref b1)])) _
        refine st37.trans ?_
        show Steps p.tables e below (T37.setTop (mkF m 53 #[.val (.long pj0), .second, .val (.long pj1), .second, .val (.int pi2), .val (.int pi3), .val (.ref b1), .val (.int (1 : Int32)), .val (.int (1 : Int32))] [])) _
        refine XS.iload X37.here hx rfl (hb hby at_53) rfl ?_
        show Steps p.tables e below (T37.setTop (mkF m 55 #[.val (.long pj0), .second, .val (.long pj1), .second, .val (.int pi2), .val (.int pi3), .val (.ref b1), .val (.int (1 : Int32)), .val (.int (1 : Int32))] [(.int (1 : Int32))])) _
        refine XS.iconst X37.here hx rfl (hb hby at_55) ?_
        show Steps p.tables e below (T37.setTop (mkF m 56 #[.val (.long pj0), .second, .val (.long pj1), .second, .val (.int pi2), .val (.int pi3), .val (.ref b1), .val (.int (1 : Int32)), .val (.int (1 : Int32))] [(.int (2 : Int32)), (.int (1 : Int32))])) _
        refine XS.icmpYes X37.here hx rfl (pc0 := 56) (pc' := 65) rfl (hb hby at_56) rfl (tlt (by decide : (1 : Int32) < (2 : Int32))).1 (by decide) (by decide) ?_
        show Steps p.tables e below (T37.setTop (mkF m 65 #[.val (.long pj0), .second, .val (.long pj1), .second, .val (.int pi2), .val (.int pi3), .val (.ref b1), .val (.int (1 : Int32)), .val (.int (1 : Int32))] [])) _
        refine XS.iload X37.here hx rfl (hb hby at_65) rfl ?_
        show Steps p.tables e below (T37.setTop (mkF m 67 #[.val (.long pj0), .second, .val (.long pj1), .second, .val (.int pi2), .val (.int pi3), .val (.ref b1), .val (.int (1 : Int32)), .val (.int (1 : Int32))] [(.int (1 : Int32))])) _
        refine XS.iconst X37.here hx rfl (hb hby at_67) ?_
        show Steps p.tables e below (T37.setTop (mkF m 68 #[.val (.long pj0), .second, .val (.long pj1), .second, .val (.int pi2), .val (.int pi3), .val (.ref b1), .val (.int (1 : Int32)), .val (.int (1 : Int32))] [(.int (3 : Int32)), (.int (1 : Int32))])) _
        refine XS.icmpYes X37.here hx rfl (pc0 := 68) (pc' := 79) rfl (hb hby at_68) rfl (tlt (by decide : (1 : Int32) < (3 : Int32))).1 (by decide) (by decide) ?_
        show Steps p.tables e below (T37.setTop (mkF m 79 #[.val (.long pj0), .second, .val (.long pj1), .second, .val (.int pi2), .val (.int pi3), .val (.ref b1), .val (.int (1 : Int32)), .val (.int (1 : Int32))] [])) _
        refine XS.iload X37.here hx rfl (hb hby at_79) rfl ?_
        show Steps p.tables e below (T37.setTop (mkF m 81 #[.val (.long pj0), .second, .val (.long pj1), .second, .val (.int pi2), .val (.int pi3), .val (.ref b1), .val (.int (1 : Int32)), .val (.int (1 : Int32))] [(.int (1 : Int32))])) _
        refine XS.ifNo X37.here hx rfl (hb hby at_81) rfl ((if0 _ _).trans (feq (by decide : ¬ ((1 : Int32) = (0 : Int32)))).1) ?_
        show Steps p.tables e below (T37.setTop (mkF m 84 #[.val (.long pj0), .second, .val (.long pj1), .second, .val (.int pi2), .val (.int pi3), .val (.ref b1), .val (.int (1 : Int32)), .val (.int (1 : Int32))] [])) _
        refine XS.aload X37.here hx rfl (hb hby at_84) rfl rfl ?_
        show Steps p.tables e below (T37.setTop (mkF m 86 #[.val (.long pj0), .second, .val (.long pj1), .second, .val (.int pi2), .val (.int pi3), .val (.ref b1), .val (.int (1 : Int32)), .val (.int (1 : Int32))] [(.ref b1)])) _
        refine st38.trans ?_
        show Steps p.tables e below (T38.setTop (mkF m 89 #[.val (.long pj0), .second, .val (.long pj1), .second, .val (.int pi2), .val (.int pi3), .val (.ref b1), .val (.int (1 : Int32)), .val (.int (1 : Int32))] [(.int (0 : Int32))])) _
        refine XS.iload X38.here hx rfl (hb hby at_89) rfl ?_
        show Steps p.tables e below (T38.setTop (mkF m 91 #[.val (.long pj0), .second, .val (.long pj1), .second, .val (.int pi2), .val (.int pi3), .val (.ref b1), .val (.int (1 : Int32)), .val (.int (1 : Int32))] [(.int (1 : Int32)), (.int (0 : Int32))])) _
        refine XS.ifYes X38.here hx rfl (pc0 := 91) (pc' := 98) rfl (hb hby at_91) rfl ((if0 _ _).trans (feq (by decide : ¬ ((1 : Int32) = (0 : Int32)))).2) (by decide) (by decide) ?_
        show Steps p.tables e below (T38.setTop (mkF m 98 #[.val (.long pj0), .second, .val (.long pj1), .second, .val (.int pi2), .val (.int pi3), .val (.ref b1), .val (.int (1 : Int32)), .val (.int (1 : Int32))] [(.int (0 : Int32))])) _
        refine XS.iconst X38.here hx rfl (hb hby at_98) ?_
        show Steps p.tables e below (T38.setTop (mkF m 99 #[.val (.long pj0), .second, .val (.long pj1), .second, .val (.int pi2), .val (.int pi3), .val (.ref b1), .val (.int (1 : Int32)), .val (.int (1 : Int32))] [(.int (0 : Int32)), (.int (0 : Int32))])) _
        refine XS.icmpNo X38.here hx rfl (hb hby at_99) rfl (teq (by decide : (0 : Int32) = (0 : Int32))).2 ?_
        show Steps p.tables e below (T38.setTop (mkF m 102 #[.val (.long pj0), .second, .val (.long pj1), .second, .val (.int pi2), .val (.int pi3), .val (.ref b1), .val (.int (1 : Int32)), .val (.int (1 : Int32))] [])) _
        refine XS.iconst X38.here hx rfl (hb hby at_102) ?_
        show Steps p.tables e below (T38.setTop (mkF m 103 #[.val (.long pj0), .second, .val (.long pj1), .second, .val (.int pi2), .val (.int pi3), .val (.ref b1), .val (.int (1 : Int32)), .val (.int (1 : Int32))] [(.int (1 : Int32))])) _
        refine XS.goto X38.here hx rfl (pc0 := 103) (pc' := 107) rfl (hb hby at_103) (by decide) (by decide) ?_
        show Steps p.tables e below (T38.setTop (mkF m 107 #[.val (.long pj0), .second, .val (.long pj1), .second, .val (.int pi2), .val (.int pi3), .val (.ref b1), .val (.int (1 : Int32)), .val (.int (1 : Int32))] [(.int (1 : Int32))])) _
        refine XS.istore X38.here hx rfl (hb hby at_107) rfl (l' := #[.val (.long pj0), .second, .val (.long pj1), .second, .val (.int pi2), .val (.int pi3), .val (.ref b1), .val (.int (1 : Int32)), .val (.int (1 : Int32))]) rfl ?_
        show Steps p.tables e below (T38.setTop (mkF m 109 #[.val (.long pj0), .second, .val (.long pj1), .second, .val (.int pi2), .val (.int pi3), .val (.ref b1), .val (.int (1 : Int32)), .val (.int (1 : Int32))] [])) _
        refine XS.iload X38.here hx rfl (hb hby at_109) rfl ?_
        show Steps p.tables e below (T38.setTop (mkF m 111 #[.val (.long pj0), .second, .val (.long pj1), .second, .val (.int pi2), .val (.int pi3), .val (.ref b1), .val (.int (1 : Int32)), .val (.int (1 : Int32))] [(.int pi3)])) _
        refine XS.iconst X38.here hx rfl (hb hby at_111) ?_
        show Steps p.tables e below (T38.setTop (mkF m 112 #[.val (.long pj0), .second, .val (.long pj1), .second, .val (.int pi2), .val (.int pi3), .val (.ref b1), .val (.int (1 : Int32)), .val (.int (1 : Int32))] [(.int (2 : Int32)), (.int pi3)])) _
        refine XS.iand X38.here hx rfl (hb hby at_112) rfl ?_
        show Steps p.tables e below (T38.setTop (mkF m 113 #[.val (.long pj0), .second, .val (.long pj1), .second, .val (.int pi2), .val (.int pi3), .val (.ref b1), .val (.int (1 : Int32)), .val (.int (1 : Int32))] [(.int (pi3 &&& (2 : Int32)))])) _
        exact kt
      by_cases hc40 : (pi3 &&& (2 : Int32)) = (0 : Int32)
      · skip
        have Xm41 := own_mono X38 (k' := 5) (j' := 32) (by decide) (by decide)
        have go43 : ∀ t, Steps p.tables e below (T38.setTop (mkF m 142 #[.val (.long pj0), .second, .val (.long pj1), .second, .val (.int pi2), .val (.int pi3), .val (.ref b1), .val (.int (1 : Int32)), .val (.int (1 : Int32))] [])) t → Steps p.tables e below st0 t := by
          intro t kt
          refine go39 t ?_
          refine XS.ifYes X38.here hx rfl (pc0 := 113) (pc' := 142) rfl (hb hby at_113) rfl ((if0 _ _).trans (teq hc40).1) (by decide) (by decide) ?_
          show Steps p.tables e below (T38.setTop (mkF m 142 #[.val (.long pj0), .second, .val (.long pj1), .second, .val (.int pi2), .val (.int pi3), .val (.ref b1), .val (.int (1 : Int32)), .val (.int (1 : Int32))] [])) _
          exact kt
        obtain ⟨s₂, o₂, hs₂, hr₂⟩ := own_tail142 pj0 pj1 pi2 pi3 b1 (1 : Int32) (1 : Int32) (0 : Int32) Xm41 hx hZ hw hby hml hown e38 N38 Z37 Bd.returns (BodyLoose.notSynchronized Bd) p37_0 p37_2 p37_3 ge1
        exact ⟨s₂, o₂, go43 _ hs₂, hr₂⟩
      · skip
        obtain ⟨cq44, kq44, q44a, q44b, q44c⟩ := isOf hZ e38 p37_0
        obtain ⟨_, _, ⟨T44, L44, k44, n44⟩, -, X44, ⟨Lc44, hQ44, l44, y44, z44⟩, st44⟩ := X38.virtualBack hx (y := (⟨"com/example/kalends/kalends/engine/LongList", "add", "(J)V"⟩ : MethodName)) (z := (⟨"com/example/kalends/kalends/engine/LongList", "add", "(J)V"⟩ : MethodName)) hown (mvT hZ (hw _ (List.mem_of_getElem? (i := 31) rfl))) (mvT hZ (hw _ (List.mem_of_getElem? (i := 32) rfl))) (notFace_of_selects (args := #[]) (mvT hZ (hw _ (List.mem_of_getElem? (i := 34) rfl)))) (mvT hZ (hw _ (List.mem_of_getElem? (i := 34) rfl))) (mvT hZ (hw _ (List.mem_of_getElem? (i := 33) rfl))) (by decide) (backOf (W := 0) (own_addV1 l Z a0 hw [] b1 pj1 b37_0 y37_0 y37_1 T37.heap n0 Z37 p37_0 p37_1 p37_2 p37_3 p37_4 p37_5 (Ne.symm ne_b37_0_b1) ge_b37_0 ge1) hZ (hw _ (List.mem_of_getElem? (i := 35) rfl)) (hw _ (List.mem_of_getElem? (i := 2) rfl)) (by decide) (by decide)) q44a q44c (g := (mkF m 119 #[.val (.long pj0), .second, .val (.long pj1), .second, .val (.int pi2), .val (.int pi3), .val (.ref b1), .val (.int (1 : Int32)), .val (.int (1 : Int32))] [(.long pj1), (.ref b1)])) rfl (by rw [hml]; rfl) (Steps.refl _) (argsL := [(.long pj1)]) (rest := []) (lenOf pd_17 rfl) rfl (by show 2 * 0 + _ ≤ _; exact Nat.le_of_eq rfl) (hb hby at_119) (fun _ _ => ⟨rfl, e38, (by decide : 2 + 0 ≤ _), (by decide : 13 + 0 ≤ _)⟩)
        dsimp only [Pt.U, Pt.locs, Pt.cells, Pt.slots] at X44 l44 y44 z44 st44 hQ44
        subst l44 y44 z44
        obtain ⟨Nq44, y44_0, rfl, Kc44, p44_0, p44_1, p44_2, p44_3, p44_4, p44_5⟩ := hQ44
        have N44 := Fr.app N38 Nq44
        have Z44 : n0 ≤ T44.heap.size := Nat.le_trans Z37 Kc44.1
        obtain ⟨cq45, kq45, q45a, q45b, q45c⟩ := isOf hZ rfl p44_0
        obtain ⟨_, _, ⟨T45, L45, k45, n45⟩, -, X45, ⟨Lc45, hQ45, l45, y45, z45⟩, st45⟩ := X44.virtualBack hx (y := (⟨"com/example/kalends/kalends/engine/LongList", "isEmpty", "()Z"⟩ : MethodName)) (z := (⟨"com/example/kalends/kalends/engine/LongList", "isEmpty", "()Z"⟩ : MethodName)) hown (mvT hZ (hw _ (List.mem_of_getElem? (i := 13) rfl))) (mvT hZ (hw _ (List.mem_of_getElem? (i := 14) rfl))) (notFace_of_selects (args := #[]) (mvT hZ (hw _ (List.mem_of_getElem? (i := 16) rfl)))) (mvT hZ (hw _ (List.mem_of_getElem? (i := 16) rfl))) (mvT hZ (hw _ (List.mem_of_getElem? (i := 15) rfl))) (by decide) (backOf (W := 0) (own_empty_t l Z a0 hw [] b1 (2 : Int32) T44.heap n0 Z44 p44_2 (by decide : ¬ ((2 : Int32) = (0 : Int32)))) hZ (hw _ (List.mem_of_getElem? (i := 17) rfl)) (hw _ (List.mem_of_getElem? (i := 2) rfl)) (by decide) (by decide)) q45a q45c (g := (mkF m 129 #[.val (.long pj0), .second, .val (.long pj1), .second, .val (.int pi2), .val (.int pi3), .val (.ref b1), .val (.int (1 : Int32)), .val (.int (1 : Int32))] [(.ref b1)])) rfl (by rw [hml]; rfl) (Steps.refl _) (argsL := []) (rest := []) (lenOf pd_16 rfl) rfl (by show 2 * 0 + _ ≤ _; exact Nat.le_of_eq rfl) (hb hby at_129) (fun _ _ => ⟨rfl, rfl, (by decide : 2 + 0 ≤ _), (by decide : 13 + 0 ≤ _)⟩)
        dsimp only [Pt.U, Pt.locs, Pt.cells, Pt.slots] at X45 l45 y45 z45 st45 hQ45
        subst l45 y45 z45
        obtain ⟨rfl, Nq45, e45⟩ := hQ45
        have N45 := Fr.app N44 Nq45
        have Xm46 := own_mono X45 (k' := 5) (j' := 32) (by decide) (by decide)
        have go48 : ∀ t, Steps p.tables e below (T45.setTop (mkF m 142 #[.val (.long pj0), .second, .val (.long pj1), .second, .val (.int pi2), .val (.int pi3), .val (.ref b1), .val (.int (1 : Int32)), .val (.int (1 : Int32))] [])) t → Steps p.tables e below st0 t := by
          intro t kt
          refine go39 t ?_
          refine XS.ifNo X38.here hx rfl (hb hby at_113) rfl ((if0 _ _).trans (feq hc40).1) ?_
          show Steps p.tables e below (T38.setTop (mkF m 116 #[.val (.long pj0), .second, .val (.long pj1), .second, .val (.int pi2), .val (.int pi3), .val (.ref b1), .val (.int (1 : Int32)), .val (.int (1 : Int32))] [])) _
          refine XS.aload X38.here hx rfl (hb hby at_116) rfl rfl ?_
          show Steps p.tables e below (T38.setTop (mkF m 118 #[.val (.long pj0), .second, .val (.long pj1), .second, .val (.int pi2), .val (.int pi3), .val (.ref b1), .val (.int (1 : Int32)), .val (.int (1 : Int32))] [(.ref b1)])) _
          refine XS.lloadN X38.here hx rfl (hb hby at_118) rfl ?_
          show Steps p.tables e below (T38.setTop (mkF m 119 #[.val (.long pj0), .second, .val (.long pj1), .second, .val (.int pi2), .val (.int pi3), .val (.ref b1), .val (.int (1 : Int32)), .val (.int (1 : Int32))] [(.long pj1), (.ref b1)])) _
          refine st44.trans ?_
          show Steps p.tables e below (T44.setTop (mkF m 122 #[.val (.long pj0), .second, .val (.long pj1), .second, .val (.int pi2), .val (.int pi3), .val (.ref b1), .val (.int (1 : Int32)), .val (.int (1 : Int32))] [])) _
          refine XS.iload X44.here hx rfl (hb hby at_122) rfl ?_
          show Steps p.tables e below (T44.setTop (mkF m 124 #[.val (.long pj0), .second, .val (.long pj1), .second, .val (.int pi2), .val (.int pi3), .val (.ref b1), .val (.int (1 : Int32)), .val (.int (1 : Int32))] [(.int (1 : Int32))])) _
          refine XS.ifNo X44.here hx rfl (hb hby at_124) rfl ((if0 _ _).trans (feq (by decide : ¬ ((1 : Int32) = (0 : Int32)))).1) ?_
          show Steps p.tables e below (T44.setTop (mkF m 127 #[.val (.long pj0), .second, .val (.long pj1), .second, .val (.int pi2), .val (.int pi3), .val (.ref b1), .val (.int (1 : Int32)), .val (.int (1 : Int32))] [])) _
          refine XS.aload X44.here hx rfl (hb hby at_127) rfl rfl ?_
          show Steps p.tables e below (T44.setTop (mkF m 129 #[.val (.long pj0), .second, .val (.long pj1), .second, .val (.int pi2), .val (.int pi3), .val (.ref b1), .val (.int (1 : Int32)), .val (.int (1 : Int32))] [(.ref b1)])) _
          refine st45.trans ?_
          show Steps p.tables e below (T45.setTop (mkF m 132 #[.val (.long pj0), .second, .val (.long pj1), .second, .val (.int pi2), .val (.int pi3), .val (.ref b1), .val (.int (1 : Int32)), .val (.int (1 : Int32))] [(.int (0 : Int32))])) _
          refine XS.ifNo X45.here hx rfl (hb hby at_132) rfl ((if0 _ _).trans (teq (by decide : (0 : Int32) = (0 : Int32))).2) ?_
          show Steps p.tables e below (T45.setTop (mkF m 135 #[.val (.long pj0), .second, .val (.long pj1), .second, .val (.int pi2), .val (.int pi3), .val (.ref b1), .val (.int (1 : Int32)), .val (.int (1 : Int32))] [])) _
          refine XS.iconst X45.here hx rfl (hb hby at_135) ?_
          show Steps p.tables e below (T45.setTop (mkF m 136 #[.val (.long pj0), .second, .val (.long pj1), .second, .val (.int pi2), .val (.int pi3), .val (.ref b1), .val (.int (1 : Int32)), .val (.int (1 : Int32))] [(.int (1 : Int32))])) _
          refine XS.goto X45.here hx rfl (pc0 := 136) (pc' := 140) rfl (hb hby at_136) (by decide) (by decide) ?_
          show Steps p.tables e below (T45.setTop (mkF m 140 #[.val (.long pj0), .second, .val (.long pj1), .second, .val (.int pi2), .val (.int pi3), .val (.ref b1), .val (.int (1 : Int32)), .val (.int (1 : Int32))] [(.int (1 : Int32))])) _
          refine XS.istore X45.here hx rfl (hb hby at_140) rfl (l' := #[.val (.long pj0), .second, .val (.long pj1), .second, .val (.int pi2), .val (.int pi3), .val (.ref b1), .val (.int (1 : Int32)), .val (.int (1 : Int32))]) rfl ?_
          show Steps p.tables e below (T45.setTop (mkF m 142 #[.val (.long pj0), .second, .val (.long pj1), .second, .val (.int pi2), .val (.int pi3), .val (.ref b1), .val (.int (1 : Int32)), .val (.int (1 : Int32))] [])) _
          exact kt
        obtain ⟨s₂, o₂, hs₂, hr₂⟩ := own_tail142 pj0 pj1 pi2 pi3 b1 (1 : Int32) (2 : Int32) (0 : Int32) Xm46 hx hZ hw hby hml hown e45 N45 Z44 Bd.returns (BodyLoose.notSynchronized Bd) p44_0 p44_2 p44_3 ge1
        exact ⟨s₂, o₂, go48 _ hs₂, hr₂⟩
    · skip
      obtain ⟨cq49, kq49, q49a, q49b, q49c⟩ := isOf hZ e4 p3_0
      obtain ⟨_, _, ⟨T49, L49, k49, n49⟩, -, X49, ⟨Lc49, hQ49, l49, y49, z49⟩, st49⟩ := X4.virtualBack hx (y := (⟨"com/example/kalends/kalends/engine/LongList", "addRun", "(JJI)V"⟩ : MethodName)) (z := (⟨"com/example/kalends/kalends/engine/LongList", "addRun", "(JJI)V"⟩ : MethodName)) hown (mvT hZ (hw _ (List.mem_of_getElem? (i := 20) rfl))) (mvT hZ (hw _ (List.mem_of_getElem? (i := 21) rfl))) (notFace_of_selects (args := #[]) (mvT hZ (hw _ (List.mem_of_getElem? (i := 23) rfl)))) (mvT hZ (hw _ (List.mem_of_getElem? (i := 23) rfl))) (mvT hZ (hw _ (List.mem_of_getElem? (i := 22) rfl))) (by decide) (backOf (W := 0) (own_addRun l Z a0 hw [] b1 pj0 pj1 (1 : Int32) nn T3.heap n0 Z3 p3_0 p3_1 p3_2 p3_3 p3_4 p3_5 ge1) hZ (hw _ (List.mem_of_getElem? (i := 24) rfl)) (hw _ (List.mem_of_getElem? (i := 2) rfl)) (by decide) (by decide)) q49a q49c (g := (mkF m 35 #[.val (.long pj0), .second, .val (.long pj1), .second, .val (.int pi2), .val (.int pi3), .val (.ref b1), .val (.int (1 : Int32)), .val (.int (1 : Int32))] [(.int (1 : Int32)), (.long pj1), (.long pj0), (.ref b1)])) rfl (by rw [hml]; rfl) (Steps.refl _) (argsL := [(.long pj0), (.long pj1), (.int (1 : Int32))]) (rest := []) (lenOf pd_18 rfl) rfl (by show 2 * 0 + _ ≤ _; exact Nat.le_of_eq rfl) (hb hby at_35) (fun _ _ => ⟨rfl, e4, (by decide : 1 + 0 ≤ _), (by decide : 5 + 0 ≤ _)⟩)
      dsimp only [Pt.U, Pt.locs, Pt.cells, Pt.slots] at X49 l49 y49 z49 st49 hQ49
      subst l49 y49 z49
      obtain ⟨Nq49, rfl, Kc49, p49_0, p49_1, p49_2, p49_3, p49_4, p49_5⟩ := hQ49
      have N49 := Fr.app N4 Nq49
      have Z49 : n0 ≤ T49.heap.size := Nat.le_trans Z3 Kc49.1
      obtain ⟨cq50, kq50, q50a, q50b, q50c⟩ := isOf hZ rfl p49_0
      obtain ⟨_, _, ⟨T50, L50, k50, n50⟩, -, X50, ⟨Lc50, hQ50, l50, y50, z50⟩, st50⟩ := X49.virtualBack hx (y := (⟨"com/example/kalends/kalends/engine/LongList", "isEmpty", "()Z"⟩ : MethodName)) (z := (⟨"com/example/kalends/kalends/engine/LongList", "isEmpty", "()Z"⟩ : MethodName)) hown (mvT hZ (hw _ (List.mem_of_getElem? (i := 13) rfl))) (mvT hZ (hw _ (List.mem_of_getElem? (i := 14) rfl))) (notFace_of_selects (args := #[]) (mvT hZ (hw _ (List.mem_of_getElem? (i := 16) rfl)))) (mvT hZ (hw _ (List.mem_of_getElem? (i := 16) rfl))) (mvT hZ (hw _ (List.mem_of_getElem? (i := 15) rfl))) (by decide) (backOf (W := 0) (own_empty_t l Z a0 hw [] b1 (1 : Int32) T49.heap n0 Z49 p49_2 (by decide : ¬ ((1 : Int32) = (0 : Int32)))) hZ (hw _ (List.mem_of_getElem? (i := 17) rfl)) (hw _ (List.mem_of_getElem? (i := 2) rfl)) (by decide) (by decide)) q50a q50c (g := (mkF m 86 #[.val (.long pj0), .second, .val (.long pj1), .second, .val (.int pi2), .val (.int pi3), .val (.ref b1), .val (.int (1 : Int32)), .val (.int (1 : Int32))] [(.ref b1)])) rfl (by rw [hml]; rfl) (Steps.refl _) (argsL := []) (rest := []) (lenOf pd_16 rfl) rfl (by show 2 * 0 + _ ≤ _; exact Nat.le_of_eq rfl) (hb hby at_86) (fun _ _ => ⟨rfl, rfl, (by decide : 1 + 0 ≤ _), (by decide : 5 + 0 ≤ _)⟩)
      dsimp only [Pt.U, Pt.locs, Pt.cells, Pt.slots] at X50 l50 y50 z50 st50 hQ50
      subst l50 y50 z50
      obtain ⟨rfl, Nq50, e50⟩ := hQ50
      have N50 := Fr.app N49 Nq50
      have go51 : ∀ t, Steps p.tables e below (T50.setTop (mkF m 113 #[.val (.long pj0), .second, .val (.long pj1), .second, .val (.int pi2), .val (.int pi3), .val (.ref b1), .val (.int (1 : Int32)), .val (.int (1 : Int32))] [(.int (pi3 &&& (2 : Int32)))])) t → Steps p.tables e below st0 t := by
        intro t kt
        refine go34 t ?_
        refine XS.ifNo X4.here hx rfl (hb hby at_26) rfl ((if0 _ _).trans (feq hc35).1) ?_
        show Steps p.tables e below (T4.setTop (mkF m 29 #[.val (.long pj0), .second, .val (.long pj1), .second, .val (.int pi2), .val (.int pi3), .val (.ref b1), .val (.int (1 : Int32)), .val (.int (1 : Int32))] [])) _
        refine XS.aload X4.here hx rfl (hb hby at_29) rfl rfl ?_
        show Steps p.tables e below (T4.setTop (mkF m 31 #[.val (.long pj0), .second, .val (.long pj1), .second, .val (.int pi2), .val (.int pi3), .val (.ref b1), .val (.int (1 : Int32)), .val (.int (1 : Int32))] [(.ref b1)])) _
        refine XS.lloadN X4.here hx rfl (hb hby at_31) rfl ?_
        show Steps p.tables e below (T4.setTop (mkF m 32 #[.val (.long pj0), .second, .val (.long pj1), .second, .val (.int pi2), .val (.int pi3), .val (.ref b1), .val (.int (1 : Int32)), .val (.int (1 : Int32))] [(.long pj0), (.ref b1)])) _
        refine XS.lloadN X4.here hx rfl (hb hby at_32) rfl ?_
        show Steps p.tables e below (T4.setTop (mkF m 33 #[.val (.long pj0), .second, .val (.long pj1), .second, .val (.int pi2), .val (.int pi3), .val (.ref b1), .val (.int (1 : Int32)), .val (.int (1 : Int32))] [(.long pj1), (.long pj0), (.ref b1)])) _
        refine XS.iload X4.here hx rfl (hb hby at_33) rfl ?_
        show Steps p.tables e below (T4.setTop (mkF m 35 #[.val (.long pj0), .second, .val (.long pj1), .second, .val (.int pi2), .val (.int pi3), .val (.ref b1), .val (.int (1 : Int32)), .val (.int (1 : Int32))] [(.int (1 : Int32)), (.long pj1), (.long pj0), (.ref b1)])) _
        refine st49.trans ?_
        show Steps p.tables e below (T49.setTop (mkF m 38 #[.val (.long pj0), .second, .val (.long pj1), .second, .val (.int pi2), .val (.int pi3), .val (.ref b1), .val (.int (1 : Int32)), .val (.int (1 : Int32))] [])) _
        refine XS.goto X49.here hx rfl (pc0 := 38) (pc' := 79) rfl (hb hby at_38) (by decide) (by decide) ?_
        show Steps p.tables e below (T49.setTop (mkF m 79 #[.val (.long pj0), .second, .val (.long pj1), .second, .val (.int pi2), .val (.int pi3), .val (.ref b1), .val (.int (1 : Int32)), .val (.int (1 : Int32))] [])) _
        refine XS.iload X49.here hx rfl (hb hby at_79) rfl ?_
        show Steps p.tables e below (T49.setTop (mkF m 81 #[.val (.long pj0), .second, .val (.long pj1), .second, .val (.int pi2), .val (.int pi3), .val (.ref b1), .val (.int (1 : Int32)), .val (.int (1 : Int32))] [(.int (1 : Int32))])) _
        refine XS.ifNo X49.here hx rfl (hb hby at_81) rfl ((if0 _ _).trans (feq (by decide : ¬ ((1 : Int32) = (0 : Int32)))).1) ?_
        show Steps p.tables e below (T49.setTop (mkF m 84 #[.val (.long pj0), .second, .val (.long pj1), .second, .val (.int pi2), .val (.int pi3), .val (.ref b1), .val (.int (1 : Int32)), .val (.int (1 : Int32))] [])) _
        refine XS.aload X49.here hx rfl (hb hby at_84) rfl rfl ?_
        show Steps p.tables e below (T49.setTop (mkF m 86 #[.val (.long pj0), .second, .val (.long pj1), .second, .val (.int pi2), .val (.int pi3), .val (.ref b1), .val (.int (1 : Int32)), .val (.int (1 : Int32))] [(.ref b1)])) _
        refine st50.trans ?_
        show Steps p.tables e below (T50.setTop (mkF m 89 #[.val (.long pj0), .second, .val (.long pj1), .second, .val (.int pi2), .val (.int pi3), .val (.ref b1), .val (.int (1 : Int32)), .val (.int (1 : Int32))] [(.int (0 : Int32))])) _
        refine XS.iload X50.here hx rfl (hb hby at_89) rfl ?_
        show Steps p.tables e below (T50.setTop (mkF m 91 #[.val (.long pj0), .second, .val (.long pj1), .second, .val (.int pi2), .val (.int pi3), .val (.ref b1), .val (.int (1 : Int32)), .val (.int (1 : Int32))] [(.int (1 : Int32)), (.int (0 : Int32))])) _
        refine XS.ifYes X50.here hx rfl (pc0 := 91) (pc' := 98) rfl (hb hby at_91) rfl ((if0 _ _).trans (feq (by decide : ¬ ((1 : Int32) = (0 : Int32)))).2) (by decide) (by decide) ?_
        show Steps p.tables e below (T50.setTop (mkF m 98 #[.val (.long pj0), .second, .val (.long pj1), .second, .val (.int pi2), .val (.int pi3), .val (.ref b1), .val (.int (1 : Int32)), .val (.int (1 : Int32))] [(.int (0 : Int32))])) _
        refine XS.iconst X50.here hx rfl (hb hby at_98) ?_
        show Steps p.tables e below (T50.setTop (mkF m 99 #[.val (.long pj0), .second, .val (.long pj1), .second, .val (.int pi2), .val (.int pi3), .val (.ref b1), .val (.int (1 : Int32)), .val (.int (1 : Int32))] [(.int (0 : Int32)), (.int (0 : Int32))])) _
        refine XS.icmpNo X50.here hx rfl (hb hby at_99) rfl (teq (by decide : (0 : Int32) = (0 : Int32))).2 ?_
        show Steps p.tables e below (T50.setTop (mkF m 102 #[.val (.long pj0), .second, .val (.long pj1), .second, .val (.int pi2), .val (.int pi3), .val (.ref b1), .val (.int (1 : Int32)), .val (.int (1 : Int32))] [])) _
        refine XS.iconst X50.here hx rfl (hb hby at_102) ?_
        show Steps p.tables e below (T50.setTop (mkF m 103 #[.val (.long pj0), .second, .val (.long pj1), .second, .val (.int pi2), .val (.int pi3), .val (.ref b1), .val (.int (1 : Int32)), .val (.int (1 : Int32))] [(.int (1 : Int32))])) _
        refine XS.goto X50.here hx rfl (pc0 := 103) (pc' := 107) rfl (hb hby at_103) (by decide) (by decide) ?_
        show Steps p.tables e below (T50.setTop (mkF m 107 #[.val (.long pj0), .second, .val (.long pj1), .second, .val (.int pi2), .val (.int pi3), .val (.ref b1), .val (.int (1 : Int32)), .val (.int (1 : Int32))] [(.int (1 : Int32))])) _
        refine XS.istore X50.here hx rfl (hb hby at_107) rfl (l' := #[.val (.long pj0), .second, .val (.long pj1), .second, .val (.int pi2), .val (.int pi3), .val (.ref b1), .val (.int (1 : Int32)), .val (.int (1 : Int32))]) rfl ?_
        show Steps p.tables e below (T50.setTop (mkF m 109 #[.val (.long pj0), .second, .val (.long pj1), .second, .val (.int pi2), .val (.int pi3), .val (.ref b1), .val (.int (1 : Int32)), .val (.int (1 : Int32))] [])) _
        refine XS.iload X50.here hx rfl (hb hby at_109) rfl ?_
        show Steps p.tables e below (T50.setTop (mkF m 111 #[.val (.long pj0), .second, .val (.long pj1), .second, .val (.int pi2), .val (.int pi3), .val (.ref b1), .val (.int (1 : Int32)), .val (.int (1 : Int32))] [(.int pi3)])) _
        refine XS.iconst X50.here hx rfl (hb hby at_111) ?_
        show Steps p.tables e below (T50.setTop (mkF m 112 #[.val (.long pj0), .second, .val (.long pj1), .second, .val (.int pi2), .val (.int pi3), .val (.ref b1), .val (.int (1 : Int32)), .val (.int (1 : Int32))] [(.int (2 : Int32)), (.int pi3)])) _
        refine XS.iand X50.here hx rfl (hb hby at_112) rfl ?_
        show Steps p.tables e below (T50.setTop (mkF m 113 #[.val (.long pj0), .second, .val (.long pj1), .second, .val (.int pi2), .val (.int pi3), .val (.ref b1), .val (.int (1 : Int32)), .val (.int (1 : Int32))] [(.int (pi3 &&& (2 : Int32)))])) _
        exact kt
      by_cases hc52 : (pi3 &&& (2 : Int32)) = (0 : Int32)
      · skip
        have Xm53 := own_mono X50 (k' := 5) (j' := 32) (by decide) (by decide)
        have go55 : ∀ t, Steps p.tables e below (T50.setTop (mkF m 142 #[.val (.long pj0), .second, .val (.long pj1), .second, .val (.int pi2), .val (.int pi3), .val (.ref b1), .val (.int (1 : Int32)), .val (.int (1 : Int32))] [])) t → Steps p.tables e below st0 t := by
          intro t kt
          refine go51 t ?_
          refine XS.ifYes X50.here hx rfl (pc0 := 113) (pc' := 142) rfl (hb hby at_113) rfl ((if0 _ _).trans (teq hc52).1) (by decide) (by decide) ?_
          show Steps p.tables e below (T50.setTop (mkF m 142 #[.val (.long pj0), .second, .val (.long pj1), .second, .val (.int pi2), .val (.int pi3), .val (.ref b1), .val (.int (1 : Int32)), .val (.int (1 : Int32))] [])) _
          exact kt
        obtain ⟨s₂, o₂, hs₂, hr₂⟩ := own_tail142 pj0 pj1 pi2 pi3 b1 (1 : Int32) (1 : Int32) (1 : Int32) Xm53 hx hZ hw hby hml hown e50 N50 Z49 Bd.returns (BodyLoose.notSynchronized Bd) p49_0 p49_2 p49_3 ge1
        exact ⟨s₂, o₂, go55 _ hs₂, hr₂⟩
      · skip
        have f56 : Arv Z T49.heap nn ka .long (0 : Int32) [] (.long (0 : Int64)) := (((P1.ext E1).keep Kc3 (ninS ne1_nn nin0)).keep Kc49 (ninS ne1_nn nin0))
        obtain ⟨cq57, kq57, q57a, q57b, q57c⟩ := isOf hZ e50 p49_0
        obtain ⟨_, _, ⟨T57, L57, k57, n57⟩, -, X57, ⟨Lc57, hQ57, l57, y57, z57⟩, st57⟩ := X50.virtualBack hx (y := (⟨"com/example/kalends/kalends/engine/LongList", "add", "(J)V"⟩ : MethodName)) (z := (⟨"com/example/kalends/kalends/engine/LongList", "add", "(J)V"⟩ : MethodName)) hown (mvT hZ (hw _ (List.mem_of_getElem? (i := 31) rfl))) (mvT hZ (hw _ (List.mem_of_getElem? (i := 32) rfl))) (notFace_of_selects (args := #[]) (mvT hZ (hw _ (List.mem_of_getElem? (i := 34) rfl)))) (mvT hZ (hw _ (List.mem_of_getElem? (i := 34) rfl))) (mvT hZ (hw _ (List.mem_of_getElem? (i := 33) rfl))) (by decide) (backOf (W := 0) (own_addR1 l Z a0 hw [] b1 pj1 nn ka pj0 pj1 T49.heap n0 Z49 p49_0 p49_1 p49_2 p49_3 p49_4 p49_5 f56 ne1_nn ge1) hZ (hw _ (List.mem_of_getElem? (i := 35) rfl)) (hw _ (List.mem_of_getElem? (i := 2) rfl)) (by decide) (by decide)) q57a q57c (g := (mkF m 119 #[.val (.long pj0), .second, .val (.long pj1), .second, .val (.int pi2), .val (.int pi3), .val (.ref b1), .val (.int (1 : Int32)), .val (.int (1 : Int32))] [(.long pj1), (.ref b1)])) rfl (by rw [hml]; rfl) (Steps.refl _) (argsL := [(.long pj1)]) (rest := []) (lenOf pd_17 rfl) rfl (by show 2 * 0 + _ ≤ _; exact Nat.le_of_eq rfl) (hb hby at_119) (fun _ _ => ⟨rfl, e50, (by decide : 1 + 1 ≤ _), (by decide : 5 + 8 ≤ _)⟩)
        dsimp only [Pt.U, Pt.locs, Pt.cells, Pt.slots] at X57 l57 y57 z57 st57 hQ57
        subst l57 y57 z57
        obtain ⟨Nq57, b57_0, y57_0, y57_1, rfl, szb57_0, Kc57, p57_0, p57_1, p57_2, p57_3, p57_4, p57_5⟩ := hQ57
        have N57 := Fr.app N50 Nq57
        have ne_b57_0_b1 : b1 ≠ b57_0 := Nat.ne_of_lt (Nat.lt_of_lt_of_le p49_0.lt szb57_0)
        have ne_b57_0_nn : nn ≠ b57_0 := Nat.ne_of_lt (Nat.lt_of_lt_of_le f56.lt szb57_0)
        have ge_b57_0 : n0 ≤ b57_0 := Nat.le_trans Z49 szb57_0
        have Z57 : n0 ≤ T57.heap.size := Nat.le_trans Z49 Kc57.1
        obtain ⟨cq58, kq58, q58a, q58b, q58c⟩ := isOf hZ rfl p57_0
        obtain ⟨_, _, ⟨T58, L58, k58, n58⟩, -, X58, ⟨Lc58, hQ58, l58, y58, z58⟩, st58⟩ := X57.virtualBack hx (y := (⟨"com/example/kalends/kalends/engine/LongList", "isEmpty", "()Z"⟩ : MethodName)) (z := (⟨"com/example/kalends/kalends/engine/LongList", "isEmpty", "()Z"⟩ : MethodName)) hown (mvT hZ (hw _ (List.mem_of_getElem? (i := 13) rfl))) (mvT hZ (hw _ (List.mem_of_getElem? (i := 14) rfl))) (notFace_of_selects (args := #[]) (mvT hZ (hw _ (List.mem_of_getElem? (i := 16) rfl)))) (mvT hZ (hw _ (List.mem_of_getElem? (i := 16) rfl))) (mvT hZ (hw _ (List.mem_of_getElem? (i := 15) rfl))) (by decide) (backOf (W := 0) (own_empty_t l Z a0 hw [] b1 (2 : Int32) T57.heap n0 Z57 p57_2 (by decide : ¬ ((2 : Int32) = (0 : Int32)))) hZ (hw _ (List.mem_of_getElem? (i := 17) rfl)) (hw _ (List.mem_of_getElem? (i := 2) rfl)) (by decide) (by decide)) q58a q58c (g := (mkF m 129 #[.val (.long pj0), .second, .val (.long pj1), .second, .val (.int pi2), .val (.int pi3), .val (.ref b1), .val (.int (1 : Int32)), .val (.int (1 : Int32))] [(.ref b1)])) rfl (by rw [hml]; rfl) (Steps.refl _) (argsL := []) (rest := []) (lenOf pd_16 rfl) rfl (by show 2 * 0 + _ ≤ _; exact Nat.le_of_eq rfl) (hb hby at_129) (fun _ _ => ⟨rfl, rfl, (by decide : 2 + 0 ≤ _), (by decide : 13 + 0 ≤ _)⟩)
        dsimp only [Pt.U, Pt.locs, Pt.cells, Pt.slots] at X58 l58 y58 z58 st58 hQ58
        subst l58 y58 z58
        obtain ⟨rfl, Nq58, e58⟩ := hQ58
        have N58 := Fr.app N57 Nq58
        have Xm59 := own_mono X58 (k' := 5) (j' := 32) (by decide) (by decide)
        have go61 : ∀ t, Steps p.tables e below (T58.setTop (mkF m 142 #[.val (.long pj0), .second, .val (.long pj1), .second, .val (.int pi2), .val (.int pi3), .val (.ref b1), .val (.int (1 : Int32)), .val (.int (1 : Int32))] [])) t → Steps p.tables e below st0 t := by
          intro t kt
          refine go51 t ?_
          refine XS.ifNo X50.here hx rfl (hb hby at_113) rfl ((if0 _ _).trans (feq hc52).1) ?_
          show Steps p.tables e below (T50.setTop (mkF m 116 #[.val (.long pj0), .second, .val (.long pj1), .second, .val (.int pi2), .val (.int pi3), .val (.ref b1), .val (.int (1 : Int32)), .val (.int (1 : Int32))] [])) _
          refine XS.aload X50.here hx rfl (hb hby at_116) rfl rfl ?_
          show Steps p.tables e below (T50.setTop (mkF m 118 #[.val (.long pj0), .second, .val (.long pj1), .second, .val (.int pi2), .val (.int pi3), .val (.ref b1), .val (.int (1 : Int32)), .val (.int (1 : Int32))] [(.ref b1)])) _
          refine XS.lloadN X50.here hx rfl (hb hby at_118) rfl ?_
          show Steps p.tables e below (T50.setTop (mkF m 119 #[.val (.long pj0), .second, .val (.long pj1), .second, .val (.int pi2), .val (.int pi3), .val (.ref b1), .val (.int (1 : Int32)), .val (.int (1 : Int32))] [(.long pj1), (.ref b1)])) _
          refine st57.trans ?_
          show Steps p.tables e below (T57.setTop (mkF m 122 #[.val (.long pj0), .second, .val (.long pj1), .second, .val (.int pi2), .val (.int pi3), .val (.ref b1), .val (.int (1 : Int32)), .val (.int (1 : Int32))] [])) _
          refine XS.iload X57.here hx rfl (hb hby at_122) rfl ?_
          show Steps p.tables e below (T57.setTop (mkF m 124 #[.val (.long pj0), .second, .val (.long pj1), .second, .val (.int pi2), .val (.int pi3), .val (.ref b1), .val (.int (1 : Int32)), .val (.int (1 : Int32))] [(.int (1 : Int32))])) _
          refine XS.ifNo X57.here hx rfl (hb hby at_124) rfl ((if0 _ _).trans (feq (by decide : ¬ ((1 : Int32) = (0 : Int32)))).1) ?_
          show Steps p.tables e below (T57.setTop (mkF m 127 #[.val (.long pj0), .second, .val (.long pj1), .second, .val (.int pi2), .val (.int pi3), .val (.ref b1), .val (.int (1 : Int32)), .val (.int (1 : Int32))] [])) _
          refine XS.aload X57.here hx rfl (hb hby at_127) rfl rfl ?_
          show Steps p.tables e below (T57.setTop (mkF m 129 #[.val (.long pj0), .second, .val (.long pj1), .second, .val (.int pi2), .val (.int pi3), .val (.ref b1), .val (.int (1 : Int32)), .val (.int (1 : Int32))] [(.ref b1)])) _
          refine st58.trans ?_
          show Steps p.tables e below (T58.setTop (mkF m 132 #[.val (.long pj0), .second, .val (.long pj1), .second, .val (.int pi2), .val (.int pi3), .val (.ref b1), .val (.int (1 : Int32)), .val (.int (1 : Int32))] [(.int (0 : Int32))])) _
          refine XS.ifNo X58.here hx rfl (hb hby at_132) rfl ((if0 _ _).trans (teq (by decide : (0 : Int32) = (0 : Int32))).2) ?_
          show Steps p.tables e below (T58.setTop (mkF m 135 #[.val (.long pj0), .second, .val (.long pj1), .second, .val (.int pi2), .val (.int pi3), .val (.ref b1), .val (.int (1 : Int32)), .val (.int (1 : Int32))] [])) _
          refine XS.iconst X58.here hx rfl (hb hby at_135) ?_
          show Steps p.tables e below (T58.setTop (mkF m 136 #[.val (.long pj0), .second, .val (.long pj1), .second, .val (.int pi2), .val (.int pi3), .val (.ref b1), .val (.int (1 : Int32)), .val (.int (1 : Int32))] [(.int (1 : Int32))])) _
          refine XS.goto X58.here hx rfl (pc0 := 136) (pc' := 140) rfl (hb hby at_136) (by decide) (by decide) ?_
          show Steps p.tables e below (T58.setTop (mkF m 140 #[.val (.long pj0), .second, .val (.long pj1), .second, .val (.int pi2), .val (.int pi3), .val (.ref b1), .val (.int (1 : Int32)), .val (.int (1 : Int32))] [(.int (1 : Int32))])) _
          refine XS.istore X58.here hx rfl (hb hby at_140) rfl (l' := #[.val (.long pj0), .second, .val (.long pj1), .second, .val (.int pi2), .val (.int pi3), .val (.ref b1), .val (.int (1 : Int32)), .val (.int (1 : Int32))]) rfl ?_
          show Steps p.tables e below (T58.setTop (mkF m 142 #[.val (.long pj0), .second, .val (.long pj1), .second, .val (.int pi2), .val (.int pi3), .val (.ref b1), .val (.int (1 : Int32)), .val (.int (1 : Int32))] [])) _
          exact kt
        obtain ⟨s₂, o₂, hs₂, hr₂⟩ := own_tail142 pj0 pj1 pi2 pi3 b1 (1 : Int32) (2 : Int32) (0 : Int32) Xm59 hx hZ hw hby hml hown e58 N58 Z57 Bd.returns (BodyLoose.notSynchronized Bd) p57_0 p57_2 p57_3 ge1
        exact ⟨s₂, o₂, go61 _ hs₂, hr₂⟩
  · skip
    rw [hk6] at go5
    have go62 : ∀ t, Steps p.tables e below (T4.setTop (mkF m 26 #[.val (.long pj0), .second, .val (.long pj1), .second, .val (.int pi2), .val (.int pi3), .val (.ref b1), .val (.int (1 : Int32)), .val (.int (2 : Int32))] [(.int (pi3 &&& (1 : Int32)))])) t → Steps p.tables e below st0 t := by
      intro t kt
      refine go5 t ?_
      refine XS.iload X4.here hx rfl (hb hby at_22) rfl ?_
      show Steps p.tables e below (T4.setTop (mkF m 24 #[.val (.long pj0), .second, .val (.long pj1), .second, .val (.int pi2), .val (.int pi3), .val (.ref b1), .val (.int (1 : Int32)), .val (.int (2 : Int32))] [(.int pi3)])) _
      refine XS.iconst X4.here hx rfl (hb hby at_24) ?_
      show Steps p.tables e below (T4.setTop (mkF m 25 #[.val (.long pj0), .second, .val (.long pj1), .second, .val (.int pi2), .val (.int pi3), .val (.ref b1), .val (.int (1 : Int32)), .val (.int (2 : Int32))] [(.int (1 : Int32)), (.int pi3)])) _
      refine XS.iand X4.here hx rfl (hb hby at_25) rfl ?_
      show Steps p.tables e below (T4.setTop (mkF m 26 #[.val (.long pj0), .second, .val (.long pj1), .second, .val (.int pi2), .val (.int pi3), .val (.ref b1), .val (.int (1 : Int32)), .val (.int (2 : Int32))] [(.int (pi3 &&& (1 : Int32)))])) _
      exact kt
    by_cases hc63 : (pi3 &&& (1 : Int32)) = (0 : Int32)
    · skip
      have f64 : Arv Z T3.heap nn ka .long (0 : Int32) [] (.long (0 : Int64)) := ((P1.ext E1).keep Kc3 (ninS ne1_nn nin0))
      obtain ⟨cq65, kq65, q65a, q65b, q65c⟩ := isOf hZ e4 p3_0
      obtain ⟨_, _, ⟨T65, L65, k65, n65⟩, -, X65, ⟨Lc65, hQ65, l65, y65, z65⟩, st65⟩ := X4.virtualBack hx (y := (⟨"com/example/kalends/kalends/engine/LongList", "add", "(J)V"⟩ : MethodName)) (z := (⟨"com/example/kalends/kalends/engine/LongList", "add", "(J)V"⟩ : MethodName)) hown (mvT hZ (hw _ (List.mem_of_getElem? (i := 31) rfl))) (mvT hZ (hw _ (List.mem_of_getElem? (i := 32) rfl))) (notFace_of_selects (args := #[]) (mvT hZ (hw _ (List.mem_of_getElem? (i := 34) rfl)))) (mvT hZ (hw _ (List.mem_of_getElem? (i := 34) rfl))) (mvT hZ (hw _ (List.mem_of_getElem? (i := 33) rfl))) (by decide) (backOf (W := 0) (own_addN l Z a0 hw [] b1 pj0 nn ka (0 : Int64) (0 : Int64) T3.heap n0 Z3 p3_0 p3_1 p3_2 p3_3 p3_4 p3_5 f64 ne1_nn ge1) hZ (hw _ (List.mem_of_getElem? (i := 35) rfl)) (hw _ (List.mem_of_getElem? (i := 2) rfl)) (by decide) (by decide)) q65a q65c (g := (mkF m 50 #[.val (.long pj0), .second, .val (.long pj1), .second, .val (.int pi2), .val (.int pi3), .val (.ref b1), .val (.int (1 : Int32)), .val (.int (2 : Int32))] [(.long pj0), (.ref b1)])) rfl (by rw [hml]; rfl) (Steps.refl _) (argsL := [(.long pj0)]) (rest := []) (lenOf pd_17 rfl) rfl (by show 2 * 0 + _ ≤ _; exact Nat.le_of_eq rfl) (hb hby at_50) (fun _ _ => ⟨rfl, e4, (by decide : 1 + 1 ≤ _), (by decide : 5 + 8 ≤ _)⟩)
      dsimp only [Pt.U, Pt.locs, Pt.cells, Pt.slots] at X65 l65 y65 z65 st65 hQ65
      subst l65 y65 z65
      obtain ⟨Nq65, b65_0, y65_0, y65_1, rfl, szb65_0, Kc65, p65_0, p65_1, p65_2, p65_3, p65_4, p65_5⟩ := hQ65
      have N65 := Fr.app N4 Nq65
      have ne_b65_0_b1 : b1 ≠ b65_0 := Nat.ne_of_lt (Nat.lt_of_lt_of_le p3_0.lt szb65_0)
      have ne_b65_0_nn : nn ≠ b65_0 := Nat.ne_of_lt (Nat.lt_of_lt_of_le f64.lt szb65_0)
      have ge_b65_0 : n0 ≤ b65_0 := Nat.le_trans Z3 szb65_0
      have Z65 : n0 ≤ T65.heap.size := Nat.le_trans Z3 Kc65.1
      obtain ⟨cq66, kq66, q66a, q66b, q66c⟩ := isOf hZ rfl p65_0
      obtain ⟨_, _, ⟨T66, L66, k66, n66⟩, -, X66, ⟨Lc66, hQ66, l66, y66, z66⟩, st66⟩ := X65.virtualBack hx (y := (⟨"com/example/kalends/kalends/engine/LongList", "add", "(J)V"⟩ : MethodName)) (z := (⟨"com/example/kalends/kalends/engine/LongList", "add", "(J)V"⟩ : MethodName)) hown (mvT hZ (hw _ (List.mem_of_getElem? (i := 31) rfl))) (mvT hZ (hw _ (List.mem_of_getElem? (i := 32) rfl))) (notFace_of_selects (args := #[]) (mvT hZ (hw _ (List.mem_of_getElem? (i := 34) rfl)))) (mvT hZ (hw _ (List.mem_of_getElem? (i := 34) rfl))) (mvT hZ (hw _ (List.mem_of_getElem? (i := 33) rfl))) (by decide) (backOf (W := 0) (own_addV1 l Z a0 hw [] b1 pj1 b65_0 y65_0 y65_1 T65.heap n0 Z65 p65_0 p65_1 p65_2 p65_3 p65_4 p65_5 (Ne.symm ne_b65_0_b1) ge_b65_0 ge1) hZ (hw _ (List.mem_of_getElem? (i := 35) rfl)) (hw _ (List.mem_of_getElem? (i := 2) rfl)) (by decide) (by decide)) q66a q66c (g := (mkF m 62 #[.val (.long pj0), .second, .val (.long pj1), .second, .val (.int pi2), .val (.int pi3), .val (.ref b1), .val (.int (1 : Int32)), .val (.int (2 : Int32))] [(.long pj1), (.ref b1)])) rfl (by rw [hml]; rfl) (Steps.refl _) (argsL := [(.long pj1)]) (rest := []) (lenOf pd_17 rfl) rfl (by show 2 * 0 + _ ≤ _; exact Nat.le_of_eq rfl) (hb hby at_62) (fun _ _ => ⟨rfl, rfl, (by decide : 2 + 0 ≤ _), (by decide : 13 + 0 ≤ _)⟩)
      dsimp only [Pt.U, Pt.locs, Pt.cells, Pt.slots] at X66 l66 y66 z66 st66 hQ66
      subst l66 y66 z66
      obtain ⟨Nq66, y66_0, rfl, Kc66, p66_0, p66_1, p66_2, p66_3, p66_4, p66_5⟩ := hQ66
      have N66 := Fr.app N65 Nq66
      have Z66 : n0 ≤ T66.heap.size := Nat.le_trans Z65 Kc66.1
      obtain ⟨cq67, kq67, q67a, q67b, q67c⟩ := isOf hZ rfl p66_0
      obtain ⟨_, _, ⟨T67, L67, k67, n67⟩, -, X67, ⟨Lc67, hQ67, l67, y67, z67⟩, st67⟩ := X66.virtualBack hx (y := (⟨"com/example/kalends/kalends/engine/LongList", "isEmpty", "()Z"⟩ : MethodName)) (z := (⟨"com/example/kalends/kalends/engine/LongList", "isEmpty", "()Z"⟩ : MethodName)) hown (mvT hZ (hw _ (List.mem_of_getElem? (i := 13) rfl))) (mvT hZ (hw _ (List.mem_of_getElem? (i := 14) rfl))) (notFace_of_selects (args := #[]) (mvT hZ (hw _ (List.mem_of_getElem? (i := 16) rfl)))) (mvT hZ (hw _ (List.mem_of_getElem? (i := 16) rfl))) (mvT hZ (hw _ (List.mem_of_getElem? (i := 15) rfl))) (by decide) (backOf (W := 0) (own_empty_t l Z a0 hw [] b1 (2 : Int32) T66.heap n0 Z66 p66_2 (by decide : ¬ ((2 : Int32) = (0 : Int32)))) hZ (hw _ (List.mem_of_getElem? (i := 17) rfl)) (hw _ (List.mem_of_getElem? (i := 2) rfl)) (by decide) (by decide)) q67a q67c (g := (mkF m 86 #[.val (.long pj0), .second, .val (.long pj1), .second, .val (.int pi2), .val (.int pi3), .val (.ref b1), .val (.int (1 : Int32)), .val (.int (2 : Int32))] [(.ref b1)])) rfl (by rw [hml]; rfl) (Steps.refl _) (argsL := []) (rest := []) (lenOf pd_16 rfl) rfl (by show 2 * 0 + _ ≤ _; exact Nat.le_of_eq rfl) (hb hby at_86) (fun _ _ => ⟨rfl, rfl, (by decide : 2 + 0 ≤ _), (by decide : 13 + 0 ≤ _)⟩)
      dsimp only [Pt.U, Pt.locs, Pt.cells, Pt.slots] at X67 l67 y67 z67 st67 hQ67
      subst l67 y67 z67
      obtain ⟨rfl, Nq67, e67⟩ := hQ67
      have N67 := Fr.app N66 Nq67
      have go68 : ∀ t, Steps p.tables e below (T67.setTop (mkF m 113 #[.val (.long pj0), .second, .val (.long pj1), .second, .val (.int pi2), .val (.int pi3), .val (.ref b1), .val (.int (1 : Int32)), .val (.int (2 : Int32))] [(.int (pi3 &&& (2 : Int32)))])) t → Steps p.tables e below st0 t := by
        intro t kt
        refine go62 t ?_
        refine XS.ifYes X4.here hx rfl (pc0 := 26) (pc' := 41) rfl (hb hby at_26) rfl ((if0 _ _).trans (teq hc63).1) (by decide) (by decide) ?_
        show Steps p.tables e below (T4.setTop (mkF m 41 #[.val (.long pj0), .second, .val (.long pj1), .second, .val (.int pi2), .val (.int pi3), .val (.ref b1), .val (.int (1 : Int32)), .val (.int (2 : Int32))] [])) _
        refine XS.iload X4.here hx rfl (hb hby at_41) rfl ?_
        show Steps p.tables e below (T4.setTop (mkF m 43 #[.val (.long pj0), .second, .val (.long pj1), .second, .val (.int pi2), .val (.int pi3), .val (.ref b1), .val (.int (1 : Int32)), .val (.int (2 : Int32))] [(.int (2 : Int32))])) _
        refine XS.iconst X4.here hx rfl (hb hby at_43) ?_
        show Steps p.tables e below (T4.setTop (mkF m 44 #[.val (.long pj0), .second, .val (.long pj1), .second, .val (.int pi2), .val (.int pi3), .val (.ref b1), .val (.int (1 : Int32)), .val (.int (2 : Int32))] [(.int (1 : Int32)), (.int (2 : Int32))])) _
        refine XS.icmpNo X4.here hx rfl (hb hby at_44) rfl (flt (by decide : ¬ ((2 : Int32) < (1 : Int32)))).1 ?_
        show Steps p.tables e below (T4.setTop (mkF m 47 #[.val (.long pj0), .second, .val (.long pj1), .second, .val (.int pi2), .val (.int pi3), .val (.ref b1), .val (.int (1 : Int32)), .val (.int (2 : Int32))] [])) _
        refine XS.aload X4.here hx rfl (hb hby at_47) rfl rfl ?_
        show Steps p.tables e below (T4.setTop (mkF m 49 #[.val (.long pj0), .second, .val (.long pj1), .second, .val (.int pi2), .val (.int pi3), .val (.ref b1), .val (.int (1 : Int32)), .val (.int (2 : Int32))] [(.ref b1)])) _
        refine XS.lloadN X4.here hx rfl (hb hby at_49) rfl ?_
        show Steps p.tables e below (T4.setTop (mkF m 50 #[.val (.long pj0), .second, .val (.long pj1), .second, .val (.int pi2), .val (.int pi3), .val (.ref b1), .val (.int (1 : Int32)), .val (.int (2 : Int32))] [(.long pj0), (.ref b1)])) _
        refine st65.trans ?_
        show Steps p.tables e below (T65.setTop (mkF m 53 #[.val (.long pj0), .second, .val (.long pj1), .second, .val (.int pi2), .val (.int pi3), .val (.ref b1), .val (.int (1 : Int32)), .val (.int (2 : Int32))] [])) _
        refine XS.iload X65.here hx rfl (hb hby at_53) rfl ?_
        show Steps p.tables e below (T65.setTop (mkF m 55 #[.val (.long pj0), .second, .val (.long pj1), .second, .val (.int pi2), .val (.int pi3), .val (.ref b1), .val (.int (1 : Int32)), .val (.int (2 : Int32))] [(.int (2 : Int32))])) _
        refine XS.iconst X65.here hx rfl (hb hby at_55) ?_
        show Steps p.tables e below (T65.setTop (mkF m 56 #[.val (.long pj0), .second, .val (.long pj1), .second, .val (.int pi2), .val (.int pi3), .val (.ref b1), .val (.int (1 : Int32)), .val (.int (2 : Int32))] [(.int (2 : Int32)), (.int (2 : Int32))])) _
        refine XS.icmpNo X65.here hx rfl (hb hby at_56) rfl (flt (by decide : ¬ ((2 : Int32) < (2 : Int32)))).1 ?_
        show Steps p.tables e below (T65.setTop (mkF m 59 #[.val (.long pj0), .second, .val (.long pj1), .second, .val (.int pi2), .val (.int pi3), .val (.ref b1), .val (.int (1 : Int32)), .val (.int (2 : Int32))] [])) _
        refine XS.aload X65.here hx rfl (hb hby at_59) rfl rfl ?_
        show Steps p.tables e below (T65.setTop (mkF m 61 #[.val (.long pj0), .second, .val (.long pj1), .second, .val (.int pi2), .val (.int pi3), .val (.ref b1), .val (.int (1 : Int32)), .val (.int (2 : Int32))] [(.ref b1)])) _
        refine XS.lloadN X65.here hx rfl (hb hby at_61) rfl ?_
        show Steps p.tables e below (T65.setTop (mkF m 62 #[.val (.long pj0), .second, .val (.long pj1), .second, .val (.int pi2), .val (.int pi3), .val (.ref b1), .val (.int (1 : Int32)), .val (.int (2 : Int32))] [(.long pj1), (.ref b1)])) _
        refine st66.trans ?_
        show Steps p.tables e below (T66.setTop (mkF m 65 #[.val (.long pj0), .second, .val (.long pj1), .second, .val (.int pi2), .val (.int pi3), .val (.ref b1), .val (.int (1 : Int32)), .val (.int (2 : Int32))] [])) _
        refine XS.iload X66.here hx rfl (hb hby at_65) rfl ?_
        show Steps p.tables e below (T66.setTop (mkF m 67 #[.val (.long pj0), .second, .val (.long pj1), .second, .val (.int pi2), .val (.int pi3), .val (.ref b1), .val (.int (1 : Int32)), .val (.int (2 : Int32))] [(.int (2 : Int32))])) _
        refine XS.iconst X66.here hx rfl (hb hby at_67) ?_
        show Steps p.tables e below (T66.setTop (mkF m 68 #[.val (.long pj0), .second, .val (.long pj1), .second, .val (.int pi2), .val (.int pi3), .val (.ref b1), .val (.int (1 : Int32)), .val (.int (2 : Int32))] [(.int (3 : Int32)), (.int (2 : Int32))])) _
        refine XS.icmpYes X66.here hx rfl (pc0 := 68) (pc' := 79) rfl (hb hby at_68) rfl (tlt (by decide : (2 : Int32) < (3 : Int32))).1 (by decide) (by decide) ?_
        show Steps p.tables e below (T66.setTop (mkF m 79 #[.val (.long pj0), .second, .val (.long pj1), .second, .val (.int pi2), .val (.int pi3), .val (.ref b1), .val (.int (1 : Int32)), .val (.int (2 : Int32))] [])) _
        refine XS.iload X66.here hx rfl (hb hby at_79) rfl ?_
        show Steps p.tables e below (T66.setTop (mkF m 81 #[.val (.long pj0), .second, .val (.long pj1), .second, .val (.int pi2), .val (.int pi3), .val (.ref b1), .val (.int (1 : Int32)), .val (.int (2 : Int32))] [(.int (1 : Int32))])) _
        refine XS.ifNo X66.here hx rfl (hb hby at_81) rfl ((if0 _ _).trans (feq (by decide : ¬ ((1 : Int32) = (0 : Int32)))).1) ?_
        show Steps p.tables e below (T66.setTop (mkF m 84 #[.val (.long pj0), .second, .val (.long pj1), .second, .val (.int pi2), .val (.int pi3), .val (.ref b1), .val (.int (1 : Int32)), .val (.int (2 : Int32))] [])) _
        refine XS.aload X66.here hx rfl (hb hby at_84) rfl rfl ?_
        show Steps p.tables e below (T66.setTop (mkF m 86 #[.val (.long pj0), .second, .val (.long pj1), .second, .val (.int pi2), .val (.int pi3), .val (.ref b1), .val (.int (1 : Int32)), .val (.int (2 : Int32))] [(.ref b1)])) _
        refine st67.trans ?_
        show Steps p.tables e below (T67.setTop (mkF m 89 #[.val (.long pj0), .second, .val (.long pj1), .second, .val (.int pi2), .val (.int pi3), .val (.ref b1), .val (.int (1 : Int32)), .val (.int (2 : Int32))] [(.int (0 : Int32))])) _
        refine XS.iload X67.here hx rfl (hb hby at_89) rfl ?_
        show Steps p.tables e below (T67.setTop (mkF m 91 #[.val (.long pj0), .second, .val (.long pj1), .second, .val (.int pi2), .val (.int pi3), .val (.ref b1), .val (.int (1 : Int32)), .val (.int (2 : Int32))] [(.int (2 : Int32)), (.int (0 : Int32))])) _
        refine XS.ifYes X67.here hx rfl (pc0 := 91) (pc' := 98) rfl (hb hby at_91) rfl ((if0 _ _).trans (feq (by decide : ¬ ((2 : Int32) = (0 : Int32)))).2) (by decide) (by decide) ?_
        show Steps p.tables e below (T67.setTop (mkF m 98 #[.val (.long pj0), .second, .val (.long pj1), .second, .val (.int pi2), .val (.int pi3), .val (.ref b1), .val (.int (1 : Int32)), .val (.int (2 : Int32))] [(.int (0 : Int32))])) _
        refine XS.iconst X67.here hx rfl (hb hby at_98) ?_
        show Steps p.tables e below (T67.setTop (mkF m 99 #[.val (.long pj0), .second, .val (.long pj1), .second, .val (.int pi2), .val (.int pi3), .val (.ref b1), .val (.int (1 : Int32)), .val (.int (2 : Int32))] [(.int (0 : Int32)), (.int (0 : Int32))])) _
        refine XS.icmpNo X67.here hx rfl (hb hby at_99) rfl (teq (by decide : (0 : Int32) = (0 : Int32))).2 ?_
        show Steps p.tables e below (T67.setTop (mkF m 102 #[.val (.long pj0), .second, .val (.long pj1), .second, .val (.int pi2), .val (.int pi3), .val (.ref b1), .val (.int (1 : Int32)), .val (.int (2 : Int32))] [])) _
        refine XS.iconst X67.here hx rfl (hb hby at_102) ?_
        show Steps p.tables e below (T67.setTop (mkF m 103 #[.val (.long pj0), .second, .val (.long pj1), .second, .val (.int pi2), .val (.int pi3), .val (.ref b1), .val (.int (1 : Int32)), .val (.int (2 : Int32))] [(.int (1 : Int32))])) _
        refine XS.goto X67.here hx rfl (pc0 := 103) (pc' := 107) rfl (hb hby at_103) (by decide) (by decide) ?_
        show Steps p.tables e below (T67.setTop (mkF m 107 #[.val (.long pj0), .second, .val (.long pj1), .second, .val (.int pi2), .val (.int pi3), .val (.ref b1), .val (.int (1 : Int32)), .val (.int (2 : Int32))] [(.int (1 : Int32))])) _
        refine XS.istore X67.here hx rfl (hb hby at_107) rfl (l' := #[.val (.long pj0), .second, .val (.long pj1), .second, .val (.int pi2), .val (.int pi3), .val (.ref b1), .val (.int (1 : Int32)), .val (.int (2 : Int32))]) rfl ?_
        show Steps p.tables e below (T67.setTop (mkF m 109 #[.val (.long pj0), .second, .val (.long pj1), .second, .val (.int pi2), .val (.int pi3), .val (.ref b1), .val (.int (1 : Int32)), .val (.int (2 : Int32))] [])) _
        refine XS.iload X67.here hx rfl (hb hby at_109) rfl ?_
        show Steps p.tables e below (T67.setTop (mkF m 111 #[.val (.long pj0), .second, .val (.long pj1), .second, .val (.int pi2), .val (.int pi3), .val (.ref b1), .val (.int (1 : Int32)), .val (.int (2 : Int32))] [(.int pi3)])) _
        refine XS.iconst X67.here hx rfl (hb hby at_111) ?_
        show Steps p.tables e below (T67.setTop (mkF m 112 #[.val (.long pj0), .second, .val (.long pj1), .second, .val (.int pi2), .val (.int pi3), .val (.ref b1), .val (.int (1 : Int32)), .val (.int (2 : Int32))] [(.int (2 : Int32)), (.int pi3)])) _
        refine XS.iand X67.here hx rfl (hb hby at_112) rfl ?_
        show Steps p.tables e below (T67.setTop (mkF m 113 #[.val (.long pj0), .second, .val (.long pj1), .second, .val (.int pi2), .val (.int pi3), .val (.ref b1), .val (.int (1 : Int32)), .val (.int (2 : Int32))] [(.int (pi3 &&& (2 : Int32)))])) _
        exact kt
      by_cases hc69 : (pi3 &&& (2 : Int32)) = (0 : Int32)
      · skip
        have Xm70 := own_mono X67 (k' := 5) (j' := 32) (by decide) (by decide)
        have go72 : ∀ t, Steps p.tables e below (T67.setTop (mkF m 142 #[.val (.long pj0), .second, .val (.long pj1), .second, .val (.int pi2), .val (.int pi3), .val (.ref b1), .val (.int (1 : Int32)), .val (.int (2 : Int32))] [])) t → Steps p.tables e below st0 t := by
          intro t kt
          refine go68 t ?_
          refine XS.ifYes X67.here hx rfl (pc0 := 113) (pc' := 142) rfl (hb hby at_113) rfl ((if0 _ _).trans (teq hc69).1) (by decide) (by decide) ?_
          show Steps p.tables e below (T67.setTop (mkF m 142 #[.val (.long pj0), .second, .val (.long pj1), .second, .val (.int pi2), .val (.int pi3), .val (.ref b1), .val (.int (1 : Int32)), .val (.int (2 : Int32))] [])) _
          exact kt
        obtain ⟨s₂, o₂, hs₂, hr₂⟩ := own_tail142 pj0 pj1 pi2 pi3 b1 (2 : Int32) (2 : Int32) (0 : Int32) Xm70 hx hZ hw hby hml hown e67 N67 Z66 Bd.returns (BodyLoose.notSynchronized Bd) p66_0 p66_2 p66_3 ge1
        exact ⟨s₂, o₂, go72 _ hs₂, hr₂⟩
      · skip
        obtain ⟨cq73, kq73, q73a, q73b, q73c⟩ := isOf hZ e67 p66_0
        obtain ⟨_, _, ⟨T73, L73, k73, n73⟩, -, X73, ⟨Lc73, hQ73, l73, y73, z73⟩, st73⟩ := X67.virtualBack hx (y := (⟨"com/example/kalends/kalends/engine/LongList", "add", "(J)V"⟩ : MethodName)) (z := (⟨"com/example/kalends/kalends/engine/LongList", "add", "(J)V"⟩ : MethodName)) hown (mvT hZ (hw _ (List.mem_of_getElem? (i := 31) rfl))) (mvT hZ (hw _ (List.mem_of_getElem? (i := 32) rfl))) (notFace_of_selects (args := #[]) (mvT hZ (hw _ (List.mem_of_getElem? (i := 34) rfl)))) (mvT hZ (hw _ (List.mem_of_getElem? (i := 34) rfl))) (mvT hZ (hw _ (List.mem_of_getElem? (i := 33) rfl))) (by decide) (backOf (W := 0) (own_addV2 l Z a0 hw [] b1 pj1 b65_0 y65_0 y66_0 T66.heap n0 Z66 p66_0 p66_1 p66_2 p66_3 p66_4 p66_5 (Ne.symm ne_b65_0_b1) ge_b65_0 ge1) hZ (hw _ (List.mem_of_getElem? (i := 35) rfl)) (hw _ (List.mem_of_getElem? (i := 2) rfl)) (by decide) (by decide)) q73a q73c (g := (mkF m 119 #[.val (.long pj0), .second, .val (.long pj1), .second, .val (.int pi2), .val (.int pi3), .val (.ref b1), .val (.int (1 : Int32)), .val (.int (2 : Int32))] [(.long pj1), (.ref b1)])) rfl (by rw [hml]; rfl) (Steps.refl _) (argsL := [(.long pj1)]) (rest := []) (lenOf pd_17 rfl) rfl (by show 2 * 0 + _ ≤ _; exact Nat.le_of_eq rfl) (hb hby at_119) (fun _ _ => ⟨rfl, e67, (by decide : 2 + 0 ≤ _), (by decide : 13 + 0 ≤ _)⟩)
        dsimp only [Pt.U, Pt.locs, Pt.cells, Pt.slots] at X73 l73 y73 z73 st73 hQ73
        subst l73 y73 z73
        obtain ⟨Nq73, y73_0, rfl, Kc73, p73_0, p73_1, p73_2, p73_3, p73_4, p73_5⟩ := hQ73
        have N73 := Fr.app N67 Nq73
        have Z73 : n0 ≤ T73.heap.size := Nat.le_trans Z66 Kc73.1
        obtain ⟨cq74, kq74, q74a, q74b, q74c⟩ := isOf hZ rfl p73_0
        obtain ⟨_, _, ⟨T74, L74, k74, n74⟩, -, X74, ⟨Lc74, hQ74, l74, y74, z74⟩, st74⟩ := X73.virtualBack hx (y := (⟨"com/example/kalends/kalends/engine/LongList", "isEmpty", "()Z"⟩ : MethodName)) (z := (⟨"com/example/kalends/kalends/engine/LongList", "isEmpty", "()Z"⟩ : MethodName)) hown (mvT hZ (hw _ (List.mem_of_getElem? (i := 13) rfl))) (mvT hZ (hw _ (List.mem_of_getElem? (i := 14) rfl))) (notFace_of_selects (args := #[]) (mvT hZ (hw _ (List.mem_of_getElem? (i := 16) rfl)))) (mvT hZ (hw _ (List.mem_of_getElem? (i := 16) rfl))) (mvT hZ (hw _ (List.mem_of_getElem? (i := 15) rfl))) (by decide) (backOf (W := 0) (own_empty_t l Z a0 hw [] b1 (3 : Int32) T73.heap n0 Z73 p73_2 (by decide : ¬ ((3 : Int32) = (0 : Int32)))) hZ (hw _ (List.mem_of_getElem? (i := 17) rfl)) (hw _ (List.mem_of_getElem? (i := 2) rfl)) (by decide) (by decide)) q74a q74c (g := (mkF m 129 #[.val (.long pj0), .second, .val (.long pj1), .second, .val (.int pi2), .val (.int pi3), .val (.ref b1), .val (.int (1 : Int32)), .val (.int (2 : Int32))] [(.ref b1)])) rfl (by rw [hml]; rfl) (Steps.refl _) (argsL := []) (rest := []) (lenOf pd_16 rfl) rfl (by show 2 * 0 + _ ≤ _; exact Nat.le_of_eq rfl) (hb hby at_129) (fun _ _ => ⟨rfl, rfl, (by decide : 2 + 0 ≤ _), (by decide : 13 + 0 ≤ _)⟩)
        dsimp only [Pt.U, Pt.locs, Pt.cells, Pt.slots] at X74 l74 y74 z74 st74 hQ74
        subst l74 y74 z74
        obtain ⟨rfl, Nq74, e74⟩ := hQ74
        have N74 := Fr.app N73 Nq74
        have Xm75 := own_mono X74 (k' := 5) (j' := 32) (by decide) (by decide)
        have go77 : ∀ t, Steps p.tables e below (T74.setTop (mkF m 142 #[.val (.long pj0), .second, .val (.long pj1), .second, .val (.int pi2), .val (.int pi3), .val (.ref b1), .val (.int (1 : Int32)), .val (.int (2 : Int32))] [])) t → Steps p.tables e below st0 t := by
          intro t kt
          refine go68 t ?_
          refine XS.ifNo X67.here hx rfl (hb hby at_113) rfl ((if0 _ _).trans (feq hc69).1) ?_
          show Steps p.tables e below (T67.setTop (mkF m 116 #[.val (.long pj0), .second, .val (.long pj1), .second, .val (.int pi2), .val (.int pi3), .val (.ref b1), .val (.int (1 : Int32)), .val (.int (2 : Int32))] [])) _
          refine XS.aload X67.here hx rfl (hb hby at_116) rfl rfl ?_
          show Steps p.tables e below (T67.setTop (mkF m 118 #[.val (.long pj0), .second, .val (.long pj1), .second, .val (.int pi2), .val (.int pi3), .val (.ref b1), .val (.int (1 : Int32)), .val (.int (2 : Int32))] [(.ref b1)])) _
          refine XS.lloadN X67.here hx rfl (hb hby at_118) rfl ?_
          show Steps p.tables e below (T67.setTop (mkF m 119 #[.val (.long pj0), .second, .val (.long pj1), .second, .val (.int pi2), .val (.int pi3), .val (.ref b1), .val (.int (1 : Int32)), .val (.int (2 : Int32))] [(.long pj1), (.ref b1)])) _
          refine st73.trans ?_
          show Steps p.tables e below (T73.setTop (mkF m 122 #[.val (.long pj0), .second, .val (.long pj1), .second, .val (.int pi2), .val (.int pi3), .val (.ref b1), .val (.int (1 : Int32)), .val (.int (2 : Int32))] [])) _
          refine XS.iload X73.here hx rfl (hb hby at_122) rfl ?_
          show Steps p.tables e below (T73.setTop (mkF m 124 #[.val (.long pj0), .second, .val (.long pj1), .second, .val (.int pi2), .val (.int pi3), .val (.ref b1), .val (.int (1 : Int32)), .val (.int (2 : Int32))] [(.int (1 : Int32))])) _
          refine XS.ifNo X73.here hx rfl (hb hby at_124) rfl ((if0 _ _).trans (feq (by decide : ¬ ((1 : Int32) = (0 : Int32)))).1) ?_
          show Steps p.tables e below (T73.setTop (mkF m 127 #[.val (.long pj0), .second, .val (.long pj1), .second, .val (.int pi2), .val (.int pi3), .val (.ref b1), .val (.int (1 : Int32)), .val (.int (2 : Int32))] [])) _
          refine XS.aload X73.here hx rfl (hb hby at_127) rfl rfl ?_
          show Steps p.tables e below (T73.setTop (mkF m 129 #[.val (.long pj0), .second, .val (.long pj1), .second, .val (.int pi2), .val (.int pi3), .val (.ref b1), .val (.int (1 : Int32)), .val (.int (2 : Int32))] [(.ref b1)])) _
          refine st74.trans ?_
          show Steps p.tables e below (T74.setTop (mkF m 132 #[.val (.long pj0), .second, .val (.long pj1), .second, .val (.int pi2), .val (.int pi3), .val (.ref b1), .val (.int (1 : Int32)), .val (.int (2 : Int32))] [(.int (0 : Int32))])) _
          refine XS.ifNo X74.here hx rfl (hb hby at_132) rfl ((if0 _ _).trans (teq (by decide : (0 : Int32) = (0 : Int32))).2) ?_
          show Steps p.tables e below (T74.setTop (mkF m 135 #[.val (.long pj0), .second, .val (.long pj1), .second, .val (.int pi2), .val (.int pi3), .val (.ref b1), .val (.int (1 : Int32)), .val (.int (2 : Int32))] [])) _
          refine XS.iconst X74.here hx rfl (hb hby at_135) ?_
          show Steps p.tables e below (T74.setTop (mkF m 136 #[.val (.long pj0), .second, .val (.long pj1), .second, .val (.int pi2), .val (.int pi3), .val (.ref b1), .val (.int (1 : Int32)), .val (.int (2 : Int32))] [(.int (1 : Int32))])) _
          refine XS.goto X74.here hx rfl (pc0 := 136) (pc' := 140) rfl (hb hby at_136) (by decide) (by decide) ?_
          show Steps p.tables e below (T74.setTop (mkF m 140 #[.val (.long pj0), .second, .val (.long pj1), .second, .val (.int pi2), .val (.int pi3), .val (.ref b1), .val (.int (1 : Int32)), .val (.int (2 : Int32))] [(.int (1 : Int32))])) _
          refine XS.istore X74.here hx rfl (hb hby at_140) rfl (l' := #[.val (.long pj0), .second, .val (.long pj1), .second, .val (.int pi2), .val (.int pi3), .val (.ref b1), .val (.int (1 : Int32)), .val (.int (2 : Int32))]) rfl ?_
          show Steps p.tables e below (T74.setTop (mkF m 142 #[.val (.long pj0), .second, .val (.long pj1), .second, .val (.int pi2), .val (.int pi3), .val (.ref b1), .val (.int (1 : Int32)), .val (.int (2 : Int32))] [])) _
          exact kt
        obtain ⟨s₂, o₂, hs₂, hr₂⟩ := own_tail142 pj0 pj1 pi2 pi3 b1 (2 : Int32) (3 : Int32) (0 : Int32) Xm75 hx hZ hw hby hml hown e74 N74 Z73 Bd.returns (BodyLoose.notSynchronized Bd) p73_0 p73_2 p73_3 ge1
        exact ⟨s₂, o₂, go77 _ hs₂, hr₂⟩
    · skip
      obtain ⟨cq78, kq78, q78a, q78b, q78c⟩ := isOf hZ e4 p3_0
      obtain ⟨_, _, ⟨T78, L78, k78, n78⟩, -, X78, ⟨Lc78, hQ78, l78, y78, z78⟩, st78⟩ := X4.virtualBack hx (y := (⟨"com/example/kalends/kalends/engine/LongList", "addRun", "(JJI)V"⟩ : MethodName)) (z := (⟨"com/example/kalends/kalends/engine/LongList", "addRun", "(JJI)V"⟩ : MethodName)) hown (mvT hZ (hw _ (List.mem_of_getElem? (i := 20) rfl))) (mvT hZ (hw _ (List.mem_of_getElem? (i := 21) rfl))) (notFace_of_selects (args := #[]) (mvT hZ (hw _ (List.mem_of_getElem? (i := 23) rfl)))) (mvT hZ (hw _ (List.mem_of_getElem? (i := 23) rfl))) (mvT hZ (hw _ (List.mem_of_getElem? (i := 22) rfl))) (by decide) (backOf (W := 0) (own_addRun l Z a0 hw [] b1 pj0 pj1 (2 : Int32) nn T3.heap n0 Z3 p3_0 p3_1 p3_2 p3_3 p3_4 p3_5 ge1) hZ (hw _ (List.mem_of_getElem? (i := 24) rfl)) (hw _ (List.mem_of_getElem? (i := 2) rfl)) (by decide) (by decide)) q78a q78c (g := (mkF m 35 #[.val (.long pj0), .second, .val (.long pj1), .second, .val (.int pi2), .val (.int pi3), .val (.ref b1), .val (.int (1 : Int32)), .val (.int (2 : Int32))] [(.int (2 : Int32)), (.long pj1), (.long pj0), (.ref b1)])) rfl (by rw [hml]; rfl) (Steps.refl _) (argsL := [(.long pj0), (.long pj1), (.int (2 : Int32))]) (rest := []) (lenOf pd_18 rfl) rfl (by show 2 * 0 + _ ≤ _; exact Nat.le_of_eq rfl) (hb hby at_35) (fun _ _ => ⟨rfl, e4, (by decide : 1 + 0 ≤ _), (by decide : 5 + 0 ≤ _)⟩)
      dsimp only [Pt.U, Pt.locs, Pt.cells, Pt.slots] at X78 l78 y78 z78 st78 hQ78
      subst l78 y78 z78
      obtain ⟨Nq78, rfl, Kc78, p78_0, p78_1, p78_2, p78_3, p78_4, p78_5⟩ := hQ78
      have N78 := Fr.app N4 Nq78
      have Z78 : n0 ≤ T78.heap.size := Nat.le_trans Z3 Kc78.1
      obtain ⟨cq79, kq79, q79a, q79b, q79c⟩ := isOf hZ rfl p78_0
      obtain ⟨_, _, ⟨T79, L79, k79, n79⟩, -, X79, ⟨Lc79, hQ79, l79, y79, z79⟩, st79⟩ := X78.virtualBack hx (y := (⟨"com/example/kalends/kalends/engine/LongList", "isEmpty", "()Z"⟩ : MethodName)) (z := (⟨"com/example/kalends/kalends/engine/LongList", "isEmpty", "()Z"⟩ : MethodName)) hown (mvT hZ (hw _ (List.mem_of_getElem? (i := 13) rfl))) (mvT hZ (hw _ (List.mem_of_getElem? (i := 14) rfl))) (notFace_of_selects (args := #[]) (mvT hZ (hw _ (List.mem_of_getElem? (i := 16) rfl)))) (mvT hZ (hw _ (List.mem_of_getElem? (i := 16) rfl))) (mvT hZ (hw _ (List.mem_of_getElem? (i := 15) rfl))) (by decide) (backOf (W := 0) (own_empty_t l Z a0 hw [] b1 (2 : Int32) T78.heap n0 Z78 p78_2 (by decide : ¬ ((2 : Int32) = (0 : Int32)))) hZ (hw _ (List.mem_of_getElem? (i := 17) rfl)) (hw _ (List.mem_of_getElem? (i := 2) rfl)) (by decide) (by decide)) q79a q79c (g := (mkF m 86 #[.val (.long pj0), .second, .val (.long pj1), .second, .val (.int pi2), .val (.int pi3), .val (.ref b1), .val (.int (1 : Int32)), .val (.int (2 : Int32))] [(.ref b1)])) rfl (by rw [hml]; rfl) (Steps.refl _) (argsL := []) (rest := []) (lenOf pd_16 rfl) rfl (by show 2 * 0 + _ ≤ _; exact Nat.le_of_eq rfl) (hb hby at_86) (fun _ _ => ⟨rfl, rfl, (by decide : 1 + 0 ≤ _), (by decide : 5 + 0 ≤ _)⟩)
      dsimp only [Pt.U, Pt.locs, Pt.cells, Pt.slots] at X79 l79 y79 z79 st79 hQ79
      subst l79 y79 z79
      obtain ⟨rfl, Nq79, e79⟩ := hQ79
      have N79 := Fr.app N78 Nq79
      have go80 : ∀ t, Steps p.tables e below (T79.setTop (mkF m 113 #[.val (.long pj0), .second, .val (.long pj1), .second, .val (.int pi2), .val (.int pi3), .val (.ref b1), .val (.int (1 : Int32)), .val (.int (2 : Int32))] [(.int (pi3 &&& (2 : Int32)))])) t → Steps p.tables e below st0 t := by
        intro t kt
        refine go62 t ?_
        refine XS.ifNo X4.here hx rfl (hb hby at_26) rfl ((if0 _ _).trans (feq hc63).1) ?_
        show Steps p.tables e below (T4.setTop (mkF m 29 #[.val (.long pj0), .second, .val (.long pj1), .second, .val (.int pi2), .val (.int pi3), .val (.ref b1), .val (.int (1 : Int32)), .val (.int (2 : Int32))] [])) _
        refine XS.aload X4.here hx rfl (hb hby at_29) rfl rfl ?_
        show Steps p.tables e below (T4.setTop (mkF m 31 #[.val (.long pj0), .second, .val (.long pj1), .second, .val (.int pi2), .val (.int pi3), .val (.ref b1), .val (.int (1 : Int32)), .val (.int (2 : Int32))] [(.ref b1)])) _
        refine XS.lloadN X4.here hx rfl (hb hby at_31) rfl ?_
        show Steps p.tables e below (T4.setTop (mkF m 32 #[.val (.long pj0), .second, .val (.long pj1), .second, .val (.int pi2), .val (.int pi3), .val (.ref b1), .val (.int (1 : Int32)), .val (.int (2 : Int32))] [(.long pj0), (.ref b1)])) _
        refine XS.lloadN X4.here hx rfl (hb hby at_32) rfl ?_
        show Steps p.tables e below (T4.setTop (mkF m 33 #[.val (.long pj0), .second, .val (.long pj1), .second, .val (.int pi2), .val (.int pi3), .val (.ref b1), .val (.int (1 : Int32)), .val (.int (2 : Int32))] [(.long pj1), (.long pj0), (.ref b1)])) _
        refine XS.iload X4.here hx rfl (hb hby at_33) rfl ?_
        show Steps p.tables e below (T4.setTop (mkF m 35 #[.val (.long pj0), .second, .val (.long pj1), .second, .val (.int pi2), .val (.int pi3), .val (.ref b1), .val (.int (1 : Int32)), .val (.int (2 : Int32))] [(.int (2 : Int32)), (.long pj1), (.long pj0), (.ref b1)])) _
        refine st78.trans ?_
        show Steps p.tables e below (T78.setTop (mkF m 38 #[.val (.long pj0), .second, .val (.long pj1), .second, .val (.int pi2), .val (.int pi3), .val (.ref b1), .val (.int (1 : Int32)), .val (.int (2 : Int32))] [])) _
        refine XS.goto X78.here hx rfl (pc0 := 38) (pc' := 79) rfl (hb hby at_38) (by decide) (by decide) ?_
        show Steps p.tables e below (T78.setTop (mkF m 79 #[.val (.long pj0), .second, .val (.long pj1), .second, .val (.int pi2), .val (.int pi3), .val (.ref b1), .val (.int (1 : Int32)), .val (.int (2 : Int32))] [])) _
        refine XS.iload X78.here hx rfl (hb hby at_79) rfl ?_
        show Steps p.tables e below (T78.setTop (mkF m 81 #[.val (.long pj0), .second, .val (.long pj1), .second, .val (.int pi2), .val (.int pi3), .val (.ref b1), .val (.int (1 : Int32)), .val (.int (2 : Int32))] [(.int (1 : Int32))])) _
        refine XS.ifNo X78.here hx rfl (hb hby at_81) rfl ((if0 _ _).trans (feq (by decide : ¬ ((1 : Int32) = (0 : Int32)))).1) ?_
        show Steps p.tables e below (T78.setTop (mkF m 84 #[.val (.long pj0), .second, .val (.long pj1), .second, .val (.int pi2), .val (.int pi3), .val (.ref b1), .val (.int (1 : Int32)), .val (.int (2 : Int32))] [])) _
        refine XS.aload X78.here hx rfl (hb hby at_84) rfl rfl ?_
        show Steps p.tables e below (T78.setTop (mkF m 86 #[.val (.long pj0), .second, .val (.long pj1), .second, .val (.int pi2), .val (.int pi3), .val (.ref b1), .val (.int (1 : Int32)), .val (.int (2 : Int32))] [(.ref b1)])) _
        refine st79.trans ?_
        show Steps p.tables e below (T79.setTop (mkF m 89 #[.val (.long pj0), .second, .val (.long pj1), .second, .val (.int pi2), .val (.int pi3), .val (.ref b1), .val (.int (1 : Int32)), .val (.int (2 : Int32))] [(.int (0 : Int32))])) _
        refine XS.iload X79.here hx rfl (hb hby at_89) rfl ?_
        show Steps p.tables e below (T79.setTop (mkF m 91 #[.val (.long pj0), .second, .val (.long pj1), .second, .val (.int pi2), .val (.int pi3), .val (.ref b1), .val (.int (1 : Int32)), .val (.int (2 : Int32))] [(.int (2 : Int32)), (.int (0 : Int32))])) _
        refine XS.ifYes X79.here hx rfl (pc0 := 91) (pc' := 98) rfl (hb hby at_91) rfl ((if0 _ _).trans (feq (by decide : ¬ ((2 : Int32) = (0 : Int32)))).2) (by decide) (by decide) ?_
        show Steps p.tables e below (T79.setTop (mkF m 98 #[.val (.long pj0), .second, .val (.long pj1), .second, .val (.int pi2), .val (.int pi3), .val (.ref b1), .val (.int (1 : Int32)), .val (.int (2 : Int32))] [(.int (0 : Int32))])) _
        refine XS.iconst X79.here hx rfl (hb hby at_98) ?_
        show Steps p.tables e below (T79.setTop (mkF m 99 #[.val (.long pj0), .second, .val (.long pj1), .second, .val (.int pi2), .val (.int pi3), .val (.ref b1), .val (.int (1 : Int32)), .val (.int (2 : Int32))] [(.int (0 : Int32)), (.int (0 : Int32))])) _
        refine XS.icmpNo X79.here hx rfl (hb hby at_99) rfl (teq (by decide : (0 : Int32) = (0 : Int32))).2 ?_
        show Steps p.tables e below (T79.setTop (mkF m 102 #[.val (.long pj0), .second, .val (.long pj1), .second, .val (.int pi2), .val (.int pi3), .val (.ref b1), .val (.int (1 : Int32)), .val (.int (2 : Int32))] [])) _
        refine XS.iconst X79.here hx rfl (hb hby at_102) ?_
        show Steps p.tables e below (T79.setTop (mkF m 103 #[.val (.long pj0), .second, .val (.long pj1), .second, .val (.int pi2), .val (.int pi3), .val (.ref b1), .val (.int (1 : Int32)), .val (.int (2 : Int32))] [(.int (1 : Int32))])) _
        refine XS.goto X79.here hx rfl (pc0 := 103) (pc' := 107) rfl (hb hby at_103) (by decide) (by decide) ?_
        show Steps p.tables e below (T79.setTop (mkF m 107 #[.val (.long pj0), .second, .val (.long pj1), .second, .val (.int pi2), .val (.int pi3), .val (.ref b1), .val (.int (1 : Int32)), .val (.int (2 : Int32))] [(.int (1 : Int32))])) _
        refine XS.istore X79.here hx rfl (hb hby at_107) rfl (l' := #[.val (.long pj0), .second, .val (.long pj1), .second, .val (.int pi2), .val (.int pi3), .val (.ref b1), .val (.int (1 : Int32)), .val (.int (2 : Int32))]) rfl ?_
        show Steps p.tables e below (T79.setTop (mkF m 109 #[.val (.long pj0), .second, .val (.long pj1), .second, .val (.int pi2), .val (.int pi3), .val (.ref b1), .val (.int (1 : Int32)), .val (.int (2 : Int32))] [])) _
        refine XS.iload X79.here hx rfl (hb hby at_109) rfl ?_
        show Steps p.tables e below (T79.setTop (mkF m 111 #[.val (.long pj0), .second, .val (.long pj1), .second, .val (.int pi2), .val (.int pi3), .val (.ref b1), .val (.int (1 : Int32)), .val (.int (2 : Int32))] [(.int pi3)])) _
        refine XS.iconst X79.here hx rfl (hb hby at_111) ?_
        show Steps p.tables e below (T79.setTop (mkF m 112 #[.val (.long pj0), .second, .val (.long pj1), .second, .val (.int pi2), .val (.int pi3), .val (.ref b1), .val (.int (1 : Int32)), .val (.int (2 : Int32))] [(.int (2 : Int32)), (.int pi3)])) _
        refine XS.iand X79.here hx rfl (hb hby at_112) rfl ?_
        show Steps p.tables e below (T79.setTop (mkF m 113 #[.val (.long pj0), .second, .val (.long pj1), .second, .val (.int pi2), .val (.int pi3), .val (.ref b1), .val (.int (1 : Int32)), .val (.int (2 : Int32))] [(.int (pi3 &&& (2 : Int32)))])) _
        exact kt
      by_cases hc81 : (pi3 &&& (2 : Int32)) = (0 : Int32)
      · skip
        have Xm82 := own_mono X79 (k' := 5) (j' := 32) (by decide) (by decide)
        have go84 : ∀ t, Steps p.tables e below (T79.setTop (mkF m 142 #[.val (.long pj0), .second, .val (.long pj1), .second, .val (.int pi2), .val (.int pi3), .val (.ref b1), .val (.int (1 : Int32)), .val (.int (2 : Int32))] [])) t → Steps p.tables e below st0 t := by
          intro t kt
          refine go80 t ?_
          refine XS.ifYes X79.here hx rfl (pc0 := 113) (pc' := 142) rfl (hb hby at_113) rfl ((if0 _ _).trans (teq hc81).1) (by decide) (by decide) ?_
          show Steps p.tables e below (T79.setTop (mkF m 142 #[.val (.long pj0), .second, .val (.long pj1), .second, .val (.int pi2), .val (.int pi3), .val (.ref b1), .val (.int (1 : Int32)), .val (.int (2 : Int32))] [])) _
          exact kt
        obtain ⟨s₂, o₂, hs₂, hr₂⟩ := own_tail142 pj0 pj1 pi2 pi3 b1 (2 : Int32) (2 : Int32) (1 : Int32) Xm82 hx hZ hw hby hml hown e79 N79 Z78 Bd.returns (BodyLoose.notSynchronized Bd) p78_0 p78_2 p78_3 ge1
        exact ⟨s₂, o₂, go84 _ hs₂, hr₂⟩
      · skip
        have f85 : Arv Z T78.heap nn ka .long (0 : Int32) [] (.long (0 : Int64)) := (((P1.ext E1).keep Kc3 (ninS ne1_nn nin0)).keep Kc78 (ninS ne1_nn nin0))
        obtain ⟨cq86, kq86, q86a, q86b, q86c⟩ := isOf hZ e79 p78_0
        obtain ⟨_, _, ⟨T86, L86, k86, n86⟩, -, X86, ⟨Lc86, hQ86, l86, y86, z86⟩, st86⟩ := X79.virtualBack hx (y := (⟨"com/example/kalends/kalends/engine/LongList", "add", "(J)V"⟩ : MethodName)) (z := (⟨"com/example/kalends/kalends/engine/LongList", "add", "(J)V"⟩ : MethodName)) hown (mvT hZ (hw _ (List.mem_of_getElem? (i := 31) rfl))) (mvT hZ (hw _ (List.mem_of_getElem? (i := 32) rfl))) (notFace_of_selects (args := #[]) (mvT hZ (hw _ (List.mem_of_getElem? (i := 34) rfl)))) (mvT hZ (hw _ (List.mem_of_getElem? (i := 34) rfl))) (mvT hZ (hw _ (List.mem_of_getElem? (i := 33) rfl))) (by decide) (backOf (W := 0) (own_addR2 l Z a0 hw [] b1 pj1 nn ka pj0 pj1 T78.heap n0 Z78 p78_0 p78_1 p78_2 p78_3 p78_4 p78_5 f85 ne1_nn ge1) hZ (hw _ (List.mem_of_getElem? (i := 35) rfl)) (hw _ (List.mem_of_getElem? (i := 2) rfl)) (by decide) (by decide)) q86a q86c (g := (mkF m 119 #[.val (.long pj0), .second, .val (.long pj1), .second, .val (.int pi2), .val (.int pi3), .val (.ref b1), .val (.int (1 : Int32)), .val (.int (2 : Int32))] [(.long pj1), (.ref b1)])) rfl (by rw [hml]; rfl) (Steps.refl _) (argsL := [(.long pj1)]) (rest := []) (lenOf pd_17 rfl) rfl (by show 2 * 0 + _ ≤ _; exact Nat.le_of_eq rfl) (hb hby at_119) (fun _ _ => ⟨rfl, e79, (by decide : 1 + 1 ≤ _), (by decide : 5 + 8 ≤ _)⟩)
        dsimp only [Pt.U, Pt.locs, Pt.cells, Pt.slots] at X86 l86 y86 z86 st86 hQ86
        subst l86 y86 z86
        obtain ⟨Nq86, b86_0, y86_0, y86_1, rfl, szb86_0, Kc86, p86_0, p86_1, p86_2, p86_3, p86_4, p86_5⟩ := hQ86
        have N86 := Fr.app N79 Nq86
        have ne_b86_0_b1 : b1 ≠ b86_0 := Nat.ne_of_lt (Nat.lt_of_lt_of_le p78_0.lt szb86_0)
        have ne_b86_0_nn : nn ≠ b86_0 := Nat.ne_of_lt (Nat.lt_of_lt_of_le f85.lt szb86_0)
        have ge_b86_0 : n0 ≤ b86_0 := Nat.le_trans Z78 szb86_0
        have Z86 : n0 ≤ T86.heap.size := Nat.le_trans Z78 Kc86.1
        obtain ⟨cq87, kq87, q87a, q87b, q87c⟩ := isOf hZ rfl p86_0
        obtain ⟨_, _, ⟨T87, L87, k87, n87⟩, -, X87, ⟨Lc87, hQ87, l87, y87, z87⟩, st87⟩ := X86.virtualBack hx (y := (⟨"com/example/kalends/kalends/engine/LongList", "isEmpty", "()Z"⟩ : MethodName)) (z := (⟨"com/example/kalends/kalends/engine/LongList", "isEmpty", "()Z"⟩ : MethodName)) hown (mvT hZ (hw _ (List.mem_of_getElem? (i := 13) rfl))) (mvT hZ (hw _ (List.mem_of_getElem? (i := 14) rfl))) (notFace_of_selects (args := #[]) (mvT hZ (hw _ (List.mem_of_getElem? (i := 16) rfl)))) (mvT hZ (hw _ (List.mem_of_getElem? (i := 16) rfl))) (mvT hZ (hw _ (List.mem_of_getElem? (i := 15) rfl))) (by decide) (backOf (W := 0) (own_empty_t l Z a0 hw [] b1 (3 : Int32) T86.heap n0 Z86 p86_2 (by decide : ¬ ((3 : Int32) = (0 : Int32)))) hZ (hw _ (List.mem_of_getElem? (i := 17) rfl)) (hw _ (List.mem_of_getElem? (i := 2) rfl)) (by decide) (by decide)) q87a q87c (g := (mkF m 129 #[.val (.long pj0), .second, .val (.long pj1), .second, .val (.int pi2), .val (.int pi3), .val (.ref b1), .val (.int (1 : Int32)), .val (.int (2 : Int32))] [(.ref b1)])) rfl (by rw [hml]; rfl) (Steps.refl _) (argsL := []) (rest := []) (lenOf pd_16 rfl) rfl (by show 2 * 0 + _ ≤ _; exact Nat.le_of_eq rfl) (hb hby at_129) (fun _ _ => ⟨rfl, rfl, (by decide : 2 + 0 ≤ _), (by decide : 13 + 0 ≤ _)⟩)
        dsimp only [Pt.U, Pt.locs, Pt.cells, Pt.slots] at X87 l87 y87 z87 st87 hQ87
        subst l87 y87 z87
        obtain ⟨rfl, Nq87, e87⟩ := hQ87
        have N87 := Fr.app N86 Nq87
        have Xm88 := own_mono X87 (k' := 5) (j' := 32) (by decide) (by decide)
        have go90 : ∀ t, Steps p.tables e below (T87.setTop (mkF m 142 #[.val (.long pj0), .second, .val (.long pj1), .second, .val (.int pi2), .val (.int pi3), .val (.ref b1), .val (.int (1 : Int32)), .val (.int (2 : Int32))] [])) t → Steps p.tables e below st0 t := by
          intro t kt
          refine go80 t ?_
          refine XS.ifNo X79.here hx rfl (hb hby at_113) rfl ((if0 _ _).trans (feq hc81).1) ?_
          show Steps p.tables e below (T79.setTop (mkF m 116 #[.val (.long pj0), .second, .val (.long pj1), .second, .val (.int pi2), .val (.int pi3), .val (.ref b1), .val (.int (1 : Int32)), .val (.int (2 : Int32))] [])) _
          refine XS.aload X79.here hx rfl (hb hby at_116) rfl rfl ?_
          show Steps p.tables e below (T79.setTop (mkF m 118 #[.val (.long pj0), .second, .val (.long pj1), .second, .val (.int pi2), .val (.int pi3), .val (.ref b1), .val (.int (1 : Int32)), .val (.int (2 : Int32))] [(.ref b1)])) _
          refine XS.lloadN X79.here hx rfl (hb hby at_118) rfl ?_
          show Steps p.tables e below (T79.setTop (mkF m 119 #[.val (.long pj0), .second, .val (.long pj1), .second, .val (.int pi2), .val (.int pi3), .val (.ref b1), .val (.int (1 : Int32)), .val (.int (2 : Int32))] [(.long pj1), (.ref b1)])) _
          refine st86.trans ?_
          show Steps p.tables e below (T86.setTop (mkF m 122 #[.val (.long pj0), .second, .val (.long pj1), .second, .val (.int pi2), .val (.int pi3), .val (.ref b1), .val (.int (1 : Int32)), .val (.int (2 : Int32))] [])) _
          refine XS.iload X86.here hx rfl (hb hby at_122) rfl ?_
          show Steps p.tables e below (T86.setTop (mkF m 124 #[.val (.long pj0), .second, .val (.long pj1), .second, .val (.int pi2), .val (.int pi3), .val (.ref b1), .val (.int (1 : Int32)), .val (.int (2 : Int32))] [(.int (1 : Int32))])) _
          refine XS.ifNo X86.here hx rfl (hb hby at_124) rfl ((if0 _ _).trans (feq (by decide : ¬ ((1 : Int32) = (0 : Int32)))).1) ?_
          show Steps p.tables e below (T86.setTop (mkF m 127 #[.val (.long pj0), .second, .val (.long pj1), .second, .val (.int pi2), .val (.int pi3), .val (.ref b1), .val (.int (1 : Int32)), .val (.int (2 : Int32))] [])) _
          refine XS.aload X86.here hx rfl (hb hby at_127) rfl rfl ?_
          show Steps p.tables e below (T86.setTop (mkF m 129 #[.val (.long pj0), .second, .val (.long pj1), .second, .val (.int pi2), .val (.int pi3), .val (.ref b1), .val (.int (1 : Int32)), .val (.int (2 : Int32))] [(.ref b1)])) _
          refine st87.trans ?_
          show Steps p.tables e below (T87.setTop (mkF m 132 #[.val (.long pj0), .second, .val (.long pj1), .second, .val (.int pi2), .val (.int pi3), .val (.ref b1), .val (.int (1 : Int32)), .val (.int (2 : Int32))] [(.int (0 : Int32))])) _
          refine XS.ifNo X87.here hx rfl (hb hby at_132) rfl ((if0 _ _).trans (teq (by decide : (0 : Int32) = (0 : Int32))).2) ?_
          show Steps p.tables e below (T87.setTop (mkF m 135 #[.val (.long pj0), .second, .val (.long pj1), .second, .val (.int pi2), .val (.int pi3), .val (.ref b1), .val (.int (1 : Int32)), .val (.int (2 : Int32))] [])) _
          refine XS.iconst X87.here hx rfl (hb hby at_135) ?_
          show Steps p.tables e below (T87.setTop (mkF m 136 #[.val (.long pj0), .second, .val (.long pj1), .second, .val (.int pi2), .val (.int pi3), .val (.ref b1), .val (.int (1 : Int32)), .val (.int (2 : Int32))] [(.int (1 : Int32))])) _
          refine XS.goto X87.here hx rfl (pc0 := 136) (pc' := 140) rfl (hb hby at_136) (by decide) (by decide) ?_
          show Steps p.tables e below (T87.setTop (mkF m 140 #[.val (.long pj0), .second, .val (.long pj1), .second, .val (.int pi2), .val (.int pi3), .val (.ref b1), .val (.int (1 : Int32)), .val (.int (2 : Int32))] [(.int (1 : Int32))])) _
          refine XS.istore X87.here hx rfl (hb hby at_140) rfl (l' := #[.val (.long pj0), .second, .val (.long pj1), .second, .val (.int pi2), .val (.int pi3), .val (.ref b1), .val (.int (1 : Int32)), .val (.int (2 : Int32))]) rfl ?_
          show Steps p.tables e below (T87.setTop (mkF m 142 #[.val (.long pj0), .second, .val (.long pj1), .second, .val (.int pi2), .val (.int pi3), .val (.ref b1), .val (.int (1 : Int32)), .val (.int (2 : Int32))] [])) _
          exact kt
        obtain ⟨s₂, o₂, hs₂, hr₂⟩ := own_tail142 pj0 pj1 pi2 pi3 b1 (2 : Int32) (3 : Int32) (0 : Int32) Xm88 hx hZ hw hby hml hown e87 N87 Z86 Bd.returns (BodyLoose.notSynchronized Bd) p86_0 p86_2 p86_3 ge1
        exact ⟨s₂, o₂, go90 _ hs₂, hr₂⟩
  · skip
    rw [hk6] at go5
    have go91 : ∀ t, Steps p.tables e below (T4.setTop (mkF m 26 #[.val (.long pj0), .second, .val (.long pj1), .second, .val (.int pi2), .val (.int pi3), .val (.ref b1), .val (.int (1 : Int32)), .val (.int (3 : Int32))] [(.int (pi3 &&& (1 : Int32)))])) t → Steps p.tables e below st0 t := by
      intro t kt
      refine go5 t ?_
      refine XS.iload X4.here hx rfl (hb hby at_22) rfl ?_
      show Steps p.tables e below (T4.setTop (mkF m 24 #[.val (.long pj0), .second, .val (.long pj1), .second, .val (.int pi2), .val (.int pi3), .val (.ref b1), .val (.int (1 : Int32)), .val (.int (3 : Int32))] [(.int pi3)])) _
      refine XS.iconst X4.here hx rfl (hb hby at_24) ?_
      show Steps p.tables e below (T4.setTop (mkF m 25 #[.val (.long pj0), .second, .val (.long pj1), .second, .val (.int pi2), .val (.int pi3), .val (.ref b1), .val (.int (1 : Int32)), .val (.int (3 : Int32))] [(.int (1 : Int32)), (.int pi3)])) _
      refine XS.iand X4.here hx rfl (hb hby at_25) rfl ?_
      show Steps p.tables e below (T4.setTop (mkF m 26 #[.val (.long pj0), .second, .val (.long pj1), .second, .val (.int pi2), .val (.int pi3), .val (.ref b1), .val (.int (1 : Int32)), .val (.int (3 : Int32))] [(.int (pi3 &&& (1 : Int32)))])) _
      exact kt
    by_cases hc92 : (pi3 &&& (1 : Int32)) = (0 : Int32)
    · skip
      have f93 : Arv Z T3.heap nn ka .long (0 : Int32) [] (.long (0 : Int64)) := ((P1.ext E1).keep Kc3 (ninS ne1_nn nin0))
      obtain ⟨cq94, kq94, q94a, q94b, q94c⟩ := isOf hZ e4 p3_0
      obtain ⟨_, _, ⟨T94, L94, k94, n94⟩, -, X94, ⟨Lc94, hQ94, l94, y94, z94⟩, st94⟩ := X4.virtualBack hx (y := (⟨"com/example/kalends/kalends/engine/LongList", "add", "(J)V"⟩ : MethodName)) (z := (⟨"com/example/kalends/kalends/engine/LongList", "add", "(J)V"⟩ : MethodName)) hown (mvT hZ (hw _ (List.mem_of_getElem? (i := 31) rfl))) (mvT hZ (hw _ (List.mem_of_getElem? (i := 32) rfl))) (notFace_of_selects (args := #[]) (mvT hZ (hw _ (List.mem_of_getElem? (i := 34) rfl)))) (mvT hZ (hw _ (List.mem_of_getElem? (i := 34) rfl))) (mvT hZ (hw _ (List.mem_of_getElem? (i := 33) rfl))) (by decide) (backOf (W := 0) (own_addN l Z a0 hw [] b1 pj0 nn ka (0 : Int64) (0 : Int64) T3.heap n0 Z3 p3_0 p3_1 p3_2 p3_3 p3_4 p3_5 f93 ne1_nn ge1) hZ (hw _ (List.mem_of_getElem? (i := 35) rfl)) (hw _ (List.mem_of_getElem? (i := 2) rfl)) (by decide) (by decide)) q94a q94c (g := (mkF m 50 #[.val (.long pj0), .second, .val (.long pj1), .second, .val (.int pi2), .val (.int pi3), .val (.ref b1), .val (.int (1 : Int32)), .val (.int (3 : Int32))] [(.long pj0), (.ref b1)])) rfl (by rw [hml]; rfl) (Steps.refl _) (argsL := [(.long pj0)]) (rest := []) (lenOf pd_17 rfl) rfl (by show 2 * 0 + _ ≤ _; exact Nat.le_of_eq rfl) (hb hby at_50) (fun _ _ => ⟨rfl, e4, (by decide : 1 + 1 ≤ _), (by decide : 5 + 8 ≤ _)⟩)
      dsimp only [Pt.U, Pt.locs, Pt.cells, Pt.slots] at X94 l94 y94 z94 st94 hQ94
      subst l94 y94 z94
      obtain ⟨Nq94, b94_0, y94_0, y94_1, rfl, szb94_0, Kc94, p94_0, p94_1, p94_2, p94_3, p94_4, p94_5⟩ := hQ94
      have N94 := Fr.app N4 Nq94
      have ne_b94_0_b1 : b1 ≠ b94_0 := Nat.ne_of_lt (Nat.lt_of_lt_of_le p3_0.lt szb94_0)
      have ne_b94_0_nn : nn ≠ b94_0 := Nat.ne_of_lt (Nat.lt_of_lt_of_le f93.lt szb94_0)
      have ge_b94_0 : n0 ≤ b94_0 := Nat.le_trans Z3 szb94_0
      have Z94 : n0 ≤ T94.heap.size := Nat.le_trans Z3 Kc94.1
      obtain ⟨cq95, kq95, q95a, q95b, q95c⟩ := isOf hZ rfl p94_0
      obtain ⟨_, _, ⟨T95, L95, k95, n95⟩, -, X95, ⟨Lc95, hQ95, l95, y95, z95⟩, st95⟩ := X94.virtualBack hx (y := (⟨"com/example/kalends/kalends/engine/LongList", "add", "(J)V"⟩ : MethodName)) (z := (⟨"com/example/kalends/kalends/engine/LongList", "add", "(J)V"⟩ : MethodName)) hown (mvT hZ (hw _ (List.mem_of_getElem? (i := 31) rfl))) (mvT hZ (hw _ (List.mem_of_getElem? (i := 32) rfl))) (notFace_of_selects (args := #[]) (mvT hZ (hw _ (List.mem_of_getElem? (i := 34) rfl)))) (mvT hZ (hw _ (List.mem_of_getElem? (i := 34) rfl))) (mvT hZ (hw _ (List.mem_of_getElem? (i := 33) rfl))) (by decide) (backOf (W := 0) (own_addV1 l Z a0 hw [] b1 pj1 b94_0 y94_0 y94_1 T94.heap n0 Z94 p94_0 p94_1 p94_2 p94_3 p94_4 p94_5 (Ne.symm ne_b94_0_b1) ge_b94_0 ge1) hZ (hw _ (List.mem_of_getElem? (i := 35) rfl)) (hw _ (List.mem_of_getElem? (i := 2) rfl)) (by decide) (by decide)) q95a q95c (g := (mkF m 62 #[.val (.long pj0), .second, .val (.long pj1), .second, .val (.int pi2), .val (.int pi3), .val (.ref b1), .val (.int (1 : Int32)), .val (.int (3 : Int32))] [(.long pj1), (.ref b1)])) rfl (by rw [hml]; rfl) (Steps.refl _) (argsL := [(.long pj1)]) (rest := []) (lenOf pd_17 rfl) rfl (by show 2 * 0 + _ ≤ _; exact Nat.le_of_eq rfl) (hb hby at_62) (fun _ _ => ⟨rfl, rfl, (by decide : 2 + 0 ≤ _), (by decide : 13 + 0 ≤ _)⟩)
      dsimp only [Pt.U, Pt.locs, Pt.cells, Pt.slots] at X95 l95 y95 z95 st95 hQ95
      subst l95 y95 z95
      obtain ⟨Nq95, y95_0, rfl, Kc95, p95_0, p95_1, p95_2, p95_3, p95_4, p95_5⟩ := hQ95
      have N95 := Fr.app N94 Nq95
      have Z95 : n0 ≤ T95.heap.size := Nat.le_trans Z94 Kc95.1
      obtain ⟨cq96, kq96, q96a, q96b, q96c⟩ := isOf hZ rfl p95_0
      obtain ⟨_, _, ⟨T96, L96, k96, n96⟩, -, X96, ⟨Lc96, hQ96, l96, y96, z96⟩, st96⟩ := X95.virtualBack hx (y := (⟨"com/example/kalends/kalends/engine/LongList", "add", "(J)V"⟩ : MethodName)) (z := (⟨"com/example/kalends/kalends/engine/LongList", "add", "(J)V"⟩ : MethodName)) hown (mvT hZ (hw _ (List.mem_of_getElem? (i := 31) rfl))) (mvT hZ (hw _ (List.mem_of_getElem? (i := 32) rfl))) (notFace_of_selects (args := #[]) (mvT hZ (hw _ (List.mem_of_getElem? (i := 34) rfl)))) (mvT hZ (hw _ (List.mem_of_getElem? (i := 34) rfl))) (mvT hZ (hw _ (List.mem_of_getElem? (i := 33) rfl))) (by decide) (backOf (W := 0) (own_addV2 l Z a0 hw [] b1 (pj0 ^^^ pj1) b94_0 y94_0 y95_0 T95.heap n0 Z95 p95_0 p95_1 p95_2 p95_3 p95_4 p95_5 (Ne.symm ne_b94_0_b1) ge_b94_0 ge1) hZ (hw _ (List.mem_of_getElem? (i := 35) rfl)) (hw _ (List.mem_of_getElem? (i := 2) rfl)) (by decide) (by decide)) q96a q96c (g := (mkF m 76 #[.val (.long pj0), .second, .val (.long pj1), .second, .val (.int pi2), .val (.int pi3), .val (.ref b1), .val (.int (1 : Int32)), .val (.int (3 : Int32))] [(.long (pj0 ^^^ pj1)), (.ref b1)])) rfl (by rw [hml]; rfl) (Steps.refl _) (argsL := [(.long (pj0 ^^^ pj1))]) (rest := []) (lenOf pd_17 rfl) rfl (by show 2 * 0 + _ ≤ _; exact Nat.le_of_eq rfl) (hb hby at_76) (fun _ _ => ⟨rfl, rfl, (by decide : 2 + 0 ≤ _), (by decide : 13 + 0 ≤ _)⟩)
      dsimp only [Pt.U, Pt.locs, Pt.cells, Pt.slots] at X96 l96 y96 z96 st96 hQ96
      subst l96 y96 z96
      obtain ⟨Nq96, y96_0, rfl, Kc96, p96_0, p96_1, p96_2, p96_3, p96_4, p96_5⟩ := hQ96
      have N96 := Fr.app N95 Nq96
      have Z96 : n0 ≤ T96.heap.size := Nat.le_trans Z95 Kc96.1
      obtain ⟨cq97, kq97, q97a, q97b, q97c⟩ := isOf hZ rfl p96_0
      obtain ⟨_, _, ⟨T97, L97, k97, n97⟩, -, X97, ⟨Lc97, hQ97, l97, y97, z97⟩, st97⟩ := X96.virtualBack hx (y := (⟨"com/example/kalends/kalends/engine/LongList", "isEmpty", "()Z"⟩ : MethodName)) (z := (⟨"com/example/kalends/kalends/engine/LongList", "isEmpty", "()Z"⟩ : MethodName)) hown (mvT hZ (hw _ (List.mem_of_getElem? (i := 13) rfl))) (mvT hZ (hw _ (List.mem_of_getElem? (i := 14) rfl))) (notFace_of_selects (args := #[]) (mvT hZ (hw _ (List.mem_of_getElem? (i := 16) rfl)))) (mvT hZ (hw _ (List.mem_of_getElem? (i := 16) rfl))) (mvT hZ (hw _ (List.mem_of_getElem? (i := 15) rfl))) (by decide) (backOf (W := 0) (own_empty_t l Z a0 hw [] b1 (3 : Int32) T96.heap n0 Z96 p96_2 (by decide : ¬ ((3 : Int32) = (0 : Int32)))) hZ (hw _ (List.mem_of_getElem? (i := 17) rfl)) (hw _ (List.mem_of_getElem? (i := 2) rfl)) (by decide) (by decide)) q97a q97c (g := (mkF m 86 #[.val (.long pj0), .second, .val (.long pj1), .second, .val (.int pi2), .val (.int pi3), .val (.ref b1), .val (.int (1 : Int32)), .val (.int (3 : Int32))] [(.ref b1)])) rfl (by rw [hml]; rfl) (Steps.refl _) (argsL := []) (rest := []) (lenOf pd_16 rfl) rfl (by show 2 * 0 + _ ≤ _; exact Nat.le_of_eq rfl) (hb hby at_86) (fun _ _ => ⟨rfl, rfl, (by decide : 2 + 0 ≤ _), (by decide : 13 + 0 ≤ _)⟩)
      dsimp only [Pt.U, Pt.locs, Pt.cells, Pt.slots] at X97 l97 y97 z97 st97 hQ97
      subst l97 y97 z97
      obtain ⟨rfl, Nq97, e97⟩ := hQ97
      have N97 := Fr.app N96 Nq97
      have go98 : ∀ t, Steps p.tables e below (T97.setTop (mkF m 113 #[.val (.long pj0), .second, .val (.long pj1), .second, .val (.int pi2), .val (.int pi3), .val (.ref b1), .val (.int (1 : Int32)), .val (.int (3 : Int32))] [(.int (pi3 &&& (2 : Int32)))])) t → Steps p.tables e below st0 t := by
        intro t kt
        refine go91 t ?_
        refine XS.ifYes X4.here hx rfl (pc0 := 26) (pc' := 41) rfl (hb hby at_26) rfl ((if0 _ _).trans (teq hc92).1) (by decide) (by decide) ?_
        show Steps p.tables e below (T4.setTop (mkF m 41 #[.val (.long pj0), .second, .val (.long pj1), .second, .val (.int pi2), .val (.int pi3), .val (.ref b1), .val (.int (1 : Int32)), .val (.int (3 : Int32))] [])) _
        refine XS.iload X4.here hx rfl (hb hby at_41) rfl ?_
        show Steps p.tables e below (T4.setTop (mkF m 43 #[.val (.long pj0), .second, .val (.long pj1), .second, .val (.int pi2), .val (.int pi3), .val (.ref b1), .val (.int (1 : Int32)), .val (.int (3 : Int32))] [(.int (3 : Int32))])) _
        refine XS.iconst X4.here hx rfl (hb hby at_43) ?_
        show Steps p.tables e below (T4.setTop (mkF m 44 #[.val (.long pj0), .second, .val (.long pj1), .second, .val (.int pi2), .val (.int pi3), .val (.ref b1), .val (.int (1 : Int32)), .val (.int (3 : Int32))] [(.int (1 : Int32)), (.int (3 : Int32))])) _
        refine XS.icmpNo X4.here hx rfl (hb hby at_44) rfl (flt (by decide : ¬ ((3 : Int32) < (1 : Int32)))).1 ?_
        show Steps p.tables e below (T4.setTop (mkF m 47 #[.val (.long pj0), .second, .val (.long pj1), .second, .val (.int pi2), .val (.int pi3), .val (.ref b1), .val (.int (1 : Int32)), .val (.int (3 : Int32))] [])) _
        refine XS.aload X4.here hx rfl (hb hby at_47) rfl rfl ?_
        show Steps p.tables e below (T4.setTop (mkF m 49 #[.val (.long pj0), .second, .val (.long pj1), .second, .val (.int pi2), .val (.int pi3), .val (.ref b1), .val (.int (1 : Int32)), .val (.int (3 : Int32))] [(.ref b1)])) _
        refine XS.lloadN X4.here hx rfl (hb hby at_49) rfl ?_
        show Steps p.tables e below (T4.setTop (mkF m 50 #[.val (.long pj0), .second, .val (.long pj1), .second, .val (.int pi2), .val (.int pi3), .val (.ref b1), .val (.int (1 : Int32)), .val (.int (3 : Int32))] [(.long pj0), (.ref b1)])) _
        refine st94.trans ?_
        show Steps p.tables e below (T94.setTop (mkF m 53 #[.val (.long pj0), .second, .val (.long pj1), .second, .val (.int pi2), .val (.int pi3), .val (.ref b1), .val (.int (1 : Int32)), .val (.int (3 : Int32))] [])) _
        refine XS.iload X94.here hx rfl (hb hby at_53) rfl ?_
        show Steps p.tables e below (T94.setTop (mkF m 55 #[.val (.long pj0), .second, .val (.long pj1), .second, .val (.int pi2), .val (.int pi3), .val (.ref b1), .val (.int (1 : Int32)), .val (.int (3 : Int32))] [(.int (3 : Int32))])) _
        refine XS.iconst X94.here hx rfl (hb hby at_55) ?_
        show Steps p.tables e below (T94.setTop (mkF m 56 #[.val (.long pj0), .second, .val (.long pj1), .second, .val (.int pi2), .val (.int pi3), .val (.ref b1), .val (.int (1 : Int32)), .val (.int (3 : Int32))] [(.int (2 : Int32)), (.int (3 : Int32))])) _
        refine XS.icmpNo X94.here hx rfl (hb hby at_56) rfl (flt (by decide : ¬ ((3 : Int32) < (2 : Int32)))).1 ?_
        show Steps p.tables e below (T94.setTop (mkF m 59 #[.val (.long pj0), .second, .val (.long pj1), .second, .val (.int pi2), .val (.int pi3), .val (.ref b1), .val (.int (1 : Int32)), .val (.int (3 : Int32))] [])) _
        refine XS.aload X94.here hx rfl (hb hby at_59) rfl rfl ?_
        show Steps p.tables e below (T94.setTop (mkF m 61 #[.val (.long pj0), .second, .val (.long pj1), .second, .val (.int pi2), .val (.int pi3), .val (.ref b1), .val (.int (1 : Int32)), .val (.int (3 : Int32))] [(.ref b1)])) _
        refine XS.lloadN X94.here hx rfl (hb hby at_61) rfl ?_
        show Steps p.tables e below (T94.setTop (mkF m 62 #[.val (.long pj0), .second, .val (.long pj1), .second, .val (.int pi2), .val (.int pi3), .val (.ref b1), .val (.int (1 : Int32)), .val (.int (3 : Int32))] [(.long pj1), (.ref b1)])) _
        refine st95.trans ?_
        show Steps p.tables e below (T95.setTop (mkF m 65 #[.val (.long pj0), .second, .val (.long pj1), .second, .val (.int pi2), .val (.int pi3), .val (.ref b1), .val (.int (1 : Int32)), .val (.int (3 : Int32))] [])) _
        refine XS.iload X95.here hx rfl (hb hby at_65) rfl ?_
        show Steps p.tables e below (T95.setTop (mkF m 67 #[.val (.long pj0), .second, .val (.long pj1), .second, .val (.int pi2), .val (.int pi3), .val (.ref b1), .val (.int (1 : Int32)), .val (.int (3 : Int32))] [(.int (3 : Int32))])) _
        refine XS.iconst X95.here hx rfl (hb hby at_67) ?_
        show Steps p.tables e below (T95.setTop (mkF m 68 #[.val (.long pj0), .second, .val (.long pj1), .second, .val (.int pi2), .val (.int pi3), .val (.ref b1), .val (.int (1 : Int32)), .val (.int (3 : Int32))] [(.int (3 : Int32)), (.int (3 : Int32))])) _
        refine XS.icmpNo X95.here hx rfl (hb hby at_68) rfl (flt (by decide : ¬ ((3 : Int32) < (3 : Int32)))).1 ?_
        show Steps p.tables e below (T95.setTop (mkF m 71 #[.val (.long pj0), .second, .val (.long pj1), .second, .val (.int pi2), .val (.int pi3), .val (.ref b1), .val (.int (1 : Int32)), .val (.int (3 : Int32))] [])) _
        refine XS.aload X95.here hx rfl (hb hby at_71) rfl rfl ?_
        show Steps p.tables e below (T95.setTop (mkF m 73 #[.val (.long pj0), .second, .val (.long pj1), .second, .val (.int pi2), .val (.int pi3), .val (.ref b1), .val (.int (1 : Int32)), .val (.int (3 : Int32))] [(.ref b1)])) _
        refine XS.lloadN X95.here hx rfl (hb hby at_73) rfl ?_
        show Steps p.tables e below (T95.setTop (mkF m 74 #[.val (.long pj0), .second, .val (.long pj1), .second, .val (.int pi2), .val (.int pi3), .val (.ref b1), .val (.int (1 : Int32)), .val (.int (3 : Int32))] [(.long pj0), (.ref b1)])) _
        refine XS.lloadN X95.here hx rfl (hb hby at_74) rfl ?_
        show Steps p.tables e below (T95.setTop (mkF m 75 #[.val (.long pj0), .second, .val (.long pj1), .second, .val (.int pi2), .val (.int pi3), .val (.ref b1), .val (.int (1 : Int32)), .val (.int (3 : Int32))] [(.long pj1), (.long pj0), (.ref b1)])) _
        refine XS.lxor X95.here hx rfl (hb hby at_75) rfl ?_
        show Steps p.tables e below (T95.setTop (mkF m 76 #[.val (.long pj0), .second, .val (.long pj1), .second, .val (.int pi2), .val (.int pi3), .val (.ref b1), .val (.int (1 : Int32)), .val (.int (3 : Int32))] [(.long (pj0 ^^^ pj1)), (.ref b1)])) _
        refine st96.trans ?_
        show Steps p.tables e below (T96.setTop (mkF m 79 #[.val (.long pj0), .second, .val (.long pj1), .second, .val (.int pi2), .val (.int pi3), .val (.ref b1), .val (.int (1 : Int32)), .val (.int (3 : Int32))] [])) _
        refine XS.iload X96.here hx rfl (hb hby at_79) rfl ?_
        show Steps p.tables e below (T96.setTop (mkF m 81 #[.val (.long pj0), .second, .val (.long pj1), .second, .val (.int pi2), .val (.int pi3), .val (.ref b1), .val (.int (1 : Int32)), .val (.int (3 : Int32))] [(.int (1 : Int32))])) _
        refine XS.ifNo X96.here hx rfl (hb hby at_81) rfl ((if0 _ _).trans (feq (by decide : ¬ ((1 : Int32) = (0 : Int32)))).1) ?_
        show Steps p.tables e below (T96.setTop (mkF m 84 #[.val (.long pj0), .second, .val (.long pj1), .second, .val (.int pi2), .val (.int pi3), .val (.ref b1), .val (.int (1 : Int32)), .val (.int (3 : Int32))] [])) _
        refine XS.aload X96.here hx rfl (hb hby at_84) rfl rfl ?_
        show Steps p.tables e below (T96.setTop (mkF m 86 #[.val (.long pj0), .second, .val (.long pj1), .second, .val (.int pi2), .val (.int pi3), .val (.ref b1), .val (.int (1 : Int32)), .val (.int (3 : Int32))] [(.ref b1)])) _
        refine st97.trans ?_
        show Steps p.tables e below (T97.setTop (mkF m 89 #[.val (.long pj0), .second, .val (.long pj1), .second, .val (.int pi2), .val (.int pi3), .val (.ref b1), .val (.int (1 : Int32)), .val (.int (3 : Int32))] [(.int (0 : Int32))])) _
        refine XS.iload X97.here hx rfl (hb hby at_89) rfl ?_
        show Steps p.tables e below (T97.setTop (mkF m 91 #[.val (.long pj0), .second, .val (.long pj1), .second, .val (.int pi2), .val (.int pi3), .val (.ref b1), .val (.int (1 : Int32)), .val (.int (3 : Int32))] [(.int (3 : Int32)), (.int (0 : Int32))])) _
        refine XS.ifYes X97.here hx rfl (pc0 := 91) (pc' := 98) rfl (hb hby at_91) rfl ((if0 _ _).trans (feq (by decide : ¬ ((3 : Int32) = (0 : Int32)))).2) (by decide) (by decide) ?_
        show Steps p.tables e below (T97.setTop (mkF m 98 #[.val (.long pj0), .second, .val (.long pj1), .second, .val (.int pi2), .val (.int pi3), .val (.ref b1), .val (.int (1 : Int32)), .val (.int (3 : Int32))] [(.int (0 : Int32))])) _
        refine XS.iconst X97.here hx rfl (hb hby at_98) ?_
        show Steps p.tables e below (T97.setTop (mkF m 99 #[.val (.long pj0), .second, .val (.long pj1), .second, .val (.int pi2), .val (.int pi3), .val (.ref b1), .val (.int (1 : Int32)), .val (.int (3 : Int32))] [(.int (0 : Int32)), (.int (0 : Int32))])) _
        refine XS.icmpNo X97.here hx rfl (hb hby at_99) rfl (teq (by decide : (0 : Int32) = (0 : Int32))).2 ?_
        show Steps p.tables e below (T97.setTop (mkF m 102 #[.val (.long pj0), .second, .val (.long pj1), .second, .val (.int pi2), .val (.int pi3), .val (.ref b1), .val (.int (1 : Int32)), .val (.int (3 : Int32))] [])) _
        refine XS.iconst X97.here hx rfl (hb hby at_102) ?_
        show Steps p.tables e below (T97.setTop (mkF m 103 #[.val (.long pj0), .second, .val (.long pj1), .second, .val (.int pi2), .val (.int pi3), .val (.ref b1), .val (.int (1 : Int32)), .val (.int (3 : Int32))] [(.int (1 : Int32))])) _
        refine XS.goto X97.here hx rfl (pc0 := 103) (pc' := 107) rfl (hb hby at_103) (by decide) (by decide) ?_
        show Steps p.tables e below (T97.setTop (mkF m 107 #[.val (.long pj0), .second, .val (.long pj1), .second, .val (.int pi2), .val (.int pi3), .val (.ref b1), .val (.int (1 : Int32)), .val (.int (3 : Int32))] [(.int (1 : Int32))])) _
        refine XS.istore X97.here hx rfl (hb hby at_107) rfl (l' := #[.val (.long pj0), .second, .val (.long pj1), .second, .val (.int pi2), .val (.int pi3), .val (.ref b1), .val (.int (1 : Int32)), .val (.int (3 : Int32))]) rfl ?_
        show Steps p.tables e below (T97.setTop (mkF m 109 #[.val (.long pj0), .second, .val (.long pj1), .second, .val (.int pi2), .val (.int pi3), .val (.ref b1), .val (.int (1 : Int32)), .val (.int (3 : Int32))] [])) _
        refine XS.iload X97.here hx rfl (hb hby at_109) rfl ?_
        show Steps p.tables e below (T97.setTop (mkF m 111 #[.val (.long pj0), .second, .val (.long pj1), .second, .val (.int pi2), .val (.int pi3), .val (.ref b1), .val (.int (1 : Int32)), .val (.int (3 : Int32))] [(.int pi3)])) _
        refine XS.iconst X97.here hx rfl (hb hby at_111) ?_
        show Steps p.tables e below (T97.setTop (mkF m 112 #[.val (.long pj0), .second, .val (.long pj1), .second, .val (.int pi2), .val (.int pi3), .val (.ref b1), .val (.int (1 : Int32)), .val (.int (3 : Int32))] [(.int (2 : Int32)), (.int pi3)])) _
        refine XS.iand X97.here hx rfl (hb hby at_112) rfl ?_
        show Steps p.tables e below (T97.setTop (mkF m 113 #[.val (.long pj0), .second, .val (.long pj1), .second, .val (.int pi2), .val (.int pi3), .val (.ref b1), .val (.int (1 : Int32)), .val (.int (3 : Int32))] [(.int (pi3 &&& (2 : Int32)))])) _
        exact kt
      by_cases hc99 : (pi3 &&& (2 : Int32)) = (0 : Int32)
      · skip
        have Xm100 := own_mono X97 (k' := 5) (j' := 32) (by decide) (by decide)
        have go102 : ∀ t, Steps p.tables e below (T97.setTop (mkF m 142 #[.val (.long pj0), .second, .val (.long pj1), .second, .val (.int pi2), .val (.int pi3), .val (.ref b1), .val (.int (1 : Int32)), .val (.int (3 : Int32))] [])) t → Steps p.tables e below st0 t := by
          intro t kt
          refine go98 t ?_
          refine XS.ifYes X97.here hx rfl (pc0 := 113) (pc' := 142) rfl (hb hby at_113) rfl ((if0 _ _).trans (teq hc99).1) (by decide) (by decide) ?_
          show Steps p.tables e below (T97.setTop (mkF m 142 #[.val (.long pj0), .second, .val (.long pj1), .second, .val (.int pi2), .val (.int pi3), .val (.ref b1), .val (.int (1 : Int32)), .val (.int (3 : Int32))] [])) _
          exact kt
        obtain ⟨s₂, o₂, hs₂, hr₂⟩ := own_tail142 pj0 pj1 pi2 pi3 b1 (3 : Int32) (3 : Int32) (0 : Int32) Xm100 hx hZ hw hby hml hown e97 N97 Z96 Bd.returns (BodyLoose.notSynchronized Bd) p96_0 p96_2 p96_3 ge1
        exact ⟨s₂, o₂, go102 _ hs₂, hr₂⟩
      · skip
        obtain ⟨cq103, kq103, q103a, q103b, q103c⟩ := isOf hZ e97 p96_0
        obtain ⟨_, _, ⟨T103, L103, k103, n103⟩, -, X103, ⟨Lc103, hQ103, l103, y103, z103⟩, st103⟩ := X97.virtualBack hx (y := (⟨"com/example/kalends/kalends/engine/LongList", "add", "(J)V"⟩ : MethodName)) (z := (⟨"com/example/kalends/kalends/engine/LongList", "add", "(J)V"⟩ : MethodName)) hown (mvT hZ (hw _ (List.mem_of_getElem? (i := 31) rfl))) (mvT hZ (hw _ (List.mem_of_getElem? (i := 32) rfl))) (notFace_of_selects (args := #[]) (mvT hZ (hw _ (List.mem_of_getElem? (i := 34) rfl)))) (mvT hZ (hw _ (List.mem_of_getElem? (i := 34) rfl))) (mvT hZ (hw _ (List.mem_of_getElem? (i := 33) rfl))) (by decide) (backOf (W := 0) (own_addV3 l Z a0 hw [] b1 pj1 b94_0 y94_0 y96_0 T96.heap n0 Z96 p96_0 p96_1 p96_2 p96_3 p96_4 p96_5 (Ne.symm ne_b94_0_b1) ge_b94_0 ge1) hZ (hw _ (List.mem_of_getElem? (i := 35) rfl)) (hw _ (List.mem_of_getElem? (i := 2) rfl)) (by decide) (by decide)) q103a q103c (g := (mkF m 119 #[.val (.long pj0), .second, .val (.long pj1), .second, .val (.int pi2), .val (.int pi3), .val (.ref b1), .val (.int (1 : Int32)), .val (.int (3 : Int32))] [(.long pj1), (.ref b1)])) rfl (by rw [hml]; rfl) (Steps.refl _) (argsL := [(.long pj1)]) (rest := []) (lenOf pd_17 rfl) rfl (by show 2 * 0 + _ ≤ _; exact Nat.le_of_eq rfl) (hb hby at_119) (fun _ _ => ⟨rfl, e97, (by decide : 2 + 0 ≤ _), (by decide : 13 + 0 ≤ _)⟩)
        dsimp only [Pt.U, Pt.locs, Pt.cells, Pt.slots] at X103 l103 y103 z103 st103 hQ103
        subst l103 y103 z103
        obtain ⟨Nq103, y103_0, rfl, Kc103, p103_0, p103_1, p103_2, p103_3, p103_4, p103_5⟩ := hQ103
        have N103 := Fr.app N97 Nq103
        have Z103 : n0 ≤ T103.heap.size := Nat.le_trans Z96 Kc103.1
        obtain ⟨cq104, kq104, q104a, q104b, q104c⟩ := isOf hZ rfl p103_0
        obtain ⟨_, _, ⟨T104, L104, k104, n104⟩, -, X104, ⟨Lc104, hQ104, l104, y104, z104⟩, st104⟩ := X103.virtualBack hx (y := (⟨"com/example/kalends/kalends/engine/LongList", "isEmpty", "()Z"⟩ : MethodName)) (z := (⟨"com/example/kalends/kalends/engine/LongList", "isEmpty", "()Z"⟩ : MethodName)) hown (mvT hZ (hw _ (List.mem_of_getElem? (i := 13) rfl))) (mvT hZ (hw _ (List.mem_of_getElem? (i := 14) rfl))) (notFace_of_selects (args := #[]) (mvT hZ (hw _ (List.mem_of_getElem? (i := 16) rfl)))) (mvT hZ (hw _ (List.mem_of_getElem? (i := 16) rfl))) (mvT hZ (hw _ (List.mem_of_getElem? (i := 15) rfl))) (by decide) (backOf (W := 0) (own_empty_t l Z a0 hw [] b1 (4 : Int32) T103.heap n0 Z103 p103_2 (by decide : ¬ ((4 : Int32) = (0 : Int32)))) hZ (hw _ (List.mem_of_getElem? (i := 17) rfl)) (hw _ (List.mem_of_getElem? (i := 2) rfl)) (by decide) (by decide)) q104a q104c (g := (mkF m 129 #[.val (.long pj0), .second, .val (.long pj1), .second, .val (.int pi2), .val (.int pi3), .val (.ref b1), .val (.int (1 : Int32)), .val (.int (3 : Int32))] [(.ref b1)])) rfl (by rw [hml]; rfl) (Steps.refl _) (argsL := []) (rest := []) (lenOf pd_16 rfl) rfl (by show 2 * 0 + _ ≤ _; exact Nat.le_of_eq rfl) (hb hby at_129) (fun _ _ => ⟨rfl, rfl, (by decide : 2 + 0 ≤ _), (by decide : 13 + 0 ≤ _)⟩)
        dsimp only [Pt.U, Pt.locs, Pt.cells, Pt.slots] at X104 l104 y104 z104 st104 hQ104
        subst l104 y104 z104
        obtain ⟨rfl, Nq104, e104⟩ := hQ104
        have N104 := Fr.app N103 Nq104
        have Xm105 := own_mono X104 (k' := 5) (j' := 32) (by decide) (by decide)
        have go107 : ∀ t, Steps p.tables e below (T104.setTop (mkF m 142 #[.val (.long pj0), .second, .val (.long pj1), .second, .val (.int pi2), .val (.int pi3), .val (.ref b1), .val (.int (1 : Int32)), .val (.int (3 : Int32))] [])) t → Steps p.tables e below st0 t := by
          intro t kt
          refine go98 t ?_
          refine XS.ifNo X97.here hx rfl (hb hby at_113) rfl ((if0 _ _).trans (feq hc99).1) ?_
          show Steps p.tables e below (T97.setTop (mkF m 116 #[.val (.long pj0), .second, .val (.long pj1), .second, .val (.int pi2), .val (.int pi3), .val (.ref b1), .val (.int (1 : Int32)), .val (.int (3 : Int32))] [])) _
          refine XS.aload X97.here hx rfl (hb hby at_116) rfl rfl ?_
          show Steps p.tables e below (T97.setTop (mkF m 118 #[.val (.long pj0), .second, .val (.long pj1), .second, .val (.int pi2), .val (.int pi3), .val (.ref b1), .val (.int (1 : Int32)), .val (.int (3 : Int32))] [(.ref b1)])) _
          refine XS.lloadN X97.here hx rfl (hb hby at_118) rfl ?_
          show Steps p.tables e below (T97.setTop (mkF m 119 #[.val (.long pj0), .second, .val (.long pj1), .second, .val (.int pi2), .val (.int pi3), .val (.ref b1), .val (.int (1 : Int32)), .val (.int (3 : Int32))] [(.long pj1), (.ref b1)])) _
          refine st103.trans ?_
          show Steps p.tables e below (T103.setTop (mkF m 122 #[.val (.long pj0), .second, .val (.long pj1), .second, .val (.int pi2), .val (.int pi3), .val (.ref b1), .val (.int (1 : Int32)), .val (.int (3 : Int32))] [])) _
          refine XS.iload X103.here hx rfl (hb hby at_122) rfl ?_
          show Steps p.tables e below (T103.setTop (mkF m 124 #[.val (.long pj0), .second, .val (.long pj1), .second, .val (.int pi2), .val (.int pi3), .val (.ref b1), .val (.int (1 : Int32)), .val (.int (3 : Int32))] [(.int (1 : Int32))])) _
          refine XS.ifNo X103.here hx rfl (hb hby at_124) rfl ((if0 _ _).trans (feq (by decide : ¬ ((1 : Int32) = (0 : Int32)))).1) ?_
          show Steps p.tables e below (T103.setTop (mkF m 127 #[.val (.long pj0), .second, .val (.long pj1), .second, .val (.int pi2), .val (.int pi3), .val (.ref b1), .val (.int (1 : Int32)), .val (.int (3 : Int32))] [])) _
          refine XS.aload X103.here hx rfl (hb hby at_127) rfl rfl ?_
          show Steps p.tables e below (T103.setTop (mkF m 129 #[.val (.long pj0), .second, .val (.long pj1), .second, .val (.int pi2), .val (.int pi3), .val (.ref b1), .val (.int (1 : Int32)), .val (.int (3 : Int32))] [(.ref b1)])) _
          refine st104.trans ?_
          show Steps p.tables e below (T104.setTop (mkF m 132 #[.val (.long pj0), .second, .val (.long pj1), .second, .val (.int pi2), .val (.int pi3), .val (.ref b1), .val (.int (1 : Int32)), .val (.int (3 : Int32))] [(.int (0 : Int32))])) _
          refine XS.ifNo X104.here hx rfl (hb hby at_132) rfl ((if0 _ _).trans (teq (by decide : (0 : Int32) = (0 : Int32))).2) ?_
          show Steps p.tables e below (T104.setTop (mkF m 135 #[.val (.long pj0), .second, .val (.long pj1), .second, .val (.int pi2), .val (.int pi3), .val (.ref b1), .val (.int (1 : Int32)), .val (.int (3 : Int32))] [])) _
          refine XS.iconst X104.here hx rfl (hb hby at_135) ?_
          show Steps p.tables e below (T104.setTop (mkF m 136 #[.val (.long pj0), .second, .val (.long pj1), .second, .val (.int pi2), .val (.int pi3), .val (.ref b1), .val (.int (1 : Int32)), .val (.int (3 : Int32))] [(.int (1 : Int32))])) _
          refine XS.goto X104.here hx rfl (pc0 := 136) (pc' := 140) rfl (hb hby at_136) (by decide) (by decide) ?_
          show Steps p.tables e below (T104.setTop (mkF m 140 #[.val (.long pj0), .second, .val (.long pj1), .second, .val (.int pi2), .val (.int pi3), .val (.ref b1), .val (.int (1 : Int32)), .val (.int (3 : Int32))] [(.int (1 : Int32))])) _
          refine XS.istore X104.here hx rfl (hb hby at_140) rfl (l' := #[.val (.long pj0), .second, .val (.long pj1), .second, .val (.int pi2), .val (.int pi3), .val (.ref b1), .val (.int (1 : Int32)), .val (.int (3 : Int32))]) rfl ?_
          show Steps p.tables e below (T104.setTop (mkF m 142 #[.val (.long pj0), .second, .val (.long pj1), .second, .val (.int pi2), .val (.int pi3), .val (.ref b1), .val (.int (1 : Int32)), .val (.int (3 : Int32))] [])) _
          exact kt
        obtain ⟨s₂, o₂, hs₂, hr₂⟩ := own_tail142 pj0 pj1 pi2 pi3 b1 (3 : Int32) (4 : Int32) (0 : Int32) Xm105 hx hZ hw hby hml hown e104 N104 Z103 Bd.returns (BodyLoose.notSynchronized Bd) p103_0 p103_2 p103_3 ge1
        exact ⟨s₂, o₂, go107 _ hs₂, hr₂⟩
    · skip
      obtain ⟨cq108, kq108, q108a, q108b, q108c⟩ := isOf hZ e4 p3_0
      obtain ⟨_, _, ⟨T108, L108, k108, n108⟩, -, X108, ⟨Lc108, hQ108, l108, y108, z108⟩, st108⟩ := X4.virtualBack hx (y := (⟨"com/example/kalends/kalends/engine/LongList", "addRun", "(JJI)V"⟩ : MethodName)) (z := (⟨"com/example/kalends/kalends/engine/LongList", "addRun", "(JJI)V"⟩ : MethodName)) hown (mvT hZ (hw _ (List.mem_of_getElem? (i := 20) rfl))) (mvT hZ (hw _ (List.mem_of_getElem? (i := 21) rfl))) (notFace_of_selects (args := #[]) (mvT hZ (hw _ (List.mem_of_getElem? (i := 23) rfl)))) (mvT hZ (hw _ (List.mem_of_getElem? (i := 23) rfl))) (mvT hZ (hw _ (List.mem_of_getElem? (i := 22) rfl))) (by decide) (backOf (W := 0) (own_addRun l Z a0 hw [] b1 pj0 pj1 (3 : Int32) nn T3.heap n0 Z3 p3_0 p3_1 p3_2 p3_3 p3_4 p3_5 ge1) hZ (hw _ (List.mem_of_getElem? (i := 24) rfl)) (hw _ (List.mem_of_getElem? (i := 2) rfl)) (by decide) (by decide)) q108a q108c (g := (mkF m 35 #[.val (.long pj0), .second, .val (.long pj1), .second, .val (.int pi2), .val (.int pi3), .val (.ref b1), .val (.int (1 : Int32)), .val (.int (3 : Int32))] [(.int (3 : Int32)), (.long pj1), (.long pj0), (.ref b1)])) rfl (by rw [hml]; rfl) (Steps.refl _) (argsL := [(.long pj0), (.long pj1), (.int (3 : Int32))]) (rest := []) (lenOf pd_18 rfl) rfl (by show 2 * 0 + _ ≤ _; exact Nat.le_of_eq rfl) (hb hby at_35) (fun _ _ => ⟨rfl, e4, (by decide : 1 + 0 ≤ _), (by decide : 5 + 0 ≤ _)⟩)
      dsimp only [Pt.U, Pt.locs, Pt.cells, Pt.slots] at X108 l108 y108 z108 st108 hQ108
      subst l108 y108 z108
      obtain ⟨Nq108, rfl, Kc108, p108_0, p108_1, p108_2, p108_3, p108_4, p108_5⟩ := hQ108
      have N108 := Fr.app N4 Nq108
      have Z108 : n0 ≤ T108.heap.size := Nat.le_trans Z3 Kc108.1
      obtain ⟨cq109, kq109, q109a, q109b, q109c⟩ := isOf hZ rfl p108_0
      obtain ⟨_, _, ⟨T109, L109, k109, n109⟩, -, X109, ⟨Lc109, hQ109, l109, y109, z109⟩, st109⟩ := X108.virtualBack hx (y := (⟨"com/example/kalends/kalends/engine/LongList", "isEmpty", "()Z"⟩ : MethodName)) (z := (⟨"com/example/kalends/kalends/engine/LongList", "isEmpty", "()Z"⟩ : MethodName)) hown (mvT hZ (hw _ (List.mem_of_getElem? (i := 13) rfl))) (mvT hZ (hw _ (List.mem_of_getElem? (i := 14) rfl))) (notFace_of_selects (args := #[]) (mvT hZ (hw _ (List.mem_of_getElem? (i := 16) rfl)))) (mvT hZ (hw _ (List.mem_of_getElem? (i := 16) rfl))) (mvT hZ (hw _ (List.mem_of_getElem? (i := 15) rfl))) (by decide) (backOf (W := 0) (own_empty_t l Z a0 hw [] b1 (3 : Int32) T108.heap n0 Z108 p108_2 (by decide : ¬ ((3 : Int32) = (0 : Int32)))) hZ (hw _ (List.mem_of_getElem? (i := 17) rfl)) (hw _ (List.mem_of_getElem? (i := 2) rfl)) (by decide) (by decide)) q109a q109c (g := (mkF m 86 #[.val (.long pj0), .second, .val (.long pj1), .second, .val (.int pi2), .val (.int pi3), .val (.ref b1), .val (.int (1 : Int32)), .val (.int (3 : Int32))] [(.ref b1)])) rfl (by rw [hml]; rfl) (Steps.refl _) (argsL := []) (rest := []) (lenOf pd_16 rfl) rfl (by show 2 * 0 + _ ≤ _; exact Nat.le_of_eq rfl) (hb hby at_86) (fun _ _ => ⟨rfl, rfl, (by decide : 1 + 0 ≤ _), (by decide : 5 + 0 ≤ _)⟩)
      dsimp only [Pt.U, Pt.locs, Pt.cells, Pt.slots] at X109 l109 y109 z109 st109 hQ109
      subst l109 y109 z109
      obtain ⟨rfl, Nq109, e109⟩ := hQ109
      have N109 := Fr.app N108 Nq109
      have go110 : ∀ t, Steps p.tables e below (T109.setTop (mkF m 113 #[.val (.long pj0), .second, .val (.long pj1), .second, .val (.int pi2), .val (.int pi3), .val (.ref b1), .val (.int (1 : Int32)), .val (.int (3 : Int32))] [(.int (pi3 &&& (2 : Int32)))])) t → Steps p.tables e below st0 t := by
        intro t kt
        refine go91 t ?_
        refine XS.ifNo X4.here hx rfl (hb hby at_26) rfl ((if0 _ _).trans (feq hc92).1) ?_
        show Steps p.tables e below (T4.setTop (mkF m 29 #[.val (.long pj0), .second, .val (.long pj1), .second, .val (.int pi2), .val (.int pi3), .val (.ref b1), .val (.int (1 : Int32)), .val (.int (3 : Int32))] [])) _
        refine XS.aload X4.here hx rfl (hb hby at_29) rfl rfl ?_
        show Steps p.tables e below (T4.setTop (mkF m 31 #[.val (.long pj0), .second, .val (.long pj1), .second, .val (.int pi2), .val (.int pi3), .val (.ref b1), .val (.int (1 : Int32)), .val (.int (3 : Int32))] [(.ref b1)])) _
        refine XS.lloadN X4.here hx rfl (hb hby at_31) rfl ?_
        show Steps p.tables e below (T4.setTop (mkF m 32 #[.val (.long pj0), .second, .val (.long pj1), .second, .val (.int pi2), .val (.int pi3), .val (.ref b1), .val (.int (1 : Int32)), .val (.int (3 : Int32))] [(.long pj0), (.ref b1)])) _
        refine XS.lloadN X4.here hx rfl (hb hby at_32) rfl ?_
        show Steps p.tables e below (T4.setTop (mkF m 33 #[.val (.long pj0), .second, .val (.long pj1), .second, .val (.int pi2), .val (.int pi3), .val (.ref b1), .val (.int (1 : Int32)), .val (.int (3 : Int32))] [(.long pj1), (.long pj0), (.ref b1)])) _
        refine XS.iload X4.here hx rfl (hb hby at_33) rfl ?_
        show Steps p.tables e below (T4.setTop (mkF m 35 #[.val (.long pj0), .second, .val (.long pj1), .second, .val (.int pi2), .val (.int pi3), .val (.ref b1), .val (.int (1 : Int32)), .val (.int (3 : Int32))] [(.int (3 : Int32)), (.long pj1), (.long pj0), (.ref b1)])) _
        refine st108.trans ?_
        show Steps p.tables e below (T108.setTop (mkF m 38 #[.val (.long pj0), .second, .val (.long pj1), .second, .val (.int pi2), .val (.int pi3), .val (.ref b1), .val (.int (1 : Int32)), .val (.int (3 : Int32))] [])) _
        refine XS.goto X108.here hx rfl (pc0 := 38) (pc' := 79) rfl (hb hby at_38) (by decide) (by decide) ?_
        show Steps p.tables e below (T108.setTop (mkF m 79 #[.val (.long pj0), .second, .val (.long pj1), .second, .val (.int pi2), .val (.int pi3), .val (.ref b1), .val (.int (1 : Int32)), .val (.int (3 : Int32))] [])) _
        refine XS.iload X108.here hx rfl (hb hby at_79) rfl ?_
        show Steps p.tables e below (T108.setTop (mkF m 81 #[.val (.long pj0), .second, .val (.long pj1), .second, .val (.int pi2), .val (.int pi3), .val (.ref b1), .val (.int (1 : Int32)), .val (.int (3 : Int32))] [(.int (1 : Int32))])) _
        refine XS.ifNo X108.here hx rfl (hb hby at_81) rfl ((if0 _ _).trans (feq (by decide : ¬ ((1 : Int32) = (0 : Int32)))).1) ?_
        show Steps p.tables e below (T108.setTop (mkF m 84 #[.val (.long pj0), .second, .val (.long pj1), .second, .val (.int pi2), .val (.int pi3), .val (.ref b1), .val (.int (1 : Int32)), .val (.int (3 : Int32))] [])) _
        refine XS.aload X108.here hx rfl (hb hby at_84) rfl rfl ?_
        show Steps p.tables e below (T108.setTop (mkF m 86 #[.val (.long pj0), .second, .val (.long pj1), .second, .val (.int pi2), .val (.int pi3), .val (.ref b1), .val (.int (1 : Int32)), .val (.int (3 : Int32))] [(.ref b1)])) _
        refine st109.trans ?_
        show Steps p.tables e below (T109.setTop (mkF m 89 #[.val (.long pj0), .second, .val (.long pj1), .second, .val (.int pi2), .val (.int pi3), .val (.ref b1), .val (.int (1 : Int32)), .val (.int (3 : Int32))] [(.int (0 : Int32))])) _
        refine XS.iload X109.here hx rfl (hb hby at_89) rfl ?_
        show Steps p.tables e below (T109.setTop (mkF m 91 #[.val (.long pj0), .second, .val (.long pj1), .second, .val (.int pi2), .val (.int pi3), .val (.ref b1), .val (.int (1 : Int32)), .val (.int (3 : Int32))] [(.int (3 : Int32)), (.int (0 : Int32))])) _
        refine XS.ifYes X109.here hx rfl (pc0 := 91) (pc' := 98) rfl (hb hby at_91) rfl ((if0 _ _).trans (feq (by decide : ¬ ((3 : Int32) = (0 : Int32)))).2) (by decide) (by decide) ?_
        show Steps p.tables e below (T109.setTop (mkF m 98 #[.val (.long pj0), .second, .val (.long pj1), .second, .val (.int pi2), .val (.int pi3), .val (.ref b1), .val (.int (1 : Int32)), .val (.int (3 : Int32))] [(.int (0 : Int32))])) _
        refine XS.iconst X109.here hx rfl (hb hby at_98) ?_
        show Steps p.tables e below (T109.setTop (mkF m 99 #[.val (.long pj0), .second, .val (.long pj1), .second, .val (.int pi2), .val (.int pi3), .val (.ref b1), .val (.int (1 : Int32)), .val (.int (3 : Int32))] [(.int (0 : Int32)), (.int (0 : Int32))])) _
        refine XS.icmpNo X109.here hx rfl (hb hby at_99) rfl (teq (by decide : (0 : Int32) = (0 : Int32))).2 ?_
        show Steps p.tables e below (T109.setTop (mkF m 102 #[.val (.long pj0), .second, .val (.long pj1), .second, .val (.int pi2), .val (.int pi3), .val (.ref b1), .val (.int (1 : Int32)), .val (.int (3 : Int32))] [])) _
        refine XS.iconst X109.here hx rfl (hb hby at_102) ?_
        show Steps p.tables e below (T109.setTop (mkF m 103 #[.val (.long pj0), .second, .val (.long pj1), .second, .val (.int pi2), .val (.int pi3), .val (.ref b1), .val (.int (1 : Int32)), .val (.int (3 : Int32))] [(.int (1 : Int32))])) _
        refine XS.goto X109.here hx rfl (pc0 := 103) (pc' := 107) rfl (hb hby at_103) (by decide) (by decide) ?_
        show Steps p.tables e below (T109.setTop (mkF m 107 #[.val (.long pj0), .second, .val (.long pj1), .second, .val (.int pi2), .val (.int pi3), .val (.ref b1), .val (.int (1 : Int32)), .val (.int (3 : Int32))] [(.int (1 : Int32))])) _
        refine XS.istore X109.here hx rfl (hb hby at_107) rfl (l' := #[.val (.long pj0), .second, .val (.long pj1), .second, .val (.int pi2), .val (.int pi3), .val (.ref b1), .val (.int (1 : Int32)), .val (.int (3 : Int32))]) rfl ?_
        show Steps p.tables e below (T109.setTop (mkF m 109 #[.val (.long pj0), .second, .val (.long pj1), .second, .val (.int pi2), .val (.int pi3), .val (.ref b1), .val (.int (1 : Int32)), .val (.int (3 : Int32))] [])) _
        refine XS.iload X109.here hx rfl (hb hby at_109) rfl ?_
        show Steps p.tables e below (T109.setTop (mkF m 111 #[.val (.long pj0), .second, .val (.long pj1), .second, .val (.int pi2), .val (.int pi3), .val (.ref b1), .val (.int (1 : Int32)), .val (.int (3 : Int32))] [(.int pi3)])) _
        refine XS.iconst X109.here hx rfl (hb hby at_111) ?_
        show Steps p.tables e below (T109.setTop (mkF m 112 #[.val (.long pj0), .second, .val (.long pj1), .second, .val (.int pi2), .val (.int pi3), .val (.ref b1), .val (.int (1 : Int32)), .val (.int (3 : Int32))] [(.int (2 : Int32)), (.int pi3)])) _
        refine XS.iand X109.here hx rfl (hb hby at_112) rfl ?_
        show Steps p.tables e below (T109.setTop (mkF m 113 #[.val (.long pj0), .second, .val (.long pj1), .second, .val (.int pi2), .val (.int pi3), .val (.ref b1), .val (.int (1 : Int32)), .val (.int (3 : Int32))] [(.int (pi3 &&& (2 : Int32)))])) _
        exact kt
      by_cases hc111 : (pi3 &&& (2 : Int32)) = (0 : Int32)
      · skip
        have Xm112 := own_mono X109 (k' := 5) (j' := 32) (by decide) (by decide)
        have go114 : ∀ t, Steps p.tables e below (T109.setTop (mkF m 142 #[.val (.long pj0), .second, .val (.long pj1), .second, .val (.int pi2), .val (.int pi3), .val (.ref b1), .val (.int (1 : Int32)), .val (.int (3 : Int32))] [])) t → Steps p.tables e below st0 t := by
          intro t kt
          refine go110 t ?_
          refine XS.ifYes X109.here hx rfl (pc0 := 113) (pc' := 142) rfl (hb hby at_113) rfl ((if0 _ _).trans (teq hc111).1) (by decide) (by decide) ?_
          show Steps p.tables e below (T109.setTop (mkF m 142 #[.val (.long pj0), .second, .val (.long pj1), .second, .val (.int pi2), .val (.int pi3), .val (.ref b1), .val (.int (1 : Int32)), .val (.int (3 : Int32))] [])) _
          exact kt
        obtain ⟨s₂, o₂, hs₂, hr₂⟩ := own_tail142 pj0 pj1 pi2 pi3 b1 (3 : Int32) (3 : Int32) (1 : Int32) Xm112 hx hZ hw hby hml hown e109 N109 Z108 Bd.returns (BodyLoose.notSynchronized Bd) p108_0 p108_2 p108_3 ge1
        exact ⟨s₂, o₂, go114 _ hs₂, hr₂⟩
      · skip
        have f115 : Arv Z T108.heap nn ka .long (0 : Int32) [] (.long (0 : Int64)) := (((P1.ext E1).keep Kc3 (ninS ne1_nn nin0)).keep Kc108 (ninS ne1_nn nin0))
        obtain ⟨cq116, kq116, q116a, q116b, q116c⟩ := isOf hZ e109 p108_0
        obtain ⟨_, _, ⟨T116, L116, k116, n116⟩, -, X116, ⟨Lc116, hQ116, l116, y116, z116⟩, st116⟩ := X109.virtualBack hx (y := (⟨"com/example/kalends/kalends/engine/LongList", "add", "(J)V"⟩ : MethodName)) (z := (⟨"com/example/kalends/kalends/engine/LongList", "add", "(J)V"⟩ : MethodName)) hown (mvT hZ (hw _ (List.mem_of_getElem? (i := 31) rfl))) (mvT hZ (hw _ (List.mem_of_getElem? (i := 32) rfl))) (notFace_of_selects (args := #[]) (mvT hZ (hw _ (List.mem_of_getElem? (i := 34) rfl)))) (mvT hZ (hw _ (List.mem_of_getElem? (i := 34) rfl))) (mvT hZ (hw _ (List.mem_of_getElem? (i := 33) rfl))) (by decide) (backOf (W := 0) (own_addR3 l Z a0 hw [] b1 pj1 nn ka pj0 pj1 T108.heap n0 Z108 p108_0 p108_1 p108_2 p108_3 p108_4 p108_5 f115 ne1_nn ge1) hZ (hw _ (List.mem_of_getElem? (i := 35) rfl)) (hw _ (List.mem_of_getElem? (i := 2) rfl)) (by decide) (by decide)) q116a q116c (g := (mkF m 119 #[.val (.long pj0), .second, .val (.long pj1), .second, .val (.int pi2), .val (.int pi3), .val (.ref b1), .val (.int (1 : Int32)), .val (.int (3 : Int32))] [(.long pj1), (.ref b1)])) rfl (by rw [hml]; rfl) (Steps.refl _) (argsL := [(.long pj1)]) (rest := []) (lenOf pd_17 rfl) rfl (by show 2 * 0 + _ ≤ _; exact Nat.le_of_eq rfl) (hb hby at_119) (fun _ _ => ⟨rfl, e109, (by decide : 1 + 1 ≤ _), (by decide : 5 + 8 ≤ _)⟩)
        dsimp only [Pt.U, Pt.locs, Pt.cells, Pt.slots] at X116 l116 y116 z116 st116 hQ116
        subst l116 y116 z116
        obtain ⟨Nq116, b116_0, y116_0, y116_1, rfl, szb116_0, Kc116, p116_0, p116_1, p116_2, p116_3, p116_4, p116_5⟩ := hQ116
        have N116 := Fr.app N109 Nq116
        have ne_b116_0_b1 : b1 ≠ b116_0 := Nat.ne_of_lt (Nat.lt_of_lt_of_le p108_0.lt szb116_0)
        have ne_b116_0_nn : nn ≠ b116_0 := Nat.ne_of_lt (Nat.lt_of_lt_of_le f115.lt szb116_0)
        have ge_b116_0 : n0 ≤ b116_0 := Nat.le_trans Z108 szb116_0
        have Z116 : n0 ≤ T116.heap.size := Nat.le_trans Z108 Kc116.1
        obtain ⟨cq117, kq117, q117a, q117b, q117c⟩ := isOf hZ rfl p116_0
        obtain ⟨_, _, ⟨T117, L117, k117, n117⟩, -, X117, ⟨Lc117, hQ117, l117, y117, z117⟩, st117⟩ := X116.virtualBack hx (y := (⟨"com/example/kalends/kalends/engine/LongList", "isEmpty", "()Z"⟩ : MethodName)) (z := (⟨"com/example/kalends/kalends/engine/LongList", "isEmpty", "()Z"⟩ : MethodName)) hown (mvT hZ (hw _ (List.mem_of_getElem? (i := 13) rfl))) (mvT hZ (hw _ (List.mem_of_getElem? (i := 14) rfl))) (notFace_of_selects (args := #[]) (mvT hZ (hw _ (List.mem_of_getElem? (i := 16) rfl)))) (mvT hZ (hw _ (List.mem_of_getElem? (i := 16) rfl))) (mvT hZ (hw _ (List.mem_of_getElem? (i := 15) rfl))) (by decide) (backOf (W := 0) (own_empty_t l Z a0 hw [] b1 (4 : Int32) T116.heap n0 Z116 p116_2 (by decide : ¬ ((4 : Int32) = (0 : Int32)))) hZ (hw _ (List.mem_of_getElem? (i := 17) rfl)) (hw _ (List.mem_of_getElem? (i := 2) rfl)) (by decide) (by decide)) q117a q117c (g := (mkF m 129 #[.val (.long pj0), .second, .val (.long pj1), .second, .val (.int pi2), .val (.int pi3), .val (.ref b1), .val (.int (1 : Int32)), .val (.int (3 : Int32))] [(.ref b1)])) rfl (by rw [hml]; rfl) (Steps.refl _) (argsL := []) (rest := []) (lenOf pd_16 rfl) rfl (by show 2 * 0 + _ ≤ _; exact Nat.le_of_eq rfl) (hb hby at_129) (fun _ _ => ⟨rfl, rfl, (by decide : 2 + 0 ≤ _), (by decide : 13 + 0 ≤ _)⟩)
        dsimp only [Pt.U, Pt.locs, Pt.cells, Pt.slots] at X117 l117 y117 z117 st117 hQ117
        subst l117 y117 z117
        obtain ⟨rfl, Nq117, e117⟩ := hQ117
        have N117 := Fr.app N116 Nq117
        have Xm118 := own_mono X117 (k' := 5) (j' := 32) (by decide) (by decide)
        have go120 : ∀ t, Steps p.tables e below (T117.setTop (mkF m 142 #[.val (.long pj0), .second, .val (.long pj1), .second, .val (.int pi2), .val (.int pi3), .val (.ref b1), .val (.int (1 : Int32)), .val (.int (3 : Int32))] [])) t → Steps p.tables e below st0 t := by
          intro t kt
          refine go110 t ?_
          refine XS.ifNo X109.here hx rfl (hb hby at_113) rfl ((if0 _ _).trans (feq hc111).1) ?_
          show Steps p.tables e below (T109.setTop (mkF m 116 #[.val (.long pj0), .second, .val (.long pj1), .second, .val (.int pi2), .val (.int pi3), .val (.ref b1), .val (.int (1 : Int32)), .val (.int (3 : Int32))] [])) _
          refine XS.aload X109.here hx rfl (hb hby at_116) rfl rfl ?_
          show Steps p.tables e below (T109.setTop (mkF m 118 #[.val (.long pj0), .second, .val (.long pj1), .second, .val (.int pi2), .val (.int pi3), .val (.ref b1), .val (.int (1 : Int32)), .val (.int (3 : Int32))] [(.ref b1)])) _
          refine XS.lloadN X109.here hx rfl (hb hby at_118) rfl ?_
          show Steps p.tables e below (T109.setTop (mkF m 119 #[.val (.long pj0), .second, .val (.long pj1), .second, .val (.int pi2), .val (.int pi3), .val (.ref b1), .val (.int (1 : Int32)), .val (.int (3 : Int32))] [(.long pj1), (.ref b1)])) _
          refine st116.trans ?_
          show Steps p.tables e below (T116.setTop (mkF m 122 #[.val (.long pj0), .second, .val (.long pj1), .second, .val (.int pi2), .val (.int pi3), .val (.ref b1), .val (.int (1 : Int32)), .val (.int (3 : Int32))] [])) _
          refine XS.iload X116.here hx rfl (hb hby at_122) rfl ?_
          show Steps p.tables e below (T116.setTop (mkF m 124 #[.val (.long pj0), .second, .val (.long pj1), .second, .val (.int pi2), .val (.int pi3), .val (.ref b1), .val (.int (1 : Int32)), .val (.int (3 : Int32))] [(.int (1 : Int32))])) _
          refine XS.ifNo X116.here hx rfl (hb hby at_124) rfl ((if0 _ _).trans (feq (by decide : ¬ ((1 : Int32) = (0 : Int32)))).1) ?_
          show Steps p.tables e below (T116.setTop (mkF m 127 #[.val (.long pj0), .second, .val (.long pj1), .second, .val (.int pi2), .val (.int pi3), .val (.ref b1), .val (.int (1 : Int32)), .val (.int (3 : Int32))] [])) _
          refine XS.aload X116.here hx rfl (hb hby at_127) rfl rfl ?_
          show Steps p.tables e below (T116.setTop (mkF m 129 #[.val (.long pj0), .second, .val (.long pj1), .second, .val (.int pi2), .val (.int pi3), .val (.ref b1), .val (.int (1 : Int32)), .val (.int (3 : Int32))] [(.ref b1)])) _
          refine st117.trans ?_
          show Steps p.tables e below (T117.setTop (mkF m 132 #[.val (.long pj0), .second, .val (.long pj1), .second, .val (.int pi2), .val (.int pi3), .val (.ref b1), .val (.int (1 : Int32)), .val (.int (3 : Int32))] [(.int (0 : Int32))])) _
          refine XS.ifNo X117.here hx rfl (hb hby at_132) rfl ((if0 _ _).trans (teq (by decide : (0 : Int32) = (0 : Int32))).2) ?_
          show Steps p.tables e below (T117.setTop (mkF m 135 #[.val (.long pj0), .second, .val (.long pj1), .second, .val (.int pi2), .val (.int pi3), .val (.ref b1), .val (.int (1 : Int32)), .val (.int (3 : Int32))] [])) _
          refine XS.iconst X117.here hx rfl (hb hby at_135) ?_
          show Steps p.tables e below (T117.setTop (mkF m 136 #[.val (.long pj0), .second, .val (.long pj1), .second, .val (.int pi2), .val (.int pi3), .val (.ref b1), .val (.int (1 : Int32)), .val (.int (3 : Int32))] [(.int (1 : Int32))])) _
          refine XS.goto X117.here hx rfl (pc0 := 136) (pc' := 140) rfl (hb hby at_136) (by decide) (by decide) ?_
          show Steps p.tables e below (T117.setTop (mkF m 140 #[.val (.long pj0), .second, .val (.long pj1), .second, .val (.int pi2), .val (.int pi3), .val (.ref b1), .val (.int (1 : Int32)), .val (.int (3 : Int32))] [(.int (1 : Int32))])) _
          refine XS.istore X117.here hx rfl (hb hby at_140) rfl (l' := #[.val (.long pj0), .second, .val (.long pj1), .second, .val (.int pi2), .val (.int pi3), .val (.ref b1), .val (.int (1 : Int32)), .val (.int (3 : Int32))]) rfl ?_
          show Steps p.tables e below (T117.setTop (mkF m 142 #[.val (.long pj0), .second, .val (.long pj1), .second, .val (.int pi2), .val (.int pi3), .val (.ref b1), .val (.int (1 : Int32)), .val (.int (3 : Int32))] [])) _
          exact kt
        obtain ⟨s₂, o₂, hs₂, hr₂⟩ := own_tail142 pj0 pj1 pi2 pi3 b1 (3 : Int32) (4 : Int32) (0 : Int32) Xm118 hx hZ hw hby hml hown e117 N117 Z116 Bd.returns (BodyLoose.notSynchronized Bd) p116_0 p116_2 p116_3 ge1
        exact ⟨s₂, o₂, go120 _ hs₂, hr₂⟩
set_option maxRecDepth 65536 in
set_option maxHeartbeats 40000000 in
theorem comes_1 {Post : Tables → Env → Array Value → State → Outcome → State → Prop} (hpost : ∀ tb e args s v u, (limb_1_1.after args s (.returned v) u = true ∧ limb_1_2.after args s (.returned v) u = true ∧ True) → FrameEnd s (.returned v) u (Jvm.fieldLocs frame_1_writes args s ++ Jvm.arrayLocs frame_1_arrays args s ++ Jvm.staticLocs frame_1_statics s) 16 128 → Post tb e args s (.returned v) u) :
    ArmFor flags0 classFile x code maxLocals ret World_1 tables_1 room_1 Calls_1 rest_1 Pre_1 Post := by
  intro l hfl _ _ p e ha hc hk s m args below hf hA hF happ hP
  obtain ⟨hcalls, hrest, hpre⟩ := hP
  obtain ⟨-, -, -, hnamed, -, -, -, hat⟩ := (Spec.applies_iff hf).mp happ
  obtain ⟨hg, hn⟩ := and_e (Cond.before_iff.mp (show (Jvm.Cond.and given_1 narrow_1).before args s = true from hpre))
  obtain ⟨g1a, g1b⟩ := and_e hg
  obtain ⟨g2a, g2b⟩ := and_e g1b
  obtain ⟨g3a, g3b⟩ := and_e g2b
  obtain ⟨g4a, g4b⟩ := and_e g3b
  obtain ⟨w0, w1, w2, w3, rfl⟩ : ∃ w0 w1 w2 w3 : Value, args = #[w0, w1, w2, w3] := by
    have hs : args.size = 4 := by simpa [Cond.value, given_1] using g1a
    obtain ⟨L⟩ := args
    match L, hs with
    | [w0, w1, w2, w3], _ => exact ⟨w0, w1, w2, w3, rfl⟩
  have hw := fun d (hd : d ∈ tables_1) => atoms_spec (ws := Jvm.Cond.code x code maxLocals ret :: tables_1) hat d (List.mem_cons_of_mem _ hd)
  have hfit : Fit s := fun {y c} hc i hi => by
    obtain ⟨ha, rfl⟩ := Array.getElem?_eq_some_iff.mp hc
    have q := List.all_eq_true.mp ((Array.all_eq_true_iff_forall_mem.mp hF) _ (Array.getElem_mem ha)) i (List.mem_range.mpr hi)
    simpa [Array.getElem?_eq_getElem hi] using q
  obtain ⟨i0, ei0⟩ := isL_v g2a
  obtain rfl : w0 = (.long i0) := Option.some.inj ei0
  obtain ⟨i1, ei1⟩ := isL_v g3a
  obtain rfl : w1 = (.long i1) := Option.some.inj ei1
  obtain ⟨i2, ei2⟩ := is_v g4a
  obtain rfl : w2 = (.int i2) := Option.some.inj ei2
  obtain ⟨i3, ei3⟩ := is_v g4b
  obtain rfl : w3 = (.int i3) := Option.some.inj ei3
  obtain ⟨g5a, g5b⟩ := and_e hn
  obtain ⟨g6a, g6b⟩ := and_e g5b
  obtain ⟨v_LongList_NONE, ev_v_LongList_NONE⟩ := arr_v g5a
  obtain ⟨cl_v_LongList_NONE, Ar_v_LongList_NONE⟩ := Arr.start ev_v_LongList_NONE g5a
  have S_v_LongList_NONE : Sta s s.heap "com/example/kalends/kalends/engine/LongList" "NONE" "[J" (.ref v_LongList_NONE) := Sta.start ev_v_LongList_NONE (Or.inr ⟨(hw _ (List.mem_of_getElem? (i := 2) rfl)), (hw _ (List.mem_of_getElem? (i := 10) rfl))⟩)
  obtain ⟨cz, sz⟩ := own_len ev_v_LongList_NONE g6b Ar_v_LongList_NONE
  have V_none : Arv s s.heap v_LongList_NONE cl_v_LongList_NONE.cls .long (0 : Int32) [] (.long (0 : Int64)) := Arv.start hfit Ar_v_LongList_NONE cz sz (by decide) rfl trivial
  obtain ⟨n, o, h1, h2, h3, _, L, rfl, ⟨rfl, N⟩, hq⟩ := own_law l s _ hw tables_1 i0 i1 i2 i3 v_LongList_NONE cl_v_LongList_NONE.cls s.heap s.heap.size (Nat.le_refl _) S_v_LongList_NONE V_none p e ha hc hk s m _ below hf ((Spec.applies_iff_loose hf).mp happ).1 ⟨rfl, State.Warmed39.refl s, rfl⟩ trivial
  refine ⟨n, _, h1, h2, h3, hpost _ _ _ _ _ _ ⟨Cond.after_iff.mpr rfl, Cond.after_iff.mpr (eq_i res_at (Term.int_eval (1)) rfl), trivial⟩ ⟨hq.1, hq.2.1, (hq.2.2.sift fun y hy => Or.inr (N y hy)).mono (by decide) (by decide)⟩⟩
theorem main_1_1 : Claimed_1_1 := comes_1 fun _ _ _ _ _ _ h hF => ⟨h.1, hF⟩
theorem main_1_2 : Claimed_1_2 := comes_1 fun _ _ _ _ _ _ h hF => ⟨h.2.1, hF⟩
end Jvm.Pilot.@@N@@
namespace Jvm.Pilot.@@N@@
open Jvm Jvm.ClassFile Sem Op Lib Jvm.Free Jvm.Stand Jvm.Pilot.@@N@@.Jvm.D
/-! MADE BY PROGRAM (witnessworld.py) out of the Statement's table words and the real class files: 14 classes; the members and pool entries that the words name. The judged class is class 1, her method 1. -/
namespace start1
open Jvm.ClassFile
def u (s : String) : CpInfo := .utf8 (stringToUtf16 s)
/-- a pool by its gaps: so many unusable entries, then the entry; so many at the end -/
def gap : Nat → List CpInfo → List CpInfo
  | 0, r => r
  | n + 1, r => .unusable :: gap n r
def poolList (es : List (Nat × CpInfo)) (last : Nat) : List CpInfo := es.foldr (fun e r => gap e.1 (e.2 :: r)) (gap last [])
def pool (es : List (Nat × CpInfo)) (last : Nat) : Array CpInfo := ⟨poolList es last⟩
def fileOf (pool : Array CpInfo) (this : Nat) (attrs : Array Attribute := #[]) (ms : Array MethodInfo := #[]) (fl : Nat := 33) (sup : Nat := 0) (ifs : Array Nat := #[]) (fds : Array FieldInfo := #[]) : ClassFile where
  minorVersion := 0
  majorVersion := 65
  constantPool := pool
  accessFlags := fl
  thisClass := this
  superClass := sup
  interfaces := ifs
  fields := fds
  methods := ms
  attributes := attrs
def plain (name : String) (sup : Option ClassId) : Class where
  name := name
  kind := .ordinary
  loader := none
  accessFlags := 33
  super := sup
  interfaces := #[]
  cf := none
  fields := #[]
  methods := #[]
  instanceTypes := #[]
  staticTypes := #[]
  resolved := #[]
  callSites := []
  init := .initialized
  statics := none
  mirror := none

def pool0 : Array CpInfo := pool [(5, u "<init>"), (0, u "()V"), (1, .class_ 10), (1, u "java/lang/Object")] 113

def k0c0 : Code := { maxStack := 0, maxLocals := 1, code := object_method_1_code, exceptionTable := #[], attributes := #[] }
def k0m0 : Method := { name := "<init>", desc := "()V", sig := { parameters := [], returnType := none }, accessFlags := 1, code := some k0c0 }
/-- java/lang/Object -/
def k0 : Class := { plain "java/lang/Object" none with
  accessFlags := 33
  interfaces := #[]
  cf := some (fileOf pool0 8 #[] #[{ accessFlags := 1, nameIndex := 5, descriptorIndex := 6, attributes := #[] }] 33 0 #[] #[])
  fields := #[]
  methods := #[k0m0]
  instanceTypes := #[]
  staticTypes := #[]
  resolved := Array.replicate 124 none
  statics := none }

def pool1 : Array CpInfo := pool [(2, .class_ 4), (0, .nameAndType 5 6), (0, u "java/lang/Object"), (0, u "<init>"), (0, u "()V"), (0, .class_ 8), (0, u "com/example/kalends/kalends/engine/LongList"), (0, .methodref 7 3), (0, .methodref 7 11), (0, .nameAndType 12 13), (0, u "isEmpty"), (0, u "()Z"), (0, .methodref 7 15), (0, .nameAndType 16 17), (0, u "addRun"), (0, u "(JJI)V"), (0, .methodref 7 19), (0, .nameAndType 20 21), (0, u "add"), (0, u "(J)V"), (0, .methodref 7 23), (0, .nameAndType 24 6), (0, u "clear"), (0, .class_ 26), (0, u "com/example/kalends/kalends/engine/LongListIsEmptyPinLaw"), (2, u "law"), (0, u "(JJII)Z")] 3

def k1m0 : Method := { name := "<init>", desc := "()V", sig := { parameters := [], returnType := none }, accessFlags := 1, code := none }
def k1c1 : Code := { maxStack := 6, maxLocals := 9, code := code, exceptionTable := #[], attributes := #[] }
def k1m1 : Method := { name := "law", desc := "(JJII)Z", sig := { parameters := [.long, .long, .int, .int], returnType := some .boolean }, accessFlags := 9, code := some k1c1 }
/-- com/example/kalends/kalends/engine/LongListIsEmptyPinLaw -/
def k1 : Class := { plain "com/example/kalends/kalends/engine/LongListIsEmptyPinLaw" (some 0) with
  accessFlags := 49
  interfaces := #[]
  cf := some (fileOf pool1 25 #[] #[{ accessFlags := 1, nameIndex := 5, descriptorIndex := 6, attributes := #[] }, { accessFlags := 9, nameIndex := 29, descriptorIndex := 30, attributes := #[] }] 49 2 #[] #[])
  fields := #[]
  methods := #[k1m0, k1m1]
  instanceTypes := #[]
  staticTypes := #[]
  resolved := Array.replicate 34 none
  statics := none }

def pool2 : Array CpInfo := pool [(1, .methodref 2 3), (0, .class_ 4), (0, .nameAndType 5 6), (0, u "java/lang/Object"), (0, u "<init>"), (0, u "()V"), (0, .fieldref 8 9), (0, .class_ 10), (0, .nameAndType 11 12), (0, u "com/example/kalends/kalends/engine/LongList"), (0, u "NONE"), (0, u "[J"), (0, .fieldref 8 14), (0, .nameAndType 15 12), (0, u "values"), (0, .fieldref 8 17), (0, .nameAndType 18 19), (0, u "run"), (0, u "Z"), (0, .methodref 8 21), (0, .nameAndType 22 6), (0, u "keepRun"), (0, .fieldref 8 24), (0, .nameAndType 25 26), (0, u "size"), (0, u "I"), (0, .methodref 28 29), (0, .class_ 30), (0, .nameAndType 31 32), (0, u "java/lang/Math"), (0, u "max"), (0, u "(II)I"), (0, .methodref 34 35), (0, .class_ 36), (0, .nameAndType 37 38), (0, u "java/util/Arrays"), (0, u "copyOf"), (0, u "([JI)[J"), (7, .fieldref 8 47), (0, .nameAndType 48 49), (0, u "runFirst"), (0, u "J"), (0, .fieldref 8 51), (0, .nameAndType 52 49), (0, u "runStep"), (7, u "add"), (0, u "(J)V"), (1, u "addRun"), (0, u "(JJI)V"), (4, u "isEmpty"), (0, u "()Z"), (0, u "clear")] 3

def k2c0 : Code := { maxStack := 2, maxLocals := 1, code := prog_9_method_1_code, exceptionTable := #[], attributes := #[] }
def k2m0 : Method := { name := "<init>", desc := "()V", sig := { parameters := [], returnType := none }, accessFlags := 0, code := some k2c0 }
def k2c1 : Code := { maxStack := 5, maxLocals := 3, code := prog_9_method_2_code, exceptionTable := #[], attributes := #[] }
def k2m1 : Method := { name := "add", desc := "(J)V", sig := { parameters := [.long], returnType := none }, accessFlags := 0, code := some k2c1 }
def k2c2 : Code := { maxStack := 3, maxLocals := 6, code := prog_9_method_3_code, exceptionTable := #[], attributes := #[] }
def k2m2 : Method := { name := "addRun", desc := "(JJI)V", sig := { parameters := [.long, .long, .int], returnType := none }, accessFlags := 0, code := some k2c2 }
def k2c3 : Code := { maxStack := 1, maxLocals := 1, code := prog_9_method_7_code, exceptionTable := #[], attributes := #[] }
def k2m3 : Method := { name := "isEmpty", desc := "()Z", sig := { parameters := [], returnType := some .boolean }, accessFlags := 0, code := some k2c3 }
def k2c4 : Code := { maxStack := 2, maxLocals := 1, code := prog_9_method_8_code, exceptionTable := #[], attributes := #[] }
def k2m4 : Method := { name := "clear", desc := "()V", sig := { parameters := [], returnType := none }, accessFlags := 0, code := some k2c4 }
def k2c5 : Code := { maxStack := 8, maxLocals := 2, code := prog_9_method_9_code, exceptionTable := #[], attributes := #[] }
def k2m5 : Method := { name := "keepRun", desc := "()V", sig := { parameters := [], returnType := none }, accessFlags := 2, code := some k2c5 }
/-- com/example/kalends/kalends/engine/LongList -/
def k2 : Class := { plain "com/example/kalends/kalends/engine/LongList" (some 0) with
  accessFlags := 48
  interfaces := #[]
  cf := some (fileOf pool2 8 #[] #[{ accessFlags := 0, nameIndex := 5, descriptorIndex := 6, attributes := #[] }, { accessFlags := 0, nameIndex := 60, descriptorIndex := 61, attributes := #[] }, { accessFlags := 0, nameIndex := 63, descriptorIndex := 64, attributes := #[] }, { accessFlags := 0, nameIndex := 69, descriptorIndex := 70, attributes := #[] }, { accessFlags := 0, nameIndex := 71, descriptorIndex := 6, attributes := #[] }, { accessFlags := 2, nameIndex := 22, descriptorIndex := 6, attributes := #[] }] 48 2 #[] #[{ accessFlags := 26, nameIndex := 11, descriptorIndex := 12, attributes := #[] }, { accessFlags := 2, nameIndex := 15, descriptorIndex := 12, attributes := #[] }, { accessFlags := 2, nameIndex := 25, descriptorIndex := 26, attributes := #[] }, { accessFlags := 2, nameIndex := 18, descriptorIndex := 19, attributes := #[] }, { accessFlags := 2, nameIndex := 48, descriptorIndex := 49, attributes := #[] }, { accessFlags := 2, nameIndex := 52, descriptorIndex := 49, attributes := #[] }])
  fields := #[{ name := "NONE", type := (.array .long), accessFlags := 26, slot := 0, constantValue := 0 }, { name := "values", type := (.array .long), accessFlags := 2, slot := 0, constantValue := 0 }, { name := "size", type := .int, accessFlags := 2, slot := 1, constantValue := 0 }, { name := "run", type := .boolean, accessFlags := 2, slot := 2, constantValue := 0 }, { name := "runFirst", type := .long, accessFlags := 2, slot := 3, constantValue := 0 }, { name := "runStep", type := .long, accessFlags := 2, slot := 4, constantValue := 0 }]
  methods := #[k2m0, k2m1, k2m2, k2m3, k2m4, k2m5]
  instanceTypes := #[(.array .long), .int, .boolean, .long, .long]
  staticTypes := #[(.array .long)]
  resolved := Array.replicate 75 none
  statics := some 0 }

def pool3 : Array CpInfo := pool [(1, .class_ 2), (0, u "java/lang/Math"), (1, .class_ 6), (1, u "java/lang/Object"), (0, u "<init>"), (0, u "()V"), (89, .class_ 100), (1, u "java/lang/Math$RandomNumberGeneratorHolder"), (71, u "negativeZeroFloatBits"), (0, u "J"), (2, u "negativeZeroDoubleBits"), (21, u "max"), (2, u "min"), (43, u "$assertionsDisabled"), (0, u "Z"), (88, u "(II)I"), (2, u "twoToTheDoubleScaleDown"), (0, u "D"), (4, u "twoToTheDoubleScaleUp"), (9, u "E"), (3, u "PI"), (2, u "TAU"), (2, u "DEGREES_TO_RADIANS"), (0, u "RADIANS_TO_DEGREES")] 94

def k3m0 : Method := { name := "<init>", desc := "()V", sig := { parameters := [], returnType := none }, accessFlags := 2, code := none }
def k3c1 : Code := { maxStack := 2, maxLocals := 2, code := jdk_29_method_65_code, exceptionTable := #[], attributes := #[] }
def k3m1 : Method := { name := "max", desc := "(II)I", sig := { parameters := [.int, .int], returnType := some .int }, accessFlags := 9, code := some k3c1 }
def k3c2 : Code := { maxStack := 2, maxLocals := 2, code := jdk_29_method_69_code, exceptionTable := #[], attributes := #[] }
def k3m2 : Method := { name := "min", desc := "(II)I", sig := { parameters := [.int, .int], returnType := some .int }, accessFlags := 9, code := some k3c2 }
/-- java/lang/Math -/
def k3 : Class := { plain "java/lang/Math" (some 0) with
  accessFlags := 49
  interfaces := #[]
  cf := some (fileOf pool3 1 #[.nestMembers #[98]] #[{ accessFlags := 2, nameIndex := 7, descriptorIndex := 8, attributes := #[] }, { accessFlags := 9, nameIndex := 198, descriptorIndex := 335, attributes := #[] }, { accessFlags := 9, nameIndex := 201, descriptorIndex := 335, attributes := #[] }] 49 4 #[] #[{ accessFlags := 25, nameIndex := 354, descriptorIndex := 339, attributes := #[] }, { accessFlags := 25, nameIndex := 358, descriptorIndex := 339, attributes := #[] }, { accessFlags := 25, nameIndex := 361, descriptorIndex := 339, attributes := #[] }, { accessFlags := 26, nameIndex := 364, descriptorIndex := 339, attributes := #[] }, { accessFlags := 26, nameIndex := 365, descriptorIndex := 339, attributes := #[] }, { accessFlags := 26, nameIndex := 172, descriptorIndex := 173, attributes := #[] }, { accessFlags := 26, nameIndex := 176, descriptorIndex := 173, attributes := #[] }, { accessFlags := 8, nameIndex := 344, descriptorIndex := 339, attributes := #[] }, { accessFlags := 8, nameIndex := 338, descriptorIndex := 339, attributes := #[] }, { accessFlags := 4120, nameIndex := 245, descriptorIndex := 246, attributes := #[] }])
  fields := #[{ name := "E", type := .double, accessFlags := 25, slot := 0, constantValue := 0 }, { name := "PI", type := .double, accessFlags := 25, slot := 1, constantValue := 0 }, { name := "TAU", type := .double, accessFlags := 25, slot := 2, constantValue := 0 }, { name := "DEGREES_TO_RADIANS", type := .double, accessFlags := 26, slot := 3, constantValue := 0 }, { name := "RADIANS_TO_DEGREES", type := .double, accessFlags := 26, slot := 4, constantValue := 0 }, { name := "negativeZeroFloatBits", type := .long, accessFlags := 26, slot := 5, constantValue := 0 }, { name := "negativeZeroDoubleBits", type := .long, accessFlags := 26, slot := 6, constantValue := 0 }, { name := "twoToTheDoubleScaleUp", type := .double, accessFlags := 8, slot := 7, constantValue := 0 }, { name := "twoToTheDoubleScaleDown", type := .double, accessFlags := 8, slot := 8, constantValue := 0 }, { name := "$assertionsDisabled", type := .boolean, accessFlags := 4120, slot := 9, constantValue := 0 }]
  methods := #[k3m0, k3m1, k3m2]
  instanceTypes := #[]
  staticTypes := #[.double, .double, .double, .double, .double, .long, .long, .double, .double, .boolean]
  resolved := Array.replicate 460 none
  statics := none }

def pool4 : Array CpInfo := pool [(2, .class_ 4), (1, u "java/lang/Object"), (0, u "<init>"), (0, u "()V"), (7, .class_ 16), (1, u "java/util/Arrays"), (57, .class_ 76), (1, u "java/util/Arrays$NaturalOrder"), (36, .class_ 115), (1, u "java/util/Arrays$LegacyMergeSort"), (1, u "Z"), (32, .methodref 151 152), (0, .class_ 153), (0, .nameAndType 154 155), (0, u "java/lang/System"), (0, u "arraycopy"), (0, u "(Ljava/lang/Object;ILjava/lang/Object;II)V"), (146, u "copyOf"), (1, .methodref 305 306), (0, .class_ 307), (0, .nameAndType 308 309), (0, u "java/lang/Math"), (0, u "min"), (0, u "(II)I"), (65, .class_ 376), (0, u "java/util/Arrays$ArrayList"), (68, u "$assertionsDisabled"), (269, u "MIN_ARRAY_SORT_GRAN"), (0, u "I"), (2, u "INSERTIONSORT_THRESHOLD"), (152, u "([JI)[J"), (102, .class_ 976), (0, u "java/util/Arrays$ArrayItr")] 52

def k4m0 : Method := { name := "<init>", desc := "()V", sig := { parameters := [], returnType := none }, accessFlags := 2, code := none }
def k4c1 : Code := { maxStack := 6, maxLocals := 3, code := jdk_65_method_124_code, exceptionTable := #[], attributes := #[] }
def k4m1 : Method := { name := "copyOf", desc := "([JI)[J", sig := { parameters := [(.array .long), .int], returnType := some (.array .long) }, accessFlags := 9, code := some k4c1 }
/-- java/util/Arrays -/
def k4 : Class := { plain "java/util/Arrays" (some 0) with
  accessFlags := 49
  interfaces := #[]
  cf := some (fileOf pool4 14 #[.nestMembers #[975, 375, 113, 74]] #[{ accessFlags := 2, nameIndex := 5, descriptorIndex := 6, attributes := #[] }, { accessFlags := 9, nameIndex := 302, descriptorIndex := 872, attributes := #[] }] 49 2 #[] #[{ accessFlags := 26, nameIndex := 715, descriptorIndex := 716, attributes := #[] }, { accessFlags := 26, nameIndex := 719, descriptorIndex := 716, attributes := #[] }, { accessFlags := 4120, nameIndex := 445, descriptorIndex := 117, attributes := #[] }])
  fields := #[{ name := "MIN_ARRAY_SORT_GRAN", type := .int, accessFlags := 26, slot := 0, constantValue := 0 }, { name := "INSERTIONSORT_THRESHOLD", type := .int, accessFlags := 26, slot := 1, constantValue := 0 }, { name := "$assertionsDisabled", type := .boolean, accessFlags := 4120, slot := 2, constantValue := 0 }]
  methods := #[k4m0, k4m1]
  instanceTypes := #[]
  staticTypes := #[.int, .int, .boolean]
  resolved := Array.replicate 1029 none
  statics := none }

def pool5 : Array CpInfo := pool [(2, .class_ 4), (1, u "java/lang/Object"), (0, u "<init>"), (0, u "()V"), (1, .class_ 10), (1, u "java/lang/System"), (0, u "allowSecurityManager"), (0, u "I"), (16, u "cons"), (0, u "Ljava/io/Console;"), (77, .class_ 110), (1, u "java/lang/System$CallersHolder"), (43, u "initialErrStream"), (0, u "Ljava/io/PrintStream;"), (19, u "security"), (0, u "Ljava/lang/SecurityManager;"), (31, .class_ 209), (0, u "java/lang/System$1"), (7, u "props"), (0, u "Ljava/util/Properties;"), (2, u "lineSeparator"), (0, u "Ljava/lang/String;"), (96, .class_ 321), (1, u "java/lang/System$LoggerFinder"), (5, .class_ 328), (0, u "java/lang/System$Logger"), (67, u "err"), (2, u "out"), (91, u "notSupportedJnuEncoding"), (15, u "in"), (17, u "initialIn"), (0, u "Ljava/io/InputStream;"), (35, u "bootLayer"), (0, u "Ljava/lang/ModuleLayer;"), (99, .class_ 664), (0, u "java/lang/System$2"), (9, u "NEVER"), (2, u "MAYBE"), (49, u "arraycopy"), (0, u "(Ljava/lang/Object;ILjava/lang/Object;II)V"), (72, .class_ 802), (0, u "java/lang/System$Logger$Level")] 31

def k5m0 : Method := { name := "<init>", desc := "()V", sig := { parameters := [], returnType := none }, accessFlags := 2, code := none }
def k5m1 : Method := { name := "arraycopy", desc := "(Ljava/lang/Object;ILjava/lang/Object;II)V", sig := { parameters := [(.object "java/lang/Object"), .int, (.object "java/lang/Object"), .int, .int], returnType := none }, accessFlags := 265, code := none }
/-- java/lang/System -/
def k5 : Class := { plain "java/lang/System" (some 0) with
  accessFlags := 49
  interfaces := #[]
  cf := some (fileOf pool5 8 #[.nestMembers #[319, 327, 801, 108, 663, 208]] #[{ accessFlags := 2, nameIndex := 5, descriptorIndex := 6, attributes := #[] }, { accessFlags := 265, nameIndex := 727, descriptorIndex := 728, attributes := #[] }] 49 2 #[] #[{ accessFlags := 25, nameIndex := 507, descriptorIndex := 526, attributes := #[] }, { accessFlags := 25, nameIndex := 399, descriptorIndex := 155, attributes := #[] }, { accessFlags := 25, nameIndex := 396, descriptorIndex := 155, attributes := #[] }, { accessFlags := 10, nameIndex := 525, descriptorIndex := 526, attributes := #[] }, { accessFlags := 26, nameIndex := 674, descriptorIndex := 12, attributes := #[] }, { accessFlags := 26, nameIndex := 677, descriptorIndex := 12, attributes := #[] }, { accessFlags := 10, nameIndex := 11, descriptorIndex := 12, attributes := #[] }, { accessFlags := 74, nameIndex := 175, descriptorIndex := 176, attributes := #[] }, { accessFlags := 10, nameIndex := 491, descriptorIndex := 222, attributes := #[] }, { accessFlags := 74, nameIndex := 29, descriptorIndex := 30, attributes := #[] }, { accessFlags := 74, nameIndex := 154, descriptorIndex := 155, attributes := #[] }, { accessFlags := 10, nameIndex := 217, descriptorIndex := 218, attributes := #[] }, { accessFlags := 10, nameIndex := 221, descriptorIndex := 222, attributes := #[] }, { accessFlags := 8, nameIndex := 562, descriptorIndex := 563, attributes := #[] }])
  fields := #[{ name := "in", type := (.object "java/io/InputStream"), accessFlags := 25, slot := 0, constantValue := 0 }, { name := "out", type := (.object "java/io/PrintStream"), accessFlags := 25, slot := 1, constantValue := 0 }, { name := "err", type := (.object "java/io/PrintStream"), accessFlags := 25, slot := 2, constantValue := 0 }, { name := "initialIn", type := (.object "java/io/InputStream"), accessFlags := 10, slot := 3, constantValue := 0 }, { name := "NEVER", type := .int, accessFlags := 26, slot := 4, constantValue := 0 }, { name := "MAYBE", type := .int, accessFlags := 26, slot := 5, constantValue := 0 }, { name := "allowSecurityManager", type := .int, accessFlags := 10, slot := 6, constantValue := 0 }, { name := "security", type := (.object "java/lang/SecurityManager"), accessFlags := 74, slot := 7, constantValue := 0 }, { name := "notSupportedJnuEncoding", type := (.object "java/lang/String"), accessFlags := 10, slot := 8, constantValue := 0 }, { name := "cons", type := (.object "java/io/Console"), accessFlags := 74, slot := 9, constantValue := 0 }, { name := "initialErrStream", type := (.object "java/io/PrintStream"), accessFlags := 74, slot := 10, constantValue := 0 }, { name := "props", type := (.object "java/util/Properties"), accessFlags := 10, slot := 11, constantValue := 0 }, { name := "lineSeparator", type := (.object "java/lang/String"), accessFlags := 10, slot := 12, constantValue := 0 }, { name := "bootLayer", type := (.object "java/lang/ModuleLayer"), accessFlags := 8, slot := 13, constantValue := 0 }]
  methods := #[k5m0, k5m1]
  instanceTypes := #[]
  staticTypes := #[(.object "java/io/InputStream"), (.object "java/io/PrintStream"), (.object "java/io/PrintStream"), (.object "java/io/InputStream"), .int, .int, .int, (.object "java/lang/SecurityManager"), (.object "java/lang/String"), (.object "java/io/Console"), (.object "java/io/PrintStream"), (.object "java/util/Properties"), (.object "java/lang/String"), (.object "java/lang/ModuleLayer")]
  resolved := Array.replicate 834 none
  statics := none }

def pool6 : Array CpInfo := pool [(1, u "java/lang/Cloneable"), (0, .class_ 1), (0, u "java/lang/Object"), (0, .class_ 3)] 3

/-- java/lang/Cloneable -/
def k6 : Class := { plain "java/lang/Cloneable" (some 0) with
  accessFlags := 1537
  interfaces := #[]
  cf := some (fileOf pool6 2 #[] #[] 1537 4 #[] #[])
  fields := #[]
  methods := #[]
  instanceTypes := #[]
  staticTypes := #[]
  resolved := Array.replicate 8 none
  statics := none }

def pool7 : Array CpInfo := pool [(1, u "java/io/Serializable"), (0, .class_ 1), (0, u "java/lang/Object"), (0, .class_ 3)] 3

/-- java/io/Serializable -/
def k7 : Class := { plain "java/io/Serializable" (some 0) with
  accessFlags := 1537
  interfaces := #[]
  cf := some (fileOf pool7 2 #[] #[] 1537 4 #[] #[])
  fields := #[]
  methods := #[]
  instanceTypes := #[]
  staticTypes := #[]
  resolved := Array.replicate 8 none
  statics := none }

/-- the primitive byte -/
def k8 : Class := { plain "byte" none with kind := .primitive 'B', accessFlags := 0x411 }
/-- [B -/
def k9 : Class := { plain "[B" (some 0) with kind := .array 8 .byte, interfaces := #[6, 7], accessFlags := 1041 }

/-- the primitive int -/
def k10 : Class := { plain "int" none with kind := .primitive 'I', accessFlags := 0x411 }
/-- [I -/
def k11 : Class := { plain "[I" (some 0) with kind := .array 10 .int, interfaces := #[6, 7], accessFlags := 1041 }

/-- the primitive long -/
def k12 : Class := { plain "long" none with kind := .primitive 'J', accessFlags := 0x411 }
/-- [J -/
def k13 : Class := { plain "[J" (some 0) with kind := .array 12 .long, interfaces := #[6, 7], accessFlags := 1041 }

def heap : Heap := #[{ cls := 2, slots := #[.ref 1], vm := .statics 2 },
  { cls := 13, slots := #[], vm := .none }]
def classes : Array Class := #[k0, k1, k2, k3, k4, k5, k6, k7, k8, k9, k10, k11, k12, k13]
def interned : List (Array UInt16 × Addr) := []
def slotsUsed : Nat := 1
def theMethod : MethodId := ⟨1, 1⟩
def args0 : Array Value := #[.long 5, .long 6, .int 2, .int 7]
def aboutOver (below : List Frame) : State where
  vm := { classes := classes, interned := interned.toArray }
  heap := heap
  slotsUsed := slotsUsed
  threads := #[{ frames := .invoking theMethod args0 :: below }]
def below0 : List Frame := [.native { method := ⟨0, 0⟩, args := #[] }]
def about1 : State := aboutOver below0
def p0 : Program := .bare "" "" ""
def e0 : Env := launch0.env 0 0 0
theorem w_frames : about1.frames = Frame.invoking theMethod args0 :: below0 := rfl
set_option maxRecDepth 65536 in
theorem w_args : argsFit about1.vm theMethod args0 = true := by decide +kernel
set_option maxRecDepth 65536 in
theorem w_heap : heapFits about1 = true := by decide +kernel
set_option maxRecDepth 65536 in
theorem w_runnable : about1.curStatus? = some .runnable := by decide +kernel
set_option maxRecDepth 65536 in
theorem w_alone : about1.alone = true := by decide +kernel
set_option maxRecDepth 65536 in
theorem w_named : about1.methodNamed? x = some theMethod := by decide +kernel
set_option maxRecDepth 65536 in
theorem w_hears : about1.hears theMethod below0 = true := by decide +kernel
set_option maxRecDepth 65536 in
theorem w_ripe : about1.ripe theMethod args0 below0 = true := by decide +kernel
theorem w_running : about1.status = .running := rfl
set_option maxRecDepth 65536 in
theorem w_room : about1.hasRoom e0.platform room_1 = true :=
  launch0.hasRoom_least _ room_1 (by decide +kernel) (by decide +kernel) (by decide +kernel) (by decide +kernel) (by decide +kernel) (by decide +kernel)
theorem allAtoms_all (ts : List Jvm.Cond) (a : Array Jvm.Value) (st : Jvm.State) : (allAtoms ts).before a st = ts.all (fun c => c.before a st) := by
  induction ts with
  | nil => rfl
  | cons c t ih =>
    show (Jvm.Cond.and c (allAtoms t)).before a st = _
    rw [Jvm.Cond.before_and, ih, List.all_cons]
def words1 : List Jvm.Cond := Jvm.Cond.code x code maxLocals ret :: tables_1
/-- a 'code' word, met by the world's own term for the bytes: nothing is compared byte by byte -/
theorem code_word {y : MethodName} {bytes : ByteArray} {mx : Nat} {rt : Option FieldType} {a : Array Value} {s : State} {m : MethodId} {meth : Method} {c : Code} (h1 : s.methodNamed? y = some m) (h2 : s.vm.method? m = some meth) (h3 : meth.code = some c) (h4 : c.code = bytes)
    (h5 : (c.maxLocals == mx && c.exceptionTable.isEmpty && decide (c.maxStack ≤ mostOperands) && decide (meth.sig.returnType = rt) && !meth.locks && decide (parseMethodDescriptor y.desc = some meth.sig)) = true) : (Jvm.Cond.code y bytes mx rt).before a s = true := by
  simp only [Bool.and_eq_true, beq_iff_eq, Bool.not_eq_true', decide_eq_true_eq] at h5
  obtain ⟨⟨⟨⟨⟨g1, g2⟩, g3⟩, g4⟩, g5⟩, g6⟩ := h5
  simp [Cond.before, Cond.holds, Cond.value, h1, h2, h3, h4, g1, g2, g3, g4, g5, g6]
def isCode : Jvm.Cond → Bool
  | .code _ _ _ _ => true
  | _ => false
theorem all_split {L : List Jvm.Cond} {P : Jvm.Cond → Bool} (h1 : L.all (fun c => isCode c || P c) = true) (h2 : ∀ c ∈ L.filter isCode, P c = true) : L.all P = true := by
  refine List.all_eq_true.mpr fun c hc => ?_
  have h := List.all_eq_true.mp h1 c hc
  rcases Bool.eq_false_or_eq_true (isCode c) with hi | hi
  · exact h2 c (List.mem_filter.mpr ⟨hc, hi⟩)
  · simpa [hi] using h
set_option maxRecDepth 65536 in
theorem w_c0 : (Jvm.Cond.code x code maxLocals ret).before args0 about1 = true := code_word (m := ⟨1, 1⟩) (meth := k1m1) (c := k1c1) (by decide +kernel) rfl rfl rfl (by decide +kernel)
set_option maxRecDepth 65536 in
theorem w_c1 : (Jvm.Cond.code ({ cls := "com/example/kalends/kalends/engine/LongList", name := "<init>", desc := "()V" } : Jvm.MethodName) prog_9_method_1_code (1 : Nat) (Option.none : Option Jvm.ClassFile.FieldType)).before args0 about1 = true := code_word (m := ⟨2, 0⟩) (meth := k2m0) (c := k2c0) (by decide +kernel) rfl rfl rfl (by decide +kernel)
set_option maxRecDepth 65536 in
theorem w_c2 : (Jvm.Cond.code ({ cls := "java/lang/Object", name := "<init>", desc := "()V" } : Jvm.MethodName) object_method_1_code (1 : Nat) (Option.none : Option Jvm.ClassFile.FieldType)).before args0 about1 = true := code_word (m := ⟨0, 0⟩) (meth := k0m0) (c := k0c0) (by decide +kernel) rfl rfl rfl (by decide +kernel)
set_option maxRecDepth 65536 in
theorem w_c3 : (Jvm.Cond.code ({ cls := "com/example/kalends/kalends/engine/LongList", name := "isEmpty", desc := "()Z" } : Jvm.MethodName) prog_9_method_7_code (1 : Nat) (Option.some Jvm.ClassFile.FieldType.boolean)).before args0 about1 = true := code_word (m := ⟨2, 3⟩) (meth := k2m3) (c := k2c3) (by decide +kernel) rfl rfl rfl (by decide +kernel)
set_option maxRecDepth 65536 in
theorem w_c4 : (Jvm.Cond.code ({ cls := "com/example/kalends/kalends/engine/LongList", name := "addRun", desc := "(JJI)V" } : Jvm.MethodName) prog_9_method_3_code (6 : Nat) (Option.none : Option Jvm.ClassFile.FieldType)).before args0 about1 = true := code_word (m := ⟨2, 2⟩) (meth := k2m2) (c := k2c2) (by decide +kernel) rfl rfl rfl (by decide +kernel)
set_option maxRecDepth 65536 in
theorem w_c5 : (Jvm.Cond.code ({ cls := "com/example/kalends/kalends/engine/LongList", name := "add", desc := "(J)V" } : Jvm.MethodName) prog_9_method_2_code (3 : Nat) (Option.none : Option Jvm.ClassFile.FieldType)).before args0 about1 = true := code_word (m := ⟨2, 1⟩) (meth := k2m1) (c := k2c1) (by decide +kernel) rfl rfl rfl (by decide +kernel)
set_option maxRecDepth 65536 in
theorem w_c6 : (Jvm.Cond.code ({ cls := "com/example/kalends/kalends/engine/LongList", name := "keepRun", desc := "()V" } : Jvm.MethodName) prog_9_method_9_code (2 : Nat) (Option.none : Option Jvm.ClassFile.FieldType)).before args0 about1 = true := code_word (m := ⟨2, 5⟩) (meth := k2m5) (c := k2c5) (by decide +kernel) rfl rfl rfl (by decide +kernel)
set_option maxRecDepth 65536 in
theorem w_c7 : (Jvm.Cond.code ({ cls := "java/lang/Math", name := "max", desc := "(II)I" } : Jvm.MethodName) jdk_29_method_65_code (2 : Nat) (Option.some Jvm.ClassFile.FieldType.int)).before args0 about1 = true := code_word (m := ⟨3, 1⟩) (meth := k3m1) (c := k3c1) (by decide +kernel) rfl rfl rfl (by decide +kernel)
set_option maxRecDepth 65536 in
theorem w_c8 : (Jvm.Cond.code ({ cls := "java/util/Arrays", name := "copyOf", desc := "([JI)[J" } : Jvm.MethodName) jdk_65_method_124_code (3 : Nat) (Option.some (Jvm.ClassFile.FieldType.array Jvm.ClassFile.FieldType.long))).before args0 about1 = true := code_word (m := ⟨4, 1⟩) (meth := k4m1) (c := k4c1) (by decide +kernel) rfl rfl rfl (by decide +kernel)
set_option maxRecDepth 65536 in
theorem w_c9 : (Jvm.Cond.code ({ cls := "java/lang/Math", name := "min", desc := "(II)I" } : Jvm.MethodName) jdk_29_method_69_code (2 : Nat) (Option.some Jvm.ClassFile.FieldType.int)).before args0 about1 = true := code_word (m := ⟨3, 2⟩) (meth := k3m2) (c := k3c2) (by decide +kernel) rfl rfl rfl (by decide +kernel)
set_option maxRecDepth 65536 in
theorem w_c10 : (Jvm.Cond.code ({ cls := "com/example/kalends/kalends/engine/LongList", name := "clear", desc := "()V" } : Jvm.MethodName) prog_9_method_8_code (1 : Nat) (Option.none : Option Jvm.ClassFile.FieldType)).before args0 about1 = true := code_word (m := ⟨2, 4⟩) (meth := k2m4) (c := k2c4) (by decide +kernel) rfl rfl rfl (by decide +kernel)
def codes1 : List Jvm.Cond := [Jvm.Cond.code x code maxLocals ret, Jvm.Cond.code ({ cls := "com/example/kalends/kalends/engine/LongList", name := "<init>", desc := "()V" } : Jvm.MethodName) prog_9_method_1_code (1 : Nat) (Option.none : Option Jvm.ClassFile.FieldType), Jvm.Cond.code ({ cls := "java/lang/Object", name := "<init>", desc := "()V" } : Jvm.MethodName) object_method_1_code (1 : Nat) (Option.none : Option Jvm.ClassFile.FieldType), Jvm.Cond.code ({ cls := "com/example/kalends/kalends/engine/LongList", name := "isEmpty", desc := "()Z" } : Jvm.MethodName) prog_9_method_7_code (1 : Nat) (Option.some Jvm.ClassFile.FieldType.boolean), Jvm.Cond.code ({ cls := "com/example/kalends/kalends/engine/LongList", name := "addRun", desc := "(JJI)V" } : Jvm.MethodName) prog_9_method_3_code (6 : Nat) (Option.none : Option Jvm.ClassFile.FieldType), Jvm.Cond.code ({ cls := "com/example/kalends/kalends/engine/LongList", name := "add", desc := "(J)V" } : Jvm.MethodName) prog_9_method_2_code (3 : Nat) (Option.none : Option Jvm.ClassFile.FieldType), Jvm.Cond.code ({ cls := "com/example/kalends/kalends/engine/LongList", name := "keepRun", desc := "()V" } : Jvm.MethodName) prog_9_method_9_code (2 : Nat) (Option.none : Option Jvm.ClassFile.FieldType), Jvm.Cond.code ({ cls := "java/lang/Math", name := "max", desc := "(II)I" } : Jvm.MethodName) jdk_29_method_65_code (2 : Nat) (Option.some Jvm.ClassFile.FieldType.int), Jvm.Cond.code ({ cls := "java/util/Arrays", name := "copyOf", desc := "([JI)[J" } : Jvm.MethodName) jdk_65_method_124_code (3 : Nat) (Option.some (Jvm.ClassFile.FieldType.array Jvm.ClassFile.FieldType.long)), Jvm.Cond.code ({ cls := "java/lang/Math", name := "min", desc := "(II)I" } : Jvm.MethodName) jdk_29_method_69_code (2 : Nat) (Option.some Jvm.ClassFile.FieldType.int), Jvm.Cond.code ({ cls := "com/example/kalends/kalends/engine/LongList", name := "clear", desc := "()V" } : Jvm.MethodName) prog_9_method_8_code (1 : Nat) (Option.none : Option Jvm.ClassFile.FieldType)]
set_option maxRecDepth 65536 in
theorem codes_eq : words1.filter isCode = codes1 := rfl
theorem w_codes : ∀ c ∈ words1.filter isCode, c.before args0 about1 = true := by
  rw [codes_eq]
  intro c hc
  simp only [codes1, List.mem_cons, List.not_mem_nil, or_false] at hc
  rcases hc with rfl | rfl | rfl | rfl | rfl | rfl | rfl | rfl | rfl | rfl | rfl
  · exact w_c0
  · exact w_c1
  · exact w_c2
  · exact w_c3
  · exact w_c4
  · exact w_c5
  · exact w_c6
  · exact w_c7
  · exact w_c8
  · exact w_c9
  · exact w_c10
set_option maxRecDepth 65536 in
theorem w_t1 : (words1.take 24).all (fun c => isCode c || c.before args0 about1) = true := by decide +kernel
set_option maxRecDepth 65536 in
theorem w_t2 : ((words1.drop 24).take 24).all (fun c => isCode c || c.before args0 about1) = true := by decide +kernel
set_option maxRecDepth 65536 in
theorem w_t3 : ((words1.drop 24).drop 24).all (fun c => isCode c || c.before args0 about1) = true := by decide +kernel
theorem w_tables : (allAtoms (Jvm.Cond.code x code maxLocals ret :: tables_1)).before args0 about1 = true := by
  rw [allAtoms_all]
  show words1.all (fun c => c.before args0 about1) = true
  refine all_split ?_ w_codes
  rw [← List.take_append_drop 24 words1, List.all_append, w_t1, ← List.take_append_drop 24 (words1.drop 24), List.all_append, w_t2, w_t3]
  rfl
set_option maxRecDepth 65536 in
theorem w_case : (Jvm.Cond.and given_1 narrow_1).before args0 about1 = true := by decide +kernel
theorem w_applies : (headSpec (Jvm.Cond.code x code maxLocals ret :: tables_1) room_1).applies x e0.platform about1 = true :=
  (Spec.applies_iff w_frames).mpr ⟨w_running, w_runnable, w_alone, w_named, w_hears, w_ripe, w_room, w_tables⟩
theorem atStart : AtStart classFile x code maxLocals ret World_1 tables_1 room_1 Calls_1 rest_1 Pre_1 launch0 p0 e0 about1 theMethod args0 below0 :=
  ⟨lists_1, trivial, launch0.admits_env _ _ _, launch0.least_env, fairChoices_fair.cas, fairChoices_fair.clock, w_frames, w_args, w_heap, w_applies, trivial, trivial, w_case⟩
end start1
theorem witness_1 : WitnessClaimed_1 := ⟨start1.p0, start1.e0, start1.about1, start1.theMethod, start1.args0, start1.below0, start1.atStart⟩
end Jvm.Pilot.@@N@@
