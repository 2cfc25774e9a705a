import JvmDerived
import JvmDerived.Pilot.@@N@@Statement
import JvmDerived.Pilot.@@N@@Code
set_option linter.unusedVariables false
set_option linter.unusedSimpArgs false
namespace Jvm.RoadKit
open Sem ClassFile Op Lib Jvm.Stand Jvm.Free Jvm.LawKit
section New
variable {p : Program} {l : Launch} {e : Env} {R : Room} {s : State} {m : MethodId} {args : Array Value} {below : List Frame} {meth : Method} {c : Code} {T : State} {locs : List Loc} {cells slots : Nat}
theorem retI (X : Stand p l e R s m args below meth c T locs cells slots) (hx : p.tables.exec = Jvm.exec) {pc : Nat} {Ls : Array Slot} {z : Int32} {rest : List Value} (hret : meth.sig.returnType = some .int) (hd : decode c.code pc = .ok (.ireturn, 1)) {fs : List Frame}
    (hl : ∀ (f : JFrame) (acts : List Action), f.method = m → f.locked = none → f.entered = [] → (doReturn e (T.setTop f) acts (some (.int z))).1 = T.setFrames fs) : Steps p.tables e below (T.setTop (mkF m pc Ls (.int z :: rest))) (T.setFrames fs) := by
  have hm' : T.vm.method? m = some meth := X.method'
  have hn : narrow .int (.int z) = .int z := rfl
  show Steps p.tables e below (T.setTop { method := m, pc := pc, locals := Ls, stack := _ :: rest, locked := none }) _
  jvm_step X.here [X.here.top, hx, hd, hm', hret, hn]
  first | (intro acts; rw [hl _ acts rfl rfl rfl]) | rw [hl _ _ rfl rfl rfl]
  exact Steps.refl _
end New
end Jvm.RoadKit
namespace Jvm.Pilot.@@N@@
open Jvm Jvm.ClassFile Sem Op Lib Jvm.Free Jvm.Stand Jvm.LawKit Jvm.RoadKit Bundle Jvm.Pilot.@@N@@.Jvm.D
theorem own_fldI {s : State} {args : Array Value} {t : Term} {x : Addr} {C n d : String} {k : Int32} (ev : t.eval args s none [] s = some (.ref x)) (h : (Cond.eq (.field t C n d) (.int k)).value args s none s [] = some true) : Fld s s.heap x C n d (.int k) := by
  refine Fld.start ?_
  have e := fld_at (C := C) (n := n) (dd := d) ev
  cases hq : s.fieldOf? x C n d with
  | none => rw [hq] at e; simp [Cond.value, e] at h
  | some v =>
    rw [hq] at e
    have e2 : (Term.int k).eval args s none [] s = some (.int k) := rfl
    cases v <;> simp [Cond.value, e, e2] at h
    rw [h]
theorem own_fldN {s : State} {args : Array Value} {t : Term} {x : Addr} {C n d : String} (ev : t.eval args s none [] s = some (.ref x)) (h : (Cond.eq (.field t C n d) .null).value args s none s [] = some true) : Fld s s.heap x C n d .null := by
  refine Fld.start ?_
  rw [← fld_at (C := C) (n := n) (dd := d) ev]
  exact null_v h
theorem own_fldR {s : State} {args : Array Value} {t u : Term} {x y : Addr} {C n d : String} (ev : t.eval args s none [] s = some (.ref x)) (eu : u.eval args s none [] s = some (.ref y)) (h : (Cond.eq (.field t C n d) u).value args s none s [] = some true) : Fld s s.heap x C n d (.ref y) := by
  refine Fld.start ?_
  have e := fld_at (C := C) (n := n) (dd := d) ev
  cases hq : s.fieldOf? x C n d with
  | none => rw [hq] at e; simp [Cond.value, e] at h
  | some v =>
    rw [hq] at e
    cases v <;> simp [Cond.value, e, eu] at h
    rw [h]
theorem own_staI {s : State} {args : Array Value} {C n d : String} {k : Int32} (h : (Cond.eq (.static C n d) (.int k)).value args s none s [] = some true) : (Term.static C n d).eval args s none [] s = some (.int k) := by
  cases hq : (Term.static C n d).eval args s none [] s with
  | none => simp [Cond.value, hq] at h
  | some v =>
    have e2 : (Term.int k).eval args s none [] s = some (.int k) := rfl
    cases v <;> simp [Cond.value, hq, e2] at h
    rw [h]
theorem own_elemR {s : State} {args : Array Value} {t u : Term} {x y : Addr} {cl : Cell} {j : Int32} (ev : t.eval args s none [] s = some (.ref x)) (eu : u.eval args s none [] s = some (.ref y)) (hc : s.heap[x]? = some cl) (h : (Cond.eq (.elem t (.int j)) u).value args s none s [] = some true) : cl.slots[j.toNatClampNeg]? = some (.ref y) := by
  cases hq : (Term.elem t (.int j)).eval args s none [] s with
  | none => simp [Cond.value, hq] at h
  | some v =>
    have e := (elem_in hq ev rfl hc).2
    cases v <;> simp [Cond.value, hq, eu] at h
    rw [e, h]
theorem own_fresh {Z : State} {h : Heap} {a b : Addr} {C n d : String} {v w : Value} (F : Fld Z h a C n d v) (G : Fld Z h b C n d w) (q : v ≠ w) : a ≠ b := F.ne G q
theorem own_sta_keep {Z : State} {h h' : Heap} {C n d : String} {v : Value} {ws : List Addr} (F : Sta Z h C n d v) (K : Keep h h' ws) (q : ∀ x ∈ ws, ∀ c : Cell, h[x]? = some c → c.vm.isStatics = false) : Sta Z h' C n d v := by
  obtain ⟨cf, i, k, f, st, cell, h1, h2, h3, h4, h5, h6, h7⟩ := F
  refine ⟨cf, i, k, f, st, cell, h1, h2, h3, h4, K.2.1 st cell h5 (fun hm => ?_), h6, h7⟩
  rw [q st hm cell h5] at h6; cases h6
theorem own_mono {p : Program} {l : Launch} {e : Env} {R : Room} {s : State} {m : MethodId} {args : Array Value} {below : List Frame} {meth : Method} {c : Code} {T : State} {locs : List Loc} {k j k' j' : Nat} (X : Stand p l e R s m args below meth c T locs k j) (hk : k ≤ k') (hj : j ≤ j') : Stand p l e R s m args below meth c T locs k' j' := { X with same := X.same.mono hk hj }
theorem own_nost {Z : State} {h : Heap} {a : Addr} {C : String} (F : Exa Z h a C) : ∀ c : Cell, h[a]? = some c → c.vm.isStatics = false := fun c hc => by
  obtain ⟨c', _, h1, -, -, h4, -⟩ := F
  cases h1.symm.trans hc; exact h4
theorem own_nostV {Z : State} {h : Heap} {a : Addr} {k : ClassId} {ty : FieldType} {z : Int32} {vs : List Value} {dv : Value} (F : Arv Z h a k ty z vs dv) : ∀ c : Cell, h[a]? = some c → c.vm.isStatics = false := fun c hc => by
  obtain ⟨c', A, -⟩ := F
  cases A.1.symm.trans hc; exact A.plain
theorem d0_0 : decode jdk_30_method_1_code 0 = .ok (.aload_n 0, 1) := by decide +kernel
theorem d0_1 : decode jdk_30_method_1_code 1 = .ok (.invokespecial 1, 3) := by decide +kernel
theorem d0_4 : decode jdk_30_method_1_code 4 = .ok (.return_, 1) := by decide +kernel
theorem pn_1 : plainName "java/lang/Record" = true := by first | (simp [plainName, overriddenIn]; done) | decide +kernel
theorem d2_0 : decode prog_21_method_1_code 0 = .ok (.aload_n 0, 1) := by decide +kernel
theorem d2_1 : decode prog_21_method_1_code 1 = .ok (.invokespecial 1, 3) := by decide +kernel
theorem pd_3 : parseMethodDescriptor "()V" = some ⟨[], none⟩ := by decide +kernel
theorem d2_4 : decode prog_21_method_1_code 4 = .ok (.iload_n 1, 1) := by decide +kernel
theorem d2_5 : decode prog_21_method_1_code 5 = .ok (.iconst 1, 1) := by decide +kernel
theorem d2_6 : decode prog_21_method_1_code 6 = .ok (.if_icmp .lt 8, 3) := by decide +kernel
theorem d2_9 : decode prog_21_method_1_code 9 = .ok (.iload_n 2, 1) := by decide +kernel
theorem d2_10 : decode prog_21_method_1_code 10 = .ok (.iconst 1, 1) := by decide +kernel
theorem d2_11 : decode prog_21_method_1_code 11 = .ok (.if_icmp .ge 18, 3) := by decide +kernel
theorem d2_29 : decode prog_21_method_1_code 29 = .ok (.iload_n 1, 1) := by decide +kernel
theorem d2_30 : decode prog_21_method_1_code 30 = .ok (.i2l, 1) := by decide +kernel
theorem d2_31 : decode prog_21_method_1_code 31 = .ok (.iload_n 2, 1) := by decide +kernel
theorem d2_32 : decode prog_21_method_1_code 32 = .ok (.i2l, 1) := by decide +kernel
theorem d2_33 : decode prog_21_method_1_code 33 = .ok (.lmul, 1) := by decide +kernel
theorem d2_34 : decode prog_21_method_1_code 34 = .ok (.ldc2_w 18, 3) := by decide +kernel
theorem d2_37 : decode prog_21_method_1_code 37 = .ok (.lcmp, 1) := by decide +kernel
theorem d2_38 : decode prog_21_method_1_code 38 = .ok (.ifCond .le 48, 3) := by decide +kernel
theorem d2_86 : decode prog_21_method_1_code 86 = .ok (.aload_n 0, 1) := by decide +kernel
theorem d2_87 : decode prog_21_method_1_code 87 = .ok (.iload_n 1, 1) := by decide +kernel
theorem d2_88 : decode prog_21_method_1_code 88 = .ok (.putfield 50, 3) := by decide +kernel
theorem d2_91 : decode prog_21_method_1_code 91 = .ok (.aload_n 0, 1) := by decide +kernel
theorem d2_92 : decode prog_21_method_1_code 92 = .ok (.iload_n 2, 1) := by decide +kernel
theorem d2_93 : decode prog_21_method_1_code 93 = .ok (.putfield 54, 3) := by decide +kernel
theorem d2_96 : decode prog_21_method_1_code 96 = .ok (.return_, 1) := by decide +kernel
theorem pn_4 : plainName "com/example/hoofprint/hoofprint/model/Board" = true := by first | (simp [plainName, overriddenIn]; done) | decide +kernel
theorem d5_0 : decode prog_21_method_2_code 0 = .ok (.aload_n 0, 1) := by decide +kernel
theorem d5_1 : decode prog_21_method_2_code 1 = .ok (.getfield 50, 3) := by decide +kernel
theorem d5_4 : decode prog_21_method_2_code 4 = .ok (.aload_n 0, 1) := by decide +kernel
theorem d5_5 : decode prog_21_method_2_code 5 = .ok (.getfield 54, 3) := by decide +kernel
theorem d5_8 : decode prog_21_method_2_code 8 = .ok (.imul, 1) := by decide +kernel
theorem d5_9 : decode prog_21_method_2_code 9 = .ok (.ireturn, 1) := by decide +kernel
theorem d6_0 : decode prog_21_method_10_code 0 = .ok (.aload_n 0, 1) := by decide +kernel
theorem d6_1 : decode prog_21_method_10_code 1 = .ok (.getfield 54, 3) := by decide +kernel
theorem d6_4 : decode prog_21_method_10_code 4 = .ok (.ireturn, 1) := by decide +kernel
theorem d7_0 : decode jdk_37_method_2_code 0 = .ok (.aload_n 0, 1) := by decide +kernel
theorem d7_1 : decode jdk_37_method_2_code 1 = .ok (.getfield 7, 3) := by decide +kernel
theorem d7_4 : decode jdk_37_method_2_code 4 = .ok (.ireturn, 1) := by decide +kernel
theorem pn_8 : plainName "java/lang/Enum" = true := by first | (simp [plainName, overriddenIn]; done) | decide +kernel
theorem d9_0 : decode prog_23_method_6_code 0 = .ok (.aload_n 0, 1) := by decide +kernel
theorem d9_1 : decode prog_23_method_6_code 1 = .ok (.invokevirtual 91, 3) := by decide +kernel
theorem pd_10 : parseMethodDescriptor "()I" = some ⟨[], some .int⟩ := by decide +kernel
theorem d9_4 : decode prog_23_method_6_code 4 = .ok (.ireturn, 1) := by decide +kernel
theorem pn_11 : plainName "com/example/hoofprint/hoofprint/model/KnightMove" = true := by first | (simp [plainName, overriddenIn]; done) | decide +kernel
theorem d12_0 : decode prog_23_method_5_code 0 = .ok (.getstatic 80, 3) := by decide +kernel
theorem d12_3 : decode prog_23_method_5_code 3 = .ok (.arraylength, 1) := by decide +kernel
theorem d12_4 : decode prog_23_method_5_code 4 = .ok (.newarray .int, 2) := by decide +kernel
theorem d12_6 : decode prog_23_method_5_code 6 = .ok (.astore_n 1, 1) := by decide +kernel
theorem d12_7 : decode prog_23_method_5_code 7 = .ok (.getstatic 80, 3) := by decide +kernel
theorem d12_10 : decode prog_23_method_5_code 10 = .ok (.astore_n 2, 1) := by decide +kernel
theorem d12_11 : decode prog_23_method_5_code 11 = .ok (.aload_n 2, 1) := by decide +kernel
theorem d12_12 : decode prog_23_method_5_code 12 = .ok (.arraylength, 1) := by decide +kernel
theorem d12_13 : decode prog_23_method_5_code 13 = .ok (.istore_n 3, 1) := by decide +kernel
theorem d12_14 : decode prog_23_method_5_code 14 = .ok (.iconst 0, 1) := by decide +kernel
theorem d12_15 : decode prog_23_method_5_code 15 = .ok (.istore 4, 2) := by decide +kernel
theorem d12_17 : decode prog_23_method_5_code 17 = .ok (.iload 4, 2) := by decide +kernel
theorem d12_19 : decode prog_23_method_5_code 19 = .ok (.iload_n 3, 1) := by decide +kernel
theorem d12_20 : decode prog_23_method_5_code 20 = .ok (.if_icmp .ge 38, 3) := by decide +kernel
theorem d12_23 : decode prog_23_method_5_code 23 = .ok (.aload_n 2, 1) := by decide +kernel
theorem d12_24 : decode prog_23_method_5_code 24 = .ok (.iload 4, 2) := by decide +kernel
theorem d12_26 : decode prog_23_method_5_code 26 = .ok (.aaload, 1) := by decide +kernel
theorem d12_27 : decode prog_23_method_5_code 27 = .ok (.astore 5, 2) := by decide +kernel
theorem d12_29 : decode prog_23_method_5_code 29 = .ok (.aload_n 1, 1) := by decide +kernel
theorem d12_30 : decode prog_23_method_5_code 30 = .ok (.aload 5, 2) := by decide +kernel
theorem d12_32 : decode prog_23_method_5_code 32 = .ok (.invokevirtual 83, 3) := by decide +kernel
theorem d12_35 : decode prog_23_method_5_code 35 = .ok (.aload 5, 2) := by decide +kernel
theorem d12_37 : decode prog_23_method_5_code 37 = .ok (.getfield 47, 3) := by decide +kernel
theorem d12_40 : decode prog_23_method_5_code 40 = .ok (.aload_n 0, 1) := by decide +kernel
theorem d12_41 : decode prog_23_method_5_code 41 = .ok (.invokevirtual 87, 3) := by decide +kernel
theorem d12_44 : decode prog_23_method_5_code 44 = .ok (.imul, 1) := by decide +kernel
theorem d12_45 : decode prog_23_method_5_code 45 = .ok (.aload 5, 2) := by decide +kernel
theorem d12_47 : decode prog_23_method_5_code 47 = .ok (.getfield 51, 3) := by decide +kernel
theorem d12_50 : decode prog_23_method_5_code 50 = .ok (.iadd, 1) := by decide +kernel
theorem d12_51 : decode prog_23_method_5_code 51 = .ok (.iastore, 1) := by decide +kernel
theorem d12_52 : decode prog_23_method_5_code 52 = .ok (.iinc 4 1, 3) := by decide +kernel
theorem d12_55 : decode prog_23_method_5_code 55 = .ok (.goto (-38), 3) := by decide +kernel
theorem d12_58 : decode prog_23_method_5_code 58 = .ok (.aload_n 1, 1) := by decide +kernel
theorem d12_59 : decode prog_23_method_5_code 59 = .ok (.areturn, 1) := by decide +kernel
theorem d13_5 : decode jdk_65_method_109_code 5 = .ok (.iload_n 2, 1) := by decide +kernel
theorem d13_6 : decode jdk_65_method_109_code 6 = .ok (.iload_n 3, 1) := by decide +kernel
theorem d13_7 : decode jdk_65_method_109_code 7 = .ok (.if_icmp .ge 13, 3) := by decide +kernel
theorem d13_10 : decode jdk_65_method_109_code 10 = .ok (.aload_n 0, 1) := by decide +kernel
theorem d13_11 : decode jdk_65_method_109_code 11 = .ok (.iload_n 2, 1) := by decide +kernel
theorem d13_12 : decode jdk_65_method_109_code 12 = .ok (.iload_n 1, 1) := by decide +kernel
theorem d13_13 : decode jdk_65_method_109_code 13 = .ok (.bastore, 1) := by decide +kernel
theorem d13_14 : decode jdk_65_method_109_code 14 = .ok (.iinc 2 1, 3) := by decide +kernel
theorem d13_17 : decode jdk_65_method_109_code 17 = .ok (.goto (-12), 3) := by decide +kernel
theorem d13_0 : decode jdk_65_method_109_code 0 = .ok (.iconst 0, 1) := by decide +kernel
theorem d13_1 : decode jdk_65_method_109_code 1 = .ok (.istore_n 2, 1) := by decide +kernel
theorem d13_2 : decode jdk_65_method_109_code 2 = .ok (.aload_n 0, 1) := by decide +kernel
theorem d13_3 : decode jdk_65_method_109_code 3 = .ok (.arraylength, 1) := by decide +kernel
theorem d13_4 : decode jdk_65_method_109_code 4 = .ok (.istore_n 3, 1) := by decide +kernel
theorem d13_20 : decode jdk_65_method_109_code 20 = .ok (.return_, 1) := by decide +kernel
theorem pn_14 : plainName "java/util/Arrays" = true := by first | (simp [plainName, overriddenIn]; done) | decide +kernel
theorem d15_0 : decode prog_55_method_1_code 0 = .ok (.aload_n 0, 1) := by decide +kernel
theorem d15_1 : decode prog_55_method_1_code 1 = .ok (.invokespecial 1, 3) := by decide +kernel
theorem d15_4 : decode prog_55_method_1_code 4 = .ok (.aload_n 0, 1) := by decide +kernel
theorem d15_5 : decode prog_55_method_1_code 5 = .ok (.aload_n 1, 1) := by decide +kernel
theorem d15_6 : decode prog_55_method_1_code 6 = .ok (.putfield 7, 3) := by decide +kernel
theorem d15_9 : decode prog_55_method_1_code 9 = .ok (.aload_n 0, 1) := by decide +kernel
theorem d15_10 : decode prog_55_method_1_code 10 = .ok (.aload_n 1, 1) := by decide +kernel
theorem d15_11 : decode prog_55_method_1_code 11 = .ok (.invokevirtual 13, 3) := by decide +kernel
theorem d15_14 : decode prog_55_method_1_code 14 = .ok (.newarray .byte, 2) := by decide +kernel
theorem d15_16 : decode prog_55_method_1_code 16 = .ok (.putfield 19, 3) := by decide +kernel
theorem d15_19 : decode prog_55_method_1_code 19 = .ok (.aload_n 0, 1) := by decide +kernel
theorem d15_20 : decode prog_55_method_1_code 20 = .ok (.aload_n 1, 1) := by decide +kernel
theorem d15_21 : decode prog_55_method_1_code 21 = .ok (.invokestatic 23, 3) := by decide +kernel
theorem pd_16 : parseMethodDescriptor "(Lcom/example/hoofprint/hoofprint/model/Board;)[I" = some ⟨[(.object "com/example/hoofprint/hoofprint/model/Board")], some (.array .int)⟩ := by decide +kernel
theorem d15_24 : decode prog_55_method_1_code 24 = .ok (.putfield 29, 3) := by decide +kernel
theorem d15_27 : decode prog_55_method_1_code 27 = .ok (.aload_n 0, 1) := by decide +kernel
theorem d15_28 : decode prog_55_method_1_code 28 = .ok (.getfield 19, 3) := by decide +kernel
theorem d15_31 : decode prog_55_method_1_code 31 = .ok (.getstatic 33, 3) := by decide +kernel
theorem d15_34 : decode prog_55_method_1_code 34 = .ok (.iconst 4, 1) := by decide +kernel
theorem d15_35 : decode prog_55_method_1_code 35 = .ok (.ishl, 1) := by decide +kernel
theorem d15_36 : decode prog_55_method_1_code 36 = .ok (.getstatic 33, 3) := by decide +kernel
theorem d15_39 : decode prog_55_method_1_code 39 = .ok (.ior, 1) := by decide +kernel
theorem d15_40 : decode prog_55_method_1_code 40 = .ok (.i2b, 1) := by decide +kernel
theorem d15_41 : decode prog_55_method_1_code 41 = .ok (.invokestatic 37, 3) := by decide +kernel
theorem pd_17 : parseMethodDescriptor "([BB)V" = some ⟨[(.array .byte), .byte], none⟩ := by decide +kernel
theorem d15_44 : decode prog_55_method_1_code 44 = .ok (.return_, 1) := by decide +kernel
theorem pn_18 : plainName "com/example/hoofprint/hoofprint/service/TourLinks" = true := by first | (simp [plainName, overriddenIn]; done) | decide +kernel
theorem d19_0 : decode prog_55_method_7_code 0 = .ok (.iload_n 1, 1) := by decide +kernel
theorem d19_1 : decode prog_55_method_7_code 1 = .ok (.aload_n 0, 1) := by decide +kernel
theorem d19_2 : decode prog_55_method_7_code 2 = .ok (.getfield 7, 3) := by decide +kernel
theorem d19_5 : decode prog_55_method_7_code 5 = .ok (.invokevirtual 71, 3) := by decide +kernel
theorem d19_8 : decode prog_55_method_7_code 8 = .ok (.imul, 1) := by decide +kernel
theorem d19_9 : decode prog_55_method_7_code 9 = .ok (.iload_n 2, 1) := by decide +kernel
theorem d19_10 : decode prog_55_method_7_code 10 = .ok (.iadd, 1) := by decide +kernel
theorem d19_11 : decode prog_55_method_7_code 11 = .ok (.ireturn, 1) := by decide +kernel
theorem d20_0 : decode prog_24_method_1_code 0 = .ok (.aload_n 0, 1) := by decide +kernel
theorem d20_1 : decode prog_24_method_1_code 1 = .ok (.invokespecial 1, 3) := by decide +kernel
theorem d20_4 : decode prog_24_method_1_code 4 = .ok (.aload_n 0, 1) := by decide +kernel
theorem d20_5 : decode prog_24_method_1_code 5 = .ok (.iload_n 1, 1) := by decide +kernel
theorem d20_6 : decode prog_24_method_1_code 6 = .ok (.putfield 7, 3) := by decide +kernel
theorem d20_9 : decode prog_24_method_1_code 9 = .ok (.aload_n 0, 1) := by decide +kernel
theorem d20_10 : decode prog_24_method_1_code 10 = .ok (.iload_n 2, 1) := by decide +kernel
theorem d20_11 : decode prog_24_method_1_code 11 = .ok (.putfield 13, 3) := by decide +kernel
theorem d20_14 : decode prog_24_method_1_code 14 = .ok (.return_, 1) := by decide +kernel
theorem pn_21 : plainName "com/example/hoofprint/hoofprint/model/Square" = true := by first | (simp [plainName, overriddenIn]; done) | decide +kernel
theorem d22_0 : decode prog_24_method_6_code 0 = .ok (.aload_n 0, 1) := by decide +kernel
theorem d22_1 : decode prog_24_method_6_code 1 = .ok (.getfield 7, 3) := by decide +kernel
theorem d22_4 : decode prog_24_method_6_code 4 = .ok (.ireturn, 1) := by decide +kernel
theorem d23_0 : decode prog_24_method_7_code 0 = .ok (.aload_n 0, 1) := by decide +kernel
theorem d23_1 : decode prog_24_method_7_code 1 = .ok (.getfield 13, 3) := by decide +kernel
theorem d23_4 : decode prog_24_method_7_code 4 = .ok (.ireturn, 1) := by decide +kernel
theorem d24_0 : decode prog_21_method_3_code 0 = .ok (.iload_n 1, 1) := by decide +kernel
theorem d24_1 : decode prog_21_method_3_code 1 = .ok (.ifCond .lt 11, 3) := by decide +kernel
theorem d24_4 : decode prog_21_method_3_code 4 = .ok (.iload_n 1, 1) := by decide +kernel
theorem d24_5 : decode prog_21_method_3_code 5 = .ok (.aload_n 0, 1) := by decide +kernel
theorem d24_6 : decode prog_21_method_3_code 6 = .ok (.invokevirtual 57, 3) := by decide +kernel
theorem d24_9 : decode prog_21_method_3_code 9 = .ok (.if_icmp .lt 21, 3) := by decide +kernel
theorem d24_30 : decode prog_21_method_3_code 30 = .ok (.new 70, 3) := by decide +kernel
theorem d24_33 : decode prog_21_method_3_code 33 = .ok (.dup, 1) := by decide +kernel
theorem d24_34 : decode prog_21_method_3_code 34 = .ok (.iload_n 1, 1) := by decide +kernel
theorem d24_35 : decode prog_21_method_3_code 35 = .ok (.aload_n 0, 1) := by decide +kernel
theorem d24_36 : decode prog_21_method_3_code 36 = .ok (.getfield 54, 3) := by decide +kernel
theorem d24_39 : decode prog_21_method_3_code 39 = .ok (.idiv, 1) := by decide +kernel
theorem d24_40 : decode prog_21_method_3_code 40 = .ok (.iconst 1, 1) := by decide +kernel
theorem d24_41 : decode prog_21_method_3_code 41 = .ok (.iadd, 1) := by decide +kernel
theorem d24_42 : decode prog_21_method_3_code 42 = .ok (.iload_n 1, 1) := by decide +kernel
theorem d24_43 : decode prog_21_method_3_code 43 = .ok (.aload_n 0, 1) := by decide +kernel
theorem d24_44 : decode prog_21_method_3_code 44 = .ok (.getfield 54, 3) := by decide +kernel
theorem d24_47 : decode prog_21_method_3_code 47 = .ok (.irem, 1) := by decide +kernel
theorem d24_48 : decode prog_21_method_3_code 48 = .ok (.iconst 1, 1) := by decide +kernel
theorem d24_49 : decode prog_21_method_3_code 49 = .ok (.iadd, 1) := by decide +kernel
theorem d24_50 : decode prog_21_method_3_code 50 = .ok (.invokespecial 72, 3) := by decide +kernel
theorem pd_25 : parseMethodDescriptor "(II)V" = some ⟨[.int, .int], none⟩ := by decide +kernel
theorem d24_53 : decode prog_21_method_3_code 53 = .ok (.areturn, 1) := by decide +kernel
theorem pd_27 : parseMethodDescriptor "(Lcom/example/hoofprint/hoofprint/model/Board;)V" = some ⟨[(.object "com/example/hoofprint/hoofprint/model/Board")], none⟩ := by decide +kernel
theorem pd_28 : parseMethodDescriptor "(II)I" = some ⟨[.int, .int], some .int⟩ := by decide +kernel
theorem pd_29 : parseMethodDescriptor "(I)Lcom/example/hoofprint/hoofprint/model/Square;" = some ⟨[.int], some (.object "com/example/hoofprint/hoofprint/model/Square")⟩ := by decide +kernel
theorem pn_30 : plainName "com/example/hoofprint/hoofprint/service/TourLinksIndexPinLaw" = true := by first | (simp [plainName, overriddenIn]; done) | decide +kernel
theorem own_len {s : State} {args : Array Value} {t : Term} {x : Addr} {cl : Cell} {ty : FieldType} {k : Int32} (ev : t.eval args s none [] s = some (.ref x)) (h : (Cond.eq (.length t) (.int k)).value args s none s [] = some true) (A : Arr s s.heap x cl ty) : cl.slots.size < 2 ^ 31 ∧ cl.slots.size.toInt32 = k := by
  have hA : s.arrayAt? x = some cl := A.fin (Vm.Alike.refl _)
  by_cases hl : cl.slots.size < 2 ^ 31
  · have e := len_f ev hA hl
    have e2 : (Term.int k).eval args s none [] s = some (.int k) := rfl
    refine ⟨hl, ?_⟩
    simpa [Cond.value, e, e2] using h
  · exfalso
    have e : (Term.length t).eval args s none [] s = none := by simp [Term.eval, ev, hA, hl]
    simp [Cond.value, e] at h

theorem own_clamp {i z : Int32} (hi : ¬ i < 0) (h : i < z) : (i + (1 : Int32)).toNatClampNeg = i.toNatClampNeg + 1 ∧ ¬ (i + (1 : Int32)) < 0 ∧ i.toNatClampNeg < z.toNatClampNeg := by
  have e := c_iadd i 1
  have r := rng32 (i + 1)
  have r2 := rng32 i
  have r3 := rng32 z
  have q : (1 : Int32).toInt = 1 := rfl
  have q3 : (0 : Int32).toInt = 0 := rfl
  rw [Int32.lt_iff_toInt_lt] at hi h
  simp only [Int32.lt_iff_toInt_lt, Int32.toNatClampNeg]
  omega
theorem own_same {i z : Int32} (hi : ¬ i < 0) (hz : ¬ z < 0) (h : i.toNatClampNeg = z.toNatClampNeg) : i = z := by
  have q3 : (0 : Int32).toInt = 0 := rfl
  rw [Int32.lt_iff_toInt_lt] at hi hz
  simp only [Int32.toNatClampNeg] at h
  apply Int32.toInt_inj.mp
  omega
theorem own_below {i z : Int32} (hi : ¬ i < 0) (hz : ¬ z < 0) {k : Nat} (h : i.toNatClampNeg + (k + 1) = z.toNatClampNeg) : i < z := by
  have q3 : (0 : Int32).toInt = 0 := rfl
  rw [Int32.lt_iff_toInt_lt] at hi hz ⊢
  simp only [Int32.toNatClampNeg] at h
  omega
theorem own_setrep {w x : Value} {n : Nat} {rest : List Value} : (List.replicate n w ++ x :: rest).set n w = List.replicate (n + 1) w ++ rest := by
  rw [List.set_append_right _ _ (by simp)]
  simp [List.replicate_succ', List.append_assoc]

theorem ef_own_rec (m : MethodId) (pr0 : Addr) : entryFrame m #[(.ref pr0)] 1 = mkF m 0 #[.val (.ref pr0)] [] := by first | (simp [entryFrame, mkF, argsToLocals, Value.category]; done) | rfl
def Q_own_rec (Z : State) (pr0 : Addr)  (h0 : Heap) (n0 : Nat) (v : Option Value) (h : Heap) (L : List Loc) : Prop := v = none ∧ Fr n0 L ∧ h = h0
set_option maxRecDepth 65536 in
set_option maxHeartbeats 40000000 in
theorem own_rec (l : Launch) (Z : State) (a0 : Array Value) (hw : ∀ d ∈ tables_1, d.before a0 Z = true) (ws : List Jvm.Cond) (pr0 : Addr)  (h0 : Heap) (n0 : Nat) (Z0 : n0 ≤ h0.size) :
    MetFree l (⟨"java/lang/Record", "<init>", "()V"⟩ : MethodName) (head1 (Jvm.Cond.code (⟨"java/lang/Record", "<init>", "()V"⟩ : MethodName) jdk_30_method_1_code 1 none :: ws) ({ frames := 1, cells := 0, slots := 0, locals := 12 } : Room)) (fun a U => a = #[(.ref pr0)] ∧ Z.Warmed39 U.vm ∧ U.heap = h0) (fun _ _ _ _ _ => True) (fun _ U o U' => ∃ v L, o = .returned v ∧ Q_own_rec Z pr0 h0 n0 v U'.heap L ∧ FrameEnd U o U' L ({ frames := 1, cells := 0, slots := 0, locals := 12 } : Room).cells ({ frames := 1, cells := 0, slots := 0, locals := 12 } : Room).slots) := by
  refine MetFree.of_bodySF (plainFor_of_name pn_1) hisR ?_
  intro p e s m args below meth c s₁ Bd hml0 hP hK
  obtain ⟨rfl, hZ, hh⟩ := hP
  have hx := Bd.exec
  have hby := Bd.bytes
  have hml : c.maxLocals = 1 := hml0
  have hown : s.vm.findClass "java/lang/Record" = some m.cls := findClass_of_methodNamed Bd.named
  have hnm := (name_of_methodNamed Bd.named Bd.method).1
  have X0 : Stand p l e ({ frames := 1, cells := 0, slots := 0, locals := 12 } : Room) s m #[(.ref pr0)] below meth c s₁ [] 0 0 := Stand.of_body Bd
  have e0 : s₁.heap = h0 := by rw [← hh, Bd.state]; rfl
  have N0 := Fr.nil n0
  have go0 : ∀ t, Steps p.tables e below (s₁.setTop (mkF m 0 #[.val (.ref pr0)] [])) t → Steps p.tables e below (s₁.setTop (entryFrame m #[(.ref pr0)] 1)) t := fun t k => castTop (ef_own_rec m pr0) k
  revert go0
  generalize s₁.setTop (entryFrame m #[(.ref pr0)] 1) = st0
  intro go0
  obtain ⟨T1, X1, e1, st1⟩ := initO X0 hx hZ hown (hw _ (List.mem_of_getElem? (i := 12) rfl)) (hw _ (List.mem_of_getElem? (i := 13) rfl)) (hw _ (List.mem_of_getElem? (i := 14) rfl)) e0 (g := (mkF m 1 #[.val (.ref pr0)] [(.ref pr0)])) rfl (by rw [hml]; rfl) rfl (hb hby d0_1) (by decide) (W := 0) (by show 2 * 0 + _ ≤ _; exact Nat.le_of_eq rfl) (by decide)
  have go2 : ∀ t, Steps p.tables e below (T1.setTop (mkF m 4 #[.val (.ref pr0)] [])) t → Steps p.tables e below st0 t := by
    intro t kt
    refine go0 t ?_
    refine XS.aloadN X0.here hx rfl (hb hby d0_0) rfl rfl ?_
    show Steps p.tables e below (s₁.setTop (mkF m 1 #[.val (.ref pr0)] [(.ref pr0)])) _
    refine st1 _ ?_
    show Steps p.tables e below (T1.setTop (mkF m 4 #[.val (.ref pr0)] [])) _
    exact kt
  obtain ⟨fs, hr, hrun, hended, hW, hsame⟩ := X1.leave (v := none) (fun _ => rfl)
  refine ⟨_, _, go2 _ ?_, hrun, hended, _, _, rfl, ?_, ⟨_, rfl⟩, hW, hsame.mono (by decide) (by decide)⟩
  · exact X1.returnOut hx Bd.returns (hb hby d0_4) hr
  · show Q_own_rec Z pr0 h0 n0 _ T1.heap _
    rw [e1]
    exact ⟨rfl, N0, rfl⟩
theorem ef_own_board (m : MethodId) (pr0 : Addr) (pi1 : Int32) (pi2 : Int32) : entryFrame m #[(.ref pr0), (.int pi1), (.int pi2)] 3 = mkF m 0 #[.val (.ref pr0), .val (.int pi1), .val (.int pi2)] [] := by first | (simp [entryFrame, mkF, argsToLocals, Value.category]; done) | rfl
def Q_own_board (Z : State) (pr0 : Addr) (pi1 : Int32) (pi2 : Int32)  (h0 : Heap) (n0 : Nat) (v : Option Value) (h : Heap) (L : List Loc) : Prop := Fr n0 L ∧ v = none ∧ Keep h0 h ([pr0] : List Addr) ∧ Exa Z h pr0 "com/example/hoofprint/hoofprint/model/Board" ∧ Fld Z h pr0 "com/example/hoofprint/hoofprint/model/Board" "rows" "I" (.int pi1) ∧ Fld Z h pr0 "com/example/hoofprint/hoofprint/model/Board" "columns" "I" (.int pi2)
set_option maxRecDepth 65536 in
set_option maxHeartbeats 40000000 in
theorem own_board (l : Launch) (Z : State) (a0 : Array Value) (hw : ∀ d ∈ tables_1, d.before a0 Z = true) (ws : List Jvm.Cond) (pr0 : Addr) (pi1 : Int32) (pi2 : Int32)  (h0 : Heap) (n0 : Nat) (Z0 : n0 ≤ h0.size) (P0 : Exa Z h0 pr0 "com/example/hoofprint/hoofprint/model/Board") (P1 : Fld Z h0 pr0 "com/example/hoofprint/hoofprint/model/Board" "rows" "I" (.int (0 : Int32))) (P2 : Fld Z h0 pr0 "com/example/hoofprint/hoofprint/model/Board" "columns" "I" (.int (0 : Int32))) (P3 : ¬ (pi1 < (1 : Int32))) (P4 : ¬ (pi2 < (1 : Int32))) (P5 : ¬ ((100000000 : Int64) < ((pi1.toInt64) * (pi2.toInt64)))) (P6 : n0 ≤ pr0) :
    MetFree l (⟨"com/example/hoofprint/hoofprint/model/Board", "<init>", "(II)V"⟩ : MethodName) (head1 (Jvm.Cond.code (⟨"com/example/hoofprint/hoofprint/model/Board", "<init>", "(II)V"⟩ : MethodName) prog_21_method_1_code 3 none :: ws) ({ frames := 2, cells := 0, slots := 0, locals := 24 } : Room)) (fun a U => a = #[(.ref pr0), (.int pi1), (.int pi2)] ∧ Z.Warmed39 U.vm ∧ U.heap = h0) (fun _ _ _ _ _ => True) (fun _ U o U' => ∃ v L, o = .returned v ∧ Q_own_board Z pr0 pi1 pi2 h0 n0 v U'.heap L ∧ FrameEnd U o U' L ({ frames := 2, cells := 0, slots := 0, locals := 24 } : Room).cells ({ frames := 2, cells := 0, slots := 0, locals := 24 } : Room).slots) := by
  refine MetFree.of_bodySF (plainFor_of_name pn_4) hisR ?_
  intro p e s m args below meth c s₁ Bd hml0 hP hK
  obtain ⟨rfl, hZ, hh⟩ := hP
  have hx := Bd.exec
  have hby := Bd.bytes
  have hml : c.maxLocals = 3 := hml0
  have hown : s.vm.findClass "com/example/hoofprint/hoofprint/model/Board" = some m.cls := findClass_of_methodNamed Bd.named
  have hnm := (name_of_methodNamed Bd.named Bd.method).1
  have X0 : Stand p l e ({ frames := 2, cells := 0, slots := 0, locals := 24 } : Room) s m #[(.ref pr0), (.int pi1), (.int pi2)] below meth c s₁ [] 0 0 := Stand.of_body Bd
  have e0 : s₁.heap = h0 := by rw [← hh, Bd.state]; rfl
  have N0 := Fr.nil n0
  have go0 : ∀ t, Steps p.tables e below (s₁.setTop (mkF m 0 #[.val (.ref pr0), .val (.int pi1), .val (.int pi2)] [])) t → Steps p.tables e below (s₁.setTop (entryFrame m #[(.ref pr0), (.int pi1), (.int pi2)] 3)) t := fun t k => castTop (ef_own_board m pr0 pi1 pi2) k
  revert go0
  generalize s₁.setTop (entryFrame m #[(.ref pr0), (.int pi1), (.int pi2)] 3) = st0
  intro go0
  obtain ⟨_, _, ⟨T1, L1, k1, n1⟩, -, X1, ⟨Lc1, hQ1, l1, y1, z1⟩, st1⟩ := X0.specialBack hx (y := (⟨"java/lang/Record", "<init>", "()V"⟩ : MethodName)) rfl hown (mvT hZ (hw _ (List.mem_of_getElem? (i := 7) rfl))) (mvT hZ (hw _ (List.mem_of_getElem? (i := 8) rfl))) (mvT hZ (hw _ (List.mem_of_getElem? (i := 11) rfl))) (by decide) (backOf (W := 0) (own_rec l Z a0 hw [] pr0 h0 n0 Z0 ) hZ (hw _ (List.mem_of_getElem? (i := 11) rfl)) (hw _ (List.mem_of_getElem? (i := 10) rfl)) (by decide) (by decide)) (g := (mkF m 1 #[.val (.ref pr0), .val (.int pi1), .val (.int pi2)] [(.ref pr0)])) rfl (by rw [hml]; rfl) (Steps.refl _) (a := pr0) (argsL := []) (rest := []) (lenOf pd_3 rfl) rfl (by show 2 * 0 + _ ≤ _; exact Nat.le_of_eq rfl) (hb hby d2_1) (fun _ _ => ⟨rfl, e0, (by decide : 0 + 0 ≤ _), (by decide : 0 + 0 ≤ _)⟩)
  dsimp only [Pt.U, Pt.locs, Pt.cells, Pt.slots] at X1 l1 y1 z1 st1 hQ1
  subst l1 y1 z1
  obtain ⟨rfl, Nq1, e1⟩ := hQ1
  have N1 := Fr.app N0 Nq1
  obtain ⟨T2, h2, X2, e2, W2, st2⟩ := putF X1 hx hZ hown (host := "") (Or.inl (hw _ (List.mem_of_getElem? (i := 16) rfl))) Via.refl e1 P1 P0 (Or.inr ⟨(hw _ (List.mem_of_getElem? (i := 17) rfl)), rfl, hnm⟩) (hw _ (List.mem_of_getElem? (i := 2) rfl)) (ty := .int) (by decide) rfl rfl (g := (mkF m 88 #[.val (.ref pr0), .val (.int pi1), .val (.int pi2)] [(.int pi1), (.ref pr0)])) rfl rfl (hb hby d2_88)
  have K2 : Keep h0 h2 ([pr0] : List Addr) := (Keep.refl h0 ([pr0] : List Addr)).wr W2 (Or.inl (List.mem_of_getElem? (i := 0) rfl))
  have N2 := Fr.snoc X2 N1 P6
  have Z2 : n0 ≤ h2.size := Nat.le_trans Z0 (Keep.of_wr W2).1
  have Fw2 := P1.same W2
  have f3 : Fld Z h2 pr0 "com/example/hoofprint/hoofprint/model/Board" "columns" "I" (.int (0 : Int32)) := (P2.other W2 (Or.inr (slot_ne (Or.inr (hw _ (List.mem_of_getElem? (i := 19) rfl))) (Or.inr (hw _ (List.mem_of_getElem? (i := 17) rfl))) (by decide) (t := .int) (t' := .int) (by decide) (by decide))))
  have f4 : Exa Z h2 pr0 "com/example/hoofprint/hoofprint/model/Board" := (P0.wr W2)
  obtain ⟨T5, h5, X5, e5, W5, st5⟩ := putF X2 hx hZ hown (host := "") (Or.inl (hw _ (List.mem_of_getElem? (i := 18) rfl))) Via.refl e2 f3 f4 (Or.inr ⟨(hw _ (List.mem_of_getElem? (i := 19) rfl)), rfl, hnm⟩) (hw _ (List.mem_of_getElem? (i := 2) rfl)) (ty := .int) (by decide) rfl rfl (g := (mkF m 93 #[.val (.ref pr0), .val (.int pi1), .val (.int pi2)] [(.int pi2), (.ref pr0)])) rfl rfl (hb hby d2_93)
  have K5 : Keep h0 h5 ([pr0] : List Addr) := K2.wr W5 (Or.inl (List.mem_of_getElem? (i := 0) rfl))
  have N5 := Fr.snoc X5 N2 P6
  have Z5 : n0 ≤ h5.size := Nat.le_trans Z2 (Keep.of_wr W5).1
  have Fw5 := f3.same W5
  have go6 : ∀ t, Steps p.tables e below (T5.setTop (mkF m 96 #[.val (.ref pr0), .val (.int pi1), .val (.int pi2)] [])) t → Steps p.tables e below st0 t := by
    intro t kt
    refine go0 t ?_
    refine XS.aloadN X0.here hx rfl (hb hby d2_0) rfl rfl ?_
    show Steps p.tables e below (s₁.setTop (mkF m 1 #[.val (.ref pr0), .val (.int pi1), .val (.int pi2)] [(.ref pr0)])) _
    refine st1.trans ?_
    show Steps p.tables e below (T1.setTop (mkF m 4 #[.val (.ref pr0), .val (.int pi1), .val (.int pi2)] [])) _
    refine XS.iloadN X1.here hx rfl (hb hby d2_4) rfl ?_
    show Steps p.tables e below (T1.setTop (mkF m 5 #[.val (.ref pr0), .val (.int pi1), .val (.int pi2)] [(.int pi1)])) _
    refine XS.iconst X1.here hx rfl (hb hby d2_5) ?_
    show Steps p.tables e below (T1.setTop (mkF m 6 #[.val (.ref pr0), .val (.int pi1), .val (.int pi2)] [(.int (1 : Int32)), (.int pi1)])) _
    refine XS.icmpNo X1.here hx rfl (hb hby d2_6) rfl (flt P3).1 ?_
    show Steps p.tables e below (T1.setTop (mkF m 9 #[.val (.ref pr0), .val (.int pi1), .val (.int pi2)] [])) _
    refine XS.iloadN X1.here hx rfl (hb hby d2_9) rfl ?_
    show Steps p.tables e below (T1.setTop (mkF m 10 #[.val (.ref pr0), .val (.int pi1), .val (.int pi2)] [(.int pi2)])) _
    refine XS.iconst X1.here hx rfl (hb hby d2_10) ?_
    show Steps p.tables e below (T1.setTop (mkF m 11 #[.val (.ref pr0), .val (.int pi1), .val (.int pi2)] [(.int (1 : Int32)), (.int pi2)])) _
    refine XS.icmpYes X1.here hx rfl (pc0 := 11) (pc' := 29) rfl (hb hby d2_11) rfl (flt P4).2.1 (by decide) (by decide) ?_
    show Steps p.tables e below (T1.setTop (mkF m 29 #[.val (.ref pr0), .val (.int pi1), .val (.int pi2)] [])) _
    refine XS.iloadN X1.here hx rfl (hb hby d2_29) rfl ?_
    show Steps p.tables e below (T1.setTop (mkF m 30 #[.val (.ref pr0), .val (.int pi1), .val (.int pi2)] [(.int pi1)])) _
    refine XS.i2l X1.here hx rfl (hb hby d2_30) rfl ?_
    show Steps p.tables e below (T1.setTop (mkF m 31 #[.val (.ref pr0), .val (.int pi1), .val (.int pi2)] [(.long (pi1.toInt64))])) _
    refine XS.iloadN X1.here hx rfl (hb hby d2_31) rfl ?_
    show Steps p.tables e below (T1.setTop (mkF m 32 #[.val (.ref pr0), .val (.int pi1), .val (.int pi2)] [(.int pi2), (.long (pi1.toInt64))])) _
    refine XS.i2l X1.here hx rfl (hb hby d2_32) rfl ?_
    show Steps p.tables e below (T1.setTop (mkF m 33 #[.val (.ref pr0), .val (.int pi1), .val (.int pi2)] [(.long (pi2.toInt64)), (.long (pi1.toInt64))])) _
    refine XS.lmul X1.here hx rfl (hb hby d2_33) rfl ?_
    show Steps p.tables e below (T1.setTop (mkF m 34 #[.val (.ref pr0), .val (.int pi1), .val (.int pi2)] [(.long ((pi1.toInt64) * (pi2.toInt64)))])) _
    refine X1.ldc2Long hx hown (mvT hZ (hw _ (List.mem_of_getElem? (i := 15) rfl))) (g := (mkF m 34 #[.val (.ref pr0), .val (.int pi1), .val (.int pi2)] [(.long ((pi1.toInt64) * (pi2.toInt64)))])) rfl (hb hby d2_34) _ ?_
    show Steps p.tables e below (T1.setTop (mkF m 37 #[.val (.ref pr0), .val (.int pi1), .val (.int pi2)] [(.long (100000000 : Int64)), (.long ((pi1.toInt64) * (pi2.toInt64)))])) _
    refine XS.lcmp X1.here hx rfl (hb hby d2_37) rfl ?_
    show Steps p.tables e below (T1.setTop (mkF m 38 #[.val (.ref pr0), .val (.int pi1), .val (.int pi2)] [(.int (lcmpW ((pi1.toInt64) * (pi2.toInt64)) (100000000 : Int64)))])) _
    refine XS.ifYes X1.here hx rfl (pc0 := 38) (pc' := 86) rfl (hb hby d2_38) rfl (Jvm.Free.XT.ll_le_t P5) (by decide) (by decide) ?_
    show Steps p.tables e below (T1.setTop (mkF m 86 #[.val (.ref pr0), .val (.int pi1), .val (.int pi2)] [])) _
    refine XS.aloadN X1.here hx rfl (hb hby d2_86) rfl rfl ?_
    show Steps p.tables e below (T1.setTop (mkF m 87 #[.val (.ref pr0), .val (.int pi1), .val (.int pi2)] [(.ref pr0)])) _
    refine XS.iloadN X1.here hx rfl (hb hby d2_87) rfl ?_
    show Steps p.tables e below (T1.setTop (mkF m 88 #[.val (.ref pr0), .val (.int pi1), .val (.int pi2)] [(.int pi1), (.ref pr0)])) _
    refine st2 _ ?_
    show Steps p.tables e below (T2.setTop (mkF m 91 #[.val (.ref pr0), .val (.int pi1), .val (.int pi2)] [])) _
    refine XS.aloadN X2.here hx rfl (hb hby d2_91) rfl rfl ?_
    show Steps p.tables e below (T2.setTop (mkF m 92 #[.val (.ref pr0), .val (.int pi1), .val (.int pi2)] [(.ref pr0)])) _
    refine XS.iloadN X2.here hx rfl (hb hby d2_92) rfl ?_
    show Steps p.tables e below (T2.setTop (mkF m 93 #[.val (.ref pr0), .val (.int pi1), .val (.int pi2)] [(.int pi2), (.ref pr0)])) _
    refine st5 _ ?_
    show Steps p.tables e below (T5.setTop (mkF m 96 #[.val (.ref pr0), .val (.int pi1), .val (.int pi2)] [])) _
    exact kt
  obtain ⟨fs, hr, hrun, hended, hW, hsame⟩ := X5.leave (v := none) (fun _ => rfl)
  refine ⟨_, _, go6 _ ?_, hrun, hended, _, _, rfl, ?_, ⟨_, rfl⟩, hW, hsame.mono (by decide) (by decide)⟩
  · exact X5.returnOut hx Bd.returns (hb hby d2_96) hr
  · show Q_own_board Z pr0 pi1 pi2 h0 n0 _ T5.heap _
    rw [e5]
    have f7 : Exa Z h5 pr0 "com/example/hoofprint/hoofprint/model/Board" := (f4.wr W5)
    have f8 : Fld Z h5 pr0 "com/example/hoofprint/hoofprint/model/Board" "rows" "I" (.int pi1) := (Fw2.other W5 (Or.inr (slot_ne (Or.inr (hw _ (List.mem_of_getElem? (i := 17) rfl))) (Or.inr (hw _ (List.mem_of_getElem? (i := 19) rfl))) (by decide) (t := .int) (t' := .int) (by decide) (by decide))))
    exact ⟨N5, rfl, K5, f7, f8, Fw5⟩
theorem ef_own_squares (m : MethodId) (pr0 : Addr) : entryFrame m #[(.ref pr0)] 1 = mkF m 0 #[.val (.ref pr0)] [] := by first | (simp [entryFrame, mkF, argsToLocals, Value.category]; done) | rfl
def Q_own_squares (Z : State) (pr0 : Addr) (wr : Int32) (wc : Int32) (h0 : Heap) (n0 : Nat) (v : Option Value) (h : Heap) (L : List Loc) : Prop := v = some (.int (wr * wc)) ∧ Fr n0 L ∧ h = h0
set_option maxRecDepth 65536 in
set_option maxHeartbeats 40000000 in
theorem own_squares (l : Launch) (Z : State) (a0 : Array Value) (hw : ∀ d ∈ tables_1, d.before a0 Z = true) (ws : List Jvm.Cond) (pr0 : Addr) (wr : Int32) (wc : Int32) (h0 : Heap) (n0 : Nat) (Z0 : n0 ≤ h0.size) (P0 : Fld Z h0 pr0 "com/example/hoofprint/hoofprint/model/Board" "rows" "I" (.int wr)) (P1 : Fld Z h0 pr0 "com/example/hoofprint/hoofprint/model/Board" "columns" "I" (.int wc)) :
    MetFree l (⟨"com/example/hoofprint/hoofprint/model/Board", "squares", "()I"⟩ : MethodName) (head1 (Jvm.Cond.code (⟨"com/example/hoofprint/hoofprint/model/Board", "squares", "()I"⟩ : MethodName) prog_21_method_2_code 1 (some .int) :: ws) ({ frames := 0, cells := 0, slots := 0, locals := 0 } : Room)) (fun a U => a = #[(.ref pr0)] ∧ Z.Warmed39 U.vm ∧ U.heap = h0) (fun _ _ _ _ _ => True) (fun _ U o U' => ∃ v L, o = .returned v ∧ Q_own_squares Z pr0 wr wc h0 n0 v U'.heap L ∧ FrameEnd U o U' L ({ frames := 0, cells := 0, slots := 0, locals := 0 } : Room).cells ({ frames := 0, cells := 0, slots := 0, locals := 0 } : Room).slots) := by
  refine MetFree.of_bodySF (plainFor_of_name pn_4) hisR ?_
  intro p e s m args below meth c s₁ Bd hml0 hP hK
  obtain ⟨rfl, hZ, hh⟩ := hP
  have hx := Bd.exec
  have hby := Bd.bytes
  have hml : c.maxLocals = 1 := hml0
  have hown : s.vm.findClass "com/example/hoofprint/hoofprint/model/Board" = some m.cls := findClass_of_methodNamed Bd.named
  have hnm := (name_of_methodNamed Bd.named Bd.method).1
  have X0 : Stand p l e ({ frames := 0, cells := 0, slots := 0, locals := 0 } : Room) s m #[(.ref pr0)] below meth c s₁ [] 0 0 := Stand.of_body Bd
  have e0 : s₁.heap = h0 := by rw [← hh, Bd.state]; rfl
  have N0 := Fr.nil n0
  have go0 : ∀ t, Steps p.tables e below (s₁.setTop (mkF m 0 #[.val (.ref pr0)] [])) t → Steps p.tables e below (s₁.setTop (entryFrame m #[(.ref pr0)] 1)) t := fun t k => castTop (ef_own_squares m pr0) k
  revert go0
  generalize s₁.setTop (entryFrame m #[(.ref pr0)] 1) = st0
  intro go0
  obtain ⟨T1, X1, e1, st1⟩ := getF X0 hx hZ hown (host := "") (Or.inl (hw _ (List.mem_of_getElem? (i := 16) rfl))) Via.refl e0 P0 (g := (mkF m 1 #[.val (.ref pr0)] [(.ref pr0)])) rfl rfl (hb hby d5_1)
  obtain ⟨T2, X2, e2, st2⟩ := getF X1 hx hZ hown (host := "") (Or.inl (hw _ (List.mem_of_getElem? (i := 18) rfl))) Via.refl e1 P1 (g := (mkF m 5 #[.val (.ref pr0)] [(.ref pr0), (.int wr)])) rfl rfl (hb hby d5_5)
  have go3 : ∀ t, Steps p.tables e below (T2.setTop (mkF m 9 #[.val (.ref pr0)] [(.int (wr * wc))])) t → Steps p.tables e below st0 t := by
    intro t kt
    refine go0 t ?_
    refine XS.aloadN X0.here hx rfl (hb hby d5_0) rfl rfl ?_
    show Steps p.tables e below (s₁.setTop (mkF m 1 #[.val (.ref pr0)] [(.ref pr0)])) _
    refine st1 _ ?_
    show Steps p.tables e below (T1.setTop (mkF m 4 #[.val (.ref pr0)] [(.int wr)])) _
    refine XS.aloadN X1.here hx rfl (hb hby d5_4) rfl rfl ?_
    show Steps p.tables e below (T1.setTop (mkF m 5 #[.val (.ref pr0)] [(.ref pr0), (.int wr)])) _
    refine st2 _ ?_
    show Steps p.tables e below (T2.setTop (mkF m 8 #[.val (.ref pr0)] [(.int wc), (.int wr)])) _
    refine XS.imul X2.here hx rfl (hb hby d5_8) rfl ?_
    show Steps p.tables e below (T2.setTop (mkF m 9 #[.val (.ref pr0)] [(.int (wr * wc))])) _
    exact kt
  obtain ⟨fs, hr, hrun, hended, hW, hsame⟩ := X2.leave (v := some (.int (wr * wc))) (fun h => by rw [Bd.returns] at h; cases h)
  refine ⟨_, _, go3 _ ?_, hrun, hended, _, _, rfl, ?_, ⟨_, rfl⟩, hW, hsame.mono (by decide) (by decide)⟩
  · exact retI X2 hx Bd.returns (hb hby d5_9) hr
  · show Q_own_squares Z pr0 wr wc h0 n0 _ T2.heap _
    rw [e2]
    exact ⟨rfl, N0, rfl⟩
theorem ef_own_columns (m : MethodId) (pr0 : Addr) : entryFrame m #[(.ref pr0)] 1 = mkF m 0 #[.val (.ref pr0)] [] := by first | (simp [entryFrame, mkF, argsToLocals, Value.category]; done) | rfl
def Q_own_columns (Z : State) (pr0 : Addr) (wc : Int32) (h0 : Heap) (n0 : Nat) (v : Option Value) (h : Heap) (L : List Loc) : Prop := v = some (.int wc) ∧ Fr n0 L ∧ h = h0
set_option maxRecDepth 65536 in
set_option maxHeartbeats 40000000 in
theorem own_columns (l : Launch) (Z : State) (a0 : Array Value) (hw : ∀ d ∈ tables_1, d.before a0 Z = true) (ws : List Jvm.Cond) (pr0 : Addr) (wc : Int32) (h0 : Heap) (n0 : Nat) (Z0 : n0 ≤ h0.size) (P0 : Fld Z h0 pr0 "com/example/hoofprint/hoofprint/model/Board" "columns" "I" (.int wc)) :
    MetFree l (⟨"com/example/hoofprint/hoofprint/model/Board", "columns", "()I"⟩ : MethodName) (head1 (Jvm.Cond.code (⟨"com/example/hoofprint/hoofprint/model/Board", "columns", "()I"⟩ : MethodName) prog_21_method_10_code 1 (some .int) :: ws) ({ frames := 0, cells := 0, slots := 0, locals := 0 } : Room)) (fun a U => a = #[(.ref pr0)] ∧ Z.Warmed39 U.vm ∧ U.heap = h0) (fun _ _ _ _ _ => True) (fun _ U o U' => ∃ v L, o = .returned v ∧ Q_own_columns Z pr0 wc h0 n0 v U'.heap L ∧ FrameEnd U o U' L ({ frames := 0, cells := 0, slots := 0, locals := 0 } : Room).cells ({ frames := 0, cells := 0, slots := 0, locals := 0 } : Room).slots) := by
  refine MetFree.of_bodySF (plainFor_of_name pn_4) hisR ?_
  intro p e s m args below meth c s₁ Bd hml0 hP hK
  obtain ⟨rfl, hZ, hh⟩ := hP
  have hx := Bd.exec
  have hby := Bd.bytes
  have hml : c.maxLocals = 1 := hml0
  have hown : s.vm.findClass "com/example/hoofprint/hoofprint/model/Board" = some m.cls := findClass_of_methodNamed Bd.named
  have hnm := (name_of_methodNamed Bd.named Bd.method).1
  have X0 : Stand p l e ({ frames := 0, cells := 0, slots := 0, locals := 0 } : Room) s m #[(.ref pr0)] below meth c s₁ [] 0 0 := Stand.of_body Bd
  have e0 : s₁.heap = h0 := by rw [← hh, Bd.state]; rfl
  have N0 := Fr.nil n0
  have go0 : ∀ t, Steps p.tables e below (s₁.setTop (mkF m 0 #[.val (.ref pr0)] [])) t → Steps p.tables e below (s₁.setTop (entryFrame m #[(.ref pr0)] 1)) t := fun t k => castTop (ef_own_columns m pr0) k
  revert go0
  generalize s₁.setTop (entryFrame m #[(.ref pr0)] 1) = st0
  intro go0
  obtain ⟨T1, X1, e1, st1⟩ := getF X0 hx hZ hown (host := "") (Or.inl (hw _ (List.mem_of_getElem? (i := 18) rfl))) Via.refl e0 P0 (g := (mkF m 1 #[.val (.ref pr0)] [(.ref pr0)])) rfl rfl (hb hby d6_1)
  have go2 : ∀ t, Steps p.tables e below (T1.setTop (mkF m 4 #[.val (.ref pr0)] [(.int wc)])) t → Steps p.tables e below st0 t := by
    intro t kt
    refine go0 t ?_
    refine XS.aloadN X0.here hx rfl (hb hby d6_0) rfl rfl ?_
    show Steps p.tables e below (s₁.setTop (mkF m 1 #[.val (.ref pr0)] [(.ref pr0)])) _
    refine st1 _ ?_
    show Steps p.tables e below (T1.setTop (mkF m 4 #[.val (.ref pr0)] [(.int wc)])) _
    exact kt
  obtain ⟨fs, hr, hrun, hended, hW, hsame⟩ := X1.leave (v := some (.int wc)) (fun h => by rw [Bd.returns] at h; cases h)
  refine ⟨_, _, go2 _ ?_, hrun, hended, _, _, rfl, ?_, ⟨_, rfl⟩, hW, hsame.mono (by decide) (by decide)⟩
  · exact retI X1 hx Bd.returns (hb hby d6_4) hr
  · show Q_own_columns Z pr0 wc h0 n0 _ T1.heap _
    rw [e1]
    exact ⟨rfl, N0, rfl⟩
theorem ef_own_ord (m : MethodId) (pr0 : Addr) : entryFrame m #[(.ref pr0)] 1 = mkF m 0 #[.val (.ref pr0)] [] := by first | (simp [entryFrame, mkF, argsToLocals, Value.category]; done) | rfl
def Q_own_ord (Z : State) (pr0 : Addr) (w_0 : Int32) (h0 : Heap) (n0 : Nat) (v : Option Value) (h : Heap) (L : List Loc) : Prop := v = some (.int w_0) ∧ Fr n0 L ∧ h = h0
set_option maxRecDepth 65536 in
set_option maxHeartbeats 40000000 in
theorem own_ord (l : Launch) (Z : State) (a0 : Array Value) (hw : ∀ d ∈ tables_1, d.before a0 Z = true) (ws : List Jvm.Cond) (pr0 : Addr) (w_0 : Int32) (h0 : Heap) (n0 : Nat) (Z0 : n0 ≤ h0.size) (P0 : Fld Z h0 pr0 "java/lang/Enum" "ordinal" "I" (.int w_0)) :
    MetFree l (⟨"java/lang/Enum", "ordinal", "()I"⟩ : MethodName) (head1 (Jvm.Cond.code (⟨"java/lang/Enum", "ordinal", "()I"⟩ : MethodName) jdk_37_method_2_code 1 (some .int) :: ws) ({ frames := 0, cells := 0, slots := 0, locals := 0 } : Room)) (fun a U => a = #[(.ref pr0)] ∧ Z.Warmed39 U.vm ∧ U.heap = h0) (fun _ _ _ _ _ => True) (fun _ U o U' => ∃ v L, o = .returned v ∧ Q_own_ord Z pr0 w_0 h0 n0 v U'.heap L ∧ FrameEnd U o U' L ({ frames := 0, cells := 0, slots := 0, locals := 0 } : Room).cells ({ frames := 0, cells := 0, slots := 0, locals := 0 } : Room).slots) := by
  refine MetFree.of_bodySF (plainFor_of_name pn_8) hisR ?_
  intro p e s m args below meth c s₁ Bd hml0 hP hK
  obtain ⟨rfl, hZ, hh⟩ := hP
  have hx := Bd.exec
  have hby := Bd.bytes
  have hml : c.maxLocals = 1 := hml0
  have hown : s.vm.findClass "java/lang/Enum" = some m.cls := findClass_of_methodNamed Bd.named
  have hnm := (name_of_methodNamed Bd.named Bd.method).1
  have X0 : Stand p l e ({ frames := 0, cells := 0, slots := 0, locals := 0 } : Room) s m #[(.ref pr0)] below meth c s₁ [] 0 0 := Stand.of_body Bd
  have e0 : s₁.heap = h0 := by rw [← hh, Bd.state]; rfl
  have N0 := Fr.nil n0
  have go0 : ∀ t, Steps p.tables e below (s₁.setTop (mkF m 0 #[.val (.ref pr0)] [])) t → Steps p.tables e below (s₁.setTop (entryFrame m #[(.ref pr0)] 1)) t := fun t k => castTop (ef_own_ord m pr0) k
  revert go0
  generalize s₁.setTop (entryFrame m #[(.ref pr0)] 1) = st0
  intro go0
  obtain ⟨T1, X1, e1, st1⟩ := getF X0 hx hZ hown (host := "") (Or.inl (hw _ (List.mem_of_getElem? (i := 57) rfl))) Via.refl e0 P0 (g := (mkF m 1 #[.val (.ref pr0)] [(.ref pr0)])) rfl rfl (hb hby d7_1)
  have go2 : ∀ t, Steps p.tables e below (T1.setTop (mkF m 4 #[.val (.ref pr0)] [(.int w_0)])) t → Steps p.tables e below st0 t := by
    intro t kt
    refine go0 t ?_
    refine XS.aloadN X0.here hx rfl (hb hby d7_0) rfl rfl ?_
    show Steps p.tables e below (s₁.setTop (mkF m 1 #[.val (.ref pr0)] [(.ref pr0)])) _
    refine st1 _ ?_
    show Steps p.tables e below (T1.setTop (mkF m 4 #[.val (.ref pr0)] [(.int w_0)])) _
    exact kt
  obtain ⟨fs, hr, hrun, hended, hW, hsame⟩ := X1.leave (v := some (.int w_0)) (fun h => by rw [Bd.returns] at h; cases h)
  refine ⟨_, _, go2 _ ?_, hrun, hended, _, _, rfl, ?_, ⟨_, rfl⟩, hW, hsame.mono (by decide) (by decide)⟩
  · exact retI X1 hx Bd.returns (hb hby d7_4) hr
  · show Q_own_ord Z pr0 w_0 h0 n0 _ T1.heap _
    rw [e1]
    exact ⟨rfl, N0, rfl⟩
theorem ef_own_number (m : MethodId) (pr0 : Addr) : entryFrame m #[(.ref pr0)] 1 = mkF m 0 #[.val (.ref pr0)] [] := by first | (simp [entryFrame, mkF, argsToLocals, Value.category]; done) | rfl
def Q_own_number (Z : State) (pr0 : Addr) (wo : Int32) (h0 : Heap) (n0 : Nat) (v : Option Value) (h : Heap) (L : List Loc) : Prop := v = some (.int wo) ∧ Fr n0 L ∧ h = h0
set_option maxRecDepth 65536 in
set_option maxHeartbeats 40000000 in
theorem own_number (l : Launch) (Z : State) (a0 : Array Value) (hw : ∀ d ∈ tables_1, d.before a0 Z = true) (ws : List Jvm.Cond) (pr0 : Addr) (wo : Int32) (h0 : Heap) (n0 : Nat) (Z0 : n0 ≤ h0.size) (P0 : Exa Z h0 pr0 "com/example/hoofprint/hoofprint/model/KnightMove") (P1 : Fld Z h0 pr0 "java/lang/Enum" "ordinal" "I" (.int wo)) :
    MetFree l (⟨"com/example/hoofprint/hoofprint/model/KnightMove", "number", "()I"⟩ : MethodName) (head1 (Jvm.Cond.code (⟨"com/example/hoofprint/hoofprint/model/KnightMove", "number", "()I"⟩ : MethodName) prog_23_method_6_code 1 (some .int) :: ws) ({ frames := 1, cells := 0, slots := 0, locals := 12 } : Room)) (fun a U => a = #[(.ref pr0)] ∧ Z.Warmed39 U.vm ∧ U.heap = h0) (fun _ _ _ _ _ => True) (fun _ U o U' => ∃ v L, o = .returned v ∧ Q_own_number Z pr0 wo h0 n0 v U'.heap L ∧ FrameEnd U o U' L ({ frames := 1, cells := 0, slots := 0, locals := 12 } : Room).cells ({ frames := 1, cells := 0, slots := 0, locals := 12 } : Room).slots) := by
  refine MetFree.of_bodySF (plainFor_of_name pn_11) hisR ?_
  intro p e s m args below meth c s₁ Bd hml0 hP hK
  obtain ⟨rfl, hZ, hh⟩ := hP
  have hx := Bd.exec
  have hby := Bd.bytes
  have hml : c.maxLocals = 1 := hml0
  have hown : s.vm.findClass "com/example/hoofprint/hoofprint/model/KnightMove" = some m.cls := findClass_of_methodNamed Bd.named
  have hnm := (name_of_methodNamed Bd.named Bd.method).1
  have X0 : Stand p l e ({ frames := 1, cells := 0, slots := 0, locals := 12 } : Room) s m #[(.ref pr0)] below meth c s₁ [] 0 0 := Stand.of_body Bd
  have e0 : s₁.heap = h0 := by rw [← hh, Bd.state]; rfl
  have N0 := Fr.nil n0
  have go0 : ∀ t, Steps p.tables e below (s₁.setTop (mkF m 0 #[.val (.ref pr0)] [])) t → Steps p.tables e below (s₁.setTop (entryFrame m #[(.ref pr0)] 1)) t := fun t k => castTop (ef_own_number m pr0) k
  revert go0
  generalize s₁.setTop (entryFrame m #[(.ref pr0)] 1) = st0
  intro go0
  obtain ⟨cq1, kq1, q1a, q1b, q1c⟩ := isOf hZ e0 P0
  obtain ⟨_, _, ⟨T1, L1, k1, n1⟩, -, X1, ⟨Lc1, hQ1, l1, y1, z1⟩, st1⟩ := X0.virtualBackUp hx (x := (⟨"com/example/hoofprint/hoofprint/model/KnightMove", "ordinal", "()I"⟩ : MethodName)) (y := (⟨"java/lang/Enum", "ordinal", "()I"⟩ : MethodName)) (owner := "java/lang/Enum") hown (mvT hZ (hw _ (List.mem_of_getElem? (i := 50) rfl))) (mvT hZ (hw _ (List.mem_of_getElem? (i := 51) rfl))) (mvT hZ (hw _ (List.mem_of_getElem? (i := 52) rfl))) (by decide) (mvT hZ (hw _ (List.mem_of_getElem? (i := 54) rfl))) (mvT hZ (hw _ (List.mem_of_getElem? (i := 53) rfl))) (backOf (W := 0) (own_ord l Z a0 hw [] pr0 wo h0 n0 Z0 P1) hZ (hw _ (List.mem_of_getElem? (i := 56) rfl)) (hw _ (List.mem_of_getElem? (i := 55) rfl)) (by decide) (by decide)) q1a q1c (g := (mkF m 1 #[.val (.ref pr0)] [(.ref pr0)])) rfl (by rw [hml]; rfl) (Steps.refl _) (argsL := []) (rest := []) (lenOf pd_10 rfl) rfl (by show 2 * 0 + _ ≤ _; exact Nat.le_of_eq rfl) (hb hby d9_1) (fun _ _ => ⟨rfl, e0, (by decide : 0 + 0 ≤ _), (by decide : 0 + 0 ≤ _)⟩)
  dsimp only [Pt.U, Pt.locs, Pt.cells, Pt.slots] at X1 l1 y1 z1 st1 hQ1
  subst l1 y1 z1
  obtain ⟨rfl, Nq1, e1⟩ := hQ1
  have N1 := Fr.app N0 Nq1
  have go2 : ∀ t, Steps p.tables e below (T1.setTop (mkF m 4 #[.val (.ref pr0)] [(.int wo)])) t → Steps p.tables e below st0 t := by
    intro t kt
    refine go0 t ?_
    refine XS.aloadN X0.here hx rfl (hb hby d9_0) rfl rfl ?_
    show Steps p.tables e below (s₁.setTop (mkF m 1 #[.val (.ref pr0)] [(.ref pr0)])) _
    refine st1.trans ?_
    show Steps p.tables e below (T1.setTop (mkF m 4 #[.val (.ref pr0)] [(.int wo)])) _
    exact kt
  obtain ⟨fs, hr, hrun, hended, hW, hsame⟩ := X1.leave (v := some (.int wo)) (fun h => by rw [Bd.returns] at h; cases h)
  refine ⟨_, _, go2 _ ?_, hrun, hended, _, _, rfl, ?_, ⟨_, rfl⟩, hW, hsame.mono (by decide) (by decide)⟩
  · exact retI X1 hx Bd.returns (hb hby d9_4) hr
  · show Q_own_number Z pr0 wo h0 n0 _ T1.heap _
    rw [e1]
    exact ⟨rfl, N1, rfl⟩
theorem ef_own_steps (m : MethodId) (pr0 : Addr) : entryFrame m #[(.ref pr0)] 6 = mkF m 0 #[.val (.ref pr0), .unset, .unset, .unset, .unset, .unset] [] := by first | (simp [entryFrame, mkF, argsToLocals, Value.category]; done) | rfl
def Q_own_steps (Z : State) (pr0 : Addr) (nb : Addr) (kn : ClassId) (c0 : Addr) (c1 : Addr) (c2 : Addr) (c3 : Addr) (c4 : Addr) (c5 : Addr) (c6 : Addr) (c7 : Addr) (wc : Int32) (h0 : Heap) (n0 : Nat) (v : Option Value) (h : Heap) (L : List Loc) : Prop := Fr n0 L ∧ ∃ (bs : Addr) (ks : ClassId), v = some (.ref bs) ∧ h0.size ≤ bs ∧ Keep h0 h ([] : List Addr) ∧ Arv Z h bs ks .int (8 : Int32) [(.int (((-2 : Int32) * wc) + (-1 : Int32))), (.int (((-2 : Int32) * wc) + (1 : Int32))), (.int (((-1 : Int32) * wc) + (-2 : Int32))), (.int (((-1 : Int32) * wc) + (2 : Int32))), (.int (((1 : Int32) * wc) + (-2 : Int32))), (.int (((1 : Int32) * wc) + (2 : Int32))), (.int (((2 : Int32) * wc) + (-1 : Int32))), (.int (((2 : Int32) * wc) + (1 : Int32)))] (.int (0 : Int32))
set_option maxRecDepth 65536 in
set_option maxHeartbeats 40000000 in
theorem own_steps (l : Launch) (Z : State) (a0 : Array Value) (hw : ∀ d ∈ tables_1, d.before a0 Z = true) (ws : List Jvm.Cond) (pr0 : Addr) (nb : Addr) (kn : ClassId) (c0 : Addr) (c1 : Addr) (c2 : Addr) (c3 : Addr) (c4 : Addr) (c5 : Addr) (c6 : Addr) (c7 : Addr) (wc : Int32) (h0 : Heap) (n0 : Nat) (Z0 : n0 ≤ h0.size) (P0 : Sta Z h0 "com/example/hoofprint/hoofprint/model/KnightMove" "NUMBERED" "[Lcom/example/hoofprint/hoofprint/model/KnightMove;" (.ref nb)) (P1 : Arv Z h0 nb kn (.object "com/example/hoofprint/hoofprint/model/KnightMove") (8 : Int32) [(.ref c0), (.ref c1), (.ref c2), (.ref c3), (.ref c4), (.ref c5), (.ref c6), (.ref c7)] .null) (P2 : Exa Z h0 c0 "com/example/hoofprint/hoofprint/model/KnightMove") (P3 : Fld Z h0 c0 "java/lang/Enum" "ordinal" "I" (.int (0 : Int32))) (P4 : Fld Z h0 c0 "com/example/hoofprint/hoofprint/model/KnightMove" "rows" "I" (.int (-2 : Int32))) (P5 : Fld Z h0 c0 "com/example/hoofprint/hoofprint/model/KnightMove" "columns" "I" (.int (-1 : Int32))) (P6 : Exa Z h0 c1 "com/example/hoofprint/hoofprint/model/KnightMove") (P7 : Fld Z h0 c1 "java/lang/Enum" "ordinal" "I" (.int (1 : Int32))) (P8 : Fld Z h0 c1 "com/example/hoofprint/hoofprint/model/KnightMove" "rows" "I" (.int (-2 : Int32))) (P9 : Fld Z h0 c1 "com/example/hoofprint/hoofprint/model/KnightMove" "columns" "I" (.int (1 : Int32))) (P10 : Exa Z h0 c2 "com/example/hoofprint/hoofprint/model/KnightMove") (P11 : Fld Z h0 c2 "java/lang/Enum" "ordinal" "I" (.int (2 : Int32))) (P12 : Fld Z h0 c2 "com/example/hoofprint/hoofprint/model/KnightMove" "rows" "I" (.int (-1 : Int32))) (P13 : Fld Z h0 c2 "com/example/hoofprint/hoofprint/model/KnightMove" "columns" "I" (.int (-2 : Int32))) (P14 : Exa Z h0 c3 "com/example/hoofprint/hoofprint/model/KnightMove") (P15 : Fld Z h0 c3 "java/lang/Enum" "ordinal" "I" (.int (3 : Int32))) (P16 : Fld Z h0 c3 "com/example/hoofprint/hoofprint/model/KnightMove" "rows" "I" (.int (-1 : Int32))) (P17 : Fld Z h0 c3 "com/example/hoofprint/hoofprint/model/KnightMove" "columns" "I" (.int (2 : Int32))) (P18 : Exa Z h0 c4 "com/example/hoofprint/hoofprint/model/KnightMove") (P19 : Fld Z h0 c4 "java/lang/Enum" "ordinal" "I" (.int (4 : Int32))) (P20 : Fld Z h0 c4 "com/example/hoofprint/hoofprint/model/KnightMove" "rows" "I" (.int (1 : Int32))) (P21 : Fld Z h0 c4 "com/example/hoofprint/hoofprint/model/KnightMove" "columns" "I" (.int (-2 : Int32))) (P22 : Exa Z h0 c5 "com/example/hoofprint/hoofprint/model/KnightMove") (P23 : Fld Z h0 c5 "java/lang/Enum" "ordinal" "I" (.int (5 : Int32))) (P24 : Fld Z h0 c5 "com/example/hoofprint/hoofprint/model/KnightMove" "rows" "I" (.int (1 : Int32))) (P25 : Fld Z h0 c5 "com/example/hoofprint/hoofprint/model/KnightMove" "columns" "I" (.int (2 : Int32))) (P26 : Exa Z h0 c6 "com/example/hoofprint/hoofprint/model/KnightMove") (P27 : Fld Z h0 c6 "java/lang/Enum" "ordinal" "I" (.int (6 : Int32))) (P28 : Fld Z h0 c6 "com/example/hoofprint/hoofprint/model/KnightMove" "rows" "I" (.int (2 : Int32))) (P29 : Fld Z h0 c6 "com/example/hoofprint/hoofprint/model/KnightMove" "columns" "I" (.int (-1 : Int32))) (P30 : Exa Z h0 c7 "com/example/hoofprint/hoofprint/model/KnightMove") (P31 : Fld Z h0 c7 "java/lang/Enum" "ordinal" "I" (.int (7 : Int32))) (P32 : Fld Z h0 c7 "com/example/hoofprint/hoofprint/model/KnightMove" "rows" "I" (.int (2 : Int32))) (P33 : Fld Z h0 c7 "com/example/hoofprint/hoofprint/model/KnightMove" "columns" "I" (.int (1 : Int32))) (P34 : Exa Z h0 pr0 "com/example/hoofprint/hoofprint/model/Board") (P35 : Fld Z h0 pr0 "com/example/hoofprint/hoofprint/model/Board" "columns" "I" (.int wc)) :
    MetFree l (⟨"com/example/hoofprint/hoofprint/model/KnightMove", "indexSteps", "(Lcom/example/hoofprint/hoofprint/model/Board;)[I"⟩ : MethodName) (head1 (Jvm.Cond.code (⟨"com/example/hoofprint/hoofprint/model/KnightMove", "indexSteps", "(Lcom/example/hoofprint/hoofprint/model/Board;)[I"⟩ : MethodName) prog_23_method_5_code 6 (some (.array .int)) :: ws) ({ frames := 2, cells := 1, slots := 8, locals := 25 } : Room)) (fun a U => a = #[(.ref pr0)] ∧ Z.Warmed39 U.vm ∧ U.heap = h0) (fun _ _ _ _ _ => True) (fun _ U o U' => ∃ v L, o = .returned v ∧ Q_own_steps Z pr0 nb kn c0 c1 c2 c3 c4 c5 c6 c7 wc h0 n0 v U'.heap L ∧ FrameEnd U o U' L ({ frames := 2, cells := 1, slots := 8, locals := 25 } : Room).cells ({ frames := 2, cells := 1, slots := 8, locals := 25 } : Room).slots) := by
  refine MetFree.of_bodySF (plainFor_of_name pn_11) hisR ?_
  intro p e s m args below meth c s₁ Bd hml0 hP hK
  obtain ⟨rfl, hZ, hh⟩ := hP
  have hx := Bd.exec
  have hby := Bd.bytes
  have hml : c.maxLocals = 6 := hml0
  have hown : s.vm.findClass "com/example/hoofprint/hoofprint/model/KnightMove" = some m.cls := findClass_of_methodNamed Bd.named
  have hnm := (name_of_methodNamed Bd.named Bd.method).1
  have X0 : Stand p l e ({ frames := 2, cells := 1, slots := 8, locals := 25 } : Room) s m #[(.ref pr0)] below meth c s₁ [] 0 0 := Stand.of_body Bd
  have e0 : s₁.heap = h0 := by rw [← hh, Bd.state]; rfl
  have N0 := Fr.nil n0
  have go0 : ∀ t, Steps p.tables e below (s₁.setTop (mkF m 0 #[.val (.ref pr0), .unset, .unset, .unset, .unset, .unset] [])) t → Steps p.tables e below (s₁.setTop (entryFrame m #[(.ref pr0)] 6)) t := fun t k => castTop (ef_own_steps m pr0) k
  revert go0
  generalize s₁.setTop (entryFrame m #[(.ref pr0)] 6) = st0
  intro go0
  obtain ⟨T1, X1, e1, st1⟩ := getS2 X0 hx hZ hown (host := "") (Or.inl (hw _ (List.mem_of_getElem? (i := 41) rfl))) Via.refl e0 P0 (g := (mkF m 0 #[.val (.ref pr0), .unset, .unset, .unset, .unset, .unset] [])) rfl (hb hby d12_0)
  obtain ⟨cl2, Ar2, q2, S2, N2, H2, G2⟩ := id P1
  obtain ⟨T3, h3, k3, X3, e3, E3, A3, st3⟩ := newP X1 hx hZ (hw _ (List.mem_of_getElem? (i := 43) rfl)) e1 (g := (mkF m 4 #[.val (.ref pr0), .unset, .unset, .unset, .unset, .unset] [(.int (8 : Int32))])) rfl (hb hby d12_4) rfl (by decide) (cap := 8) (by decide) (by decide) (by decide) (by decide)
  obtain ⟨b3, g3⟩ : ∃ zsz, zsz = h0.size := ⟨_, rfl⟩
  rw [← g3] at A3 st3
  have ne3_c0 : c0 ≠ b3 := Nat.ne_of_lt (Nat.lt_of_lt_of_eq P2.lt g3.symm)
  have ne3_c6 : c6 ≠ b3 := Nat.ne_of_lt (Nat.lt_of_lt_of_eq P26.lt g3.symm)
  have ne3_c3 : c3 ≠ b3 := Nat.ne_of_lt (Nat.lt_of_lt_of_eq P14.lt g3.symm)
  have ne3_c4 : c4 ≠ b3 := Nat.ne_of_lt (Nat.lt_of_lt_of_eq P18.lt g3.symm)
  have ne3_pr0 : pr0 ≠ b3 := Nat.ne_of_lt (Nat.lt_of_lt_of_eq P34.lt g3.symm)
  have ne3_c5 : c5 ≠ b3 := Nat.ne_of_lt (Nat.lt_of_lt_of_eq P22.lt g3.symm)
  have ne3_c7 : c7 ≠ b3 := Nat.ne_of_lt (Nat.lt_of_lt_of_eq P30.lt g3.symm)
  have ne3_c2 : c2 ≠ b3 := Nat.ne_of_lt (Nat.lt_of_lt_of_eq P10.lt g3.symm)
  have ne3_nb : nb ≠ b3 := Nat.ne_of_lt (Nat.lt_of_lt_of_eq P1.lt g3.symm)
  have ne3_c1 : c1 ≠ b3 := Nat.ne_of_lt (Nat.lt_of_lt_of_eq P6.lt g3.symm)
  have ge3 : n0 ≤ b3 := Nat.le_trans Z0 (Nat.le_of_eq g3.symm)
  have sz3 : h0.size ≤ b3 := Nat.le_trans (Keep.refl h0 ([] : List Addr)).1 (Nat.le_of_eq g3.symm)
  have Z3 : n0 ≤ h3.size := Nat.le_trans Z0 E3.1
  have K3 : Keep h0 h3 ([] : List Addr) := (Keep.refl h0 ([] : List Addr)).ext E3
  have V3 : Arv Z h3 b3 k3 .int (8 : Int32) [(.int (0 : Int32)), (.int (0 : Int32)), (.int (0 : Int32)), (.int (0 : Int32)), (.int (0 : Int32)), (.int (0 : Int32)), (.int (0 : Int32)), (.int (0 : Int32))] (.int (0 : Int32)) := (Arv.new A3 (by decide)).pad (pad_rep [] (.int (0 : Int32)) 8)
  have f4 : Sta Z h3 "com/example/hoofprint/hoofprint/model/KnightMove" "NUMBERED" "[Lcom/example/hoofprint/hoofprint/model/KnightMove;" (.ref nb) := (P0.ext E3)
  obtain ⟨T5, X5, e5, st5⟩ := getS2 X3 hx hZ hown (host := "") (Or.inl (hw _ (List.mem_of_getElem? (i := 41) rfl))) Via.refl e3 f4 (g := (mkF m 7 #[.val (.ref pr0), .val (.ref b3), .unset, .unset, .unset, .unset] [])) rfl (hb hby d12_7)
  have f6 : Arv Z h3 nb kn (.object "com/example/hoofprint/hoofprint/model/KnightMove") (8 : Int32) [(.ref c0), (.ref c1), (.ref c2), (.ref c3), (.ref c4), (.ref c5), (.ref c6), (.ref c7)] .null := (P1.ext E3)
  obtain ⟨cl7, Ar7, q7, S7, N7, H7, G7⟩ := id f6
  obtain ⟨cl8, Ar8, q8, S8, N8, H8, G8⟩ := id f6
  have hin8 : ¬ ((0 : Int32) < 0 ∨ cl8.slots.size ≤ ((0 : Int32)).toNatClampNeg) := inb_of S8 ⟨by decide, by decide⟩
  have hat8 : cl8.slots[((0 : Int32)).toNatClampNeg]? = some (.ref c0) := Has.at H8 hin8 rfl
  have f9 : Exa Z h3 c0 "com/example/hoofprint/hoofprint/model/KnightMove" := (P2.ext E3)
  have f10 : Fld Z h3 c0 "java/lang/Enum" "ordinal" "I" (.int (0 : Int32)) := (P3.ext E3)
  obtain ⟨cq11, kq11, q11a, q11b, q11c⟩ := isOf hZ e5 f9
  obtain ⟨_, _, ⟨T11, L11, k11, n11⟩, -, X11, ⟨Lc11, hQ11, l11, y11, z11⟩, st11⟩ := X5.virtualBack hx (y := (⟨"com/example/hoofprint/hoofprint/model/KnightMove", "number", "()I"⟩ : MethodName)) (z := (⟨"com/example/hoofprint/hoofprint/model/KnightMove", "number", "()I"⟩ : MethodName)) hown (mvT hZ (hw _ (List.mem_of_getElem? (i := 45) rfl))) (mvT hZ (hw _ (List.mem_of_getElem? (i := 46) rfl))) (notFace_of_selects (args := #[]) (mvT hZ (hw _ (List.mem_of_getElem? (i := 48) rfl)))) (mvT hZ (hw _ (List.mem_of_getElem? (i := 48) rfl))) (mvT hZ (hw _ (List.mem_of_getElem? (i := 47) rfl))) (by decide) (backOf (W := 1) (own_number l Z a0 hw [] c0 (0 : Int32) h3 n0 Z3 f9 f10) hZ (hw _ (List.mem_of_getElem? (i := 49) rfl)) (hw _ (List.mem_of_getElem? (i := 39) rfl)) (by decide) (by decide)) q11a q11c (g := (mkF m 32 #[.val (.ref pr0), .val (.ref b3), .val (.ref nb), .val (.int (8 : Int32)), .val (.int (0 : Int32)), .val (.ref c0)] [(.ref c0), (.ref b3)])) rfl (by rw [hml]; rfl) (Steps.refl _) (argsL := []) (rest := [(.ref b3)]) (lenOf pd_10 rfl) rfl (by show 2 * 0 + _ ≤ _; exact Nat.le_of_eq rfl) (hb hby d12_32) (fun _ _ => ⟨rfl, e5, (by decide : 1 + 0 ≤ _), (by decide : 8 + 0 ≤ _)⟩)
  dsimp only [Pt.U, Pt.locs, Pt.cells, Pt.slots] at X11 l11 y11 z11 st11 hQ11
  subst l11 y11 z11
  obtain ⟨rfl, Nq11, e11⟩ := hQ11
  have N11 := Fr.app N0 Nq11
  have f12 : Fld Z h3 c0 "com/example/hoofprint/hoofprint/model/KnightMove" "rows" "I" (.int (-2 : Int32)) := (P4.ext E3)
  obtain ⟨T13, X13, e13, st13⟩ := getF X11 hx hZ hown (host := "") (Or.inl (hw _ (List.mem_of_getElem? (i := 59) rfl))) Via.refl e11 f12 (g := (mkF m 37 #[.val (.ref pr0), .val (.ref b3), .val (.ref nb), .val (.int (8 : Int32)), .val (.int (0 : Int32)), .val (.ref c0)] [(.ref c0), (.int (0 : Int32)), (.ref b3)])) rfl rfl (hb hby d12_37)
  have f14 : Fld Z h3 pr0 "com/example/hoofprint/hoofprint/model/Board" "columns" "I" (.int wc) := (P35.ext E3)
  have f16 : Exa Z h3 pr0 "com/example/hoofprint/hoofprint/model/Board" := (P34.ext E3)
  obtain ⟨cq15, kq15, q15a, q15b, q15c⟩ := isOf hZ e13 f16
  obtain ⟨_, _, ⟨T15, L15, k15, n15⟩, -, X15, ⟨Lc15, hQ15, l15, y15, z15⟩, st15⟩ := X13.virtualBack hx (y := (⟨"com/example/hoofprint/hoofprint/model/Board", "columns", "()I"⟩ : MethodName)) (z := (⟨"com/example/hoofprint/hoofprint/model/Board", "columns", "()I"⟩ : MethodName)) hown (mvT hZ (hw _ (List.mem_of_getElem? (i := 61) rfl))) (mvT hZ (hw _ (List.mem_of_getElem? (i := 62) rfl))) (notFace_of_selects (args := #[]) (mvT hZ (hw _ (List.mem_of_getElem? (i := 64) rfl)))) (mvT hZ (hw _ (List.mem_of_getElem? (i := 64) rfl))) (mvT hZ (hw _ (List.mem_of_getElem? (i := 63) rfl))) (by decide) (backOf (W := 3) (own_columns l Z a0 hw [] pr0 wc h3 n0 Z3 f14) hZ (hw _ (List.mem_of_getElem? (i := 65) rfl)) (hw _ (List.mem_of_getElem? (i := 3) rfl)) (by decide) (by decide)) q15a q15c (g := (mkF m 41 #[.val (.ref pr0), .val (.ref b3), .val (.ref nb), .val (.int (8 : Int32)), .val (.int (0 : Int32)), .val (.ref c0)] [(.ref pr0), (.int (-2 : Int32)), (.int (0 : Int32)), (.ref b3)])) rfl (by rw [hml]; rfl) (Steps.refl _) (argsL := []) (rest := [(.int (-2 : Int32)), (.int (0 : Int32)), (.ref b3)]) (lenOf pd_10 rfl) rfl (by show 2 * 0 + _ ≤ _; exact Nat.le_of_eq rfl) (hb hby d12_41) (fun _ _ => ⟨rfl, e13, (by decide : 1 + 0 ≤ _), (by decide : 8 + 0 ≤ _)⟩)
  dsimp only [Pt.U, Pt.locs, Pt.cells, Pt.slots] at X15 l15 y15 z15 st15 hQ15
  subst l15 y15 z15
  obtain ⟨rfl, Nq15, e15⟩ := hQ15
  have N15 := Fr.app N11 Nq15
  have f17 : Fld Z h3 c0 "com/example/hoofprint/hoofprint/model/KnightMove" "columns" "I" (.int (-1 : Int32)) := (P5.ext E3)
  obtain ⟨T18, X18, e18, st18⟩ := getF X15 hx hZ hown (host := "") (Or.inl (hw _ (List.mem_of_getElem? (i := 66) rfl))) Via.refl e15 f17 (g := (mkF m 47 #[.val (.ref pr0), .val (.ref b3), .val (.ref nb), .val (.int (8 : Int32)), .val (.int (0 : Int32)), .val (.ref c0)] [(.ref c0), (.int ((-2 : Int32) * wc)), (.int (0 : Int32)), (.ref b3)])) rfl rfl (hb hby d12_47)
  obtain ⟨cl19, Ar19, q19, S19, N19, H19, G19⟩ := id V3
  have hin19 : ¬ ((0 : Int32) < 0 ∨ cl19.slots.size ≤ ((0 : Int32)).toNatClampNeg) := inb_of S19 ⟨by decide, by decide⟩
  obtain ⟨T20, h20, X20, e20, W20, st20⟩ := stI X18 hx hZ e18 Ar19 (j := (0 : Int32)) hin19 (g := (mkF m 51 #[.val (.ref pr0), .val (.ref b3), .val (.ref nb), .val (.int (8 : Int32)), .val (.int (0 : Int32)), .val (.ref c0)] [(.int (((-2 : Int32) * wc) + (-1 : Int32))), (.int (0 : Int32)), (.ref b3)])) rfl rfl (hb hby d12_51)
  have K20 : Keep h0 h20 ([] : List Addr) := K3.wr W20 (Or.inr sz3)
  have N20 := Fr.snoc X20 N15 ge3
  have Z20 : n0 ≤ h20.size := Nat.le_trans Z3 (Keep.of_wr W20).1
  have V20 : Arv Z h20 b3 k3 .int (8 : Int32) [(.int (((-2 : Int32) * wc) + (-1 : Int32))), (.int (0 : Int32)), (.int (0 : Int32)), (.int (0 : Int32)), (.int (0 : Int32)), (.int (0 : Int32)), (.int (0 : Int32)), (.int (0 : Int32))] (.int (0 : Int32)) := Arv.set Ar19 q19 S19 N19 H19 G19 rfl W20 0 rfl (Nat.le_of_ble_eq_true rfl)
  have f21 : Arv Z h20 nb kn (.object "com/example/hoofprint/hoofprint/model/KnightMove") (8 : Int32) [(.ref c0), (.ref c1), (.ref c2), (.ref c3), (.ref c4), (.ref c5), (.ref c6), (.ref c7)] .null := (f6.other W20 ne3_nb)
  obtain ⟨cl22, Ar22, q22, S22, N22, H22, G22⟩ := id f21
  have hin22 : ¬ ((1 : Int32) < 0 ∨ cl22.slots.size ≤ ((1 : Int32)).toNatClampNeg) := inb_of S22 ⟨by decide, by decide⟩
  have hat22 : cl22.slots[((1 : Int32)).toNatClampNeg]? = some (.ref c1) := Has.at H22 hin22 rfl
  have f23 : Exa Z h20 c1 "com/example/hoofprint/hoofprint/model/KnightMove" := ((P6.ext E3).wr W20)
  have f24 : Fld Z h20 c1 "java/lang/Enum" "ordinal" "I" (.int (1 : Int32)) := ((P7.ext E3).other W20 (Or.inl ne3_c1))
  obtain ⟨cq25, kq25, q25a, q25b, q25c⟩ := isOf hZ e20 f23
  obtain ⟨_, _, ⟨T25, L25, k25, n25⟩, -, X25, ⟨Lc25, hQ25, l25, y25, z25⟩, st25⟩ := X20.virtualBack hx (y := (⟨"com/example/hoofprint/hoofprint/model/KnightMove", "number", "()I"⟩ : MethodName)) (z := (⟨"com/example/hoofprint/hoofprint/model/KnightMove", "number", "()I"⟩ : MethodName)) hown (mvT hZ (hw _ (List.mem_of_getElem? (i := 45) rfl))) (mvT hZ (hw _ (List.mem_of_getElem? (i := 46) rfl))) (notFace_of_selects (args := #[]) (mvT hZ (hw _ (List.mem_of_getElem? (i := 48) rfl)))) (mvT hZ (hw _ (List.mem_of_getElem? (i := 48) rfl))) (mvT hZ (hw _ (List.mem_of_getElem? (i := 47) rfl))) (by decide) (backOf (W := 1) (own_number l Z a0 hw [] c1 (1 : Int32) h20 n0 Z20 f23 f24) hZ (hw _ (List.mem_of_getElem? (i := 49) rfl)) (hw _ (List.mem_of_getElem? (i := 39) rfl)) (by decide) (by decide)) q25a q25c (g := (mkF m 32 #[.val (.ref pr0), .val (.ref b3), .val (.ref nb), .val (.int (8 : Int32)), .val (.int (1 : Int32)), .val (.ref c1)] [(.ref c1), (.ref b3)])) rfl (by rw [hml]; rfl) (Steps.refl _) (argsL := []) (rest := [(.ref b3)]) (lenOf pd_10 rfl) rfl (by show 2 * 0 + _ ≤ _; exact Nat.le_of_eq rfl) (hb hby d12_32) (fun _ _ => ⟨rfl, e20, (by decide : 1 + 0 ≤ _), (by decide : 8 + 0 ≤ _)⟩)
  dsimp only [Pt.U, Pt.locs, Pt.cells, Pt.slots] at X25 l25 y25 z25 st25 hQ25
  subst l25 y25 z25
  obtain ⟨rfl, Nq25, e25⟩ := hQ25
  have N25 := Fr.app N20 Nq25
  have f26 : Fld Z h20 c1 "com/example/hoofprint/hoofprint/model/KnightMove" "rows" "I" (.int (-2 : Int32)) := ((P8.ext E3).other W20 (Or.inl ne3_c1))
  obtain ⟨T27, X27, e27, st27⟩ := getF X25 hx hZ hown (host := "") (Or.inl (hw _ (List.mem_of_getElem? (i := 59) rfl))) Via.refl e25 f26 (g := (mkF m 37 #[.val (.ref pr0), .val (.ref b3), .val (.ref nb), .val (.int (8 : Int32)), .val (.int (1 : Int32)), .val (.ref c1)] [(.ref c1), (.int (1 : Int32)), (.ref b3)])) rfl rfl (hb hby d12_37)
  have f28 : Fld Z h20 pr0 "com/example/hoofprint/hoofprint/model/Board" "columns" "I" (.int wc) := (f14.other W20 (Or.inl ne3_pr0))
  have f30 : Exa Z h20 pr0 "com/example/hoofprint/hoofprint/model/Board" := (f16.wr W20)
  obtain ⟨cq29, kq29, q29a, q29b, q29c⟩ := isOf hZ e27 f30
  obtain ⟨_, _, ⟨T29, L29, k29, n29⟩, -, X29, ⟨Lc29, hQ29, l29, y29, z29⟩, st29⟩ := X27.virtualBack hx (y := (⟨"com/example/hoofprint/hoofprint/model/Board", "columns", "()I"⟩ : MethodName)) (z := (⟨"com/example/hoofprint/hoofprint/model/Board", "columns", "()I"⟩ : MethodName)) hown (mvT hZ (hw _ (List.mem_of_getElem? (i := 61) rfl))) (mvT hZ (hw _ (List.mem_of_getElem? (i := 62) rfl))) (notFace_of_selects (args := #[]) (mvT hZ (hw _ (List.mem_of_getElem? (i := 64) rfl)))) (mvT hZ (hw _ (List.mem_of_getElem? (i := 64) rfl))) (mvT hZ (hw _ (List.mem_of_getElem? (i := 63) rfl))) (by decide) (backOf (W := 3) (own_columns l Z a0 hw [] pr0 wc h20 n0 Z20 f28) hZ (hw _ (List.mem_of_getElem? (i := 65) rfl)) (hw _ (List.mem_of_getElem? (i := 3) rfl)) (by decide) (by decide)) q29a q29c (g := (mkF m 41 #[.val (.ref pr0), .val (.ref b3), .val (.ref nb), .val (.int (8 : Int32)), .val (.int (1 : Int32)), .val (.ref c1)] [(.ref pr0), (.int (-2 : Int32)), (.int (1 : Int32)), (.ref b3)])) rfl (by rw [hml]; rfl) (Steps.refl _) (argsL := []) (rest := [(.int (-2 : Int32)), (.int (1 : Int32)), (.ref b3)]) (lenOf pd_10 rfl) rfl (by show 2 * 0 + _ ≤ _; exact Nat.le_of_eq rfl) (hb hby d12_41) (fun _ _ => ⟨rfl, e27, (by decide : 1 + 0 ≤ _), (by decide : 8 + 0 ≤ _)⟩)
  dsimp only [Pt.U, Pt.locs, Pt.cells, Pt.slots] at X29 l29 y29 z29 st29 hQ29
  subst l29 y29 z29
  obtain ⟨rfl, Nq29, e29⟩ := hQ29
  have N29 := Fr.app N25 Nq29
  have f31 : Fld Z h20 c1 "com/example/hoofprint/hoofprint/model/KnightMove" "columns" "I" (.int (1 : Int32)) := ((P9.ext E3).other W20 (Or.inl ne3_c1))
  obtain ⟨T32, X32, e32, st32⟩ := getF X29 hx hZ hown (host := "") (Or.inl (hw _ (List.mem_of_getElem? (i := 66) rfl))) Via.refl e29 f31 (g := (mkF m 47 #[.val (.ref pr0), .val (.ref b3), .val (.ref nb), .val (.int (8 : Int32)), .val (.int (1 : Int32)), .val (.ref c1)] [(.ref c1), (.int ((-2 : Int32) * wc)), (.int (1 : Int32)), (.ref b3)])) rfl rfl (hb hby d12_47)
  obtain ⟨cl33, Ar33, q33, S33, N33, H33, G33⟩ := id V20
  have hin33 : ¬ ((1 : Int32) < 0 ∨ cl33.slots.size ≤ ((1 : Int32)).toNatClampNeg) := inb_of S33 ⟨by decide, by decide⟩
  obtain ⟨T34, h34, X34, e34, W34, st34⟩ := stI X32 hx hZ e32 Ar33 (j := (1 : Int32)) hin33 (g := (mkF m 51 #[.val (.ref pr0), .val (.ref b3), .val (.ref nb), .val (.int (8 : Int32)), .val (.int (1 : Int32)), .val (.ref c1)] [(.int (((-2 : Int32) * wc) + (1 : Int32))), (.int (1 : Int32)), (.ref b3)])) rfl rfl (hb hby d12_51)
  have K34 : Keep h0 h34 ([] : List Addr) := K20.wr W34 (Or.inr sz3)
  have N34 := Fr.snoc X34 N29 ge3
  have Z34 : n0 ≤ h34.size := Nat.le_trans Z20 (Keep.of_wr W34).1
  have V34 : Arv Z h34 b3 k3 .int (8 : Int32) [(.int (((-2 : Int32) * wc) + (-1 : Int32))), (.int (((-2 : Int32) * wc) + (1 : Int32))), (.int (0 : Int32)), (.int (0 : Int32)), (.int (0 : Int32)), (.int (0 : Int32)), (.int (0 : Int32)), (.int (0 : Int32))] (.int (0 : Int32)) := Arv.set Ar33 q33 S33 N33 H33 G33 rfl W34 1 rfl (Nat.le_of_ble_eq_true rfl)
  have f35 : Arv Z h34 nb kn (.object "com/example/hoofprint/hoofprint/model/KnightMove") (8 : Int32) [(.ref c0), (.ref c1), (.ref c2), (.ref c3), (.ref c4), (.ref c5), (.ref c6), (.ref c7)] .null := (f21.other W34 ne3_nb)
  obtain ⟨cl36, Ar36, q36, S36, N36, H36, G36⟩ := id f35
  have hin36 : ¬ ((2 : Int32) < 0 ∨ cl36.slots.size ≤ ((2 : Int32)).toNatClampNeg) := inb_of S36 ⟨by decide, by decide⟩
  have hat36 : cl36.slots[((2 : Int32)).toNatClampNeg]? = some (.ref c2) := Has.at H36 hin36 rfl
  have go37 : ∀ t, Steps p.tables e below (T34.setTop (mkF m 29 #[.val (.ref pr0), .val (.ref b3), .val (.ref nb), .val (.int (8 : Int32)), .val (.int (2 : Int32)), .val (.ref c2)] [])) t → Steps p.tables e below st0 t := by
    intro t kt
    refine go0 t ?_
    refine st1 _ ?_
    show Steps p.tables e below (T1.setTop (mkF m 3 #[.val (.ref pr0), .unset, .unset, .unset, .unset, .unset] [(.ref nb)])) _
    refine X1.arraylength hx (by rw [e1]; exact Ar2.1) (State.isArrayOf_alike hZ.alike Ar2.2.1) (g := (mkF m 3 #[.val (.ref pr0), .unset, .unset, .unset, .unset, .unset] [(.ref nb)])) rfl rfl (hb hby d12_3) _ ?_
    rw [len_of S2 N2]
    show Steps p.tables e below (T1.setTop (mkF m 4 #[.val (.ref pr0), .unset, .unset, .unset, .unset, .unset] [(.int (8 : Int32))])) _
    refine st3 _ ?_
    show Steps p.tables e below (T3.setTop (mkF m 6 #[.val (.ref pr0), .unset, .unset, .unset, .unset, .unset] [(.ref b3)])) _
    refine XS.astoreN X3.here hx rfl (hb hby d12_6) rfl rfl (l' := #[.val (.ref pr0), .val (.ref b3), .unset, .unset, .unset, .unset]) rfl ?_
    show Steps p.tables e below (T3.setTop (mkF m 7 #[.val (.ref pr0), .val (.ref b3), .unset, .unset, .unset, .unset] [])) _
    refine st5 _ ?_
    show Steps p.tables e below (T5.setTop (mkF m 10 #[.val (.ref pr0), .val (.ref b3), .unset, .unset, .unset, .unset] [(.ref nb)])) _
    refine XS.astoreN X5.here hx rfl (hb hby d12_10) rfl rfl (l' := #[.val (.ref pr0), .val (.ref b3), .val (.ref nb), .unset, .unset, .unset]) rfl ?_
    show Steps p.tables e below (T5.setTop (mkF m 11 #[.val (.ref pr0), .val (.ref b3), .val (.ref nb), .unset, .unset, .unset] [])) _
    refine XS.aloadN X5.here hx rfl (hb hby d12_11) rfl rfl ?_
    show Steps p.tables e below (T5.setTop (mkF m 12 #[.val (.ref pr0), .val (.ref b3), .val (.ref nb), .unset, .unset, .unset] [(.ref nb)])) _
    refine X5.arraylength hx (by rw [e5]; exact Ar7.1) (State.isArrayOf_alike hZ.alike Ar7.2.1) (g := (mkF m 12 #[.val (.ref pr0), .val (.ref b3), .val (.ref nb), .unset, .unset, .unset] [(.ref nb)])) rfl rfl (hb hby d12_12) _ ?_
    rw [len_of S7 N7]
    show Steps p.tables e below (T5.setTop (mkF m 13 #[.val (.ref pr0), .val (.ref b3), .val (.ref nb), .unset, .unset, .unset] [(.int (8 : Int32))])) _
    refine XS.istoreN X5.here hx rfl (hb hby d12_13) rfl (l' := #[.val (.ref pr0), .val (.ref b3), .val (.ref nb), .val (.int (8 : Int32)), .unset, .unset]) rfl ?_
    show Steps p.tables e below (T5.setTop (mkF m 14 #[.val (.ref pr0), .val (.ref b3), .val (.ref nb), .val (.int (8 : Int32)), .unset, .unset] [])) _
    refine XS.iconst X5.here hx rfl (hb hby d12_14) ?_
    show Steps p.tables e below (T5.setTop (mkF m 15 #[.val (.ref pr0), .val (.ref b3), .val (.ref nb), .val (.int (8 : Int32)), .unset, .unset] [(.int (0 : Int32))])) _
    refine XS.istore X5.here hx rfl (hb hby d12_15) rfl (l' := #[.val (.ref pr0), .val (.ref b3), .val (.ref nb), .val (.int (8 : Int32)), .val (.int (0 : Int32)), .unset]) rfl ?_
    show Steps p.tables e below (T5.setTop (mkF m 17 #[.val (.ref pr0), .val (.ref b3), .val (.ref nb), .val (.int (8 : Int32)), .val (.int (0 : Int32)), .unset] [])) _
    refine XS.iload X5.here hx rfl (hb hby d12_17) rfl ?_
    show Steps p.tables e below (T5.setTop (mkF m 19 #[.val (.ref pr0), .val (.ref b3), .val (.ref nb), .val (.int (8 : Int32)), .val (.int (0 : Int32)), .unset] [(.int (0 : Int32))])) _
    refine XS.iloadN X5.here hx rfl (hb hby d12_19) rfl ?_
    show Steps p.tables e below (T5.setTop (mkF m 20 #[.val (.ref pr0), .val (.ref b3), .val (.ref nb), .val (.int (8 : Int32)), .val (.int (0 : Int32)), .unset] [(.int (8 : Int32)), (.int (0 : Int32))])) _
    refine XS.icmpNo X5.here hx rfl (hb hby d12_20) rfl (tlt (by decide : (0 : Int32) < (8 : Int32))).2.1 ?_
    show Steps p.tables e below (T5.setTop (mkF m 23 #[.val (.ref pr0), .val (.ref b3), .val (.ref nb), .val (.int (8 : Int32)), .val (.int (0 : Int32)), .unset] [])) _
    refine XS.aloadN X5.here hx rfl (hb hby d12_23) rfl rfl ?_
    show Steps p.tables e below (T5.setTop (mkF m 24 #[.val (.ref pr0), .val (.ref b3), .val (.ref nb), .val (.int (8 : Int32)), .val (.int (0 : Int32)), .unset] [(.ref nb)])) _
    refine XS.iload X5.here hx rfl (hb hby d12_24) rfl ?_
    show Steps p.tables e below (T5.setTop (mkF m 26 #[.val (.ref pr0), .val (.ref b3), .val (.ref nb), .val (.int (8 : Int32)), .val (.int (0 : Int32)), .unset] [(.int (0 : Int32)), (.ref nb)])) _
    refine X5.aaload hx (j := (0 : Int32)) (v := (.ref c0)) (by rw [e5]; exact Ar8.1) (State.isArrayOf_alike hZ.alike Ar8.2.1) rfl Ar8.2.2 hin8 hat8 (g := (mkF m 26 #[.val (.ref pr0), .val (.ref b3), .val (.ref nb), .val (.int (8 : Int32)), .val (.int (0 : Int32)), .unset] [(.int (0 : Int32)), (.ref nb)])) rfl rfl (hb hby d12_26) _ ?_
    show Steps p.tables e below (T5.setTop (mkF m 27 #[.val (.ref pr0), .val (.ref b3), .val (.ref nb), .val (.int (8 : Int32)), .val (.int (0 : Int32)), .unset] [(.ref c0)])) _
    refine XS.astore X5.here hx rfl (hb hby d12_27) rfl rfl (l' := #[.val (.ref pr0), .val (.ref b3), .val (.ref nb), .val (.int (8 : Int32)), .val (.int (0 : Int32)), .val (.ref c0)]) rfl ?_
    show Steps p.tables e below (T5.setTop (mkF m 29 #[.val (.ref pr0), .val (.ref b3), .val (.ref nb), .val (.int (8 : Int32)), .val (.int (0 : Int32)), .val (.ref c0)] [])) _
    refine XS.aloadN X5.here hx rfl (hb hby d12_29) rfl rfl ?_
    show Steps p.tables e below (T5.setTop (mkF m 30 #[.val (.ref pr0), .val (.ref b3), .val (.ref nb), .val (.int (8 : Int32)), .val (.int (0 : Int32)), .val (.ref c0)] [(.ref b3)])) _
    refine XS.aload X5.here hx rfl (hb hby d12_30) rfl rfl ?_
    show Steps p.tables e below (T5.setTop (mkF m 32 #[.val (.ref pr0), .val (.ref b3), .val (.ref nb), .val (.int (8 : Int32)), .val (.int (0 : Int32)), .val (.ref c0)] [(.ref c0), (.ref b3)])) _
    refine st11.trans ?_
    show Steps p.tables e below (T11.setTop (mkF m 35 #[.val (.ref pr0), .val (.ref b3), .val (.ref nb), .val (.int (8 : Int32)), .val (.int (0 : Int32)), .val (.ref c0)] [(.int (0 : Int32)), (.ref b3)])) _
    refine XS.aload X11.here hx rfl (hb hby d12_35) rfl rfl ?_
    show Steps p.tables e below (T11.setTop (mkF m 37 #[.val (.ref pr0), .val (.ref b3), .val (.ref nb), .val (.int (8 : Int32)), .val (.int (0 : Int32)), .val (.ref c0)] [(.ref c0), (.int (0 : Int32)), (.ref b3)])) _
    refine st13 _ ?_
    show Steps p.tables e below (T13.setTop (mkF m 40 #[.val (.ref pr0), .val (.ref b3), .val (.ref nb), .val (.int (8 : Int32)), .val (.int (0 : Int32)), .val (.ref c0)] [(.int (-2 : Int32)), (.int (0 : Int32)), (.ref b3)])) _
    refine XS.aloadN X13.here hx rfl (hb hby d12_40) rfl rfl ?_
    show Steps p.tables e below (T13.setTop (mkF m 41 #[.val (.ref pr0), .val (.ref b3), .val (.ref nb), .val (.int (8 : Int32)), .val (.int (0 : Int32)), .val (.ref c0)] [(.ref pr0), (.int (-2 : Int32)), (.int (0 : Int32)), (.ref b3)])) _
    refine st15.trans ?_
    show Steps p.tables e below (T15.setTop (mkF m 44 #[.val (.ref pr0), .val (.ref b3), .val (.ref nb), .val (.int (8 : Int32)), .val (.int (0 : Int32)), .val (.ref c0)] [(.int wc), (.int (-2 : Int32)), (.int (0 : Int32)), (.ref b3)])) _
    refine XS.imul X15.here hx rfl (hb hby d12_44) rfl ?_
    show Steps p.tables e below (T15.setTop (mkF m 45 #[.val (.ref pr0), .val (.ref b3), .val (.ref nb), .val (.int (8 : Int32)), .val (.int (0 : Int32)), .val (.ref c0)] [(.int ((-2 : Int32) * wc)), (.int (0 : Int32)), (.ref b3)])) _
    refine XS.aload X15.here hx rfl (hb hby d12_45) rfl rfl ?_
    show Steps p.tables e below (T15.setTop (mkF m 47 #[.val (.ref pr0), .val (.ref b3), .val (.ref nb), .val (.int (8 : Int32)), .val (.int (0 : Int32)), .val (.ref c0)] [(.ref c0), (.int ((-2 : Int32) * wc)), (.int (0 : Int32)), (.ref b3)])) _
    refine st18 _ ?_
    show Steps p.tables e below (T18.setTop (mkF m 50 #[.val (.ref pr0), .val (.ref b3), .val (.ref nb), .val (.int (8 : Int32)), .val (.int (0 : Int32)), .val (.ref c0)] [(.int (-1 : Int32)), (.int ((-2 : Int32) * wc)), (.int (0 : Int32)), (.ref b3)])) _
    refine XS.iadd X18.here hx rfl (hb hby d12_50) rfl ?_
    show Steps p.tables e below (T18.setTop (mkF m 51 #[.val (.ref pr0), .val (.ref b3), .val (.ref nb), .val (.int (8 : Int32)), .val (.int (0 : Int32)), .val (.ref c0)] [(.int (((-2 : Int32) * wc) + (-1 : Int32))), (.int (0 : Int32)), (.ref b3)])) _
    refine st20 _ ?_
    show Steps p.tables e below (T20.setTop (mkF m 52 #[.val (.ref pr0), .val (.ref b3), .val (.ref nb), .val (.int (8 : Int32)), .val (.int (0 : Int32)), .val (.ref c0)] [])) _
    refine XS.iinc X20.here hx rfl (hb hby d12_52) rfl (l' := #[.val (.ref pr0), .val (.ref b3), .val (.ref nb), .val (.int (8 : Int32)), .val (.int (1 : Int32)), .val (.ref c0)]) rfl ?_
    show Steps p.tables e below (T20.setTop (mkF m 55 #[.val (.ref pr0), .val (.ref b3), .val (.ref nb), .val (.int (8 : Int32)), .val (.int (1 : Int32)), .val (.ref c0)] [])) _
    refine XS.goto X20.here hx rfl (pc0 := 55) (pc' := 17) rfl (hb hby d12_55) (by decide) (by decide) ?_
    show Steps p.tables e below (T20.setTop (mkF m 17 #[.val (.ref pr0), .val (.ref b3), .val (.ref nb), .val (.int (8 : Int32)), .val (.int (1 : Int32)), .val (.ref c0)] [])) _
    refine XS.iload X20.here hx rfl (hb hby d12_17) rfl ?_
    show Steps p.tables e below (T20.setTop (mkF m 19 #[.val (.ref pr0), .val (.ref b3), .val (.ref nb), .val (.int (8 : Int32)), .val (.int (1 : Int32)), .val (.ref c0)] [(.int (1 : Int32))])) _
    refine XS.iloadN X20.here hx rfl (hb hby d12_19) rfl ?_
    show Steps p.tables e below (T20.setTop (mkF m 20 #[.val (.ref pr0), .val (.ref b3), .val (.ref nb), .val (.int (8 : Int32)), .val (.int (1 : Int32)), .val (.ref c0)] [(.int (8 : Int32)), (.int (1 : Int32))])) _
    refine XS.icmpNo X20.here hx rfl (hb hby d12_20) rfl (tlt (by decide : (1 : Int32) < (8 : Int32))).2.1 ?_
    show Steps p.tables e below (T20.setTop (mkF m 23 #[.val (.ref pr0), .val (.ref b3), .val (.ref nb), .val (.int (8 : Int32)), .val (.int (1 : Int32)), .val (.ref c0)] [])) _
    refine XS.aloadN X20.here hx rfl (hb hby d12_23) rfl rfl ?_
    show Steps p.tables e below (T20.setTop (mkF m 24 #[.val (.ref pr0), .val (.ref b3), .val (.ref nb), .val (.int (8 : Int32)), .val (.int (1 : Int32)), .val (.ref c0)] [(.ref nb)])) _
    refine XS.iload X20.here hx rfl (hb hby d12_24) rfl ?_
    show Steps p.tables e below (T20.setTop (mkF m 26 #[.val (.ref pr0), .val (.ref b3), .val (.ref nb), .val (.int (8 : Int32)), .val (.int (1 : Int32)), .val (.ref c0)] [(.int (1 : Int32)), (.ref nb)])) _
    refine X20.aaload hx (j := (1 : Int32)) (v := (.ref c1)) (by rw [e20]; exact Ar22.1) (State.isArrayOf_alike hZ.alike Ar22.2.1) rfl Ar22.2.2 hin22 hat22 (g := (mkF m 26 #[.val (.ref pr0), .val (.ref b3), .val (.ref nb), .val (.int (8 : Int32)), .val (.int (1 : Int32)), .val (.ref c0)] [(.int (1 : Int32)), (.ref nb)])) rfl rfl (hb hby d12_26) _ ?_
    show Steps p.tables e below (T20.setTop (mkF m 27 #[.val (.ref pr0), .val (.ref b3), .val (.ref nb), .val (.int (8 : Int32)), .val (.int (1 : Int32)), .val (.ref c0)] [(.ref c1)])) _
    refine XS.astore X20.here hx rfl (hb hby d12_27) rfl rfl (l' := #[.val (.ref pr0), .val (.ref b3), .val (.ref nb), .val (.int (8 : Int32)), .val (.int (1 : Int32)), .val (.ref c1)]) rfl ?_
    show Steps p.tables e below (T20.setTop (mkF m 29 #[.val (.ref pr0), .val (.ref b3), .val (.ref nb), .val (.int (8 : Int32)), .val (.int (1 : Int32)), .val (.ref c1)] [])) _
    refine XS.aloadN X20.here hx rfl (hb hby d12_29) rfl rfl ?_
    show Steps p.tables e below (T20.setTop (mkF m 30 #[.val (.ref pr0), .val (.ref b3), .val (.ref nb), .val (.int (8 : Int32)), .val (.int (1 : Int32)), .val (.ref c1)] [(.ref b3)])) _
    refine XS.aload X20.here hx rfl (hb hby d12_30) rfl rfl ?_
    show Steps p.tables e below (T20.setTop (mkF m 32 #[.val (.ref pr0), .val (.ref b3), .val (.ref nb), .val (.int (8 : Int32)), .val (.int (1 : Int32)), .val (.ref c1)] [(.ref c1), (.ref b3)])) _
    refine st25.trans ?_
    show Steps p.tables e below (T25.setTop (mkF m 35 #[.val (.ref pr0), .val (.ref b3), .val (.ref nb), .val (.int (8 : Int32)), .val (.int (1 : Int32)), .val (.ref c1)] [(.int (1 : Int32)), (.ref b3)])) _
    refine XS.aload X25.here hx rfl (hb hby d12_35) rfl rfl ?_
    show Steps p.tables e below (T25.setTop (mkF m 37 #[.val (.ref pr0), .val (.ref b3), .val (.ref nb), .val (.int (8 : Int32)), .val (.int (1 : Int32)), .val (.ref c1)] [(.ref c1), (.int (1 : Int32)), (.ref b3)])) _
    refine st27 _ ?_
    show Steps p.tables e below (T27.setTop (mkF m 40 #[.val (.ref pr0), .val (.ref b3), .val (.ref nb), .val (.int (8 : Int32)), .val (.int (1 : Int32)), .val (.ref c1)] [(.int (-2 : Int32)), (.int (1 : Int32)), (.ref b3)])) _
    refine XS.aloadN X27.here hx rfl (hb hby d12_40) rfl rfl ?_
    show Steps p.tables e below (T27.setTop (mkF m 41 #[.val (.ref pr0), .val (.ref b3), .val (.ref nb), .val (.int (8 : Int32)), .val (.int (1 : Int32)), .val (.ref c1)] [(.ref pr0), (.int (-2 : Int32)), (.int (1 : Int32)), (.ref b3)])) _
    refine st29.trans ?_
    show Steps p.tables e below (T29.setTop (mkF m 44 #[.val (.ref pr0), .val (.ref b3), .val (.ref nb), .val (.int (8 : Int32)), .val (.int (1 : Int32)), .val (.ref c1)] [(.int wc), (.int (-2 : Int32)), (.int (1 : Int32)), (.ref b3)])) _
    refine XS.imul X29.here hx rfl (hb hby d12_44) rfl ?_
    show Steps p.tables e below (T29.setTop (mkF m 45 #[.val (.ref pr0), .val (.ref b3), .val (.ref nb), .val (.int (8 : Int32)), .val (.int (1 : Int32)), .val (.ref c1)] [(.int ((-2 : Int32) * wc)), (.int (1 : Int32)), (.ref b3)])) _
    refine XS.aload X29.here hx rfl (hb hby d12_45) rfl rfl ?_
    show Steps p.tables e below (T29.setTop (mkF m 47 #[.val (.ref pr0), .val (.ref b3), .val (.ref nb), .val (.int (8 : Int32)), .val (.int (1 : Int32)), .val (.ref c1)] [(.ref c1), (.int ((-2 : Int32) * wc)), (.int (1 : Int32)), (.ref b3)])) _
    refine st32 _ ?_
    show Steps p.tables e below (T32.setTop (mkF m 50 #[.val (.ref pr0), .val (.ref b3), .val (.ref nb), .val (.int (8 : Int32)), .val (.int (1 : Int32)), .val (.ref c1)] [(.int (1 : Int32)), (.int ((-2 : Int32) * wc)), (.int (1 : Int32)), (.ref b3)])) _
    refine XS.iadd X32.here hx rfl (hb hby d12_50) rfl ?_
    show Steps p.tables e below (T32.setTop (mkF m 51 #[.val (.ref pr0), .val (.ref b3), .val (.ref nb), .val (.int (8 : Int32)), .val (.int (1 : Int32)), .val (.ref c1)] [(.int (((-2 : Int32) * wc) + (1 : Int32))), (.int (1 : Int32)), (.ref b3)])) _
    refine st34 _ ?_
    show Steps p.tables e below (T34.setTop (mkF m 52 #[.val (.ref pr0), .val (.ref b3), .val (.ref nb), .val (.int (8 : Int32)), .val (.int (1 : Int32)), .val (.ref c1)] [])) _
    refine XS.iinc X34.here hx rfl (hb hby d12_52) rfl (l' := #[.val (.ref pr0), .val (.ref b3), .val (.ref nb), .val (.int (8 : Int32)), .val (.int (2 : Int32)), .val (.ref c1)]) rfl ?_
    show Steps p.tables e below (T34.setTop (mkF m 55 #[.val (.ref pr0), .val (.ref b3), .val (.ref nb), .val (.int (8 : Int32)), .val (.int (2 : Int32)), .val (.ref c1)] [])) _
    refine XS.goto X34.here hx rfl (pc0 := 55) (pc' := 17) rfl (hb hby d12_55) (by decide) (by decide) ?_
    show Steps p.tables e below (T34.setTop (mkF m 17 #[.val (.ref pr0), .val (.ref b3), .val (.ref nb), .val (.int (8 : Int32)), .val (.int (2 : Int32)), .val (.ref c1)] [])) _
    refine XS.iload X34.here hx rfl (hb hby d12_17) rfl ?_
    show Steps p.tables e below (T34.setTop (mkF m 19 #[.val (.ref pr0), .val (.ref b3), .val (.ref nb), .val (.int (8 : Int32)), .val (.int (2 : Int32)), .val (.ref c1)] [(.int (2 : Int32))])) _
    refine XS.iloadN X34.here hx rfl (hb hby d12_19) rfl ?_
    show Steps p.tables e below (T34.setTop (mkF m 20 #[.val (.ref pr0), .val (.ref b3), .val (.ref nb), .val (.int (8 : Int32)), .val (.int (2 : Int32)), .val (.ref c1)] [(.int (8 : Int32)), (.int (2 : Int32))])) _
    refine XS.icmpNo X34.here hx rfl (hb hby d12_20) rfl (tlt (by decide : (2 : Int32) < (8 : Int32))).2.1 ?_
    show Steps p.tables e below (T34.setTop (mkF m 23 #[.val (.ref pr0), .val (.ref b3), .val (.ref nb), .val (.int (8 : Int32)), .val (.int (2 : Int32)), .val (.ref c1)] [])) _
    refine XS.aloadN X34.here hx rfl (hb hby d12_23) rfl rfl ?_
    show Steps p.tables e below (T34.setTop (mkF m 24 #[.val (.ref pr0), .val (.ref b3), .val (.ref nb), .val (.int (8 : Int32)), .val (.int (2 : Int32)), .val (.ref c1)] [(.ref nb)])) _
    refine XS.iload X34.here hx rfl (hb hby d12_24) rfl ?_
    show Steps p.tables e below (T34.setTop (mkF m 26 #[.val (.ref pr0), .val (.ref b3), .val (.ref nb), .val (.int (8 : Int32)), .val (.int (2 : Int32)), .val (.ref c1)] [(.int (2 : Int32)), (.ref nb)])) _
    refine X34.aaload hx (j := (2 : Int32)) (v := (.ref c2)) (by rw [e34]; exact Ar36.1) (State.isArrayOf_alike hZ.alike Ar36.2.1) rfl Ar36.2.2 hin36 hat36 (g := (mkF m 26 #[.val (.ref pr0), .val (.ref b3), .val (.ref nb), .val (.int (8 : Int32)), .val (.int (2 : Int32)), .val (.ref c1)] [(.int (2 : Int32)), (.ref nb)])) rfl rfl (hb hby d12_26) _ ?_
    show Steps p.tables e below (T34.setTop (mkF m 27 #[.val (.ref pr0), .val (.ref b3), .val (.ref nb), .val (.int (8 : Int32)), .val (.int (2 : Int32)), .val (.ref c1)] [(.ref c2)])) _
    refine XS.astore X34.here hx rfl (hb hby d12_27) rfl rfl (l' := #[.val (.ref pr0), .val (.ref b3), .val (.ref nb), .val (.int (8 : Int32)), .val (.int (2 : Int32)), .val (.ref c2)]) rfl ?_
    show Steps p.tables e below (T34.setTop (mkF m 29 #[.val (.ref pr0), .val (.ref b3), .val (.ref nb), .val (.int (8 : Int32)), .val (.int (2 : Int32)), .val (.ref c2)] [])) _
    exact kt
  have f38 : Exa Z h34 c2 "com/example/hoofprint/hoofprint/model/KnightMove" := (((P10.ext E3).wr W20).wr W34)
  have f39 : Fld Z h34 c2 "java/lang/Enum" "ordinal" "I" (.int (2 : Int32)) := (((P11.ext E3).other W20 (Or.inl ne3_c2)).other W34 (Or.inl ne3_c2))
  obtain ⟨cq40, kq40, q40a, q40b, q40c⟩ := isOf hZ e34 f38
  obtain ⟨_, _, ⟨T40, L40, k40, n40⟩, -, X40, ⟨Lc40, hQ40, l40, y40, z40⟩, st40⟩ := X34.virtualBack hx (y := (⟨"com/example/hoofprint/hoofprint/model/KnightMove", "number", "()I"⟩ : MethodName)) (z := (⟨"com/example/hoofprint/hoofprint/model/KnightMove", "number", "()I"⟩ : MethodName)) hown (mvT hZ (hw _ (List.mem_of_getElem? (i := 45) rfl))) (mvT hZ (hw _ (List.mem_of_getElem? (i := 46) rfl))) (notFace_of_selects (args := #[]) (mvT hZ (hw _ (List.mem_of_getElem? (i := 48) rfl)))) (mvT hZ (hw _ (List.mem_of_getElem? (i := 48) rfl))) (mvT hZ (hw _ (List.mem_of_getElem? (i := 47) rfl))) (by decide) (backOf (W := 1) (own_number l Z a0 hw [] c2 (2 : Int32) h34 n0 Z34 f38 f39) hZ (hw _ (List.mem_of_getElem? (i := 49) rfl)) (hw _ (List.mem_of_getElem? (i := 39) rfl)) (by decide) (by decide)) q40a q40c (g := (mkF m 32 #[.val (.ref pr0), .val (.ref b3), .val (.ref nb), .val (.int (8 : Int32)), .val (.int (2 : Int32)), .val (.ref c2)] [(.ref c2), (.ref b3)])) rfl (by rw [hml]; rfl) (Steps.refl _) (argsL := []) (rest := [(.ref b3)]) (lenOf pd_10 rfl) rfl (by show 2 * 0 + _ ≤ _; exact Nat.le_of_eq rfl) (hb hby d12_32) (fun _ _ => ⟨rfl, e34, (by decide : 1 + 0 ≤ _), (by decide : 8 + 0 ≤ _)⟩)
  dsimp only [Pt.U, Pt.locs, Pt.cells, Pt.slots] at X40 l40 y40 z40 st40 hQ40
  subst l40 y40 z40
  obtain ⟨rfl, Nq40, e40⟩ := hQ40
  have N40 := Fr.app N34 Nq40
  have f41 : Fld Z h34 c2 "com/example/hoofprint/hoofprint/model/KnightMove" "rows" "I" (.int (-1 : Int32)) := (((P12.ext E3).other W20 (Or.inl ne3_c2)).other W34 (Or.inl ne3_c2))
  obtain ⟨T42, X42, e42, st42⟩ := getF X40 hx hZ hown (host := "") (Or.inl (hw _ (List.mem_of_getElem? (i := 59) rfl))) Via.refl e40 f41 (g := (mkF m 37 #[.val (.ref pr0), .val (.ref b3), .val (.ref nb), .val (.int (8 : Int32)), .val (.int (2 : Int32)), .val (.ref c2)] [(.ref c2), (.int (2 : Int32)), (.ref b3)])) rfl rfl (hb hby d12_37)
  have f43 : Fld Z h34 pr0 "com/example/hoofprint/hoofprint/model/Board" "columns" "I" (.int wc) := (f28.other W34 (Or.inl ne3_pr0))
  have f45 : Exa Z h34 pr0 "com/example/hoofprint/hoofprint/model/Board" := (f30.wr W34)
  obtain ⟨cq44, kq44, q44a, q44b, q44c⟩ := isOf hZ e42 f45
  obtain ⟨_, _, ⟨T44, L44, k44, n44⟩, -, X44, ⟨Lc44, hQ44, l44, y44, z44⟩, st44⟩ := X42.virtualBack hx (y := (⟨"com/example/hoofprint/hoofprint/model/Board", "columns", "()I"⟩ : MethodName)) (z := (⟨"com/example/hoofprint/hoofprint/model/Board", "columns", "()I"⟩ : MethodName)) hown (mvT hZ (hw _ (List.mem_of_getElem? (i := 61) rfl))) (mvT hZ (hw _ (List.mem_of_getElem? (i := 62) rfl))) (notFace_of_selects (args := #[]) (mvT hZ (hw _ (List.mem_of_getElem? (i := 64) rfl)))) (mvT hZ (hw _ (List.mem_of_getElem? (i := 64) rfl))) (mvT hZ (hw _ (List.mem_of_getElem? (i := 63) rfl))) (by decide) (backOf (W := 3) (own_columns l Z a0 hw [] pr0 wc h34 n0 Z34 f43) hZ (hw _ (List.mem_of_getElem? (i := 65) rfl)) (hw _ (List.mem_of_getElem? (i := 3) rfl)) (by decide) (by decide)) q44a q44c (g := (mkF m 41 #[.val (.ref pr0), .val (.ref b3), .val (.ref nb), .val (.int (8 : Int32)), .val (.int (2 : Int32)), .val (.ref c2)] [(.ref pr0), (.int (-1 : Int32)), (.int (2 : Int32)), (.ref b3)])) rfl (by rw [hml]; rfl) (Steps.refl _) (argsL := []) (rest := [(.int (-1 : Int32)), (.int (2 : Int32)), (.ref b3)]) (lenOf pd_10 rfl) rfl (by show 2 * 0 + _ ≤ _; exact Nat.le_of_eq rfl) (hb hby d12_41) (fun _ _ => ⟨rfl, e42, (by decide : 1 + 0 ≤ _), (by decide : 8 + 0 ≤ _)⟩)
  dsimp only [Pt.U, Pt.locs, Pt.cells, Pt.slots] at X44 l44 y44 z44 st44 hQ44
  subst l44 y44 z44
  obtain ⟨rfl, Nq44, e44⟩ := hQ44
  have N44 := Fr.app N40 Nq44
  have f46 : Fld Z h34 c2 "com/example/hoofprint/hoofprint/model/KnightMove" "columns" "I" (.int (-2 : Int32)) := (((P13.ext E3).other W20 (Or.inl ne3_c2)).other W34 (Or.inl ne3_c2))
  obtain ⟨T47, X47, e47, st47⟩ := getF X44 hx hZ hown (host := "") (Or.inl (hw _ (List.mem_of_getElem? (i := 66) rfl))) Via.refl e44 f46 (g := (mkF m 47 #[.val (.ref pr0), .val (.ref b3), .val (.ref nb), .val (.int (8 : Int32)), .val (.int (2 : Int32)), .val (.ref c2)] [(.ref c2), (.int ((-1 : Int32) * wc)), (.int (2 : Int32)), (.ref b3)])) rfl rfl (hb hby d12_47)
  obtain ⟨cl48, Ar48, q48, S48, N48, H48, G48⟩ := id V34
  have hin48 : ¬ ((2 : Int32) < 0 ∨ cl48.slots.size ≤ ((2 : Int32)).toNatClampNeg) := inb_of S48 ⟨by decide, by decide⟩
  obtain ⟨T49, h49, X49, e49, W49, st49⟩ := stI X47 hx hZ e47 Ar48 (j := (2 : Int32)) hin48 (g := (mkF m 51 #[.val (.ref pr0), .val (.ref b3), .val (.ref nb), .val (.int (8 : Int32)), .val (.int (2 : Int32)), .val (.ref c2)] [(.int (((-1 : Int32) * wc) + (-2 : Int32))), (.int (2 : Int32)), (.ref b3)])) rfl rfl (hb hby d12_51)
  have K49 : Keep h0 h49 ([] : List Addr) := K34.wr W49 (Or.inr sz3)
  have N49 := Fr.snoc X49 N44 ge3
  have Z49 : n0 ≤ h49.size := Nat.le_trans Z34 (Keep.of_wr W49).1
  have V49 : Arv Z h49 b3 k3 .int (8 : Int32) [(.int (((-2 : Int32) * wc) + (-1 : Int32))), (.int (((-2 : Int32) * wc) + (1 : Int32))), (.int (((-1 : Int32) * wc) + (-2 : Int32))), (.int (0 : Int32)), (.int (0 : Int32)), (.int (0 : Int32)), (.int (0 : Int32)), (.int (0 : Int32))] (.int (0 : Int32)) := Arv.set Ar48 q48 S48 N48 H48 G48 rfl W49 2 rfl (Nat.le_of_ble_eq_true rfl)
  have f50 : Arv Z h49 nb kn (.object "com/example/hoofprint/hoofprint/model/KnightMove") (8 : Int32) [(.ref c0), (.ref c1), (.ref c2), (.ref c3), (.ref c4), (.ref c5), (.ref c6), (.ref c7)] .null := (f35.other W49 ne3_nb)
  obtain ⟨cl51, Ar51, q51, S51, N51, H51, G51⟩ := id f50
  have hin51 : ¬ ((3 : Int32) < 0 ∨ cl51.slots.size ≤ ((3 : Int32)).toNatClampNeg) := inb_of S51 ⟨by decide, by decide⟩
  have hat51 : cl51.slots[((3 : Int32)).toNatClampNeg]? = some (.ref c3) := Has.at H51 hin51 rfl
  have f52 : Exa Z h49 c3 "com/example/hoofprint/hoofprint/model/KnightMove" := ((((P14.ext E3).wr W20).wr W34).wr W49)
  have f53 : Fld Z h49 c3 "java/lang/Enum" "ordinal" "I" (.int (3 : Int32)) := ((((P15.ext E3).other W20 (Or.inl ne3_c3)).other W34 (Or.inl ne3_c3)).other W49 (Or.inl ne3_c3))
  obtain ⟨cq54, kq54, q54a, q54b, q54c⟩ := isOf hZ e49 f52
  obtain ⟨_, _, ⟨T54, L54, k54, n54⟩, -, X54, ⟨Lc54, hQ54, l54, y54, z54⟩, st54⟩ := X49.virtualBack hx (y := (⟨"com/example/hoofprint/hoofprint/model/KnightMove", "number", "()I"⟩ : MethodName)) (z := (⟨"com/example/hoofprint/hoofprint/model/KnightMove", "number", "()I"⟩ : MethodName)) hown (mvT hZ (hw _ (List.mem_of_getElem? (i := 45) rfl))) (mvT hZ (hw _ (List.mem_of_getElem? (i := 46) rfl))) (notFace_of_selects (args := #[]) (mvT hZ (hw _ (List.mem_of_getElem? (i := 48) rfl)))) (mvT hZ (hw _ (List.mem_of_getElem? (i := 48) rfl))) (mvT hZ (hw _ (List.mem_of_getElem? (i := 47) rfl))) (by decide) (backOf (W := 1) (own_number l Z a0 hw [] c3 (3 : Int32) h49 n0 Z49 f52 f53) hZ (hw _ (List.mem_of_getElem? (i := 49) rfl)) (hw _ (List.mem_of_getElem? (i := 39) rfl)) (by decide) (by decide)) q54a q54c (g := (mkF m 32 #[.val (.ref pr0), .val (.ref b3), .val (.ref nb), .val (.int (8 : Int32)), .val (.int (3 : Int32)), .val (.ref c3)] [(.ref c3), (.ref b3)])) rfl (by rw [hml]; rfl) (Steps.refl _) (argsL := []) (rest := [(.ref b3)]) (lenOf pd_10 rfl) rfl (by show 2 * 0 + _ ≤ _; exact Nat.le_of_eq rfl) (hb hby d12_32) (fun _ _ => ⟨rfl, e49, (by decide : 1 + 0 ≤ _), (by decide : 8 + 0 ≤ _)⟩)
  dsimp only [Pt.U, Pt.locs, Pt.cells, Pt.slots] at X54 l54 y54 z54 st54 hQ54
  subst l54 y54 z54
  obtain ⟨rfl, Nq54, e54⟩ := hQ54
  have N54 := Fr.app N49 Nq54
  have f55 : Fld Z h49 c3 "com/example/hoofprint/hoofprint/model/KnightMove" "rows" "I" (.int (-1 : Int32)) := ((((P16.ext E3).other W20 (Or.inl ne3_c3)).other W34 (Or.inl ne3_c3)).other W49 (Or.inl ne3_c3))
  obtain ⟨T56, X56, e56, st56⟩ := getF X54 hx hZ hown (host := "") (Or.inl (hw _ (List.mem_of_getElem? (i := 59) rfl))) Via.refl e54 f55 (g := (mkF m 37 #[.val (.ref pr0), .val (.ref b3), .val (.ref nb), .val (.int (8 : Int32)), .val (.int (3 : Int32)), .val (.ref c3)] [(.ref c3), (.int (3 : Int32)), (.ref b3)])) rfl rfl (hb hby d12_37)
  have f57 : Fld Z h49 pr0 "com/example/hoofprint/hoofprint/model/Board" "columns" "I" (.int wc) := (f43.other W49 (Or.inl ne3_pr0))
  have f59 : Exa Z h49 pr0 "com/example/hoofprint/hoofprint/model/Board" := (f45.wr W49)
  obtain ⟨cq58, kq58, q58a, q58b, q58c⟩ := isOf hZ e56 f59
  obtain ⟨_, _, ⟨T58, L58, k58, n58⟩, -, X58, ⟨Lc58, hQ58, l58, y58, z58⟩, st58⟩ := X56.virtualBack hx (y := (⟨"com/example/hoofprint/hoofprint/model/Board", "columns", "()I"⟩ : MethodName)) (z := (⟨"com/example/hoofprint/hoofprint/model/Board", "columns", "()I"⟩ : MethodName)) hown (mvT hZ (hw _ (List.mem_of_getElem? (i := 61) rfl))) (mvT hZ (hw _ (List.mem_of_getElem? (i := 62) rfl))) (notFace_of_selects (args := #[]) (mvT hZ (hw _ (List.mem_of_getElem? (i := 64) rfl)))) (mvT hZ (hw _ (List.mem_of_getElem? (i := 64) rfl))) (mvT hZ (hw _ (List.mem_of_getElem? (i := 63) rfl))) (by decide) (backOf (W := 3) (own_columns l Z a0 hw [] pr0 wc h49 n0 Z49 f57) hZ (hw _ (List.mem_of_getElem? (i := 65) rfl)) (hw _ (List.mem_of_getElem? (i := 3) rfl)) (by decide) (by decide)) q58a q58c (g := (mkF m 41 #[.val (.ref pr0), .val (.ref b3), .val (.ref nb), .val (.int (8 : Int32)), .val (.int (3 : Int32)), .val (.ref c3)] [(.ref pr0), (.int (-1 : Int32)), (.int (3 : Int32)), (.ref b3)])) rfl (by rw [hml]; rfl) (Steps.refl _) (argsL := []) (rest := [(.int (-1 : Int32)), (.int (3 : Int32)), (.ref b3)]) (lenOf pd_10 rfl) rfl (by show 2 * 0 + _ ≤ _; exact Nat.le_of_eq rfl) (hb hby d12_41) (fun _ _ => ⟨rfl, e56, (by decide : 1 + 0 ≤ _), (by decide : 8 + 0 ≤ _)⟩)
  dsimp only [Pt.U, Pt.locs, Pt.cells, Pt.slots] at X58 l58 y58 z58 st58 hQ58
  subst l58 y58 z58
  obtain ⟨rfl, Nq58, e58⟩ := hQ58
  have N58 := Fr.app N54 Nq58
  have f60 : Fld Z h49 c3 "com/example/hoofprint/hoofprint/model/KnightMove" "columns" "I" (.int (2 : Int32)) := ((((P17.ext E3).other W20 (Or.inl ne3_c3)).other W34 (Or.inl ne3_c3)).other W49 (Or.inl ne3_c3))
  obtain ⟨T61, X61, e61, st61⟩ := getF X58 hx hZ hown (host := "") (Or.inl (hw _ (List.mem_of_getElem? (i := 66) rfl))) Via.refl e58 f60 (g := (mkF m 47 #[.val (.ref pr0), .val (.ref b3), .val (.ref nb), .val (.int (8 : Int32)), .val (.int (3 : Int32)), .val (.ref c3)] [(.ref c3), (.int ((-1 : Int32) * wc)), (.int (3 : Int32)), (.ref b3)])) rfl rfl (hb hby d12_47)
  obtain ⟨cl62, Ar62, q62, S62, N62, H62, G62⟩ := id V49
  have hin62 : ¬ ((3 : Int32) < 0 ∨ cl62.slots.size ≤ ((3 : Int32)).toNatClampNeg) := inb_of S62 ⟨by decide, by decide⟩
  obtain ⟨T63, h63, X63, e63, W63, st63⟩ := stI X61 hx hZ e61 Ar62 (j := (3 : Int32)) hin62 (g := (mkF m 51 #[.val (.ref pr0), .val (.ref b3), .val (.ref nb), .val (.int (8 : Int32)), .val (.int (3 : Int32)), .val (.ref c3)] [(.int (((-1 : Int32) * wc) + (2 : Int32))), (.int (3 : Int32)), (.ref b3)])) rfl rfl (hb hby d12_51)
  have K63 : Keep h0 h63 ([] : List Addr) := K49.wr W63 (Or.inr sz3)
  have N63 := Fr.snoc X63 N58 ge3
  have Z63 : n0 ≤ h63.size := Nat.le_trans Z49 (Keep.of_wr W63).1
  have V63 : Arv Z h63 b3 k3 .int (8 : Int32) [(.int (((-2 : Int32) * wc) + (-1 : Int32))), (.int (((-2 : Int32) * wc) + (1 : Int32))), (.int (((-1 : Int32) * wc) + (-2 : Int32))), (.int (((-1 : Int32) * wc) + (2 : Int32))), (.int (0 : Int32)), (.int (0 : Int32)), (.int (0 : Int32)), (.int (0 : Int32))] (.int (0 : Int32)) := Arv.set Ar62 q62 S62 N62 H62 G62 rfl W63 3 rfl (Nat.le_of_ble_eq_true rfl)
  have f64 : Arv Z h63 nb kn (.object "com/example/hoofprint/hoofprint/model/KnightMove") (8 : Int32) [(.ref c0), (.ref c1), (.ref c2), (.ref c3), (.ref c4), (.ref c5), (.ref c6), (.ref c7)] .null := (f50.other W63 ne3_nb)
  obtain ⟨cl65, Ar65, q65, S65, N65, H65, G65⟩ := id f64
  have hin65 : ¬ ((4 : Int32) < 0 ∨ cl65.slots.size ≤ ((4 : Int32)).toNatClampNeg) := inb_of S65 ⟨by decide, by decide⟩
  have hat65 : cl65.slots[((4 : Int32)).toNatClampNeg]? = some (.ref c4) := Has.at H65 hin65 rfl
  have f66 : Exa Z h63 c4 "com/example/hoofprint/hoofprint/model/KnightMove" := (((((P18.ext E3).wr W20).wr W34).wr W49).wr W63)
  have f67 : Fld Z h63 c4 "java/lang/Enum" "ordinal" "I" (.int (4 : Int32)) := (((((P19.ext E3).other W20 (Or.inl ne3_c4)).other W34 (Or.inl ne3_c4)).other W49 (Or.inl ne3_c4)).other W63 (Or.inl ne3_c4))
  obtain ⟨cq68, kq68, q68a, q68b, q68c⟩ := isOf hZ e63 f66
  obtain ⟨_, _, ⟨T68, L68, k68, n68⟩, -, X68, ⟨Lc68, hQ68, l68, y68, z68⟩, st68⟩ := X63.virtualBack hx (y := (⟨"com/example/hoofprint/hoofprint/model/KnightMove", "number", "()I"⟩ : MethodName)) (z := (⟨"com/example/hoofprint/hoofprint/model/KnightMove", "number", "()I"⟩ : MethodName)) hown (mvT hZ (hw _ (List.mem_of_getElem? (i := 45) rfl))) (mvT hZ (hw _ (List.mem_of_getElem? (i := 46) rfl))) (notFace_of_selects (args := #[]) (mvT hZ (hw _ (List.mem_of_getElem? (i := 48) rfl)))) (mvT hZ (hw _ (List.mem_of_getElem? (i := 48) rfl))) (mvT hZ (hw _ (List.mem_of_getElem? (i := 47) rfl))) (by decide) (backOf (W := 1) (own_number l Z a0 hw [] c4 (4 : Int32) h63 n0 Z63 f66 f67) hZ (hw _ (List.mem_of_getElem? (i := 49) rfl)) (hw _ (List.mem_of_getElem? (i := 39) rfl)) (by decide) (by decide)) q68a q68c (g := (mkF m 32 #[.val (.ref pr0), .val (.ref b3), .val (.ref nb), .val (.int (8 : Int32)), .val (.int (4 : Int32)), .val (.ref c4)] [(.ref c4), (.ref b3)])) rfl (by rw [hml]; rfl) (Steps.refl _) (argsL := []) (rest := [(.ref b3)]) (lenOf pd_10 rfl) rfl (by show 2 * 0 + _ ≤ _; exact Nat.le_of_eq rfl) (hb hby d12_32) (fun _ _ => ⟨rfl, e63, (by decide : 1 + 0 ≤ _), (by decide : 8 + 0 ≤ _)⟩)
  dsimp only [Pt.U, Pt.locs, Pt.cells, Pt.slots] at X68 l68 y68 z68 st68 hQ68
  subst l68 y68 z68
  obtain ⟨rfl, Nq68, e68⟩ := hQ68
  have N68 := Fr.app N63 Nq68
  have f69 : Fld Z h63 c4 "com/example/hoofprint/hoofprint/model/KnightMove" "rows" "I" (.int (1 : Int32)) := (((((P20.ext E3).other W20 (Or.inl ne3_c4)).other W34 (Or.inl ne3_c4)).other W49 (Or.inl ne3_c4)).other W63 (Or.inl ne3_c4))
  obtain ⟨T70, X70, e70, st70⟩ := getF X68 hx hZ hown (host := "") (Or.inl (hw _ (List.mem_of_getElem? (i := 59) rfl))) Via.refl e68 f69 (g := (mkF m 37 #[.val (.ref pr0), .val (.ref b3), .val (.ref nb), .val (.int (8 : Int32)), .val (.int (4 : Int32)), .val (.ref c4)] [(.ref c4), (.int (4 : Int32)), (.ref b3)])) rfl rfl (hb hby d12_37)
  have f71 : Fld Z h63 pr0 "com/example/hoofprint/hoofprint/model/Board" "columns" "I" (.int wc) := (f57.other W63 (Or.inl ne3_pr0))
  have f73 : Exa Z h63 pr0 "com/example/hoofprint/hoofprint/model/Board" := (f59.wr W63)
  obtain ⟨cq72, kq72, q72a, q72b, q72c⟩ := isOf hZ e70 f73
  obtain ⟨_, _, ⟨T72, L72, k72, n72⟩, -, X72, ⟨Lc72, hQ72, l72, y72, z72⟩, st72⟩ := X70.virtualBack hx (y := (⟨"com/example/hoofprint/hoofprint/model/Board", "columns", "()I"⟩ : MethodName)) (z := (⟨"com/example/hoofprint/hoofprint/model/Board", "columns", "()I"⟩ : MethodName)) hown (mvT hZ (hw _ (List.mem_of_getElem? (i := 61) rfl))) (mvT hZ (hw _ (List.mem_of_getElem? (i := 62) rfl))) (notFace_of_selects (args := #[]) (mvT hZ (hw _ (List.mem_of_getElem? (i := 64) rfl)))) (mvT hZ (hw _ (List.mem_of_getElem? (i := 64) rfl))) (mvT hZ (hw _ (List.mem_of_getElem? (i := 63) rfl))) (by decide) (backOf (W := 3) (own_columns l Z a0 hw [] pr0 wc h63 n0 Z63 f71) hZ (hw _ (List.mem_of_getElem? (i := 65) rfl)) (hw _ (List.mem_of_getElem? (i := 3) rfl)) (by decide) (by decide)) q72a q72c (g := (mkF m 41 #[.val (.ref pr0), .val (.ref b3), .val (.ref nb), .val (.int (8 : Int32)), .val (.int (4 : Int32)), .val (.ref c4)] [(.ref pr0), (.int (1 : Int32)), (.int (4 : Int32)), (.ref b3)])) rfl (by rw [hml]; rfl) (Steps.refl _) (argsL := []) (rest := [(.int (1 : Int32)), (.int (4 : Int32)), (.ref b3)]) (lenOf pd_10 rfl) rfl (by show 2 * 0 + _ ≤ _; exact Nat.le_of_eq rfl) (hb hby d12_41) (fun _ _ => ⟨rfl, e70, (by decide : 1 + 0 ≤ _), (by decide : 8 + 0 ≤ _)⟩)
  dsimp only [Pt.U, Pt.locs, Pt.cells, Pt.slots] at X72 l72 y72 z72 st72 hQ72
  subst l72 y72 z72
  obtain ⟨rfl, Nq72, e72⟩ := hQ72
  have N72 := Fr.app N68 Nq72
  have f74 : Fld Z h63 c4 "com/example/hoofprint/hoofprint/model/KnightMove" "columns" "I" (.int (-2 : Int32)) := (((((P21.ext E3).other W20 (Or.inl ne3_c4)).other W34 (Or.inl ne3_c4)).other W49 (Or.inl ne3_c4)).other W63 (Or.inl ne3_c4))
  obtain ⟨T75, X75, e75, st75⟩ := getF X72 hx hZ hown (host := "") (Or.inl (hw _ (List.mem_of_getElem? (i := 66) rfl))) Via.refl e72 f74 (g := (mkF m 47 #[.val (.ref pr0), .val (.ref b3), .val (.ref nb), .val (.int (8 : Int32)), .val (.int (4 : Int32)), .val (.ref c4)] [(.ref c4), (.int ((1 : Int32) * wc)), (.int (4 : Int32)), (.ref b3)])) rfl rfl (hb hby d12_47)
  obtain ⟨cl76, Ar76, q76, S76, N76, H76, G76⟩ := id V63
  have hin76 : ¬ ((4 : Int32) < 0 ∨ cl76.slots.size ≤ ((4 : Int32)).toNatClampNeg) := inb_of S76 ⟨by decide, by decide⟩
  obtain ⟨T77, h77, X77, e77, W77, st77⟩ := stI X75 hx hZ e75 Ar76 (j := (4 : Int32)) hin76 (g := (mkF m 51 #[.val (.ref pr0), .val (.ref b3), .val (.ref nb), .val (.int (8 : Int32)), .val (.int (4 : Int32)), .val (.ref c4)] [(.int (((1 : Int32) * wc) + (-2 : Int32))), (.int (4 : Int32)), (.ref b3)])) rfl rfl (hb hby d12_51)
  have K77 : Keep h0 h77 ([] : List Addr) := K63.wr W77 (Or.inr sz3)
  have N77 := Fr.snoc X77 N72 ge3
  have Z77 : n0 ≤ h77.size := Nat.le_trans Z63 (Keep.of_wr W77).1
  have V77 : Arv Z h77 b3 k3 .int (8 : Int32) [(.int (((-2 : Int32) * wc) + (-1 : Int32))), (.int (((-2 : Int32) * wc) + (1 : Int32))), (.int (((-1 : Int32) * wc) + (-2 : Int32))), (.int (((-1 : Int32) * wc) + (2 : Int32))), (.int (((1 : Int32) * wc) + (-2 : Int32))), (.int (0 : Int32)), (.int (0 : Int32)), (.int (0 : Int32))] (.int (0 : Int32)) := Arv.set Ar76 q76 S76 N76 H76 G76 rfl W77 4 rfl (Nat.le_of_ble_eq_true rfl)
  have go78 : ∀ t, Steps p.tables e below (T77.setTop (mkF m 26 #[.val (.ref pr0), .val (.ref b3), .val (.ref nb), .val (.int (8 : Int32)), .val (.int (5 : Int32)), .val (.ref c4)] [(.int (5 : Int32)), (.ref nb)])) t → Steps p.tables e below st0 t := by
    intro t kt
    refine go37 t ?_
    refine XS.aloadN X34.here hx rfl (hb hby d12_29) rfl rfl ?_
    show Steps p.tables e below (T34.setTop (mkF m 30 #[.val (.ref pr0), .val (.ref b3), .val (.ref nb), .val (.int (8 : Int32)), .val (.int (2 : Int32)), .val (.ref c2)] [(.ref b3)])) _
    refine XS.aload X34.here hx rfl (hb hby d12_30) rfl rfl ?_
    show Steps p.tables e below (T34.setTop (mkF m 32 #[.val (.ref pr0), .val (.ref b3), .val (.ref nb), .val (.int (8 : Int32)), .val (.int (2 : Int32)), .val (.ref c2)] [(.ref c2), (.ref b3)])) _
    refine st40.trans ?_
    show Steps p.tables e below (T40.setTop (mkF m 35 #[.val (.ref pr0), .val (.ref b3), .val (.ref nb), .val (.int (8 : Int32)), .val (.int (2 : Int32)), .val (.ref c2)] [(.int (2 : Int32)), (.ref b3)])) _
    refine XS.aload X40.here hx rfl (hb hby d12_35) rfl rfl ?_
    show Steps p.tables e below (T40.setTop (mkF m 37 #[.val (.ref pr0), .val (.ref b3), .val (.ref nb), .val (.int (8 : Int32)), .val (.int (2 : Int32)), .val (.ref c2)] [(.ref c2), (.int (2 : Int32)), (.ref b3)])) _
    refine st42 _ ?_
    show Steps p.tables e below (T42.setTop (mkF m 40 #[.val (.ref pr0), .val (.ref b3), .val (.ref nb), .val (.int (8 : Int32)), .val (.int (2 : Int32)), .val (.ref c2)] [(.int (-1 : Int32)), (.int (2 : Int32)), (.ref b3)])) _
    refine XS.aloadN X42.here hx rfl (hb hby d12_40) rfl rfl ?_
    show Steps p.tables e below (T42.setTop (mkF m 41 #[.val (.ref pr0), .val (.ref b3), .val (.ref nb), .val (.int (8 : Int32)), .val (.int (2 : Int32)), .val (.ref c2)] [(.ref pr0), (.int (-1 : Int32)), (.int (2 : Int32)), (.ref b3)])) _
    refine st44.trans ?_
    show Steps p.tables e below (T44.setTop (mkF m 44 #[.val (.ref pr0), .val (.ref b3), .val (.ref nb), .val (.int (8 : Int32)), .val (.int (2 : Int32)), .val (.ref c2)] [(.int wc), (.int (-1 : Int32)), (.int (2 : Int32)), (.ref b3)])) _
    refine XS.imul X44.here hx rfl (hb hby d12_44) rfl ?_
    show Steps p.tables e below (T44.setTop (mkF m 45 #[.val (.ref pr0), .val (.ref b3), .val (.ref nb), .val (.int (8 : Int32)), .val (.int (2 : Int32)), .val (.ref c2)] [(.int ((-1 : Int32) * wc)), (.int (2 : Int32)), (.ref b3)])) _
    refine XS.aload X44.here hx rfl (hb hby d12_45) rfl rfl ?_
    show Steps p.tables e below (T44.setTop (mkF m 47 #[.val (.ref pr0), .val (.ref b3), .val (.ref nb), .val (.int (8 : Int32)), .val (.int (2 : Int32)), .val (.ref c2)] [(.ref c2), (.int ((-1 : Int32) * wc)), (.int (2 : Int32)), (.ref b3)])) _
    refine st47 _ ?_
    show Steps p.tables e below (T47.setTop (mkF m 50 #[.val (.ref pr0), .val (.ref b3), .val (.ref nb), .val (.int (8 : Int32)), .val (.int (2 : Int32)), .val (.ref c2)] [(.int (-2 : Int32)), (.int ((-1 : Int32) * wc)), (.int (2 : Int32)), (.ref b3)])) _
    refine XS.iadd X47.here hx rfl (hb hby d12_50) rfl ?_
    show Steps p.tables e below (T47.setTop (mkF m 51 #[.val (.ref pr0), .val (.ref b3), .val (.ref nb), .val (.int (8 : Int32)), .val (.int (2 : Int32)), .val (.ref c2)] [(.int (((-1 : Int32) * wc) + (-2 : Int32))), (.int (2 : Int32)), (.ref b3)])) _
    refine st49 _ ?_
    show Steps p.tables e below (T49.setTop (mkF m 52 #[.val (.ref pr0), .val (.ref b3), .val (.ref nb), .val (.int (8 : Int32)), .val (.int (2 : Int32)), .val (.ref c2)] [])) _
    refine XS.iinc X49.here hx rfl (hb hby d12_52) rfl (l' := #[.val (.ref pr0), .val (.ref b3), .val (.ref nb), .val (.int (8 : Int32)), .val (.int (3 : Int32)), .val (.ref c2)]) rfl ?_
    show Steps p.tables e below (T49.setTop (mkF m 55 #[.val (.ref pr0), .val (.ref b3), .val (.ref nb), .val (.int (8 : Int32)), .val (.int (3 : Int32)), .val (.ref c2)] [])) _
    refine XS.goto X49.here hx rfl (pc0 := 55) (pc' := 17) rfl (hb hby d12_55) (by decide) (by decide) ?_
    show Steps p.tables e below (T49.setTop (mkF m 17 #[.val (.ref pr0), .val (.ref b3), .val (.ref nb), .val (.int (8 : Int32)), .val (.int (3 : Int32)), .val (.ref c2)] [])) _
    refine XS.iload X49.here hx rfl (hb hby d12_17) rfl ?_
    show Steps p.tables e below (T49.setTop (mkF m 19 #[.val (.ref pr0), .val (.ref b3), .val (.ref nb), .val (.int (8 : Int32)), .val (.int (3 : Int32)), .val (.ref c2)] [(.int (3 : Int32))])) _
    refine XS.iloadN X49.here hx rfl (hb hby d12_19) rfl ?_
    show Steps p.tables e below (T49.setTop (mkF m 20 #[.val (.ref pr0), .val (.ref b3), .val (.ref nb), .val (.int (8 : Int32)), .val (.int (3 : Int32)), .val (.ref c2)] [(.int (8 : Int32)), (.int (3 : Int32))])) _
    refine XS.icmpNo X49.here hx rfl (hb hby d12_20) rfl (tlt (by decide : (3 : Int32) < (8 : Int32))).2.1 ?_
    show Steps p.tables e below (T49.setTop (mkF m 23 #[.val (.ref pr0), .val (.ref b3), .val (.ref nb), .val (.int (8 : Int32)), .val (.int (3 : Int32)), .val (.ref c2)] [])) _
    refine XS.aloadN X49.here hx rfl (hb hby d12_23) rfl rfl ?_
    show Steps p.tables e below (T49.setTop (mkF m 24 #[.val (.ref pr0), .val (.ref b3), .val (.ref nb), .val (.int (8 : Int32)), .val (.int (3 : Int32)), .val (.ref c2)] [(.ref nb)])) _
    refine XS.iload X49.here hx rfl (hb hby d12_24) rfl ?_
    show Steps p.tables e below (T49.setTop (mkF m 26 #[.val (.ref pr0), .val (.ref b3), .val (.ref nb), .val (.int (8 : Int32)), .val (.int (3 : Int32)), .val (.ref c2)] [(.int (3 : Int32)), (.ref nb)])) _
    refine X49.aaload hx (j := (3 : Int32)) (v := (.ref c3)) (by rw [e49]; exact Ar51.1) (State.isArrayOf_alike hZ.alike Ar51.2.1) rfl Ar51.2.2 hin51 hat51 (g := (mkF m 26 #[.val (.ref pr0), .val (.ref b3), .val (.ref nb), .val (.int (8 : Int32)), .val (.int (3 : Int32)), .val (.ref c2)] [(.int (3 : Int32)), (.ref nb)])) rfl rfl (hb hby d12_26) _ ?_
    show Steps p.tables e below (T49.setTop (mkF m 27 #[.val (.ref pr0), .val (.ref b3), .val (.ref nb), .val (.int (8 : Int32)), .val (.int (3 : Int32)), .val (.ref c2)] [(.ref c3)])) _
    refine XS.astore X49.here hx rfl (hb hby d12_27) rfl rfl (l' := #[.val (.ref pr0), .val (.ref b3), .val (.ref nb), .val (.int (8 : Int32)), .val (.int (3 : Int32)), .val (.ref c3)]) rfl ?_
    show Steps p.tables e below (T49.setTop (mkF m 29 #[.val (.ref pr0), .val (.ref b3), .val (.ref nb), .val (.int (8 : Int32)), .val (.int (3 : Int32)), .val (.ref c3)] [])) _
    refine XS.aloadN X49.here hx rfl (hb hby d12_29) rfl rfl ?_
    show Steps p.tables e below (T49.setTop (mkF m 30 #[.val (.ref pr0), .val (.ref b3), .val (.ref nb), .val (.int (8 : Int32)), .val (.int (3 : Int32)), .val (.ref c3)] [(.ref b3)])) _
    refine XS.aload X49.here hx rfl (hb hby d12_30) rfl rfl ?_
    show Steps p.tables e below (T49.setTop (mkF m 32 #[.val (.ref pr0), .val (.ref b3), .val (.ref nb), .val (.int (8 : Int32)), .val (.int (3 : Int32)), .val (.ref c3)] [(.ref c3), (.ref b3)])) _
    refine st54.trans ?_
    show Steps p.tables e below (T54.setTop (mkF m 35 #[.val (.ref pr0), .val (.ref b3), .val (.ref nb), .val (.int (8 : Int32)), .val (.int (3 : Int32)), .val (.ref c3)] [(.int (3 : Int32)), (.ref b3)])) _
    refine XS.aload X54.here hx rfl (hb hby d12_35) rfl rfl ?_
    show Steps p.tables e below (T54.setTop (mkF m 37 #[.val (.ref pr0), .val (.ref b3), .val (.ref nb), .val (.int (8 : Int32)), .val (.int (3 : Int32)), .val (.ref c3)] [(.ref c3), (.int (3 : Int32)), (.ref b3)])) _
    refine st56 _ ?_
    show Steps p.tables e below (T56.setTop (mkF m 40 #[.val (.ref pr0), .val (.ref b3), .val (.ref nb), .val (.int (8 : Int32)), .val (.int (3 : Int32)), .val (.ref c3)] [(.int (-1 : Int32)), (.int (3 : Int32)), (.ref b3)])) _
    refine XS.aloadN X56.here hx rfl (hb hby d12_40) rfl rfl ?_
    show Steps p.tables e below (T56.setTop (mkF m 41 #[.val (.ref pr0), .val (.ref b3), .val (.ref nb), .val (.int (8 : Int32)), .val (.int (3 : Int32)), .val (.ref c3)] [(.ref pr0), (.int (-1 : Int32)), (.int (3 : Int32)), (.ref b3)])) _
    refine st58.trans ?_
    show Steps p.tables e below (T58.setTop (mkF m 44 #[.val (.ref pr0), .val (.ref b3), .val (.ref nb), .val (.int (8 : Int32)), .val (.int (3 : Int32)), .val (.ref c3)] [(.int wc), (.int (-1 : Int32)), (.int (3 : Int32)), (.ref b3)])) _
    refine XS.imul X58.here hx rfl (hb hby d12_44) rfl ?_
    show Steps p.tables e below (T58.setTop (mkF m 45 #[.val (.ref pr0), .val (.ref b3), .val (.ref nb), .val (.int (8 : Int32)), .val (.int (3 : Int32)), .val (.ref c3)] [(.int ((-1 : Int32) * wc)), (.int (3 : Int32)), (.ref b3)])) _
    refine XS.aload X58.here hx rfl (hb hby d12_45) rfl rfl ?_
    show Steps p.tables e below (T58.setTop (mkF m 47 #[.val (.ref pr0), .val (.ref b3), .val (.ref nb), .val (.int (8 : Int32)), .val (.int (3 : Int32)), .val (.ref c3)] [(.ref c3), (.int ((-1 : Int32) * wc)), (.int (3 : Int32)), (.ref b3)])) _
    refine st61 _ ?_
    show Steps p.tables e below (T61.setTop (mkF m 50 #[.val (.ref pr0), .val (.ref b3), .val (.ref nb), .val (.int (8 : Int32)), .val (.int (3 : Int32)), .val (.ref c3)] [(.int (2 : Int32)), (.int ((-1 : Int32) * wc)), (.int (3 : Int32)), (.ref b3)])) _
    refine XS.iadd X61.here hx rfl (hb hby d12_50) rfl ?_
    show Steps p.tables e below (T61.setTop (mkF m 51 #[.val (.ref pr0), .val (.ref b3), .val (.ref nb), .val (.int (8 : Int32)), .val (.int (3 : Int32)), .val (.ref c3)] [(.int (((-1 : Int32) * wc) + (2 : Int32))), (.int (3 : Int32)), (.ref b3)])) _
    refine st63 _ ?_
    show Steps p.tables e below (T63.setTop (mkF m 52 #[.val (.ref pr0), .val (.ref b3), .val (.ref nb), .val (.int (8 : Int32)), .val (.int (3 : Int32)), .val (.ref c3)] [])) _
    refine XS.iinc X63.here hx rfl (hb hby d12_52) rfl (l' := #[.val (.ref pr0), .val (.ref b3), .val (.ref nb), .val (.int (8 : Int32)), .val (.int (4 : Int32)), .val (.ref c3)]) rfl ?_
    show Steps p.tables e below (T63.setTop (mkF m 55 #[.val (.ref pr0), .val (.ref b3), .val (.ref nb), .val (.int (8 : Int32)), .val (.int (4 : Int32)), .val (.ref c3)] [])) _
    refine XS.goto X63.here hx rfl (pc0 := 55) (pc' := 17) rfl (hb hby d12_55) (by decide) (by decide) ?_
    show Steps p.tables e below (T63.setTop (mkF m 17 #[.val (.ref pr0), .val (.ref b3), .val (.ref nb), .val (.int (8 : Int32)), .val (.int (4 : Int32)), .val (.ref c3)] [])) _
    refine XS.iload X63.here hx rfl (hb hby d12_17) rfl ?_
    show Steps p.tables e below (T63.setTop (mkF m 19 #[.val (.ref pr0), .val (.ref b3), .val (.ref nb), .val (.int (8 : Int32)), .val (.int (4 : Int32)), .val (.ref c3)] [(.int (4 : Int32))])) _
    refine XS.iloadN X63.here hx rfl (hb hby d12_19) rfl ?_
    show Steps p.tables e below (T63.setTop (mkF m 20 #[.val (.ref pr0), .val (.ref b3), .val (.ref nb), .val (.int (8 : Int32)), .val (.int (4 : Int32)), .val (.ref c3)] [(.int (8 : Int32)), (.int (4 : Int32))])) _
    refine XS.icmpNo X63.here hx rfl (hb hby d12_20) rfl (tlt (by decide : (4 : Int32) < (8 : Int32))).2.1 ?_
    show Steps p.tables e below (T63.setTop (mkF m 23 #[.val (.ref pr0), .val (.ref b3), .val (.ref nb), .val (.int (8 : Int32)), .val (.int (4 : Int32)), .val (.ref c3)] [])) _
    refine XS.aloadN X63.here hx rfl (hb hby d12_23) rfl rfl ?_
    show Steps p.tables e below (T63.setTop (mkF m 24 #[.val (.ref pr0), .val (.ref b3), .val (.ref nb), .val (.int (8 : Int32)), .val (.int (4 : Int32)), .val (.ref c3)] [(.ref nb)])) _
    refine XS.iload X63.here hx rfl (hb hby d12_24) rfl ?_
    show Steps p.tables e below (T63.setTop (mkF m 26 #[.val (.ref pr0), .val (.ref b3), .val (.ref nb), .val (.int (8 : Int32)), .val (.int (4 : Int32)), .val (.ref c3)] [(.int (4 : Int32)), (.ref nb)])) _
    refine X63.aaload hx (j := (4 : Int32)) (v := (.ref c4)) (by rw [e63]; exact Ar65.1) (State.isArrayOf_alike hZ.alike Ar65.2.1) rfl Ar65.2.2 hin65 hat65 (g := (mkF m 26 #[.val (.ref pr0), .val (.ref b3), .val (.ref nb), .val (.int (8 : Int32)), .val (.int (4 : Int32)), .val (.ref c3)] [(.int (4 : Int32)), (.ref nb)])) rfl rfl (hb hby d12_26) _ ?_
    show Steps p.tables e below (T63.setTop (mkF m 27 #[.val (.ref pr0), .val (.ref b3), .val (.ref nb), .val (.int (8 : Int32)), .val (.int (4 : Int32)), .val (.ref c3)] [(.ref c4)])) _
    refine XS.astore X63.here hx rfl (hb hby d12_27) rfl rfl (l' := #[.val (.ref pr0), .val (.ref b3), .val (.ref nb), .val (.int (8 : Int32)), .val (.int (4 : Int32)), .val (.ref c4)]) rfl ?_
    show Steps p.tables e below (T63.setTop (mkF m 29 #[.val (.ref pr0), .val (.ref b3), .val (.ref nb), .val (.int (8 : Int32)), .val (.int (4 : Int32)), .val (.ref c4)] [])) _
    refine XS.aloadN X63.here hx rfl (hb hby d12_29) rfl rfl ?_
    show Steps p.tables e below (T63.setTop (mkF m 30 #[.val (.ref pr0), .val (.ref b3), .val (.ref nb), .val (.int (8 : Int32)), .val (.int (4 : Int32)), .val (.ref c4)] [(.ref b3)])) _
    refine XS.aload X63.here hx rfl (hb hby d12_30) rfl rfl ?_
    show Steps p.tables e below (T63.setTop (mkF m 32 #[.val (.ref pr0), .val (.ref b3), .val (.ref nb), .val (.int (8 : Int32)), .val (.int (4 : Int32)), .val (.ref c4)] [(.ref c4), (.ref b3)])) _
    refine st68.trans ?_
    show Steps p.tables e below (T68.setTop (mkF m 35 #[.val (.ref pr0), .val (.ref b3), .val (.ref nb), .val (.int (8 : Int32)), .val (.int (4 : Int32)), .val (.ref c4)] [(.int (4 : Int32)), (.ref b3)])) _
    refine XS.aload X68.here hx rfl (hb hby d12_35) rfl rfl ?_
    show Steps p.tables e below (T68.setTop (mkF m 37 #[.val (.ref pr0), .val (.ref b3), .val (.ref nb), .val (.int (8 : Int32)), .val (.int (4 : Int32)), .val (.ref c4)] [(.ref c4), (.int (4 : Int32)), (.ref b3)])) _
    refine st70 _ ?_
    show Steps p.tables e below (T70.setTop (mkF m 40 #[.val (.ref pr0), .val (.ref b3), .val (.ref nb), .val (.int (8 : Int32)), .val (.int (4 : Int32)), .val (.ref c4)] [(.int (1 : Int32)), (.int (4 : Int32)), (.ref b3)])) _
    refine XS.aloadN X70.here hx rfl (hb hby d12_40) rfl rfl ?_
    show Steps p.tables e below (T70.setTop (mkF m 41 #[.val (.ref pr0), .val (.ref b3), .val (.ref nb), .val (.int (8 : Int32)), .val (.int (4 : Int32)), .val (.ref c4)] [(.ref pr0), (.int (1 : Int32)), (.int (4 : Int32)), (.ref b3)])) _
    refine st72.trans ?_
    show Steps p.tables e below (T72.setTop (mkF m 44 #[.val (.ref pr0), .val (.ref b3), .val (.ref nb), .val (.int (8 : Int32)), .val (.int (4 : Int32)), .val (.ref c4)] [(.int wc), (.int (1 : Int32)), (.int (4 : Int32)), (.ref b3)])) _
    refine XS.imul X72.here hx rfl (hb hby d12_44) rfl ?_
    show Steps p.tables e below (T72.setTop (mkF m 45 #[.val (.ref pr0), .val (.ref b3), .val (.ref nb), .val (.int (8 : Int32)), .val (.int (4 : Int32)), .val (.ref c4)] [(.int ((1 : Int32) * wc)), (.int (4 : Int32)), (.ref b3)])) _
    refine XS.aload X72.here hx rfl (hb hby d12_45) rfl rfl ?_
    show Steps p.tables e below (T72.setTop (mkF m 47 #[.val (.ref pr0), .val (.ref b3), .val (.ref nb), .val (.int (8 : Int32)), .val (.int (4 : Int32)), .val (.ref c4)] [(.ref c4), (.int ((1 : Int32) * wc)), (.int (4 : Int32)), (.ref b3)])) _
    refine st75 _ ?_
    show Steps p.tables e below (T75.setTop (mkF m 50 #[.val (.ref pr0), .val (.ref b3), .val (.ref nb), .val (.int (8 : Int32)), .val (.int (4 : Int32)), .val (.ref c4)] [(.int (-2 : Int32)), (.int ((1 : Int32) * wc)), (.int (4 : Int32)), (.ref b3)])) _
    refine XS.iadd X75.here hx rfl (hb hby d12_50) rfl ?_
    show Steps p.tables e below (T75.setTop (mkF m 51 #[.val (.ref pr0), .val (.ref b3), .val (.ref nb), .val (.int (8 : Int32)), .val (.int (4 : Int32)), .val (.ref c4)] [(.int (((1 : Int32) * wc) + (-2 : Int32))), (.int (4 : Int32)), (.ref b3)])) _
    refine st77 _ ?_
    show Steps p.tables e below (T77.setTop (mkF m 52 #[.val (.ref pr0), .val (.ref b3), .val (.ref nb), .val (.int (8 : Int32)), .val (.int (4 : Int32)), .val (.ref c4)] [])) _
    refine XS.iinc X77.here hx rfl (hb hby d12_52) rfl (l' := #[.val (.ref pr0), .val (.ref b3), .val (.ref nb), .val (.int (8 : Int32)), .val (.int (5 : Int32)), .val (.ref c4)]) rfl ?_
    show Steps p.tables e below (T77.setTop (mkF m 55 #[.val (.ref pr0), .val (.ref b3), .val (.ref nb), .val (.int (8 : Int32)), .val (.int (5 : Int32)), .val (.ref c4)] [])) _
    refine XS.goto X77.here hx rfl (pc0 := 55) (pc' := 17) rfl (hb hby d12_55) (by decide) (by decide) ?_
    show Steps p.tables e below (T77.setTop (mkF m 17 #[.val (.ref pr0), .val (.ref b3), .val (.ref nb), .val (.int (8 : Int32)), .val (.int (5 : Int32)), .val (.ref c4)] [])) _
    refine XS.iload X77.here hx rfl (hb hby d12_17) rfl ?_
    show Steps p.tables e below (T77.setTop (mkF m 19 #[.val (.ref pr0), .val (.ref b3), .val (.ref nb), .val (.int (8 : Int32)), .val (.int (5 : Int32)), .val (.ref c4)] [(.int (5 : Int32))])) _
    refine XS.iloadN X77.here hx rfl (hb hby d12_19) rfl ?_
    show Steps p.tables e below (T77.setTop (mkF m 20 #[.val (.ref pr0), .val (.ref b3), .val (.ref nb), .val (.int (8 : Int32)), .val (.int (5 : Int32)), .val (.ref c4)] [(.int (8 : Int32)), (.int (5 : Int32))])) _
    refine XS.icmpNo X77.here hx rfl (hb hby d12_20) rfl (tlt (by decide : (5 : Int32) < (8 : Int32))).2.1 ?_
    show Steps p.tables e below (T77.setTop (mkF m 23 #[.val (.ref pr0), .val (.ref b3), .val (.ref nb), .val (.int (8 : Int32)), .val (.int (5 : Int32)), .val (.ref c4)] [])) _
    refine XS.aloadN X77.here hx rfl (hb hby d12_23) rfl rfl ?_
    show Steps p.tables e below (T77.setTop (mkF m 24 #[.val (.ref pr0), .val (.ref b3), .val (.ref nb), .val (.int (8 : Int32)), .val (.int (5 : Int32)), .val (.ref c4)] [(.ref nb)])) _
    refine XS.iload X77.here hx rfl (hb hby d12_24) rfl ?_
    show Steps p.tables e below (T77.setTop (mkF m 26 #[.val (.ref pr0), .val (.ref b3), .val (.ref nb), .val (.int (8 : Int32)), .val (.int (5 : Int32)), .val (.ref c4)] [(.int (5 : Int32)), (.ref nb)])) _
    exact kt
  have f79 : Arv Z h77 nb kn (.object "com/example/hoofprint/hoofprint/model/KnightMove") (8 : Int32) [(.ref c0), (.ref c1), (.ref c2), (.ref c3), (.ref c4), (.ref c5), (.ref c6), (.ref c7)] .null := (f64.other W77 ne3_nb)
  obtain ⟨cl80, Ar80, q80, S80, N80, H80, G80⟩ := id f79
  have hin80 : ¬ ((5 : Int32) < 0 ∨ cl80.slots.size ≤ ((5 : Int32)).toNatClampNeg) := inb_of S80 ⟨by decide, by decide⟩
  have hat80 : cl80.slots[((5 : Int32)).toNatClampNeg]? = some (.ref c5) := Has.at H80 hin80 rfl
  have f81 : Exa Z h77 c5 "com/example/hoofprint/hoofprint/model/KnightMove" := ((((((P22.ext E3).wr W20).wr W34).wr W49).wr W63).wr W77)
  have f82 : Fld Z h77 c5 "java/lang/Enum" "ordinal" "I" (.int (5 : Int32)) := ((((((P23.ext E3).other W20 (Or.inl ne3_c5)).other W34 (Or.inl ne3_c5)).other W49 (Or.inl ne3_c5)).other W63 (Or.inl ne3_c5)).other W77 (Or.inl ne3_c5))
  obtain ⟨cq83, kq83, q83a, q83b, q83c⟩ := isOf hZ e77 f81
  obtain ⟨_, _, ⟨T83, L83, k83, n83⟩, -, X83, ⟨Lc83, hQ83, l83, y83, z83⟩, st83⟩ := X77.virtualBack hx (y := (⟨"com/example/hoofprint/hoofprint/model/KnightMove", "number", "()I"⟩ : MethodName)) (z := (⟨"com/example/hoofprint/hoofprint/model/KnightMove", "number", "()I"⟩ : MethodName)) hown (mvT hZ (hw _ (List.mem_of_getElem? (i := 45) rfl))) (mvT hZ (hw _ (List.mem_of_getElem? (i := 46) rfl))) (notFace_of_selects (args := #[]) (mvT hZ (hw _ (List.mem_of_getElem? (i := 48) rfl)))) (mvT hZ (hw _ (List.mem_of_getElem? (i := 48) rfl))) (mvT hZ (hw _ (List.mem_of_getElem? (i := 47) rfl))) (by decide) (backOf (W := 1) (own_number l Z a0 hw [] c5 (5 : Int32) h77 n0 Z77 f81 f82) hZ (hw _ (List.mem_of_getElem? (i := 49) rfl)) (hw _ (List.mem_of_getElem? (i := 39) rfl)) (by decide) (by decide)) q83a q83c (g := (mkF m 32 #[.val (.ref pr0), .val (.ref b3), .val (.ref nb), .val (.int (8 : Int32)), .val (.int (5 : Int32)), .val (.ref c5)] [(.ref c5), (.ref b3)])) rfl (by rw [hml]; rfl) (Steps.refl _) (argsL := []) (rest := [(.ref b3)]) (lenOf pd_10 rfl) rfl (by show 2 * 0 + _ ≤ _; exact Nat.le_of_eq rfl) (hb hby d12_32) (fun _ _ => ⟨rfl, e77, (by decide : 1 + 0 ≤ _), (by decide : 8 + 0 ≤ _)⟩)
  dsimp only [Pt.U, Pt.locs, Pt.cells, Pt.slots] at X83 l83 y83 z83 st83 hQ83
  subst l83 y83 z83
  obtain ⟨rfl, Nq83, e83⟩ := hQ83
  have N83 := Fr.app N77 Nq83
  have f84 : Fld Z h77 c5 "com/example/hoofprint/hoofprint/model/KnightMove" "rows" "I" (.int (1 : Int32)) := ((((((P24.ext E3).other W20 (Or.inl ne3_c5)).other W34 (Or.inl ne3_c5)).other W49 (Or.inl ne3_c5)).other W63 (Or.inl ne3_c5)).other W77 (Or.inl ne3_c5))
  obtain ⟨T85, X85, e85, st85⟩ := getF X83 hx hZ hown (host := "") (Or.inl (hw _ (List.mem_of_getElem? (i := 59) rfl))) Via.refl e83 f84 (g := (mkF m 37 #[.val (.ref pr0), .val (.ref b3), .val (.ref nb), .val (.int (8 : Int32)), .val (.int (5 : Int32)), .val (.ref c5)] [(.ref c5), (.int (5 : Int32)), (.ref b3)])) rfl rfl (hb hby d12_37)
  have f86 : Fld Z h77 pr0 "com/example/hoofprint/hoofprint/model/Board" "columns" "I" (.int wc) := (f71.other W77 (Or.inl ne3_pr0))
  have f88 : Exa Z h77 pr0 "com/example/hoofprint/hoofprint/model/Board" := (f73.wr W77)
  obtain ⟨cq87, kq87, q87a, q87b, q87c⟩ := isOf hZ e85 f88
  obtain ⟨_, _, ⟨T87, L87, k87, n87⟩, -, X87, ⟨Lc87, hQ87, l87, y87, z87⟩, st87⟩ := X85.virtualBack hx (y := (⟨"com/example/hoofprint/hoofprint/model/Board", "columns", "()I"⟩ : MethodName)) (z := (⟨"com/example/hoofprint/hoofprint/model/Board", "columns", "()I"⟩ : MethodName)) hown (mvT hZ (hw _ (List.mem_of_getElem? (i := 61) rfl))) (mvT hZ (hw _ (List.mem_of_getElem? (i := 62) rfl))) (notFace_of_selects (args := #[]) (mvT hZ (hw _ (List.mem_of_getElem? (i := 64) rfl)))) (mvT hZ (hw _ (List.mem_of_getElem? (i := 64) rfl))) (mvT hZ (hw _ (List.mem_of_getElem? (i := 63) rfl))) (by decide) (backOf (W := 3) (own_columns l Z a0 hw [] pr0 wc h77 n0 Z77 f86) hZ (hw _ (List.mem_of_getElem? (i := 65) rfl)) (hw _ (List.mem_of_getElem? (i := 3) rfl)) (by decide) (by decide)) q87a q87c (g := (mkF m 41 #[.val (.ref pr0), .val (.ref b3), .val (.ref nb), .val (.int (8 : Int32)), .val (.int (5 : Int32)), .val (.ref c5)] [(.ref pr0), (.int (1 : Int32)), (.int (5 : Int32)), (.ref b3)])) rfl (by rw [hml]; rfl) (Steps.refl _) (argsL := []) (rest := [(.int (1 : Int32)), (.int (5 : Int32)), (.ref b3)]) (lenOf pd_10 rfl) rfl (by show 2 * 0 + _ ≤ _; exact Nat.le_of_eq rfl) (hb hby d12_41) (fun _ _ => ⟨rfl, e85, (by decide : 1 + 0 ≤ _), (by decide : 8 + 0 ≤ _)⟩)
  dsimp only [Pt.U, Pt.locs, Pt.cells, Pt.slots] at X87 l87 y87 z87 st87 hQ87
  subst l87 y87 z87
  obtain ⟨rfl, Nq87, e87⟩ := hQ87
  have N87 := Fr.app N83 Nq87
  have f89 : Fld Z h77 c5 "com/example/hoofprint/hoofprint/model/KnightMove" "columns" "I" (.int (2 : Int32)) := ((((((P25.ext E3).other W20 (Or.inl ne3_c5)).other W34 (Or.inl ne3_c5)).other W49 (Or.inl ne3_c5)).other W63 (Or.inl ne3_c5)).other W77 (Or.inl ne3_c5))
  obtain ⟨T90, X90, e90, st90⟩ := getF X87 hx hZ hown (host := "") (Or.inl (hw _ (List.mem_of_getElem? (i := 66) rfl))) Via.refl e87 f89 (g := (mkF m 47 #[.val (.ref pr0), .val (.ref b3), .val (.ref nb), .val (.int (8 : Int32)), .val (.int (5 : Int32)), .val (.ref c5)] [(.ref c5), (.int ((1 : Int32) * wc)), (.int (5 : Int32)), (.ref b3)])) rfl rfl (hb hby d12_47)
  obtain ⟨cl91, Ar91, q91, S91, N91, H91, G91⟩ := id V77
  have hin91 : ¬ ((5 : Int32) < 0 ∨ cl91.slots.size ≤ ((5 : Int32)).toNatClampNeg) := inb_of S91 ⟨by decide, by decide⟩
  obtain ⟨T92, h92, X92, e92, W92, st92⟩ := stI X90 hx hZ e90 Ar91 (j := (5 : Int32)) hin91 (g := (mkF m 51 #[.val (.ref pr0), .val (.ref b3), .val (.ref nb), .val (.int (8 : Int32)), .val (.int (5 : Int32)), .val (.ref c5)] [(.int (((1 : Int32) * wc) + (2 : Int32))), (.int (5 : Int32)), (.ref b3)])) rfl rfl (hb hby d12_51)
  have K92 : Keep h0 h92 ([] : List Addr) := K77.wr W92 (Or.inr sz3)
  have N92 := Fr.snoc X92 N87 ge3
  have Z92 : n0 ≤ h92.size := Nat.le_trans Z77 (Keep.of_wr W92).1
  have V92 : Arv Z h92 b3 k3 .int (8 : Int32) [(.int (((-2 : Int32) * wc) + (-1 : Int32))), (.int (((-2 : Int32) * wc) + (1 : Int32))), (.int (((-1 : Int32) * wc) + (-2 : Int32))), (.int (((-1 : Int32) * wc) + (2 : Int32))), (.int (((1 : Int32) * wc) + (-2 : Int32))), (.int (((1 : Int32) * wc) + (2 : Int32))), (.int (0 : Int32)), (.int (0 : Int32))] (.int (0 : Int32)) := Arv.set Ar91 q91 S91 N91 H91 G91 rfl W92 5 rfl (Nat.le_of_ble_eq_true rfl)
  have f93 : Arv Z h92 nb kn (.object "com/example/hoofprint/hoofprint/model/KnightMove") (8 : Int32) [(.ref c0), (.ref c1), (.ref c2), (.ref c3), (.ref c4), (.ref c5), (.ref c6), (.ref c7)] .null := (f79.other W92 ne3_nb)
  obtain ⟨cl94, Ar94, q94, S94, N94, H94, G94⟩ := id f93
  have hin94 : ¬ ((6 : Int32) < 0 ∨ cl94.slots.size ≤ ((6 : Int32)).toNatClampNeg) := inb_of S94 ⟨by decide, by decide⟩
  have hat94 : cl94.slots[((6 : Int32)).toNatClampNeg]? = some (.ref c6) := Has.at H94 hin94 rfl
  have f95 : Exa Z h92 c6 "com/example/hoofprint/hoofprint/model/KnightMove" := (((((((P26.ext E3).wr W20).wr W34).wr W49).wr W63).wr W77).wr W92)
  have f96 : Fld Z h92 c6 "java/lang/Enum" "ordinal" "I" (.int (6 : Int32)) := (((((((P27.ext E3).other W20 (Or.inl ne3_c6)).other W34 (Or.inl ne3_c6)).other W49 (Or.inl ne3_c6)).other W63 (Or.inl ne3_c6)).other W77 (Or.inl ne3_c6)).other W92 (Or.inl ne3_c6))
  obtain ⟨cq97, kq97, q97a, q97b, q97c⟩ := isOf hZ e92 f95
  obtain ⟨_, _, ⟨T97, L97, k97, n97⟩, -, X97, ⟨Lc97, hQ97, l97, y97, z97⟩, st97⟩ := X92.virtualBack hx (y := (⟨"com/example/hoofprint/hoofprint/model/KnightMove", "number", "()I"⟩ : MethodName)) (z := (⟨"com/example/hoofprint/hoofprint/model/KnightMove", "number", "()I"⟩ : MethodName)) hown (mvT hZ (hw _ (List.mem_of_getElem? (i := 45) rfl))) (mvT hZ (hw _ (List.mem_of_getElem? (i := 46) rfl))) (notFace_of_selects (args := #[]) (mvT hZ (hw _ (List.mem_of_getElem? (i := 48) rfl)))) (mvT hZ (hw _ (List.mem_of_getElem? (i := 48) rfl))) (mvT hZ (hw _ (List.mem_of_getElem? (i := 47) rfl))) (by decide) (backOf (W := 1) (own_number l Z a0 hw [] c6 (6 : Int32) h92 n0 Z92 f95 f96) hZ (hw _ (List.mem_of_getElem? (i := 49) rfl)) (hw _ (List.mem_of_getElem? (i := 39) rfl)) (by decide) (by decide)) q97a q97c (g := (mkF m 32 #[.val (.ref pr0), .val (.ref b3), .val (.ref nb), .val (.int (8 : Int32)), .val (.int (6 : Int32)), .val (.ref c6)] [(.ref c6), (.ref b3)])) rfl (by rw [hml]; rfl) (Steps.refl _) (argsL := []) (rest := [(.ref b3)]) (lenOf pd_10 rfl) rfl (by show 2 * 0 + _ ≤ _; exact Nat.le_of_eq rfl) (hb hby d12_32) (fun _ _ => ⟨rfl, e92, (by decide : 1 + 0 ≤ _), (by decide : 8 + 0 ≤ _)⟩)
  dsimp only [Pt.U, Pt.locs, Pt.cells, Pt.slots] at X97 l97 y97 z97 st97 hQ97
  subst l97 y97 z97
  obtain ⟨rfl, Nq97, e97⟩ := hQ97
  have N97 := Fr.app N92 Nq97
  have f98 : Fld Z h92 c6 "com/example/hoofprint/hoofprint/model/KnightMove" "rows" "I" (.int (2 : Int32)) := (((((((P28.ext E3).other W20 (Or.inl ne3_c6)).other W34 (Or.inl ne3_c6)).other W49 (Or.inl ne3_c6)).other W63 (Or.inl ne3_c6)).other W77 (Or.inl ne3_c6)).other W92 (Or.inl ne3_c6))
  obtain ⟨T99, X99, e99, st99⟩ := getF X97 hx hZ hown (host := "") (Or.inl (hw _ (List.mem_of_getElem? (i := 59) rfl))) Via.refl e97 f98 (g := (mkF m 37 #[.val (.ref pr0), .val (.ref b3), .val (.ref nb), .val (.int (8 : Int32)), .val (.int (6 : Int32)), .val (.ref c6)] [(.ref c6), (.int (6 : Int32)), (.ref b3)])) rfl rfl (hb hby d12_37)
  have f100 : Fld Z h92 pr0 "com/example/hoofprint/hoofprint/model/Board" "columns" "I" (.int wc) := (f86.other W92 (Or.inl ne3_pr0))
  have f102 : Exa Z h92 pr0 "com/example/hoofprint/hoofprint/model/Board" := (f88.wr W92)
  obtain ⟨cq101, kq101, q101a, q101b, q101c⟩ := isOf hZ e99 f102
  obtain ⟨_, _, ⟨T101, L101, k101, n101⟩, -, X101, ⟨Lc101, hQ101, l101, y101, z101⟩, st101⟩ := X99.virtualBack hx (y := (⟨"com/example/hoofprint/hoofprint/model/Board", "columns", "()I"⟩ : MethodName)) (z := (⟨"com/example/hoofprint/hoofprint/model/Board", "columns", "()I"⟩ : MethodName)) hown (mvT hZ (hw _ (List.mem_of_getElem? (i := 61) rfl))) (mvT hZ (hw _ (List.mem_of_getElem? (i := 62) rfl))) (notFace_of_selects (args := #[]) (mvT hZ (hw _ (List.mem_of_getElem? (i := 64) rfl)))) (mvT hZ (hw _ (List.mem_of_getElem? (i := 64) rfl))) (mvT hZ (hw _ (List.mem_of_getElem? (i := 63) rfl))) (by decide) (backOf (W := 3) (own_columns l Z a0 hw [] pr0 wc h92 n0 Z92 f100) hZ (hw _ (List.mem_of_getElem? (i := 65) rfl)) (hw _ (List.mem_of_getElem? (i := 3) rfl)) (by decide) (by decide)) q101a q101c (g := (mkF m 41 #[.val (.ref pr0), .val (.ref b3), .val (.ref nb), .val (.int (8 : Int32)), .val (.int (6 : Int32)), .val (.ref c6)] [(.ref pr0), (.int (2 : Int32)), (.int (6 : Int32)), (.ref b3)])) rfl (by rw [hml]; rfl) (Steps.refl _) (argsL := []) (rest := [(.int (2 : Int32)), (.int (6 : Int32)), (.ref b3)]) (lenOf pd_10 rfl) rfl (by show 2 * 0 + _ ≤ _; exact Nat.le_of_eq rfl) (hb hby d12_41) (fun _ _ => ⟨rfl, e99, (by decide : 1 + 0 ≤ _), (by decide : 8 + 0 ≤ _)⟩)
  dsimp only [Pt.U, Pt.locs, Pt.cells, Pt.slots] at X101 l101 y101 z101 st101 hQ101
  subst l101 y101 z101
  obtain ⟨rfl, Nq101, e101⟩ := hQ101
  have N101 := Fr.app N97 Nq101
  have f103 : Fld Z h92 c6 "com/example/hoofprint/hoofprint/model/KnightMove" "columns" "I" (.int (-1 : Int32)) := (((((((P29.ext E3).other W20 (Or.inl ne3_c6)).other W34 (Or.inl ne3_c6)).other W49 (Or.inl ne3_c6)).other W63 (Or.inl ne3_c6)).other W77 (Or.inl ne3_c6)).other W92 (Or.inl ne3_c6))
  obtain ⟨T104, X104, e104, st104⟩ := getF X101 hx hZ hown (host := "") (Or.inl (hw _ (List.mem_of_getElem? (i := 66) rfl))) Via.refl e101 f103 (g := (mkF m 47 #[.val (.ref pr0), .val (.ref b3), .val (.ref nb), .val (.int (8 : Int32)), .val (.int (6 : Int32)), .val (.ref c6)] [(.ref c6), (.int ((2 : Int32) * wc)), (.int (6 : Int32)), (.ref b3)])) rfl rfl (hb hby d12_47)
  obtain ⟨cl105, Ar105, q105, S105, N105, H105, G105⟩ := id V92
  have hin105 : ¬ ((6 : Int32) < 0 ∨ cl105.slots.size ≤ ((6 : Int32)).toNatClampNeg) := inb_of S105 ⟨by decide, by decide⟩
  obtain ⟨T106, h106, X106, e106, W106, st106⟩ := stI X104 hx hZ e104 Ar105 (j := (6 : Int32)) hin105 (g := (mkF m 51 #[.val (.ref pr0), .val (.ref b3), .val (.ref nb), .val (.int (8 : Int32)), .val (.int (6 : Int32)), .val (.ref c6)] [(.int (((2 : Int32) * wc) + (-1 : Int32))), (.int (6 : Int32)), (.ref b3)])) rfl rfl (hb hby d12_51)
  have K106 : Keep h0 h106 ([] : List Addr) := K92.wr W106 (Or.inr sz3)
  have N106 := Fr.snoc X106 N101 ge3
  have Z106 : n0 ≤ h106.size := Nat.le_trans Z92 (Keep.of_wr W106).1
  have V106 : Arv Z h106 b3 k3 .int (8 : Int32) [(.int (((-2 : Int32) * wc) + (-1 : Int32))), (.int (((-2 : Int32) * wc) + (1 : Int32))), (.int (((-1 : Int32) * wc) + (-2 : Int32))), (.int (((-1 : Int32) * wc) + (2 : Int32))), (.int (((1 : Int32) * wc) + (-2 : Int32))), (.int (((1 : Int32) * wc) + (2 : Int32))), (.int (((2 : Int32) * wc) + (-1 : Int32))), (.int (0 : Int32))] (.int (0 : Int32)) := Arv.set Ar105 q105 S105 N105 H105 G105 rfl W106 6 rfl (Nat.le_of_ble_eq_true rfl)
  have f107 : Arv Z h106 nb kn (.object "com/example/hoofprint/hoofprint/model/KnightMove") (8 : Int32) [(.ref c0), (.ref c1), (.ref c2), (.ref c3), (.ref c4), (.ref c5), (.ref c6), (.ref c7)] .null := (f93.other W106 ne3_nb)
  obtain ⟨cl108, Ar108, q108, S108, N108, H108, G108⟩ := id f107
  have hin108 : ¬ ((7 : Int32) < 0 ∨ cl108.slots.size ≤ ((7 : Int32)).toNatClampNeg) := inb_of S108 ⟨by decide, by decide⟩
  have hat108 : cl108.slots[((7 : Int32)).toNatClampNeg]? = some (.ref c7) := Has.at H108 hin108 rfl
  have f109 : Exa Z h106 c7 "com/example/hoofprint/hoofprint/model/KnightMove" := ((((((((P30.ext E3).wr W20).wr W34).wr W49).wr W63).wr W77).wr W92).wr W106)
  have f110 : Fld Z h106 c7 "java/lang/Enum" "ordinal" "I" (.int (7 : Int32)) := ((((((((P31.ext E3).other W20 (Or.inl ne3_c7)).other W34 (Or.inl ne3_c7)).other W49 (Or.inl ne3_c7)).other W63 (Or.inl ne3_c7)).other W77 (Or.inl ne3_c7)).other W92 (Or.inl ne3_c7)).other W106 (Or.inl ne3_c7))
  obtain ⟨cq111, kq111, q111a, q111b, q111c⟩ := isOf hZ e106 f109
  obtain ⟨_, _, ⟨T111, L111, k111, n111⟩, -, X111, ⟨Lc111, hQ111, l111, y111, z111⟩, st111⟩ := X106.virtualBack hx (y := (⟨"com/example/hoofprint/hoofprint/model/KnightMove", "number", "()I"⟩ : MethodName)) (z := (⟨"com/example/hoofprint/hoofprint/model/KnightMove", "number", "()I"⟩ : MethodName)) hown (mvT hZ (hw _ (List.mem_of_getElem? (i := 45) rfl))) (mvT hZ (hw _ (List.mem_of_getElem? (i := 46) rfl))) (notFace_of_selects (args := #[]) (mvT hZ (hw _ (List.mem_of_getElem? (i := 48) rfl)))) (mvT hZ (hw _ (List.mem_of_getElem? (i := 48) rfl))) (mvT hZ (hw _ (List.mem_of_getElem? (i := 47) rfl))) (by decide) (backOf (W := 1) (own_number l Z a0 hw [] c7 (7 : Int32) h106 n0 Z106 f109 f110) hZ (hw _ (List.mem_of_getElem? (i := 49) rfl)) (hw _ (List.mem_of_getElem? (i := 39) rfl)) (by decide) (by decide)) q111a q111c (g := (mkF m 32 #[.val (.ref pr0), .val (.ref b3), .val (.ref nb), .val (.int (8 : Int32)), .val (.int (7 : Int32)), .val (.ref c7)] [(.ref c7), (.ref b3)])) rfl (by rw [hml]; rfl) (Steps.refl _) (argsL := []) (rest := [(.ref b3)]) (lenOf pd_10 rfl) rfl (by show 2 * 0 + _ ≤ _; exact Nat.le_of_eq rfl) (hb hby d12_32) (fun _ _ => ⟨rfl, e106, (by decide : 1 + 0 ≤ _), (by decide : 8 + 0 ≤ _)⟩)
  dsimp only [Pt.U, Pt.locs, Pt.cells, Pt.slots] at X111 l111 y111 z111 st111 hQ111
  subst l111 y111 z111
  obtain ⟨rfl, Nq111, e111⟩ := hQ111
  have N111 := Fr.app N106 Nq111
  have f112 : Fld Z h106 c7 "com/example/hoofprint/hoofprint/model/KnightMove" "rows" "I" (.int (2 : Int32)) := ((((((((P32.ext E3).other W20 (Or.inl ne3_c7)).other W34 (Or.inl ne3_c7)).other W49 (Or.inl ne3_c7)).other W63 (Or.inl ne3_c7)).other W77 (Or.inl ne3_c7)).other W92 (Or.inl ne3_c7)).other W106 (Or.inl ne3_c7))
  obtain ⟨T113, X113, e113, st113⟩ := getF X111 hx hZ hown (host := "") (Or.inl (hw _ (List.mem_of_getElem? (i := 59) rfl))) Via.refl e111 f112 (g := (mkF m 37 #[.val (.ref pr0), .val (.ref b3), .val (.ref nb), .val (.int (8 : Int32)), .val (.int (7 : Int32)), .val (.ref c7)] [(.ref c7), (.int (7 : Int32)), (.ref b3)])) rfl rfl (hb hby d12_37)
  have f114 : Fld Z h106 pr0 "com/example/hoofprint/hoofprint/model/Board" "columns" "I" (.int wc) := (f100.other W106 (Or.inl ne3_pr0))
  have f116 : Exa Z h106 pr0 "com/example/hoofprint/hoofprint/model/Board" := (f102.wr W106)
  obtain ⟨cq115, kq115, q115a, q115b, q115c⟩ := isOf hZ e113 f116
  obtain ⟨_, _, ⟨T115, L115, k115, n115⟩, -, X115, ⟨Lc115, hQ115, l115, y115, z115⟩, st115⟩ := X113.virtualBack hx (y := (⟨"com/example/hoofprint/hoofprint/model/Board", "columns", "()I"⟩ : MethodName)) (z := (⟨"com/example/hoofprint/hoofprint/model/Board", "columns", "()I"⟩ : MethodName)) hown (mvT hZ (hw _ (List.mem_of_getElem? (i := 61) rfl))) (mvT hZ (hw _ (List.mem_of_getElem? (i := 62) rfl))) (notFace_of_selects (args := #[]) (mvT hZ (hw _ (List.mem_of_getElem? (i := 64) rfl)))) (mvT hZ (hw _ (List.mem_of_getElem? (i := 64) rfl))) (mvT hZ (hw _ (List.mem_of_getElem? (i := 63) rfl))) (by decide) (backOf (W := 3) (own_columns l Z a0 hw [] pr0 wc h106 n0 Z106 f114) hZ (hw _ (List.mem_of_getElem? (i := 65) rfl)) (hw _ (List.mem_of_getElem? (i := 3) rfl)) (by decide) (by decide)) q115a q115c (g := (mkF m 41 #[.val (.ref pr0), .val (.ref b3), .val (.ref nb), .val (.int (8 : Int32)), .val (.int (7 : Int32)), .val (.ref c7)] [(.ref pr0), (.int (2 : Int32)), (.int (7 : Int32)), (.ref b3)])) rfl (by rw [hml]; rfl) (Steps.refl _) (argsL := []) (rest := [(.int (2 : Int32)), (.int (7 : Int32)), (.ref b3)]) (lenOf pd_10 rfl) rfl (by show 2 * 0 + _ ≤ _; exact Nat.le_of_eq rfl) (hb hby d12_41) (fun _ _ => ⟨rfl, e113, (by decide : 1 + 0 ≤ _), (by decide : 8 + 0 ≤ _)⟩)
  dsimp only [Pt.U, Pt.locs, Pt.cells, Pt.slots] at X115 l115 y115 z115 st115 hQ115
  subst l115 y115 z115
  obtain ⟨rfl, Nq115, e115⟩ := hQ115
  have N115 := Fr.app N111 Nq115
  have f117 : Fld Z h106 c7 "com/example/hoofprint/hoofprint/model/KnightMove" "columns" "I" (.int (1 : Int32)) := ((((((((P33.ext E3).other W20 (Or.inl ne3_c7)).other W34 (Or.inl ne3_c7)).other W49 (Or.inl ne3_c7)).other W63 (Or.inl ne3_c7)).other W77 (Or.inl ne3_c7)).other W92 (Or.inl ne3_c7)).other W106 (Or.inl ne3_c7))
  obtain ⟨T118, X118, e118, st118⟩ := getF X115 hx hZ hown (host := "") (Or.inl (hw _ (List.mem_of_getElem? (i := 66) rfl))) Via.refl e115 f117 (g := (mkF m 47 #[.val (.ref pr0), .val (.ref b3), .val (.ref nb), .val (.int (8 : Int32)), .val (.int (7 : Int32)), .val (.ref c7)] [(.ref c7), (.int ((2 : Int32) * wc)), (.int (7 : Int32)), (.ref b3)])) rfl rfl (hb hby d12_47)
  obtain ⟨cl119, Ar119, q119, S119, N119, H119, G119⟩ := id V106
  have hin119 : ¬ ((7 : Int32) < 0 ∨ cl119.slots.size ≤ ((7 : Int32)).toNatClampNeg) := inb_of S119 ⟨by decide, by decide⟩
  obtain ⟨T120, h120, X120, e120, W120, st120⟩ := stI X118 hx hZ e118 Ar119 (j := (7 : Int32)) hin119 (g := (mkF m 51 #[.val (.ref pr0), .val (.ref b3), .val (.ref nb), .val (.int (8 : Int32)), .val (.int (7 : Int32)), .val (.ref c7)] [(.int (((2 : Int32) * wc) + (1 : Int32))), (.int (7 : Int32)), (.ref b3)])) rfl rfl (hb hby d12_51)
  have K120 : Keep h0 h120 ([] : List Addr) := K106.wr W120 (Or.inr sz3)
  have N120 := Fr.snoc X120 N115 ge3
  have Z120 : n0 ≤ h120.size := Nat.le_trans Z106 (Keep.of_wr W120).1
  have V120 : Arv Z h120 b3 k3 .int (8 : Int32) [(.int (((-2 : Int32) * wc) + (-1 : Int32))), (.int (((-2 : Int32) * wc) + (1 : Int32))), (.int (((-1 : Int32) * wc) + (-2 : Int32))), (.int (((-1 : Int32) * wc) + (2 : Int32))), (.int (((1 : Int32) * wc) + (-2 : Int32))), (.int (((1 : Int32) * wc) + (2 : Int32))), (.int (((2 : Int32) * wc) + (-1 : Int32))), (.int (((2 : Int32) * wc) + (1 : Int32)))] (.int (0 : Int32)) := Arv.set Ar119 q119 S119 N119 H119 G119 rfl W120 7 rfl (Nat.le_of_ble_eq_true rfl)
  have go121 : ∀ t, Steps p.tables e below (T120.setTop (mkF m 58 #[.val (.ref pr0), .val (.ref b3), .val (.ref nb), .val (.int (8 : Int32)), .val (.int (8 : Int32)), .val (.ref c7)] [])) t → Steps p.tables e below st0 t := by
    intro t kt
    refine go78 t ?_
    refine X77.aaload hx (j := (5 : Int32)) (v := (.ref c5)) (by rw [e77]; exact Ar80.1) (State.isArrayOf_alike hZ.alike Ar80.2.1) rfl Ar80.2.2 hin80 hat80 (g := (mkF m 26 #[.val (.ref pr0), .val (.ref b3), .val (.ref nb), .val (.int (8 : Int32)), .val (.int (5 : Int32)), .val (.ref c4)] [(.int (5 : Int32)), (.ref nb)])) rfl rfl (hb hby d12_26) _ ?_
    show Steps p.tables e below (T77.setTop (mkF m 27 #[.val (.ref pr0), .val (.ref b3), .val (.ref nb), .val (.int (8 : Int32)), .val (.int (5 : Int32)), .val (.ref c4)] [(.ref c5)])) _
    refine XS.astore X77.here hx rfl (hb hby d12_27) rfl rfl (l' := #[.val (.ref pr0), .val (.ref b3), .val (.ref nb), .val (.int (8 : Int32)), .val (.int (5 : Int32)), .val (.ref c5)]) rfl ?_
    show Steps p.tables e below (T77.setTop (mkF m 29 #[.val (.ref pr0), .val (.ref b3), .val (.ref nb), .val (.int (8 : Int32)), .val (.int (5 : Int32)), .val (.ref c5)] [])) _
    refine XS.aloadN X77.here hx rfl (hb hby d12_29) rfl rfl ?_
    show Steps p.tables e below (T77.setTop (mkF m 30 #[.val (.ref pr0), .val (.ref b3), .val (.ref nb), .val (.int (8 : Int32)), .val (.int (5 : Int32)), .val (.ref c5)] [(.ref b3)])) _
    refine XS.aload X77.here hx rfl (hb hby d12_30) rfl rfl ?_
    show Steps p.tables e below (T77.setTop (mkF m 32 #[.val (.ref pr0), .val (.ref b3), .val (.ref nb), .val (.int (8 : Int32)), .val (.int (5 : Int32)), .val (.ref c5)] [(.ref c5), (.ref b3)])) _
    refine st83.trans ?_
    show Steps p.tables e below (T83.setTop (mkF m 35 #[.val (.ref pr0), .val (.ref b3), .val (.ref nb), .val (.int (8 : Int32)), .val (.int (5 : Int32)), .val (.ref c5)] [(.int (5 : Int32)), (.ref b3)])) _
    refine XS.aload X83.here hx rfl (hb hby d12_35) rfl rfl ?_
    show Steps p.tables e below (T83.setTop (mkF m 37 #[.val (.ref pr0), .val (.ref b3), .val (.ref nb), .val (.int (8 : Int32)), .val (.int (5 : Int32)), .val (.ref c5)] [(.ref c5), (.int (5 : Int32)), (.ref b3)])) _
    refine st85 _ ?_
    show Steps p.tables e below (T85.setTop (mkF m 40 #[.val (.ref pr0), .val (.ref b3), .val (.ref nb), .val (.int (8 : Int32)), .val (.int (5 : Int32)), .val (.ref c5)] [(.int (1 : Int32)), (.int (5 : Int32)), (.ref b3)])) _
    refine XS.aloadN X85.here hx rfl (hb hby d12_40) rfl rfl ?_
    show Steps p.tables e below (T85.setTop (mkF m 41 #[.val (.ref pr0), .val (.ref b3), .val (.ref nb), .val (.int (8 : Int32)), .val (.int (5 : Int32)), .val (.ref c5)] [(.ref pr0), (.int (1 : Int32)), (.int (5 : Int32)), (.ref b3)])) _
    refine st87.trans ?_
    show Steps p.tables e below (T87.setTop (mkF m 44 #[.val (.ref pr0), .val (.ref b3), .val (.ref nb), .val (.int (8 : Int32)), .val (.int (5 : Int32)), .val (.ref c5)] [(.int wc), (.int (1 : Int32)), (.int (5 : Int32)), (.ref b3)])) _
    refine XS.imul X87.here hx rfl (hb hby d12_44) rfl ?_
    show Steps p.tables e below (T87.setTop (mkF m 45 #[.val (.ref pr0), .val (.ref b3), .val (.ref nb), .val (.int (8 : Int32)), .val (.int (5 : Int32)), .val (.ref c5)] [(.int ((1 : Int32) * wc)), (.int (5 : Int32)), (.ref b3)])) _
    refine XS.aload X87.here hx rfl (hb hby d12_45) rfl rfl ?_
    show Steps p.tables e below (T87.setTop (mkF m 47 #[.val (.ref pr0), .val (.ref b3), .val (.ref nb), .val (.int (8 : Int32)), .val (.int (5 : Int32)), .val (.ref c5)] [(.ref c5), (.int ((1 : Int32) * wc)), (.int (5 : Int32)), (.ref b3)])) _
    refine st90 _ ?_
    show Steps p.tables e below (T90.setTop (mkF m 50 #[.val (.ref pr0), .val (.ref b3), .val (.ref nb), .val (.int (8 : Int32)), .val (.int (5 : Int32)), .val (.ref c5)] [(.int (2 : Int32)), (.int ((1 : Int32) * wc)), (.int (5 : Int32)), (.ref b3)])) _
    refine XS.iadd X90.here hx rfl (hb hby d12_50) rfl ?_
    show Steps p.tables e below (T90.setTop (mkF m 51 #[.val (.ref pr0), .val (.ref b3), .val (.ref nb), .val (.int (8 : Int32)), .val (.int (5 : Int32)), .val (.ref c5)] [(.int (((1 : Int32) * wc) + (2 : Int32))), (.int (5 : Int32)), (.ref b3)])) _
    refine st92 _ ?_
    show Steps p.tables e below (T92.setTop (mkF m 52 #[.val (.ref pr0), .val (.ref b3), .val (.ref nb), .val (.int (8 : Int32)), .val (.int (5 : Int32)), .val (.ref c5)] [])) _
    refine XS.iinc X92.here hx rfl (hb hby d12_52) rfl (l' := #[.val (.ref pr0), .val (.ref b3), .val (.ref nb), .val (.int (8 : Int32)), .val (.int (6 : Int32)), .val (.ref c5)]) rfl ?_
    show Steps p.tables e below (T92.setTop (mkF m 55 #[.val (.ref pr0), .val (.ref b3), .val (.ref nb), .val (.int (8 : Int32)), .val (.int (6 : Int32)), .val (.ref c5)] [])) _
    refine XS.goto X92.here hx rfl (pc0 := 55) (pc' := 17) rfl (hb hby d12_55) (by decide) (by decide) ?_
    show Steps p.tables e below (T92.setTop (mkF m 17 #[.val (.ref pr0), .val (.ref b3), .val (.ref nb), .val (.int (8 : Int32)), .val (.int (6 : Int32)), .val (.ref c5)] [])) _
    refine XS.iload X92.here hx rfl (hb hby d12_17) rfl ?_
    show Steps p.tables e below (T92.setTop (mkF m 19 #[.val (.ref pr0), .val (.ref b3), .val (.ref nb), .val (.int (8 : Int32)), .val (.int (6 : Int32)), .val (.ref c5)] [(.int (6 : Int32))])) _
    refine XS.iloadN X92.here hx rfl (hb hby d12_19) rfl ?_
    show Steps p.tables e below (T92.setTop (mkF m 20 #[.val (.ref pr0), .val (.ref b3), .val (.ref nb), .val (.int (8 : Int32)), .val (.int (6 : Int32)), .val (.ref c5)] [(.int (8 : Int32)), (.int (6 : Int32))])) _
    refine XS.icmpNo X92.here hx rfl (hb hby d12_20) rfl (tlt (by decide : (6 : Int32) < (8 : Int32))).2.1 ?_
    show Steps p.tables e below (T92.setTop (mkF m 23 #[.val (.ref pr0), .val (.ref b3), .val (.ref nb), .val (.int (8 : Int32)), .val (.int (6 : Int32)), .val (.ref c5)] [])) _
    refine XS.aloadN X92.here hx rfl (hb hby d12_23) rfl rfl ?_
    show Steps p.tables e below (T92.setTop (mkF m 24 #[.val (.ref pr0), .val (.ref b3), .val (.ref nb), .val (.int (8 : Int32)), .val (.int (6 : Int32)), .val (.ref c5)] [(.ref nb)])) _
    refine XS.iload X92.here hx rfl (hb hby d12_24) rfl ?_
    show Steps p.tables e below (T92.setTop (mkF m 26 #[.val (.ref pr0), .val (.ref b3), .val (.ref nb), .val (.int (8 : Int32)), .val (.int (6 : Int32)), .val (.ref c5)] [(.int (6 : Int32)), (.ref nb)])) _
    refine X92.aaload hx (j := (6 : Int32)) (v := (.ref c6)) (by rw [e92]; exact Ar94.1) (State.isArrayOf_alike hZ.alike Ar94.2.1) rfl Ar94.2.2 hin94 hat94 (g := (mkF m 26 #[.val (.ref pr0), .val (.ref b3), .val (.ref nb), .val (.int (8 : Int32)), .val (.int (6 : Int32)), .val (.ref c5)] [(.int (6 : Int32)), (.ref nb)])) rfl rfl (hb hby d12_26) _ ?_
    show Steps p.tables e below (T92.setTop (mkF m 27 #[.val (.ref pr0), .val (.ref b3), .val (.ref nb), .val (.int (8 : Int32)), .val (.int (6 : Int32)), .val (.ref c5)] [(.ref c6)])) _
    refine XS.astore X92.here hx rfl (hb hby d12_27) rfl rfl (l' := #[.val (.ref pr0), .val (.ref b3), .val (.ref nb), .val (.int (8 : Int32)), .val (.int (6 : Int32)), .val (.ref c6)]) rfl ?_
    show Steps p.tables e below (T92.setTop (mkF m 29 #[.val (.ref pr0), .val (.ref b3), .val (.ref nb), .val (.int (8 : Int32)), .val (.int (6 : Int32)), .val (.ref c6)] [])) _
    refine XS.aloadN X92.here hx rfl (hb hby d12_29) rfl rfl ?_
    show Steps p.tables e below (T92.setTop (mkF m 30 #[.val (.ref pr0), .val (.ref b3), .val (.ref nb), .val (.int (8 : Int32)), .val (.int (6 : Int32)), .val (.ref c6)] [(.ref b3)])) _
    refine XS.aload X92.here hx rfl (hb hby d12_30) rfl rfl ?_
    show Steps p.tables e below (T92.setTop (mkF m 32 #[.val (.ref pr0), .val (.ref b3), .val (.ref nb), .val (.int (8 : Int32)), .val (.int (6 : Int32)), .val (.ref c6)] [(.ref c6), (.ref b3)])) _
    refine st97.trans ?_
    show Steps p.tables e below (T97.setTop (mkF m 35 #[.val (.ref pr0), .val (.ref b3), .val (.ref nb), .val (.int (8 : Int32)), .val (.int (6 : Int32)), .val (.ref c6)] [(.int (6 : Int32)), (.ref b3)])) _
    refine XS.aload X97.here hx rfl (hb hby d12_35) rfl rfl ?_
    show Steps p.tables e below (T97.setTop (mkF m 37 #[.val (.ref pr0), .val (.ref b3), .val (.ref nb), .val (.int (8 : Int32)), .val (.int (6 : Int32)), .val (.ref c6)] [(.ref c6), (.int (6 : Int32)), (.ref b3)])) _
    refine st99 _ ?_
    show Steps p.tables e below (T99.setTop (mkF m 40 #[.val (.ref pr0), .val (.ref b3), .val (.ref nb), .val (.int (8 : Int32)), .val (.int (6 : Int32)), .val (.ref c6)] [(.int (2 : Int32)), (.int (6 : Int32)), (.ref b3)])) _
    refine XS.aloadN X99.here hx rfl (hb hby d12_40) rfl rfl ?_
    show Steps p.tables e below (T99.setTop (mkF m 41 #[.val (.ref pr0), .val (.ref b3), .val (.ref nb), .val (.int (8 : Int32)), .val (.int (6 : Int32)), .val (.ref c6)] [(.ref pr0), (.int (2 : Int32)), (.int (6 : Int32)), (.ref b3)])) _
    refine st101.trans ?_
    show Steps p.tables e below (T101.setTop (mkF m 44 #[.val (.ref pr0), .val (.ref b3), .val (.ref nb), .val (.int (8 : Int32)), .val (.int (6 : Int32)), .val (.ref c6)] [(.int wc), (.int (2 : Int32)), (.int (6 : Int32)), (.ref b3)])) _
    refine XS.imul X101.here hx rfl (hb hby d12_44) rfl ?_
    show Steps p.tables e below (T101.setTop (mkF m 45 #[.val (.ref pr0), .val (.ref b3), .val (.ref nb), .val (.int (8 : Int32)), .val (.int (6 : Int32)), .val (.ref c6)] [(.int ((2 : Int32) * wc)), (.int (6 : Int32)), (.ref b3)])) _
    refine XS.aload X101.here hx rfl (hb hby d12_45) rfl rfl ?_
    show Steps p.tables e below (T101.setTop (mkF m 47 #[.val (.ref pr0), .val (.ref b3), .val (.ref nb), .val (.int (8 : Int32)), .val (.int (6 : Int32)), .val (.ref c6)] [(.ref c6), (.int ((2 : Int32) * wc)), (.int (6 : Int32)), (.ref b3)])) _
    refine st104 _ ?_
    show Steps p.tables e below (T104.setTop (mkF m 50 #[.val (.ref pr0), .val (.ref b3), .val (.ref nb), .val (.int (8 : Int32)), .val (.int (6 : Int32)), .val (.ref c6)] [(.int (-1 : Int32)), (.int ((2 : Int32) * wc)), (.int (6 : Int32)), (.ref b3)])) _
    refine XS.iadd X104.here hx rfl (hb hby d12_50) rfl ?_
    show Steps p.tables e below (T104.setTop (mkF m 51 #[.val (.ref pr0), .val (.ref b3), .val (.ref nb), .val (.int (8 : Int32)), .val (.int (6 : Int32)), .val (.ref c6)] [(.int (((2 : Int32) * wc) + (-1 : Int32))), (.int (6 : Int32)), (.ref b3)])) _
    refine st106 _ ?_
    show Steps p.tables e below (T106.setTop (mkF m 52 #[.val (.ref pr0), .val (.ref b3), .val (.ref nb), .val (.int (8 : Int32)), .val (.int (6 : Int32)), .val (.ref c6)] [])) _
    refine XS.iinc X106.here hx rfl (hb hby d12_52) rfl (l' := #[.val (.ref pr0), .val (.ref b3), .val (.ref nb), .val (.int (8 : Int32)), .val (.int (7 : Int32)), .val (.ref c6)]) rfl ?_
    show Steps p.tables e below (T106.setTop (mkF m 55 #[.val (.ref pr0), .val (.ref b3), .val (.ref nb), .val (.int (8 : Int32)), .val (.int (7 : Int32)), .val (.ref c6)] [])) _
    refine XS.goto X106.here hx rfl (pc0 := 55) (pc' := 17) rfl (hb hby d12_55) (by decide) (by decide) ?_
    show Steps p.tables e below (T106.setTop (mkF m 17 #[.val (.ref pr0), .val (.ref b3), .val (.ref nb), .val (.int (8 : Int32)), .val (.int (7 : Int32)), .val (.ref c6)] [])) _
    refine XS.iload X106.here hx rfl (hb hby d12_17) rfl ?_
    show Steps p.tables e below (T106.setTop (mkF m 19 #[.val (.ref pr0), .val (.ref b3), .val (.ref nb), .val (.int (8 : Int32)), .val (.int (7 : Int32)), .val (.ref c6)] [(.int (7 : Int32))])) _
    refine XS.iloadN X106.here hx rfl (hb hby d12_19) rfl ?_
    show Steps p.tables e below (T106.setTop (mkF m 20 #[.val (.ref pr0), .val (.ref b3), .val (.ref nb), .val (.int (8 : Int32)), .val (.int (7 : Int32)), .val (.ref c6)] [(.int (8 : Int32)), (.int (7 : Int32))])) _
    refine XS.icmpNo X106.here hx rfl (hb hby d12_20) rfl (tlt (by decide : (7 : Int32) < (8 : Int32))).2.1 ?_
    show Steps p.tables e below (T106.setTop (mkF m 23 #[.val (.ref pr0), .val (.ref b3), .val (.ref nb), .val (.int (8 : Int32)), .val (.int (7 : Int32)), .val (.ref c6)] [])) _
    refine XS.aloadN X106.here hx rfl (hb hby d12_23) rfl rfl ?_
    show Steps p.tables e below (T106.setTop (mkF m 24 #[.val (.ref pr0), .val (.ref b3), .val (.ref nb), .val (.int (8 : Int32)), .val (.int (7 : Int32)), .val (.ref c6)] [(.ref nb)])) _
    refine XS.iload X106.here hx rfl (hb hby d12_24) rfl ?_
    show Steps p.tables e below (T106.setTop (mkF m 26 #[.val (.ref pr0), .val (.ref b3), .val (.ref nb), .val (.int (8 : Int32)), .val (.int (7 : Int32)), .val (.ref c6)] [(.int (7 : Int32)), (.ref nb)])) _
    refine X106.aaload hx (j := (7 : Int32)) (v := (.ref c7)) (by rw [e106]; exact Ar108.1) (State.isArrayOf_alike hZ.alike Ar108.2.1) rfl Ar108.2.2 hin108 hat108 (g := (mkF m 26 #[.val (.ref pr0), .val (.ref b3), .val (.ref nb), .val (.int (8 : Int32)), .val (.int (7 : Int32)), .val (.ref c6)] [(.int (7 : Int32)), (.ref nb)])) rfl rfl (hb hby d12_26) _ ?_
    show Steps p.tables e below (T106.setTop (mkF m 27 #[.val (.ref pr0), .val (.ref b3), .val (.ref nb), .val (.int (8 : Int32)), .val (.int (7 : Int32)), .val (.ref c6)] [(.ref c7)])) _
    refine XS.astore X106.here hx rfl (hb hby d12_27) rfl rfl (l' := #[.val (.ref pr0), .val (.ref b3), .val (.ref nb), .val (.int (8 : Int32)), .val (.int (7 : Int32)), .val (.ref c7)]) rfl ?_
    show Steps p.tables e below (T106.setTop (mkF m 29 #[.val (.ref pr0), .val (.ref b3), .val (.ref nb), .val (.int (8 : Int32)), .val (.int (7 : Int32)), .val (.ref c7)] [])) _
    refine XS.aloadN X106.here hx rfl (hb hby d12_29) rfl rfl ?_
    show Steps p.tables e below (T106.setTop (mkF m 30 #[.val (.ref pr0), .val (.ref b3), .val (.ref nb), .val (.int (8 : Int32)), .val (.int (7 : Int32)), .val (.ref c7)] [(.ref b3)])) _
    refine XS.aload X106.here hx rfl (hb hby d12_30) rfl rfl ?_
    show Steps p.tables e below (T106.setTop (mkF m 32 #[.val (.ref pr0), .val (.ref b3), .val (.ref nb), .val (.int (8 : Int32)), .val (.int (7 : Int32)), .val (.ref c7)] [(.ref c7), (.ref b3)])) _
    refine st111.trans ?_
    show Steps p.tables e below (T111.setTop (mkF m 35 #[.val (.ref pr0), .val (.ref b3), .val (.ref nb), .val (.int (8 : Int32)), .val (.int (7 : Int32)), .val (.ref c7)] [(.int (7 : Int32)), (.ref b3)])) _
    refine XS.aload X111.here hx rfl (hb hby d12_35) rfl rfl ?_
    show Steps p.tables e below (T111.setTop (mkF m 37 #[.val (.ref pr0), .val (.ref b3), .val (.ref nb), .val (.int (8 : Int32)), .val (.int (7 : Int32)), .val (.ref c7)] [(.ref c7), (.int (7 : Int32)), (.ref b3)])) _
    refine st113 _ ?_
    show Steps p.tables e below (T113.setTop (mkF m 40 #[.val (.ref pr0), .val (.ref b3), .val (.ref nb), .val (.int (8 : Int32)), .val (.int (7 : Int32)), .val (.ref c7)] [(.int (2 : Int32)), (.int (7 : Int32)), (.ref b3)])) _
    refine XS.aloadN X113.here hx rfl (hb hby d12_40) rfl rfl ?_
    show Steps p.tables e below (T113.setTop (mkF m 41 #[.val (.ref pr0), .val (.ref b3), .val (.ref nb), .val (.int (8 : Int32)), .val (.int (7 : Int32)), .val (.ref c7)] [(.ref pr0), (.int (2 : Int32)), (.int (7 : Int32)), (.ref b3)])) _
    refine st115.trans ?_
    show Steps p.tables e below (T115.setTop (mkF m 44 #[.val (.ref pr0), .val (.ref b3), .val (.ref nb), .val (.int (8 : Int32)), .val (.int (7 : Int32)), .val (.ref c7)] [(.int wc), (.int (2 : Int32)), (.int (7 : Int32)), (.ref b3)])) _
    refine XS.imul X115.here hx rfl (hb hby d12_44) rfl ?_
    show Steps p.tables e below (T115.setTop (mkF m 45 #[.val (.ref pr0), .val (.ref b3), .val (.ref nb), .val (.int (8 : Int32)), .val (.int (7 : Int32)), .val (.ref c7)] [(.int ((2 : Int32) * wc)), (.int (7 : Int32)), (.ref b3)])) _
    refine XS.aload X115.here hx rfl (hb hby d12_45) rfl rfl ?_
    show Steps p.tables e below (T115.setTop (mkF m 47 #[.val (.ref pr0), .val (.ref b3), .val (.ref nb), .val (.int (8 : Int32)), .val (.int (7 : Int32)), .val (.ref c7)] [(.ref c7), (.int ((2 : Int32) * wc)), (.int (7 : Int32)), (.ref b3)])) _
    refine st118 _ ?_
    show Steps p.tables e below (T118.setTop (mkF m 50 #[.val (.ref pr0), .val (.ref b3), .val (.ref nb), .val (.int (8 : Int32)), .val (.int (7 : Int32)), .val (.ref c7)] [(.int (1 : Int32)), (.int ((2 : Int32) * wc)), (.int (7 : Int32)), (.ref b3)])) _
    refine XS.iadd X118.here hx rfl (hb hby d12_50) rfl ?_
    show Steps p.tables e below (T118.setTop (mkF m 51 #[.val (.ref pr0), .val (.ref b3), .val (.ref nb), .val (.int (8 : Int32)), .val (.int (7 : Int32)), .val (.ref c7)] [(.int (((2 : Int32) * wc) + (1 : Int32))), (.int (7 : Int32)), (.ref b3)])) _
    refine st120 _ ?_
    show Steps p.tables e below (T120.setTop (mkF m 52 #[.val (.ref pr0), .val (.ref b3), .val (.ref nb), .val (.int (8 : Int32)), .val (.int (7 : Int32)), .val (.ref c7)] [])) _
    refine XS.iinc X120.here hx rfl (hb hby d12_52) rfl (l' := #[.val (.ref pr0), .val (.ref b3), .val (.ref nb), .val (.int (8 : Int32)), .val (.int (8 : Int32)), .val (.ref c7)]) rfl ?_
    show Steps p.tables e below (T120.setTop (mkF m 55 #[.val (.ref pr0), .val (.ref b3), .val (.ref nb), .val (.int (8 : Int32)), .val (.int (8 : Int32)), .val (.ref c7)] [])) _
    refine XS.goto X120.here hx rfl (pc0 := 55) (pc' := 17) rfl (hb hby d12_55) (by decide) (by decide) ?_
    show Steps p.tables e below (T120.setTop (mkF m 17 #[.val (.ref pr0), .val (.ref b3), .val (.ref nb), .val (.int (8 : Int32)), .val (.int (8 : Int32)), .val (.ref c7)] [])) _
    refine XS.iload X120.here hx rfl (hb hby d12_17) rfl ?_
    show Steps p.tables e below (T120.setTop (mkF m 19 #[.val (.ref pr0), .val (.ref b3), .val (.ref nb), .val (.int (8 : Int32)), .val (.int (8 : Int32)), .val (.ref c7)] [(.int (8 : Int32))])) _
    refine XS.iloadN X120.here hx rfl (hb hby d12_19) rfl ?_
    show Steps p.tables e below (T120.setTop (mkF m 20 #[.val (.ref pr0), .val (.ref b3), .val (.ref nb), .val (.int (8 : Int32)), .val (.int (8 : Int32)), .val (.ref c7)] [(.int (8 : Int32)), (.int (8 : Int32))])) _
    refine XS.icmpYes X120.here hx rfl (pc0 := 20) (pc' := 58) rfl (hb hby d12_20) rfl (flt (by decide : ¬ ((8 : Int32) < (8 : Int32)))).2.1 (by decide) (by decide) ?_
    show Steps p.tables e below (T120.setTop (mkF m 58 #[.val (.ref pr0), .val (.ref b3), .val (.ref nb), .val (.int (8 : Int32)), .val (.int (8 : Int32)), .val (.ref c7)] [])) _
    exact kt
  have go122 : ∀ t, Steps p.tables e below (T120.setTop (mkF m 59 #[.val (.ref pr0), .val (.ref b3), .val (.ref nb), .val (.int (8 : Int32)), .val (.int (8 : Int32)), .val (.ref c7)] [(.ref b3)])) t → Steps p.tables e below st0 t := by
    intro t kt
    refine go121 t ?_
    refine XS.aloadN X120.here hx rfl (hb hby d12_58) rfl rfl ?_
    show Steps p.tables e below (T120.setTop (mkF m 59 #[.val (.ref pr0), .val (.ref b3), .val (.ref nb), .val (.int (8 : Int32)), .val (.int (8 : Int32)), .val (.ref c7)] [(.ref b3)])) _
    exact kt
  obtain ⟨fs, hr, hrun, hended, hW, hsame⟩ := X120.leave (v := some (.ref b3)) (fun h => by rw [Bd.returns] at h; cases h)
  refine ⟨_, _, go122 _ ?_, hrun, hended, _, _, rfl, ?_, ⟨_, rfl⟩, hW, hsame.mono (by decide) (by decide)⟩
  · jvm_step X120.here [X120.here.top, hx, (hb hby d12_59), X120.method', Bd.returns, Value.isRef, FieldType.isReference]
    first | (intro acts; rw [hr _ acts rfl rfl rfl]) | rw [hr _ _ rfl rfl rfl]
    exact Steps.refl _
  · show Q_own_steps Z pr0 nb kn c0 c1 c2 c3 c4 c5 c6 c7 wc h0 n0 _ T120.heap _
    rw [e120]
    exact ⟨N120, b3, k3, rfl, sz3, K120, V120⟩
set_option maxRecDepth 65536 in
set_option maxHeartbeats 40000000 in
theorem own_fillTurn {p : Program} {l : Launch} {e : Env} {s : State} {m : MethodId} {args : Array Value} {below : List Frame} {meth : Method} {c : Code} {T0 : State} {locs : List Loc} {Z : State} {a0 : Array Value} {h0 : Heap} {n0 : Nat} (a : Addr) (v : Int32) (i : Int32) (z : Int32) (ka : ClassId) (vs : List Value) (X0 : Stand p l e ({ frames := 0, cells := 0, slots := 0, locals := 0 } : Room) s m args below meth c T0 locs 0 0) (hx : p.tables.exec = Jvm.exec) (hZ : Z.Warmed39 s.vm) (hw : ∀ d ∈ tables_1, d.before a0 Z = true) (hby : c.code = jdk_65_method_109_code) (hml : c.maxLocals = 4) (hown : s.vm.findClass "java/util/Arrays" = some m.cls) (e0 : T0.heap = h0) (N0 : Fr n0 locs) (Z0 : n0 ≤ h0.size) (P0 : Arv Z h0 a ka .byte z vs (.int (0 : Int32))) (P1 : ¬ (i < 0)) (P2 : i < z) (P3 : i.toNatClampNeg < vs.length) (P4 : n0 ≤ a) :
    ∃ (T' : State) (h' : Heap) (L' : List Loc), Stand p l e ({ frames := 0, cells := 0, slots := 0, locals := 0 } : Room) s m args below meth c T' L' 0 0 ∧ T'.heap = h' ∧ Fr n0 L' ∧ Keep h0 h' ([a] : List Addr) ∧ n0 ≤ h'.size ∧ Arv Z h' a ka .byte z (vs.set i.toNatClampNeg (.int (v.toInt8.toInt32))) (.int (0 : Int32)) ∧ ∀ t, Steps p.tables e below (T'.setTop (mkF m 5 #[.val (.ref a), .val (.int v), .val (.int (i + (1 : Int32))), .val (.int z)] [])) t → Steps p.tables e below (T0.setTop (mkF m 5 #[.val (.ref a), .val (.int v), .val (.int i), .val (.int z)] [])) t := by
  obtain ⟨st0, hst0⟩ : ∃ zst, zst = T0.setTop (mkF m 5 #[.val (.ref a), .val (.int v), .val (.int i), .val (.int z)] []) := ⟨_, rfl⟩
  have go0 : ∀ t, Steps p.tables e below (T0.setTop (mkF m 5 #[.val (.ref a), .val (.int v), .val (.int i), .val (.int z)] [])) t → Steps p.tables e below st0 t := fun t k => by rw [hst0]; exact k
  rw [← hst0]
  obtain ⟨cl1, Ar1, q1, S1, N1, H1, G1⟩ := id P0
  have hin1 : ¬ (i < 0 ∨ cl1.slots.size ≤ (i).toNatClampNeg) := inb_of S1 ⟨P1, P2⟩
  obtain ⟨T2, h2, X2, e2, W2, st2⟩ := stB X0 hx hZ e0 Ar1 (j := i) hin1 (g := (mkF m 13 #[.val (.ref a), .val (.int v), .val (.int i), .val (.int z)] [(.int v), (.int i), (.ref a)])) rfl rfl (hb hby d13_13)
  have K2 : Keep h0 h2 ([a] : List Addr) := (Keep.refl h0 ([a] : List Addr)).wr W2 (Or.inl (List.mem_of_getElem? (i := 0) rfl))
  have N2 := Fr.snoc X2 N0 P4
  have Z2 : n0 ≤ h2.size := Nat.le_trans Z0 (Keep.of_wr W2).1
  have V2 : Arv Z h2 a ka .byte z (vs.set i.toNatClampNeg (.int (v.toInt8.toInt32))) (.int (0 : Int32)) := Arv.set Ar1 q1 S1 N1 H1 G1 (fits_nar_byte _) W2 i.toNatClampNeg rfl P3
  have go3 : ∀ t, Steps p.tables e below (T2.setTop (mkF m 5 #[.val (.ref a), .val (.int v), .val (.int (i + (1 : Int32))), .val (.int z)] [])) t → Steps p.tables e below st0 t := by
    intro t kt
    refine go0 t ?_
    refine XS.iloadN X0.here hx rfl (hb hby d13_5) rfl ?_
    show Steps p.tables e below (T0.setTop (mkF m 6 #[.val (.ref a), .val (.int v), .val (.int i), .val (.int z)] [(.int i)])) _
    refine XS.iloadN X0.here hx rfl (hb hby d13_6) rfl ?_
    show Steps p.tables e below (T0.setTop (mkF m 7 #[.val (.ref a), .val (.int v), .val (.int i), .val (.int z)] [(.int z), (.int i)])) _
    refine XS.icmpNo X0.here hx rfl (hb hby d13_7) rfl (tlt P2).2.1 ?_
    show Steps p.tables e below (T0.setTop (mkF m 10 #[.val (.ref a), .val (.int v), .val (.int i), .val (.int z)] [])) _
    refine XS.aloadN X0.here hx rfl (hb hby d13_10) rfl rfl ?_
    show Steps p.tables e below (T0.setTop (mkF m 11 #[.val (.ref a), .val (.int v), .val (.int i), .val (.int z)] [(.ref a)])) _
    refine XS.iloadN X0.here hx rfl (hb hby d13_11) rfl ?_
    show Steps p.tables e below (T0.setTop (mkF m 12 #[.val (.ref a), .val (.int v), .val (.int i), .val (.int z)] [(.int i), (.ref a)])) _
    refine XS.iloadN X0.here hx rfl (hb hby d13_12) rfl ?_
    show Steps p.tables e below (T0.setTop (mkF m 13 #[.val (.ref a), .val (.int v), .val (.int i), .val (.int z)] [(.int v), (.int i), (.ref a)])) _
    refine st2 _ ?_
    show Steps p.tables e below (T2.setTop (mkF m 14 #[.val (.ref a), .val (.int v), .val (.int i), .val (.int z)] [])) _
    refine XS.iinc X2.here hx rfl (hb hby d13_14) rfl (l' := #[.val (.ref a), .val (.int v), .val (.int (i + (1 : Int32))), .val (.int z)]) rfl ?_
    show Steps p.tables e below (T2.setTop (mkF m 17 #[.val (.ref a), .val (.int v), .val (.int (i + (1 : Int32))), .val (.int z)] [])) _
    refine XS.goto X2.here hx rfl (pc0 := 17) (pc' := 5) rfl (hb hby d13_17) (by decide) (by decide) ?_
    show Steps p.tables e below (T2.setTop (mkF m 5 #[.val (.ref a), .val (.int v), .val (.int (i + (1 : Int32))), .val (.int z)] [])) _
    exact kt
  exact ⟨_, _, _, own_mono X2 (by decide) (by decide), e2, N2, K2, Z2, V2, go3⟩
set_option maxRecDepth 65536 in
set_option maxHeartbeats 40000000 in
theorem own_fillLoop {p : Program} {l : Launch} {e : Env} {s : State} {m : MethodId} {args : Array Value} {below : List Frame} {meth : Method} {c : Code} {Z : State} {a0 : Array Value} {n0 : Nat} (a : Addr) (v z : Int32) (ka : ClassId) (hx : p.tables.exec = Jvm.exec) (hZ : Z.Warmed39 s.vm) (hw : ∀ d ∈ tables_1, d.before a0 Z = true) (hby : c.code = jdk_65_method_109_code) (hml : c.maxLocals = 4) (hown : s.vm.findClass "java/util/Arrays" = some m.cls) (hz : ¬ z < 0) (ge : n0 ≤ a) : ∀ (k : Nat) (i : Int32) (T0 : State) (h0 : Heap) (locs : List Loc) (vs : List Value), Stand p l e ({ frames := 0, cells := 0, slots := 0, locals := 0 } : Room) s m args below meth c T0 locs 0 0 → T0.heap = h0 → Fr n0 locs → n0 ≤ h0.size → ¬ (i < 0) → i.toNatClampNeg + k = z.toNatClampNeg → vs.length = k → Arv Z h0 a ka .byte z (List.replicate i.toNatClampNeg (.int (v.toInt8.toInt32)) ++ vs) (.int (0 : Int32)) →
    ∃ (T' : State) (h' : Heap) (L' : List Loc), Stand p l e ({ frames := 0, cells := 0, slots := 0, locals := 0 } : Room) s m args below meth c T' L' 0 0 ∧ T'.heap = h' ∧ Fr n0 L' ∧ Keep h0 h' ([a] : List Addr) ∧ n0 ≤ h'.size ∧ Arv Z h' a ka .byte z (List.replicate z.toNatClampNeg (.int (v.toInt8.toInt32))) (.int (0 : Int32)) ∧ ∀ t, Steps p.tables e below (T'.setTop (mkF m 5 #[.val (.ref a), .val (.int v), .val (.int z), .val (.int z)] [])) t → Steps p.tables e below (T0.setTop (mkF m 5 #[.val (.ref a), .val (.int v), .val (.int i), .val (.int z)] [])) t := by
  intro k
  induction k with
  | zero =>
    intro i T0 h0 locs vs X0 e0 N0 Z0 hi hk hl V0
    have e : i = z := own_same hi hz (by omega)
    subst e
    have hv : vs = [] := List.eq_nil_of_length_eq_zero hl
    subst hv
    rw [List.append_nil] at V0
    exact ⟨T0, h0, locs, X0, e0, N0, Keep.refl _ _, Z0, V0, fun _ kt => kt⟩
  | succ k ih =>
    intro i T0 h0 locs vs X0 e0 N0 Z0 hi hk hl V0
    have hlt := own_below hi hz hk
    obtain ⟨c1, c2, c3⟩ := own_clamp hi hlt
    obtain ⟨x, rest, rfl⟩ : ∃ x rest, vs = x :: rest := by
      cases vs with
      | nil => simp at hl
      | cons x r => exact ⟨x, r, rfl⟩
    obtain ⟨T1, h1, L1, X1, e1, N1, K1, Z1, V1, st1⟩ := own_fillTurn a v i z ka _ X0 hx hZ hw hby hml hown e0 N0 Z0 V0 hi hlt (by simp) ge
    rw [own_setrep, ← c1] at V1
    obtain ⟨T2, h2, L2, X2, e2, N2, K2, Z2, V2, st2⟩ := ih (i + 1) T1 h1 L1 rest X1 e1 N1 Z1 c2 (by omega) (by simpa using hl) V1
    exact ⟨T2, h2, L2, X2, e2, N2, K1.trans K2 (fun x hx => Or.inl hx), Z2, V2, fun t kt => st1 t (st2 t kt)⟩
theorem own_fillAll {p : Program} {l : Launch} {e : Env} {s : State} {m : MethodId} {args : Array Value} {below : List Frame} {meth : Method} {c : Code} {Z : State} {a0 : Array Value} {n0 : Nat} {T0 : State} {locs : List Loc} {h0 : Heap} (a : Addr) (v z : Int32) (ka : ClassId) (vs : List Value) (X0 : Stand p l e ({ frames := 0, cells := 0, slots := 0, locals := 0 } : Room) s m args below meth c T0 locs 0 0) (hx : p.tables.exec = Jvm.exec) (hZ : Z.Warmed39 s.vm) (hw : ∀ d ∈ tables_1, d.before a0 Z = true) (hby : c.code = jdk_65_method_109_code) (hml : c.maxLocals = 4) (hown : s.vm.findClass "java/util/Arrays" = some m.cls) (e0 : T0.heap = h0) (N0 : Fr n0 locs) (Z0 : n0 ≤ h0.size) (V0 : Arv Z h0 a ka .byte z vs (.int (0 : Int32))) (hl : vs.length = z.toNatClampNeg) (ge : n0 ≤ a) :
    ∃ (T' : State) (h' : Heap) (L' : List Loc), Stand p l e ({ frames := 0, cells := 0, slots := 0, locals := 0 } : Room) s m args below meth c T' L' 0 0 ∧ T'.heap = h' ∧ Fr n0 L' ∧ Keep h0 h' ([a] : List Addr) ∧ n0 ≤ h'.size ∧ Arv Z h' a ka .byte z (List.replicate z.toNatClampNeg (.int (v.toInt8.toInt32))) (.int (0 : Int32)) ∧ ∀ t, Steps p.tables e below (T'.setTop (mkF m 5 #[.val (.ref a), .val (.int v), .val (.int z), .val (.int z)] [])) t → Steps p.tables e below (T0.setTop (mkF m 5 #[.val (.ref a), .val (.int v), .val (.int (0 : Int32)), .val (.int z)] [])) t := by
  have hz : ¬ z < 0 := by obtain ⟨_, _, _, _, h, _⟩ := V0; exact h
  exact own_fillLoop a v z ka hx hZ hw hby hml hown hz ge z.toNatClampNeg 0 T0 h0 locs vs X0 e0 N0 Z0 (by decide) (by rw [show (0 : Int32).toNatClampNeg = 0 from rfl, Nat.zero_add]) hl (by rw [show (0 : Int32).toNatClampNeg = 0 from rfl]; exact V0)
theorem ef_own_fill (m : MethodId) (pr0 : Addr) (pi1 : Int32) : entryFrame m #[(.ref pr0), (.int pi1)] 4 = mkF m 0 #[.val (.ref pr0), .val (.int pi1), .unset, .unset] [] := by first | (simp [entryFrame, mkF, argsToLocals, Value.category]; done) | rfl
def Q_own_fill (Z : State) (pr0 : Addr) (pi1 : Int32) (ka : ClassId) (wz : Int32) (vs : List Value) (h0 : Heap) (n0 : Nat) (v : Option Value) (h : Heap) (L : List Loc) : Prop := Fr n0 L ∧ v = none ∧ Keep h0 h ([pr0] : List Addr) ∧ Arv Z h pr0 ka .byte wz (List.replicate wz.toNatClampNeg (.int (pi1.toInt8.toInt32))) (.int (0 : Int32))
set_option maxRecDepth 65536 in
set_option maxHeartbeats 40000000 in
theorem own_fill (l : Launch) (Z : State) (a0 : Array Value) (hw : ∀ d ∈ tables_1, d.before a0 Z = true) (ws : List Jvm.Cond) (pr0 : Addr) (pi1 : Int32) (ka : ClassId) (wz : Int32) (vs : List Value) (h0 : Heap) (n0 : Nat) (Z0 : n0 ≤ h0.size) (P0 : Arv Z h0 pr0 ka .byte wz vs (.int (0 : Int32))) (P1 : vs.length = wz.toNatClampNeg) (P2 : n0 ≤ pr0) :
    MetFree l (⟨"java/util/Arrays", "fill", "([BB)V"⟩ : MethodName) (head1 (Jvm.Cond.code (⟨"java/util/Arrays", "fill", "([BB)V"⟩ : MethodName) jdk_65_method_109_code 4 none :: ws) ({ frames := 0, cells := 0, slots := 0, locals := 0 } : Room)) (fun a U => a = #[(.ref pr0), (.int pi1)] ∧ Z.Warmed39 U.vm ∧ U.heap = h0) (fun _ _ _ _ _ => True) (fun _ U o U' => ∃ v L, o = .returned v ∧ Q_own_fill Z pr0 pi1 ka wz vs h0 n0 v U'.heap L ∧ FrameEnd U o U' L ({ frames := 0, cells := 0, slots := 0, locals := 0 } : Room).cells ({ frames := 0, cells := 0, slots := 0, locals := 0 } : Room).slots) := by
  refine MetFree.of_bodySF (plainFor_of_name pn_14) hisR ?_
  intro p e s m args below meth c s₁ Bd hml0 hP hK
  obtain ⟨rfl, hZ, hh⟩ := hP
  have hx := Bd.exec
  have hby := Bd.bytes
  have hml : c.maxLocals = 4 := hml0
  have hown : s.vm.findClass "java/util/Arrays" = some m.cls := findClass_of_methodNamed Bd.named
  have hnm := (name_of_methodNamed Bd.named Bd.method).1
  have X0 : Stand p l e ({ frames := 0, cells := 0, slots := 0, locals := 0 } : Room) s m #[(.ref pr0), (.int pi1)] below meth c s₁ [] 0 0 := Stand.of_body Bd
  have e0 : s₁.heap = h0 := by rw [← hh, Bd.state]; rfl
  have N0 := Fr.nil n0
  have go0 : ∀ t, Steps p.tables e below (s₁.setTop (mkF m 0 #[.val (.ref pr0), .val (.int pi1), .unset, .unset] [])) t → Steps p.tables e below (s₁.setTop (entryFrame m #[(.ref pr0), (.int pi1)] 4)) t := fun t k => castTop (ef_own_fill m pr0 pi1) k
  revert go0
  generalize s₁.setTop (entryFrame m #[(.ref pr0), (.int pi1)] 4) = st0
  intro go0
  obtain ⟨cl1, Ar1, q1, S1, N1, H1, G1⟩ := id P0
  obtain ⟨T2, h2, L2, X2, e2, N2, Kc2, Z2, p2_0, st2⟩ := own_fillAll pr0 pi1 wz ka vs X0 hx hZ hw hby hml hown e0 N0 Z0 P0 P1 P2
  have K2 : Keep h0 h2 ([pr0] : List Addr) := (Keep.refl h0 ([pr0] : List Addr)).trans Kc2 (allS (P := fun x => x ∈ ([pr0] : List Addr) ∨ h0.size ≤ x) (Or.inl (List.mem_of_getElem? (i := 0) rfl)) all0)
  have hk3 : ¬ (wz < wz) := Int32.lt_irrefl
  have go4 : ∀ t, Steps p.tables e below (T2.setTop (mkF m 20 #[.val (.ref pr0), .val (.int pi1), .val (.int wz), .val (.int wz)] [])) t → Steps p.tables e below st0 t := by
    intro t kt
    refine go0 t ?_
    refine XS.iconst X0.here hx rfl (hb hby d13_0) ?_
    show Steps p.tables e below (s₁.setTop (mkF m 1 #[.val (.ref pr0), .val (.int pi1), .unset, .unset] [(.int (0 : Int32))])) _
    refine XS.istoreN X0.here hx rfl (hb hby d13_1) rfl (l' := #[.val (.ref pr0), .val (.int pi1), .val (.int (0 : Int32)), .unset]) rfl ?_
    show Steps p.tables e below (s₁.setTop (mkF m 2 #[.val (.ref pr0), .val (.int pi1), .val (.int (0 : Int32)), .unset] [])) _
    refine XS.aloadN X0.here hx rfl (hb hby d13_2) rfl rfl ?_
    show Steps p.tables e below (s₁.setTop (mkF m 3 #[.val (.ref pr0), .val (.int pi1), .val (.int (0 : Int32)), .unset] [(.ref pr0)])) _
    refine X0.arraylength hx (by rw [e0]; exact Ar1.1) (State.isArrayOf_alike hZ.alike Ar1.2.1) (g := (mkF m 3 #[.val (.ref pr0), .val (.int pi1), .val (.int (0 : Int32)), .unset] [(.ref pr0)])) rfl rfl (hb hby d13_3) _ ?_
    rw [len_of S1 N1]
    show Steps p.tables e below (s₁.setTop (mkF m 4 #[.val (.ref pr0), .val (.int pi1), .val (.int (0 : Int32)), .unset] [(.int wz)])) _
    refine XS.istoreN X0.here hx rfl (hb hby d13_4) rfl (l' := #[.val (.ref pr0), .val (.int pi1), .val (.int (0 : Int32)), .val (.int wz)]) rfl ?_
    show Steps p.tables e below (s₁.setTop (mkF m 5 #[.val (.ref pr0), .val (.int pi1), .val (.int (0 : Int32)), .val (.int wz)] [])) _
    refine st2 _ ?_
    show Steps p.tables e below (T2.setTop (mkF m 5 #[.val (.ref pr0), .val (.int pi1), .val (.int wz), .val (.int wz)] [])) _
    refine XS.iloadN X2.here hx rfl (hb hby d13_5) rfl ?_
    show Steps p.tables e below (T2.setTop (mkF m 6 #[.val (.ref pr0), .val (.int pi1), .val (.int wz), .val (.int wz)] [(.int wz)])) _
    refine XS.iloadN X2.here hx rfl (hb hby d13_6) rfl ?_
    show Steps p.tables e below (T2.setTop (mkF m 7 #[.val (.ref pr0), .val (.int pi1), .val (.int wz), .val (.int wz)] [(.int wz), (.int wz)])) _
    refine XS.icmpYes X2.here hx rfl (pc0 := 7) (pc' := 20) rfl (hb hby d13_7) rfl (flt hk3).2.1 (by decide) (by decide) ?_
    show Steps p.tables e below (T2.setTop (mkF m 20 #[.val (.ref pr0), .val (.int pi1), .val (.int wz), .val (.int wz)] [])) _
    exact kt
  obtain ⟨fs, hr, hrun, hended, hW, hsame⟩ := X2.leave (v := none) (fun _ => rfl)
  refine ⟨_, _, go4 _ ?_, hrun, hended, _, _, rfl, ?_, ⟨_, rfl⟩, hW, hsame.mono (by decide) (by decide)⟩
  · exact X2.returnOut hx Bd.returns (hb hby d13_20) hr
  · show Q_own_fill Z pr0 pi1 ka wz vs h0 n0 _ T2.heap _
    rw [e2]
    exact ⟨N2, rfl, K2, p2_0⟩
theorem ef_own_links (m : MethodId) (pr0 : Addr) (pr1 : Addr) : entryFrame m #[(.ref pr0), (.ref pr1)] 2 = mkF m 0 #[.val (.ref pr0), .val (.ref pr1)] [] := by first | (simp [entryFrame, mkF, argsToLocals, Value.category]; done) | rfl
def Q_own_links (Z : State) (pr0 : Addr) (pr1 : Addr) (nb : Addr) (kn : ClassId) (c0 : Addr) (c1 : Addr) (c2 : Addr) (c3 : Addr) (c4 : Addr) (c5 : Addr) (c6 : Addr) (c7 : Addr) (wr : Int32) (wc : Int32) (h0 : Heap) (n0 : Nat) (v : Option Value) (h : Heap) (L : List Loc) : Prop := Fr n0 L ∧ ∃ (bl : Addr) (bs : Addr) (kl : ClassId) (ks : ClassId), v = none ∧ h0.size ≤ bl ∧ h0.size ≤ bs ∧ Keep h0 h ([pr0] : List Addr) ∧ Exa Z h pr0 "com/example/hoofprint/hoofprint/service/TourLinks" ∧ Fld Z h pr0 "com/example/hoofprint/hoofprint/service/TourLinks" "board" "Lcom/example/hoofprint/hoofprint/model/Board;" (.ref pr1) ∧ Fld Z h pr0 "com/example/hoofprint/hoofprint/service/TourLinks" "links" "[B" (.ref bl) ∧ Fld Z h pr0 "com/example/hoofprint/hoofprint/service/TourLinks" "indexStep" "[I" (.ref bs) ∧ Arv Z h bl kl .byte (wr * wc) (List.replicate (wr * wc).toNatClampNeg (.int ((-120 : Int32).toInt8.toInt32))) (.int (0 : Int32)) ∧ Arv Z h bs ks .int (8 : Int32) [(.int (((-2 : Int32) * wc) + (-1 : Int32))), (.int (((-2 : Int32) * wc) + (1 : Int32))), (.int (((-1 : Int32) * wc) + (-2 : Int32))), (.int (((-1 : Int32) * wc) + (2 : Int32))), (.int (((1 : Int32) * wc) + (-2 : Int32))), (.int (((1 : Int32) * wc) + (2 : Int32))), (.int (((2 : Int32) * wc) + (-1 : Int32))), (.int (((2 : Int32) * wc) + (1 : Int32)))] (.int (0 : Int32)) ∧ bl ≠ bs
set_option maxRecDepth 65536 in
set_option maxHeartbeats 40000000 in
theorem own_links (l : Launch) (Z : State) (a0 : Array Value) (hw : ∀ d ∈ tables_1, d.before a0 Z = true) (ws : List Jvm.Cond) (pr0 : Addr) (pr1 : Addr) (nb : Addr) (kn : ClassId) (c0 : Addr) (c1 : Addr) (c2 : Addr) (c3 : Addr) (c4 : Addr) (c5 : Addr) (c6 : Addr) (c7 : Addr) (wr : Int32) (wc : Int32) (h0 : Heap) (n0 : Nat) (Z0 : n0 ≤ h0.size) (P0 : Sta Z h0 "com/example/hoofprint/hoofprint/model/KnightMove" "NUMBERED" "[Lcom/example/hoofprint/hoofprint/model/KnightMove;" (.ref nb)) (P1 : Arv Z h0 nb kn (.object "com/example/hoofprint/hoofprint/model/KnightMove") (8 : Int32) [(.ref c0), (.ref c1), (.ref c2), (.ref c3), (.ref c4), (.ref c5), (.ref c6), (.ref c7)] .null) (P2 : Exa Z h0 c0 "com/example/hoofprint/hoofprint/model/KnightMove") (P3 : Fld Z h0 c0 "java/lang/Enum" "ordinal" "I" (.int (0 : Int32))) (P4 : Fld Z h0 c0 "com/example/hoofprint/hoofprint/model/KnightMove" "rows" "I" (.int (-2 : Int32))) (P5 : Fld Z h0 c0 "com/example/hoofprint/hoofprint/model/KnightMove" "columns" "I" (.int (-1 : Int32))) (P6 : Exa Z h0 c1 "com/example/hoofprint/hoofprint/model/KnightMove") (P7 : Fld Z h0 c1 "java/lang/Enum" "ordinal" "I" (.int (1 : Int32))) (P8 : Fld Z h0 c1 "com/example/hoofprint/hoofprint/model/KnightMove" "rows" "I" (.int (-2 : Int32))) (P9 : Fld Z h0 c1 "com/example/hoofprint/hoofprint/model/KnightMove" "columns" "I" (.int (1 : Int32))) (P10 : Exa Z h0 c2 "com/example/hoofprint/hoofprint/model/KnightMove") (P11 : Fld Z h0 c2 "java/lang/Enum" "ordinal" "I" (.int (2 : Int32))) (P12 : Fld Z h0 c2 "com/example/hoofprint/hoofprint/model/KnightMove" "rows" "I" (.int (-1 : Int32))) (P13 : Fld Z h0 c2 "com/example/hoofprint/hoofprint/model/KnightMove" "columns" "I" (.int (-2 : Int32))) (P14 : Exa Z h0 c3 "com/example/hoofprint/hoofprint/model/KnightMove") (P15 : Fld Z h0 c3 "java/lang/Enum" "ordinal" "I" (.int (3 : Int32))) (P16 : Fld Z h0 c3 "com/example/hoofprint/hoofprint/model/KnightMove" "rows" "I" (.int (-1 : Int32))) (P17 : Fld Z h0 c3 "com/example/hoofprint/hoofprint/model/KnightMove" "columns" "I" (.int (2 : Int32))) (P18 : Exa Z h0 c4 "com/example/hoofprint/hoofprint/model/KnightMove") (P19 : Fld Z h0 c4 "java/lang/Enum" "ordinal" "I" (.int (4 : Int32))) (P20 : Fld Z h0 c4 "com/example/hoofprint/hoofprint/model/KnightMove" "rows" "I" (.int (1 : Int32))) (P21 : Fld Z h0 c4 "com/example/hoofprint/hoofprint/model/KnightMove" "columns" "I" (.int (-2 : Int32))) (P22 : Exa Z h0 c5 "com/example/hoofprint/hoofprint/model/KnightMove") (P23 : Fld Z h0 c5 "java/lang/Enum" "ordinal" "I" (.int (5 : Int32))) (P24 : Fld Z h0 c5 "com/example/hoofprint/hoofprint/model/KnightMove" "rows" "I" (.int (1 : Int32))) (P25 : Fld Z h0 c5 "com/example/hoofprint/hoofprint/model/KnightMove" "columns" "I" (.int (2 : Int32))) (P26 : Exa Z h0 c6 "com/example/hoofprint/hoofprint/model/KnightMove") (P27 : Fld Z h0 c6 "java/lang/Enum" "ordinal" "I" (.int (6 : Int32))) (P28 : Fld Z h0 c6 "com/example/hoofprint/hoofprint/model/KnightMove" "rows" "I" (.int (2 : Int32))) (P29 : Fld Z h0 c6 "com/example/hoofprint/hoofprint/model/KnightMove" "columns" "I" (.int (-1 : Int32))) (P30 : Exa Z h0 c7 "com/example/hoofprint/hoofprint/model/KnightMove") (P31 : Fld Z h0 c7 "java/lang/Enum" "ordinal" "I" (.int (7 : Int32))) (P32 : Fld Z h0 c7 "com/example/hoofprint/hoofprint/model/KnightMove" "rows" "I" (.int (2 : Int32))) (P33 : Fld Z h0 c7 "com/example/hoofprint/hoofprint/model/KnightMove" "columns" "I" (.int (1 : Int32))) (P34 : Sta Z h0 "com/example/hoofprint/hoofprint/service/TourLinks" "NO_MOVE" "I" (.int (8 : Int32))) (P35 : Exa Z h0 pr1 "com/example/hoofprint/hoofprint/model/Board") (P36 : Fld Z h0 pr1 "com/example/hoofprint/hoofprint/model/Board" "rows" "I" (.int wr)) (P37 : Fld Z h0 pr1 "com/example/hoofprint/hoofprint/model/Board" "columns" "I" (.int wc)) (P38 : Exa Z h0 pr0 "com/example/hoofprint/hoofprint/service/TourLinks") (P39 : Fld Z h0 pr0 "com/example/hoofprint/hoofprint/service/TourLinks" "board" "Lcom/example/hoofprint/hoofprint/model/Board;" .null) (P40 : Fld Z h0 pr0 "com/example/hoofprint/hoofprint/service/TourLinks" "links" "[B" .null) (P41 : Fld Z h0 pr0 "com/example/hoofprint/hoofprint/service/TourLinks" "indexStep" "[I" .null) (P42 : pr1 ≠ pr0) (P43 : nb ≠ pr0) (P44 : c0 ≠ pr0) (P45 : c1 ≠ pr0) (P46 : c2 ≠ pr0) (P47 : c3 ≠ pr0) (P48 : c4 ≠ pr0) (P49 : c5 ≠ pr0) (P50 : c6 ≠ pr0) (P51 : c7 ≠ pr0) (P52 : ¬ ((wr * wc) < 0)) (P53 : (wr * wc).toNatClampNeg ≤ 16384) (P54 : n0 ≤ pr0) :
    MetFree l (⟨"com/example/hoofprint/hoofprint/service/TourLinks", "<init>", "(Lcom/example/hoofprint/hoofprint/model/Board;)V"⟩ : MethodName) (head1 (Jvm.Cond.code (⟨"com/example/hoofprint/hoofprint/service/TourLinks", "<init>", "(Lcom/example/hoofprint/hoofprint/model/Board;)V"⟩ : MethodName) prog_55_method_1_code 2 none :: ws) ({ frames := 3, cells := 2, slots := 16392, locals := 43 } : Room)) (fun a U => a = #[(.ref pr0), (.ref pr1)] ∧ Z.Warmed39 U.vm ∧ U.heap = h0) (fun _ _ _ _ _ => True) (fun _ U o U' => ∃ v L, o = .returned v ∧ Q_own_links Z pr0 pr1 nb kn c0 c1 c2 c3 c4 c5 c6 c7 wr wc h0 n0 v U'.heap L ∧ FrameEnd U o U' L ({ frames := 3, cells := 2, slots := 16392, locals := 43 } : Room).cells ({ frames := 3, cells := 2, slots := 16392, locals := 43 } : Room).slots) := by
  refine MetFree.of_bodySF (plainFor_of_name pn_18) hisR ?_
  intro p e s m args below meth c s₁ Bd hml0 hP hK
  obtain ⟨rfl, hZ, hh⟩ := hP
  have hx := Bd.exec
  have hby := Bd.bytes
  have hml : c.maxLocals = 2 := hml0
  have hown : s.vm.findClass "com/example/hoofprint/hoofprint/service/TourLinks" = some m.cls := findClass_of_methodNamed Bd.named
  have hnm := (name_of_methodNamed Bd.named Bd.method).1
  have X0 : Stand p l e ({ frames := 3, cells := 2, slots := 16392, locals := 43 } : Room) s m #[(.ref pr0), (.ref pr1)] below meth c s₁ [] 0 0 := Stand.of_body Bd
  have e0 : s₁.heap = h0 := by rw [← hh, Bd.state]; rfl
  have N0 := Fr.nil n0
  have go0 : ∀ t, Steps p.tables e below (s₁.setTop (mkF m 0 #[.val (.ref pr0), .val (.ref pr1)] [])) t → Steps p.tables e below (s₁.setTop (entryFrame m #[(.ref pr0), (.ref pr1)] 2)) t := fun t k => castTop (ef_own_links m pr0 pr1) k
  revert go0
  generalize s₁.setTop (entryFrame m #[(.ref pr0), (.ref pr1)] 2) = st0
  intro go0
  obtain ⟨T1, X1, e1, st1⟩ := initO X0 hx hZ hown (hw _ (List.mem_of_getElem? (i := 26) rfl)) (hw _ (List.mem_of_getElem? (i := 13) rfl)) (hw _ (List.mem_of_getElem? (i := 14) rfl)) e0 (g := (mkF m 1 #[.val (.ref pr0), .val (.ref pr1)] [(.ref pr0)])) rfl (by rw [hml]; rfl) rfl (hb hby d15_1) (by decide) (W := 0) (by show 2 * 0 + _ ≤ _; exact Nat.le_of_eq rfl) (by decide)
  obtain ⟨T2, h2, X2, e2, W2, st2⟩ := putF X1 hx hZ hown (host := "") (Or.inl (hw _ (List.mem_of_getElem? (i := 27) rfl))) Via.refl e1 P39 P38 (Or.inr ⟨(hw _ (List.mem_of_getElem? (i := 28) rfl)), rfl, hnm⟩) (hw _ (List.mem_of_getElem? (i := 21) rfl)) (ty := (.object "com/example/hoofprint/hoofprint/model/Board")) (by decide) rfl rfl (g := (mkF m 6 #[.val (.ref pr0), .val (.ref pr1)] [(.ref pr1), (.ref pr0)])) rfl rfl (hb hby d15_6)
  have K2 : Keep h0 h2 ([pr0] : List Addr) := (Keep.refl h0 ([pr0] : List Addr)).wr W2 (Or.inl (List.mem_of_getElem? (i := 0) rfl))
  have N2 := Fr.snoc X2 N0 P54
  have Z2 : n0 ≤ h2.size := Nat.le_trans Z0 (Keep.of_wr W2).1
  have Fw2 := P39.same W2
  have f3 : Fld Z h2 pr1 "com/example/hoofprint/hoofprint/model/Board" "rows" "I" (.int wr) := (P36.other W2 (Or.inl P42))
  have f4 : Fld Z h2 pr1 "com/example/hoofprint/hoofprint/model/Board" "columns" "I" (.int wc) := (P37.other W2 (Or.inl P42))
  have f6 : Exa Z h2 pr1 "com/example/hoofprint/hoofprint/model/Board" := (P35.wr W2)
  obtain ⟨cq5, kq5, q5a, q5b, q5c⟩ := isOf hZ e2 f6
  obtain ⟨_, _, ⟨T5, L5, k5, n5⟩, -, X5, ⟨Lc5, hQ5, l5, y5, z5⟩, st5⟩ := X2.virtualBack hx (y := (⟨"com/example/hoofprint/hoofprint/model/Board", "squares", "()I"⟩ : MethodName)) (z := (⟨"com/example/hoofprint/hoofprint/model/Board", "squares", "()I"⟩ : MethodName)) hown (mvT hZ (hw _ (List.mem_of_getElem? (i := 29) rfl))) (mvT hZ (hw _ (List.mem_of_getElem? (i := 30) rfl))) (notFace_of_selects (args := #[]) (mvT hZ (hw _ (List.mem_of_getElem? (i := 32) rfl)))) (mvT hZ (hw _ (List.mem_of_getElem? (i := 32) rfl))) (mvT hZ (hw _ (List.mem_of_getElem? (i := 31) rfl))) (by decide) (backOf (W := 1) (own_squares l Z a0 hw [] pr1 wr wc h2 n0 Z2 f3 f4) hZ (hw _ (List.mem_of_getElem? (i := 33) rfl)) (hw _ (List.mem_of_getElem? (i := 3) rfl)) (by decide) (by decide)) q5a q5c (g := (mkF m 11 #[.val (.ref pr0), .val (.ref pr1)] [(.ref pr1), (.ref pr0)])) rfl (by rw [hml]; rfl) (Steps.refl _) (argsL := []) (rest := [(.ref pr0)]) (lenOf pd_10 rfl) rfl (by show 2 * 0 + _ ≤ _; exact Nat.le_of_eq rfl) (hb hby d15_11) (fun _ _ => ⟨rfl, e2, (by decide : 0 + 0 ≤ _), (by decide : 0 + 0 ≤ _)⟩)
  dsimp only [Pt.U, Pt.locs, Pt.cells, Pt.slots] at X5 l5 y5 z5 st5 hQ5
  subst l5 y5 z5
  obtain ⟨rfl, Nq5, e5⟩ := hQ5
  have N5 := Fr.app N2 Nq5
  obtain ⟨T7, h7, k7, X7, e7, E7, A7, st7⟩ := newP X5 hx hZ (hw _ (List.mem_of_getElem? (i := 34) rfl)) e5 (g := (mkF m 14 #[.val (.ref pr0), .val (.ref pr1)] [(.int (wr * wc)), (.ref pr0)])) rfl (hb hby d15_14) rfl P52 (cap := 16384) P53 (by decide) (by decide) (by decide)
  obtain ⟨b7, g7⟩ : ∃ zsz, zsz = h2.size := ⟨_, rfl⟩
  rw [← g7] at A7 st7
  have f8 : Exa Z h2 c0 "com/example/hoofprint/hoofprint/model/KnightMove" := (P2.wr W2)
  have ne7_c0 : c0 ≠ b7 := Nat.ne_of_lt (Nat.lt_of_lt_of_eq f8.lt g7.symm)
  have f9 : Exa Z h2 c6 "com/example/hoofprint/hoofprint/model/KnightMove" := (P26.wr W2)
  have ne7_c6 : c6 ≠ b7 := Nat.ne_of_lt (Nat.lt_of_lt_of_eq f9.lt g7.symm)
  have f10 : Exa Z h2 c3 "com/example/hoofprint/hoofprint/model/KnightMove" := (P14.wr W2)
  have ne7_c3 : c3 ≠ b7 := Nat.ne_of_lt (Nat.lt_of_lt_of_eq f10.lt g7.symm)
  have f11 : Exa Z h2 c4 "com/example/hoofprint/hoofprint/model/KnightMove" := (P18.wr W2)
  have ne7_c4 : c4 ≠ b7 := Nat.ne_of_lt (Nat.lt_of_lt_of_eq f11.lt g7.symm)
  have f12 : Exa Z h2 pr0 "com/example/hoofprint/hoofprint/service/TourLinks" := (P38.wr W2)
  have ne7_pr0 : pr0 ≠ b7 := Nat.ne_of_lt (Nat.lt_of_lt_of_eq f12.lt g7.symm)
  have f13 : Exa Z h2 c5 "com/example/hoofprint/hoofprint/model/KnightMove" := (P22.wr W2)
  have ne7_c5 : c5 ≠ b7 := Nat.ne_of_lt (Nat.lt_of_lt_of_eq f13.lt g7.symm)
  have f14 : Exa Z h2 c7 "com/example/hoofprint/hoofprint/model/KnightMove" := (P30.wr W2)
  have ne7_c7 : c7 ≠ b7 := Nat.ne_of_lt (Nat.lt_of_lt_of_eq f14.lt g7.symm)
  have f15 : Exa Z h2 c2 "com/example/hoofprint/hoofprint/model/KnightMove" := (P10.wr W2)
  have ne7_c2 : c2 ≠ b7 := Nat.ne_of_lt (Nat.lt_of_lt_of_eq f15.lt g7.symm)
  have f16 : Arv Z h2 nb kn (.object "com/example/hoofprint/hoofprint/model/KnightMove") (8 : Int32) [(.ref c0), (.ref c1), (.ref c2), (.ref c3), (.ref c4), (.ref c5), (.ref c6), (.ref c7)] .null := (P1.other W2 P43)
  have ne7_nb : nb ≠ b7 := Nat.ne_of_lt (Nat.lt_of_lt_of_eq f16.lt g7.symm)
  have ne7_pr1 : pr1 ≠ b7 := Nat.ne_of_lt (Nat.lt_of_lt_of_eq f6.lt g7.symm)
  have f17 : Exa Z h2 c1 "com/example/hoofprint/hoofprint/model/KnightMove" := (P6.wr W2)
  have ne7_c1 : c1 ≠ b7 := Nat.ne_of_lt (Nat.lt_of_lt_of_eq f17.lt g7.symm)
  have ge7 : n0 ≤ b7 := Nat.le_trans Z2 (Nat.le_of_eq g7.symm)
  have sz7 : h0.size ≤ b7 := Nat.le_trans K2.1 (Nat.le_of_eq g7.symm)
  have Z7 : n0 ≤ h7.size := Nat.le_trans Z2 E7.1
  have K7 : Keep h0 h7 ([pr0] : List Addr) := K2.ext E7
  have V7 : Arv Z h7 b7 k7 .byte (wr * wc) (List.replicate (wr * wc).toNatClampNeg (.int (0 : Int32))) (.int (0 : Int32)) := (Arv.new A7 P52).pad (pad_rep [] (.int (0 : Int32)) _)
  have f18 : Fld Z h7 pr0 "com/example/hoofprint/hoofprint/service/TourLinks" "links" "[B" .null := ((P40.other W2 (Or.inr (slot_ne (Or.inr (hw _ (List.mem_of_getElem? (i := 36) rfl))) (Or.inr (hw _ (List.mem_of_getElem? (i := 28) rfl))) (by decide) (t := (.array .byte)) (t' := (.object "com/example/hoofprint/hoofprint/model/Board")) (by decide) (by decide)))).ext E7)
  have f19 : Exa Z h7 pr0 "com/example/hoofprint/hoofprint/service/TourLinks" := (f12.ext E7)
  obtain ⟨T20, h20, X20, e20, W20, st20⟩ := putF X7 hx hZ hown (host := "") (Or.inl (hw _ (List.mem_of_getElem? (i := 35) rfl))) Via.refl e7 f18 f19 (Or.inr ⟨(hw _ (List.mem_of_getElem? (i := 36) rfl)), rfl, hnm⟩) (hw _ (List.mem_of_getElem? (i := 21) rfl)) (ty := (.array .byte)) (by decide) rfl rfl (g := (mkF m 16 #[.val (.ref pr0), .val (.ref pr1)] [(.ref b7), (.ref pr0)])) rfl rfl (hb hby d15_16)
  have K20 : Keep h0 h20 ([pr0] : List Addr) := K7.wr W20 (Or.inl (List.mem_of_getElem? (i := 0) rfl))
  have N20 := Fr.snoc X20 N5 P54
  have Z20 : n0 ≤ h20.size := Nat.le_trans Z7 (Keep.of_wr W20).1
  have Fw20 := f18.same W20
  have f21 : Sta Z h20 "com/example/hoofprint/hoofprint/model/KnightMove" "NUMBERED" "[Lcom/example/hoofprint/hoofprint/model/KnightMove;" (.ref nb) := (((P0.wr W2).ext E7).wr W20)
  have f22 : Arv Z h20 nb kn (.object "com/example/hoofprint/hoofprint/model/KnightMove") (8 : Int32) [(.ref c0), (.ref c1), (.ref c2), (.ref c3), (.ref c4), (.ref c5), (.ref c6), (.ref c7)] .null := ((f16.ext E7).other W20 P43)
  have f23 : Exa Z h20 c0 "com/example/hoofprint/hoofprint/model/KnightMove" := ((f8.ext E7).wr W20)
  have f24 : Fld Z h20 c0 "java/lang/Enum" "ordinal" "I" (.int (0 : Int32)) := (((P3.other W2 (Or.inl P44)).ext E7).other W20 (Or.inl P44))
  have f25 : Fld Z h20 c0 "com/example/hoofprint/hoofprint/model/KnightMove" "rows" "I" (.int (-2 : Int32)) := (((P4.other W2 (Or.inl P44)).ext E7).other W20 (Or.inl P44))
  have f26 : Fld Z h20 c0 "com/example/hoofprint/hoofprint/model/KnightMove" "columns" "I" (.int (-1 : Int32)) := (((P5.other W2 (Or.inl P44)).ext E7).other W20 (Or.inl P44))
  have f27 : Exa Z h20 c1 "com/example/hoofprint/hoofprint/model/KnightMove" := ((f17.ext E7).wr W20)
  have f28 : Fld Z h20 c1 "java/lang/Enum" "ordinal" "I" (.int (1 : Int32)) := (((P7.other W2 (Or.inl P45)).ext E7).other W20 (Or.inl P45))
  have f29 : Fld Z h20 c1 "com/example/hoofprint/hoofprint/model/KnightMove" "rows" "I" (.int (-2 : Int32)) := (((P8.other W2 (Or.inl P45)).ext E7).other W20 (Or.inl P45))
  have f30 : Fld Z h20 c1 "com/example/hoofprint/hoofprint/model/KnightMove" "columns" "I" (.int (1 : Int32)) := (((P9.other W2 (Or.inl P45)).ext E7).other W20 (Or.inl P45))
  have f31 : Exa Z h20 c2 "com/example/hoofprint/hoofprint/model/KnightMove" := ((f15.ext E7).wr W20)
  have f32 : Fld Z h20 c2 "java/lang/Enum" "ordinal" "I" (.int (2 : Int32)) := (((P11.other W2 (Or.inl P46)).ext E7).other W20 (Or.inl P46))
  have f33 : Fld Z h20 c2 "com/example/hoofprint/hoofprint/model/KnightMove" "rows" "I" (.int (-1 : Int32)) := (((P12.other W2 (Or.inl P46)).ext E7).other W20 (Or.inl P46))
  have f34 : Fld Z h20 c2 "com/example/hoofprint/hoofprint/model/KnightMove" "columns" "I" (.int (-2 : Int32)) := (((P13.other W2 (Or.inl P46)).ext E7).other W20 (Or.inl P46))
  have f35 : Exa Z h20 c3 "com/example/hoofprint/hoofprint/model/KnightMove" := ((f10.ext E7).wr W20)
  have f36 : Fld Z h20 c3 "java/lang/Enum" "ordinal" "I" (.int (3 : Int32)) := (((P15.other W2 (Or.inl P47)).ext E7).other W20 (Or.inl P47))
  have f37 : Fld Z h20 c3 "com/example/hoofprint/hoofprint/model/KnightMove" "rows" "I" (.int (-1 : Int32)) := (((P16.other W2 (Or.inl P47)).ext E7).other W20 (Or.inl P47))
  have f38 : Fld Z h20 c3 "com/example/hoofprint/hoofprint/model/KnightMove" "columns" "I" (.int (2 : Int32)) := (((P17.other W2 (Or.inl P47)).ext E7).other W20 (Or.inl P47))
  have f39 : Exa Z h20 c4 "com/example/hoofprint/hoofprint/model/KnightMove" := ((f11.ext E7).wr W20)
  have f40 : Fld Z h20 c4 "java/lang/Enum" "ordinal" "I" (.int (4 : Int32)) := (((P19.other W2 (Or.inl P48)).ext E7).other W20 (Or.inl P48))
  have f41 : Fld Z h20 c4 "com/example/hoofprint/hoofprint/model/KnightMove" "rows" "I" (.int (1 : Int32)) := (((P20.other W2 (Or.inl P48)).ext E7).other W20 (Or.inl P48))
  have f42 : Fld Z h20 c4 "com/example/hoofprint/hoofprint/model/KnightMove" "columns" "I" (.int (-2 : Int32)) := (((P21.other W2 (Or.inl P48)).ext E7).other W20 (Or.inl P48))
  have f43 : Exa Z h20 c5 "com/example/hoofprint/hoofprint/model/KnightMove" := ((f13.ext E7).wr W20)
  have f44 : Fld Z h20 c5 "java/lang/Enum" "ordinal" "I" (.int (5 : Int32)) := (((P23.other W2 (Or.inl P49)).ext E7).other W20 (Or.inl P49))
  have f45 : Fld Z h20 c5 "com/example/hoofprint/hoofprint/model/KnightMove" "rows" "I" (.int (1 : Int32)) := (((P24.other W2 (Or.inl P49)).ext E7).other W20 (Or.inl P49))
  have f46 : Fld Z h20 c5 "com/example/hoofprint/hoofprint/model/KnightMove" "columns" "I" (.int (2 : Int32)) := (((P25.other W2 (Or.inl P49)).ext E7).other W20 (Or.inl P49))
  have f47 : Exa Z h20 c6 "com/example/hoofprint/hoofprint/model/KnightMove" := ((f9.ext E7).wr W20)
  have f48 : Fld Z h20 c6 "java/lang/Enum" "ordinal" "I" (.int (6 : Int32)) := (((P27.other W2 (Or.inl P50)).ext E7).other W20 (Or.inl P50))
  have f49 : Fld Z h20 c6 "com/example/hoofprint/hoofprint/model/KnightMove" "rows" "I" (.int (2 : Int32)) := (((P28.other W2 (Or.inl P50)).ext E7).other W20 (Or.inl P50))
  have f50 : Fld Z h20 c6 "com/example/hoofprint/hoofprint/model/KnightMove" "columns" "I" (.int (-1 : Int32)) := (((P29.other W2 (Or.inl P50)).ext E7).other W20 (Or.inl P50))
  have f51 : Exa Z h20 c7 "com/example/hoofprint/hoofprint/model/KnightMove" := ((f14.ext E7).wr W20)
  have f52 : Fld Z h20 c7 "java/lang/Enum" "ordinal" "I" (.int (7 : Int32)) := (((P31.other W2 (Or.inl P51)).ext E7).other W20 (Or.inl P51))
  have f53 : Fld Z h20 c7 "com/example/hoofprint/hoofprint/model/KnightMove" "rows" "I" (.int (2 : Int32)) := (((P32.other W2 (Or.inl P51)).ext E7).other W20 (Or.inl P51))
  have f54 : Fld Z h20 c7 "com/example/hoofprint/hoofprint/model/KnightMove" "columns" "I" (.int (1 : Int32)) := (((P33.other W2 (Or.inl P51)).ext E7).other W20 (Or.inl P51))
  have f55 : Exa Z h20 pr1 "com/example/hoofprint/hoofprint/model/Board" := ((f6.ext E7).wr W20)
  have f56 : Fld Z h20 pr1 "com/example/hoofprint/hoofprint/model/Board" "columns" "I" (.int wc) := ((f4.ext E7).other W20 (Or.inl P42))
  obtain ⟨_, _, ⟨T57, L57, k57, n57⟩, -, X57, ⟨Lc57, hQ57, l57, y57, z57⟩, st57⟩ := Jvm.LawKit.callS X20 hx (y := (⟨"com/example/hoofprint/hoofprint/model/KnightMove", "indexSteps", "(Lcom/example/hoofprint/hoofprint/model/Board;)[I"⟩ : MethodName)) hown (mvT hZ (hw _ (List.mem_of_getElem? (i := 37) rfl))) (mvT hZ (hw _ (List.mem_of_getElem? (i := 38) rfl))) (mvT hZ (hw _ (List.mem_of_getElem? (i := 39) rfl))) (mvT hZ (hw _ (List.mem_of_getElem? (i := 40) rfl))) (by decide) (backOf (W := 1) (own_steps l Z a0 hw [] pr1 nb kn c0 c1 c2 c3 c4 c5 c6 c7 wc h20 n0 Z20 f21 f22 f23 f24 f25 f26 f27 f28 f29 f30 f31 f32 f33 f34 f35 f36 f37 f38 f39 f40 f41 f42 f43 f44 f45 f46 f47 f48 f49 f50 f51 f52 f53 f54 f55 f56) hZ (hw _ (List.mem_of_getElem? (i := 40) rfl)) (hw _ (List.mem_of_getElem? (i := 39) rfl)) (by decide) (by decide)) (g := (mkF m 21 #[.val (.ref pr0), .val (.ref pr1)] [(.ref pr1), (.ref pr0)])) rfl (by rw [hml]; rfl) (argsL := [(.ref pr1)]) (rest := [(.ref pr0)]) (lenOf pd_16 rfl) rfl (by show 2 * 0 + _ ≤ _; exact Nat.le_of_eq rfl) (hb hby d15_21) (fun _ _ => ⟨rfl, e20, (by decide : 1 + 1 ≤ _), (by decide : 16384 + 8 ≤ _)⟩)
  dsimp only [Pt.U, Pt.locs, Pt.cells, Pt.slots] at X57 l57 y57 z57 st57 hQ57
  subst l57 y57 z57
  obtain ⟨Nq57, b57_0, y57_0, rfl, szb57_0, Kc57, p57_0⟩ := hQ57
  have N57 := Fr.app N20 Nq57
  have ne_b57_0_c0 : c0 ≠ b57_0 := Nat.ne_of_lt (Nat.lt_of_lt_of_le f23.lt szb57_0)
  have ne_b57_0_c6 : c6 ≠ b57_0 := Nat.ne_of_lt (Nat.lt_of_lt_of_le f47.lt szb57_0)
  have ne_b57_0_c3 : c3 ≠ b57_0 := Nat.ne_of_lt (Nat.lt_of_lt_of_le f35.lt szb57_0)
  have ne_b57_0_c4 : c4 ≠ b57_0 := Nat.ne_of_lt (Nat.lt_of_lt_of_le f39.lt szb57_0)
  have f58 : Exa Z h20 pr0 "com/example/hoofprint/hoofprint/service/TourLinks" := (f19.wr W20)
  have ne_b57_0_pr0 : pr0 ≠ b57_0 := Nat.ne_of_lt (Nat.lt_of_lt_of_le f58.lt szb57_0)
  have ne_b57_0_c5 : c5 ≠ b57_0 := Nat.ne_of_lt (Nat.lt_of_lt_of_le f43.lt szb57_0)
  have ne_b57_0_c7 : c7 ≠ b57_0 := Nat.ne_of_lt (Nat.lt_of_lt_of_le f51.lt szb57_0)
  have f59 : Arv Z h20 b7 k7 .byte (wr * wc) (List.replicate (wr * wc).toNatClampNeg (.int (0 : Int32))) (.int (0 : Int32)) := (V7.other W20 (Ne.symm ne7_pr0))
  have ne_b57_0_b7 : b7 ≠ b57_0 := Nat.ne_of_lt (Nat.lt_of_lt_of_le f59.lt szb57_0)
  have ne_b57_0_c2 : c2 ≠ b57_0 := Nat.ne_of_lt (Nat.lt_of_lt_of_le f31.lt szb57_0)
  have ne_b57_0_nb : nb ≠ b57_0 := Nat.ne_of_lt (Nat.lt_of_lt_of_le f22.lt szb57_0)
  have ne_b57_0_pr1 : pr1 ≠ b57_0 := Nat.ne_of_lt (Nat.lt_of_lt_of_le f55.lt szb57_0)
  have ne_b57_0_c1 : c1 ≠ b57_0 := Nat.ne_of_lt (Nat.lt_of_lt_of_le f27.lt szb57_0)
  have ge_b57_0 : n0 ≤ b57_0 := Nat.le_trans Z20 szb57_0
  have sk_b57_0 : h0.size ≤ b57_0 := Nat.le_trans K20.1 szb57_0
  have K57 : Keep h0 T57.heap ([pr0] : List Addr) := K20.trans Kc57 all0
  have Z57 : n0 ≤ T57.heap.size := Nat.le_trans Z20 Kc57.1
  have f60 : Fld Z T57.heap pr0 "com/example/hoofprint/hoofprint/service/TourLinks" "indexStep" "[I" .null := ((((P41.other W2 (Or.inr (slot_ne (Or.inr (hw _ (List.mem_of_getElem? (i := 76) rfl))) (Or.inr (hw _ (List.mem_of_getElem? (i := 28) rfl))) (by decide) (t := (.array .int)) (t' := (.object "com/example/hoofprint/hoofprint/model/Board")) (by decide) (by decide)))).ext E7).other W20 (Or.inr (slot_ne (Or.inr (hw _ (List.mem_of_getElem? (i := 76) rfl))) (Or.inr (hw _ (List.mem_of_getElem? (i := 36) rfl))) (by decide) (t := (.array .int)) (t' := (.array .byte)) (by decide) (by decide)))).keep Kc57 nin0)
  have f61 : Exa Z T57.heap pr0 "com/example/hoofprint/hoofprint/service/TourLinks" := (f58.keep Kc57)
  obtain ⟨T62, h62, X62, e62, W62, st62⟩ := putF X57 hx hZ hown (host := "") (Or.inl (hw _ (List.mem_of_getElem? (i := 75) rfl))) Via.refl rfl f60 f61 (Or.inr ⟨(hw _ (List.mem_of_getElem? (i := 76) rfl)), rfl, hnm⟩) (hw _ (List.mem_of_getElem? (i := 21) rfl)) (ty := (.array .int)) (by decide) rfl rfl (g := (mkF m 24 #[.val (.ref pr0), .val (.ref pr1)] [(.ref b57_0), (.ref pr0)])) rfl rfl (hb hby d15_24)
  have K62 : Keep h0 h62 ([pr0] : List Addr) := K57.wr W62 (Or.inl (List.mem_of_getElem? (i := 0) rfl))
  have N62 := Fr.snoc X62 N57 P54
  have Z62 : n0 ≤ h62.size := Nat.le_trans Z57 (Keep.of_wr W62).1
  have Fw62 := f60.same W62
  have f63 : Fld Z h62 pr0 "com/example/hoofprint/hoofprint/service/TourLinks" "links" "[B" (.ref b7) := ((Fw20.keep Kc57 nin0).other W62 (Or.inr (slot_ne (Or.inr (hw _ (List.mem_of_getElem? (i := 36) rfl))) (Or.inr (hw _ (List.mem_of_getElem? (i := 76) rfl))) (by decide) (t := (.array .byte)) (t' := (.array .int)) (by decide) (by decide))))
  obtain ⟨T64, X64, e64, st64⟩ := getF X62 hx hZ hown (host := "") (Or.inl (hw _ (List.mem_of_getElem? (i := 35) rfl))) Via.refl e62 f63 (g := (mkF m 28 #[.val (.ref pr0), .val (.ref pr1)] [(.ref pr0)])) rfl rfl (hb hby d15_28)
  have f65 : Sta Z h62 "com/example/hoofprint/hoofprint/service/TourLinks" "NO_MOVE" "I" (.int (8 : Int32)) := ((own_sta_keep (((P34.wr W2).ext E7).wr W20) Kc57 all0).wr W62)
  obtain ⟨T66, X66, e66, st66⟩ := getS2 X64 hx hZ hown (host := "") (Or.inl (hw _ (List.mem_of_getElem? (i := 77) rfl))) Via.refl e64 f65 (g := (mkF m 31 #[.val (.ref pr0), .val (.ref pr1)] [(.ref b7)])) rfl (hb hby d15_31)
  obtain ⟨T67, X67, e67, st67⟩ := getS2 X66 hx hZ hown (host := "") (Or.inl (hw _ (List.mem_of_getElem? (i := 77) rfl))) Via.refl e66 f65 (g := (mkF m 36 #[.val (.ref pr0), .val (.ref pr1)] [(.int (128 : Int32)), (.ref b7)])) rfl (hb hby d15_36)
  have f68 : Arv Z h62 b7 k7 .byte (wr * wc) (List.replicate (wr * wc).toNatClampNeg (.int (0 : Int32))) (.int (0 : Int32)) := ((f59.keep Kc57 nin0).other W62 (Ne.symm ne7_pr0))
  obtain ⟨_, _, ⟨T69, L69, k69, n69⟩, -, X69, ⟨Lc69, hQ69, l69, y69, z69⟩, st69⟩ := Jvm.LawKit.callS X67 hx (y := (⟨"java/util/Arrays", "fill", "([BB)V"⟩ : MethodName)) hown (mvT hZ (hw _ (List.mem_of_getElem? (i := 79) rfl))) (mvT hZ (hw _ (List.mem_of_getElem? (i := 80) rfl))) (mvT hZ (hw _ (List.mem_of_getElem? (i := 81) rfl))) (mvT hZ (hw _ (List.mem_of_getElem? (i := 82) rfl))) (by decide) (backOf (W := 0) (own_fill l Z a0 hw [] b7 (-120 : Int32) k7 (wr * wc) (List.replicate (wr * wc).toNatClampNeg (.int (0 : Int32))) h62 n0 Z62 f68 List.length_replicate ge7) hZ (hw _ (List.mem_of_getElem? (i := 82) rfl)) (hw _ (List.mem_of_getElem? (i := 81) rfl)) (by decide) (by decide)) (g := (mkF m 41 #[.val (.ref pr0), .val (.ref pr1)] [(.int (-120 : Int32)), (.ref b7)])) rfl (by rw [hml]; rfl) (argsL := [(.ref b7), (.int (-120 : Int32))]) (rest := []) (lenOf pd_17 rfl) rfl (by show 2 * 0 + _ ≤ _; exact Nat.le_of_eq rfl) (hb hby d15_41) (fun _ _ => ⟨rfl, e67, (by decide : 2 + 0 ≤ _), (by decide : 16392 + 0 ≤ _)⟩)
  dsimp only [Pt.U, Pt.locs, Pt.cells, Pt.slots] at X69 l69 y69 z69 st69 hQ69
  subst l69 y69 z69
  obtain ⟨Nq69, rfl, Kc69, p69_0⟩ := hQ69
  have N69 := Fr.app N62 Nq69
  have K69 : Keep h0 T69.heap ([pr0] : List Addr) := K62.trans Kc69 (allS (P := fun x => x ∈ ([pr0] : List Addr) ∨ h0.size ≤ x) (Or.inr sz7) all0)
  have Z69 : n0 ≤ T69.heap.size := Nat.le_trans Z62 Kc69.1
  have go70 : ∀ t, Steps p.tables e below (T69.setTop (mkF m 44 #[.val (.ref pr0), .val (.ref pr1)] [])) t → Steps p.tables e below st0 t := by
    intro t kt
    refine go0 t ?_
    refine XS.aloadN X0.here hx rfl (hb hby d15_0) rfl rfl ?_
    show Steps p.tables e below (s₁.setTop (mkF m 1 #[.val (.ref pr0), .val (.ref pr1)] [(.ref pr0)])) _
    refine st1 _ ?_
    show Steps p.tables e below (T1.setTop (mkF m 4 #[.val (.ref pr0), .val (.ref pr1)] [])) _
    refine XS.aloadN X1.here hx rfl (hb hby d15_4) rfl rfl ?_
    show Steps p.tables e below (T1.setTop (mkF m 5 #[.val (.ref pr0), .val (.ref pr1)] [(.ref pr0)])) _
    refine XS.aloadN X1.here hx rfl (hb hby d15_5) rfl rfl ?_
    show Steps p.tables e below (T1.setTop (mkF m 6 #[.val (.ref pr0), .val (.ref pr1)] [(.ref pr1), (.ref pr0)])) _
    refine st2 _ ?_
    show Steps p.tables e below (T2.setTop (mkF m 9 #[.val (.ref pr0), .val (.ref pr1)] [])) _
    refine XS.aloadN X2.here hx rfl (hb hby d15_9) rfl rfl ?_
    show Steps p.tables e below (T2.setTop (mkF m 10 #[.val (.ref pr0), .val (.ref pr1)] [(.ref pr0)])) _
    refine XS.aloadN X2.here hx rfl (hb hby d15_10) rfl rfl ?_
    show Steps p.tables e below (T2.setTop (mkF m 11 #[.val (.ref pr0), .val (.ref pr1)] [(.ref pr1), (.ref pr0)])) _
    refine st5.trans ?_
    show Steps p.tables e below (T5.setTop (mkF m 14 #[.val (.ref pr0), .val (.ref pr1)] [(.int (wr * wc)), (.ref pr0)])) _
    refine st7 _ ?_
    show Steps p.tables e below (T7.setTop (mkF m 16 #[.val (.ref pr0), .val (.ref pr1)] [(.ref b7), (.ref pr0)])) _
    refine st20 _ ?_
    show Steps p.tables e below (T20.setTop (mkF m 19 #[.val (.ref pr0), .val (.ref pr1)] [])) _
    refine XS.aloadN X20.here hx rfl (hb hby d15_19) rfl rfl ?_
    show Steps p.tables e below (T20.setTop (mkF m 20 #[.val (.ref pr0), .val (.ref pr1)] [(.ref pr0)])) _
    refine XS.aloadN X20.here hx rfl (hb hby d15_20) rfl rfl ?_
    show Steps p.tables e below (T20.setTop (mkF m 21 #[.val (.ref pr0), .val (.ref pr1)] [(.ref pr1), (.ref pr0)])) _
    refine st57 _ ?_
    show Steps p.tables e below (T57.setTop (mkF m 24 #[.val (.ref pr0), .val (.ref pr1)] [(.ref b57_0), (.ref pr0)])) _
    refine st62 _ ?_
    show Steps p.tables e below (T62.setTop (mkF m 27 #[.val (.ref pr0), .val (.ref pr1)] [])) _
    refine XS.aloadN X62.here hx rfl (hb hby d15_27) rfl rfl ?_
    show Steps p.tables e below (T62.setTop (mkF m 28 #[.val (.ref pr0), .val (.ref pr1)] [(.ref pr0)])) _
    refine st64 _ ?_
    show Steps p.tables e below (T64.setTop (mkF m 31 #[.val (.ref pr0), .val (.ref pr1)] [(.ref b7)])) _
    refine st66 _ ?_
    show Steps p.tables e below (T66.setTop (mkF m 34 #[.val (.ref pr0), .val (.ref pr1)] [(.int (8 : Int32)), (.ref b7)])) _
    refine XS.iconst X66.here hx rfl (hb hby d15_34) ?_
    show Steps p.tables e below (T66.setTop (mkF m 35 #[.val (.ref pr0), .val (.ref pr1)] [(.int (4 : Int32)), (.int (8 : Int32)), (.ref b7)])) _
    refine XS.ishl X66.here hx rfl (hb hby d15_35) rfl ?_
    show Steps p.tables e below (T66.setTop (mkF m 36 #[.val (.ref pr0), .val (.ref pr1)] [(.int (128 : Int32)), (.ref b7)])) _
    refine st67 _ ?_
    show Steps p.tables e below (T67.setTop (mkF m 39 #[.val (.ref pr0), .val (.ref pr1)] [(.int (8 : Int32)), (.int (128 : Int32)), (.ref b7)])) _
    refine XS.ior X67.here hx rfl (hb hby d15_39) rfl ?_
    show Steps p.tables e below (T67.setTop (mkF m 40 #[.val (.ref pr0), .val (.ref pr1)] [(.int (136 : Int32)), (.ref b7)])) _
    refine XS.i2b X67.here hx rfl (hb hby d15_40) rfl ?_
    show Steps p.tables e below (T67.setTop (mkF m 41 #[.val (.ref pr0), .val (.ref pr1)] [(.int (-120 : Int32)), (.ref b7)])) _
    refine st69 _ ?_
    show Steps p.tables e below (T69.setTop (mkF m 44 #[.val (.ref pr0), .val (.ref pr1)] [])) _
    exact kt
  obtain ⟨fs, hr, hrun, hended, hW, hsame⟩ := X69.leave (v := none) (fun _ => rfl)
  refine ⟨_, _, go70 _ ?_, hrun, hended, _, _, rfl, ?_, ⟨_, rfl⟩, hW, hsame.mono (by decide) (by decide)⟩
  · exact X69.returnOut hx Bd.returns (hb hby d15_44) hr
  · show Q_own_links Z pr0 pr1 nb kn c0 c1 c2 c3 c4 c5 c6 c7 wr wc h0 n0 _ T69.heap _
    have f71 : Exa Z T69.heap pr0 "com/example/hoofprint/hoofprint/service/TourLinks" := ((f61.wr W62).keep Kc69)
    have f72 : Fld Z T69.heap pr0 "com/example/hoofprint/hoofprint/service/TourLinks" "board" "Lcom/example/hoofprint/hoofprint/model/Board;" (.ref pr1) := (((((Fw2.ext E7).other W20 (Or.inr (slot_ne (Or.inr (hw _ (List.mem_of_getElem? (i := 28) rfl))) (Or.inr (hw _ (List.mem_of_getElem? (i := 36) rfl))) (by decide) (t := (.object "com/example/hoofprint/hoofprint/model/Board")) (t' := (.array .byte)) (by decide) (by decide)))).keep Kc57 nin0).other W62 (Or.inr (slot_ne (Or.inr (hw _ (List.mem_of_getElem? (i := 28) rfl))) (Or.inr (hw _ (List.mem_of_getElem? (i := 76) rfl))) (by decide) (t := (.object "com/example/hoofprint/hoofprint/model/Board")) (t' := (.array .int)) (by decide) (by decide)))).keep Kc69 (ninS ne7_pr0 nin0))
    have f73 : Fld Z T69.heap pr0 "com/example/hoofprint/hoofprint/service/TourLinks" "links" "[B" (.ref b7) := (f63.keep Kc69 (ninS ne7_pr0 nin0))
    have f74 : Fld Z T69.heap pr0 "com/example/hoofprint/hoofprint/service/TourLinks" "indexStep" "[I" (.ref b57_0) := (Fw62.keep Kc69 (ninS ne7_pr0 nin0))
    have f75 : Arv Z T69.heap b57_0 y57_0 .int (8 : Int32) [(.int (((-2 : Int32) * wc) + (-1 : Int32))), (.int (((-2 : Int32) * wc) + (1 : Int32))), (.int (((-1 : Int32) * wc) + (-2 : Int32))), (.int (((-1 : Int32) * wc) + (2 : Int32))), (.int (((1 : Int32) * wc) + (-2 : Int32))), (.int (((1 : Int32) * wc) + (2 : Int32))), (.int (((2 : Int32) * wc) + (-1 : Int32))), (.int (((2 : Int32) * wc) + (1 : Int32)))] (.int (0 : Int32)) := ((p57_0.other W62 (Ne.symm ne_b57_0_pr0)).keep Kc69 (ninS (Ne.symm ne_b57_0_b7) nin0))
    exact ⟨N69, b7, b57_0, k7, y57_0, rfl, sz7, sk_b57_0, K69, f71, f72, f73, f74, p69_0, f75, ne_b57_0_b7⟩
theorem ef_own_index (m : MethodId) (pr0 : Addr) (pi1 : Int32) (pi2 : Int32) : entryFrame m #[(.ref pr0), (.int pi1), (.int pi2)] 3 = mkF m 0 #[.val (.ref pr0), .val (.int pi1), .val (.int pi2)] [] := by first | (simp [entryFrame, mkF, argsToLocals, Value.category]; done) | rfl
def Q_own_index (Z : State) (pr0 : Addr) (pi1 : Int32) (pi2 : Int32) (bb : Addr) (wc : Int32) (h0 : Heap) (n0 : Nat) (v : Option Value) (h : Heap) (L : List Loc) : Prop := v = some (.int ((pi1 * wc) + pi2)) ∧ Fr n0 L ∧ h = h0
set_option maxRecDepth 65536 in
set_option maxHeartbeats 40000000 in
theorem own_index (l : Launch) (Z : State) (a0 : Array Value) (hw : ∀ d ∈ tables_1, d.before a0 Z = true) (ws : List Jvm.Cond) (pr0 : Addr) (pi1 : Int32) (pi2 : Int32) (bb : Addr) (wc : Int32) (h0 : Heap) (n0 : Nat) (Z0 : n0 ≤ h0.size) (P0 : Exa Z h0 pr0 "com/example/hoofprint/hoofprint/service/TourLinks") (P1 : Fld Z h0 pr0 "com/example/hoofprint/hoofprint/service/TourLinks" "board" "Lcom/example/hoofprint/hoofprint/model/Board;" (.ref bb)) (P2 : Exa Z h0 bb "com/example/hoofprint/hoofprint/model/Board") (P3 : Fld Z h0 bb "com/example/hoofprint/hoofprint/model/Board" "columns" "I" (.int wc)) :
    MetFree l (⟨"com/example/hoofprint/hoofprint/service/TourLinks", "index", "(II)I"⟩ : MethodName) (head1 (Jvm.Cond.code (⟨"com/example/hoofprint/hoofprint/service/TourLinks", "index", "(II)I"⟩ : MethodName) prog_55_method_7_code 3 (some .int) :: ws) ({ frames := 1, cells := 0, slots := 0, locals := 13 } : Room)) (fun a U => a = #[(.ref pr0), (.int pi1), (.int pi2)] ∧ Z.Warmed39 U.vm ∧ U.heap = h0) (fun _ _ _ _ _ => True) (fun _ U o U' => ∃ v L, o = .returned v ∧ Q_own_index Z pr0 pi1 pi2 bb wc h0 n0 v U'.heap L ∧ FrameEnd U o U' L ({ frames := 1, cells := 0, slots := 0, locals := 13 } : Room).cells ({ frames := 1, cells := 0, slots := 0, locals := 13 } : Room).slots) := by
  refine MetFree.of_bodySF (plainFor_of_name pn_18) hisR ?_
  intro p e s m args below meth c s₁ Bd hml0 hP hK
  obtain ⟨rfl, hZ, hh⟩ := hP
  have hx := Bd.exec
  have hby := Bd.bytes
  have hml : c.maxLocals = 3 := hml0
  have hown : s.vm.findClass "com/example/hoofprint/hoofprint/service/TourLinks" = some m.cls := findClass_of_methodNamed Bd.named
  have hnm := (name_of_methodNamed Bd.named Bd.method).1
  have X0 : Stand p l e ({ frames := 1, cells := 0, slots := 0, locals := 13 } : Room) s m #[(.ref pr0), (.int pi1), (.int pi2)] below meth c s₁ [] 0 0 := Stand.of_body Bd
  have e0 : s₁.heap = h0 := by rw [← hh, Bd.state]; rfl
  have N0 := Fr.nil n0
  have go0 : ∀ t, Steps p.tables e below (s₁.setTop (mkF m 0 #[.val (.ref pr0), .val (.int pi1), .val (.int pi2)] [])) t → Steps p.tables e below (s₁.setTop (entryFrame m #[(.ref pr0), (.int pi1), (.int pi2)] 3)) t := fun t k => castTop (ef_own_index m pr0 pi1 pi2) k
  revert go0
  generalize s₁.setTop (entryFrame m #[(.ref pr0), (.int pi1), (.int pi2)] 3) = st0
  intro go0
  obtain ⟨T1, X1, e1, st1⟩ := getF X0 hx hZ hown (host := "") (Or.inl (hw _ (List.mem_of_getElem? (i := 27) rfl))) Via.refl e0 P1 (g := (mkF m 2 #[.val (.ref pr0), .val (.int pi1), .val (.int pi2)] [(.ref pr0), (.int pi1)])) rfl rfl (hb hby d19_2)
  obtain ⟨cq2, kq2, q2a, q2b, q2c⟩ := isOf hZ e1 P2
  obtain ⟨_, _, ⟨T2, L2, k2, n2⟩, -, X2, ⟨Lc2, hQ2, l2, y2, z2⟩, st2⟩ := X1.virtualBack hx (y := (⟨"com/example/hoofprint/hoofprint/model/Board", "columns", "()I"⟩ : MethodName)) (z := (⟨"com/example/hoofprint/hoofprint/model/Board", "columns", "()I"⟩ : MethodName)) hown (mvT hZ (hw _ (List.mem_of_getElem? (i := 88) rfl))) (mvT hZ (hw _ (List.mem_of_getElem? (i := 62) rfl))) (notFace_of_selects (args := #[]) (mvT hZ (hw _ (List.mem_of_getElem? (i := 64) rfl)))) (mvT hZ (hw _ (List.mem_of_getElem? (i := 64) rfl))) (mvT hZ (hw _ (List.mem_of_getElem? (i := 63) rfl))) (by decide) (backOf (W := 1) (own_columns l Z a0 hw [] bb wc h0 n0 Z0 P3) hZ (hw _ (List.mem_of_getElem? (i := 65) rfl)) (hw _ (List.mem_of_getElem? (i := 3) rfl)) (by decide) (by decide)) q2a q2c (g := (mkF m 5 #[.val (.ref pr0), .val (.int pi1), .val (.int pi2)] [(.ref bb), (.int pi1)])) rfl (by rw [hml]; rfl) (Steps.refl _) (argsL := []) (rest := [(.int pi1)]) (lenOf pd_10 rfl) rfl (by show 2 * 0 + _ ≤ _; exact Nat.le_of_eq rfl) (hb hby d19_5) (fun _ _ => ⟨rfl, e1, (by decide : 0 + 0 ≤ _), (by decide : 0 + 0 ≤ _)⟩)
  dsimp only [Pt.U, Pt.locs, Pt.cells, Pt.slots] at X2 l2 y2 z2 st2 hQ2
  subst l2 y2 z2
  obtain ⟨rfl, Nq2, e2⟩ := hQ2
  have N2 := Fr.app N0 Nq2
  have go3 : ∀ t, Steps p.tables e below (T2.setTop (mkF m 11 #[.val (.ref pr0), .val (.int pi1), .val (.int pi2)] [(.int ((pi1 * wc) + pi2))])) t → Steps p.tables e below st0 t := by
    intro t kt
    refine go0 t ?_
    refine XS.iloadN X0.here hx rfl (hb hby d19_0) rfl ?_
    show Steps p.tables e below (s₁.setTop (mkF m 1 #[.val (.ref pr0), .val (.int pi1), .val (.int pi2)] [(.int pi1)])) _
    refine XS.aloadN X0.here hx rfl (hb hby d19_1) rfl rfl ?_
    show Steps p.tables e below (s₁.setTop (mkF m 2 #[.val (.ref pr0), .val (.int pi1), .val (.int pi2)] [(.ref pr0), (.int pi1)])) _
    refine st1 _ ?_
    show Steps p.tables e below (T1.setTop (mkF m 5 #[.val (.ref pr0), .val (.int pi1), .val (.int pi2)] [(.ref bb), (.int pi1)])) _
    refine st2.trans ?_
    show Steps p.tables e below (T2.setTop (mkF m 8 #[.val (.ref pr0), .val (.int pi1), .val (.int pi2)] [(.int wc), (.int pi1)])) _
    refine XS.imul X2.here hx rfl (hb hby d19_8) rfl ?_
    show Steps p.tables e below (T2.setTop (mkF m 9 #[.val (.ref pr0), .val (.int pi1), .val (.int pi2)] [(.int (pi1 * wc))])) _
    refine XS.iloadN X2.here hx rfl (hb hby d19_9) rfl ?_
    show Steps p.tables e below (T2.setTop (mkF m 10 #[.val (.ref pr0), .val (.int pi1), .val (.int pi2)] [(.int pi2), (.int (pi1 * wc))])) _
    refine XS.iadd X2.here hx rfl (hb hby d19_10) rfl ?_
    show Steps p.tables e below (T2.setTop (mkF m 11 #[.val (.ref pr0), .val (.int pi1), .val (.int pi2)] [(.int ((pi1 * wc) + pi2))])) _
    exact kt
  obtain ⟨fs, hr, hrun, hended, hW, hsame⟩ := X2.leave (v := some (.int ((pi1 * wc) + pi2))) (fun h => by rw [Bd.returns] at h; cases h)
  refine ⟨_, _, go3 _ ?_, hrun, hended, _, _, rfl, ?_, ⟨_, rfl⟩, hW, hsame.mono (by decide) (by decide)⟩
  · exact retI X2 hx Bd.returns (hb hby d19_11) hr
  · show Q_own_index Z pr0 pi1 pi2 bb wc h0 n0 _ T2.heap _
    rw [e2]
    exact ⟨rfl, N2, rfl⟩
theorem ef_own_sq (m : MethodId) (pr0 : Addr) (pi1 : Int32) (pi2 : Int32) : entryFrame m #[(.ref pr0), (.int pi1), (.int pi2)] 3 = mkF m 0 #[.val (.ref pr0), .val (.int pi1), .val (.int pi2)] [] := by first | (simp [entryFrame, mkF, argsToLocals, Value.category]; done) | rfl
def Q_own_sq (Z : State) (pr0 : Addr) (pi1 : Int32) (pi2 : Int32)  (h0 : Heap) (n0 : Nat) (v : Option Value) (h : Heap) (L : List Loc) : Prop := Fr n0 L ∧ v = none ∧ Keep h0 h ([pr0] : List Addr) ∧ Exa Z h pr0 "com/example/hoofprint/hoofprint/model/Square" ∧ Fld Z h pr0 "com/example/hoofprint/hoofprint/model/Square" "row" "I" (.int pi1) ∧ Fld Z h pr0 "com/example/hoofprint/hoofprint/model/Square" "column" "I" (.int pi2)
set_option maxRecDepth 65536 in
set_option maxHeartbeats 40000000 in
theorem own_sq (l : Launch) (Z : State) (a0 : Array Value) (hw : ∀ d ∈ tables_1, d.before a0 Z = true) (ws : List Jvm.Cond) (pr0 : Addr) (pi1 : Int32) (pi2 : Int32)  (h0 : Heap) (n0 : Nat) (Z0 : n0 ≤ h0.size) (P0 : Exa Z h0 pr0 "com/example/hoofprint/hoofprint/model/Square") (P1 : Fld Z h0 pr0 "com/example/hoofprint/hoofprint/model/Square" "row" "I" (.int (0 : Int32))) (P2 : Fld Z h0 pr0 "com/example/hoofprint/hoofprint/model/Square" "column" "I" (.int (0 : Int32))) (P3 : n0 ≤ pr0) :
    MetFree l (⟨"com/example/hoofprint/hoofprint/model/Square", "<init>", "(II)V"⟩ : MethodName) (head1 (Jvm.Cond.code (⟨"com/example/hoofprint/hoofprint/model/Square", "<init>", "(II)V"⟩ : MethodName) prog_24_method_1_code 3 none :: ws) ({ frames := 2, cells := 0, slots := 0, locals := 24 } : Room)) (fun a U => a = #[(.ref pr0), (.int pi1), (.int pi2)] ∧ Z.Warmed39 U.vm ∧ U.heap = h0) (fun _ _ _ _ _ => True) (fun _ U o U' => ∃ v L, o = .returned v ∧ Q_own_sq Z pr0 pi1 pi2 h0 n0 v U'.heap L ∧ FrameEnd U o U' L ({ frames := 2, cells := 0, slots := 0, locals := 24 } : Room).cells ({ frames := 2, cells := 0, slots := 0, locals := 24 } : Room).slots) := by
  refine MetFree.of_bodySF (plainFor_of_name pn_21) hisR ?_
  intro p e s m args below meth c s₁ Bd hml0 hP hK
  obtain ⟨rfl, hZ, hh⟩ := hP
  have hx := Bd.exec
  have hby := Bd.bytes
  have hml : c.maxLocals = 3 := hml0
  have hown : s.vm.findClass "com/example/hoofprint/hoofprint/model/Square" = some m.cls := findClass_of_methodNamed Bd.named
  have hnm := (name_of_methodNamed Bd.named Bd.method).1
  have X0 : Stand p l e ({ frames := 2, cells := 0, slots := 0, locals := 24 } : Room) s m #[(.ref pr0), (.int pi1), (.int pi2)] below meth c s₁ [] 0 0 := Stand.of_body Bd
  have e0 : s₁.heap = h0 := by rw [← hh, Bd.state]; rfl
  have N0 := Fr.nil n0
  have go0 : ∀ t, Steps p.tables e below (s₁.setTop (mkF m 0 #[.val (.ref pr0), .val (.int pi1), .val (.int pi2)] [])) t → Steps p.tables e below (s₁.setTop (entryFrame m #[(.ref pr0), (.int pi1), (.int pi2)] 3)) t := fun t k => castTop (ef_own_sq m pr0 pi1 pi2) k
  revert go0
  generalize s₁.setTop (entryFrame m #[(.ref pr0), (.int pi1), (.int pi2)] 3) = st0
  intro go0
  obtain ⟨_, _, ⟨T1, L1, k1, n1⟩, -, X1, ⟨Lc1, hQ1, l1, y1, z1⟩, st1⟩ := X0.specialBack hx (y := (⟨"java/lang/Record", "<init>", "()V"⟩ : MethodName)) rfl hown (mvT hZ (hw _ (List.mem_of_getElem? (i := 102) rfl))) (mvT hZ (hw _ (List.mem_of_getElem? (i := 8) rfl))) (mvT hZ (hw _ (List.mem_of_getElem? (i := 11) rfl))) (by decide) (backOf (W := 0) (own_rec l Z a0 hw [] pr0 h0 n0 Z0 ) hZ (hw _ (List.mem_of_getElem? (i := 11) rfl)) (hw _ (List.mem_of_getElem? (i := 10) rfl)) (by decide) (by decide)) (g := (mkF m 1 #[.val (.ref pr0), .val (.int pi1), .val (.int pi2)] [(.ref pr0)])) rfl (by rw [hml]; rfl) (Steps.refl _) (a := pr0) (argsL := []) (rest := []) (lenOf pd_3 rfl) rfl (by show 2 * 0 + _ ≤ _; exact Nat.le_of_eq rfl) (hb hby d20_1) (fun _ _ => ⟨rfl, e0, (by decide : 0 + 0 ≤ _), (by decide : 0 + 0 ≤ _)⟩)
  dsimp only [Pt.U, Pt.locs, Pt.cells, Pt.slots] at X1 l1 y1 z1 st1 hQ1
  subst l1 y1 z1
  obtain ⟨rfl, Nq1, e1⟩ := hQ1
  have N1 := Fr.app N0 Nq1
  obtain ⟨T2, h2, X2, e2, W2, st2⟩ := putF X1 hx hZ hown (host := "") (Or.inl (hw _ (List.mem_of_getElem? (i := 103) rfl))) Via.refl e1 P1 P0 (Or.inr ⟨(hw _ (List.mem_of_getElem? (i := 104) rfl)), rfl, hnm⟩) (hw _ (List.mem_of_getElem? (i := 97) rfl)) (ty := .int) (by decide) rfl rfl (g := (mkF m 6 #[.val (.ref pr0), .val (.int pi1), .val (.int pi2)] [(.int pi1), (.ref pr0)])) rfl rfl (hb hby d20_6)
  have K2 : Keep h0 h2 ([pr0] : List Addr) := (Keep.refl h0 ([pr0] : List Addr)).wr W2 (Or.inl (List.mem_of_getElem? (i := 0) rfl))
  have N2 := Fr.snoc X2 N1 P3
  have Z2 : n0 ≤ h2.size := Nat.le_trans Z0 (Keep.of_wr W2).1
  have Fw2 := P1.same W2
  have f3 : Fld Z h2 pr0 "com/example/hoofprint/hoofprint/model/Square" "column" "I" (.int (0 : Int32)) := (P2.other W2 (Or.inr (slot_ne (Or.inr (hw _ (List.mem_of_getElem? (i := 106) rfl))) (Or.inr (hw _ (List.mem_of_getElem? (i := 104) rfl))) (by decide) (t := .int) (t' := .int) (by decide) (by decide))))
  have f4 : Exa Z h2 pr0 "com/example/hoofprint/hoofprint/model/Square" := (P0.wr W2)
  obtain ⟨T5, h5, X5, e5, W5, st5⟩ := putF X2 hx hZ hown (host := "") (Or.inl (hw _ (List.mem_of_getElem? (i := 105) rfl))) Via.refl e2 f3 f4 (Or.inr ⟨(hw _ (List.mem_of_getElem? (i := 106) rfl)), rfl, hnm⟩) (hw _ (List.mem_of_getElem? (i := 97) rfl)) (ty := .int) (by decide) rfl rfl (g := (mkF m 11 #[.val (.ref pr0), .val (.int pi1), .val (.int pi2)] [(.int pi2), (.ref pr0)])) rfl rfl (hb hby d20_11)
  have K5 : Keep h0 h5 ([pr0] : List Addr) := K2.wr W5 (Or.inl (List.mem_of_getElem? (i := 0) rfl))
  have N5 := Fr.snoc X5 N2 P3
  have Z5 : n0 ≤ h5.size := Nat.le_trans Z2 (Keep.of_wr W5).1
  have Fw5 := f3.same W5
  have go6 : ∀ t, Steps p.tables e below (T5.setTop (mkF m 14 #[.val (.ref pr0), .val (.int pi1), .val (.int pi2)] [])) t → Steps p.tables e below st0 t := by
    intro t kt
    refine go0 t ?_
    refine XS.aloadN X0.here hx rfl (hb hby d20_0) rfl rfl ?_
    show Steps p.tables e below (s₁.setTop (mkF m 1 #[.val (.ref pr0), .val (.int pi1), .val (.int pi2)] [(.ref pr0)])) _
    refine st1.trans ?_
    show Steps p.tables e below (T1.setTop (mkF m 4 #[.val (.ref pr0), .val (.int pi1), .val (.int pi2)] [])) _
    refine XS.aloadN X1.here hx rfl (hb hby d20_4) rfl rfl ?_
    show Steps p.tables e below (T1.setTop (mkF m 5 #[.val (.ref pr0), .val (.int pi1), .val (.int pi2)] [(.ref pr0)])) _
    refine XS.iloadN X1.here hx rfl (hb hby d20_5) rfl ?_
    show Steps p.tables e below (T1.setTop (mkF m 6 #[.val (.ref pr0), .val (.int pi1), .val (.int pi2)] [(.int pi1), (.ref pr0)])) _
    refine st2 _ ?_
    show Steps p.tables e below (T2.setTop (mkF m 9 #[.val (.ref pr0), .val (.int pi1), .val (.int pi2)] [])) _
    refine XS.aloadN X2.here hx rfl (hb hby d20_9) rfl rfl ?_
    show Steps p.tables e below (T2.setTop (mkF m 10 #[.val (.ref pr0), .val (.int pi1), .val (.int pi2)] [(.ref pr0)])) _
    refine XS.iloadN X2.here hx rfl (hb hby d20_10) rfl ?_
    show Steps p.tables e below (T2.setTop (mkF m 11 #[.val (.ref pr0), .val (.int pi1), .val (.int pi2)] [(.int pi2), (.ref pr0)])) _
    refine st5 _ ?_
    show Steps p.tables e below (T5.setTop (mkF m 14 #[.val (.ref pr0), .val (.int pi1), .val (.int pi2)] [])) _
    exact kt
  obtain ⟨fs, hr, hrun, hended, hW, hsame⟩ := X5.leave (v := none) (fun _ => rfl)
  refine ⟨_, _, go6 _ ?_, hrun, hended, _, _, rfl, ?_, ⟨_, rfl⟩, hW, hsame.mono (by decide) (by decide)⟩
  · exact X5.returnOut hx Bd.returns (hb hby d20_14) hr
  · show Q_own_sq Z pr0 pi1 pi2 h0 n0 _ T5.heap _
    rw [e5]
    have f7 : Exa Z h5 pr0 "com/example/hoofprint/hoofprint/model/Square" := (f4.wr W5)
    have f8 : Fld Z h5 pr0 "com/example/hoofprint/hoofprint/model/Square" "row" "I" (.int pi1) := (Fw2.other W5 (Or.inr (slot_ne (Or.inr (hw _ (List.mem_of_getElem? (i := 104) rfl))) (Or.inr (hw _ (List.mem_of_getElem? (i := 106) rfl))) (by decide) (t := .int) (t' := .int) (by decide) (by decide))))
    exact ⟨N5, rfl, K5, f7, f8, Fw5⟩
theorem ef_own_sq_row (m : MethodId) (pr0 : Addr) : entryFrame m #[(.ref pr0)] 1 = mkF m 0 #[.val (.ref pr0)] [] := by first | (simp [entryFrame, mkF, argsToLocals, Value.category]; done) | rfl
def Q_own_sq_row (Z : State) (pr0 : Addr) (wv : Int32) (h0 : Heap) (n0 : Nat) (v : Option Value) (h : Heap) (L : List Loc) : Prop := v = some (.int wv) ∧ Fr n0 L ∧ h = h0
set_option maxRecDepth 65536 in
set_option maxHeartbeats 40000000 in
theorem own_sq_row (l : Launch) (Z : State) (a0 : Array Value) (hw : ∀ d ∈ tables_1, d.before a0 Z = true) (ws : List Jvm.Cond) (pr0 : Addr) (wv : Int32) (h0 : Heap) (n0 : Nat) (Z0 : n0 ≤ h0.size) (P0 : Fld Z h0 pr0 "com/example/hoofprint/hoofprint/model/Square" "row" "I" (.int wv)) :
    MetFree l (⟨"com/example/hoofprint/hoofprint/model/Square", "row", "()I"⟩ : MethodName) (head1 (Jvm.Cond.code (⟨"com/example/hoofprint/hoofprint/model/Square", "row", "()I"⟩ : MethodName) prog_24_method_6_code 1 (some .int) :: ws) ({ frames := 0, cells := 0, slots := 0, locals := 0 } : Room)) (fun a U => a = #[(.ref pr0)] ∧ Z.Warmed39 U.vm ∧ U.heap = h0) (fun _ _ _ _ _ => True) (fun _ U o U' => ∃ v L, o = .returned v ∧ Q_own_sq_row Z pr0 wv h0 n0 v U'.heap L ∧ FrameEnd U o U' L ({ frames := 0, cells := 0, slots := 0, locals := 0 } : Room).cells ({ frames := 0, cells := 0, slots := 0, locals := 0 } : Room).slots) := by
  refine MetFree.of_bodySF (plainFor_of_name pn_21) hisR ?_
  intro p e s m args below meth c s₁ Bd hml0 hP hK
  obtain ⟨rfl, hZ, hh⟩ := hP
  have hx := Bd.exec
  have hby := Bd.bytes
  have hml : c.maxLocals = 1 := hml0
  have hown : s.vm.findClass "com/example/hoofprint/hoofprint/model/Square" = some m.cls := findClass_of_methodNamed Bd.named
  have hnm := (name_of_methodNamed Bd.named Bd.method).1
  have X0 : Stand p l e ({ frames := 0, cells := 0, slots := 0, locals := 0 } : Room) s m #[(.ref pr0)] below meth c s₁ [] 0 0 := Stand.of_body Bd
  have e0 : s₁.heap = h0 := by rw [← hh, Bd.state]; rfl
  have N0 := Fr.nil n0
  have go0 : ∀ t, Steps p.tables e below (s₁.setTop (mkF m 0 #[.val (.ref pr0)] [])) t → Steps p.tables e below (s₁.setTop (entryFrame m #[(.ref pr0)] 1)) t := fun t k => castTop (ef_own_sq_row m pr0) k
  revert go0
  generalize s₁.setTop (entryFrame m #[(.ref pr0)] 1) = st0
  intro go0
  obtain ⟨T1, X1, e1, st1⟩ := getF X0 hx hZ hown (host := "") (Or.inl (hw _ (List.mem_of_getElem? (i := 103) rfl))) Via.refl e0 P0 (g := (mkF m 1 #[.val (.ref pr0)] [(.ref pr0)])) rfl rfl (hb hby d22_1)
  have go2 : ∀ t, Steps p.tables e below (T1.setTop (mkF m 4 #[.val (.ref pr0)] [(.int wv)])) t → Steps p.tables e below st0 t := by
    intro t kt
    refine go0 t ?_
    refine XS.aloadN X0.here hx rfl (hb hby d22_0) rfl rfl ?_
    show Steps p.tables e below (s₁.setTop (mkF m 1 #[.val (.ref pr0)] [(.ref pr0)])) _
    refine st1 _ ?_
    show Steps p.tables e below (T1.setTop (mkF m 4 #[.val (.ref pr0)] [(.int wv)])) _
    exact kt
  obtain ⟨fs, hr, hrun, hended, hW, hsame⟩ := X1.leave (v := some (.int wv)) (fun h => by rw [Bd.returns] at h; cases h)
  refine ⟨_, _, go2 _ ?_, hrun, hended, _, _, rfl, ?_, ⟨_, rfl⟩, hW, hsame.mono (by decide) (by decide)⟩
  · exact retI X1 hx Bd.returns (hb hby d22_4) hr
  · show Q_own_sq_row Z pr0 wv h0 n0 _ T1.heap _
    rw [e1]
    exact ⟨rfl, N0, rfl⟩
theorem ef_own_sq_column (m : MethodId) (pr0 : Addr) : entryFrame m #[(.ref pr0)] 1 = mkF m 0 #[.val (.ref pr0)] [] := by first | (simp [entryFrame, mkF, argsToLocals, Value.category]; done) | rfl
def Q_own_sq_column (Z : State) (pr0 : Addr) (wv : Int32) (h0 : Heap) (n0 : Nat) (v : Option Value) (h : Heap) (L : List Loc) : Prop := v = some (.int wv) ∧ Fr n0 L ∧ h = h0
set_option maxRecDepth 65536 in
set_option maxHeartbeats 40000000 in
theorem own_sq_column (l : Launch) (Z : State) (a0 : Array Value) (hw : ∀ d ∈ tables_1, d.before a0 Z = true) (ws : List Jvm.Cond) (pr0 : Addr) (wv : Int32) (h0 : Heap) (n0 : Nat) (Z0 : n0 ≤ h0.size) (P0 : Fld Z h0 pr0 "com/example/hoofprint/hoofprint/model/Square" "column" "I" (.int wv)) :
    MetFree l (⟨"com/example/hoofprint/hoofprint/model/Square", "column", "()I"⟩ : MethodName) (head1 (Jvm.Cond.code (⟨"com/example/hoofprint/hoofprint/model/Square", "column", "()I"⟩ : MethodName) prog_24_method_7_code 1 (some .int) :: ws) ({ frames := 0, cells := 0, slots := 0, locals := 0 } : Room)) (fun a U => a = #[(.ref pr0)] ∧ Z.Warmed39 U.vm ∧ U.heap = h0) (fun _ _ _ _ _ => True) (fun _ U o U' => ∃ v L, o = .returned v ∧ Q_own_sq_column Z pr0 wv h0 n0 v U'.heap L ∧ FrameEnd U o U' L ({ frames := 0, cells := 0, slots := 0, locals := 0 } : Room).cells ({ frames := 0, cells := 0, slots := 0, locals := 0 } : Room).slots) := by
  refine MetFree.of_bodySF (plainFor_of_name pn_21) hisR ?_
  intro p e s m args below meth c s₁ Bd hml0 hP hK
  obtain ⟨rfl, hZ, hh⟩ := hP
  have hx := Bd.exec
  have hby := Bd.bytes
  have hml : c.maxLocals = 1 := hml0
  have hown : s.vm.findClass "com/example/hoofprint/hoofprint/model/Square" = some m.cls := findClass_of_methodNamed Bd.named
  have hnm := (name_of_methodNamed Bd.named Bd.method).1
  have X0 : Stand p l e ({ frames := 0, cells := 0, slots := 0, locals := 0 } : Room) s m #[(.ref pr0)] below meth c s₁ [] 0 0 := Stand.of_body Bd
  have e0 : s₁.heap = h0 := by rw [← hh, Bd.state]; rfl
  have N0 := Fr.nil n0
  have go0 : ∀ t, Steps p.tables e below (s₁.setTop (mkF m 0 #[.val (.ref pr0)] [])) t → Steps p.tables e below (s₁.setTop (entryFrame m #[(.ref pr0)] 1)) t := fun t k => castTop (ef_own_sq_column m pr0) k
  revert go0
  generalize s₁.setTop (entryFrame m #[(.ref pr0)] 1) = st0
  intro go0
  obtain ⟨T1, X1, e1, st1⟩ := getF X0 hx hZ hown (host := "") (Or.inl (hw _ (List.mem_of_getElem? (i := 105) rfl))) Via.refl e0 P0 (g := (mkF m 1 #[.val (.ref pr0)] [(.ref pr0)])) rfl rfl (hb hby d23_1)
  have go2 : ∀ t, Steps p.tables e below (T1.setTop (mkF m 4 #[.val (.ref pr0)] [(.int wv)])) t → Steps p.tables e below st0 t := by
    intro t kt
    refine go0 t ?_
    refine XS.aloadN X0.here hx rfl (hb hby d23_0) rfl rfl ?_
    show Steps p.tables e below (s₁.setTop (mkF m 1 #[.val (.ref pr0)] [(.ref pr0)])) _
    refine st1 _ ?_
    show Steps p.tables e below (T1.setTop (mkF m 4 #[.val (.ref pr0)] [(.int wv)])) _
    exact kt
  obtain ⟨fs, hr, hrun, hended, hW, hsame⟩ := X1.leave (v := some (.int wv)) (fun h => by rw [Bd.returns] at h; cases h)
  refine ⟨_, _, go2 _ ?_, hrun, hended, _, _, rfl, ?_, ⟨_, rfl⟩, hW, hsame.mono (by decide) (by decide)⟩
  · exact retI X1 hx Bd.returns (hb hby d23_4) hr
  · show Q_own_sq_column Z pr0 wv h0 n0 _ T1.heap _
    rw [e1]
    exact ⟨rfl, N0, rfl⟩
theorem ef_own_square (m : MethodId) (pr0 : Addr) (pi1 : Int32) : entryFrame m #[(.ref pr0), (.int pi1)] 2 = mkF m 0 #[.val (.ref pr0), .val (.int pi1)] [] := by first | (simp [entryFrame, mkF, argsToLocals, Value.category]; done) | rfl
def Q_own_square (Z : State) (pr0 : Addr) (pi1 : Int32) (wr : Int32) (wc : Int32) (h0 : Heap) (n0 : Nat) (v : Option Value) (h : Heap) (L : List Loc) : Prop := Fr n0 L ∧ ∃ (bq : Addr), v = some (.ref bq) ∧ h0.size ≤ bq ∧ Keep h0 h ([] : List Addr) ∧ Exa Z h bq "com/example/hoofprint/hoofprint/model/Square" ∧ Fld Z h bq "com/example/hoofprint/hoofprint/model/Square" "row" "I" (.int ((pi1 / wc) + (1 : Int32))) ∧ Fld Z h bq "com/example/hoofprint/hoofprint/model/Square" "column" "I" (.int ((pi1 % wc) + (1 : Int32)))
set_option maxRecDepth 65536 in
set_option maxHeartbeats 40000000 in
theorem own_square (l : Launch) (Z : State) (a0 : Array Value) (hw : ∀ d ∈ tables_1, d.before a0 Z = true) (ws : List Jvm.Cond) (pr0 : Addr) (pi1 : Int32) (wr : Int32) (wc : Int32) (h0 : Heap) (n0 : Nat) (Z0 : n0 ≤ h0.size) (P0 : Exa Z h0 pr0 "com/example/hoofprint/hoofprint/model/Board") (P1 : Fld Z h0 pr0 "com/example/hoofprint/hoofprint/model/Board" "rows" "I" (.int wr)) (P2 : Fld Z h0 pr0 "com/example/hoofprint/hoofprint/model/Board" "columns" "I" (.int wc)) (P3 : ¬ (pi1 < (0 : Int32))) (P4 : pi1 < (wr * wc)) (P5 : ¬ (wc = (0 : Int32))) :
    MetFree l (⟨"com/example/hoofprint/hoofprint/model/Board", "square", "(I)Lcom/example/hoofprint/hoofprint/model/Square;"⟩ : MethodName) (head1 (Jvm.Cond.code (⟨"com/example/hoofprint/hoofprint/model/Board", "square", "(I)Lcom/example/hoofprint/hoofprint/model/Square;"⟩ : MethodName) prog_21_method_3_code 2 (some (.object "com/example/hoofprint/hoofprint/model/Square")) :: ws) ({ frames := 3, cells := 1, slots := 2, locals := 39 } : Room)) (fun a U => a = #[(.ref pr0), (.int pi1)] ∧ Z.Warmed39 U.vm ∧ U.heap = h0) (fun _ _ _ _ _ => True) (fun _ U o U' => ∃ v L, o = .returned v ∧ Q_own_square Z pr0 pi1 wr wc h0 n0 v U'.heap L ∧ FrameEnd U o U' L ({ frames := 3, cells := 1, slots := 2, locals := 39 } : Room).cells ({ frames := 3, cells := 1, slots := 2, locals := 39 } : Room).slots) := by
  refine MetFree.of_bodySF (plainFor_of_name pn_4) hisR ?_
  intro p e s m args below meth c s₁ Bd hml0 hP hK
  obtain ⟨rfl, hZ, hh⟩ := hP
  have hx := Bd.exec
  have hby := Bd.bytes
  have hml : c.maxLocals = 2 := hml0
  have hown : s.vm.findClass "com/example/hoofprint/hoofprint/model/Board" = some m.cls := findClass_of_methodNamed Bd.named
  have hnm := (name_of_methodNamed Bd.named Bd.method).1
  have X0 : Stand p l e ({ frames := 3, cells := 1, slots := 2, locals := 39 } : Room) s m #[(.ref pr0), (.int pi1)] below meth c s₁ [] 0 0 := Stand.of_body Bd
  have e0 : s₁.heap = h0 := by rw [← hh, Bd.state]; rfl
  have N0 := Fr.nil n0
  have go0 : ∀ t, Steps p.tables e below (s₁.setTop (mkF m 0 #[.val (.ref pr0), .val (.int pi1)] [])) t → Steps p.tables e below (s₁.setTop (entryFrame m #[(.ref pr0), (.int pi1)] 2)) t := fun t k => castTop (ef_own_square m pr0 pi1) k
  revert go0
  generalize s₁.setTop (entryFrame m #[(.ref pr0), (.int pi1)] 2) = st0
  intro go0
  obtain ⟨cq1, kq1, q1a, q1b, q1c⟩ := isOf hZ e0 P0
  obtain ⟨_, _, ⟨T1, L1, k1, n1⟩, -, X1, ⟨Lc1, hQ1, l1, y1, z1⟩, st1⟩ := X0.virtualBack hx (y := (⟨"com/example/hoofprint/hoofprint/model/Board", "squares", "()I"⟩ : MethodName)) (z := (⟨"com/example/hoofprint/hoofprint/model/Board", "squares", "()I"⟩ : MethodName)) hown (mvT hZ (hw _ (List.mem_of_getElem? (i := 95) rfl))) (mvT hZ (hw _ (List.mem_of_getElem? (i := 30) rfl))) (notFace_of_selects (args := #[]) (mvT hZ (hw _ (List.mem_of_getElem? (i := 32) rfl)))) (mvT hZ (hw _ (List.mem_of_getElem? (i := 32) rfl))) (mvT hZ (hw _ (List.mem_of_getElem? (i := 31) rfl))) (by decide) (backOf (W := 1) (own_squares l Z a0 hw [] pr0 wr wc h0 n0 Z0 P1 P2) hZ (hw _ (List.mem_of_getElem? (i := 33) rfl)) (hw _ (List.mem_of_getElem? (i := 3) rfl)) (by decide) (by decide)) q1a q1c (g := (mkF m 6 #[.val (.ref pr0), .val (.int pi1)] [(.ref pr0), (.int pi1)])) rfl (by rw [hml]; rfl) (Steps.refl _) (argsL := []) (rest := [(.int pi1)]) (lenOf pd_10 rfl) rfl (by show 2 * 0 + _ ≤ _; exact Nat.le_of_eq rfl) (hb hby d24_6) (fun _ _ => ⟨rfl, e0, (by decide : 0 + 0 ≤ _), (by decide : 0 + 0 ≤ _)⟩)
  dsimp only [Pt.U, Pt.locs, Pt.cells, Pt.slots] at X1 l1 y1 z1 st1 hQ1
  subst l1 y1 z1
  obtain ⟨rfl, Nq1, e1⟩ := hQ1
  have N1 := Fr.app N0 Nq1
  obtain ⟨T2, h2, X2, e2, E2, A2, D2, -, st2⟩ := newO X1 hx hZ hown (hw _ (List.mem_of_getElem? (i := 96) rfl)) (hw _ (List.mem_of_getElem? (i := 97) rfl)) (hw _ (List.mem_of_getElem? (i := 98) rfl)) e1 (g := (mkF m 30 #[.val (.ref pr0), .val (.int pi1)] [])) rfl (hb hby d24_30) (by decide) (by decide)
  obtain ⟨b2, g2⟩ : ∃ zsz, zsz = h0.size := ⟨_, rfl⟩
  rw [← g2] at A2 D2 st2
  have ne2_pr0 : pr0 ≠ b2 := Nat.ne_of_lt (Nat.lt_of_lt_of_eq P0.lt g2.symm)
  have ge2 : n0 ≤ b2 := Nat.le_trans Z0 (Nat.le_of_eq g2.symm)
  have sz2 : h0.size ≤ b2 := Nat.le_trans (Keep.refl h0 ([] : List Addr)).1 (Nat.le_of_eq g2.symm)
  have Z2 : n0 ≤ h2.size := Nat.le_trans Z0 E2.1
  have K2 : Keep h0 h2 ([] : List Addr) := (Keep.refl h0 ([] : List Addr)).ext E2
  have F2_row : Fld Z h2 b2 "com/example/hoofprint/hoofprint/model/Square" "row" "I" (.int (0 : Int32)) := D2 (Or.inr (hw _ (List.mem_of_getElem? (i := 104) rfl))) (ty := .int) (by decide)
  have F2_column : Fld Z h2 b2 "com/example/hoofprint/hoofprint/model/Square" "column" "I" (.int (0 : Int32)) := D2 (Or.inr (hw _ (List.mem_of_getElem? (i := 106) rfl))) (ty := .int) (by decide)
  have f3 : Fld Z h2 pr0 "com/example/hoofprint/hoofprint/model/Board" "columns" "I" (.int wc) := (P2.ext E2)
  obtain ⟨T4, X4, e4, st4⟩ := getF X2 hx hZ hown (host := "") (Or.inl (hw _ (List.mem_of_getElem? (i := 18) rfl))) Via.refl e2 f3 (g := (mkF m 36 #[.val (.ref pr0), .val (.int pi1)] [(.ref pr0), (.int pi1), (.ref b2), (.ref b2)])) rfl rfl (hb hby d24_36)
  obtain ⟨T5, X5, e5, st5⟩ := getF X4 hx hZ hown (host := "") (Or.inl (hw _ (List.mem_of_getElem? (i := 18) rfl))) Via.refl e4 f3 (g := (mkF m 44 #[.val (.ref pr0), .val (.int pi1)] [(.ref pr0), (.int pi1), (.int ((pi1 / wc) + (1 : Int32))), (.ref b2), (.ref b2)])) rfl rfl (hb hby d24_44)
  obtain ⟨_, _, ⟨T6, L6, k6, n6⟩, -, X6, ⟨Lc6, hQ6, l6, y6, z6⟩, st6⟩ := X5.specialBack hx (y := (⟨"com/example/hoofprint/hoofprint/model/Square", "<init>", "(II)V"⟩ : MethodName)) rfl hown (mvT hZ (hw _ (List.mem_of_getElem? (i := 99) rfl))) (mvT hZ (hw _ (List.mem_of_getElem? (i := 100) rfl))) (mvT hZ (hw _ (List.mem_of_getElem? (i := 101) rfl))) (by decide) (backOf (W := 1) (own_sq l Z a0 hw [] b2 ((pi1 / wc) + (1 : Int32)) ((pi1 % wc) + (1 : Int32)) h2 n0 Z2 A2 F2_row F2_column ge2) hZ (hw _ (List.mem_of_getElem? (i := 101) rfl)) (hw _ (List.mem_of_getElem? (i := 98) rfl)) (by decide) (by decide)) (g := (mkF m 50 #[.val (.ref pr0), .val (.int pi1)] [(.int ((pi1 % wc) + (1 : Int32))), (.int ((pi1 / wc) + (1 : Int32))), (.ref b2), (.ref b2)])) rfl (by rw [hml]; rfl) (Steps.refl _) (a := b2) (argsL := [(.int ((pi1 / wc) + (1 : Int32))), (.int ((pi1 % wc) + (1 : Int32)))]) (rest := [(.ref b2)]) (lenOf pd_25 rfl) rfl (by show 2 * 0 + _ ≤ _; exact Nat.le_of_eq rfl) (hb hby d24_50) (fun _ _ => ⟨rfl, e5, (by decide : 1 + 0 ≤ _), (by decide : 2 + 0 ≤ _)⟩)
  dsimp only [Pt.U, Pt.locs, Pt.cells, Pt.slots] at X6 l6 y6 z6 st6 hQ6
  subst l6 y6 z6
  obtain ⟨Nq6, rfl, Kc6, p6_0, p6_1, p6_2⟩ := hQ6
  have N6 := Fr.app N1 Nq6
  have K6 : Keep h0 T6.heap ([] : List Addr) := K2.trans Kc6 (allS (P := fun x => x ∈ ([] : List Addr) ∨ h0.size ≤ x) (Or.inr sz2) all0)
  have Z6 : n0 ≤ T6.heap.size := Nat.le_trans Z2 Kc6.1
  have go7 : ∀ t, Steps p.tables e below (T6.setTop (mkF m 53 #[.val (.ref pr0), .val (.int pi1)] [(.ref b2)])) t → Steps p.tables e below st0 t := by
    intro t kt
    refine go0 t ?_
    refine XS.iloadN X0.here hx rfl (hb hby d24_0) rfl ?_
    show Steps p.tables e below (s₁.setTop (mkF m 1 #[.val (.ref pr0), .val (.int pi1)] [(.int pi1)])) _
    refine XS.ifNo X0.here hx rfl (hb hby d24_1) rfl ((if0 _ _).trans (flt P3).1) ?_
    show Steps p.tables e below (s₁.setTop (mkF m 4 #[.val (.ref pr0), .val (.int pi1)] [])) _
    refine XS.iloadN X0.here hx rfl (hb hby d24_4) rfl ?_
    show Steps p.tables e below (s₁.setTop (mkF m 5 #[.val (.ref pr0), .val (.int pi1)] [(.int pi1)])) _
    refine XS.aloadN X0.here hx rfl (hb hby d24_5) rfl rfl ?_
    show Steps p.tables e below (s₁.setTop (mkF m 6 #[.val (.ref pr0), .val (.int pi1)] [(.ref pr0), (.int pi1)])) _
    refine st1.trans ?_
    show Steps p.tables e below (T1.setTop (mkF m 9 #[.val (.ref pr0), .val (.int pi1)] [(.int (wr * wc)), (.int pi1)])) _
    refine XS.icmpYes X1.here hx rfl (pc0 := 9) (pc' := 30) rfl (hb hby d24_9) rfl (tlt P4).1 (by decide) (by decide) ?_
    show Steps p.tables e below (T1.setTop (mkF m 30 #[.val (.ref pr0), .val (.int pi1)] [])) _
    refine st2 _ ?_
    show Steps p.tables e below (T2.setTop (mkF m 33 #[.val (.ref pr0), .val (.int pi1)] [(.ref b2)])) _
    refine XS.dup X2.here hx rfl (hb hby d24_33) rfl rfl ?_
    show Steps p.tables e below (T2.setTop (mkF m 34 #[.val (.ref pr0), .val (.int pi1)] [(.ref b2), (.ref b2)])) _
    refine XS.iloadN X2.here hx rfl (hb hby d24_34) rfl ?_
    show Steps p.tables e below (T2.setTop (mkF m 35 #[.val (.ref pr0), .val (.int pi1)] [(.int pi1), (.ref b2), (.ref b2)])) _
    refine XS.aloadN X2.here hx rfl (hb hby d24_35) rfl rfl ?_
    show Steps p.tables e below (T2.setTop (mkF m 36 #[.val (.ref pr0), .val (.int pi1)] [(.ref pr0), (.int pi1), (.ref b2), (.ref b2)])) _
    refine st4 _ ?_
    show Steps p.tables e below (T4.setTop (mkF m 39 #[.val (.ref pr0), .val (.int pi1)] [(.int wc), (.int pi1), (.ref b2), (.ref b2)])) _
    refine XS.idiv X4.here hx rfl (hb hby d24_39) rfl P5 ?_
    show Steps p.tables e below (T4.setTop (mkF m 40 #[.val (.ref pr0), .val (.int pi1)] [(.int (pi1 / wc)), (.ref b2), (.ref b2)])) _
    refine XS.iconst X4.here hx rfl (hb hby d24_40) ?_
    show Steps p.tables e below (T4.setTop (mkF m 41 #[.val (.ref pr0), .val (.int pi1)] [(.int (1 : Int32)), (.int (pi1 / wc)), (.ref b2), (.ref b2)])) _
    refine XS.iadd X4.here hx rfl (hb hby d24_41) rfl ?_
    show Steps p.tables e below (T4.setTop (mkF m 42 #[.val (.ref pr0), .val (.int pi1)] [(.int ((pi1 / wc) + (1 : Int32))), (.ref b2), (.ref b2)])) _
    refine XS.iloadN X4.here hx rfl (hb hby d24_42) rfl ?_
    show Steps p.tables e below (T4.setTop (mkF m 43 #[.val (.ref pr0), .val (.int pi1)] [(.int pi1), (.int ((pi1 / wc) + (1 : Int32))), (.ref b2), (.ref b2)])) _
    refine XS.aloadN X4.here hx rfl (hb hby d24_43) rfl rfl ?_
    show Steps p.tables e below (T4.setTop (mkF m 44 #[.val (.ref pr0), .val (.int pi1)] [(.ref pr0), (.int pi1), (.int ((pi1 / wc) + (1 : Int32))), (.ref b2), (.ref b2)])) _
    refine st5 _ ?_
    show Steps p.tables e below (T5.setTop (mkF m 47 #[.val (.ref pr0), .val (.int pi1)] [(.int wc), (.int pi1), (.int ((pi1 / wc) + (1 : Int32))), (.ref b2), (.ref b2)])) _
    refine iremM X5 hx rfl (hb hby d24_47) rfl P5 ?_
    show Steps p.tables e below (T5.setTop (mkF m 48 #[.val (.ref pr0), .val (.int pi1)] [(.int (pi1 % wc)), (.int ((pi1 / wc) + (1 : Int32))), (.ref b2), (.ref b2)])) _
    refine XS.iconst X5.here hx rfl (hb hby d24_48) ?_
    show Steps p.tables e below (T5.setTop (mkF m 49 #[.val (.ref pr0), .val (.int pi1)] [(.int (1 : Int32)), (.int (pi1 % wc)), (.int ((pi1 / wc) + (1 : Int32))), (.ref b2), (.ref b2)])) _
    refine XS.iadd X5.here hx rfl (hb hby d24_49) rfl ?_
    show Steps p.tables e below (T5.setTop (mkF m 50 #[.val (.ref pr0), .val (.int pi1)] [(.int ((pi1 % wc) + (1 : Int32))), (.int ((pi1 / wc) + (1 : Int32))), (.ref b2), (.ref b2)])) _
    refine st6.trans ?_
    show Steps p.tables e below (T6.setTop (mkF m 53 #[.val (.ref pr0), .val (.int pi1)] [(.ref b2)])) _
    exact kt
  obtain ⟨fs, hr, hrun, hended, hW, hsame⟩ := X6.leave (v := some (.ref b2)) (fun h => by rw [Bd.returns] at h; cases h)
  refine ⟨_, _, go7 _ ?_, hrun, hended, _, _, rfl, ?_, ⟨_, rfl⟩, hW, hsame.mono (by decide) (by decide)⟩
  · jvm_step X6.here [X6.here.top, hx, (hb hby d24_53), X6.method', Bd.returns, Value.isRef, FieldType.isReference]
    first | (intro acts; rw [hr _ acts rfl rfl rfl]) | rw [hr _ _ rfl rfl rfl]
    exact Steps.refl _
  · show Q_own_square Z pr0 pi1 wr wc h0 n0 _ T6.heap _
    exact ⟨N6, b2, rfl, sz2, K6, p6_0, p6_1, p6_2⟩
set_option maxRecDepth 65536 in
set_option maxHeartbeats 40000000 in
theorem own_tail35 {p : Program} {l : Launch} {e : Env} {s : State} {m : MethodId} {args : Array Value} {below : List Frame} {meth : Method} {c : Code} {T0 : State} {locs : List Loc} {Z : State} {a0 : Array Value} {h0 : Heap} {n0 : Nat} (x0 : Int32) (x1 : Int32) (x2 : Int32) (x3 : Int32) (R : Int32) (K : Int32) (r : Int32) (q : Int32) (nb : Addr) (kn : ClassId) (c0 : Addr) (c1 : Addr) (c2 : Addr) (c3 : Addr) (c4 : Addr) (c5 : Addr) (c6 : Addr) (c7 : Addr) (X0 : Stand p l e room_1 s m args below meth c T0 locs 0 0) (hx : p.tables.exec = Jvm.exec) (hZ : Z.Warmed39 s.vm) (hw : ∀ d ∈ tables_1, d.before a0 Z = true) (hby : c.code = code) (hml : c.maxLocals = 12) (hown : s.vm.findClass "com/example/hoofprint/hoofprint/service/TourLinksIndexPinLaw" = some m.cls) (e0 : T0.heap = h0) (N0 : Fr n0 locs) (Z0 : n0 ≤ h0.size) (hret : meth.sig.returnType = some .boolean) (hlk : meth.locks = false) (P0 : Sta Z h0 "com/example/hoofprint/hoofprint/model/KnightMove" "NUMBERED" "[Lcom/example/hoofprint/hoofprint/model/KnightMove;" (.ref nb)) (P1 : Arv Z h0 nb kn (.object "com/example/hoofprint/hoofprint/model/KnightMove") (8 : Int32) [(.ref c0), (.ref c1), (.ref c2), (.ref c3), (.ref c4), (.ref c5), (.ref c6), (.ref c7)] .null) (P2 : Exa Z h0 c0 "com/example/hoofprint/hoofprint/model/KnightMove") (P3 : Fld Z h0 c0 "java/lang/Enum" "ordinal" "I" (.int (0 : Int32))) (P4 : Fld Z h0 c0 "com/example/hoofprint/hoofprint/model/KnightMove" "rows" "I" (.int (-2 : Int32))) (P5 : Fld Z h0 c0 "com/example/hoofprint/hoofprint/model/KnightMove" "columns" "I" (.int (-1 : Int32))) (P6 : Exa Z h0 c1 "com/example/hoofprint/hoofprint/model/KnightMove") (P7 : Fld Z h0 c1 "java/lang/Enum" "ordinal" "I" (.int (1 : Int32))) (P8 : Fld Z h0 c1 "com/example/hoofprint/hoofprint/model/KnightMove" "rows" "I" (.int (-2 : Int32))) (P9 : Fld Z h0 c1 "com/example/hoofprint/hoofprint/model/KnightMove" "columns" "I" (.int (1 : Int32))) (P10 : Exa Z h0 c2 "com/example/hoofprint/hoofprint/model/KnightMove") (P11 : Fld Z h0 c2 "java/lang/Enum" "ordinal" "I" (.int (2 : Int32))) (P12 : Fld Z h0 c2 "com/example/hoofprint/hoofprint/model/KnightMove" "rows" "I" (.int (-1 : Int32))) (P13 : Fld Z h0 c2 "com/example/hoofprint/hoofprint/model/KnightMove" "columns" "I" (.int (-2 : Int32))) (P14 : Exa Z h0 c3 "com/example/hoofprint/hoofprint/model/KnightMove") (P15 : Fld Z h0 c3 "java/lang/Enum" "ordinal" "I" (.int (3 : Int32))) (P16 : Fld Z h0 c3 "com/example/hoofprint/hoofprint/model/KnightMove" "rows" "I" (.int (-1 : Int32))) (P17 : Fld Z h0 c3 "com/example/hoofprint/hoofprint/model/KnightMove" "columns" "I" (.int (2 : Int32))) (P18 : Exa Z h0 c4 "com/example/hoofprint/hoofprint/model/KnightMove") (P19 : Fld Z h0 c4 "java/lang/Enum" "ordinal" "I" (.int (4 : Int32))) (P20 : Fld Z h0 c4 "com/example/hoofprint/hoofprint/model/KnightMove" "rows" "I" (.int (1 : Int32))) (P21 : Fld Z h0 c4 "com/example/hoofprint/hoofprint/model/KnightMove" "columns" "I" (.int (-2 : Int32))) (P22 : Exa Z h0 c5 "com/example/hoofprint/hoofprint/model/KnightMove") (P23 : Fld Z h0 c5 "java/lang/Enum" "ordinal" "I" (.int (5 : Int32))) (P24 : Fld Z h0 c5 "com/example/hoofprint/hoofprint/model/KnightMove" "rows" "I" (.int (1 : Int32))) (P25 : Fld Z h0 c5 "com/example/hoofprint/hoofprint/model/KnightMove" "columns" "I" (.int (2 : Int32))) (P26 : Exa Z h0 c6 "com/example/hoofprint/hoofprint/model/KnightMove") (P27 : Fld Z h0 c6 "java/lang/Enum" "ordinal" "I" (.int (6 : Int32))) (P28 : Fld Z h0 c6 "com/example/hoofprint/hoofprint/model/KnightMove" "rows" "I" (.int (2 : Int32))) (P29 : Fld Z h0 c6 "com/example/hoofprint/hoofprint/model/KnightMove" "columns" "I" (.int (-1 : Int32))) (P30 : Exa Z h0 c7 "com/example/hoofprint/hoofprint/model/KnightMove") (P31 : Fld Z h0 c7 "java/lang/Enum" "ordinal" "I" (.int (7 : Int32))) (P32 : Fld Z h0 c7 "com/example/hoofprint/hoofprint/model/KnightMove" "rows" "I" (.int (2 : Int32))) (P33 : Fld Z h0 c7 "com/example/hoofprint/hoofprint/model/KnightMove" "columns" "I" (.int (1 : Int32))) (P34 : Sta Z h0 "com/example/hoofprint/hoofprint/service/TourLinks" "NO_MOVE" "I" (.int (8 : Int32))) (P35 : ¬ (R < (1 : Int32))) (P36 : ¬ (K < (1 : Int32))) (P37 : ¬ ((100000000 : Int64) < ((R.toInt64) * (K.toInt64)))) (P38 : ¬ ((R * K) < 0)) (P39 : (R * K).toNatClampNeg ≤ 16384) (P40 : ¬ (K = (0 : Int32))) (P41 : ¬ (((r * K) + q) < (0 : Int32))) (P42 : ((r * K) + q) < (R * K)) (P43 : ((((r * K) + q) / K) + (1 : Int32)) = (r + (1 : Int32))) (P44 : ((((r * K) + q) % K) + (1 : Int32)) = (q + (1 : Int32))) :
    ∃ s₂ o, Steps p.tables e below (T0.setTop (mkF m 35 #[.val (.int x0), .val (.int x1), .val (.int x2), .val (.int x3), .val (.int R), .val (.int K), .val (.int r), .val (.int q), .unset, .unset, .unset, .unset] [])) s₂ ∧ s₂.status = .running ∧ Ended s₂ below o ∧ ∃ v L, o = .returned v ∧ (v = some (.int (1 : Int32)) ∧ Fr n0 L) ∧ FrameEnd s o s₂ L room_1.cells room_1.slots := by
  obtain ⟨st0, hst0⟩ : ∃ zst, zst = T0.setTop (mkF m 35 #[.val (.int x0), .val (.int x1), .val (.int x2), .val (.int x3), .val (.int R), .val (.int K), .val (.int r), .val (.int q), .unset, .unset, .unset, .unset] []) := ⟨_, rfl⟩
  have go0 : ∀ t, Steps p.tables e below (T0.setTop (mkF m 35 #[.val (.int x0), .val (.int x1), .val (.int x2), .val (.int x3), .val (.int R), .val (.int K), .val (.int r), .val (.int q), .unset, .unset, .unset, .unset] [])) t → Steps p.tables e below st0 t := fun t k => by rw [hst0]; exact k
  rw [← hst0]
  obtain ⟨T1, h1, X1, e1, E1, A1, D1, -, st1⟩ := newO X0 hx hZ hown (hw _ (List.mem_of_getElem? (i := 1) rfl)) (hw _ (List.mem_of_getElem? (i := 2) rfl)) (hw _ (List.mem_of_getElem? (i := 3) rfl)) e0 (g := (mkF m 35 #[.val (.int x0), .val (.int x1), .val (.int x2), .val (.int x3), .val (.int R), .val (.int K), .val (.int r), .val (.int q), .unset, .unset, .unset, .unset] [])) rfl (hb hby at_35) (by decide) (by decide)
  obtain ⟨b1, g1⟩ : ∃ zsz, zsz = h0.size := ⟨_, rfl⟩
  rw [← g1] at A1 D1 st1
  have ne1_c0 : c0 ≠ b1 := Nat.ne_of_lt (Nat.lt_of_lt_of_eq P2.lt g1.symm)
  have ne1_c6 : c6 ≠ b1 := Nat.ne_of_lt (Nat.lt_of_lt_of_eq P26.lt g1.symm)
  have ne1_c3 : c3 ≠ b1 := Nat.ne_of_lt (Nat.lt_of_lt_of_eq P14.lt g1.symm)
  have ne1_c4 : c4 ≠ b1 := Nat.ne_of_lt (Nat.lt_of_lt_of_eq P18.lt g1.symm)
  have ne1_c5 : c5 ≠ b1 := Nat.ne_of_lt (Nat.lt_of_lt_of_eq P22.lt g1.symm)
  have ne1_c7 : c7 ≠ b1 := Nat.ne_of_lt (Nat.lt_of_lt_of_eq P30.lt g1.symm)
  have ne1_c2 : c2 ≠ b1 := Nat.ne_of_lt (Nat.lt_of_lt_of_eq P10.lt g1.symm)
  have ne1_nb : nb ≠ b1 := Nat.ne_of_lt (Nat.lt_of_lt_of_eq P1.lt g1.symm)
  have ne1_c1 : c1 ≠ b1 := Nat.ne_of_lt (Nat.lt_of_lt_of_eq P6.lt g1.symm)
  have ge1 : n0 ≤ b1 := Nat.le_trans Z0 (Nat.le_of_eq g1.symm)
  have Z1 : n0 ≤ h1.size := Nat.le_trans Z0 E1.1
  have F1_rows : Fld Z h1 b1 "com/example/hoofprint/hoofprint/model/Board" "rows" "I" (.int (0 : Int32)) := D1 (Or.inr (hw _ (List.mem_of_getElem? (i := 17) rfl))) (ty := .int) (by decide)
  have F1_columns : Fld Z h1 b1 "com/example/hoofprint/hoofprint/model/Board" "columns" "I" (.int (0 : Int32)) := D1 (Or.inr (hw _ (List.mem_of_getElem? (i := 19) rfl))) (ty := .int) (by decide)
  obtain ⟨_, _, ⟨T2, L2, k2, n2⟩, -, X2, ⟨Lc2, hQ2, l2, y2, z2⟩, st2⟩ := X1.specialBack hx (y := (⟨"com/example/hoofprint/hoofprint/model/Board", "<init>", "(II)V"⟩ : MethodName)) rfl hown (mvT hZ (hw _ (List.mem_of_getElem? (i := 4) rfl))) (mvT hZ (hw _ (List.mem_of_getElem? (i := 5) rfl))) (mvT hZ (hw _ (List.mem_of_getElem? (i := 6) rfl))) (by decide) (backOf (W := 1) (own_board l Z a0 hw [] b1 R K h1 n0 Z1 A1 F1_rows F1_columns P35 P36 P37 ge1) hZ (hw _ (List.mem_of_getElem? (i := 6) rfl)) (hw _ (List.mem_of_getElem? (i := 3) rfl)) (by decide) (by decide)) (g := (mkF m 43 #[.val (.int x0), .val (.int x1), .val (.int x2), .val (.int x3), .val (.int R), .val (.int K), .val (.int r), .val (.int q), .unset, .unset, .unset, .unset] [(.int K), (.int R), (.ref b1), (.ref b1)])) rfl (by rw [hml]; rfl) (Steps.refl _) (a := b1) (argsL := [(.int R), (.int K)]) (rest := [(.ref b1)]) (lenOf pd_25 rfl) rfl (by show 2 * 0 + _ ≤ _; exact Nat.le_of_eq rfl) (hb hby at_43) (fun _ _ => ⟨rfl, e1, (by decide : 1 + 0 ≤ _), (by decide : 2 + 0 ≤ _)⟩)
  dsimp only [Pt.U, Pt.locs, Pt.cells, Pt.slots] at X2 l2 y2 z2 st2 hQ2
  subst l2 y2 z2
  obtain ⟨Nq2, rfl, Kc2, p2_0, p2_1, p2_2⟩ := hQ2
  have N2 := Fr.app N0 Nq2
  have Z2 : n0 ≤ T2.heap.size := Nat.le_trans Z1 Kc2.1
  obtain ⟨T3, h3, X3, e3, E3, A3, D3, -, st3⟩ := newO X2 hx hZ hown (hw _ (List.mem_of_getElem? (i := 20) rfl)) (hw _ (List.mem_of_getElem? (i := 21) rfl)) (hw _ (List.mem_of_getElem? (i := 22) rfl)) rfl (g := (mkF m 48 #[.val (.int x0), .val (.int x1), .val (.int x2), .val (.int x3), .val (.int R), .val (.int K), .val (.int r), .val (.int q), .val (.ref b1), .unset, .unset, .unset] [])) rfl (hb hby at_48) (by decide) (by decide)
  obtain ⟨b3, g3⟩ : ∃ zsz, zsz = T2.heap.size := ⟨_, rfl⟩
  rw [← g3] at A3 D3 st3
  have f4 : Exa Z T2.heap c0 "com/example/hoofprint/hoofprint/model/KnightMove" := ((P2.ext E1).keep Kc2)
  have ne3_c0 : c0 ≠ b3 := Nat.ne_of_lt (Nat.lt_of_lt_of_eq f4.lt g3.symm)
  have f5 : Exa Z T2.heap c6 "com/example/hoofprint/hoofprint/model/KnightMove" := ((P26.ext E1).keep Kc2)
  have ne3_c6 : c6 ≠ b3 := Nat.ne_of_lt (Nat.lt_of_lt_of_eq f5.lt g3.symm)
  have f6 : Exa Z T2.heap c3 "com/example/hoofprint/hoofprint/model/KnightMove" := ((P14.ext E1).keep Kc2)
  have ne3_c3 : c3 ≠ b3 := Nat.ne_of_lt (Nat.lt_of_lt_of_eq f6.lt g3.symm)
  have f7 : Exa Z T2.heap c4 "com/example/hoofprint/hoofprint/model/KnightMove" := ((P18.ext E1).keep Kc2)
  have ne3_c4 : c4 ≠ b3 := Nat.ne_of_lt (Nat.lt_of_lt_of_eq f7.lt g3.symm)
  have ne3_b1 : b1 ≠ b3 := Nat.ne_of_lt (Nat.lt_of_lt_of_eq p2_0.lt g3.symm)
  have f8 : Exa Z T2.heap c5 "com/example/hoofprint/hoofprint/model/KnightMove" := ((P22.ext E1).keep Kc2)
  have ne3_c5 : c5 ≠ b3 := Nat.ne_of_lt (Nat.lt_of_lt_of_eq f8.lt g3.symm)
  have f9 : Exa Z T2.heap c7 "com/example/hoofprint/hoofprint/model/KnightMove" := ((P30.ext E1).keep Kc2)
  have ne3_c7 : c7 ≠ b3 := Nat.ne_of_lt (Nat.lt_of_lt_of_eq f9.lt g3.symm)
  have f10 : Exa Z T2.heap c2 "com/example/hoofprint/hoofprint/model/KnightMove" := ((P10.ext E1).keep Kc2)
  have ne3_c2 : c2 ≠ b3 := Nat.ne_of_lt (Nat.lt_of_lt_of_eq f10.lt g3.symm)
  have f11 : Arv Z T2.heap nb kn (.object "com/example/hoofprint/hoofprint/model/KnightMove") (8 : Int32) [(.ref c0), (.ref c1), (.ref c2), (.ref c3), (.ref c4), (.ref c5), (.ref c6), (.ref c7)] .null := ((P1.ext E1).keep Kc2 (ninS ne1_nb nin0))
  have ne3_nb : nb ≠ b3 := Nat.ne_of_lt (Nat.lt_of_lt_of_eq f11.lt g3.symm)
  have f12 : Exa Z T2.heap c1 "com/example/hoofprint/hoofprint/model/KnightMove" := ((P6.ext E1).keep Kc2)
  have ne3_c1 : c1 ≠ b3 := Nat.ne_of_lt (Nat.lt_of_lt_of_eq f12.lt g3.symm)
  have ge3 : n0 ≤ b3 := Nat.le_trans Z2 (Nat.le_of_eq g3.symm)
  have Z3 : n0 ≤ h3.size := Nat.le_trans Z2 E3.1
  have F3_board : Fld Z h3 b3 "com/example/hoofprint/hoofprint/service/TourLinks" "board" "Lcom/example/hoofprint/hoofprint/model/Board;" .null := D3 (Or.inr (hw _ (List.mem_of_getElem? (i := 28) rfl))) (ty := (.object "com/example/hoofprint/hoofprint/model/Board")) (by decide)
  have F3_links : Fld Z h3 b3 "com/example/hoofprint/hoofprint/service/TourLinks" "links" "[B" .null := D3 (Or.inr (hw _ (List.mem_of_getElem? (i := 36) rfl))) (ty := (.array .byte)) (by decide)
  have F3_indexStep : Fld Z h3 b3 "com/example/hoofprint/hoofprint/service/TourLinks" "indexStep" "[I" .null := D3 (Or.inr (hw _ (List.mem_of_getElem? (i := 76) rfl))) (ty := (.array .int)) (by decide)
  have f13 : Sta Z h3 "com/example/hoofprint/hoofprint/model/KnightMove" "NUMBERED" "[Lcom/example/hoofprint/hoofprint/model/KnightMove;" (.ref nb) := ((own_sta_keep (P0.ext E1) Kc2 (allS (P := fun x => ∀ c, h1[x]? = some c → c.vm.isStatics = false) (own_nost A1) all0)).ext E3)
  have f14 : Arv Z h3 nb kn (.object "com/example/hoofprint/hoofprint/model/KnightMove") (8 : Int32) [(.ref c0), (.ref c1), (.ref c2), (.ref c3), (.ref c4), (.ref c5), (.ref c6), (.ref c7)] .null := (f11.ext E3)
  have f15 : Exa Z h3 c0 "com/example/hoofprint/hoofprint/model/KnightMove" := (f4.ext E3)
  have f16 : Fld Z h3 c0 "java/lang/Enum" "ordinal" "I" (.int (0 : Int32)) := (((P3.ext E1).keep Kc2 (ninS ne1_c0 nin0)).ext E3)
  have f17 : Fld Z h3 c0 "com/example/hoofprint/hoofprint/model/KnightMove" "rows" "I" (.int (-2 : Int32)) := (((P4.ext E1).keep Kc2 (ninS ne1_c0 nin0)).ext E3)
  have f18 : Fld Z h3 c0 "com/example/hoofprint/hoofprint/model/KnightMove" "columns" "I" (.int (-1 : Int32)) := (((P5.ext E1).keep Kc2 (ninS ne1_c0 nin0)).ext E3)
  have f19 : Exa Z h3 c1 "com/example/hoofprint/hoofprint/model/KnightMove" := (f12.ext E3)
  have f20 : Fld Z h3 c1 "java/lang/Enum" "ordinal" "I" (.int (1 : Int32)) := (((P7.ext E1).keep Kc2 (ninS ne1_c1 nin0)).ext E3)
  have f21 : Fld Z h3 c1 "com/example/hoofprint/hoofprint/model/KnightMove" "rows" "I" (.int (-2 : Int32)) := (((P8.ext E1).keep Kc2 (ninS ne1_c1 nin0)).ext E3)
  have f22 : Fld Z h3 c1 "com/example/hoofprint/hoofprint/model/KnightMove" "columns" "I" (.int (1 : Int32)) := (((P9.ext E1).keep Kc2 (ninS ne1_c1 nin0)).ext E3)
  have f23 : Exa Z h3 c2 "com/example/hoofprint/hoofprint/model/KnightMove" := (f10.ext E3)
  have f24 : Fld Z h3 c2 "java/lang/Enum" "ordinal" "I" (.int (2 : Int32)) := (((P11.ext E1).keep Kc2 (ninS ne1_c2 nin0)).ext E3)
  have f25 : Fld Z h3 c2 "com/example/hoofprint/hoofprint/model/KnightMove" "rows" "I" (.int (-1 : Int32)) := (((P12.ext E1).keep Kc2 (ninS ne1_c2 nin0)).ext E3)
  have f26 : Fld Z h3 c2 "com/example/hoofprint/hoofprint/model/KnightMove" "columns" "I" (.int (-2 : Int32)) := (((P13.ext E1).keep Kc2 (ninS ne1_c2 nin0)).ext E3)
  have f27 : Exa Z h3 c3 "com/example/hoofprint/hoofprint/model/KnightMove" := (f6.ext E3)
  have f28 : Fld Z h3 c3 "java/lang/Enum" "ordinal" "I" (.int (3 : Int32)) := (((P15.ext E1).keep Kc2 (ninS ne1_c3 nin0)).ext E3)
  have f29 : Fld Z h3 c3 "com/example/hoofprint/hoofprint/model/KnightMove" "rows" "I" (.int (-1 : Int32)) := (((P16.ext E1).keep Kc2 (ninS ne1_c3 nin0)).ext E3)
  have f30 : Fld Z h3 c3 "com/example/hoofprint/hoofprint/model/KnightMove" "columns" "I" (.int (2 : Int32)) := (((P17.ext E1).keep Kc2 (ninS ne1_c3 nin0)).ext E3)
  have f31 : Exa Z h3 c4 "com/example/hoofprint/hoofprint/model/KnightMove" := (f7.ext E3)
  have f32 : Fld Z h3 c4 "java/lang/Enum" "ordinal" "I" (.int (4 : Int32)) := (((P19.ext E1).keep Kc2 (ninS ne1_c4 nin0)).ext E3)
  have f33 : Fld Z h3 c4 "com/example/hoofprint/hoofprint/model/KnightMove" "rows" "I" (.int (1 : Int32)) := (((P20.ext E1).keep Kc2 (ninS ne1_c4 nin0)).ext E3)
  have f34 : Fld Z h3 c4 "com/example/hoofprint/hoofprint/model/KnightMove" "columns" "I" (.int (-2 : Int32)) := (((P21.ext E1).keep Kc2 (ninS ne1_c4 nin0)).ext E3)
  have f35 : Exa Z h3 c5 "com/example/hoofprint/hoofprint/model/KnightMove" := (f8.ext E3)
  have f36 : Fld Z h3 c5 "java/lang/Enum" "ordinal" "I" (.int (5 : Int32)) := (((P23.ext E1).keep Kc2 (ninS ne1_c5 nin0)).ext E3)
  have f37 : Fld Z h3 c5 "com/example/hoofprint/hoofprint/model/KnightMove" "rows" "I" (.int (1 : Int32)) := (((P24.ext E1).keep Kc2 (ninS ne1_c5 nin0)).ext E3)
  have f38 : Fld Z h3 c5 "com/example/hoofprint/hoofprint/model/KnightMove" "columns" "I" (.int (2 : Int32)) := (((P25.ext E1).keep Kc2 (ninS ne1_c5 nin0)).ext E3)
  have f39 : Exa Z h3 c6 "com/example/hoofprint/hoofprint/model/KnightMove" := (f5.ext E3)
  have f40 : Fld Z h3 c6 "java/lang/Enum" "ordinal" "I" (.int (6 : Int32)) := (((P27.ext E1).keep Kc2 (ninS ne1_c6 nin0)).ext E3)
  have f41 : Fld Z h3 c6 "com/example/hoofprint/hoofprint/model/KnightMove" "rows" "I" (.int (2 : Int32)) := (((P28.ext E1).keep Kc2 (ninS ne1_c6 nin0)).ext E3)
  have f42 : Fld Z h3 c6 "com/example/hoofprint/hoofprint/model/KnightMove" "columns" "I" (.int (-1 : Int32)) := (((P29.ext E1).keep Kc2 (ninS ne1_c6 nin0)).ext E3)
  have f43 : Exa Z h3 c7 "com/example/hoofprint/hoofprint/model/KnightMove" := (f9.ext E3)
  have f44 : Fld Z h3 c7 "java/lang/Enum" "ordinal" "I" (.int (7 : Int32)) := (((P31.ext E1).keep Kc2 (ninS ne1_c7 nin0)).ext E3)
  have f45 : Fld Z h3 c7 "com/example/hoofprint/hoofprint/model/KnightMove" "rows" "I" (.int (2 : Int32)) := (((P32.ext E1).keep Kc2 (ninS ne1_c7 nin0)).ext E3)
  have f46 : Fld Z h3 c7 "com/example/hoofprint/hoofprint/model/KnightMove" "columns" "I" (.int (1 : Int32)) := (((P33.ext E1).keep Kc2 (ninS ne1_c7 nin0)).ext E3)
  have f47 : Sta Z h3 "com/example/hoofprint/hoofprint/service/TourLinks" "NO_MOVE" "I" (.int (8 : Int32)) := ((own_sta_keep (P34.ext E1) Kc2 (allS (P := fun x => ∀ c, h1[x]? = some c → c.vm.isStatics = false) (own_nost A1) all0)).ext E3)
  have f48 : Exa Z h3 b1 "com/example/hoofprint/hoofprint/model/Board" := (p2_0.ext E3)
  have f49 : Fld Z h3 b1 "com/example/hoofprint/hoofprint/model/Board" "rows" "I" (.int R) := (p2_1.ext E3)
  have f50 : Fld Z h3 b1 "com/example/hoofprint/hoofprint/model/Board" "columns" "I" (.int K) := (p2_2.ext E3)
  obtain ⟨_, _, ⟨T51, L51, k51, n51⟩, -, X51, ⟨Lc51, hQ51, l51, y51, z51⟩, st51⟩ := X3.specialBack hx (y := (⟨"com/example/hoofprint/hoofprint/service/TourLinks", "<init>", "(Lcom/example/hoofprint/hoofprint/model/Board;)V"⟩ : MethodName)) rfl hown (mvT hZ (hw _ (List.mem_of_getElem? (i := 23) rfl))) (mvT hZ (hw _ (List.mem_of_getElem? (i := 24) rfl))) (mvT hZ (hw _ (List.mem_of_getElem? (i := 25) rfl))) (by decide) (backOf (W := 1) (own_links l Z a0 hw [] b3 b1 nb kn c0 c1 c2 c3 c4 c5 c6 c7 R K h3 n0 Z3 f13 f14 f15 f16 f17 f18 f19 f20 f21 f22 f23 f24 f25 f26 f27 f28 f29 f30 f31 f32 f33 f34 f35 f36 f37 f38 f39 f40 f41 f42 f43 f44 f45 f46 f47 f48 f49 f50 A3 F3_board F3_links F3_indexStep ne3_b1 ne3_nb ne3_c0 ne3_c1 ne3_c2 ne3_c3 ne3_c4 ne3_c5 ne3_c6 ne3_c7 P38 P39 ge3) hZ (hw _ (List.mem_of_getElem? (i := 25) rfl)) (hw _ (List.mem_of_getElem? (i := 22) rfl)) (by decide) (by decide)) (g := (mkF m 54 #[.val (.int x0), .val (.int x1), .val (.int x2), .val (.int x3), .val (.int R), .val (.int K), .val (.int r), .val (.int q), .val (.ref b1), .unset, .unset, .unset] [(.ref b1), (.ref b3), (.ref b3)])) rfl (by rw [hml]; rfl) (Steps.refl _) (a := b3) (argsL := [(.ref b1)]) (rest := [(.ref b3)]) (lenOf pd_27 rfl) rfl (by show 2 * 0 + _ ≤ _; exact Nat.le_of_eq rfl) (hb hby at_54) (fun _ _ => ⟨rfl, e3, (by decide : 2 + 2 ≤ _), (by decide : 5 + 16392 ≤ _)⟩)
  dsimp only [Pt.U, Pt.locs, Pt.cells, Pt.slots] at X51 l51 y51 z51 st51 hQ51
  subst l51 y51 z51
  obtain ⟨Nq51, b51_0, b51_1, y51_0, y51_1, rfl, szb51_0, szb51_1, Kc51, p51_0, p51_1, p51_2, p51_3, p51_4, p51_5, p51_6⟩ := hQ51
  have N51 := Fr.app N2 Nq51
  have ne_b51_0_c0 : c0 ≠ b51_0 := Nat.ne_of_lt (Nat.lt_of_lt_of_le f15.lt szb51_0)
  have ne_b51_0_c6 : c6 ≠ b51_0 := Nat.ne_of_lt (Nat.lt_of_lt_of_le f39.lt szb51_0)
  have ne_b51_0_c3 : c3 ≠ b51_0 := Nat.ne_of_lt (Nat.lt_of_lt_of_le f27.lt szb51_0)
  have ne_b51_0_c4 : c4 ≠ b51_0 := Nat.ne_of_lt (Nat.lt_of_lt_of_le f31.lt szb51_0)
  have ne_b51_0_b1 : b1 ≠ b51_0 := Nat.ne_of_lt (Nat.lt_of_lt_of_le f48.lt szb51_0)
  have ne_b51_0_c5 : c5 ≠ b51_0 := Nat.ne_of_lt (Nat.lt_of_lt_of_le f35.lt szb51_0)
  have ne_b51_0_c7 : c7 ≠ b51_0 := Nat.ne_of_lt (Nat.lt_of_lt_of_le f43.lt szb51_0)
  have ne_b51_0_c2 : c2 ≠ b51_0 := Nat.ne_of_lt (Nat.lt_of_lt_of_le f23.lt szb51_0)
  have ne_b51_0_nb : nb ≠ b51_0 := Nat.ne_of_lt (Nat.lt_of_lt_of_le f14.lt szb51_0)
  have ne_b51_0_c1 : c1 ≠ b51_0 := Nat.ne_of_lt (Nat.lt_of_lt_of_le f19.lt szb51_0)
  have ne_b51_0_b3 : b3 ≠ b51_0 := Nat.ne_of_lt (Nat.lt_of_lt_of_le A3.lt szb51_0)
  have ge_b51_0 : n0 ≤ b51_0 := Nat.le_trans Z3 szb51_0
  have ne_b51_1_c0 : c0 ≠ b51_1 := Nat.ne_of_lt (Nat.lt_of_lt_of_le f15.lt szb51_1)
  have ne_b51_1_c6 : c6 ≠ b51_1 := Nat.ne_of_lt (Nat.lt_of_lt_of_le f39.lt szb51_1)
  have ne_b51_1_c3 : c3 ≠ b51_1 := Nat.ne_of_lt (Nat.lt_of_lt_of_le f27.lt szb51_1)
  have ne_b51_1_c4 : c4 ≠ b51_1 := Nat.ne_of_lt (Nat.lt_of_lt_of_le f31.lt szb51_1)
  have ne_b51_1_b1 : b1 ≠ b51_1 := Nat.ne_of_lt (Nat.lt_of_lt_of_le f48.lt szb51_1)
  have ne_b51_1_c5 : c5 ≠ b51_1 := Nat.ne_of_lt (Nat.lt_of_lt_of_le f35.lt szb51_1)
  have ne_b51_1_c7 : c7 ≠ b51_1 := Nat.ne_of_lt (Nat.lt_of_lt_of_le f43.lt szb51_1)
  have ne_b51_1_c2 : c2 ≠ b51_1 := Nat.ne_of_lt (Nat.lt_of_lt_of_le f23.lt szb51_1)
  have ne_b51_1_nb : nb ≠ b51_1 := Nat.ne_of_lt (Nat.lt_of_lt_of_le f14.lt szb51_1)
  have ne_b51_1_c1 : c1 ≠ b51_1 := Nat.ne_of_lt (Nat.lt_of_lt_of_le f19.lt szb51_1)
  have ne_b51_1_b3 : b3 ≠ b51_1 := Nat.ne_of_lt (Nat.lt_of_lt_of_le A3.lt szb51_1)
  have ge_b51_1 : n0 ≤ b51_1 := Nat.le_trans Z3 szb51_1
  have Z51 : n0 ≤ T51.heap.size := Nat.le_trans Z3 Kc51.1
  have f52 : Exa Z T51.heap b1 "com/example/hoofprint/hoofprint/model/Board" := (f48.keep Kc51)
  have f53 : Fld Z T51.heap b1 "com/example/hoofprint/hoofprint/model/Board" "columns" "I" (.int K) := (f50.keep Kc51 (ninS ne3_b1 nin0))
  obtain ⟨cq54, kq54, q54a, q54b, q54c⟩ := isOf hZ rfl p51_0
  obtain ⟨_, _, ⟨T54, L54, k54, n54⟩, -, X54, ⟨Lc54, hQ54, l54, y54, z54⟩, st54⟩ := X51.virtualBack hx (y := (⟨"com/example/hoofprint/hoofprint/service/TourLinks", "index", "(II)I"⟩ : MethodName)) (z := (⟨"com/example/hoofprint/hoofprint/service/TourLinks", "index", "(II)I"⟩ : MethodName)) hown (mvT hZ (hw _ (List.mem_of_getElem? (i := 83) rfl))) (mvT hZ (hw _ (List.mem_of_getElem? (i := 84) rfl))) (notFace_of_selects (args := #[]) (mvT hZ (hw _ (List.mem_of_getElem? (i := 86) rfl)))) (mvT hZ (hw _ (List.mem_of_getElem? (i := 86) rfl))) (mvT hZ (hw _ (List.mem_of_getElem? (i := 85) rfl))) (by decide) (backOf (W := 0) (own_index l Z a0 hw [] b3 r q b1 K T51.heap n0 Z51 p51_0 p51_1 f52 f53) hZ (hw _ (List.mem_of_getElem? (i := 87) rfl)) (hw _ (List.mem_of_getElem? (i := 22) rfl)) (by decide) (by decide)) q54a q54c (g := (mkF m 65 #[.val (.int x0), .val (.int x1), .val (.int x2), .val (.int x3), .val (.int R), .val (.int K), .val (.int r), .val (.int q), .val (.ref b1), .val (.ref b3), .unset, .unset] [(.int q), (.int r), (.ref b3)])) rfl (by rw [hml]; rfl) (Steps.refl _) (argsL := [(.int r), (.int q)]) (rest := []) (lenOf pd_28 rfl) rfl (by show 2 * 0 + _ ≤ _; exact Nat.le_of_eq rfl) (hb hby at_65) (fun _ _ => ⟨rfl, rfl, (by decide : 4 + 0 ≤ _), (by decide : 16397 + 0 ≤ _)⟩)
  dsimp only [Pt.U, Pt.locs, Pt.cells, Pt.slots] at X54 l54 y54 z54 st54 hQ54
  subst l54 y54 z54
  obtain ⟨rfl, Nq54, e54⟩ := hQ54
  have N54 := Fr.app N51 Nq54
  have f55 : Fld Z T51.heap b1 "com/example/hoofprint/hoofprint/model/Board" "rows" "I" (.int R) := (f49.keep Kc51 (ninS ne3_b1 nin0))
  obtain ⟨cq56, kq56, q56a, q56b, q56c⟩ := isOf hZ e54 f52
  obtain ⟨_, _, ⟨T56, L56, k56, n56⟩, -, X56, ⟨Lc56, hQ56, l56, y56, z56⟩, st56⟩ := X54.virtualBack hx (y := (⟨"com/example/hoofprint/hoofprint/model/Board", "squares", "()I"⟩ : MethodName)) (z := (⟨"com/example/hoofprint/hoofprint/model/Board", "squares", "()I"⟩ : MethodName)) hown (mvT hZ (hw _ (List.mem_of_getElem? (i := 89) rfl))) (mvT hZ (hw _ (List.mem_of_getElem? (i := 30) rfl))) (notFace_of_selects (args := #[]) (mvT hZ (hw _ (List.mem_of_getElem? (i := 32) rfl)))) (mvT hZ (hw _ (List.mem_of_getElem? (i := 32) rfl))) (mvT hZ (hw _ (List.mem_of_getElem? (i := 31) rfl))) (by decide) (backOf (W := 1) (own_squares l Z a0 hw [] b1 R K T51.heap n0 Z51 f55 f53) hZ (hw _ (List.mem_of_getElem? (i := 33) rfl)) (hw _ (List.mem_of_getElem? (i := 3) rfl)) (by decide) (by decide)) q56a q56c (g := (mkF m 79 #[.val (.int x0), .val (.int x1), .val (.int x2), .val (.int x3), .val (.int R), .val (.int K), .val (.int r), .val (.int q), .val (.ref b1), .val (.ref b3), .val (.int ((r * K) + q)), .unset] [(.ref b1), (.int ((r * K) + q))])) rfl (by rw [hml]; rfl) (Steps.refl _) (argsL := []) (rest := [(.int ((r * K) + q))]) (lenOf pd_10 rfl) rfl (by show 2 * 0 + _ ≤ _; exact Nat.le_of_eq rfl) (hb hby at_79) (fun _ _ => ⟨rfl, e54, (by decide : 4 + 0 ≤ _), (by decide : 16397 + 0 ≤ _)⟩)
  dsimp only [Pt.U, Pt.locs, Pt.cells, Pt.slots] at X56 l56 y56 z56 st56 hQ56
  subst l56 y56 z56
  obtain ⟨rfl, Nq56, e56⟩ := hQ56
  have N56 := Fr.app N54 Nq56
  obtain ⟨cq57, kq57, q57a, q57b, q57c⟩ := isOf hZ e56 f52
  obtain ⟨_, _, ⟨T57, L57, k57, n57⟩, -, X57, ⟨Lc57, hQ57, l57, y57, z57⟩, st57⟩ := X56.virtualBack hx (y := (⟨"com/example/hoofprint/hoofprint/model/Board", "square", "(I)Lcom/example/hoofprint/hoofprint/model/Square;"⟩ : MethodName)) (z := (⟨"com/example/hoofprint/hoofprint/model/Board", "square", "(I)Lcom/example/hoofprint/hoofprint/model/Square;"⟩ : MethodName)) hown (mvT hZ (hw _ (List.mem_of_getElem? (i := 90) rfl))) (mvT hZ (hw _ (List.mem_of_getElem? (i := 91) rfl))) (notFace_of_selects (args := #[]) (mvT hZ (hw _ (List.mem_of_getElem? (i := 93) rfl)))) (mvT hZ (hw _ (List.mem_of_getElem? (i := 93) rfl))) (mvT hZ (hw _ (List.mem_of_getElem? (i := 92) rfl))) (by decide) (backOf (W := 0) (own_square l Z a0 hw [] b1 ((r * K) + q) R K T51.heap n0 Z51 f52 f55 f53 P41 P42 P40) hZ (hw _ (List.mem_of_getElem? (i := 94) rfl)) (hw _ (List.mem_of_getElem? (i := 3) rfl)) (by decide) (by decide)) q57a q57c (g := (mkF m 91 #[.val (.int x0), .val (.int x1), .val (.int x2), .val (.int x3), .val (.int R), .val (.int K), .val (.int r), .val (.int q), .val (.ref b1), .val (.ref b3), .val (.int ((r * K) + q)), .unset] [(.int ((r * K) + q)), (.ref b1)])) rfl (by rw [hml]; rfl) (Steps.refl _) (argsL := [(.int ((r * K) + q))]) (rest := []) (lenOf pd_29 rfl) rfl (by show 2 * 0 + _ ≤ _; exact Nat.le_of_eq rfl) (hb hby at_91) (fun _ _ => ⟨rfl, e56, (by decide : 4 + 1 ≤ _), (by decide : 16397 + 2 ≤ _)⟩)
  dsimp only [Pt.U, Pt.locs, Pt.cells, Pt.slots] at X57 l57 y57 z57 st57 hQ57
  subst l57 y57 z57
  obtain ⟨Nq57, b57_0, rfl, szb57_0, Kc57, p57_0, p57_1, p57_2⟩ := hQ57
  have N57 := Fr.app N56 Nq57
  have f58 : Exa Z T51.heap c0 "com/example/hoofprint/hoofprint/model/KnightMove" := (f15.keep Kc51)
  have ne_b57_0_c0 : c0 ≠ b57_0 := Nat.ne_of_lt (Nat.lt_of_lt_of_le f58.lt szb57_0)
  have f59 : Exa Z T51.heap c6 "com/example/hoofprint/hoofprint/model/KnightMove" := (f39.keep Kc51)
  have ne_b57_0_c6 : c6 ≠ b57_0 := Nat.ne_of_lt (Nat.lt_of_lt_of_le f59.lt szb57_0)
  have f60 : Exa Z T51.heap c3 "com/example/hoofprint/hoofprint/model/KnightMove" := (f27.keep Kc51)
  have ne_b57_0_c3 : c3 ≠ b57_0 := Nat.ne_of_lt (Nat.lt_of_lt_of_le f60.lt szb57_0)
  have f61 : Exa Z T51.heap c4 "com/example/hoofprint/hoofprint/model/KnightMove" := (f31.keep Kc51)
  have ne_b57_0_c4 : c4 ≠ b57_0 := Nat.ne_of_lt (Nat.lt_of_lt_of_le f61.lt szb57_0)
  have ne_b57_0_b1 : b1 ≠ b57_0 := Nat.ne_of_lt (Nat.lt_of_lt_of_le f52.lt szb57_0)
  have f62 : Exa Z T51.heap c5 "com/example/hoofprint/hoofprint/model/KnightMove" := (f35.keep Kc51)
  have ne_b57_0_c5 : c5 ≠ b57_0 := Nat.ne_of_lt (Nat.lt_of_lt_of_le f62.lt szb57_0)
  have f63 : Exa Z T51.heap c7 "com/example/hoofprint/hoofprint/model/KnightMove" := (f43.keep Kc51)
  have ne_b57_0_c7 : c7 ≠ b57_0 := Nat.ne_of_lt (Nat.lt_of_lt_of_le f63.lt szb57_0)
  have f64 : Exa Z T51.heap c2 "com/example/hoofprint/hoofprint/model/KnightMove" := (f23.keep Kc51)
  have ne_b57_0_c2 : c2 ≠ b57_0 := Nat.ne_of_lt (Nat.lt_of_lt_of_le f64.lt szb57_0)
  have ne_b57_0_b51_1 : b51_1 ≠ b57_0 := Nat.ne_of_lt (Nat.lt_of_lt_of_le p51_5.lt szb57_0)
  have ne_b57_0_b51_0 : b51_0 ≠ b57_0 := Nat.ne_of_lt (Nat.lt_of_lt_of_le p51_4.lt szb57_0)
  have f65 : Arv Z T51.heap nb kn (.object "com/example/hoofprint/hoofprint/model/KnightMove") (8 : Int32) [(.ref c0), (.ref c1), (.ref c2), (.ref c3), (.ref c4), (.ref c5), (.ref c6), (.ref c7)] .null := (f14.keep Kc51 (ninS ne3_nb nin0))
  have ne_b57_0_nb : nb ≠ b57_0 := Nat.ne_of_lt (Nat.lt_of_lt_of_le f65.lt szb57_0)
  have f66 : Exa Z T51.heap c1 "com/example/hoofprint/hoofprint/model/KnightMove" := (f19.keep Kc51)
  have ne_b57_0_c1 : c1 ≠ b57_0 := Nat.ne_of_lt (Nat.lt_of_lt_of_le f66.lt szb57_0)
  have ne_b57_0_b3 : b3 ≠ b57_0 := Nat.ne_of_lt (Nat.lt_of_lt_of_le p51_0.lt szb57_0)
  have ge_b57_0 : n0 ≤ b57_0 := Nat.le_trans Z51 szb57_0
  have Z57 : n0 ≤ T57.heap.size := Nat.le_trans Z51 Kc57.1
  obtain ⟨cq67, kq67, q67a, q67b, q67c⟩ := isOf hZ rfl p57_0
  obtain ⟨_, _, ⟨T67, L67, k67, n67⟩, -, X67, ⟨Lc67, hQ67, l67, y67, z67⟩, st67⟩ := X57.virtualBack hx (y := (⟨"com/example/hoofprint/hoofprint/model/Square", "row", "()I"⟩ : MethodName)) (z := (⟨"com/example/hoofprint/hoofprint/model/Square", "row", "()I"⟩ : MethodName)) hown (mvT hZ (hw _ (List.mem_of_getElem? (i := 107) rfl))) (mvT hZ (hw _ (List.mem_of_getElem? (i := 108) rfl))) (notFace_of_selects (args := #[]) (mvT hZ (hw _ (List.mem_of_getElem? (i := 110) rfl)))) (mvT hZ (hw _ (List.mem_of_getElem? (i := 110) rfl))) (mvT hZ (hw _ (List.mem_of_getElem? (i := 109) rfl))) (by decide) (backOf (W := 0) (own_sq_row l Z a0 hw [] b57_0 ((((r * K) + q) / K) + (1 : Int32)) T57.heap n0 Z57 p57_1) hZ (hw _ (List.mem_of_getElem? (i := 111) rfl)) (hw _ (List.mem_of_getElem? (i := 98) rfl)) (by decide) (by decide)) q67a q67c (g := (mkF m 98 #[.val (.int x0), .val (.int x1), .val (.int x2), .val (.int x3), .val (.int R), .val (.int K), .val (.int r), .val (.int q), .val (.ref b1), .val (.ref b3), .val (.int ((r * K) + q)), .val (.ref b57_0)] [(.ref b57_0)])) rfl (by rw [hml]; rfl) (Steps.refl _) (argsL := []) (rest := []) (lenOf pd_10 rfl) rfl (by show 2 * 0 + _ ≤ _; exact Nat.le_of_eq rfl) (hb hby at_98) (fun _ _ => ⟨rfl, rfl, (by decide : 5 + 0 ≤ _), (by decide : 16399 + 0 ≤ _)⟩)
  dsimp only [Pt.U, Pt.locs, Pt.cells, Pt.slots] at X67 l67 y67 z67 st67 hQ67
  subst l67 y67 z67
  obtain ⟨rfl, Nq67, e67⟩ := hQ67
  have N67 := Fr.app N57 Nq67
  obtain ⟨cq68, kq68, q68a, q68b, q68c⟩ := isOf hZ e67 p57_0
  obtain ⟨_, _, ⟨T68, L68, k68, n68⟩, -, X68, ⟨Lc68, hQ68, l68, y68, z68⟩, st68⟩ := X67.virtualBack hx (y := (⟨"com/example/hoofprint/hoofprint/model/Square", "column", "()I"⟩ : MethodName)) (z := (⟨"com/example/hoofprint/hoofprint/model/Square", "column", "()I"⟩ : MethodName)) hown (mvT hZ (hw _ (List.mem_of_getElem? (i := 112) rfl))) (mvT hZ (hw _ (List.mem_of_getElem? (i := 113) rfl))) (notFace_of_selects (args := #[]) (mvT hZ (hw _ (List.mem_of_getElem? (i := 115) rfl)))) (mvT hZ (hw _ (List.mem_of_getElem? (i := 115) rfl))) (mvT hZ (hw _ (List.mem_of_getElem? (i := 114) rfl))) (by decide) (backOf (W := 0) (own_sq_column l Z a0 hw [] b57_0 ((((r * K) + q) % K) + (1 : Int32)) T57.heap n0 Z57 p57_2) hZ (hw _ (List.mem_of_getElem? (i := 116) rfl)) (hw _ (List.mem_of_getElem? (i := 98) rfl)) (by decide) (by decide)) q68a q68c (g := (mkF m 110 #[.val (.int x0), .val (.int x1), .val (.int x2), .val (.int x3), .val (.int R), .val (.int K), .val (.int r), .val (.int q), .val (.ref b1), .val (.ref b3), .val (.int ((r * K) + q)), .val (.ref b57_0)] [(.ref b57_0)])) rfl (by rw [hml]; rfl) (Steps.refl _) (argsL := []) (rest := []) (lenOf pd_10 rfl) rfl (by show 2 * 0 + _ ≤ _; exact Nat.le_of_eq rfl) (hb hby at_110) (fun _ _ => ⟨rfl, e67, (by decide : 5 + 0 ≤ _), (by decide : 16399 + 0 ≤ _)⟩)
  dsimp only [Pt.U, Pt.locs, Pt.cells, Pt.slots] at X68 l68 y68 z68 st68 hQ68
  subst l68 y68 z68
  obtain ⟨rfl, Nq68, e68⟩ := hQ68
  have N68 := Fr.app N67 Nq68
  have go69 : ∀ t, Steps p.tables e below (T68.setTop (mkF m 125 #[.val (.int x0), .val (.int x1), .val (.int x2), .val (.int x3), .val (.int R), .val (.int K), .val (.int r), .val (.int q), .val (.ref b1), .val (.ref b3), .val (.int ((r * K) + q)), .val (.ref b57_0)] [(.int (1 : Int32))])) t → Steps p.tables e below st0 t := by
    intro t kt
    refine go0 t ?_
    refine st1 _ ?_
    show Steps p.tables e below (T1.setTop (mkF m 38 #[.val (.int x0), .val (.int x1), .val (.int x2), .val (.int x3), .val (.int R), .val (.int K), .val (.int r), .val (.int q), .unset, .unset, .unset, .unset] [(.ref b1)])) _
    refine XS.dup X1.here hx rfl (hb hby at_38) rfl rfl ?_
    show Steps p.tables e below (T1.setTop (mkF m 39 #[.val (.int x0), .val (.int x1), .val (.int x2), .val (.int x3), .val (.int R), .val (.int K), .val (.int r), .val (.int q), .unset, .unset, .unset, .unset] [(.ref b1), (.ref b1)])) _
    refine XS.iload X1.here hx rfl (hb hby at_39) rfl ?_
    show Steps p.tables e below (T1.setTop (mkF m 41 #[.val (.int x0), .val (.int x1), .val (.int x2), .val (.int x3), .val (.int R), .val (.int K), .val (.int r), .val (.int q), .unset, .unset, .unset, .unset] [(.int R), (.ref b1), (.ref b1)])) _
    refine XS.iload X1.here hx rfl (hb hby at_41) rfl ?_
    show Steps p.tables e below (T1.setTop (mkF m 43 #[.val (.int x0), .val (.int x1), .val (.int x2), .val (.int x3), .val (.int R), .val (.int K), .val (.int r), .val (.int q), .unset, .unset, .unset, .unset] [(.int K), (.int R), (.ref b1), (.ref b1)])) _
    refine st2.trans ?_
    show Steps p.tables e below (T2.setTop (mkF m 46 #[.val (.int x0), .val (.int x1), .val (.int x2), .val (.int x3), .val (.int R), .val (.int K), .val (.int r), .val (.int q), .unset, .unset, .unset, .unset] [(.ref b1)])) _
    refine XS.astore X2.here hx rfl (hb hby at_46) rfl rfl (l' := #[.val (.int x0), .val (.int x1), .val (.int x2), .val (.int x3), .val (.int R), .val (.int K), .val (.int r), .val (.int q), .val (.ref b1), .unset, .unset, .unset]) rfl ?_
    show Steps p.tables e below (T2.setTop (mkF m 48 #[.val (.int x0), .val (.int x1), .val (.int x2), .val (.int x3), .val (.int R), .val (.int K), .val (.int r), .val (.int q), .val (.ref b1), .unset, .unset, .unset] [])) _
    refine st3 _ ?_
    show Steps p.tables e below (T3.setTop (mkF m 51 #[.val (.int x0), .val (.int x1), .val (.int x2), .val (.int x3), .val (.int R), .val (.int K), .val (.int r), .val (.int q), .val (.ref b1), .unset, .unset, .unset] [(.ref b3)])) _
    refine XS.dup X3.here hx rfl (hb hby at_51) rfl rfl ?_
    show Steps p.tables e below (T3.setTop (mkF m 52 #[.val (.int x0), .val (.int x1), .val (.int x2), .val (.int x3), .val (.int R), .val (.int K), .val (.int r), .val (.int q), .val (.ref b1), .unset, .unset, .unset] [(.ref b3), (.ref b3)])) _
    refine XS.aload X3.here hx rfl (hb hby at_52) rfl rfl ?_
    show Steps p.tables e below (T3.setTop (mkF m 54 #[.val (.int x0), .val (.int x1), .val (.int x2), .val (.int x3), .val (.int R), .val (.int K), .val (.int r), .val (.int q), .val (.ref b1), .unset, .unset, .unset] [(.ref b1), (.ref b3), (.ref b3)])) _
    refine st51.trans ?_
    show Steps p.tables e below (T51.setTop (mkF m 57 #[.val (.int x0), .val (.int x1), .val (.int x2), .val (.int x3), .val (.int R), .val (.int K), .val (.int r), .val (.int q), .val (.ref b1), .unset, .unset, .unset] [(.ref b3)])) _
    refine XS.astore X51.here hx rfl (hb hby at_57) rfl rfl (l' := #[.val (.int x0), .val (.int x1), .val (.int x2), .val (.int x3), .val (.int R), .val (.int K), .val (.int r), .val (.int q), .val (.ref b1), .val (.ref b3), .unset, .unset]) rfl ?_
    show Steps p.tables e below (T51.setTop (mkF m 59 #[.val (.int x0), .val (.int x1), .val (.int x2), .val (.int x3), .val (.int R), .val (.int K), .val (.int r), .val (.int q), .val (.ref b1), .val (.ref b3), .unset, .unset] [])) _
    refine XS.aload X51.here hx rfl (hb hby at_59) rfl rfl ?_
    show Steps p.tables e below (T51.setTop (mkF m 61 #[.val (.int x0), .val (.int x1), .val (.int x2), .val (.int x3), .val (.int R), .val (.int K), .val (.int r), .val (.int q), .val (.ref b1), .val (.ref b3), .unset, .unset] [(.ref b3)])) _
    refine XS.iload X51.here hx rfl (hb hby at_61) rfl ?_
    show Steps p.tables e below (T51.setTop (mkF m 63 #[.val (.int x0), .val (.int x1), .val (.int x2), .val (.int x3), .val (.int R), .val (.int K), .val (.int r), .val (.int q), .val (.ref b1), .val (.ref b3), .unset, .unset] [(.int r), (.ref b3)])) _
    refine XS.iload X51.here hx rfl (hb hby at_63) rfl ?_
    show Steps p.tables e below (T51.setTop (mkF m 65 #[.val (.int x0), .val (.int x1), .val (.int x2), .val (.int x3), .val (.int R), .val (.int K), .val (.int r), .val (.int q), .val (.ref b1), .val (.ref b3), .unset, .unset] [(.int q), (.int r), (.ref b3)])) _
    refine st54.trans ?_
    show Steps p.tables e below (T54.setTop (mkF m 68 #[.val (.int x0), .val (.int x1), .val (.int x2), .val (.int x3), .val (.int R), .val (.int K), .val (.int r), .val (.int q), .val (.ref b1), .val (.ref b3), .unset, .unset] [(.int ((r * K) + q))])) _
    refine XS.istore X54.here hx rfl (hb hby at_68) rfl (l' := #[.val (.int x0), .val (.int x1), .val (.int x2), .val (.int x3), .val (.int R), .val (.int K), .val (.int r), .val (.int q), .val (.ref b1), .val (.ref b3), .val (.int ((r * K) + q)), .unset]) rfl ?_
    show Steps p.tables e below (T54.setTop (mkF m 70 #[.val (.int x0), .val (.int x1), .val (.int x2), .val (.int x3), .val (.int R), .val (.int K), .val (.int r), .val (.int q), .val (.ref b1), .val (.ref b3), .val (.int ((r * K) + q)), .unset] [])) _
    refine XS.iload X54.here hx rfl (hb hby at_70) rfl ?_
    show Steps p.tables e below (T54.setTop (mkF m 72 #[.val (.int x0), .val (.int x1), .val (.int x2), .val (.int x3), .val (.int R), .val (.int K), .val (.int r), .val (.int q), .val (.ref b1), .val (.ref b3), .val (.int ((r * K) + q)), .unset] [(.int ((r * K) + q))])) _
    refine XS.ifNo X54.here hx rfl (hb hby at_72) rfl ((if0 _ _).trans (flt P41).1) ?_
    show Steps p.tables e below (T54.setTop (mkF m 75 #[.val (.int x0), .val (.int x1), .val (.int x2), .val (.int x3), .val (.int R), .val (.int K), .val (.int r), .val (.int q), .val (.ref b1), .val (.ref b3), .val (.int ((r * K) + q)), .unset] [])) _
    refine XS.iload X54.here hx rfl (hb hby at_75) rfl ?_
    show Steps p.tables e below (T54.setTop (mkF m 77 #[.val (.int x0), .val (.int x1), .val (.int x2), .val (.int x3), .val (.int R), .val (.int K), .val (.int r), .val (.int q), .val (.ref b1), .val (.ref b3), .val (.int ((r * K) + q)), .unset] [(.int ((r * K) + q))])) _
    refine XS.aload X54.here hx rfl (hb hby at_77) rfl rfl ?_
    show Steps p.tables e below (T54.setTop (mkF m 79 #[.val (.int x0), .val (.int x1), .val (.int x2), .val (.int x3), .val (.int R), .val (.int K), .val (.int r), .val (.int q), .val (.ref b1), .val (.ref b3), .val (.int ((r * K) + q)), .unset] [(.ref b1), (.int ((r * K) + q))])) _
    refine st56.trans ?_
    show Steps p.tables e below (T56.setTop (mkF m 82 #[.val (.int x0), .val (.int x1), .val (.int x2), .val (.int x3), .val (.int R), .val (.int K), .val (.int r), .val (.int q), .val (.ref b1), .val (.ref b3), .val (.int ((r * K) + q)), .unset] [(.int (R * K)), (.int ((r * K) + q))])) _
    refine XS.icmpYes X56.here hx rfl (pc0 := 82) (pc' := 87) rfl (hb hby at_82) rfl (tlt P42).1 (by decide) (by decide) ?_
    show Steps p.tables e below (T56.setTop (mkF m 87 #[.val (.int x0), .val (.int x1), .val (.int x2), .val (.int x3), .val (.int R), .val (.int K), .val (.int r), .val (.int q), .val (.ref b1), .val (.ref b3), .val (.int ((r * K) + q)), .unset] [])) _
    refine XS.aload X56.here hx rfl (hb hby at_87) rfl rfl ?_
    show Steps p.tables e below (T56.setTop (mkF m 89 #[.val (.int x0), .val (.int x1), .val (.int x2), .val (.int x3), .val (.int R), .val (.int K), .val (.int r), .val (.int q), .val (.ref b1), .val (.ref b3), .val (.int ((r * K) + q)), .unset] [(.ref b1)])) _
    refine XS.iload X56.here hx rfl (hb hby at_89) rfl ?_
    show Steps p.tables e below (T56.setTop (mkF m 91 #[.val (.int x0), .val (.int x1), .val (.int x2), .val (.int x3), .val (.int R), .val (.int K), .val (.int r), .val (.int q), .val (.ref b1), .val (.ref b3), .val (.int ((r * K) + q)), .unset] [(.int ((r * K) + q)), (.ref b1)])) _
    refine st57.trans ?_
    show Steps p.tables e below (T57.setTop (mkF m 94 #[.val (.int x0), .val (.int x1), .val (.int x2), .val (.int x3), .val (.int R), .val (.int K), .val (.int r), .val (.int q), .val (.ref b1), .val (.ref b3), .val (.int ((r * K) + q)), .unset] [(.ref b57_0)])) _
    refine XS.astore X57.here hx rfl (hb hby at_94) rfl rfl (l' := #[.val (.int x0), .val (.int x1), .val (.int x2), .val (.int x3), .val (.int R), .val (.int K), .val (.int r), .val (.int q), .val (.ref b1), .val (.ref b3), .val (.int ((r * K) + q)), .val (.ref b57_0)]) rfl ?_
    show Steps p.tables e below (T57.setTop (mkF m 96 #[.val (.int x0), .val (.int x1), .val (.int x2), .val (.int x3), .val (.int R), .val (.int K), .val (.int r), .val (.int q), .val (.ref b1), .val (.ref b3), .val (.int ((r * K) + q)), .val (.ref b57_0)] [])) _
    refine XS.aload X57.here hx rfl (hb hby at_96) rfl rfl ?_
    show Steps p.tables e below (T57.setTop (mkF m 98 #[.val (.int x0), .val (.int x1), .val (.int x2), .val (.int x3), .val (.int R), .val (.int K), .val (.int r), .val (.int q), .val (.ref b1), .val (.ref b3), .val (.int ((r * K) + q)), .val (.ref b57_0)] [(.ref b57_0)])) _
    refine st67.trans ?_
    show Steps p.tables e below (T67.setTop (mkF m 101 #[.val (.int x0), .val (.int x1), .val (.int x2), .val (.int x3), .val (.int R), .val (.int K), .val (.int r), .val (.int q), .val (.ref b1), .val (.ref b3), .val (.int ((r * K) + q)), .val (.ref b57_0)] [(.int ((((r * K) + q) / K) + (1 : Int32)))])) _
    refine XS.iload X67.here hx rfl (hb hby at_101) rfl ?_
    show Steps p.tables e below (T67.setTop (mkF m 103 #[.val (.int x0), .val (.int x1), .val (.int x2), .val (.int x3), .val (.int R), .val (.int K), .val (.int r), .val (.int q), .val (.ref b1), .val (.ref b3), .val (.int ((r * K) + q)), .val (.ref b57_0)] [(.int r), (.int ((((r * K) + q) / K) + (1 : Int32)))])) _
    refine XS.iconst X67.here hx rfl (hb hby at_103) ?_
    show Steps p.tables e below (T67.setTop (mkF m 104 #[.val (.int x0), .val (.int x1), .val (.int x2), .val (.int x3), .val (.int R), .val (.int K), .val (.int r), .val (.int q), .val (.ref b1), .val (.ref b3), .val (.int ((r * K) + q)), .val (.ref b57_0)] [(.int (1 : Int32)), (.int r), (.int ((((r * K) + q) / K) + (1 : Int32)))])) _
    refine XS.iadd X67.here hx rfl (hb hby at_104) rfl ?_
    show Steps p.tables e below (T67.setTop (mkF m 105 #[.val (.int x0), .val (.int x1), .val (.int x2), .val (.int x3), .val (.int R), .val (.int K), .val (.int r), .val (.int q), .val (.ref b1), .val (.ref b3), .val (.int ((r * K) + q)), .val (.ref b57_0)] [(.int (r + (1 : Int32))), (.int ((((r * K) + q) / K) + (1 : Int32)))])) _
    refine XS.icmpNo X67.here hx rfl (hb hby at_105) rfl (teq P43).2 ?_
    show Steps p.tables e below (T67.setTop (mkF m 108 #[.val (.int x0), .val (.int x1), .val (.int x2), .val (.int x3), .val (.int R), .val (.int K), .val (.int r), .val (.int q), .val (.ref b1), .val (.ref b3), .val (.int ((r * K) + q)), .val (.ref b57_0)] [])) _
    refine XS.aload X67.here hx rfl (hb hby at_108) rfl rfl ?_
    show Steps p.tables e below (T67.setTop (mkF m 110 #[.val (.int x0), .val (.int x1), .val (.int x2), .val (.int x3), .val (.int R), .val (.int K), .val (.int r), .val (.int q), .val (.ref b1), .val (.ref b3), .val (.int ((r * K) + q)), .val (.ref b57_0)] [(.ref b57_0)])) _
    refine st68.trans ?_
    show Steps p.tables e below (T68.setTop (mkF m 113 #[.val (.int x0), .val (.int x1), .val (.int x2), .val (.int x3), .val (.int R), .val (.int K), .val (.int r), .val (.int q), .val (.ref b1), .val (.ref b3), .val (.int ((r * K) + q)), .val (.ref b57_0)] [(.int ((((r * K) + q) % K) + (1 : Int32)))])) _
    refine XS.iload X68.here hx rfl (hb hby at_113) rfl ?_
    show Steps p.tables e below (T68.setTop (mkF m 115 #[.val (.int x0), .val (.int x1), .val (.int x2), .val (.int x3), .val (.int R), .val (.int K), .val (.int r), .val (.int q), .val (.ref b1), .val (.ref b3), .val (.int ((r * K) + q)), .val (.ref b57_0)] [(.int q), (.int ((((r * K) + q) % K) + (1 : Int32)))])) _
    refine XS.iconst X68.here hx rfl (hb hby at_115) ?_
    show Steps p.tables e below (T68.setTop (mkF m 116 #[.val (.int x0), .val (.int x1), .val (.int x2), .val (.int x3), .val (.int R), .val (.int K), .val (.int r), .val (.int q), .val (.ref b1), .val (.ref b3), .val (.int ((r * K) + q)), .val (.ref b57_0)] [(.int (1 : Int32)), (.int q), (.int ((((r * K) + q) % K) + (1 : Int32)))])) _
    refine XS.iadd X68.here hx rfl (hb hby at_116) rfl ?_
    show Steps p.tables e below (T68.setTop (mkF m 117 #[.val (.int x0), .val (.int x1), .val (.int x2), .val (.int x3), .val (.int R), .val (.int K), .val (.int r), .val (.int q), .val (.ref b1), .val (.ref b3), .val (.int ((r * K) + q)), .val (.ref b57_0)] [(.int (q + (1 : Int32))), (.int ((((r * K) + q) % K) + (1 : Int32)))])) _
    refine XS.icmpNo X68.here hx rfl (hb hby at_117) rfl (teq P44).2 ?_
    show Steps p.tables e below (T68.setTop (mkF m 120 #[.val (.int x0), .val (.int x1), .val (.int x2), .val (.int x3), .val (.int R), .val (.int K), .val (.int r), .val (.int q), .val (.ref b1), .val (.ref b3), .val (.int ((r * K) + q)), .val (.ref b57_0)] [])) _
    refine XS.iconst X68.here hx rfl (hb hby at_120) ?_
    show Steps p.tables e below (T68.setTop (mkF m 121 #[.val (.int x0), .val (.int x1), .val (.int x2), .val (.int x3), .val (.int R), .val (.int K), .val (.int r), .val (.int q), .val (.ref b1), .val (.ref b3), .val (.int ((r * K) + q)), .val (.ref b57_0)] [(.int (1 : Int32))])) _
    refine XS.goto X68.here hx rfl (pc0 := 121) (pc' := 125) rfl (hb hby at_121) (by decide) (by decide) ?_
    show Steps p.tables e below (T68.setTop (mkF m 125 #[.val (.int x0), .val (.int x1), .val (.int x2), .val (.int x3), .val (.int R), .val (.int K), .val (.int r), .val (.int q), .val (.ref b1), .val (.ref b3), .val (.int ((r * K) + q)), .val (.ref b57_0)] [(.int (1 : Int32))])) _
    exact kt
  obtain ⟨fs, hr, hrun, hended, hW, hsame⟩ := X68.leave (v := some (.int (1 : Int32))) (fun h => by rw [hret] at h; cases h) hlk
  refine ⟨_, _, go69 _ ?_, hrun, hended, _, _, rfl, ⟨rfl, N68⟩, ⟨_, rfl⟩, hW, hsame.mono (by decide) (by decide)⟩
  exact retN X68 hx (t := .boolean) hret (by simp) (hb hby at_125) hr
theorem own_bounds (x : Int32) (n : Int32) (k : Nat) (hk : k ≤ 31) (hm : n.toBitVec.toNat = 2 ^ k - 1) (h2 : k ≤ 10) : ((x &&& n) + (1 : Int32)).toInt = x.toInt % (2 ^ k : Nat) + 1 := by
  have e := c_mask x n k hk hm
  have e2 := c_iadd (x &&& n) 1
  have r := rng32 ((x &&& n) + 1)
  have q : (1 : Int32).toInt = 1 := rfl
  have p : (2 : Nat) ^ k ≤ 2 ^ 10 := Nat.pow_le_pow_right (by decide) h2
  have p0 : 0 < (2 : Nat) ^ k := Nat.pow_pos (by decide)
  have b1 := Int.emod_nonneg x.toInt (b := ((2 ^ k : Nat) : Int)) (by omega)
  have b2 := Int.emod_lt_of_pos x.toInt (b := ((2 ^ k : Nat) : Int)) (by omega)
  omega
theorem own_arith (R K r q : Int32) (hR : 1 ≤ R.toInt ∧ R.toInt ≤ 16) (hK : 1 ≤ K.toInt ∧ K.toInt ≤ 1024) (hr : 0 ≤ r.toInt ∧ r.toInt < R.toInt) (hq : 0 ≤ q.toInt ∧ q.toInt < K.toInt) :
    (¬ (R < (1 : Int32))) ∧ (¬ (K < (1 : Int32))) ∧ (¬ ((100000000 : Int64) < ((R.toInt64) * (K.toInt64)))) ∧ (¬ ((R * K) < 0)) ∧ ((R * K).toNatClampNeg ≤ 16384) ∧ (¬ (K = (0 : Int32))) ∧ (¬ (((r * K) + q) < (0 : Int32))) ∧ (((r * K) + q) < (R * K)) ∧ (((((r * K) + q) / K) + (1 : Int32)) = (r + (1 : Int32))) ∧ (((((r * K) + q) % K) + (1 : Int32)) = (q + (1 : Int32))) := by
  have m1 : 0 ≤ r.toInt * K.toInt := Int.mul_nonneg hr.1 (by omega)
  have m2 : r.toInt * K.toInt ≤ (R.toInt - 1) * K.toInt := Int.mul_le_mul_of_nonneg_right (by omega) (by omega)
  have m3 : (R.toInt - 1) * K.toInt = R.toInt * K.toInt - K.toInt := by rw [Int.sub_mul, Int.one_mul]
  have m4 : R.toInt * K.toInt ≤ 16 * K.toInt := Int.mul_le_mul_of_nonneg_right (by omega) (by omega)
  have m5 : 0 ≤ R.toInt * K.toInt := Int.mul_nonneg (by omega) (by omega)
  have o1 : (1 : Int32).toInt = 1 := rfl
  have o0 : (0 : Int32).toInt = 0 := rfl
  have oL : (100000000 : Int64).toInt = 100000000 := rfl
  have eRK : (R * K).toInt = R.toInt * K.toInt := by have := c_imul R K; have := rng32 (R * K); omega
  have erK : (r * K).toInt = r.toInt * K.toInt := by have := c_imul r K; have := rng32 (r * K); omega
  have eI : ((r * K) + q).toInt = r.toInt * K.toInt + q.toInt := by have := c_iadd (r * K) q; have := rng32 ((r * K) + q); omega
  have eL : (R.toInt64 * K.toInt64).toInt = R.toInt * K.toInt := Jvm.Free.XT.wideMul R K
  have k1 : K ≠ -1 := fun h => by rw [h] at hK; revert hK; decide
  have dv := (c_idiv ((r * K) + q) K K.toInt rfl k1).1 (by omega)
  have rm := (c_irem ((r * K) + q) K K.toInt rfl).1 (by omega)
  have dvE : (r.toInt * K.toInt + q.toInt) / K.toInt = r.toInt := by rw [Int.add_comm, Int.add_mul_ediv_right _ _ (by omega), Int.ediv_eq_zero_of_lt hq.1 hq.2, Int.zero_add]
  have rmE : (r.toInt * K.toInt + q.toInt) % K.toInt = q.toInt := by rw [Int.add_comm, Int.add_mul_emod_self_right]; exact Int.emod_eq_of_lt hq.1 hq.2
  rw [eI] at dv rm
  rw [dvE] at dv
  rw [rmE] at rm
  have d2 : ((r * K) + q) / K = r := Int32.toInt_inj.mp dv
  have r2 : ((r * K) + q) % K = q := Int32.toInt_inj.mp rm
  refine ⟨?_, ?_, ?_, ?_, ?_, ?_, ?_, ?_, ?_, ?_⟩
  · rw [Int32.lt_iff_toInt_lt]; omega
  · rw [Int32.lt_iff_toInt_lt]; omega
  · rw [Int64.lt_iff_toInt_lt]; omega
  · rw [Int32.lt_iff_toInt_lt]; omega
  · simp only [Int32.toNatClampNeg]; omega
  · intro h; rw [h] at hK; revert hK; decide
  · rw [Int32.lt_iff_toInt_lt]; omega
  · rw [Int32.lt_iff_toInt_lt]; omega
  · rw [d2]
  · rw [r2]
theorem own_rem (x K : Int32) (h : 1 ≤ K.toInt) : 0 ≤ ((x &&& (2147483647 : Int32)) % K).toInt ∧ ((x &&& (2147483647 : Int32)) % K).toInt < K.toInt := by
  have e := c_and x 2147483647 (by decide)
  have := (c_iremV (x &&& 2147483647) K).1 e.1 (by omega)
  omega
theorem own_nz (x n : Int32) (k : Nat) (hk : k ≤ 31) (hm : n.toBitVec.toNat = 2 ^ k - 1) (h2 : k ≤ 10) : ¬ ((x &&& n) + (1 : Int32) = (0 : Int32)) := fun h => by
  have e := own_bounds x n k hk hm h2
  rw [h] at e
  have p0 : 0 < (2 : Nat) ^ k := Nat.pow_pos (by decide)
  have b1 := Int.emod_nonneg x.toInt (b := ((2 ^ k : Nat) : Int)) (by omega)
  have o0 : (0 : Int32).toInt = 0 := rfl
  omega
theorem ef_own_law (m : MethodId) (pi0 : Int32) (pi1 : Int32) (pi2 : Int32) (pi3 : Int32) : entryFrame m #[(.int pi0), (.int pi1), (.int pi2), (.int pi3)] maxLocals = mkF m 0 #[.val (.int pi0), .val (.int pi1), .val (.int pi2), .val (.int pi3), .unset, .unset, .unset, .unset, .unset, .unset, .unset, .unset] [] := by first | (simp [entryFrame, mkF, argsToLocals, Value.category, maxLocals]; done) | rfl
def Q_own_law (Z : State) (pi0 : Int32) (pi1 : Int32) (pi2 : Int32) (pi3 : Int32) (nb : Addr) (kn : ClassId) (c0 : Addr) (c1 : Addr) (c2 : Addr) (c3 : Addr) (c4 : Addr) (c5 : Addr) (c6 : Addr) (c7 : Addr) (h0 : Heap) (n0 : Nat) (v : Option Value) (h : Heap) (L : List Loc) : Prop := v = some (.int (1 : Int32)) ∧ Fr n0 L
set_option maxRecDepth 65536 in
set_option maxHeartbeats 40000000 in
theorem own_law (l : Launch) (Z : State) (a0 : Array Value) (hw : ∀ d ∈ tables_1, d.before a0 Z = true) (ws : List Jvm.Cond) (pi0 : Int32) (pi1 : Int32) (pi2 : Int32) (pi3 : Int32) (nb : Addr) (kn : ClassId) (c0 : Addr) (c1 : Addr) (c2 : Addr) (c3 : Addr) (c4 : Addr) (c5 : Addr) (c6 : Addr) (c7 : Addr) (h0 : Heap) (n0 : Nat) (Z0 : n0 ≤ h0.size) (P0 : Sta Z h0 "com/example/hoofprint/hoofprint/model/KnightMove" "NUMBERED" "[Lcom/example/hoofprint/hoofprint/model/KnightMove;" (.ref nb)) (P1 : Arv Z h0 nb kn (.object "com/example/hoofprint/hoofprint/model/KnightMove") (8 : Int32) [(.ref c0), (.ref c1), (.ref c2), (.ref c3), (.ref c4), (.ref c5), (.ref c6), (.ref c7)] .null) (P2 : Exa Z h0 c0 "com/example/hoofprint/hoofprint/model/KnightMove") (P3 : Fld Z h0 c0 "java/lang/Enum" "ordinal" "I" (.int (0 : Int32))) (P4 : Fld Z h0 c0 "com/example/hoofprint/hoofprint/model/KnightMove" "rows" "I" (.int (-2 : Int32))) (P5 : Fld Z h0 c0 "com/example/hoofprint/hoofprint/model/KnightMove" "columns" "I" (.int (-1 : Int32))) (P6 : Exa Z h0 c1 "com/example/hoofprint/hoofprint/model/KnightMove") (P7 : Fld Z h0 c1 "java/lang/Enum" "ordinal" "I" (.int (1 : Int32))) (P8 : Fld Z h0 c1 "com/example/hoofprint/hoofprint/model/KnightMove" "rows" "I" (.int (-2 : Int32))) (P9 : Fld Z h0 c1 "com/example/hoofprint/hoofprint/model/KnightMove" "columns" "I" (.int (1 : Int32))) (P10 : Exa Z h0 c2 "com/example/hoofprint/hoofprint/model/KnightMove") (P11 : Fld Z h0 c2 "java/lang/Enum" "ordinal" "I" (.int (2 : Int32))) (P12 : Fld Z h0 c2 "com/example/hoofprint/hoofprint/model/KnightMove" "rows" "I" (.int (-1 : Int32))) (P13 : Fld Z h0 c2 "com/example/hoofprint/hoofprint/model/KnightMove" "columns" "I" (.int (-2 : Int32))) (P14 : Exa Z h0 c3 "com/example/hoofprint/hoofprint/model/KnightMove") (P15 : Fld Z h0 c3 "java/lang/Enum" "ordinal" "I" (.int (3 : Int32))) (P16 : Fld Z h0 c3 "com/example/hoofprint/hoofprint/model/KnightMove" "rows" "I" (.int (-1 : Int32))) (P17 : Fld Z h0 c3 "com/example/hoofprint/hoofprint/model/KnightMove" "columns" "I" (.int (2 : Int32))) (P18 : Exa Z h0 c4 "com/example/hoofprint/hoofprint/model/KnightMove") (P19 : Fld Z h0 c4 "java/lang/Enum" "ordinal" "I" (.int (4 : Int32))) (P20 : Fld Z h0 c4 "com/example/hoofprint/hoofprint/model/KnightMove" "rows" "I" (.int (1 : Int32))) (P21 : Fld Z h0 c4 "com/example/hoofprint/hoofprint/model/KnightMove" "columns" "I" (.int (-2 : Int32))) (P22 : Exa Z h0 c5 "com/example/hoofprint/hoofprint/model/KnightMove") (P23 : Fld Z h0 c5 "java/lang/Enum" "ordinal" "I" (.int (5 : Int32))) (P24 : Fld Z h0 c5 "com/example/hoofprint/hoofprint/model/KnightMove" "rows" "I" (.int (1 : Int32))) (P25 : Fld Z h0 c5 "com/example/hoofprint/hoofprint/model/KnightMove" "columns" "I" (.int (2 : Int32))) (P26 : Exa Z h0 c6 "com/example/hoofprint/hoofprint/model/KnightMove") (P27 : Fld Z h0 c6 "java/lang/Enum" "ordinal" "I" (.int (6 : Int32))) (P28 : Fld Z h0 c6 "com/example/hoofprint/hoofprint/model/KnightMove" "rows" "I" (.int (2 : Int32))) (P29 : Fld Z h0 c6 "com/example/hoofprint/hoofprint/model/KnightMove" "columns" "I" (.int (-1 : Int32))) (P30 : Exa Z h0 c7 "com/example/hoofprint/hoofprint/model/KnightMove") (P31 : Fld Z h0 c7 "java/lang/Enum" "ordinal" "I" (.int (7 : Int32))) (P32 : Fld Z h0 c7 "com/example/hoofprint/hoofprint/model/KnightMove" "rows" "I" (.int (2 : Int32))) (P33 : Fld Z h0 c7 "com/example/hoofprint/hoofprint/model/KnightMove" "columns" "I" (.int (1 : Int32))) (P34 : Sta Z h0 "com/example/hoofprint/hoofprint/service/TourLinks" "NO_MOVE" "I" (.int (8 : Int32))) :
    MetFree l x (head1 (Jvm.Cond.code x code maxLocals ret :: ws) room_1) (fun a U => a = #[(.int pi0), (.int pi1), (.int pi2), (.int pi3)] ∧ Z.Warmed39 U.vm ∧ U.heap = h0) (fun _ _ _ _ _ => True) (fun _ U o U' => ∃ v L, o = .returned v ∧ Q_own_law Z pi0 pi1 pi2 pi3 nb kn c0 c1 c2 c3 c4 c5 c6 c7 h0 n0 v U'.heap L ∧ FrameEnd U o U' L room_1.cells room_1.slots) := by
  refine MetFree.of_bodySF (plainFor_of_name pn_30) hisR ?_
  intro p e s m args below meth c s₁ Bd hml0 hP hK
  obtain ⟨rfl, hZ, hh⟩ := hP
  have hx := Bd.exec
  have hby := Bd.bytes
  have hml : c.maxLocals = 12 := hml0
  have hown : s.vm.findClass "com/example/hoofprint/hoofprint/service/TourLinksIndexPinLaw" = some m.cls := findClass_of_methodNamed Bd.named
  have hnm := (name_of_methodNamed Bd.named Bd.method).1
  have X0 : Stand p l e room_1 s m #[(.int pi0), (.int pi1), (.int pi2), (.int pi3)] below meth c s₁ [] 0 0 := Stand.of_body Bd
  have e0 : s₁.heap = h0 := by rw [← hh, Bd.state]; rfl
  have N0 := Fr.nil n0
  have go0 : ∀ t, Steps p.tables e below (s₁.setTop (mkF m 0 #[.val (.int pi0), .val (.int pi1), .val (.int pi2), .val (.int pi3), .unset, .unset, .unset, .unset, .unset, .unset, .unset, .unset] [])) t → Steps p.tables e below (s₁.setTop (entryFrame m #[(.int pi0), (.int pi1), (.int pi2), (.int pi3)] maxLocals)) t := fun t k => castTop (ef_own_law m pi0 pi1 pi2 pi3) k
  revert go0
  generalize s₁.setTop (entryFrame m #[(.int pi0), (.int pi1), (.int pi2), (.int pi3)] maxLocals) = st0
  intro go0
  have bR := own_bounds pi0 15 4 (by decide) (by decide) (by decide)
  have bK := own_bounds pi1 1023 10 (by decide) (by decide) (by decide)
  have bR2 : 1 ≤ ((pi0 &&& (15 : Int32)) + (1 : Int32)).toInt ∧ ((pi0 &&& (15 : Int32)) + (1 : Int32)).toInt ≤ 16 := by omega
  have bK2 : 1 ≤ ((pi1 &&& (1023 : Int32)) + (1 : Int32)).toInt ∧ ((pi1 &&& (1023 : Int32)) + (1 : Int32)).toInt ≤ 1024 := by omega
  obtain ⟨ca0, ca1, ca2, ca3, ca4, ca5, ca6, ca7, ca8, ca9⟩ := own_arith ((pi0 &&& (15 : Int32)) + (1 : Int32)) ((pi1 &&& (1023 : Int32)) + (1 : Int32)) ((pi2 &&& (2147483647 : Int32)) % ((pi0 &&& (15 : Int32)) + (1 : Int32))) ((pi3 &&& (2147483647 : Int32)) % ((pi1 &&& (1023 : Int32)) + (1 : Int32))) bR2 bK2 (own_rem pi2 _ bR2.1) (own_rem pi3 _ bK2.1)
  have go2 : ∀ t, Steps p.tables e below (s₁.setTop (mkF m 35 #[.val (.int pi0), .val (.int pi1), .val (.int pi2), .val (.int pi3), .val (.int ((pi0 &&& (15 : Int32)) + (1 : Int32))), .val (.int ((pi1 &&& (1023 : Int32)) + (1 : Int32))), .val (.int ((pi2 &&& (2147483647 : Int32)) % ((pi0 &&& (15 : Int32)) + (1 : Int32)))), .val (.int ((pi3 &&& (2147483647 : Int32)) % ((pi1 &&& (1023 : Int32)) + (1 : Int32)))), .unset, .unset, .unset, .unset] [])) t → Steps p.tables e below st0 t := by
    intro t kt
    refine go0 t ?_
    refine XS.iloadN X0.here hx rfl (hb hby at_0) rfl ?_
    show Steps p.tables e below (s₁.setTop (mkF m 1 #[.val (.int pi0), .val (.int pi1), .val (.int pi2), .val (.int pi3), .unset, .unset, .unset, .unset, .unset, .unset, .unset, .unset] [(.int pi0)])) _
    refine XS.bipush X0.here hx rfl (hb hby at_1) ?_
    show Steps p.tables e below (s₁.setTop (mkF m 3 #[.val (.int pi0), .val (.int pi1), .val (.int pi2), .val (.int pi3), .unset, .unset, .unset, .unset, .unset, .unset, .unset, .unset] [(.int (15 : Int32)), (.int pi0)])) _
    refine XS.iand X0.here hx rfl (hb hby at_3) rfl ?_
    show Steps p.tables e below (s₁.setTop (mkF m 4 #[.val (.int pi0), .val (.int pi1), .val (.int pi2), .val (.int pi3), .unset, .unset, .unset, .unset, .unset, .unset, .unset, .unset] [(.int (pi0 &&& (15 : Int32)))])) _
    refine XS.iconst X0.here hx rfl (hb hby at_4) ?_
    show Steps p.tables e below (s₁.setTop (mkF m 5 #[.val (.int pi0), .val (.int pi1), .val (.int pi2), .val (.int pi3), .unset, .unset, .unset, .unset, .unset, .unset, .unset, .unset] [(.int (1 : Int32)), (.int (pi0 &&& (15 : Int32)))])) _
    refine XS.iadd X0.here hx rfl (hb hby at_5) rfl ?_
    show Steps p.tables e below (s₁.setTop (mkF m 6 #[.val (.int pi0), .val (.int pi1), .val (.int pi2), .val (.int pi3), .unset, .unset, .unset, .unset, .unset, .unset, .unset, .unset] [(.int ((pi0 &&& (15 : Int32)) + (1 : Int32)))])) _
    refine XS.istore X0.here hx rfl (hb hby at_6) rfl (l' := #[.val (.int pi0), .val (.int pi1), .val (.int pi2), .val (.int pi3), .val (.int ((pi0 &&& (15 : Int32)) + (1 : Int32))), .unset, .unset, .unset, .unset, .unset, .unset, .unset]) rfl ?_
    show Steps p.tables e below (s₁.setTop (mkF m 8 #[.val (.int pi0), .val (.int pi1), .val (.int pi2), .val (.int pi3), .val (.int ((pi0 &&& (15 : Int32)) + (1 : Int32))), .unset, .unset, .unset, .unset, .unset, .unset, .unset] [])) _
    refine XS.iloadN X0.here hx rfl (hb hby at_8) rfl ?_
    show Steps p.tables e below (s₁.setTop (mkF m 9 #[.val (.int pi0), .val (.int pi1), .val (.int pi2), .val (.int pi3), .val (.int ((pi0 &&& (15 : Int32)) + (1 : Int32))), .unset, .unset, .unset, .unset, .unset, .unset, .unset] [(.int pi1)])) _
    refine XS.sipush X0.here hx rfl (hb hby at_9) ?_
    show Steps p.tables e below (s₁.setTop (mkF m 12 #[.val (.int pi0), .val (.int pi1), .val (.int pi2), .val (.int pi3), .val (.int ((pi0 &&& (15 : Int32)) + (1 : Int32))), .unset, .unset, .unset, .unset, .unset, .unset, .unset] [(.int (1023 : Int32)), (.int pi1)])) _
    refine XS.iand X0.here hx rfl (hb hby at_12) rfl ?_
    show Steps p.tables e below (s₁.setTop (mkF m 13 #[.val (.int pi0), .val (.int pi1), .val (.int pi2), .val (.int pi3), .val (.int ((pi0 &&& (15 : Int32)) + (1 : Int32))), .unset, .unset, .unset, .unset, .unset, .unset, .unset] [(.int (pi1 &&& (1023 : Int32)))])) _
    refine XS.iconst X0.here hx rfl (hb hby at_13) ?_
    show Steps p.tables e below (s₁.setTop (mkF m 14 #[.val (.int pi0), .val (.int pi1), .val (.int pi2), .val (.int pi3), .val (.int ((pi0 &&& (15 : Int32)) + (1 : Int32))), .unset, .unset, .unset, .unset, .unset, .unset, .unset] [(.int (1 : Int32)), (.int (pi1 &&& (1023 : Int32)))])) _
    refine XS.iadd X0.here hx rfl (hb hby at_14) rfl ?_
    show Steps p.tables e below (s₁.setTop (mkF m 15 #[.val (.int pi0), .val (.int pi1), .val (.int pi2), .val (.int pi3), .val (.int ((pi0 &&& (15 : Int32)) + (1 : Int32))), .unset, .unset, .unset, .unset, .unset, .unset, .unset] [(.int ((pi1 &&& (1023 : Int32)) + (1 : Int32)))])) _
    refine XS.istore X0.here hx rfl (hb hby at_15) rfl (l' := #[.val (.int pi0), .val (.int pi1), .val (.int pi2), .val (.int pi3), .val (.int ((pi0 &&& (15 : Int32)) + (1 : Int32))), .val (.int ((pi1 &&& (1023 : Int32)) + (1 : Int32))), .unset, .unset, .unset, .unset, .unset, .unset]) rfl ?_
    show Steps p.tables e below (s₁.setTop (mkF m 17 #[.val (.int pi0), .val (.int pi1), .val (.int pi2), .val (.int pi3), .val (.int ((pi0 &&& (15 : Int32)) + (1 : Int32))), .val (.int ((pi1 &&& (1023 : Int32)) + (1 : Int32))), .unset, .unset, .unset, .unset, .unset, .unset] [])) _
    refine XS.iloadN X0.here hx rfl (hb hby at_17) rfl ?_
    show Steps p.tables e below (s₁.setTop (mkF m 18 #[.val (.int pi0), .val (.int pi1), .val (.int pi2), .val (.int pi3), .val (.int ((pi0 &&& (15 : Int32)) + (1 : Int32))), .val (.int ((pi1 &&& (1023 : Int32)) + (1 : Int32))), .unset, .unset, .unset, .unset, .unset, .unset] [(.int pi2)])) _
    refine X0.ldcInt hx hown (mvT hZ (hw _ (List.mem_of_getElem? (i := 0) rfl))) (g := (mkF m 18 #[.val (.int pi0), .val (.int pi1), .val (.int pi2), .val (.int pi3), .val (.int ((pi0 &&& (15 : Int32)) + (1 : Int32))), .val (.int ((pi1 &&& (1023 : Int32)) + (1 : Int32))), .unset, .unset, .unset, .unset, .unset, .unset] [(.int pi2)])) rfl (hb hby at_18) _ ?_
    show Steps p.tables e below (s₁.setTop (mkF m 20 #[.val (.int pi0), .val (.int pi1), .val (.int pi2), .val (.int pi3), .val (.int ((pi0 &&& (15 : Int32)) + (1 : Int32))), .val (.int ((pi1 &&& (1023 : Int32)) + (1 : Int32))), .unset, .unset, .unset, .unset, .unset, .unset] [(.int (2147483647 : Int32)), (.int pi2)])) _
    refine XS.iand X0.here hx rfl (hb hby at_20) rfl ?_
    show Steps p.tables e below (s₁.setTop (mkF m 21 #[.val (.int pi0), .val (.int pi1), .val (.int pi2), .val (.int pi3), .val (.int ((pi0 &&& (15 : Int32)) + (1 : Int32))), .val (.int ((pi1 &&& (1023 : Int32)) + (1 : Int32))), .unset, .unset, .unset, .unset, .unset, .unset] [(.int (pi2 &&& (2147483647 : Int32)))])) _
    refine XS.iload X0.here hx rfl (hb hby at_21) rfl ?_
    show Steps p.tables e below (s₁.setTop (mkF m 23 #[.val (.int pi0), .val (.int pi1), .val (.int pi2), .val (.int pi3), .val (.int ((pi0 &&& (15 : Int32)) + (1 : Int32))), .val (.int ((pi1 &&& (1023 : Int32)) + (1 : Int32))), .unset, .unset, .unset, .unset, .unset, .unset] [(.int ((pi0 &&& (15 : Int32)) + (1 : Int32))), (.int (pi2 &&& (2147483647 : Int32)))])) _
    refine iremM X0 hx rfl (hb hby at_23) rfl (own_nz pi0 15 4 (by decide) (by decide) (by decide)) ?_
    show Steps p.tables e below (s₁.setTop (mkF m 24 #[.val (.int pi0), .val (.int pi1), .val (.int pi2), .val (.int pi3), .val (.int ((pi0 &&& (15 : Int32)) + (1 : Int32))), .val (.int ((pi1 &&& (1023 : Int32)) + (1 : Int32))), .unset, .unset, .unset, .unset, .unset, .unset] [(.int ((pi2 &&& (2147483647 : Int32)) % ((pi0 &&& (15 : Int32)) + (1 : Int32))))])) _
    refine XS.istore X0.here hx rfl (hb hby at_24) rfl (l' := #[.val (.int pi0), .val (.int pi1), .val (.int pi2), .val (.int pi3), .val (.int ((pi0 &&& (15 : Int32)) + (1 : Int32))), .val (.int ((pi1 &&& (1023 : Int32)) + (1 : Int32))), .val (.int ((pi2 &&& (2147483647 : Int32)) % ((pi0 &&& (15 : Int32)) + (1 : Int32)))), .unset, .unset, .unset, .unset, .unset]) rfl ?_
    show Steps p.tables e below (s₁.setTop (mkF m 26 #[.val (.int pi0), .val (.int pi1), .val (.int pi2), .val (.int pi3), .val (.int ((pi0 &&& (15 : Int32)) + (1 : Int32))), .val (.int ((pi1 &&& (1023 : Int32)) + (1 : Int32))), .val (.int ((pi2 &&& (2147483647 : Int32)) % ((pi0 &&& (15 : Int32)) + (1 : Int32)))), .unset, .unset, .unset, .unset, .unset] [])) _
    refine XS.iloadN X0.here hx rfl (hb hby at_26) rfl ?_
    show Steps p.tables e below (s₁.setTop (mkF m 27 #[.val (.int pi0), .val (.int pi1), .val (.int pi2), .val (.int pi3), .val (.int ((pi0 &&& (15 : Int32)) + (1 : Int32))), .val (.int ((pi1 &&& (1023 : Int32)) + (1 : Int32))), .val (.int ((pi2 &&& (2147483647 : Int32)) % ((pi0 &&& (15 : Int32)) + (1 : Int32)))), .unset, .unset, .unset, .unset, .unset] [(.int pi3)])) _
    refine X0.ldcInt hx hown (mvT hZ (hw _ (List.mem_of_getElem? (i := 0) rfl))) (g := (mkF m 27 #[.val (.int pi0), .val (.int pi1), .val (.int pi2), .val (.int pi3), .val (.int ((pi0 &&& (15 : Int32)) + (1 : Int32))), .val (.int ((pi1 &&& (1023 : Int32)) + (1 : Int32))), .val (.int ((pi2 &&& (2147483647 : Int32)) % ((pi0 &&& (15 : Int32)) + (1 : Int32)))), .unset, .unset, .unset, .unset, .unset] [(.int pi3)])) rfl (hb hby at_27) _ ?_
    show Steps p.tables e below (s₁.setTop (mkF m 29 #[.val (.int pi0), .val (.int pi1), .val (.int pi2), .val (.int pi3), .val (.int ((pi0 &&& (15 : Int32)) + (1 : Int32))), .val (.int ((pi1 &&& (1023 : Int32)) + (1 : Int32))), .val (.int ((pi2 &&& (2147483647 : Int32)) % ((pi0 &&& (15 : Int32)) + (1 : Int32)))), .unset, .unset, .unset, .unset, .unset] [(.int (2147483647 : Int32)), (.int pi3)])) _
    refine XS.iand X0.here hx rfl (hb hby at_29) rfl ?_
    show Steps p.tables e below (s₁.setTop (mkF m 30 #[.val (.int pi0), .val (.int pi1), .val (.int pi2), .val (.int pi3), .val (.int ((pi0 &&& (15 : Int32)) + (1 : Int32))), .val (.int ((pi1 &&& (1023 : Int32)) + (1 : Int32))), .val (.int ((pi2 &&& (2147483647 : Int32)) % ((pi0 &&& (15 : Int32)) + (1 : Int32)))), .unset, .unset, .unset, .unset, .unset] [(.int (pi3 &&& (2147483647 : Int32)))])) _
    refine XS.iload X0.here hx rfl (hb hby at_30) rfl ?_
    show Steps p.tables e below (s₁.setTop (mkF m 32 #[.val (.int pi0), .val (.int pi1), .val (.int pi2), .val (.int pi3), .val (.int ((pi0 &&& (15 : Int32)) + (1 : Int32))), .val (.int ((pi1 &&& (1023 : Int32)) + (1 : Int32))), .val (.int ((pi2 &&& (2147483647 : Int32)) % ((pi0 &&& (15 : Int32)) + (1 : Int32)))), .unset, .unset, .unset, .unset, .unset] [(.int ((pi1 &&& (1023 : Int32)) + (1 : Int32))), (.int (pi3 &&& (2147483647 : Int32)))])) _
    refine iremM X0 hx rfl (hb hby at_32) rfl (own_nz pi1 1023 10 (by decide) (by decide) (by decide)) ?_
    show Steps p.tables e below (s₁.setTop (mkF m 33 #[.val (.int pi0), .val (.int pi1), .val (.int pi2), .val (.int pi3), .val (.int ((pi0 &&& (15 : Int32)) + (1 : Int32))), .val (.int ((pi1 &&& (1023 : Int32)) + (1 : Int32))), .val (.int ((pi2 &&& (2147483647 : Int32)) % ((pi0 &&& (15 : Int32)) + (1 : Int32)))), .unset, .unset, .unset, .unset, .unset] [(.int ((pi3 &&& (2147483647 : Int32)) % ((pi1 &&& (1023 : Int32)) + (1 : Int32))))])) _
    refine XS.istore X0.here hx rfl (hb hby at_33) rfl (l' := #[.val (.int pi0), .val (.int pi1), .val (.int pi2), .val (.int pi3), .val (.int ((pi0 &&& (15 : Int32)) + (1 : Int32))), .val (.int ((pi1 &&& (1023 : Int32)) + (1 : Int32))), .val (.int ((pi2 &&& (2147483647 : Int32)) % ((pi0 &&& (15 : Int32)) + (1 : Int32)))), .val (.int ((pi3 &&& (2147483647 : Int32)) % ((pi1 &&& (1023 : Int32)) + (1 : Int32)))), .unset, .unset, .unset, .unset]) rfl ?_
    show Steps p.tables e below (s₁.setTop (mkF m 35 #[.val (.int pi0), .val (.int pi1), .val (.int pi2), .val (.int pi3), .val (.int ((pi0 &&& (15 : Int32)) + (1 : Int32))), .val (.int ((pi1 &&& (1023 : Int32)) + (1 : Int32))), .val (.int ((pi2 &&& (2147483647 : Int32)) % ((pi0 &&& (15 : Int32)) + (1 : Int32)))), .val (.int ((pi3 &&& (2147483647 : Int32)) % ((pi1 &&& (1023 : Int32)) + (1 : Int32)))), .unset, .unset, .unset, .unset] [])) _
    exact kt
  obtain ⟨s₂, o₂, hs₂, hr₂⟩ := own_tail35 pi0 pi1 pi2 pi3 ((pi0 &&& (15 : Int32)) + (1 : Int32)) ((pi1 &&& (1023 : Int32)) + (1 : Int32)) ((pi2 &&& (2147483647 : Int32)) % ((pi0 &&& (15 : Int32)) + (1 : Int32))) ((pi3 &&& (2147483647 : Int32)) % ((pi1 &&& (1023 : Int32)) + (1 : Int32))) nb kn c0 c1 c2 c3 c4 c5 c6 c7 X0 hx hZ hw hby hml hown e0 N0 Z0 Bd.returns (BodyLoose.notSynchronized Bd) P0 P1 P2 P3 P4 P5 P6 P7 P8 P9 P10 P11 P12 P13 P14 P15 P16 P17 P18 P19 P20 P21 P22 P23 P24 P25 P26 P27 P28 P29 P30 P31 P32 P33 P34 ca0 ca1 ca2 ca3 ca4 ca5 ca6 ca7 ca8 ca9
  exact ⟨s₂, o₂, go2 _ hs₂, hr₂⟩
set_option maxRecDepth 65536 in
set_option maxHeartbeats 40000000 in
theorem comes_1 {Post : Tables → Env → Array Value → State → Outcome → State → Prop} (hpost : ∀ tb e args s v u, (limb_1_1.after args s (.returned v) u = true ∧ limb_1_2.after args s (.returned v) u = true ∧ True) → FrameEnd s (.returned v) u (Jvm.fieldLocs frame_1_writes args s ++ Jvm.arrayLocs frame_1_arrays args s ++ Jvm.staticLocs frame_1_statics s) 24 32896 → Post tb e args s (.returned v) u) :
    ArmFor flags0 classFile x code maxLocals ret World_1 tables_1 room_1 Calls_1 rest_1 Pre_1 Post := by
  intro l hfl _ _ p e ha hc hk s m args below hf hA hF happ hP
  obtain ⟨hcalls, hrest, hpre⟩ := hP
  obtain ⟨-, -, -, hnamed, -, -, -, hat⟩ := (Spec.applies_iff hf).mp happ
  obtain ⟨hg, hn⟩ := and_e (Cond.before_iff.mp (show (Jvm.Cond.and given_1 narrow_1).before args s = true from hpre))
  obtain ⟨g1a, g1b⟩ := and_e hg
  obtain ⟨g2a, g2b⟩ := and_e g1b
  obtain ⟨g3a, g3b⟩ := and_e g2b
  obtain ⟨g4a, g4b⟩ := and_e g3b
  obtain ⟨w0, w1, w2, w3, rfl⟩ : ∃ w0 w1 w2 w3 : Value, args = #[w0, w1, w2, w3] := by
    have hs : args.size = 4 := by simpa [Cond.value, given_1] using g1a
    obtain ⟨L⟩ := args
    match L, hs with
    | [w0, w1, w2, w3], _ => exact ⟨w0, w1, w2, w3, rfl⟩
  have hw := fun d (hd : d ∈ tables_1) => atoms_spec (ws := Jvm.Cond.code x code maxLocals ret :: tables_1) hat d (List.mem_cons_of_mem _ hd)
  have hfit : Fit s := fun {y c} hc i hi => by
    obtain ⟨ha, rfl⟩ := Array.getElem?_eq_some_iff.mp hc
    have q := List.all_eq_true.mp ((Array.all_eq_true_iff_forall_mem.mp hF) _ (Array.getElem_mem ha)) i (List.mem_range.mpr hi)
    simpa [Array.getElem?_eq_getElem hi] using q
  obtain ⟨i0, ei0⟩ := is_v g2a
  obtain rfl : w0 = (.int i0) := Option.some.inj ei0
  obtain ⟨i1, ei1⟩ := is_v g3a
  obtain rfl : w1 = (.int i1) := Option.some.inj ei1
  obtain ⟨i2, ei2⟩ := is_v g4a
  obtain rfl : w2 = (.int i2) := Option.some.inj ei2
  obtain ⟨i3, ei3⟩ := is_v g4b
  obtain rfl : w3 = (.int i3) := Option.some.inj ei3
  obtain ⟨g5a, g5b⟩ := and_e hn
  obtain ⟨g6a, g6b⟩ := and_e g5b
  obtain ⟨g7a, g7b⟩ := and_e g6b
  obtain ⟨g8a, g8b⟩ := and_e g7b
  obtain ⟨g9a, g9b⟩ := and_e g8b
  obtain ⟨g10a, g10b⟩ := and_e g9b
  obtain ⟨g11a, g11b⟩ := and_e g10b
  obtain ⟨g12a, g12b⟩ := and_e g11b
  obtain ⟨g13a, g13b⟩ := and_e g12b
  obtain ⟨g14a, g14b⟩ := and_e g13b
  obtain ⟨g15a, g15b⟩ := and_e g14b
  obtain ⟨g16a, g16b⟩ := and_e g15b
  obtain ⟨g17a, g17b⟩ := and_e g16b
  obtain ⟨g18a, g18b⟩ := and_e g17b
  obtain ⟨g19a, g19b⟩ := and_e g18b
  obtain ⟨g20a, g20b⟩ := and_e g19b
  obtain ⟨g21a, g21b⟩ := and_e g20b
  obtain ⟨g22a, g22b⟩ := and_e g21b
  obtain ⟨g23a, g23b⟩ := and_e g22b
  obtain ⟨g24a, g24b⟩ := and_e g23b
  obtain ⟨g25a, g25b⟩ := and_e g24b
  obtain ⟨g26a, g26b⟩ := and_e g25b
  obtain ⟨g27a, g27b⟩ := and_e g26b
  obtain ⟨g28a, g28b⟩ := and_e g27b
  obtain ⟨g29a, g29b⟩ := and_e g28b
  obtain ⟨g30a, g30b⟩ := and_e g29b
  obtain ⟨g31a, g31b⟩ := and_e g30b
  obtain ⟨g32a, g32b⟩ := and_e g31b
  obtain ⟨g33a, g33b⟩ := and_e g32b
  obtain ⟨g34a, g34b⟩ := and_e g33b
  obtain ⟨g35a, g35b⟩ := and_e g34b
  obtain ⟨g36a, g36b⟩ := and_e g35b
  obtain ⟨g37a, g37b⟩ := and_e g36b
  obtain ⟨g38a, g38b⟩ := and_e g37b
  obtain ⟨g39a, g39b⟩ := and_e g38b
  obtain ⟨g40a, g40b⟩ := and_e g39b
  obtain ⟨g41a, g41b⟩ := and_e g40b
  obtain ⟨g42a, g42b⟩ := and_e g41b
  obtain ⟨g43a, g43b⟩ := and_e g42b
  obtain ⟨g44a, g44b⟩ := and_e g43b
  obtain ⟨g45a, g45b⟩ := and_e g44b
  obtain ⟨g46a, g46b⟩ := and_e g45b
  obtain ⟨v_KnightMove_NUMBERED, ev_v_KnightMove_NUMBERED⟩ := arr_v g5a
  obtain ⟨cl_v_KnightMove_NUMBERED, Ar_v_KnightMove_NUMBERED⟩ := Arr.start ev_v_KnightMove_NUMBERED g5a
  have S_v_KnightMove_NUMBERED : Sta s s.heap "com/example/hoofprint/hoofprint/model/KnightMove" "NUMBERED" "[Lcom/example/hoofprint/hoofprint/model/KnightMove;" (.ref v_KnightMove_NUMBERED) := Sta.start ev_v_KnightMove_NUMBERED (Or.inr ⟨(hw _ (List.mem_of_getElem? (i := 39) rfl)), (hw _ (List.mem_of_getElem? (i := 42) rfl))⟩)
  obtain ⟨v_KnightMove_NNW, ev_v_KnightMove_NNW⟩ := exa_v g7a
  have E_v_KnightMove_NNW : Exa s s.heap v_KnightMove_NNW "com/example/hoofprint/hoofprint/model/KnightMove" := Exa.start ev_v_KnightMove_NNW g7a
  have S_v_KnightMove_NNW : Sta s s.heap "com/example/hoofprint/hoofprint/model/KnightMove" "NNW" "Lcom/example/hoofprint/hoofprint/model/KnightMove;" (.ref v_KnightMove_NNW) := Sta.start ev_v_KnightMove_NNW (Or.inr ⟨(hw _ (List.mem_of_getElem? (i := 39) rfl)), (hw _ (List.mem_of_getElem? (i := 44) rfl))⟩)
  obtain ⟨v_KnightMove_NNE, ev_v_KnightMove_NNE⟩ := exa_v g12a
  have E_v_KnightMove_NNE : Exa s s.heap v_KnightMove_NNE "com/example/hoofprint/hoofprint/model/KnightMove" := Exa.start ev_v_KnightMove_NNE g12a
  have S_v_KnightMove_NNE : Sta s s.heap "com/example/hoofprint/hoofprint/model/KnightMove" "NNE" "Lcom/example/hoofprint/hoofprint/model/KnightMove;" (.ref v_KnightMove_NNE) := Sta.start ev_v_KnightMove_NNE (Or.inr ⟨(hw _ (List.mem_of_getElem? (i := 39) rfl)), (hw _ (List.mem_of_getElem? (i := 68) rfl))⟩)
  obtain ⟨v_KnightMove_WNW, ev_v_KnightMove_WNW⟩ := exa_v g17a
  have E_v_KnightMove_WNW : Exa s s.heap v_KnightMove_WNW "com/example/hoofprint/hoofprint/model/KnightMove" := Exa.start ev_v_KnightMove_WNW g17a
  have S_v_KnightMove_WNW : Sta s s.heap "com/example/hoofprint/hoofprint/model/KnightMove" "WNW" "Lcom/example/hoofprint/hoofprint/model/KnightMove;" (.ref v_KnightMove_WNW) := Sta.start ev_v_KnightMove_WNW (Or.inr ⟨(hw _ (List.mem_of_getElem? (i := 39) rfl)), (hw _ (List.mem_of_getElem? (i := 69) rfl))⟩)
  obtain ⟨v_KnightMove_ENE, ev_v_KnightMove_ENE⟩ := exa_v g22a
  have E_v_KnightMove_ENE : Exa s s.heap v_KnightMove_ENE "com/example/hoofprint/hoofprint/model/KnightMove" := Exa.start ev_v_KnightMove_ENE g22a
  have S_v_KnightMove_ENE : Sta s s.heap "com/example/hoofprint/hoofprint/model/KnightMove" "ENE" "Lcom/example/hoofprint/hoofprint/model/KnightMove;" (.ref v_KnightMove_ENE) := Sta.start ev_v_KnightMove_ENE (Or.inr ⟨(hw _ (List.mem_of_getElem? (i := 39) rfl)), (hw _ (List.mem_of_getElem? (i := 70) rfl))⟩)
  obtain ⟨v_KnightMove_WSW, ev_v_KnightMove_WSW⟩ := exa_v g27a
  have E_v_KnightMove_WSW : Exa s s.heap v_KnightMove_WSW "com/example/hoofprint/hoofprint/model/KnightMove" := Exa.start ev_v_KnightMove_WSW g27a
  have S_v_KnightMove_WSW : Sta s s.heap "com/example/hoofprint/hoofprint/model/KnightMove" "WSW" "Lcom/example/hoofprint/hoofprint/model/KnightMove;" (.ref v_KnightMove_WSW) := Sta.start ev_v_KnightMove_WSW (Or.inr ⟨(hw _ (List.mem_of_getElem? (i := 39) rfl)), (hw _ (List.mem_of_getElem? (i := 71) rfl))⟩)
  obtain ⟨v_KnightMove_ESE, ev_v_KnightMove_ESE⟩ := exa_v g32a
  have E_v_KnightMove_ESE : Exa s s.heap v_KnightMove_ESE "com/example/hoofprint/hoofprint/model/KnightMove" := Exa.start ev_v_KnightMove_ESE g32a
  have S_v_KnightMove_ESE : Sta s s.heap "com/example/hoofprint/hoofprint/model/KnightMove" "ESE" "Lcom/example/hoofprint/hoofprint/model/KnightMove;" (.ref v_KnightMove_ESE) := Sta.start ev_v_KnightMove_ESE (Or.inr ⟨(hw _ (List.mem_of_getElem? (i := 39) rfl)), (hw _ (List.mem_of_getElem? (i := 72) rfl))⟩)
  obtain ⟨v_KnightMove_SSW, ev_v_KnightMove_SSW⟩ := exa_v g37a
  have E_v_KnightMove_SSW : Exa s s.heap v_KnightMove_SSW "com/example/hoofprint/hoofprint/model/KnightMove" := Exa.start ev_v_KnightMove_SSW g37a
  have S_v_KnightMove_SSW : Sta s s.heap "com/example/hoofprint/hoofprint/model/KnightMove" "SSW" "Lcom/example/hoofprint/hoofprint/model/KnightMove;" (.ref v_KnightMove_SSW) := Sta.start ev_v_KnightMove_SSW (Or.inr ⟨(hw _ (List.mem_of_getElem? (i := 39) rfl)), (hw _ (List.mem_of_getElem? (i := 73) rfl))⟩)
  obtain ⟨v_KnightMove_SSE, ev_v_KnightMove_SSE⟩ := exa_v g42a
  have E_v_KnightMove_SSE : Exa s s.heap v_KnightMove_SSE "com/example/hoofprint/hoofprint/model/KnightMove" := Exa.start ev_v_KnightMove_SSE g42a
  have S_v_KnightMove_SSE : Sta s s.heap "com/example/hoofprint/hoofprint/model/KnightMove" "SSE" "Lcom/example/hoofprint/hoofprint/model/KnightMove;" (.ref v_KnightMove_SSE) := Sta.start ev_v_KnightMove_SSE (Or.inr ⟨(hw _ (List.mem_of_getElem? (i := 39) rfl)), (hw _ (List.mem_of_getElem? (i := 74) rfl))⟩)
  have F_v_KnightMove_NNW_ordinal : Fld s s.heap v_KnightMove_NNW "java/lang/Enum" "ordinal" "I" (.int (0 : Int32)) := own_fldI ev_v_KnightMove_NNW g9a
  have F_v_KnightMove_NNW_rows : Fld s s.heap v_KnightMove_NNW "com/example/hoofprint/hoofprint/model/KnightMove" "rows" "I" (.int (-2 : Int32)) := own_fldI ev_v_KnightMove_NNW g10a
  have F_v_KnightMove_NNW_columns : Fld s s.heap v_KnightMove_NNW "com/example/hoofprint/hoofprint/model/KnightMove" "columns" "I" (.int (-1 : Int32)) := own_fldI ev_v_KnightMove_NNW g11a
  have F_v_KnightMove_NNE_ordinal : Fld s s.heap v_KnightMove_NNE "java/lang/Enum" "ordinal" "I" (.int (1 : Int32)) := own_fldI ev_v_KnightMove_NNE g14a
  have F_v_KnightMove_NNE_rows : Fld s s.heap v_KnightMove_NNE "com/example/hoofprint/hoofprint/model/KnightMove" "rows" "I" (.int (-2 : Int32)) := own_fldI ev_v_KnightMove_NNE g15a
  have F_v_KnightMove_NNE_columns : Fld s s.heap v_KnightMove_NNE "com/example/hoofprint/hoofprint/model/KnightMove" "columns" "I" (.int (1 : Int32)) := own_fldI ev_v_KnightMove_NNE g16a
  have F_v_KnightMove_WNW_ordinal : Fld s s.heap v_KnightMove_WNW "java/lang/Enum" "ordinal" "I" (.int (2 : Int32)) := own_fldI ev_v_KnightMove_WNW g19a
  have F_v_KnightMove_WNW_rows : Fld s s.heap v_KnightMove_WNW "com/example/hoofprint/hoofprint/model/KnightMove" "rows" "I" (.int (-1 : Int32)) := own_fldI ev_v_KnightMove_WNW g20a
  have F_v_KnightMove_WNW_columns : Fld s s.heap v_KnightMove_WNW "com/example/hoofprint/hoofprint/model/KnightMove" "columns" "I" (.int (-2 : Int32)) := own_fldI ev_v_KnightMove_WNW g21a
  have F_v_KnightMove_ENE_ordinal : Fld s s.heap v_KnightMove_ENE "java/lang/Enum" "ordinal" "I" (.int (3 : Int32)) := own_fldI ev_v_KnightMove_ENE g24a
  have F_v_KnightMove_ENE_rows : Fld s s.heap v_KnightMove_ENE "com/example/hoofprint/hoofprint/model/KnightMove" "rows" "I" (.int (-1 : Int32)) := own_fldI ev_v_KnightMove_ENE g25a
  have F_v_KnightMove_ENE_columns : Fld s s.heap v_KnightMove_ENE "com/example/hoofprint/hoofprint/model/KnightMove" "columns" "I" (.int (2 : Int32)) := own_fldI ev_v_KnightMove_ENE g26a
  have F_v_KnightMove_WSW_ordinal : Fld s s.heap v_KnightMove_WSW "java/lang/Enum" "ordinal" "I" (.int (4 : Int32)) := own_fldI ev_v_KnightMove_WSW g29a
  have F_v_KnightMove_WSW_rows : Fld s s.heap v_KnightMove_WSW "com/example/hoofprint/hoofprint/model/KnightMove" "rows" "I" (.int (1 : Int32)) := own_fldI ev_v_KnightMove_WSW g30a
  have F_v_KnightMove_WSW_columns : Fld s s.heap v_KnightMove_WSW "com/example/hoofprint/hoofprint/model/KnightMove" "columns" "I" (.int (-2 : Int32)) := own_fldI ev_v_KnightMove_WSW g31a
  have F_v_KnightMove_ESE_ordinal : Fld s s.heap v_KnightMove_ESE "java/lang/Enum" "ordinal" "I" (.int (5 : Int32)) := own_fldI ev_v_KnightMove_ESE g34a
  have F_v_KnightMove_ESE_rows : Fld s s.heap v_KnightMove_ESE "com/example/hoofprint/hoofprint/model/KnightMove" "rows" "I" (.int (1 : Int32)) := own_fldI ev_v_KnightMove_ESE g35a
  have F_v_KnightMove_ESE_columns : Fld s s.heap v_KnightMove_ESE "com/example/hoofprint/hoofprint/model/KnightMove" "columns" "I" (.int (2 : Int32)) := own_fldI ev_v_KnightMove_ESE g36a
  have F_v_KnightMove_SSW_ordinal : Fld s s.heap v_KnightMove_SSW "java/lang/Enum" "ordinal" "I" (.int (6 : Int32)) := own_fldI ev_v_KnightMove_SSW g39a
  have F_v_KnightMove_SSW_rows : Fld s s.heap v_KnightMove_SSW "com/example/hoofprint/hoofprint/model/KnightMove" "rows" "I" (.int (2 : Int32)) := own_fldI ev_v_KnightMove_SSW g40a
  have F_v_KnightMove_SSW_columns : Fld s s.heap v_KnightMove_SSW "com/example/hoofprint/hoofprint/model/KnightMove" "columns" "I" (.int (-1 : Int32)) := own_fldI ev_v_KnightMove_SSW g41a
  have F_v_KnightMove_SSE_ordinal : Fld s s.heap v_KnightMove_SSE "java/lang/Enum" "ordinal" "I" (.int (7 : Int32)) := own_fldI ev_v_KnightMove_SSE g44a
  have F_v_KnightMove_SSE_rows : Fld s s.heap v_KnightMove_SSE "com/example/hoofprint/hoofprint/model/KnightMove" "rows" "I" (.int (2 : Int32)) := own_fldI ev_v_KnightMove_SSE g45a
  have F_v_KnightMove_SSE_columns : Fld s s.heap v_KnightMove_SSE "com/example/hoofprint/hoofprint/model/KnightMove" "columns" "I" (.int (1 : Int32)) := own_fldI ev_v_KnightMove_SSE g46a
  have S_TourLinks_NO_MOVE : Sta s s.heap "com/example/hoofprint/hoofprint/service/TourLinks" "NO_MOVE" "I" (.int (8 : Int32)) := Sta.start (own_staI g46b) (Or.inr ⟨(hw _ (List.mem_of_getElem? (i := 22) rfl)), (hw _ (List.mem_of_getElem? (i := 78) rfl))⟩)
  obtain ⟨cz, sz⟩ := own_len ev_v_KnightMove_NUMBERED g6a Ar_v_KnightMove_NUMBERED
  have el0 := own_elemR ev_v_KnightMove_NUMBERED ev_v_KnightMove_NNW Ar_v_KnightMove_NUMBERED.1 g8a
  have el1 := own_elemR ev_v_KnightMove_NUMBERED ev_v_KnightMove_NNE Ar_v_KnightMove_NUMBERED.1 g13a
  have el2 := own_elemR ev_v_KnightMove_NUMBERED ev_v_KnightMove_WNW Ar_v_KnightMove_NUMBERED.1 g18a
  have el3 := own_elemR ev_v_KnightMove_NUMBERED ev_v_KnightMove_ENE Ar_v_KnightMove_NUMBERED.1 g23a
  have el4 := own_elemR ev_v_KnightMove_NUMBERED ev_v_KnightMove_WSW Ar_v_KnightMove_NUMBERED.1 g28a
  have el5 := own_elemR ev_v_KnightMove_NUMBERED ev_v_KnightMove_ESE Ar_v_KnightMove_NUMBERED.1 g33a
  have el6 := own_elemR ev_v_KnightMove_NUMBERED ev_v_KnightMove_SSW Ar_v_KnightMove_NUMBERED.1 g38a
  have el7 := own_elemR ev_v_KnightMove_NUMBERED ev_v_KnightMove_SSE Ar_v_KnightMove_NUMBERED.1 g43a
  have V_nb : Arv s s.heap v_KnightMove_NUMBERED cl_v_KnightMove_NUMBERED.cls (.object "com/example/hoofprint/hoofprint/model/KnightMove") (8 : Int32) [(.ref v_KnightMove_NNW), (.ref v_KnightMove_NNE), (.ref v_KnightMove_WNW), (.ref v_KnightMove_ENE), (.ref v_KnightMove_WSW), (.ref v_KnightMove_ESE), (.ref v_KnightMove_SSW), (.ref v_KnightMove_SSE)] .null := Arv.start hfit Ar_v_KnightMove_NUMBERED cz sz (by decide) rfl ⟨el0, el1, el2, el3, el4, el5, el6, el7, trivial⟩
  obtain ⟨n, o, h1, h2, h3, _, L, rfl, ⟨rfl, N⟩, hq⟩ := own_law l s _ hw tables_1 i0 i1 i2 i3 v_KnightMove_NUMBERED cl_v_KnightMove_NUMBERED.cls v_KnightMove_NNW v_KnightMove_NNE v_KnightMove_WNW v_KnightMove_ENE v_KnightMove_WSW v_KnightMove_ESE v_KnightMove_SSW v_KnightMove_SSE s.heap s.heap.size (Nat.le_refl _) S_v_KnightMove_NUMBERED V_nb E_v_KnightMove_NNW F_v_KnightMove_NNW_ordinal F_v_KnightMove_NNW_rows F_v_KnightMove_NNW_columns E_v_KnightMove_NNE F_v_KnightMove_NNE_ordinal F_v_KnightMove_NNE_rows F_v_KnightMove_NNE_columns E_v_KnightMove_WNW F_v_KnightMove_WNW_ordinal F_v_KnightMove_WNW_rows F_v_KnightMove_WNW_columns E_v_KnightMove_ENE F_v_KnightMove_ENE_ordinal F_v_KnightMove_ENE_rows F_v_KnightMove_ENE_columns E_v_KnightMove_WSW F_v_KnightMove_WSW_ordinal F_v_KnightMove_WSW_rows F_v_KnightMove_WSW_columns E_v_KnightMove_ESE F_v_KnightMove_ESE_ordinal F_v_KnightMove_ESE_rows F_v_KnightMove_ESE_columns E_v_KnightMove_SSW F_v_KnightMove_SSW_ordinal F_v_KnightMove_SSW_rows F_v_KnightMove_SSW_columns E_v_KnightMove_SSE F_v_KnightMove_SSE_ordinal F_v_KnightMove_SSE_rows F_v_KnightMove_SSE_columns S_TourLinks_NO_MOVE p e ha hc hk s m _ below hf ((Spec.applies_iff_loose hf).mp happ).1 ⟨rfl, State.Warmed39.refl s, rfl⟩ trivial
  refine ⟨n, _, h1, h2, h3, hpost _ _ _ _ _ _ ⟨Cond.after_iff.mpr rfl, Cond.after_iff.mpr (eq_i res_at (Term.int_eval (1)) rfl), trivial⟩ ⟨hq.1, hq.2.1, (hq.2.2.sift fun y hy => Or.inr (N y hy)).mono (by decide) (by decide)⟩⟩
theorem main_1_1 : Claimed_1_1 := comes_1 fun _ _ _ _ _ _ h hF => ⟨h.1, hF⟩
theorem main_1_2 : Claimed_1_2 := comes_1 fun _ _ _ _ _ _ h hF => ⟨h.2.1, hF⟩
end Jvm.Pilot.@@N@@
namespace Jvm.Pilot.@@N@@
open Jvm Jvm.ClassFile Sem Op Lib Jvm.Free Jvm.Stand Jvm.Pilot.@@N@@.Jvm.D
/-! MADE BY PROGRAM (witnessworld.py) out of the Statement's table words and the real class files: 18 classes; the members and pool entries that the words name. The judged class is class 1, her method 1. -/
namespace start1
open Jvm.ClassFile
def u (s : String) : CpInfo := .utf8 (stringToUtf16 s)
/-- a pool by its gaps: so many unusable entries, then the entry; so many at the end -/
def gap : Nat → List CpInfo → List CpInfo
  | 0, r => r
  | n + 1, r => .unusable :: gap n r
def poolList (es : List (Nat × CpInfo)) (last : Nat) : List CpInfo := es.foldr (fun e r => gap e.1 (e.2 :: r)) (gap last [])
def pool (es : List (Nat × CpInfo)) (last : Nat) : Array CpInfo := ⟨poolList es last⟩
def fileOf (pool : Array CpInfo) (this : Nat) (attrs : Array Attribute := #[]) (ms : Array MethodInfo := #[]) (fl : Nat := 33) (sup : Nat := 0) (ifs : Array Nat := #[]) (fds : Array FieldInfo := #[]) : ClassFile where
  minorVersion := 0
  majorVersion := 65
  constantPool := pool
  accessFlags := fl
  thisClass := this
  superClass := sup
  interfaces := ifs
  fields := fds
  methods := ms
  attributes := attrs
def plain (name : String) (sup : Option ClassId) : Class where
  name := name
  kind := .ordinary
  loader := none
  accessFlags := 33
  super := sup
  interfaces := #[]
  cf := none
  fields := #[]
  methods := #[]
  instanceTypes := #[]
  staticTypes := #[]
  resolved := #[]
  callSites := []
  init := .initialized
  statics := none
  mirror := none

def pool0 : Array CpInfo := pool [(5, u "<init>"), (0, u "()V"), (1, .class_ 10), (1, u "java/lang/Object")] 113

def k0c0 : Code := { maxStack := 0, maxLocals := 1, code := object_method_1_code, exceptionTable := #[], attributes := #[] }
def k0m0 : Method := { name := "<init>", desc := "()V", sig := { parameters := [], returnType := none }, accessFlags := 1, code := some k0c0 }
/-- java/lang/Object -/
def k0 : Class := { plain "java/lang/Object" none with
  accessFlags := 33
  interfaces := #[]
  cf := some (fileOf pool0 8 #[] #[{ accessFlags := 1, nameIndex := 5, descriptorIndex := 6, attributes := #[] }] 33 0 #[] #[])
  fields := #[]
  methods := #[k0m0]
  instanceTypes := #[]
  staticTypes := #[]
  resolved := Array.replicate 124 none
  statics := none }

def pool1 : Array CpInfo := pool [(2, .class_ 4), (1, u "java/lang/Object"), (0, u "<init>"), (0, u "()V"), (0, .integer 2147483647), (0, .class_ 9), (0, u "com/example/hoofprint/hoofprint/model/Board"), (0, .methodref 8 11), (0, .nameAndType 5 12), (0, u "(II)V"), (0, .class_ 14), (0, u "com/example/hoofprint/hoofprint/service/TourLinks"), (0, .methodref 13 16), (0, .nameAndType 5 17), (0, u "(Lcom/example/hoofprint/hoofprint/model/Board;)V"), (0, .methodref 13 19), (0, .nameAndType 20 21), (0, u "index"), (0, u "(II)I"), (0, .methodref 8 23), (0, .nameAndType 24 25), (0, u "squares"), (0, u "()I"), (0, .methodref 8 27), (0, .nameAndType 28 29), (0, u "square"), (0, u "(I)Lcom/example/hoofprint/hoofprint/model/Square;"), (0, .methodref 31 32), (0, .class_ 33), (0, .nameAndType 34 25), (0, u "com/example/hoofprint/hoofprint/model/Square"), (0, u "row"), (0, .methodref 31 36), (0, .nameAndType 37 25), (0, u "column"), (0, .class_ 39), (0, u "com/example/hoofprint/hoofprint/service/TourLinksIndexPinLaw"), (2, u "law"), (0, u "(IIII)Z")] 3

def k1m0 : Method := { name := "<init>", desc := "()V", sig := { parameters := [], returnType := none }, accessFlags := 1, code := none }
def k1c1 : Code := { maxStack := 4, maxLocals := 12, code := code, exceptionTable := #[], attributes := #[] }
def k1m1 : Method := { name := "law", desc := "(IIII)Z", sig := { parameters := [.int, .int, .int, .int], returnType := some .boolean }, accessFlags := 9, code := some k1c1 }
/-- com/example/hoofprint/hoofprint/service/TourLinksIndexPinLaw -/
def k1 : Class := { plain "com/example/hoofprint/hoofprint/service/TourLinksIndexPinLaw" (some 0) with
  accessFlags := 49
  interfaces := #[]
  cf := some (fileOf pool1 38 #[] #[{ accessFlags := 1, nameIndex := 5, descriptorIndex := 6, attributes := #[] }, { accessFlags := 9, nameIndex := 42, descriptorIndex := 43, attributes := #[] }] 49 2 #[] #[])
  fields := #[]
  methods := #[k1m0, k1m1]
  instanceTypes := #[]
  staticTypes := #[]
  resolved := Array.replicate 47 none
  statics := none }

def pool2 : Array CpInfo := pool [(1, .methodref 2 3), (0, .class_ 4), (0, .nameAndType 5 6), (0, u "java/lang/Object"), (0, u "<init>"), (0, u "()V"), (0, .class_ 8), (0, u "java/lang/Record")] 13

def k2c0 : Code := { maxStack := 1, maxLocals := 1, code := jdk_30_method_1_code, exceptionTable := #[], attributes := #[] }
def k2m0 : Method := { name := "<init>", desc := "()V", sig := { parameters := [], returnType := none }, accessFlags := 4, code := some k2c0 }
/-- java/lang/Record -/
def k2 : Class := { plain "java/lang/Record" (some 0) with
  accessFlags := 1057
  interfaces := #[]
  cf := some (fileOf pool2 7 #[] #[{ accessFlags := 4, nameIndex := 5, descriptorIndex := 6, attributes := #[] }] 1057 2 #[] #[])
  fields := #[]
  methods := #[k2m0]
  instanceTypes := #[]
  staticTypes := #[]
  resolved := Array.replicate 22 none
  statics := none }

def pool3 : Array CpInfo := pool [(1, .methodref 2 3), (0, .class_ 4), (0, .nameAndType 5 6), (0, u "java/lang/Record"), (0, u "<init>"), (0, u "()V"), (9, .class_ 17), (0, u "com/example/hoofprint/hoofprint/model/Board"), (0, .long 100000000), (31, .fieldref 16 51), (0, .nameAndType 52 53), (0, u "rows"), (0, u "I"), (0, .fieldref 16 55), (0, .nameAndType 56 53), (0, u "columns"), (0, .methodref 16 58), (0, .nameAndType 59 60), (0, u "squares"), (0, u "()I"), (9, .class_ 71), (0, u "com/example/hoofprint/hoofprint/model/Square"), (0, .methodref 70 73), (0, .nameAndType 5 74), (0, u "(II)V"), (22, u "MAX_SQUARES"), (6, u "square"), (0, u "(I)Lcom/example/hoofprint/hoofprint/model/Square;")] 40

def k3c0 : Code := { maxStack := 11, maxLocals := 3, code := prog_21_method_1_code, exceptionTable := #[], attributes := #[] }
def k3m0 : Method := { name := "<init>", desc := "(II)V", sig := { parameters := [.int, .int], returnType := none }, accessFlags := 1, code := some k3c0 }
def k3c1 : Code := { maxStack := 2, maxLocals := 1, code := prog_21_method_2_code, exceptionTable := #[], attributes := #[] }
def k3m1 : Method := { name := "squares", desc := "()I", sig := { parameters := [], returnType := some .int }, accessFlags := 1, code := some k3c1 }
def k3c2 : Code := { maxStack := 5, maxLocals := 2, code := prog_21_method_3_code, exceptionTable := #[], attributes := #[] }
def k3m2 : Method := { name := "square", desc := "(I)Lcom/example/hoofprint/hoofprint/model/Square;", sig := { parameters := [.int], returnType := some (.object "com/example/hoofprint/hoofprint/model/Square") }, accessFlags := 1, code := some k3c2 }
def k3c3 : Code := { maxStack := 1, maxLocals := 1, code := prog_21_method_10_code, exceptionTable := #[], attributes := #[] }
def k3m3 : Method := { name := "columns", desc := "()I", sig := { parameters := [], returnType := some .int }, accessFlags := 1, code := some k3c3 }
/-- com/example/hoofprint/hoofprint/model/Board -/
def k3 : Class := { plain "com/example/hoofprint/hoofprint/model/Board" (some 2) with
  accessFlags := 49
  interfaces := #[]
  cf := some (fileOf pool3 16 #[] #[{ accessFlags := 1, nameIndex := 5, descriptorIndex := 74, attributes := #[] }, { accessFlags := 1, nameIndex := 59, descriptorIndex := 60, attributes := #[] }, { accessFlags := 1, nameIndex := 104, descriptorIndex := 105, attributes := #[] }, { accessFlags := 1, nameIndex := 56, descriptorIndex := 60, attributes := #[] }] 49 2 #[] #[{ accessFlags := 18, nameIndex := 52, descriptorIndex := 53, attributes := #[] }, { accessFlags := 18, nameIndex := 56, descriptorIndex := 53, attributes := #[] }, { accessFlags := 25, nameIndex := 97, descriptorIndex := 53, attributes := #[] }])
  fields := #[{ name := "rows", type := .int, accessFlags := 18, slot := 0, constantValue := 0 }, { name := "columns", type := .int, accessFlags := 18, slot := 1, constantValue := 0 }, { name := "MAX_SQUARES", type := .int, accessFlags := 25, slot := 0, constantValue := 0 }]
  methods := #[k3m0, k3m1, k3m2, k3m3]
  instanceTypes := #[.int, .int]
  staticTypes := #[.int]
  resolved := Array.replicate 146 none
  statics := none }

def pool4 : Array CpInfo := pool [(1, .methodref 2 3), (0, .class_ 4), (0, .nameAndType 5 6), (0, u "java/lang/Object"), (0, u "<init>"), (0, u "()V"), (0, .fieldref 8 9), (0, .class_ 10), (0, .nameAndType 11 12), (0, u "com/example/hoofprint/hoofprint/service/TourLinks"), (0, u "board"), (0, u "Lcom/example/hoofprint/hoofprint/model/Board;"), (0, .methodref 14 15), (0, .class_ 16), (0, .nameAndType 17 18), (0, u "com/example/hoofprint/hoofprint/model/Board"), (0, u "squares"), (0, u "()I"), (0, .fieldref 8 20), (0, .nameAndType 21 22), (0, u "links"), (0, u "[B"), (0, .methodref 24 25), (0, .class_ 26), (0, .nameAndType 27 28), (0, u "com/example/hoofprint/hoofprint/model/KnightMove"), (0, u "indexSteps"), (0, u "(Lcom/example/hoofprint/hoofprint/model/Board;)[I"), (0, .fieldref 8 30), (0, .nameAndType 31 32), (0, u "indexStep"), (0, u "[I"), (0, .fieldref 8 34), (0, .nameAndType 35 36), (0, u "NO_MOVE"), (0, u "I"), (0, .methodref 38 39), (0, .class_ 40), (0, .nameAndType 41 42), (0, u "java/util/Arrays"), (0, u "fill"), (0, u "([BB)V"), (7, u "(Lcom/example/hoofprint/hoofprint/model/Board;)V"), (15, u "(II)I"), (2, u "index"), (1, .methodref 14 72), (0, .nameAndType 73 18), (0, u "columns"), (15, .class_ 90), (0, u "com/example/hoofprint/hoofprint/service/TourLinks$1")] 100

def k4c0 : Code := { maxStack := 3, maxLocals := 2, code := prog_55_method_1_code, exceptionTable := #[], attributes := #[] }
def k4m0 : Method := { name := "<init>", desc := "(Lcom/example/hoofprint/hoofprint/model/Board;)V", sig := { parameters := [(.object "com/example/hoofprint/hoofprint/model/Board")], returnType := none }, accessFlags := 0, code := some k4c0 }
def k4c1 : Code := { maxStack := 2, maxLocals := 3, code := prog_55_method_7_code, exceptionTable := #[], attributes := #[] }
def k4m1 : Method := { name := "index", desc := "(II)I", sig := { parameters := [.int, .int], returnType := some .int }, accessFlags := 0, code := some k4c1 }
/-- com/example/hoofprint/hoofprint/service/TourLinks -/
def k4 : Class := { plain "com/example/hoofprint/hoofprint/service/TourLinks" (some 0) with
  accessFlags := 48
  interfaces := #[]
  cf := some (fileOf pool4 8 #[.nestMembers #[89]] #[{ accessFlags := 0, nameIndex := 5, descriptorIndex := 50, attributes := #[] }, { accessFlags := 0, nameIndex := 69, descriptorIndex := 66, attributes := #[] }] 48 2 #[] #[{ accessFlags := 24, nameIndex := 35, descriptorIndex := 36, attributes := #[] }, { accessFlags := 18, nameIndex := 11, descriptorIndex := 12, attributes := #[] }, { accessFlags := 18, nameIndex := 21, descriptorIndex := 22, attributes := #[] }, { accessFlags := 18, nameIndex := 31, descriptorIndex := 32, attributes := #[] }])
  fields := #[{ name := "NO_MOVE", type := .int, accessFlags := 24, slot := 0, constantValue := 0 }, { name := "board", type := (.object "com/example/hoofprint/hoofprint/model/Board"), accessFlags := 18, slot := 0, constantValue := 0 }, { name := "links", type := (.array .byte), accessFlags := 18, slot := 1, constantValue := 0 }, { name := "indexStep", type := (.array .int), accessFlags := 18, slot := 2, constantValue := 0 }]
  methods := #[k4m0, k4m1]
  instanceTypes := #[(.object "com/example/hoofprint/hoofprint/model/Board"), (.array .byte), (.array .int)]
  staticTypes := #[.int]
  resolved := Array.replicate 191 none
  statics := some 0 }

def pool5 : Array CpInfo := pool [(1, .class_ 2), (0, u "java/lang/constant/Constable"), (0, .class_ 4), (0, u "java/lang/Object")] 6

/-- java/lang/constant/Constable -/
def k5 : Class := { plain "java/lang/constant/Constable" (some 0) with
  accessFlags := 1537
  interfaces := #[]
  cf := some (fileOf pool5 1 #[] #[] 1537 3 #[] #[])
  fields := #[]
  methods := #[]
  instanceTypes := #[]
  staticTypes := #[]
  resolved := Array.replicate 11 none
  statics := none }

def pool6 : Array CpInfo := pool [(1, .class_ 2), (0, u "java/lang/Comparable"), (0, .class_ 4), (0, u "java/lang/Object")] 7

/-- java/lang/Comparable -/
def k6 : Class := { plain "java/lang/Comparable" (some 0) with
  accessFlags := 1537
  interfaces := #[]
  cf := some (fileOf pool6 1 #[] #[] 1537 3 #[] #[])
  fields := #[]
  methods := #[]
  instanceTypes := #[]
  staticTypes := #[]
  resolved := Array.replicate 12 none
  statics := none }

def pool7 : Array CpInfo := pool [(1, .class_ 2), (0, u "java/io/Serializable"), (0, .class_ 4), (0, u "java/lang/Object")] 2

/-- java/io/Serializable -/
def k7 : Class := { plain "java/io/Serializable" (some 0) with
  accessFlags := 1537
  interfaces := #[]
  cf := some (fileOf pool7 1 #[] #[] 1537 3 #[] #[])
  fields := #[]
  methods := #[]
  instanceTypes := #[]
  staticTypes := #[]
  resolved := Array.replicate 7 none
  statics := none }

def pool8 : Array CpInfo := pool [(2, .class_ 4), (1, u "java/lang/Enum"), (0, u "name"), (0, u "Ljava/lang/String;"), (0, .fieldref 2 8), (0, .nameAndType 9 10), (0, u "ordinal"), (0, u "I"), (1, .class_ 14), (1, u "java/lang/Object"), (4, u "hash"), (86, .class_ 108), (1, u "java/lang/Enum$EnumDesc"), (2, .class_ 112), (0, u "java/lang/constant/Constable"), (0, .class_ 114), (0, u "java/lang/Comparable"), (0, .class_ 116), (0, u "java/io/Serializable"), (9, u "()I")] 77

def k8c0 : Code := { maxStack := 1, maxLocals := 1, code := jdk_37_method_2_code, exceptionTable := #[], attributes := #[] }
def k8m0 : Method := { name := "ordinal", desc := "()I", sig := { parameters := [], returnType := some .int }, accessFlags := 17, code := some k8c0 }
/-- java/lang/Enum -/
def k8 : Class := { plain "java/lang/Enum" (some 0) with
  accessFlags := 1057
  interfaces := #[5, 6, 7]
  cf := some (fileOf pool8 2 #[.nestMembers #[106]] #[{ accessFlags := 17, nameIndex := 9, descriptorIndex := 126, attributes := #[] }] 1057 12 #[111, 113, 115] #[{ accessFlags := 18, nameIndex := 5, descriptorIndex := 6, attributes := #[] }, { accessFlags := 18, nameIndex := 9, descriptorIndex := 10, attributes := #[] }, { accessFlags := 2, nameIndex := 19, descriptorIndex := 10, attributes := #[] }])
  fields := #[{ name := "name", type := (.object "java/lang/String"), accessFlags := 18, slot := 0, constantValue := 0 }, { name := "ordinal", type := .int, accessFlags := 18, slot := 1, constantValue := 0 }, { name := "hash", type := .int, accessFlags := 2, slot := 2, constantValue := 0 }]
  methods := #[k8m0]
  instanceTypes := #[(.object "java/lang/String"), .int, .int]
  staticTypes := #[]
  resolved := Array.replicate 204 none
  statics := none }

def pool9 : Array CpInfo := pool [(1, .class_ 2), (0, u "com/example/hoofprint/hoofprint/model/KnightMove"), (2, u "NNW"), (0, u "Lcom/example/hoofprint/hoofprint/model/KnightMove;"), (2, u "NNE"), (2, u "WNW"), (2, u "ENE"), (2, u "WSW"), (2, u "ESE"), (2, u "SSW"), (2, u "SSE"), (2, u "$VALUES"), (0, u "[Lcom/example/hoofprint/hoofprint/model/KnightMove;"), (6, .class_ 40), (1, u "java/lang/Enum"), (6, .fieldref 1 48), (0, .nameAndType 49 50), (0, u "rows"), (0, u "I"), (0, .fieldref 1 52), (0, .nameAndType 53 50), (0, u "columns"), (14, u "BY_STEP"), (0, u "Ljava/util/List;"), (10, .fieldref 1 81), (0, .nameAndType 82 31), (0, u "NUMBERED"), (0, .methodref 1 84), (0, .nameAndType 85 86), (0, u "number"), (0, u "()I"), (0, .methodref 88 89), (0, .class_ 90), (0, .nameAndType 53 86), (0, u "com/example/hoofprint/hoofprint/model/Board"), (0, .methodref 1 92), (0, .nameAndType 93 86), (0, u "ordinal"), (45, u "REACH"), (12, u "indexSteps"), (0, u "(Lcom/example/hoofprint/hoofprint/model/Board;)[I")] 8

def k9c0 : Code := { maxStack := 4, maxLocals := 6, code := prog_23_method_5_code, exceptionTable := #[], attributes := #[] }
def k9m0 : Method := { name := "indexSteps", desc := "(Lcom/example/hoofprint/hoofprint/model/Board;)[I", sig := { parameters := [(.object "com/example/hoofprint/hoofprint/model/Board")], returnType := some (.array .int) }, accessFlags := 9, code := some k9c0 }
def k9c1 : Code := { maxStack := 1, maxLocals := 1, code := prog_23_method_6_code, exceptionTable := #[], attributes := #[] }
def k9m1 : Method := { name := "number", desc := "()I", sig := { parameters := [], returnType := some .int }, accessFlags := 1, code := some k9c1 }
/-- com/example/hoofprint/hoofprint/model/KnightMove -/
def k9 : Class := { plain "com/example/hoofprint/hoofprint/model/KnightMove" (some 8) with
  accessFlags := 16433
  interfaces := #[]
  cf := some (fileOf pool9 1 #[] #[{ accessFlags := 9, nameIndex := 152, descriptorIndex := 153, attributes := #[] }, { accessFlags := 1, nameIndex := 85, descriptorIndex := 86, attributes := #[] }] 16433 38 #[] #[{ accessFlags := 16409, nameIndex := 5, descriptorIndex := 6, attributes := #[] }, { accessFlags := 16409, nameIndex := 9, descriptorIndex := 6, attributes := #[] }, { accessFlags := 16409, nameIndex := 12, descriptorIndex := 6, attributes := #[] }, { accessFlags := 16409, nameIndex := 15, descriptorIndex := 6, attributes := #[] }, { accessFlags := 16409, nameIndex := 18, descriptorIndex := 6, attributes := #[] }, { accessFlags := 16409, nameIndex := 21, descriptorIndex := 6, attributes := #[] }, { accessFlags := 16409, nameIndex := 24, descriptorIndex := 6, attributes := #[] }, { accessFlags := 16409, nameIndex := 27, descriptorIndex := 6, attributes := #[] }, { accessFlags := 26, nameIndex := 82, descriptorIndex := 31, attributes := #[] }, { accessFlags := 26, nameIndex := 139, descriptorIndex := 50, attributes := #[] }, { accessFlags := 26, nameIndex := 68, descriptorIndex := 69, attributes := #[] }, { accessFlags := 18, nameIndex := 49, descriptorIndex := 50, attributes := #[] }, { accessFlags := 18, nameIndex := 53, descriptorIndex := 50, attributes := #[] }, { accessFlags := 4122, nameIndex := 30, descriptorIndex := 31, attributes := #[] }])
  fields := #[{ name := "NNW", type := (.object "com/example/hoofprint/hoofprint/model/KnightMove"), accessFlags := 16409, slot := 0, constantValue := 0 }, { name := "NNE", type := (.object "com/example/hoofprint/hoofprint/model/KnightMove"), accessFlags := 16409, slot := 1, constantValue := 0 }, { name := "WNW", type := (.object "com/example/hoofprint/hoofprint/model/KnightMove"), accessFlags := 16409, slot := 2, constantValue := 0 }, { name := "ENE", type := (.object "com/example/hoofprint/hoofprint/model/KnightMove"), accessFlags := 16409, slot := 3, constantValue := 0 }, { name := "WSW", type := (.object "com/example/hoofprint/hoofprint/model/KnightMove"), accessFlags := 16409, slot := 4, constantValue := 0 }, { name := "ESE", type := (.object "com/example/hoofprint/hoofprint/model/KnightMove"), accessFlags := 16409, slot := 5, constantValue := 0 }, { name := "SSW", type := (.object "com/example/hoofprint/hoofprint/model/KnightMove"), accessFlags := 16409, slot := 6, constantValue := 0 }, { name := "SSE", type := (.object "com/example/hoofprint/hoofprint/model/KnightMove"), accessFlags := 16409, slot := 7, constantValue := 0 }, { name := "NUMBERED", type := (.array (.object "com/example/hoofprint/hoofprint/model/KnightMove")), accessFlags := 26, slot := 8, constantValue := 0 }, { name := "REACH", type := .int, accessFlags := 26, slot := 9, constantValue := 0 }, { name := "BY_STEP", type := (.object "java/util/List"), accessFlags := 26, slot := 10, constantValue := 0 }, { name := "rows", type := .int, accessFlags := 18, slot := 3, constantValue := 0 }, { name := "columns", type := .int, accessFlags := 18, slot := 4, constantValue := 0 }, { name := "$VALUES", type := (.array (.object "com/example/hoofprint/hoofprint/model/KnightMove")), accessFlags := 4122, slot := 11, constantValue := 0 }]
  methods := #[k9m0, k9m1]
  instanceTypes := #[(.object "java/lang/String"), .int, .int, .int, .int]
  staticTypes := #[(.object "com/example/hoofprint/hoofprint/model/KnightMove"), (.object "com/example/hoofprint/hoofprint/model/KnightMove"), (.object "com/example/hoofprint/hoofprint/model/KnightMove"), (.object "com/example/hoofprint/hoofprint/model/KnightMove"), (.object "com/example/hoofprint/hoofprint/model/KnightMove"), (.object "com/example/hoofprint/hoofprint/model/KnightMove"), (.object "com/example/hoofprint/hoofprint/model/KnightMove"), (.object "com/example/hoofprint/hoofprint/model/KnightMove"), (.array (.object "com/example/hoofprint/hoofprint/model/KnightMove")), .int, (.object "java/util/List"), (.array (.object "com/example/hoofprint/hoofprint/model/KnightMove"))]
  resolved := Array.replicate 162 none
  statics := some 1 }

def pool10 : Array CpInfo := pool [(2, .class_ 4), (1, u "java/lang/Object"), (0, u "<init>"), (0, u "()V"), (7, .class_ 16), (1, u "java/util/Arrays"), (57, .class_ 76), (1, u "java/util/Arrays$NaturalOrder"), (36, .class_ 115), (1, u "java/util/Arrays$LegacyMergeSort"), (1, u "Z"), (257, .class_ 376), (0, u "java/util/Arrays$ArrayList"), (68, u "$assertionsDisabled"), (269, u "MIN_ARRAY_SORT_GRAN"), (0, u "I"), (2, u "INSERTIONSORT_THRESHOLD"), (120, u "fill"), (9, u "([BB)V"), (124, .class_ 976), (0, u "java/util/Arrays$ArrayItr")] 52

def k10m0 : Method := { name := "<init>", desc := "()V", sig := { parameters := [], returnType := none }, accessFlags := 2, code := none }
def k10c1 : Code := { maxStack := 3, maxLocals := 4, code := jdk_65_method_109_code, exceptionTable := #[], attributes := #[] }
def k10m1 : Method := { name := "fill", desc := "([BB)V", sig := { parameters := [(.array .byte), .byte], returnType := none }, accessFlags := 9, code := some k10c1 }
/-- java/util/Arrays -/
def k10 : Class := { plain "java/util/Arrays" (some 0) with
  accessFlags := 49
  interfaces := #[]
  cf := some (fileOf pool10 14 #[.nestMembers #[975, 375, 113, 74]] #[{ accessFlags := 2, nameIndex := 5, descriptorIndex := 6, attributes := #[] }, { accessFlags := 9, nameIndex := 840, descriptorIndex := 850, attributes := #[] }] 49 2 #[] #[{ accessFlags := 26, nameIndex := 715, descriptorIndex := 716, attributes := #[] }, { accessFlags := 26, nameIndex := 719, descriptorIndex := 716, attributes := #[] }, { accessFlags := 4120, nameIndex := 445, descriptorIndex := 117, attributes := #[] }])
  fields := #[{ name := "MIN_ARRAY_SORT_GRAN", type := .int, accessFlags := 26, slot := 0, constantValue := 0 }, { name := "INSERTIONSORT_THRESHOLD", type := .int, accessFlags := 26, slot := 1, constantValue := 0 }, { name := "$assertionsDisabled", type := .boolean, accessFlags := 4120, slot := 2, constantValue := 0 }]
  methods := #[k10m0, k10m1]
  instanceTypes := #[]
  staticTypes := #[.int, .int, .boolean]
  resolved := Array.replicate 1029 none
  statics := none }

def pool11 : Array CpInfo := pool [(1, .methodref 2 3), (0, .class_ 4), (0, .nameAndType 5 6), (0, u "java/lang/Record"), (0, u "<init>"), (0, u "()V"), (0, .fieldref 8 9), (0, .class_ 10), (0, .nameAndType 11 12), (0, u "com/example/hoofprint/hoofprint/model/Square"), (0, u "row"), (0, u "I"), (0, .fieldref 8 14), (0, .nameAndType 15 12), (0, u "column"), (24, u "(II)V"), (7, u "()I")] 30

def k11c0 : Code := { maxStack := 2, maxLocals := 3, code := prog_24_method_1_code, exceptionTable := #[], attributes := #[] }
def k11m0 : Method := { name := "<init>", desc := "(II)V", sig := { parameters := [.int, .int], returnType := none }, accessFlags := 1, code := some k11c0 }
def k11c1 : Code := { maxStack := 1, maxLocals := 1, code := prog_24_method_6_code, exceptionTable := #[], attributes := #[] }
def k11m1 : Method := { name := "row", desc := "()I", sig := { parameters := [], returnType := some .int }, accessFlags := 1, code := some k11c1 }
def k11c2 : Code := { maxStack := 1, maxLocals := 1, code := prog_24_method_7_code, exceptionTable := #[], attributes := #[] }
def k11m2 : Method := { name := "column", desc := "()I", sig := { parameters := [], returnType := some .int }, accessFlags := 1, code := some k11c2 }
/-- com/example/hoofprint/hoofprint/model/Square -/
def k11 : Class := { plain "com/example/hoofprint/hoofprint/model/Square" (some 2) with
  accessFlags := 49
  interfaces := #[]
  cf := some (fileOf pool11 8 #[] #[{ accessFlags := 1, nameIndex := 5, descriptorIndex := 40, attributes := #[] }, { accessFlags := 1, nameIndex := 11, descriptorIndex := 48, attributes := #[] }, { accessFlags := 1, nameIndex := 15, descriptorIndex := 48, attributes := #[] }] 49 2 #[] #[{ accessFlags := 18, nameIndex := 11, descriptorIndex := 12, attributes := #[] }, { accessFlags := 18, nameIndex := 15, descriptorIndex := 12, attributes := #[] }])
  fields := #[{ name := "row", type := .int, accessFlags := 18, slot := 0, constantValue := 0 }, { name := "column", type := .int, accessFlags := 18, slot := 1, constantValue := 0 }]
  methods := #[k11m0, k11m1, k11m2]
  instanceTypes := #[.int, .int]
  staticTypes := #[]
  resolved := Array.replicate 79 none
  statics := none }

def pool12 : Array CpInfo := pool [(1, u "java/lang/Cloneable"), (0, .class_ 1), (0, u "java/lang/Object"), (0, .class_ 3)] 3

/-- java/lang/Cloneable -/
def k12 : Class := { plain "java/lang/Cloneable" (some 0) with
  accessFlags := 1537
  interfaces := #[]
  cf := some (fileOf pool12 2 #[] #[] 1537 4 #[] #[])
  fields := #[]
  methods := #[]
  instanceTypes := #[]
  staticTypes := #[]
  resolved := Array.replicate 8 none
  statics := none }

/-- the primitive byte -/
def k13 : Class := { plain "byte" none with kind := .primitive 'B', accessFlags := 0x411 }
/-- [B -/
def k14 : Class := { plain "[B" (some 0) with kind := .array 13 .byte, interfaces := #[12, 7], accessFlags := 1041 }

/-- the primitive int -/
def k15 : Class := { plain "int" none with kind := .primitive 'I', accessFlags := 0x411 }
/-- [I -/
def k16 : Class := { plain "[I" (some 0) with kind := .array 15 .int, interfaces := #[12, 7], accessFlags := 1041 }

/-- [Lcom/example/hoofprint/hoofprint/model/KnightMove; -/
def k17 : Class := { plain "[Lcom/example/hoofprint/hoofprint/model/KnightMove;" (some 0) with kind := .array 9 (.object "com/example/hoofprint/hoofprint/model/KnightMove"), interfaces := #[12, 7], accessFlags := 1041 }

def heap : Heap := #[{ cls := 4, slots := #[.int 8], vm := .statics 4 },
  { cls := 9, slots := #[.ref 3, .ref 4, .ref 5, .ref 6, .ref 7, .ref 8, .ref 9, .ref 10, .ref 2, .int 0, .null, .null], vm := .statics 9 },
  { cls := 17, slots := #[.ref 3, .ref 4, .ref 5, .ref 6, .ref 7, .ref 8, .ref 9, .ref 10], vm := .none },
  { cls := 9, slots := #[.null, .int 0, .int 0, .int (-2), .int (-1)], vm := .none },
  { cls := 9, slots := #[.null, .int 1, .int 0, .int (-2), .int 1], vm := .none },
  { cls := 9, slots := #[.null, .int 2, .int 0, .int (-1), .int (-2)], vm := .none },
  { cls := 9, slots := #[.null, .int 3, .int 0, .int (-1), .int 2], vm := .none },
  { cls := 9, slots := #[.null, .int 4, .int 0, .int 1, .int (-2)], vm := .none },
  { cls := 9, slots := #[.null, .int 5, .int 0, .int 1, .int 2], vm := .none },
  { cls := 9, slots := #[.null, .int 6, .int 0, .int 2, .int (-1)], vm := .none },
  { cls := 9, slots := #[.null, .int 7, .int 0, .int 2, .int 1], vm := .none }]
def classes : Array Class := #[k0, k1, k2, k3, k4, k5, k6, k7, k8, k9, k10, k11, k12, k13, k14, k15, k16, k17]
def interned : List (Array UInt16 × Addr) := []
def slotsUsed : Nat := 61
def theMethod : MethodId := ⟨1, 1⟩
def args0 : Array Value := #[.int 5, .int 6, .int 7, .int 8]
def aboutOver (below : List Frame) : State where
  vm := { classes := classes, interned := interned.toArray }
  heap := heap
  slotsUsed := slotsUsed
  threads := #[{ frames := .invoking theMethod args0 :: below }]
def below0 : List Frame := [.native { method := ⟨0, 0⟩, args := #[] }]
def about1 : State := aboutOver below0
def p0 : Program := .bare "" "" ""
def e0 : Env := launch0.env 0 0 0
theorem w_frames : about1.frames = Frame.invoking theMethod args0 :: below0 := rfl
set_option maxRecDepth 65536 in
theorem w_args : argsFit about1.vm theMethod args0 = true := by decide +kernel
set_option maxRecDepth 65536 in
theorem w_heap : heapFits about1 = true := by decide +kernel
set_option maxRecDepth 65536 in
theorem w_runnable : about1.curStatus? = some .runnable := by decide +kernel
set_option maxRecDepth 65536 in
theorem w_alone : about1.alone = true := by decide +kernel
set_option maxRecDepth 65536 in
theorem w_named : about1.methodNamed? x = some theMethod := by decide +kernel
set_option maxRecDepth 65536 in
theorem w_hears : about1.hears theMethod below0 = true := by decide +kernel
set_option maxRecDepth 65536 in
theorem w_ripe : about1.ripe theMethod args0 below0 = true := by decide +kernel
theorem w_running : about1.status = .running := rfl
set_option maxRecDepth 65536 in
theorem w_room : about1.hasRoom e0.platform room_1 = true :=
  launch0.hasRoom_least _ room_1 (by decide +kernel) (by decide +kernel) (by decide +kernel) (by decide +kernel) (by decide +kernel) (by decide +kernel)
theorem allAtoms_all (ts : List Jvm.Cond) (a : Array Jvm.Value) (st : Jvm.State) : (allAtoms ts).before a st = ts.all (fun c => c.before a st) := by
  induction ts with
  | nil => rfl
  | cons c t ih =>
    show (Jvm.Cond.and c (allAtoms t)).before a st = _
    rw [Jvm.Cond.before_and, ih, List.all_cons]
def words1 : List Jvm.Cond := Jvm.Cond.code x code maxLocals ret :: tables_1
/-- a 'code' word, met by the world's own term for the bytes: nothing is compared byte by byte -/
theorem code_word {y : MethodName} {bytes : ByteArray} {mx : Nat} {rt : Option FieldType} {a : Array Value} {s : State} {m : MethodId} {meth : Method} {c : Code} (h1 : s.methodNamed? y = some m) (h2 : s.vm.method? m = some meth) (h3 : meth.code = some c) (h4 : c.code = bytes)
    (h5 : (c.maxLocals == mx && c.exceptionTable.isEmpty && decide (c.maxStack ≤ mostOperands) && decide (meth.sig.returnType = rt) && !meth.locks && decide (parseMethodDescriptor y.desc = some meth.sig)) = true) : (Jvm.Cond.code y bytes mx rt).before a s = true := by
  simp only [Bool.and_eq_true, beq_iff_eq, Bool.not_eq_true', decide_eq_true_eq] at h5
  obtain ⟨⟨⟨⟨⟨g1, g2⟩, g3⟩, g4⟩, g5⟩, g6⟩ := h5
  simp [Cond.before, Cond.holds, Cond.value, h1, h2, h3, h4, g1, g2, g3, g4, g5, g6]
def isCode : Jvm.Cond → Bool
  | .code _ _ _ _ => true
  | _ => false
theorem all_split {L : List Jvm.Cond} {P : Jvm.Cond → Bool} (h1 : L.all (fun c => isCode c || P c) = true) (h2 : ∀ c ∈ L.filter isCode, P c = true) : L.all P = true := by
  refine List.all_eq_true.mpr fun c hc => ?_
  have h := List.all_eq_true.mp h1 c hc
  rcases Bool.eq_false_or_eq_true (isCode c) with hi | hi
  · exact h2 c (List.mem_filter.mpr ⟨hc, hi⟩)
  · simpa [hi] using h
set_option maxRecDepth 65536 in
theorem w_c0 : (Jvm.Cond.code x code maxLocals ret).before args0 about1 = true := code_word (m := ⟨1, 1⟩) (meth := k1m1) (c := k1c1) (by decide +kernel) rfl rfl rfl (by decide +kernel)
set_option maxRecDepth 65536 in
theorem w_c1 : (Jvm.Cond.code ({ cls := "com/example/hoofprint/hoofprint/model/Board", name := "<init>", desc := "(II)V" } : Jvm.MethodName) prog_21_method_1_code (3 : Nat) (Option.none : Option Jvm.ClassFile.FieldType)).before args0 about1 = true := code_word (m := ⟨3, 0⟩) (meth := k3m0) (c := k3c0) (by decide +kernel) rfl rfl rfl (by decide +kernel)
set_option maxRecDepth 65536 in
theorem w_c2 : (Jvm.Cond.code ({ cls := "java/lang/Record", name := "<init>", desc := "()V" } : Jvm.MethodName) jdk_30_method_1_code (1 : Nat) (Option.none : Option Jvm.ClassFile.FieldType)).before args0 about1 = true := code_word (m := ⟨2, 0⟩) (meth := k2m0) (c := k2c0) (by decide +kernel) rfl rfl rfl (by decide +kernel)
set_option maxRecDepth 65536 in
theorem w_c3 : (Jvm.Cond.code ({ cls := "java/lang/Object", name := "<init>", desc := "()V" } : Jvm.MethodName) object_method_1_code (1 : Nat) (Option.none : Option Jvm.ClassFile.FieldType)).before args0 about1 = true := code_word (m := ⟨0, 0⟩) (meth := k0m0) (c := k0c0) (by decide +kernel) rfl rfl rfl (by decide +kernel)
set_option maxRecDepth 65536 in
theorem w_c4 : (Jvm.Cond.code ({ cls := "com/example/hoofprint/hoofprint/service/TourLinks", name := "<init>", desc := "(Lcom/example/hoofprint/hoofprint/model/Board;)V" } : Jvm.MethodName) prog_55_method_1_code (2 : Nat) (Option.none : Option Jvm.ClassFile.FieldType)).before args0 about1 = true := code_word (m := ⟨4, 0⟩) (meth := k4m0) (c := k4c0) (by decide +kernel) rfl rfl rfl (by decide +kernel)
set_option maxRecDepth 65536 in
theorem w_c5 : (Jvm.Cond.code ({ cls := "com/example/hoofprint/hoofprint/model/Board", name := "squares", desc := "()I" } : Jvm.MethodName) prog_21_method_2_code (1 : Nat) (Option.some Jvm.ClassFile.FieldType.int)).before args0 about1 = true := code_word (m := ⟨3, 1⟩) (meth := k3m1) (c := k3c1) (by decide +kernel) rfl rfl rfl (by decide +kernel)
set_option maxRecDepth 65536 in
theorem w_c6 : (Jvm.Cond.code ({ cls := "com/example/hoofprint/hoofprint/model/KnightMove", name := "indexSteps", desc := "(Lcom/example/hoofprint/hoofprint/model/Board;)[I" } : Jvm.MethodName) prog_23_method_5_code (6 : Nat) (Option.some (Jvm.ClassFile.FieldType.array Jvm.ClassFile.FieldType.int))).before args0 about1 = true := code_word (m := ⟨9, 0⟩) (meth := k9m0) (c := k9c0) (by decide +kernel) rfl rfl rfl (by decide +kernel)
set_option maxRecDepth 65536 in
theorem w_c7 : (Jvm.Cond.code ({ cls := "com/example/hoofprint/hoofprint/model/KnightMove", name := "number", desc := "()I" } : Jvm.MethodName) prog_23_method_6_code (1 : Nat) (Option.some Jvm.ClassFile.FieldType.int)).before args0 about1 = true := code_word (m := ⟨9, 1⟩) (meth := k9m1) (c := k9c1) (by decide +kernel) rfl rfl rfl (by decide +kernel)
set_option maxRecDepth 65536 in
theorem w_c8 : (Jvm.Cond.code ({ cls := "java/lang/Enum", name := "ordinal", desc := "()I" } : Jvm.MethodName) jdk_37_method_2_code (1 : Nat) (Option.some Jvm.ClassFile.FieldType.int)).before args0 about1 = true := code_word (m := ⟨8, 0⟩) (meth := k8m0) (c := k8c0) (by decide +kernel) rfl rfl rfl (by decide +kernel)
set_option maxRecDepth 65536 in
theorem w_c9 : (Jvm.Cond.code ({ cls := "com/example/hoofprint/hoofprint/model/Board", name := "columns", desc := "()I" } : Jvm.MethodName) prog_21_method_10_code (1 : Nat) (Option.some Jvm.ClassFile.FieldType.int)).before args0 about1 = true := code_word (m := ⟨3, 3⟩) (meth := k3m3) (c := k3c3) (by decide +kernel) rfl rfl rfl (by decide +kernel)
set_option maxRecDepth 65536 in
theorem w_c10 : (Jvm.Cond.code ({ cls := "java/util/Arrays", name := "fill", desc := "([BB)V" } : Jvm.MethodName) jdk_65_method_109_code (4 : Nat) (Option.none : Option Jvm.ClassFile.FieldType)).before args0 about1 = true := code_word (m := ⟨10, 1⟩) (meth := k10m1) (c := k10c1) (by decide +kernel) rfl rfl rfl (by decide +kernel)
set_option maxRecDepth 65536 in
theorem w_c11 : (Jvm.Cond.code ({ cls := "com/example/hoofprint/hoofprint/service/TourLinks", name := "index", desc := "(II)I" } : Jvm.MethodName) prog_55_method_7_code (3 : Nat) (Option.some Jvm.ClassFile.FieldType.int)).before args0 about1 = true := code_word (m := ⟨4, 1⟩) (meth := k4m1) (c := k4c1) (by decide +kernel) rfl rfl rfl (by decide +kernel)
set_option maxRecDepth 65536 in
theorem w_c12 : (Jvm.Cond.code ({ cls := "com/example/hoofprint/hoofprint/model/Board", name := "square", desc := "(I)Lcom/example/hoofprint/hoofprint/model/Square;" } : Jvm.MethodName) prog_21_method_3_code (2 : Nat) (Option.some (Jvm.ClassFile.FieldType.object "com/example/hoofprint/hoofprint/model/Square"))).before args0 about1 = true := code_word (m := ⟨3, 2⟩) (meth := k3m2) (c := k3c2) (by decide +kernel) rfl rfl rfl (by decide +kernel)
set_option maxRecDepth 65536 in
theorem w_c13 : (Jvm.Cond.code ({ cls := "com/example/hoofprint/hoofprint/model/Square", name := "<init>", desc := "(II)V" } : Jvm.MethodName) prog_24_method_1_code (3 : Nat) (Option.none : Option Jvm.ClassFile.FieldType)).before args0 about1 = true := code_word (m := ⟨11, 0⟩) (meth := k11m0) (c := k11c0) (by decide +kernel) rfl rfl rfl (by decide +kernel)
set_option maxRecDepth 65536 in
theorem w_c14 : (Jvm.Cond.code ({ cls := "com/example/hoofprint/hoofprint/model/Square", name := "row", desc := "()I" } : Jvm.MethodName) prog_24_method_6_code (1 : Nat) (Option.some Jvm.ClassFile.FieldType.int)).before args0 about1 = true := code_word (m := ⟨11, 1⟩) (meth := k11m1) (c := k11c1) (by decide +kernel) rfl rfl rfl (by decide +kernel)
set_option maxRecDepth 65536 in
theorem w_c15 : (Jvm.Cond.code ({ cls := "com/example/hoofprint/hoofprint/model/Square", name := "column", desc := "()I" } : Jvm.MethodName) prog_24_method_7_code (1 : Nat) (Option.some Jvm.ClassFile.FieldType.int)).before args0 about1 = true := code_word (m := ⟨11, 2⟩) (meth := k11m2) (c := k11c2) (by decide +kernel) rfl rfl rfl (by decide +kernel)
def codes1 : List Jvm.Cond := [Jvm.Cond.code x code maxLocals ret, Jvm.Cond.code ({ cls := "com/example/hoofprint/hoofprint/model/Board", name := "<init>", desc := "(II)V" } : Jvm.MethodName) prog_21_method_1_code (3 : Nat) (Option.none : Option Jvm.ClassFile.FieldType), Jvm.Cond.code ({ cls := "java/lang/Record", name := "<init>", desc := "()V" } : Jvm.MethodName) jdk_30_method_1_code (1 : Nat) (Option.none : Option Jvm.ClassFile.FieldType), Jvm.Cond.code ({ cls := "java/lang/Object", name := "<init>", desc := "()V" } : Jvm.MethodName) object_method_1_code (1 : Nat) (Option.none : Option Jvm.ClassFile.FieldType), Jvm.Cond.code ({ cls := "com/example/hoofprint/hoofprint/service/TourLinks", name := "<init>", desc := "(Lcom/example/hoofprint/hoofprint/model/Board;)V" } : Jvm.MethodName) prog_55_method_1_code (2 : Nat) (Option.none : Option Jvm.ClassFile.FieldType), Jvm.Cond.code ({ cls := "com/example/hoofprint/hoofprint/model/Board", name := "squares", desc := "()I" } : Jvm.MethodName) prog_21_method_2_code (1 : Nat) (Option.some Jvm.ClassFile.FieldType.int), Jvm.Cond.code ({ cls := "com/example/hoofprint/hoofprint/model/KnightMove", name := "indexSteps", desc := "(Lcom/example/hoofprint/hoofprint/model/Board;)[I" } : Jvm.MethodName) prog_23_method_5_code (6 : Nat) (Option.some (Jvm.ClassFile.FieldType.array Jvm.ClassFile.FieldType.int)), Jvm.Cond.code ({ cls := "com/example/hoofprint/hoofprint/model/KnightMove", name := "number", desc := "()I" } : Jvm.MethodName) prog_23_method_6_code (1 : Nat) (Option.some Jvm.ClassFile.FieldType.int), Jvm.Cond.code ({ cls := "java/lang/Enum", name := "ordinal", desc := "()I" } : Jvm.MethodName) jdk_37_method_2_code (1 : Nat) (Option.some Jvm.ClassFile.FieldType.int), Jvm.Cond.code ({ cls := "com/example/hoofprint/hoofprint/model/Board", name := "columns", desc := "()I" } : Jvm.MethodName) prog_21_method_10_code (1 : Nat) (Option.some Jvm.ClassFile.FieldType.int), Jvm.Cond.code ({ cls := "java/util/Arrays", name := "fill", desc := "([BB)V" } : Jvm.MethodName) jdk_65_method_109_code (4 : Nat) (Option.none : Option Jvm.ClassFile.FieldType), Jvm.Cond.code ({ cls := "com/example/hoofprint/hoofprint/service/TourLinks", name := "index", desc := "(II)I" } : Jvm.MethodName) prog_55_method_7_code (3 : Nat) (Option.some Jvm.ClassFile.FieldType.int), Jvm.Cond.code ({ cls := "com/example/hoofprint/hoofprint/model/Board", name := "square", desc := "(I)Lcom/example/hoofprint/hoofprint/model/Square;" } : Jvm.MethodName) prog_21_method_3_code (2 : Nat) (Option.some (Jvm.ClassFile.FieldType.object "com/example/hoofprint/hoofprint/model/Square")), Jvm.Cond.code ({ cls := "com/example/hoofprint/hoofprint/model/Square", name := "<init>", desc := "(II)V" } : Jvm.MethodName) prog_24_method_1_code (3 : Nat) (Option.none : Option Jvm.ClassFile.FieldType), Jvm.Cond.code ({ cls := "com/example/hoofprint/hoofprint/model/Square", name := "row", desc := "()I" } : Jvm.MethodName) prog_24_method_6_code (1 : Nat) (Option.some Jvm.ClassFile.FieldType.int), Jvm.Cond.code ({ cls := "com/example/hoofprint/hoofprint/model/Square", name := "column", desc := "()I" } : Jvm.MethodName) prog_24_method_7_code (1 : Nat) (Option.some Jvm.ClassFile.FieldType.int)]
set_option maxRecDepth 65536 in
theorem codes_eq : words1.filter isCode = codes1 := rfl
theorem w_codes : ∀ c ∈ words1.filter isCode, c.before args0 about1 = true := by
  rw [codes_eq]
  intro c hc
  simp only [codes1, List.mem_cons, List.not_mem_nil, or_false] at hc
  rcases hc with rfl | rfl | rfl | rfl | rfl | rfl | rfl | rfl | rfl | rfl | rfl | rfl | rfl | rfl | rfl | rfl
  · exact w_c0
  · exact w_c1
  · exact w_c2
  · exact w_c3
  · exact w_c4
  · exact w_c5
  · exact w_c6
  · exact w_c7
  · exact w_c8
  · exact w_c9
  · exact w_c10
  · exact w_c11
  · exact w_c12
  · exact w_c13
  · exact w_c14
  · exact w_c15
set_option maxRecDepth 65536 in
theorem w_t1 : (words1.take 24).all (fun c => isCode c || c.before args0 about1) = true := by decide +kernel
set_option maxRecDepth 65536 in
theorem w_t2 : ((words1.drop 24).take 24).all (fun c => isCode c || c.before args0 about1) = true := by decide +kernel
set_option maxRecDepth 65536 in
theorem w_t3 : (((words1.drop 24).drop 24).take 24).all (fun c => isCode c || c.before args0 about1) = true := by decide +kernel
set_option maxRecDepth 65536 in
theorem w_t4 : ((((words1.drop 24).drop 24).drop 24).take 24).all (fun c => isCode c || c.before args0 about1) = true := by decide +kernel
set_option maxRecDepth 65536 in
theorem w_t5 : ((((words1.drop 24).drop 24).drop 24).drop 24).all (fun c => isCode c || c.before args0 about1) = true := by decide +kernel
theorem w_tables : (allAtoms (Jvm.Cond.code x code maxLocals ret :: tables_1)).before args0 about1 = true := by
  rw [allAtoms_all]
  show words1.all (fun c => c.before args0 about1) = true
  refine all_split ?_ w_codes
  rw [← List.take_append_drop 24 words1, List.all_append, w_t1, ← List.take_append_drop 24 (words1.drop 24), List.all_append, w_t2, ← List.take_append_drop 24 ((words1.drop 24).drop 24), List.all_append, w_t3, ← List.take_append_drop 24 (((words1.drop 24).drop 24).drop 24), List.all_append, w_t4, w_t5]
  rfl
set_option maxRecDepth 65536 in
theorem w_case : (Jvm.Cond.and given_1 narrow_1).before args0 about1 = true := by decide +kernel
theorem w_applies : (headSpec (Jvm.Cond.code x code maxLocals ret :: tables_1) room_1).applies x e0.platform about1 = true :=
  (Spec.applies_iff w_frames).mpr ⟨w_running, w_runnable, w_alone, w_named, w_hears, w_ripe, w_room, w_tables⟩
theorem atStart : AtStart classFile x code maxLocals ret World_1 tables_1 room_1 Calls_1 rest_1 Pre_1 launch0 p0 e0 about1 theMethod args0 below0 :=
  ⟨lists_1, trivial, launch0.admits_env _ _ _, launch0.least_env, fairChoices_fair.cas, fairChoices_fair.clock, w_frames, w_args, w_heap, w_applies, trivial, trivial, w_case⟩
end start1
theorem witness_1 : WitnessClaimed_1 := ⟨start1.p0, start1.e0, start1.about1, start1.theMethod, start1.args0, start1.below0, start1.atStart⟩
end Jvm.Pilot.@@N@@
