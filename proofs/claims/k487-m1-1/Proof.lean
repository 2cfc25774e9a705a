import JvmDerived
import JvmDerived.Pilot.@@N@@Statement
import JvmDerived.Pilot.@@N@@Code
set_option linter.unusedVariables false
set_option linter.unusedSimpArgs false
namespace Jvm.RoadKit
open Sem ClassFile Op Lib Jvm.Stand Jvm.Free Jvm.LawKit
section New
variable {p : Program} {l : Launch} {e : Env} {R : Room} {s : State} {m : MethodId} {args : Array Value} {below : List Frame} {meth : Method} {c : Code} {T : State} {locs : List Loc} {cells slots : Nat}
theorem retI (X : Stand p l e R s m args below meth c T locs cells slots) (hx : p.tables.exec = Jvm.exec) {pc : Nat} {Ls : Array Slot} {z : Int32} {rest : List Value} (hret : meth.sig.returnType = some .int) (hd : decode c.code pc = .ok (.ireturn, 1)) {fs : List Frame}
    (hl : ∀ (f : JFrame) (acts : List Action), f.method = m → f.locked = none → f.entered = [] → (doReturn e (T.setTop f) acts (some (.int z))).1 = T.setFrames fs) : Steps p.tables e below (T.setTop (mkF m pc Ls (.int z :: rest))) (T.setFrames fs) := by
  have hm' : T.vm.method? m = some meth := X.method'
  have hn : narrow .int (.int z) = .int z := rfl
  show Steps p.tables e below (T.setTop { method := m, pc := pc, locals := Ls, stack := _ :: rest, locked := none }) _
  jvm_step X.here [X.here.top, hx, hd, hm', hret, hn]
  first | (intro acts; rw [hl _ acts rfl rfl rfl]) | rw [hl _ _ rfl rfl rfl]
  exact Steps.refl _
end New
end Jvm.RoadKit
namespace Jvm.Pilot.@@N@@
open Jvm Jvm.ClassFile Sem Op Lib Jvm.Free Jvm.Stand Jvm.LawKit Jvm.RoadKit Bundle Jvm.Pilot.@@N@@.Jvm.D
theorem own_fldI {s : State} {args : Array Value} {t : Term} {x : Addr} {C n d : String} {k : Int32} (ev : t.eval args s none [] s = some (.ref x)) (h : (Cond.eq (.field t C n d) (.int k)).value args s none s [] = some true) : Fld s s.heap x C n d (.int k) := by
  refine Fld.start ?_
  have e := fld_at (C := C) (n := n) (dd := d) ev
  cases hq : s.fieldOf? x C n d with
  | none => rw [hq] at e; simp [Cond.value, e] at h
  | some v =>
    rw [hq] at e
    have e2 : (Term.int k).eval args s none [] s = some (.int k) := rfl
    cases v <;> simp [Cond.value, e, e2] at h
    rw [h]
theorem own_fldN {s : State} {args : Array Value} {t : Term} {x : Addr} {C n d : String} (ev : t.eval args s none [] s = some (.ref x)) (h : (Cond.eq (.field t C n d) .null).value args s none s [] = some true) : Fld s s.heap x C n d .null := by
  refine Fld.start ?_
  rw [← fld_at (C := C) (n := n) (dd := d) ev]
  exact null_v h
theorem own_fldR {s : State} {args : Array Value} {t u : Term} {x y : Addr} {C n d : String} (ev : t.eval args s none [] s = some (.ref x)) (eu : u.eval args s none [] s = some (.ref y)) (h : (Cond.eq (.field t C n d) u).value args s none s [] = some true) : Fld s s.heap x C n d (.ref y) := by
  refine Fld.start ?_
  have e := fld_at (C := C) (n := n) (dd := d) ev
  cases hq : s.fieldOf? x C n d with
  | none => rw [hq] at e; simp [Cond.value, e] at h
  | some v =>
    rw [hq] at e
    cases v <;> simp [Cond.value, e, eu] at h
    rw [h]
theorem own_staI {s : State} {args : Array Value} {C n d : String} {k : Int32} (h : (Cond.eq (.static C n d) (.int k)).value args s none s [] = some true) : (Term.static C n d).eval args s none [] s = some (.int k) := by
  cases hq : (Term.static C n d).eval args s none [] s with
  | none => simp [Cond.value, hq] at h
  | some v =>
    have e2 : (Term.int k).eval args s none [] s = some (.int k) := rfl
    cases v <;> simp [Cond.value, hq, e2] at h
    rw [h]
theorem own_elemR {s : State} {args : Array Value} {t u : Term} {x y : Addr} {cl : Cell} {j : Int32} (ev : t.eval args s none [] s = some (.ref x)) (eu : u.eval args s none [] s = some (.ref y)) (hc : s.heap[x]? = some cl) (h : (Cond.eq (.elem t (.int j)) u).value args s none s [] = some true) : cl.slots[j.toNatClampNeg]? = some (.ref y) := by
  cases hq : (Term.elem t (.int j)).eval args s none [] s with
  | none => simp [Cond.value, hq] at h
  | some v =>
    have e := (elem_in hq ev rfl hc).2
    cases v <;> simp [Cond.value, hq, eu] at h
    rw [e, h]
theorem own_fresh {Z : State} {h : Heap} {a b : Addr} {C n d : String} {v w : Value} (F : Fld Z h a C n d v) (G : Fld Z h b C n d w) (q : v ≠ w) : a ≠ b := F.ne G q
theorem own_sta_keep {Z : State} {h h' : Heap} {C n d : String} {v : Value} {ws : List Addr} (F : Sta Z h C n d v) (K : Keep h h' ws) (q : ∀ x ∈ ws, ∀ c : Cell, h[x]? = some c → c.vm.isStatics = false) : Sta Z h' C n d v := by
  obtain ⟨cf, i, k, f, st, cell, h1, h2, h3, h4, h5, h6, h7⟩ := F
  refine ⟨cf, i, k, f, st, cell, h1, h2, h3, h4, K.2.1 st cell h5 (fun hm => ?_), h6, h7⟩
  rw [q st hm cell h5] at h6; cases h6
theorem own_mono {p : Program} {l : Launch} {e : Env} {R : Room} {s : State} {m : MethodId} {args : Array Value} {below : List Frame} {meth : Method} {c : Code} {T : State} {locs : List Loc} {k j k' j' : Nat} (X : Stand p l e R s m args below meth c T locs k j) (hk : k ≤ k') (hj : j ≤ j') : Stand p l e R s m args below meth c T locs k' j' := { X with same := X.same.mono hk hj }
theorem own_nost {Z : State} {h : Heap} {a : Addr} {C : String} (F : Exa Z h a C) : ∀ c : Cell, h[a]? = some c → c.vm.isStatics = false := fun c hc => by
  obtain ⟨c', _, h1, -, -, h4, -⟩ := F
  cases h1.symm.trans hc; exact h4
theorem own_nostV {Z : State} {h : Heap} {a : Addr} {k : ClassId} {ty : FieldType} {z : Int32} {vs : List Value} {dv : Value} (F : Arv Z h a k ty z vs dv) : ∀ c : Cell, h[a]? = some c → c.vm.isStatics = false := fun c hc => by
  obtain ⟨c', A, -⟩ := F
  cases A.1.symm.trans hc; exact A.plain
theorem d0_0 : decode prog_29_method_1_code 0 = .ok (.aload_n 0, 1) := by decide +kernel
theorem d0_1 : decode prog_29_method_1_code 1 = .ok (.invokespecial 1, 3) := by decide +kernel
theorem d0_4 : decode prog_29_method_1_code 4 = .ok (.aload_n 0, 1) := by decide +kernel
theorem d0_5 : decode prog_29_method_1_code 5 = .ok (.lload_n 1, 1) := by decide +kernel
theorem d0_6 : decode prog_29_method_1_code 6 = .ok (.putfield 7, 3) := by decide +kernel
theorem d0_9 : decode prog_29_method_1_code 9 = .ok (.aload_n 0, 1) := by decide +kernel
theorem d0_10 : decode prog_29_method_1_code 10 = .ok (.lload_n 3, 1) := by decide +kernel
theorem d0_11 : decode prog_29_method_1_code 11 = .ok (.putfield 13, 3) := by decide +kernel
theorem d0_14 : decode prog_29_method_1_code 14 = .ok (.return_, 1) := by decide +kernel
theorem pn_1 : plainName "com/example/xmitq/xmitq/MessageId" = true := by first | (simp [plainName, overriddenIn]; done) | decide +kernel
theorem d2_0 : decode jdk_18_method_1_code 0 = .ok (.aload_n 0, 1) := by decide +kernel
theorem d2_1 : decode jdk_18_method_1_code 1 = .ok (.invokespecial 1, 3) := by decide +kernel
theorem d2_4 : decode jdk_18_method_1_code 4 = .ok (.return_, 1) := by decide +kernel
theorem pn_3 : plainName "java/lang/Number" = true := by first | (simp [plainName, overriddenIn]; done) | decide +kernel
theorem d4_0 : decode jdk_35_method_26_code 0 = .ok (.aload_n 0, 1) := by decide +kernel
theorem d4_1 : decode jdk_35_method_26_code 1 = .ok (.invokespecial 270, 3) := by decide +kernel
theorem pd_5 : parseMethodDescriptor "()V" = some ⟨[], none⟩ := by decide +kernel
theorem d4_4 : decode jdk_35_method_26_code 4 = .ok (.aload_n 0, 1) := by decide +kernel
theorem d4_5 : decode jdk_35_method_26_code 5 = .ok (.lload_n 1, 1) := by decide +kernel
theorem d4_6 : decode jdk_35_method_26_code 6 = .ok (.putfield 273, 3) := by decide +kernel
theorem d4_9 : decode jdk_35_method_26_code 9 = .ok (.return_, 1) := by decide +kernel
theorem pn_6 : plainName "java/lang/Long" = true := by first | (simp [plainName, overriddenIn]; done) | decide +kernel
theorem d7_0 : decode jdk_35_method_24_code 0 = .ok (.sipush 128, 3) := by decide +kernel
theorem d7_3 : decode jdk_35_method_24_code 3 = .ok (.istore_n 2, 1) := by decide +kernel
theorem d7_4 : decode jdk_35_method_24_code 4 = .ok (.lload_n 0, 1) := by decide +kernel
theorem d7_5 : decode jdk_35_method_24_code 5 = .ok (.ldc2_w 230, 3) := by decide +kernel
theorem d7_8 : decode jdk_35_method_24_code 8 = .ok (.lcmp, 1) := by decide +kernel
theorem d7_9 : decode jdk_35_method_24_code 9 = .ok (.ifCond .lt 22, 3) := by decide +kernel
theorem d7_31 : decode jdk_35_method_24_code 31 = .ok (.new 1, 3) := by decide +kernel
theorem d7_34 : decode jdk_35_method_24_code 34 = .ok (.dup, 1) := by decide +kernel
theorem d7_35 : decode jdk_35_method_24_code 35 = .ok (.lload_n 0, 1) := by decide +kernel
theorem d7_36 : decode jdk_35_method_24_code 36 = .ok (.invokespecial 240, 3) := by decide +kernel
theorem pd_8 : parseMethodDescriptor "(J)V" = some ⟨[.long], none⟩ := by decide +kernel
theorem d7_39 : decode jdk_35_method_24_code 39 = .ok (.areturn, 1) := by decide +kernel
theorem d7_12 : decode jdk_35_method_24_code 12 = .ok (.lload_n 0, 1) := by decide +kernel
theorem d7_13 : decode jdk_35_method_24_code 13 = .ok (.ldc2_w 232, 3) := by decide +kernel
theorem d7_16 : decode jdk_35_method_24_code 16 = .ok (.lcmp, 1) := by decide +kernel
theorem d7_17 : decode jdk_35_method_24_code 17 = .ok (.ifCond .gt 14, 3) := by decide +kernel
theorem d7_20 : decode jdk_35_method_24_code 20 = .ok (.getstatic 234, 3) := by decide +kernel
theorem d7_23 : decode jdk_35_method_24_code 23 = .ok (.lload_n 0, 1) := by decide +kernel
theorem d7_24 : decode jdk_35_method_24_code 24 = .ok (.l2i, 1) := by decide +kernel
theorem d7_25 : decode jdk_35_method_24_code 25 = .ok (.sipush 128, 3) := by decide +kernel
theorem d7_28 : decode jdk_35_method_24_code 28 = .ok (.iadd, 1) := by decide +kernel
theorem d7_29 : decode jdk_35_method_24_code 29 = .ok (.aaload, 1) := by decide +kernel
theorem d7_30 : decode jdk_35_method_24_code 30 = .ok (.areturn, 1) := by decide +kernel
theorem d9_0 : decode prog_29_method_6_code 0 = .ok (.aload_n 1, 1) := by decide +kernel
theorem d9_1 : decode prog_29_method_6_code 1 = .ok (.instanceof 8, 3) := by decide +kernel
theorem d9_4 : decode prog_29_method_6_code 4 = .ok (.ifCond .eq 36, 3) := by decide +kernel
theorem d9_40 : decode prog_29_method_6_code 40 = .ok (.iconst 0, 1) := by decide +kernel
theorem d9_41 : decode prog_29_method_6_code 41 = .ok (.ireturn, 1) := by decide +kernel
theorem d9_7 : decode prog_29_method_6_code 7 = .ok (.aload_n 1, 1) := by decide +kernel
theorem d9_8 : decode prog_29_method_6_code 8 = .ok (.checkcast 8, 3) := by decide +kernel
theorem d9_11 : decode prog_29_method_6_code 11 = .ok (.astore_n 2, 1) := by decide +kernel
theorem d9_12 : decode prog_29_method_6_code 12 = .ok (.aload_n 0, 1) := by decide +kernel
theorem d9_13 : decode prog_29_method_6_code 13 = .ok (.getfield 7, 3) := by decide +kernel
theorem d9_16 : decode prog_29_method_6_code 16 = .ok (.aload_n 2, 1) := by decide +kernel
theorem d9_17 : decode prog_29_method_6_code 17 = .ok (.getfield 7, 3) := by decide +kernel
theorem d9_20 : decode prog_29_method_6_code 20 = .ok (.lcmp, 1) := by decide +kernel
theorem d9_21 : decode prog_29_method_6_code 21 = .ok (.ifCond .ne 19, 3) := by decide +kernel
theorem d9_24 : decode prog_29_method_6_code 24 = .ok (.aload_n 0, 1) := by decide +kernel
theorem d9_25 : decode prog_29_method_6_code 25 = .ok (.getfield 13, 3) := by decide +kernel
theorem d9_28 : decode prog_29_method_6_code 28 = .ok (.aload_n 2, 1) := by decide +kernel
theorem d9_29 : decode prog_29_method_6_code 29 = .ok (.getfield 13, 3) := by decide +kernel
theorem d9_32 : decode prog_29_method_6_code 32 = .ok (.lcmp, 1) := by decide +kernel
theorem d9_33 : decode prog_29_method_6_code 33 = .ok (.ifCond .ne 7, 3) := by decide +kernel
theorem d9_36 : decode prog_29_method_6_code 36 = .ok (.iconst 1, 1) := by decide +kernel
theorem d9_37 : decode prog_29_method_6_code 37 = .ok (.goto 4, 3) := by decide +kernel
theorem pd_11 : parseMethodDescriptor "(JJ)V" = some ⟨[.long, .long], none⟩ := by decide +kernel
theorem pd_12 : parseMethodDescriptor "(Ljava/lang/Object;)Z" = some ⟨[(.object "java/lang/Object")], some .boolean⟩ := by decide +kernel
theorem pd_13 : parseMethodDescriptor "(J)Ljava/lang/Long;" = some ⟨[.long], some (.object "java/lang/Long")⟩ := by decide +kernel
theorem pn_14 : plainName "com/example/xmitq/xmitq/MessageIdEqualsPinLaw" = true := by first | (simp [plainName, overriddenIn]; done) | decide +kernel
theorem own_len {s : State} {args : Array Value} {t : Term} {x : Addr} {cl : Cell} {ty : FieldType} {k : Int32} (ev : t.eval args s none [] s = some (.ref x)) (h : (Cond.eq (.length t) (.int k)).value args s none s [] = some true) (A : Arr s s.heap x cl ty) : cl.slots.size < 2 ^ 31 ∧ cl.slots.size.toInt32 = k := by
  have hA : s.arrayAt? x = some cl := A.fin (Vm.Alike.refl _)
  by_cases hl : cl.slots.size < 2 ^ 31
  · have e := len_f ev hA hl
    have e2 : (Term.int k).eval args s none [] s = some (.int k) := rfl
    refine ⟨hl, ?_⟩
    simpa [Cond.value, e, e2] using h
  · exfalso
    have e : (Term.length t).eval args s none [] s = none := by simp [Term.eval, ev, hA, hl]
    simp [Cond.value, e] at h

def own_AllL (Z : State) (h : Heap) (vs : List Value) (n : Nat) (C : String) : Prop := ∀ i, i < n → ∃ x, vs.getD i .null = .ref x ∧ Exa Z h x C
theorem own_AllL.ext {Z : State} {h h' : Heap} {vs : List Value} {n : Nat} {C : String} (F : own_AllL Z h vs n C) (E : Ext h h') : own_AllL Z h' vs n C := fun i hi => by
  obtain ⟨x, e, q⟩ := F i hi; exact ⟨x, e, q.ext E⟩
theorem own_AllL.wr {Z : State} {h h' : Heap} {vs : List Value} {n : Nat} {C : String} {a : Addr} {sl : Nat} {v : Value} (F : own_AllL Z h vs n C) (W : Wr h h' a sl v) : own_AllL Z h' vs n C := fun i hi => by
  obtain ⟨x, e, q⟩ := F i hi; exact ⟨x, e, q.wr W⟩
theorem own_AllL.keep {Z : State} {h h' : Heap} {vs : List Value} {n : Nat} {C : String} {ws : List Addr} (F : own_AllL Z h vs n C) (K : Keep h h' ws) : own_AllL Z h' vs n C := fun i hi => by
  obtain ⟨x, e, q⟩ := F i hi; exact ⟨x, e, q.keep K⟩
theorem own_arv {Z : State} {a : Addr} {cl : Cell} {ty : FieldType} {z : Int32} {dv : Value} (hf : Fit Z) (A : Arr Z Z.heap a cl ty) (q : cl.slots.size < 2 ^ 31) (e : cl.slots.size.toInt32 = z) (hz : ¬ z < 0) : Arv Z Z.heap a cl.cls ty z cl.slots.toList dv := by
  have S : cl.slots.size = z.toNatClampNeg := by rw [← e]; simp only [Int32.toNatClampNeg, len_toInt q]; rfl
  have H' : Has cl cl.slots.toList dv := fun j hj => by
    rw [List.getD_eq_getElem?_getD, Array.getElem?_toList, Array.getElem?_eq_getElem hj]; rfl
  refine ⟨cl, A, rfl, S, hz, H', fun j hj => ?_⟩
  have e1 : (Nat.toInt32 j).toNatClampNeg = j := by simp only [Int32.toNatClampNeg, len_toInt (Nat.lt_trans hj q)]; rfl
  exact elem_fits (j := Nat.toInt32 j) hf A (idx_in hj q) (by rw [e1]; exact H' j hj)

theorem own_NSroot {Z : State} {a0 : Array Value} {O K : String} {n : Nat} (w : (Jvm.Cond.noSuperclass O).before a0 Z = true) (wk : (Jvm.Cond.instantiable K n).before a0 Z = true) (hn : O ≠ K) : NS Z O K := by
  obtain ⟨c, k, h1, h2, h3, -, -⟩ := Cond.noSuperclass_spec w
  obtain ⟨t, kt, g1, -⟩ := Cond.instantiable_spec wk
  have ne := ids_ne h1 g1 hn
  refine ⟨c, t, h1, g1, fun fuel => ?_⟩
  cases fuel with
  | zero => rfl
  | succ f => simp [Vm.isSubclassAux, ne, h2, h3]
theorem own_NSno {Z : State} {a0 : Array Value} {C S K : String} {m : Nat} (w : (Jvm.Cond.superclass C S).before a0 Z = true) (wk : (Jvm.Cond.instantiable K m).before a0 Z = true) (n : NS Z C K) (hn : C ≠ K) : ∃ c t, Z.vm.findClass C = some c ∧ Z.vm.findClass K = some t ∧ Z.vm.assignable c t = false := by
  obtain ⟨c, t, h0, g0, n3⟩ := n
  obtain ⟨p, k, kp, h1, h2, h3, h4, h5, -, h7⟩ := Cond.superclass_spec h0 w
  obtain ⟨t', kt, g1, g2, g3, g4, -⟩ := Cond.instantiable_spec wk
  cases g0.symm.trans g1
  have g7 : kt.isInterface = false := (Bool.or_eq_false_iff.mp g4).1
  have ne := ids_ne h0 g0 hn
  refine ⟨c, t, h0, g0, ?_⟩
  show Z.vm.assignableAux (255 + 1) c t = false
  simp [Vm.assignableAux, ne, h2, g2, h5, g3, g7, Vm.isSubclass, n3]

theorem ef_own_init (m : MethodId) (pr0 : Addr) (pj1 : Int64) (pj2 : Int64) : entryFrame m #[(.ref pr0), (.long pj1), (.long pj2)] 5 = mkF m 0 #[.val (.ref pr0), .val (.long pj1), .second, .val (.long pj2), .second] [] := by first | (simp [entryFrame, mkF, argsToLocals, Value.category]; done) | rfl
def Q_own_init (Z : State) (pr0 : Addr) (pj1 : Int64) (pj2 : Int64)  (h0 : Heap) (n0 : Nat) (v : Option Value) (h : Heap) (L : List Loc) : Prop := Fr n0 L ∧ v = none ∧ Keep h0 h ([pr0] : List Addr) ∧ Exa Z h pr0 "com/example/xmitq/xmitq/MessageId" ∧ Fld Z h pr0 "com/example/xmitq/xmitq/MessageId" "high" "J" (.long pj1) ∧ Fld Z h pr0 "com/example/xmitq/xmitq/MessageId" "low" "J" (.long pj2)
set_option maxRecDepth 65536 in
set_option maxHeartbeats 40000000 in
theorem own_init (l : Launch) (Z : State) (a0 : Array Value) (hw : ∀ d ∈ tables_1, d.before a0 Z = true) (ws : List Jvm.Cond) (pr0 : Addr) (pj1 : Int64) (pj2 : Int64)  (h0 : Heap) (n0 : Nat) (Z0 : n0 ≤ h0.size) (P0 : Exa Z h0 pr0 "com/example/xmitq/xmitq/MessageId") (P1 : Fld Z h0 pr0 "com/example/xmitq/xmitq/MessageId" "high" "J" (.long (0 : Int64))) (P2 : Fld Z h0 pr0 "com/example/xmitq/xmitq/MessageId" "low" "J" (.long (0 : Int64))) (P3 : n0 ≤ pr0) :
    MetFree l (⟨"com/example/xmitq/xmitq/MessageId", "<init>", "(JJ)V"⟩ : MethodName) (head1 (Jvm.Cond.code (⟨"com/example/xmitq/xmitq/MessageId", "<init>", "(JJ)V"⟩ : MethodName) prog_29_method_1_code 5 none :: ws) ({ frames := 1, cells := 0, slots := 0, locals := 12 } : Room)) (fun a U => a = #[(.ref pr0), (.long pj1), (.long pj2)] ∧ Z.Warmed39 U.vm ∧ U.heap = h0) (fun _ _ _ _ _ => True) (fun _ U o U' => ∃ v L, o = .returned v ∧ Q_own_init Z pr0 pj1 pj2 h0 n0 v U'.heap L ∧ FrameEnd U o U' L ({ frames := 1, cells := 0, slots := 0, locals := 12 } : Room).cells ({ frames := 1, cells := 0, slots := 0, locals := 12 } : Room).slots) := by
  refine MetFree.of_bodySF (plainFor_of_name pn_1) hisR ?_
  intro p e s m args below meth c s₁ Bd hml0 hP hK
  obtain ⟨rfl, hZ, hh⟩ := hP
  have hx := Bd.exec
  have hby := Bd.bytes
  have hml : c.maxLocals = 5 := hml0
  have hown : s.vm.findClass "com/example/xmitq/xmitq/MessageId" = some m.cls := findClass_of_methodNamed Bd.named
  have hnm := (name_of_methodNamed Bd.named Bd.method).1
  have X0 : Stand p l e ({ frames := 1, cells := 0, slots := 0, locals := 12 } : Room) s m #[(.ref pr0), (.long pj1), (.long pj2)] below meth c s₁ [] 0 0 := Stand.of_body Bd
  have e0 : s₁.heap = h0 := by rw [← hh, Bd.state]; rfl
  have N0 := Fr.nil n0
  have go0 : ∀ t, Steps p.tables e below (s₁.setTop (mkF m 0 #[.val (.ref pr0), .val (.long pj1), .second, .val (.long pj2), .second] [])) t → Steps p.tables e below (s₁.setTop (entryFrame m #[(.ref pr0), (.long pj1), (.long pj2)] 5)) t := fun t k => castTop (ef_own_init m pr0 pj1 pj2) k
  revert go0
  generalize s₁.setTop (entryFrame m #[(.ref pr0), (.long pj1), (.long pj2)] 5) = st0
  intro go0
  obtain ⟨T1, X1, e1, st1⟩ := initO X0 hx hZ hown (hw _ (List.mem_of_getElem? (i := 6) rfl)) (hw _ (List.mem_of_getElem? (i := 7) rfl)) (hw _ (List.mem_of_getElem? (i := 8) rfl)) e0 (g := (mkF m 1 #[.val (.ref pr0), .val (.long pj1), .second, .val (.long pj2), .second] [(.ref pr0)])) rfl (by rw [hml]; rfl) rfl (hb hby d0_1) (by decide) (W := 0) (by show 2 * 0 + _ ≤ _; exact Nat.le_of_eq rfl) (by decide)
  obtain ⟨T2, h2, X2, e2, W2, st2⟩ := putF X1 hx hZ hown (host := "") (Or.inl (hw _ (List.mem_of_getElem? (i := 9) rfl))) Via.refl e1 P1 P0 (Or.inr ⟨(hw _ (List.mem_of_getElem? (i := 10) rfl)), rfl, hnm⟩) (hw _ (List.mem_of_getElem? (i := 1) rfl)) (ty := .long) (by decide) rfl rfl (g := (mkF m 6 #[.val (.ref pr0), .val (.long pj1), .second, .val (.long pj2), .second] [(.long pj1), (.ref pr0)])) rfl rfl (hb hby d0_6)
  have K2 : Keep h0 h2 ([pr0] : List Addr) := (Keep.refl h0 ([pr0] : List Addr)).wr W2 (Or.inl (List.mem_of_getElem? (i := 0) rfl))
  have N2 := Fr.snoc X2 N0 P3
  have Z2 : n0 ≤ h2.size := Nat.le_trans Z0 (Keep.of_wr W2).1
  have Fw2 := P1.same W2
  have f3 : Fld Z h2 pr0 "com/example/xmitq/xmitq/MessageId" "low" "J" (.long (0 : Int64)) := (P2.other W2 (Or.inr (slot_ne (Or.inr (hw _ (List.mem_of_getElem? (i := 12) rfl))) (Or.inr (hw _ (List.mem_of_getElem? (i := 10) rfl))) (by decide) (t := .long) (t' := .long) (by decide) (by decide))))
  have f4 : Exa Z h2 pr0 "com/example/xmitq/xmitq/MessageId" := (P0.wr W2)
  obtain ⟨T5, h5, X5, e5, W5, st5⟩ := putF X2 hx hZ hown (host := "") (Or.inl (hw _ (List.mem_of_getElem? (i := 11) rfl))) Via.refl e2 f3 f4 (Or.inr ⟨(hw _ (List.mem_of_getElem? (i := 12) rfl)), rfl, hnm⟩) (hw _ (List.mem_of_getElem? (i := 1) rfl)) (ty := .long) (by decide) rfl rfl (g := (mkF m 11 #[.val (.ref pr0), .val (.long pj1), .second, .val (.long pj2), .second] [(.long pj2), (.ref pr0)])) rfl rfl (hb hby d0_11)
  have K5 : Keep h0 h5 ([pr0] : List Addr) := K2.wr W5 (Or.inl (List.mem_of_getElem? (i := 0) rfl))
  have N5 := Fr.snoc X5 N2 P3
  have Z5 : n0 ≤ h5.size := Nat.le_trans Z2 (Keep.of_wr W5).1
  have Fw5 := f3.same W5
  have go6 : ∀ t, Steps p.tables e below (T5.setTop (mkF m 14 #[.val (.ref pr0), .val (.long pj1), .second, .val (.long pj2), .second] [])) t → Steps p.tables e below st0 t := by
    intro t kt
    refine go0 t ?_
    refine XS.aloadN X0.here hx rfl (hb hby d0_0) rfl rfl ?_
    show Steps p.tables e below (s₁.setTop (mkF m 1 #[.val (.ref pr0), .val (.long pj1), .second, .val (.long pj2), .second] [(.ref pr0)])) _
    refine st1 _ ?_
    show Steps p.tables e below (T1.setTop (mkF m 4 #[.val (.ref pr0), .val (.long pj1), .second, .val (.long pj2), .second] [])) _
    refine XS.aloadN X1.here hx rfl (hb hby d0_4) rfl rfl ?_
    show Steps p.tables e below (T1.setTop (mkF m 5 #[.val (.ref pr0), .val (.long pj1), .second, .val (.long pj2), .second] [(.ref pr0)])) _
    refine XS.lloadN X1.here hx rfl (hb hby d0_5) rfl ?_
    show Steps p.tables e below (T1.setTop (mkF m 6 #[.val (.ref pr0), .val (.long pj1), .second, .val (.long pj2), .second] [(.long pj1), (.ref pr0)])) _
    refine st2 _ ?_
    show Steps p.tables e below (T2.setTop (mkF m 9 #[.val (.ref pr0), .val (.long pj1), .second, .val (.long pj2), .second] [])) _
    refine XS.aloadN X2.here hx rfl (hb hby d0_9) rfl rfl ?_
    show Steps p.tables e below (T2.setTop (mkF m 10 #[.val (.ref pr0), .val (.long pj1), .second, .val (.long pj2), .second] [(.ref pr0)])) _
    refine XS.lloadN X2.here hx rfl (hb hby d0_10) rfl ?_
    show Steps p.tables e below (T2.setTop (mkF m 11 #[.val (.ref pr0), .val (.long pj1), .second, .val (.long pj2), .second] [(.long pj2), (.ref pr0)])) _
    refine st5 _ ?_
    show Steps p.tables e below (T5.setTop (mkF m 14 #[.val (.ref pr0), .val (.long pj1), .second, .val (.long pj2), .second] [])) _
    exact kt
  obtain ⟨fs, hr, hrun, hended, hW, hsame⟩ := X5.leave (v := none) (fun _ => rfl)
  refine ⟨_, _, go6 _ ?_, hrun, hended, _, _, rfl, ?_, ⟨_, rfl⟩, hW, hsame.mono (by decide) (by decide)⟩
  · exact X5.returnOut hx Bd.returns (hb hby d0_14) hr
  · show Q_own_init Z pr0 pj1 pj2 h0 n0 _ T5.heap _
    rw [e5]
    have f7 : Exa Z h5 pr0 "com/example/xmitq/xmitq/MessageId" := (f4.wr W5)
    have f8 : Fld Z h5 pr0 "com/example/xmitq/xmitq/MessageId" "high" "J" (.long pj1) := (Fw2.other W5 (Or.inr (slot_ne (Or.inr (hw _ (List.mem_of_getElem? (i := 10) rfl))) (Or.inr (hw _ (List.mem_of_getElem? (i := 12) rfl))) (by decide) (t := .long) (t' := .long) (by decide) (by decide))))
    exact ⟨N5, rfl, K5, f7, f8, Fw5⟩
theorem ef_own_num (m : MethodId) (pr0 : Addr) : entryFrame m #[(.ref pr0)] 1 = mkF m 0 #[.val (.ref pr0)] [] := by first | (simp [entryFrame, mkF, argsToLocals, Value.category]; done) | rfl
def Q_own_num (Z : State) (pr0 : Addr)  (h0 : Heap) (n0 : Nat) (v : Option Value) (h : Heap) (L : List Loc) : Prop := v = none ∧ Fr n0 L ∧ h = h0
set_option maxRecDepth 65536 in
set_option maxHeartbeats 40000000 in
theorem own_num (l : Launch) (Z : State) (a0 : Array Value) (hw : ∀ d ∈ tables_1, d.before a0 Z = true) (ws : List Jvm.Cond) (pr0 : Addr)  (h0 : Heap) (n0 : Nat) (Z0 : n0 ≤ h0.size) :
    MetFree l (⟨"java/lang/Number", "<init>", "()V"⟩ : MethodName) (head1 (Jvm.Cond.code (⟨"java/lang/Number", "<init>", "()V"⟩ : MethodName) jdk_18_method_1_code 1 none :: ws) ({ frames := 1, cells := 0, slots := 0, locals := 12 } : Room)) (fun a U => a = #[(.ref pr0)] ∧ Z.Warmed39 U.vm ∧ U.heap = h0) (fun _ _ _ _ _ => True) (fun _ U o U' => ∃ v L, o = .returned v ∧ Q_own_num Z pr0 h0 n0 v U'.heap L ∧ FrameEnd U o U' L ({ frames := 1, cells := 0, slots := 0, locals := 12 } : Room).cells ({ frames := 1, cells := 0, slots := 0, locals := 12 } : Room).slots) := by
  refine MetFree.of_bodySF (plainFor_of_name pn_3) hisR ?_
  intro p e s m args below meth c s₁ Bd hml0 hP hK
  obtain ⟨rfl, hZ, hh⟩ := hP
  have hx := Bd.exec
  have hby := Bd.bytes
  have hml : c.maxLocals = 1 := hml0
  have hown : s.vm.findClass "java/lang/Number" = some m.cls := findClass_of_methodNamed Bd.named
  have hnm := (name_of_methodNamed Bd.named Bd.method).1
  have X0 : Stand p l e ({ frames := 1, cells := 0, slots := 0, locals := 12 } : Room) s m #[(.ref pr0)] below meth c s₁ [] 0 0 := Stand.of_body Bd
  have e0 : s₁.heap = h0 := by rw [← hh, Bd.state]; rfl
  have N0 := Fr.nil n0
  have go0 : ∀ t, Steps p.tables e below (s₁.setTop (mkF m 0 #[.val (.ref pr0)] [])) t → Steps p.tables e below (s₁.setTop (entryFrame m #[(.ref pr0)] 1)) t := fun t k => castTop (ef_own_num m pr0) k
  revert go0
  generalize s₁.setTop (entryFrame m #[(.ref pr0)] 1) = st0
  intro go0
  obtain ⟨T1, X1, e1, st1⟩ := initO X0 hx hZ hown (hw _ (List.mem_of_getElem? (i := 37) rfl)) (hw _ (List.mem_of_getElem? (i := 7) rfl)) (hw _ (List.mem_of_getElem? (i := 8) rfl)) e0 (g := (mkF m 1 #[.val (.ref pr0)] [(.ref pr0)])) rfl (by rw [hml]; rfl) rfl (hb hby d2_1) (by decide) (W := 0) (by show 2 * 0 + _ ≤ _; exact Nat.le_of_eq rfl) (by decide)
  have go2 : ∀ t, Steps p.tables e below (T1.setTop (mkF m 4 #[.val (.ref pr0)] [])) t → Steps p.tables e below st0 t := by
    intro t kt
    refine go0 t ?_
    refine XS.aloadN X0.here hx rfl (hb hby d2_0) rfl rfl ?_
    show Steps p.tables e below (s₁.setTop (mkF m 1 #[.val (.ref pr0)] [(.ref pr0)])) _
    refine st1 _ ?_
    show Steps p.tables e below (T1.setTop (mkF m 4 #[.val (.ref pr0)] [])) _
    exact kt
  obtain ⟨fs, hr, hrun, hended, hW, hsame⟩ := X1.leave (v := none) (fun _ => rfl)
  refine ⟨_, _, go2 _ ?_, hrun, hended, _, _, rfl, ?_, ⟨_, rfl⟩, hW, hsame.mono (by decide) (by decide)⟩
  · exact X1.returnOut hx Bd.returns (hb hby d2_4) hr
  · show Q_own_num Z pr0 h0 n0 _ T1.heap _
    rw [e1]
    exact ⟨rfl, N0, rfl⟩
theorem ef_own_long (m : MethodId) (pr0 : Addr) (pj1 : Int64) : entryFrame m #[(.ref pr0), (.long pj1)] 3 = mkF m 0 #[.val (.ref pr0), .val (.long pj1), .second] [] := by first | (simp [entryFrame, mkF, argsToLocals, Value.category]; done) | rfl
def Q_own_long (Z : State) (pr0 : Addr) (pj1 : Int64)  (h0 : Heap) (n0 : Nat) (v : Option Value) (h : Heap) (L : List Loc) : Prop := Fr n0 L ∧ v = none ∧ Keep h0 h ([pr0] : List Addr) ∧ Exa Z h pr0 "java/lang/Long"
set_option maxRecDepth 65536 in
set_option maxHeartbeats 40000000 in
theorem own_long (l : Launch) (Z : State) (a0 : Array Value) (hw : ∀ d ∈ tables_1, d.before a0 Z = true) (ws : List Jvm.Cond) (pr0 : Addr) (pj1 : Int64)  (h0 : Heap) (n0 : Nat) (Z0 : n0 ≤ h0.size) (P0 : Exa Z h0 pr0 "java/lang/Long") (P1 : Fld Z h0 pr0 "java/lang/Long" "value" "J" (.long (0 : Int64))) (P2 : n0 ≤ pr0) :
    MetFree l (⟨"java/lang/Long", "<init>", "(J)V"⟩ : MethodName) (head1 (Jvm.Cond.code (⟨"java/lang/Long", "<init>", "(J)V"⟩ : MethodName) jdk_35_method_26_code 3 none :: ws) ({ frames := 2, cells := 0, slots := 0, locals := 24 } : Room)) (fun a U => a = #[(.ref pr0), (.long pj1)] ∧ Z.Warmed39 U.vm ∧ U.heap = h0) (fun _ _ _ _ _ => True) (fun _ U o U' => ∃ v L, o = .returned v ∧ Q_own_long Z pr0 pj1 h0 n0 v U'.heap L ∧ FrameEnd U o U' L ({ frames := 2, cells := 0, slots := 0, locals := 24 } : Room).cells ({ frames := 2, cells := 0, slots := 0, locals := 24 } : Room).slots) := by
  refine MetFree.of_bodySF (plainFor_of_name pn_6) hisR ?_
  intro p e s m args below meth c s₁ Bd hml0 hP hK
  obtain ⟨rfl, hZ, hh⟩ := hP
  have hx := Bd.exec
  have hby := Bd.bytes
  have hml : c.maxLocals = 3 := hml0
  have hown : s.vm.findClass "java/lang/Long" = some m.cls := findClass_of_methodNamed Bd.named
  have hnm := (name_of_methodNamed Bd.named Bd.method).1
  have X0 : Stand p l e ({ frames := 2, cells := 0, slots := 0, locals := 24 } : Room) s m #[(.ref pr0), (.long pj1)] below meth c s₁ [] 0 0 := Stand.of_body Bd
  have e0 : s₁.heap = h0 := by rw [← hh, Bd.state]; rfl
  have N0 := Fr.nil n0
  have go0 : ∀ t, Steps p.tables e below (s₁.setTop (mkF m 0 #[.val (.ref pr0), .val (.long pj1), .second] [])) t → Steps p.tables e below (s₁.setTop (entryFrame m #[(.ref pr0), (.long pj1)] 3)) t := fun t k => castTop (ef_own_long m pr0 pj1) k
  revert go0
  generalize s₁.setTop (entryFrame m #[(.ref pr0), (.long pj1)] 3) = st0
  intro go0
  obtain ⟨_, _, ⟨T1, L1, k1, n1⟩, -, X1, ⟨Lc1, hQ1, l1, y1, z1⟩, st1⟩ := X0.specialBack hx (y := (⟨"java/lang/Number", "<init>", "()V"⟩ : MethodName)) rfl hown (mvT hZ (hw _ (List.mem_of_getElem? (i := 31) rfl))) (mvT hZ (hw _ (List.mem_of_getElem? (i := 32) rfl))) (mvT hZ (hw _ (List.mem_of_getElem? (i := 36) rfl))) (by decide) (backOf (W := 0) (own_num l Z a0 hw [] pr0 h0 n0 Z0 ) hZ (hw _ (List.mem_of_getElem? (i := 36) rfl)) (hw _ (List.mem_of_getElem? (i := 35) rfl)) (by decide) (by decide)) (g := (mkF m 1 #[.val (.ref pr0), .val (.long pj1), .second] [(.ref pr0)])) rfl (by rw [hml]; rfl) (Steps.refl _) (a := pr0) (argsL := []) (rest := []) (lenOf pd_5 rfl) rfl (by show 2 * 0 + _ ≤ _; exact Nat.le_of_eq rfl) (hb hby d4_1) (fun _ _ => ⟨rfl, e0, (by decide : 0 + 0 ≤ _), (by decide : 0 + 0 ≤ _)⟩)
  dsimp only [Pt.U, Pt.locs, Pt.cells, Pt.slots] at X1 l1 y1 z1 st1 hQ1
  subst l1 y1 z1
  obtain ⟨rfl, Nq1, e1⟩ := hQ1
  have N1 := Fr.app N0 Nq1
  obtain ⟨T2, h2, X2, e2, W2, st2⟩ := putF X1 hx hZ hown (host := "") (Or.inl (hw _ (List.mem_of_getElem? (i := 38) rfl))) Via.refl e1 P1 P0 (Or.inr ⟨(hw _ (List.mem_of_getElem? (i := 39) rfl)), rfl, hnm⟩) (hw _ (List.mem_of_getElem? (i := 26) rfl)) (ty := .long) (by decide) rfl rfl (g := (mkF m 6 #[.val (.ref pr0), .val (.long pj1), .second] [(.long pj1), (.ref pr0)])) rfl rfl (hb hby d4_6)
  have K2 : Keep h0 h2 ([pr0] : List Addr) := (Keep.refl h0 ([pr0] : List Addr)).wr W2 (Or.inl (List.mem_of_getElem? (i := 0) rfl))
  have N2 := Fr.snoc X2 N1 P2
  have Z2 : n0 ≤ h2.size := Nat.le_trans Z0 (Keep.of_wr W2).1
  have Fw2 := P1.same W2
  have go3 : ∀ t, Steps p.tables e below (T2.setTop (mkF m 9 #[.val (.ref pr0), .val (.long pj1), .second] [])) t → Steps p.tables e below st0 t := by
    intro t kt
    refine go0 t ?_
    refine XS.aloadN X0.here hx rfl (hb hby d4_0) rfl rfl ?_
    show Steps p.tables e below (s₁.setTop (mkF m 1 #[.val (.ref pr0), .val (.long pj1), .second] [(.ref pr0)])) _
    refine st1.trans ?_
    show Steps p.tables e below (T1.setTop (mkF m 4 #[.val (.ref pr0), .val (.long pj1), .second] [])) _
    refine XS.aloadN X1.here hx rfl (hb hby d4_4) rfl rfl ?_
    show Steps p.tables e below (T1.setTop (mkF m 5 #[.val (.ref pr0), .val (.long pj1), .second] [(.ref pr0)])) _
    refine XS.lloadN X1.here hx rfl (hb hby d4_5) rfl ?_
    show Steps p.tables e below (T1.setTop (mkF m 6 #[.val (.ref pr0), .val (.long pj1), .second] [(.long pj1), (.ref pr0)])) _
    refine st2 _ ?_
    show Steps p.tables e below (T2.setTop (mkF m 9 #[.val (.ref pr0), .val (.long pj1), .second] [])) _
    exact kt
  obtain ⟨fs, hr, hrun, hended, hW, hsame⟩ := X2.leave (v := none) (fun _ => rfl)
  refine ⟨_, _, go3 _ ?_, hrun, hended, _, _, rfl, ?_, ⟨_, rfl⟩, hW, hsame.mono (by decide) (by decide)⟩
  · exact X2.returnOut hx Bd.returns (hb hby d4_9) hr
  · show Q_own_long Z pr0 pj1 h0 n0 _ T2.heap _
    rw [e2]
    have f4 : Exa Z h2 pr0 "java/lang/Long" := (P0.wr W2)
    exact ⟨N2, rfl, K2, f4⟩
theorem ef_own_vLo (m : MethodId) (pj0 : Int64) : entryFrame m #[(.long pj0)] 3 = mkF m 0 #[.val (.long pj0), .second, .unset] [] := by first | (simp [entryFrame, mkF, argsToLocals, Value.category]; done) | rfl
def Q_own_vLo (Z : State) (pj0 : Int64)  (h0 : Heap) (n0 : Nat) (v : Option Value) (h : Heap) (L : List Loc) : Prop := Fr n0 L ∧ ∃ (bb : Addr), v = some (.ref bb) ∧ h0.size ≤ bb ∧ Keep h0 h ([] : List Addr) ∧ Exa Z h bb "java/lang/Long"
set_option maxRecDepth 65536 in
set_option maxHeartbeats 40000000 in
theorem own_vLo (l : Launch) (Z : State) (a0 : Array Value) (hw : ∀ d ∈ tables_1, d.before a0 Z = true) (ws : List Jvm.Cond) (pj0 : Int64)  (h0 : Heap) (n0 : Nat) (Z0 : n0 ≤ h0.size) (P0 : pj0 < (-128 : Int64)) :
    MetFree l (⟨"java/lang/Long", "valueOf", "(J)Ljava/lang/Long;"⟩ : MethodName) (head1 (Jvm.Cond.code (⟨"java/lang/Long", "valueOf", "(J)Ljava/lang/Long;"⟩ : MethodName) jdk_35_method_24_code 3 (some (.object "java/lang/Long")) :: ws) ({ frames := 3, cells := 1, slots := 1, locals := 39 } : Room)) (fun a U => a = #[(.long pj0)] ∧ Z.Warmed39 U.vm ∧ U.heap = h0) (fun _ _ _ _ _ => True) (fun _ U o U' => ∃ v L, o = .returned v ∧ Q_own_vLo Z pj0 h0 n0 v U'.heap L ∧ FrameEnd U o U' L ({ frames := 3, cells := 1, slots := 1, locals := 39 } : Room).cells ({ frames := 3, cells := 1, slots := 1, locals := 39 } : Room).slots) := by
  refine MetFree.of_bodySF (plainFor_of_name pn_6) hisR ?_
  intro p e s m args below meth c s₁ Bd hml0 hP hK
  obtain ⟨rfl, hZ, hh⟩ := hP
  have hx := Bd.exec
  have hby := Bd.bytes
  have hml : c.maxLocals = 3 := hml0
  have hown : s.vm.findClass "java/lang/Long" = some m.cls := findClass_of_methodNamed Bd.named
  have hnm := (name_of_methodNamed Bd.named Bd.method).1
  have X0 : Stand p l e ({ frames := 3, cells := 1, slots := 1, locals := 39 } : Room) s m #[(.long pj0)] below meth c s₁ [] 0 0 := Stand.of_body Bd
  have e0 : s₁.heap = h0 := by rw [← hh, Bd.state]; rfl
  have N0 := Fr.nil n0
  have go0 : ∀ t, Steps p.tables e below (s₁.setTop (mkF m 0 #[.val (.long pj0), .second, .unset] [])) t → Steps p.tables e below (s₁.setTop (entryFrame m #[(.long pj0)] 3)) t := fun t k => castTop (ef_own_vLo m pj0) k
  revert go0
  generalize s₁.setTop (entryFrame m #[(.long pj0)] 3) = st0
  intro go0
  obtain ⟨T1, h1, X1, e1, E1, A1, D1, -, st1⟩ := newO X0 hx hZ hown (hw _ (List.mem_of_getElem? (i := 25) rfl)) (hw _ (List.mem_of_getElem? (i := 26) rfl)) (hw _ (List.mem_of_getElem? (i := 22) rfl)) e0 (g := (mkF m 31 #[.val (.long pj0), .second, .val (.int (128 : Int32))] [])) rfl (hb hby d7_31) (by decide) (by decide)
  obtain ⟨b1, g1⟩ : ∃ zsz, zsz = h0.size := ⟨_, rfl⟩
  rw [← g1] at A1 D1 st1
  have ge1 : n0 ≤ b1 := Nat.le_trans Z0 (Nat.le_of_eq g1.symm)
  have sz1 : h0.size ≤ b1 := Nat.le_trans (Keep.refl h0 ([] : List Addr)).1 (Nat.le_of_eq g1.symm)
  have Z1 : n0 ≤ h1.size := Nat.le_trans Z0 E1.1
  have K1 : Keep h0 h1 ([] : List Addr) := (Keep.refl h0 ([] : List Addr)).ext E1
  have F1_value : Fld Z h1 b1 "java/lang/Long" "value" "J" (.long (0 : Int64)) := D1 (Or.inr (hw _ (List.mem_of_getElem? (i := 39) rfl))) (ty := .long) (by decide)
  obtain ⟨_, _, ⟨T2, L2, k2, n2⟩, -, X2, ⟨Lc2, hQ2, l2, y2, z2⟩, st2⟩ := X1.specialBack hx (y := (⟨"java/lang/Long", "<init>", "(J)V"⟩ : MethodName)) rfl hown (mvT hZ (hw _ (List.mem_of_getElem? (i := 27) rfl))) (mvT hZ (hw _ (List.mem_of_getElem? (i := 28) rfl))) (mvT hZ (hw _ (List.mem_of_getElem? (i := 30) rfl))) (by decide) (backOf (W := 1) (own_long l Z a0 hw [] b1 pj0 h1 n0 Z1 A1 F1_value ge1) hZ (hw _ (List.mem_of_getElem? (i := 30) rfl)) (hw _ (List.mem_of_getElem? (i := 22) rfl)) (by decide) (by decide)) (g := (mkF m 36 #[.val (.long pj0), .second, .val (.int (128 : Int32))] [(.long pj0), (.ref b1), (.ref b1)])) rfl (by rw [hml]; rfl) (Steps.refl _) (a := b1) (argsL := [(.long pj0)]) (rest := [(.ref b1)]) (lenOf pd_8 rfl) rfl (by show 2 * 0 + _ ≤ _; exact Nat.le_of_eq rfl) (hb hby d7_36) (fun _ _ => ⟨rfl, e1, (by decide : 1 + 0 ≤ _), (by decide : 1 + 0 ≤ _)⟩)
  dsimp only [Pt.U, Pt.locs, Pt.cells, Pt.slots] at X2 l2 y2 z2 st2 hQ2
  subst l2 y2 z2
  obtain ⟨Nq2, rfl, Kc2, p2_0⟩ := hQ2
  have N2 := Fr.app N0 Nq2
  have K2 : Keep h0 T2.heap ([] : List Addr) := K1.trans Kc2 (allS (P := fun x => x ∈ ([] : List Addr) ∨ h0.size ≤ x) (Or.inr sz1) all0)
  have Z2 : n0 ≤ T2.heap.size := Nat.le_trans Z1 Kc2.1
  have go3 : ∀ t, Steps p.tables e below (T2.setTop (mkF m 39 #[.val (.long pj0), .second, .val (.int (128 : Int32))] [(.ref b1)])) t → Steps p.tables e below st0 t := by
    intro t kt
    refine go0 t ?_
    refine XS.sipush X0.here hx rfl (hb hby d7_0) ?_
    show Steps p.tables e below (s₁.setTop (mkF m 3 #[.val (.long pj0), .second, .unset] [(.int (128 : Int32))])) _
    refine XS.istoreN X0.here hx rfl (hb hby d7_3) rfl (l' := #[.val (.long pj0), .second, .val (.int (128 : Int32))]) rfl ?_
    show Steps p.tables e below (s₁.setTop (mkF m 4 #[.val (.long pj0), .second, .val (.int (128 : Int32))] [])) _
    refine XS.lloadN X0.here hx rfl (hb hby d7_4) rfl ?_
    show Steps p.tables e below (s₁.setTop (mkF m 5 #[.val (.long pj0), .second, .val (.int (128 : Int32))] [(.long pj0)])) _
    refine X0.ldc2Long hx hown (mvT hZ (hw _ (List.mem_of_getElem? (i := 24) rfl))) (g := (mkF m 5 #[.val (.long pj0), .second, .val (.int (128 : Int32))] [(.long pj0)])) rfl (hb hby d7_5) _ ?_
    show Steps p.tables e below (s₁.setTop (mkF m 8 #[.val (.long pj0), .second, .val (.int (128 : Int32))] [(.long (-128 : Int64)), (.long pj0)])) _
    refine XS.lcmp X0.here hx rfl (hb hby d7_8) rfl ?_
    show Steps p.tables e below (s₁.setTop (mkF m 9 #[.val (.long pj0), .second, .val (.int (128 : Int32))] [(.int (lcmpW pj0 (-128 : Int64)))])) _
    refine XS.ifYes X0.here hx rfl (pc0 := 9) (pc' := 31) rfl (hb hby d7_9) rfl (Jvm.Free.XT.ll_lt_t P0) (by decide) (by decide) ?_
    show Steps p.tables e below (s₁.setTop (mkF m 31 #[.val (.long pj0), .second, .val (.int (128 : Int32))] [])) _
    refine st1 _ ?_
    show Steps p.tables e below (T1.setTop (mkF m 34 #[.val (.long pj0), .second, .val (.int (128 : Int32))] [(.ref b1)])) _
    refine XS.dup X1.here hx rfl (hb hby d7_34) rfl rfl ?_
    show Steps p.tables e below (T1.setTop (mkF m 35 #[.val (.long pj0), .second, .val (.int (128 : Int32))] [(.ref b1), (.ref b1)])) _
    refine XS.lloadN X1.here hx rfl (hb hby d7_35) rfl ?_
    show Steps p.tables e below (T1.setTop (mkF m 36 #[.val (.long pj0), .second, .val (.int (128 : Int32))] [(.long pj0), (.ref b1), (.ref b1)])) _
    refine st2.trans ?_
    show Steps p.tables e below (T2.setTop (mkF m 39 #[.val (.long pj0), .second, .val (.int (128 : Int32))] [(.ref b1)])) _
    exact kt
  obtain ⟨fs, hr, hrun, hended, hW, hsame⟩ := X2.leave (v := some (.ref b1)) (fun h => by rw [Bd.returns] at h; cases h)
  refine ⟨_, _, go3 _ ?_, hrun, hended, _, _, rfl, ?_, ⟨_, rfl⟩, hW, hsame.mono (by decide) (by decide)⟩
  · jvm_step X2.here [X2.here.top, hx, (hb hby d7_39), X2.method', Bd.returns, Value.isRef, FieldType.isReference]
    first | (intro acts; rw [hr _ acts rfl rfl rfl]) | rw [hr _ _ rfl rfl rfl]
    exact Steps.refl _
  · show Q_own_vLo Z pj0 h0 n0 _ T2.heap _
    exact ⟨N2, b1, rfl, sz1, K2, p2_0⟩
theorem ef_own_vHi (m : MethodId) (pj0 : Int64) : entryFrame m #[(.long pj0)] 3 = mkF m 0 #[.val (.long pj0), .second, .unset] [] := by first | (simp [entryFrame, mkF, argsToLocals, Value.category]; done) | rfl
def Q_own_vHi (Z : State) (pj0 : Int64)  (h0 : Heap) (n0 : Nat) (v : Option Value) (h : Heap) (L : List Loc) : Prop := Fr n0 L ∧ ∃ (bb : Addr), v = some (.ref bb) ∧ h0.size ≤ bb ∧ Keep h0 h ([] : List Addr) ∧ Exa Z h bb "java/lang/Long"
set_option maxRecDepth 65536 in
set_option maxHeartbeats 40000000 in
theorem own_vHi (l : Launch) (Z : State) (a0 : Array Value) (hw : ∀ d ∈ tables_1, d.before a0 Z = true) (ws : List Jvm.Cond) (pj0 : Int64)  (h0 : Heap) (n0 : Nat) (Z0 : n0 ≤ h0.size) (P0 : ¬ (pj0 < (-128 : Int64))) (P1 : (127 : Int64) < pj0) :
    MetFree l (⟨"java/lang/Long", "valueOf", "(J)Ljava/lang/Long;"⟩ : MethodName) (head1 (Jvm.Cond.code (⟨"java/lang/Long", "valueOf", "(J)Ljava/lang/Long;"⟩ : MethodName) jdk_35_method_24_code 3 (some (.object "java/lang/Long")) :: ws) ({ frames := 3, cells := 1, slots := 1, locals := 39 } : Room)) (fun a U => a = #[(.long pj0)] ∧ Z.Warmed39 U.vm ∧ U.heap = h0) (fun _ _ _ _ _ => True) (fun _ U o U' => ∃ v L, o = .returned v ∧ Q_own_vHi Z pj0 h0 n0 v U'.heap L ∧ FrameEnd U o U' L ({ frames := 3, cells := 1, slots := 1, locals := 39 } : Room).cells ({ frames := 3, cells := 1, slots := 1, locals := 39 } : Room).slots) := by
  refine MetFree.of_bodySF (plainFor_of_name pn_6) hisR ?_
  intro p e s m args below meth c s₁ Bd hml0 hP hK
  obtain ⟨rfl, hZ, hh⟩ := hP
  have hx := Bd.exec
  have hby := Bd.bytes
  have hml : c.maxLocals = 3 := hml0
  have hown : s.vm.findClass "java/lang/Long" = some m.cls := findClass_of_methodNamed Bd.named
  have hnm := (name_of_methodNamed Bd.named Bd.method).1
  have X0 : Stand p l e ({ frames := 3, cells := 1, slots := 1, locals := 39 } : Room) s m #[(.long pj0)] below meth c s₁ [] 0 0 := Stand.of_body Bd
  have e0 : s₁.heap = h0 := by rw [← hh, Bd.state]; rfl
  have N0 := Fr.nil n0
  have go0 : ∀ t, Steps p.tables e below (s₁.setTop (mkF m 0 #[.val (.long pj0), .second, .unset] [])) t → Steps p.tables e below (s₁.setTop (entryFrame m #[(.long pj0)] 3)) t := fun t k => castTop (ef_own_vHi m pj0) k
  revert go0
  generalize s₁.setTop (entryFrame m #[(.long pj0)] 3) = st0
  intro go0
  obtain ⟨T1, h1, X1, e1, E1, A1, D1, -, st1⟩ := newO X0 hx hZ hown (hw _ (List.mem_of_getElem? (i := 25) rfl)) (hw _ (List.mem_of_getElem? (i := 26) rfl)) (hw _ (List.mem_of_getElem? (i := 22) rfl)) e0 (g := (mkF m 31 #[.val (.long pj0), .second, .val (.int (128 : Int32))] [])) rfl (hb hby d7_31) (by decide) (by decide)
  obtain ⟨b1, g1⟩ : ∃ zsz, zsz = h0.size := ⟨_, rfl⟩
  rw [← g1] at A1 D1 st1
  have ge1 : n0 ≤ b1 := Nat.le_trans Z0 (Nat.le_of_eq g1.symm)
  have sz1 : h0.size ≤ b1 := Nat.le_trans (Keep.refl h0 ([] : List Addr)).1 (Nat.le_of_eq g1.symm)
  have Z1 : n0 ≤ h1.size := Nat.le_trans Z0 E1.1
  have K1 : Keep h0 h1 ([] : List Addr) := (Keep.refl h0 ([] : List Addr)).ext E1
  have F1_value : Fld Z h1 b1 "java/lang/Long" "value" "J" (.long (0 : Int64)) := D1 (Or.inr (hw _ (List.mem_of_getElem? (i := 39) rfl))) (ty := .long) (by decide)
  obtain ⟨_, _, ⟨T2, L2, k2, n2⟩, -, X2, ⟨Lc2, hQ2, l2, y2, z2⟩, st2⟩ := X1.specialBack hx (y := (⟨"java/lang/Long", "<init>", "(J)V"⟩ : MethodName)) rfl hown (mvT hZ (hw _ (List.mem_of_getElem? (i := 27) rfl))) (mvT hZ (hw _ (List.mem_of_getElem? (i := 28) rfl))) (mvT hZ (hw _ (List.mem_of_getElem? (i := 30) rfl))) (by decide) (backOf (W := 1) (own_long l Z a0 hw [] b1 pj0 h1 n0 Z1 A1 F1_value ge1) hZ (hw _ (List.mem_of_getElem? (i := 30) rfl)) (hw _ (List.mem_of_getElem? (i := 22) rfl)) (by decide) (by decide)) (g := (mkF m 36 #[.val (.long pj0), .second, .val (.int (128 : Int32))] [(.long pj0), (.ref b1), (.ref b1)])) rfl (by rw [hml]; rfl) (Steps.refl _) (a := b1) (argsL := [(.long pj0)]) (rest := [(.ref b1)]) (lenOf pd_8 rfl) rfl (by show 2 * 0 + _ ≤ _; exact Nat.le_of_eq rfl) (hb hby d7_36) (fun _ _ => ⟨rfl, e1, (by decide : 1 + 0 ≤ _), (by decide : 1 + 0 ≤ _)⟩)
  dsimp only [Pt.U, Pt.locs, Pt.cells, Pt.slots] at X2 l2 y2 z2 st2 hQ2
  subst l2 y2 z2
  obtain ⟨Nq2, rfl, Kc2, p2_0⟩ := hQ2
  have N2 := Fr.app N0 Nq2
  have K2 : Keep h0 T2.heap ([] : List Addr) := K1.trans Kc2 (allS (P := fun x => x ∈ ([] : List Addr) ∨ h0.size ≤ x) (Or.inr sz1) all0)
  have Z2 : n0 ≤ T2.heap.size := Nat.le_trans Z1 Kc2.1
  have go3 : ∀ t, Steps p.tables e below (T2.setTop (mkF m 39 #[.val (.long pj0), .second, .val (.int (128 : Int32))] [(.ref b1)])) t → Steps p.tables e below st0 t := by
    intro t kt
    refine go0 t ?_
    refine XS.sipush X0.here hx rfl (hb hby d7_0) ?_
    show Steps p.tables e below (s₁.setTop (mkF m 3 #[.val (.long pj0), .second, .unset] [(.int (128 : Int32))])) _
    refine XS.istoreN X0.here hx rfl (hb hby d7_3) rfl (l' := #[.val (.long pj0), .second, .val (.int (128 : Int32))]) rfl ?_
    show Steps p.tables e below (s₁.setTop (mkF m 4 #[.val (.long pj0), .second, .val (.int (128 : Int32))] [])) _
    refine XS.lloadN X0.here hx rfl (hb hby d7_4) rfl ?_
    show Steps p.tables e below (s₁.setTop (mkF m 5 #[.val (.long pj0), .second, .val (.int (128 : Int32))] [(.long pj0)])) _
    refine X0.ldc2Long hx hown (mvT hZ (hw _ (List.mem_of_getElem? (i := 24) rfl))) (g := (mkF m 5 #[.val (.long pj0), .second, .val (.int (128 : Int32))] [(.long pj0)])) rfl (hb hby d7_5) _ ?_
    show Steps p.tables e below (s₁.setTop (mkF m 8 #[.val (.long pj0), .second, .val (.int (128 : Int32))] [(.long (-128 : Int64)), (.long pj0)])) _
    refine XS.lcmp X0.here hx rfl (hb hby d7_8) rfl ?_
    show Steps p.tables e below (s₁.setTop (mkF m 9 #[.val (.long pj0), .second, .val (.int (128 : Int32))] [(.int (lcmpW pj0 (-128 : Int64)))])) _
    refine XS.ifNo X0.here hx rfl (hb hby d7_9) rfl (Jvm.Free.XT.ll_lt_f P0) ?_
    show Steps p.tables e below (s₁.setTop (mkF m 12 #[.val (.long pj0), .second, .val (.int (128 : Int32))] [])) _
    refine XS.lloadN X0.here hx rfl (hb hby d7_12) rfl ?_
    show Steps p.tables e below (s₁.setTop (mkF m 13 #[.val (.long pj0), .second, .val (.int (128 : Int32))] [(.long pj0)])) _
    refine X0.ldc2Long hx hown (mvT hZ (hw _ (List.mem_of_getElem? (i := 43) rfl))) (g := (mkF m 13 #[.val (.long pj0), .second, .val (.int (128 : Int32))] [(.long pj0)])) rfl (hb hby d7_13) _ ?_
    show Steps p.tables e below (s₁.setTop (mkF m 16 #[.val (.long pj0), .second, .val (.int (128 : Int32))] [(.long (127 : Int64)), (.long pj0)])) _
    refine XS.lcmp X0.here hx rfl (hb hby d7_16) rfl ?_
    show Steps p.tables e below (s₁.setTop (mkF m 17 #[.val (.long pj0), .second, .val (.int (128 : Int32))] [(.int (lcmpW pj0 (127 : Int64)))])) _
    refine XS.ifYes X0.here hx rfl (pc0 := 17) (pc' := 31) rfl (hb hby d7_17) rfl (Jvm.Free.XT.ll_gt_t P1) (by decide) (by decide) ?_
    show Steps p.tables e below (s₁.setTop (mkF m 31 #[.val (.long pj0), .second, .val (.int (128 : Int32))] [])) _
    refine st1 _ ?_
    show Steps p.tables e below (T1.setTop (mkF m 34 #[.val (.long pj0), .second, .val (.int (128 : Int32))] [(.ref b1)])) _
    refine XS.dup X1.here hx rfl (hb hby d7_34) rfl rfl ?_
    show Steps p.tables e below (T1.setTop (mkF m 35 #[.val (.long pj0), .second, .val (.int (128 : Int32))] [(.ref b1), (.ref b1)])) _
    refine XS.lloadN X1.here hx rfl (hb hby d7_35) rfl ?_
    show Steps p.tables e below (T1.setTop (mkF m 36 #[.val (.long pj0), .second, .val (.int (128 : Int32))] [(.long pj0), (.ref b1), (.ref b1)])) _
    refine st2.trans ?_
    show Steps p.tables e below (T2.setTop (mkF m 39 #[.val (.long pj0), .second, .val (.int (128 : Int32))] [(.ref b1)])) _
    exact kt
  obtain ⟨fs, hr, hrun, hended, hW, hsame⟩ := X2.leave (v := some (.ref b1)) (fun h => by rw [Bd.returns] at h; cases h)
  refine ⟨_, _, go3 _ ?_, hrun, hended, _, _, rfl, ?_, ⟨_, rfl⟩, hW, hsame.mono (by decide) (by decide)⟩
  · jvm_step X2.here [X2.here.top, hx, (hb hby d7_39), X2.method', Bd.returns, Value.isRef, FieldType.isReference]
    first | (intro acts; rw [hr _ acts rfl rfl rfl]) | rw [hr _ _ rfl rfl rfl]
    exact Steps.refl _
  · show Q_own_vHi Z pj0 h0 n0 _ T2.heap _
    exact ⟨N2, b1, rfl, sz1, K2, p2_0⟩
theorem own_place (w : Int64) (h1 : ¬ w < (-128 : Int64)) (h2 : ¬ ((127 : Int64) < w)) : ¬ (w.toInt32 + (128 : Int32)) < 0 ∧ (w.toInt32 + (128 : Int32)) < (256 : Int32) ∧ (w.toInt32 + (128 : Int32)).toNatClampNeg < 256 := by
  have e := c_l2i w
  have e2 := c_iadd w.toInt32 128
  have r := rng32 (w.toInt32 + 128)
  have r2 := rng32 w.toInt32
  have q : (128 : Int32).toInt = 128 := rfl
  have q2 : (256 : Int32).toInt = 256 := rfl
  have q3 : (0 : Int32).toInt = 0 := rfl
  have q4 : (-128 : Int64).toInt = -128 := rfl
  have q5 : (127 : Int64).toInt = 127 := rfl
  rw [Int64.lt_iff_toInt_lt] at h1 h2
  simp only [Int32.lt_iff_toInt_lt, Int32.toNatClampNeg]
  omega

theorem ef_own_vIn (m : MethodId) (pj0 : Int64) : entryFrame m #[(.long pj0)] 3 = mkF m 0 #[.val (.long pj0), .second, .unset] [] := by first | (simp [entryFrame, mkF, argsToLocals, Value.category]; done) | rfl
def Q_own_vIn (Z : State) (pj0 : Int64) (ca : Addr) (kc : ClassId) (vs : List Value) (h0 : Heap) (n0 : Nat) (v : Option Value) (h : Heap) (L : List Loc) : Prop := Fr n0 L ∧ ∃ (xz : Addr), v = some (.ref xz) ∧ Keep h0 h ([] : List Addr) ∧ Exa Z h xz "java/lang/Long"
set_option maxRecDepth 65536 in
set_option maxHeartbeats 40000000 in
theorem own_vIn (l : Launch) (Z : State) (a0 : Array Value) (hw : ∀ d ∈ tables_1, d.before a0 Z = true) (ws : List Jvm.Cond) (pj0 : Int64) (ca : Addr) (kc : ClassId) (vs : List Value) (h0 : Heap) (n0 : Nat) (Z0 : n0 ≤ h0.size) (P0 : ¬ (pj0 < (-128 : Int64))) (P1 : ¬ ((127 : Int64) < pj0)) (P2 : Sta Z h0 "java/lang/Long$LongCache" "cache" "[Ljava/lang/Long;" (.ref ca)) (P3 : Arv Z h0 ca kc (.object "java/lang/Long") (256 : Int32) vs .null) (P4 : own_AllL Z h0 vs 256 "java/lang/Long") :
    MetFree l (⟨"java/lang/Long", "valueOf", "(J)Ljava/lang/Long;"⟩ : MethodName) (head1 (Jvm.Cond.code (⟨"java/lang/Long", "valueOf", "(J)Ljava/lang/Long;"⟩ : MethodName) jdk_35_method_24_code 3 (some (.object "java/lang/Long")) :: ws) ({ frames := 0, cells := 0, slots := 0, locals := 0 } : Room)) (fun a U => a = #[(.long pj0)] ∧ Z.Warmed39 U.vm ∧ U.heap = h0) (fun _ _ _ _ _ => True) (fun _ U o U' => ∃ v L, o = .returned v ∧ Q_own_vIn Z pj0 ca kc vs h0 n0 v U'.heap L ∧ FrameEnd U o U' L ({ frames := 0, cells := 0, slots := 0, locals := 0 } : Room).cells ({ frames := 0, cells := 0, slots := 0, locals := 0 } : Room).slots) := by
  refine MetFree.of_bodySF (plainFor_of_name pn_6) hisR ?_
  intro p e s m args below meth c s₁ Bd hml0 hP hK
  obtain ⟨rfl, hZ, hh⟩ := hP
  have hx := Bd.exec
  have hby := Bd.bytes
  have hml : c.maxLocals = 3 := hml0
  have hown : s.vm.findClass "java/lang/Long" = some m.cls := findClass_of_methodNamed Bd.named
  have hnm := (name_of_methodNamed Bd.named Bd.method).1
  have X0 : Stand p l e ({ frames := 0, cells := 0, slots := 0, locals := 0 } : Room) s m #[(.long pj0)] below meth c s₁ [] 0 0 := Stand.of_body Bd
  have e0 : s₁.heap = h0 := by rw [← hh, Bd.state]; rfl
  have N0 := Fr.nil n0
  have go0 : ∀ t, Steps p.tables e below (s₁.setTop (mkF m 0 #[.val (.long pj0), .second, .unset] [])) t → Steps p.tables e below (s₁.setTop (entryFrame m #[(.long pj0)] 3)) t := fun t k => castTop (ef_own_vIn m pj0) k
  revert go0
  generalize s₁.setTop (entryFrame m #[(.long pj0)] 3) = st0
  intro go0
  obtain ⟨T1, X1, e1, st1⟩ := getS2 X0 hx hZ hown (host := "") (Or.inl (hw _ (List.mem_of_getElem? (i := 44) rfl))) Via.refl e0 P2 (g := (mkF m 20 #[.val (.long pj0), .second, .val (.int (128 : Int32))] [])) rfl (hb hby d7_20)
  obtain ⟨cl2, Ar2, q2, S2, N2, H2, G2⟩ := id P3
  have hp3 := own_place pj0 P0 P1
  obtain ⟨xx, hx3, Ex3⟩ := P4 _ hp3.2.2
  have hin2 : ¬ (((pj0.toInt32) + (128 : Int32)) < 0 ∨ cl2.slots.size ≤ (((pj0.toInt32) + (128 : Int32))).toNatClampNeg) := inb_of S2 ⟨hp3.1, hp3.2.1⟩
  have hat2 : cl2.slots[(((pj0.toInt32) + (128 : Int32))).toNatClampNeg]? = some (.ref xx) := Has.at H2 hin2 hx3
  have go4 : ∀ t, Steps p.tables e below (T1.setTop (mkF m 30 #[.val (.long pj0), .second, .val (.int (128 : Int32))] [(.ref xx)])) t → Steps p.tables e below st0 t := by
    intro t kt
    refine go0 t ?_
    refine XS.sipush X0.here hx rfl (hb hby d7_0) ?_
    show Steps p.tables e below (s₁.setTop (mkF m 3 #[.val (.long pj0), .second, .unset] [(.int (128 : Int32))])) _
    refine XS.istoreN X0.here hx rfl (hb hby d7_3) rfl (l' := #[.val (.long pj0), .second, .val (.int (128 : Int32))]) rfl ?_
    show Steps p.tables e below (s₁.setTop (mkF m 4 #[.val (.long pj0), .second, .val (.int (128 : Int32))] [])) _
    refine XS.lloadN X0.here hx rfl (hb hby d7_4) rfl ?_
    show Steps p.tables e below (s₁.setTop (mkF m 5 #[.val (.long pj0), .second, .val (.int (128 : Int32))] [(.long pj0)])) _
    refine X0.ldc2Long hx hown (mvT hZ (hw _ (List.mem_of_getElem? (i := 24) rfl))) (g := (mkF m 5 #[.val (.long pj0), .second, .val (.int (128 : Int32))] [(.long pj0)])) rfl (hb hby d7_5) _ ?_
    show Steps p.tables e below (s₁.setTop (mkF m 8 #[.val (.long pj0), .second, .val (.int (128 : Int32))] [(.long (-128 : Int64)), (.long pj0)])) _
    refine XS.lcmp X0.here hx rfl (hb hby d7_8) rfl ?_
    show Steps p.tables e below (s₁.setTop (mkF m 9 #[.val (.long pj0), .second, .val (.int (128 : Int32))] [(.int (lcmpW pj0 (-128 : Int64)))])) _
    refine XS.ifNo X0.here hx rfl (hb hby d7_9) rfl (Jvm.Free.XT.ll_lt_f P0) ?_
    show Steps p.tables e below (s₁.setTop (mkF m 12 #[.val (.long pj0), .second, .val (.int (128 : Int32))] [])) _
    refine XS.lloadN X0.here hx rfl (hb hby d7_12) rfl ?_
    show Steps p.tables e below (s₁.setTop (mkF m 13 #[.val (.long pj0), .second, .val (.int (128 : Int32))] [(.long pj0)])) _
    refine X0.ldc2Long hx hown (mvT hZ (hw _ (List.mem_of_getElem? (i := 43) rfl))) (g := (mkF m 13 #[.val (.long pj0), .second, .val (.int (128 : Int32))] [(.long pj0)])) rfl (hb hby d7_13) _ ?_
    show Steps p.tables e below (s₁.setTop (mkF m 16 #[.val (.long pj0), .second, .val (.int (128 : Int32))] [(.long (127 : Int64)), (.long pj0)])) _
    refine XS.lcmp X0.here hx rfl (hb hby d7_16) rfl ?_
    show Steps p.tables e below (s₁.setTop (mkF m 17 #[.val (.long pj0), .second, .val (.int (128 : Int32))] [(.int (lcmpW pj0 (127 : Int64)))])) _
    refine XS.ifNo X0.here hx rfl (hb hby d7_17) rfl (Jvm.Free.XT.ll_gt_f P1) ?_
    show Steps p.tables e below (s₁.setTop (mkF m 20 #[.val (.long pj0), .second, .val (.int (128 : Int32))] [])) _
    refine st1 _ ?_
    show Steps p.tables e below (T1.setTop (mkF m 23 #[.val (.long pj0), .second, .val (.int (128 : Int32))] [(.ref ca)])) _
    refine XS.lloadN X1.here hx rfl (hb hby d7_23) rfl ?_
    show Steps p.tables e below (T1.setTop (mkF m 24 #[.val (.long pj0), .second, .val (.int (128 : Int32))] [(.long pj0), (.ref ca)])) _
    refine XS.l2i X1.here hx rfl (hb hby d7_24) rfl ?_
    show Steps p.tables e below (T1.setTop (mkF m 25 #[.val (.long pj0), .second, .val (.int (128 : Int32))] [(.int (pj0.toInt32)), (.ref ca)])) _
    refine XS.sipush X1.here hx rfl (hb hby d7_25) ?_
    show Steps p.tables e below (T1.setTop (mkF m 28 #[.val (.long pj0), .second, .val (.int (128 : Int32))] [(.int (128 : Int32)), (.int (pj0.toInt32)), (.ref ca)])) _
    refine XS.iadd X1.here hx rfl (hb hby d7_28) rfl ?_
    show Steps p.tables e below (T1.setTop (mkF m 29 #[.val (.long pj0), .second, .val (.int (128 : Int32))] [(.int ((pj0.toInt32) + (128 : Int32))), (.ref ca)])) _
    refine X1.aaload hx (j := ((pj0.toInt32) + (128 : Int32))) (v := (.ref xx)) (by rw [e1]; exact Ar2.1) (State.isArrayOf_alike hZ.alike Ar2.2.1) rfl Ar2.2.2 hin2 hat2 (g := (mkF m 29 #[.val (.long pj0), .second, .val (.int (128 : Int32))] [(.int ((pj0.toInt32) + (128 : Int32))), (.ref ca)])) rfl rfl (hb hby d7_29) _ ?_
    show Steps p.tables e below (T1.setTop (mkF m 30 #[.val (.long pj0), .second, .val (.int (128 : Int32))] [(.ref xx)])) _
    exact kt
  obtain ⟨fs, hr, hrun, hended, hW, hsame⟩ := X1.leave (v := some (.ref xx)) (fun h => by rw [Bd.returns] at h; cases h)
  refine ⟨_, _, go4 _ ?_, hrun, hended, _, _, rfl, ?_, ⟨_, rfl⟩, hW, hsame.mono (by decide) (by decide)⟩
  · jvm_step X1.here [X1.here.top, hx, (hb hby d7_30), X1.method', Bd.returns, Value.isRef, FieldType.isReference]
    first | (intro acts; rw [hr _ acts rfl rfl rfl]) | rw [hr _ _ rfl rfl rfl]
    exact Steps.refl _
  · show Q_own_vIn Z pj0 ca kc vs h0 n0 _ T1.heap _
    rw [e1]
    exact ⟨N0, xx, rfl, (Keep.refl h0 ([] : List Addr)), Ex3⟩
theorem ef_own_eqNull (m : MethodId) (pr0 : Addr) : entryFrame m #[(.ref pr0), .null] 3 = mkF m 0 #[.val (.ref pr0), .val .null, .unset] [] := by first | (simp [entryFrame, mkF, argsToLocals, Value.category]; done) | rfl
def Q_own_eqNull (Z : State) (pr0 : Addr)  (h0 : Heap) (n0 : Nat) (v : Option Value) (h : Heap) (L : List Loc) : Prop := v = some (.int (0 : Int32)) ∧ Fr n0 L ∧ h = h0
set_option maxRecDepth 65536 in
set_option maxHeartbeats 40000000 in
theorem own_eqNull (l : Launch) (Z : State) (a0 : Array Value) (hw : ∀ d ∈ tables_1, d.before a0 Z = true) (ws : List Jvm.Cond) (pr0 : Addr)  (h0 : Heap) (n0 : Nat) (Z0 : n0 ≤ h0.size) :
    MetFree l (⟨"com/example/xmitq/xmitq/MessageId", "equals", "(Ljava/lang/Object;)Z"⟩ : MethodName) (head1 (Jvm.Cond.code (⟨"com/example/xmitq/xmitq/MessageId", "equals", "(Ljava/lang/Object;)Z"⟩ : MethodName) prog_29_method_6_code 3 (some .boolean) :: ws) ({ frames := 0, cells := 0, slots := 0, locals := 0 } : Room)) (fun a U => a = #[(.ref pr0), .null] ∧ Z.Warmed39 U.vm ∧ U.heap = h0) (fun _ _ _ _ _ => True) (fun _ U o U' => ∃ v L, o = .returned v ∧ Q_own_eqNull Z pr0 h0 n0 v U'.heap L ∧ FrameEnd U o U' L ({ frames := 0, cells := 0, slots := 0, locals := 0 } : Room).cells ({ frames := 0, cells := 0, slots := 0, locals := 0 } : Room).slots) := by
  refine MetFree.of_bodySF (plainFor_of_name pn_1) hisR ?_
  intro p e s m args below meth c s₁ Bd hml0 hP hK
  obtain ⟨rfl, hZ, hh⟩ := hP
  have hx := Bd.exec
  have hby := Bd.bytes
  have hml : c.maxLocals = 3 := hml0
  have hown : s.vm.findClass "com/example/xmitq/xmitq/MessageId" = some m.cls := findClass_of_methodNamed Bd.named
  have hnm := (name_of_methodNamed Bd.named Bd.method).1
  have X0 : Stand p l e ({ frames := 0, cells := 0, slots := 0, locals := 0 } : Room) s m #[(.ref pr0), .null] below meth c s₁ [] 0 0 := Stand.of_body Bd
  have e0 : s₁.heap = h0 := by rw [← hh, Bd.state]; rfl
  have N0 := Fr.nil n0
  have go0 : ∀ t, Steps p.tables e below (s₁.setTop (mkF m 0 #[.val (.ref pr0), .val .null, .unset] [])) t → Steps p.tables e below (s₁.setTop (entryFrame m #[(.ref pr0), .null] 3)) t := fun t k => castTop (ef_own_eqNull m pr0) k
  revert go0
  generalize s₁.setTop (entryFrame m #[(.ref pr0), .null] 3) = st0
  intro go0
  have go1 : ∀ t, Steps p.tables e below (s₁.setTop (mkF m 41 #[.val (.ref pr0), .val .null, .unset] [(.int (0 : Int32))])) t → Steps p.tables e below st0 t := by
    intro t kt
    refine go0 t ?_
    refine XS.aloadN X0.here hx rfl (hb hby d9_0) rfl rfl ?_
    show Steps p.tables e below (s₁.setTop (mkF m 1 #[.val (.ref pr0), .val .null, .unset] [.null])) _
    refine X0.instanceofNull hx (g := (mkF m 1 #[.val (.ref pr0), .val .null, .unset] [.null])) rfl rfl (hb hby d9_1) _ ?_
    show Steps p.tables e below (s₁.setTop (mkF m 4 #[.val (.ref pr0), .val .null, .unset] [(.int (0 : Int32))])) _
    refine XS.ifYes X0.here hx rfl (pc0 := 4) (pc' := 40) rfl (hb hby d9_4) rfl ((if0 _ _).trans (teq (by decide : (0 : Int32) = (0 : Int32))).1) (by decide) (by decide) ?_
    show Steps p.tables e below (s₁.setTop (mkF m 40 #[.val (.ref pr0), .val .null, .unset] [])) _
    refine XS.iconst X0.here hx rfl (hb hby d9_40) ?_
    show Steps p.tables e below (s₁.setTop (mkF m 41 #[.val (.ref pr0), .val .null, .unset] [(.int (0 : Int32))])) _
    exact kt
  obtain ⟨fs, hr, hrun, hended, hW, hsame⟩ := X0.leave (v := some (.int (0 : Int32))) (fun h => by rw [Bd.returns] at h; cases h)
  refine ⟨_, _, go1 _ ?_, hrun, hended, _, _, rfl, ?_, ⟨_, rfl⟩, hW, hsame.mono (by decide) (by decide)⟩
  · exact retN X0 hx (t := .boolean) Bd.returns (by simp) (hb hby d9_41) hr
  · show Q_own_eqNull Z pr0 h0 n0 _ s₁.heap _
    rw [e0]
    exact ⟨rfl, N0, rfl⟩
theorem ef_own_eqLong (m : MethodId) (pr0 : Addr) (pr1 : Addr) : entryFrame m #[(.ref pr0), (.ref pr1)] 3 = mkF m 0 #[.val (.ref pr0), .val (.ref pr1), .unset] [] := by first | (simp [entryFrame, mkF, argsToLocals, Value.category]; done) | rfl
def Q_own_eqLong (Z : State) (pr0 : Addr) (pr1 : Addr)  (h0 : Heap) (n0 : Nat) (v : Option Value) (h : Heap) (L : List Loc) : Prop := v = some (.int (0 : Int32)) ∧ Fr n0 L ∧ h = h0
set_option maxRecDepth 65536 in
set_option maxHeartbeats 40000000 in
theorem own_eqLong (l : Launch) (Z : State) (a0 : Array Value) (hw : ∀ d ∈ tables_1, d.before a0 Z = true) (ws : List Jvm.Cond) (pr0 : Addr) (pr1 : Addr)  (h0 : Heap) (n0 : Nat) (Z0 : n0 ≤ h0.size) (P0 : Exa Z h0 pr1 "java/lang/Long") :
    MetFree l (⟨"com/example/xmitq/xmitq/MessageId", "equals", "(Ljava/lang/Object;)Z"⟩ : MethodName) (head1 (Jvm.Cond.code (⟨"com/example/xmitq/xmitq/MessageId", "equals", "(Ljava/lang/Object;)Z"⟩ : MethodName) prog_29_method_6_code 3 (some .boolean) :: ws) ({ frames := 0, cells := 0, slots := 0, locals := 0 } : Room)) (fun a U => a = #[(.ref pr0), (.ref pr1)] ∧ Z.Warmed39 U.vm ∧ U.heap = h0) (fun _ _ _ _ _ => True) (fun _ U o U' => ∃ v L, o = .returned v ∧ Q_own_eqLong Z pr0 pr1 h0 n0 v U'.heap L ∧ FrameEnd U o U' L ({ frames := 0, cells := 0, slots := 0, locals := 0 } : Room).cells ({ frames := 0, cells := 0, slots := 0, locals := 0 } : Room).slots) := by
  refine MetFree.of_bodySF (plainFor_of_name pn_1) hisR ?_
  intro p e s m args below meth c s₁ Bd hml0 hP hK
  obtain ⟨rfl, hZ, hh⟩ := hP
  have hx := Bd.exec
  have hby := Bd.bytes
  have hml : c.maxLocals = 3 := hml0
  have hown : s.vm.findClass "com/example/xmitq/xmitq/MessageId" = some m.cls := findClass_of_methodNamed Bd.named
  have hnm := (name_of_methodNamed Bd.named Bd.method).1
  have X0 : Stand p l e ({ frames := 0, cells := 0, slots := 0, locals := 0 } : Room) s m #[(.ref pr0), (.ref pr1)] below meth c s₁ [] 0 0 := Stand.of_body Bd
  have e0 : s₁.heap = h0 := by rw [← hh, Bd.state]; rfl
  have N0 := Fr.nil n0
  have go0 : ∀ t, Steps p.tables e below (s₁.setTop (mkF m 0 #[.val (.ref pr0), .val (.ref pr1), .unset] [])) t → Steps p.tables e below (s₁.setTop (entryFrame m #[(.ref pr0), (.ref pr1)] 3)) t := fun t k => castTop (ef_own_eqLong m pr0 pr1) k
  revert go0
  generalize s₁.setTop (entryFrame m #[(.ref pr0), (.ref pr1)] 3) = st0
  intro go0
  obtain ⟨T1, X1, e1, st1⟩ := instNo X0 hx hZ hown (hw _ (List.mem_of_getElem? (i := 18) rfl)) e0 P0 (own_NSno (hw _ (List.mem_of_getElem? (i := 40) rfl)) (hw _ (List.mem_of_getElem? (i := 1) rfl)) (NS.step (hw _ (List.mem_of_getElem? (i := 40) rfl)) (NS.step (hw _ (List.mem_of_getElem? (i := 41) rfl)) (own_NSroot (hw _ (List.mem_of_getElem? (i := 42) rfl)) (hw _ (List.mem_of_getElem? (i := 1) rfl)) (by decide)) (by decide)) (by decide)) (by decide)) (g := (mkF m 1 #[.val (.ref pr0), .val (.ref pr1), .unset] [(.ref pr1)])) rfl rfl (hb hby d9_1)
  have go2 : ∀ t, Steps p.tables e below (T1.setTop (mkF m 41 #[.val (.ref pr0), .val (.ref pr1), .unset] [(.int (0 : Int32))])) t → Steps p.tables e below st0 t := by
    intro t kt
    refine go0 t ?_
    refine XS.aloadN X0.here hx rfl (hb hby d9_0) rfl rfl ?_
    show Steps p.tables e below (s₁.setTop (mkF m 1 #[.val (.ref pr0), .val (.ref pr1), .unset] [(.ref pr1)])) _
    refine st1 _ ?_
    show Steps p.tables e below (T1.setTop (mkF m 4 #[.val (.ref pr0), .val (.ref pr1), .unset] [(.int (0 : Int32))])) _
    refine XS.ifYes X1.here hx rfl (pc0 := 4) (pc' := 40) rfl (hb hby d9_4) rfl ((if0 _ _).trans (teq (by decide : (0 : Int32) = (0 : Int32))).1) (by decide) (by decide) ?_
    show Steps p.tables e below (T1.setTop (mkF m 40 #[.val (.ref pr0), .val (.ref pr1), .unset] [])) _
    refine XS.iconst X1.here hx rfl (hb hby d9_40) ?_
    show Steps p.tables e below (T1.setTop (mkF m 41 #[.val (.ref pr0), .val (.ref pr1), .unset] [(.int (0 : Int32))])) _
    exact kt
  obtain ⟨fs, hr, hrun, hended, hW, hsame⟩ := X1.leave (v := some (.int (0 : Int32))) (fun h => by rw [Bd.returns] at h; cases h)
  refine ⟨_, _, go2 _ ?_, hrun, hended, _, _, rfl, ?_, ⟨_, rfl⟩, hW, hsame.mono (by decide) (by decide)⟩
  · exact retN X1 hx (t := .boolean) Bd.returns (by simp) (hb hby d9_41) hr
  · show Q_own_eqLong Z pr0 pr1 h0 n0 _ T1.heap _
    rw [e1]
    exact ⟨rfl, N0, rfl⟩
theorem ef_own_eqYY (m : MethodId) (pr0 : Addr) (pr1 : Addr) : entryFrame m #[(.ref pr0), (.ref pr1)] 3 = mkF m 0 #[.val (.ref pr0), .val (.ref pr1), .unset] [] := by first | (simp [entryFrame, mkF, argsToLocals, Value.category]; done) | rfl
def Q_own_eqYY (Z : State) (pr0 : Addr) (pr1 : Addr) (w_0 : Int64) (w_1 : Int64) (w_2 : Int64) (w_3 : Int64) (h0 : Heap) (n0 : Nat) (v : Option Value) (h : Heap) (L : List Loc) : Prop := v = some (.int (1 : Int32)) ∧ Fr n0 L ∧ h = h0
set_option maxRecDepth 65536 in
set_option maxHeartbeats 40000000 in
theorem own_eqYY (l : Launch) (Z : State) (a0 : Array Value) (hw : ∀ d ∈ tables_1, d.before a0 Z = true) (ws : List Jvm.Cond) (pr0 : Addr) (pr1 : Addr) (w_0 : Int64) (w_1 : Int64) (w_2 : Int64) (w_3 : Int64) (h0 : Heap) (n0 : Nat) (Z0 : n0 ≤ h0.size) (P0 : Exa Z h0 pr1 "com/example/xmitq/xmitq/MessageId") (P1 : Fld Z h0 pr0 "com/example/xmitq/xmitq/MessageId" "high" "J" (.long w_0)) (P2 : Fld Z h0 pr1 "com/example/xmitq/xmitq/MessageId" "high" "J" (.long w_1)) (P3 : w_0 = w_1) (P4 : Fld Z h0 pr0 "com/example/xmitq/xmitq/MessageId" "low" "J" (.long w_2)) (P5 : Fld Z h0 pr1 "com/example/xmitq/xmitq/MessageId" "low" "J" (.long w_3)) (P6 : w_2 = w_3) :
    MetFree l (⟨"com/example/xmitq/xmitq/MessageId", "equals", "(Ljava/lang/Object;)Z"⟩ : MethodName) (head1 (Jvm.Cond.code (⟨"com/example/xmitq/xmitq/MessageId", "equals", "(Ljava/lang/Object;)Z"⟩ : MethodName) prog_29_method_6_code 3 (some .boolean) :: ws) ({ frames := 0, cells := 0, slots := 0, locals := 0 } : Room)) (fun a U => a = #[(.ref pr0), (.ref pr1)] ∧ Z.Warmed39 U.vm ∧ U.heap = h0) (fun _ _ _ _ _ => True) (fun _ U o U' => ∃ v L, o = .returned v ∧ Q_own_eqYY Z pr0 pr1 w_0 w_1 w_2 w_3 h0 n0 v U'.heap L ∧ FrameEnd U o U' L ({ frames := 0, cells := 0, slots := 0, locals := 0 } : Room).cells ({ frames := 0, cells := 0, slots := 0, locals := 0 } : Room).slots) := by
  refine MetFree.of_bodySF (plainFor_of_name pn_1) hisR ?_
  intro p e s m args below meth c s₁ Bd hml0 hP hK
  obtain ⟨rfl, hZ, hh⟩ := hP
  have hx := Bd.exec
  have hby := Bd.bytes
  have hml : c.maxLocals = 3 := hml0
  have hown : s.vm.findClass "com/example/xmitq/xmitq/MessageId" = some m.cls := findClass_of_methodNamed Bd.named
  have hnm := (name_of_methodNamed Bd.named Bd.method).1
  have X0 : Stand p l e ({ frames := 0, cells := 0, slots := 0, locals := 0 } : Room) s m #[(.ref pr0), (.ref pr1)] below meth c s₁ [] 0 0 := Stand.of_body Bd
  have e0 : s₁.heap = h0 := by rw [← hh, Bd.state]; rfl
  have N0 := Fr.nil n0
  have go0 : ∀ t, Steps p.tables e below (s₁.setTop (mkF m 0 #[.val (.ref pr0), .val (.ref pr1), .unset] [])) t → Steps p.tables e below (s₁.setTop (entryFrame m #[(.ref pr0), (.ref pr1)] 3)) t := fun t k => castTop (ef_own_eqYY m pr0 pr1) k
  revert go0
  generalize s₁.setTop (entryFrame m #[(.ref pr0), (.ref pr1)] 3) = st0
  intro go0
  obtain ⟨T1, X1, e1, st1⟩ := instY X0 hx hZ hown (hw _ (List.mem_of_getElem? (i := 18) rfl)) e0 (Ins.self P0) (g := (mkF m 1 #[.val (.ref pr0), .val (.ref pr1), .unset] [(.ref pr1)])) rfl rfl (hb hby d9_1)
  obtain ⟨T2, X2, e2, st2⟩ := castY X1 hx hZ hown (hw _ (List.mem_of_getElem? (i := 18) rfl)) e1 (Ins.self P0) (g := (mkF m 8 #[.val (.ref pr0), .val (.ref pr1), .unset] [(.ref pr1)])) rfl rfl (hb hby d9_8)
  obtain ⟨T3, X3, e3, st3⟩ := getF X2 hx hZ hown (host := "") (Or.inl (hw _ (List.mem_of_getElem? (i := 9) rfl))) Via.refl e2 P1 (g := (mkF m 13 #[.val (.ref pr0), .val (.ref pr1), .val (.ref pr1)] [(.ref pr0)])) rfl rfl (hb hby d9_13)
  obtain ⟨T4, X4, e4, st4⟩ := getF X3 hx hZ hown (host := "") (Or.inl (hw _ (List.mem_of_getElem? (i := 9) rfl))) Via.refl e3 P2 (g := (mkF m 17 #[.val (.ref pr0), .val (.ref pr1), .val (.ref pr1)] [(.ref pr1), (.long w_0)])) rfl rfl (hb hby d9_17)
  obtain ⟨T5, X5, e5, st5⟩ := getF X4 hx hZ hown (host := "") (Or.inl (hw _ (List.mem_of_getElem? (i := 11) rfl))) Via.refl e4 P4 (g := (mkF m 25 #[.val (.ref pr0), .val (.ref pr1), .val (.ref pr1)] [(.ref pr0)])) rfl rfl (hb hby d9_25)
  obtain ⟨T6, X6, e6, st6⟩ := getF X5 hx hZ hown (host := "") (Or.inl (hw _ (List.mem_of_getElem? (i := 11) rfl))) Via.refl e5 P5 (g := (mkF m 29 #[.val (.ref pr0), .val (.ref pr1), .val (.ref pr1)] [(.ref pr1), (.long w_2)])) rfl rfl (hb hby d9_29)
  have go7 : ∀ t, Steps p.tables e below (T6.setTop (mkF m 41 #[.val (.ref pr0), .val (.ref pr1), .val (.ref pr1)] [(.int (1 : Int32))])) t → Steps p.tables e below st0 t := by
    intro t kt
    refine go0 t ?_
    refine XS.aloadN X0.here hx rfl (hb hby d9_0) rfl rfl ?_
    show Steps p.tables e below (s₁.setTop (mkF m 1 #[.val (.ref pr0), .val (.ref pr1), .unset] [(.ref pr1)])) _
    refine st1 _ ?_
    show Steps p.tables e below (T1.setTop (mkF m 4 #[.val (.ref pr0), .val (.ref pr1), .unset] [(.int (1 : Int32))])) _
    refine XS.ifNo X1.here hx rfl (hb hby d9_4) rfl ((if0 _ _).trans (feq (by decide : ¬ ((1 : Int32) = (0 : Int32)))).1) ?_
    show Steps p.tables e below (T1.setTop (mkF m 7 #[.val (.ref pr0), .val (.ref pr1), .unset] [])) _
    refine XS.aloadN X1.here hx rfl (hb hby d9_7) rfl rfl ?_
    show Steps p.tables e below (T1.setTop (mkF m 8 #[.val (.ref pr0), .val (.ref pr1), .unset] [(.ref pr1)])) _
    refine st2 _ ?_
    show Steps p.tables e below (T2.setTop (mkF m 11 #[.val (.ref pr0), .val (.ref pr1), .unset] [(.ref pr1)])) _
    refine XS.astoreN X2.here hx rfl (hb hby d9_11) rfl rfl (l' := #[.val (.ref pr0), .val (.ref pr1), .val (.ref pr1)]) rfl ?_
    show Steps p.tables e below (T2.setTop (mkF m 12 #[.val (.ref pr0), .val (.ref pr1), .val (.ref pr1)] [])) _
    refine XS.aloadN X2.here hx rfl (hb hby d9_12) rfl rfl ?_
    show Steps p.tables e below (T2.setTop (mkF m 13 #[.val (.ref pr0), .val (.ref pr1), .val (.ref pr1)] [(.ref pr0)])) _
    refine st3 _ ?_
    show Steps p.tables e below (T3.setTop (mkF m 16 #[.val (.ref pr0), .val (.ref pr1), .val (.ref pr1)] [(.long w_0)])) _
    refine XS.aloadN X3.here hx rfl (hb hby d9_16) rfl rfl ?_
    show Steps p.tables e below (T3.setTop (mkF m 17 #[.val (.ref pr0), .val (.ref pr1), .val (.ref pr1)] [(.ref pr1), (.long w_0)])) _
    refine st4 _ ?_
    show Steps p.tables e below (T4.setTop (mkF m 20 #[.val (.ref pr0), .val (.ref pr1), .val (.ref pr1)] [(.long w_1), (.long w_0)])) _
    refine XS.lcmp X4.here hx rfl (hb hby d9_20) rfl ?_
    show Steps p.tables e below (T4.setTop (mkF m 21 #[.val (.ref pr0), .val (.ref pr1), .val (.ref pr1)] [(.int (lcmpW w_0 w_1))])) _
    refine XS.ifNo X4.here hx rfl (hb hby d9_21) rfl (Jvm.Free.XT.ll_ne_f P3) ?_
    show Steps p.tables e below (T4.setTop (mkF m 24 #[.val (.ref pr0), .val (.ref pr1), .val (.ref pr1)] [])) _
    refine XS.aloadN X4.here hx rfl (hb hby d9_24) rfl rfl ?_
    show Steps p.tables e below (T4.setTop (mkF m 25 #[.val (.ref pr0), .val (.ref pr1), .val (.ref pr1)] [(.ref pr0)])) _
    refine st5 _ ?_
    show Steps p.tables e below (T5.setTop (mkF m 28 #[.val (.ref pr0), .val (.ref pr1), .val (.ref pr1)] [(.long w_2)])) _
    refine XS.aloadN X5.here hx rfl (hb hby d9_28) rfl rfl ?_
    show Steps p.tables e below (T5.setTop (mkF m 29 #[.val (.ref pr0), .val (.ref pr1), .val (.ref pr1)] [(.ref pr1), (.long w_2)])) _
    refine st6 _ ?_
    show Steps p.tables e below (T6.setTop (mkF m 32 #[.val (.ref pr0), .val (.ref pr1), .val (.ref pr1)] [(.long w_3), (.long w_2)])) _
    refine XS.lcmp X6.here hx rfl (hb hby d9_32) rfl ?_
    show Steps p.tables e below (T6.setTop (mkF m 33 #[.val (.ref pr0), .val (.ref pr1), .val (.ref pr1)] [(.int (lcmpW w_2 w_3))])) _
    refine XS.ifNo X6.here hx rfl (hb hby d9_33) rfl (Jvm.Free.XT.ll_ne_f P6) ?_
    show Steps p.tables e below (T6.setTop (mkF m 36 #[.val (.ref pr0), .val (.ref pr1), .val (.ref pr1)] [])) _
    refine XS.iconst X6.here hx rfl (hb hby d9_36) ?_
    show Steps p.tables e below (T6.setTop (mkF m 37 #[.val (.ref pr0), .val (.ref pr1), .val (.ref pr1)] [(.int (1 : Int32))])) _
    refine XS.goto X6.here hx rfl (pc0 := 37) (pc' := 41) rfl (hb hby d9_37) (by decide) (by decide) ?_
    show Steps p.tables e below (T6.setTop (mkF m 41 #[.val (.ref pr0), .val (.ref pr1), .val (.ref pr1)] [(.int (1 : Int32))])) _
    exact kt
  obtain ⟨fs, hr, hrun, hended, hW, hsame⟩ := X6.leave (v := some (.int (1 : Int32))) (fun h => by rw [Bd.returns] at h; cases h)
  refine ⟨_, _, go7 _ ?_, hrun, hended, _, _, rfl, ?_, ⟨_, rfl⟩, hW, hsame.mono (by decide) (by decide)⟩
  · exact retN X6 hx (t := .boolean) Bd.returns (by simp) (hb hby d9_41) hr
  · show Q_own_eqYY Z pr0 pr1 w_0 w_1 w_2 w_3 h0 n0 _ T6.heap _
    rw [e6]
    exact ⟨rfl, N0, rfl⟩
theorem ef_own_eqN (m : MethodId) (pr0 : Addr) (pr1 : Addr) : entryFrame m #[(.ref pr0), (.ref pr1)] 3 = mkF m 0 #[.val (.ref pr0), .val (.ref pr1), .unset] [] := by first | (simp [entryFrame, mkF, argsToLocals, Value.category]; done) | rfl
def Q_own_eqN (Z : State) (pr0 : Addr) (pr1 : Addr) (w_0 : Int64) (w_1 : Int64) (h0 : Heap) (n0 : Nat) (v : Option Value) (h : Heap) (L : List Loc) : Prop := v = some (.int (0 : Int32)) ∧ Fr n0 L ∧ h = h0
set_option maxRecDepth 65536 in
set_option maxHeartbeats 40000000 in
theorem own_eqN (l : Launch) (Z : State) (a0 : Array Value) (hw : ∀ d ∈ tables_1, d.before a0 Z = true) (ws : List Jvm.Cond) (pr0 : Addr) (pr1 : Addr) (w_0 : Int64) (w_1 : Int64) (h0 : Heap) (n0 : Nat) (Z0 : n0 ≤ h0.size) (P0 : Exa Z h0 pr1 "com/example/xmitq/xmitq/MessageId") (P1 : Fld Z h0 pr0 "com/example/xmitq/xmitq/MessageId" "high" "J" (.long w_0)) (P2 : Fld Z h0 pr1 "com/example/xmitq/xmitq/MessageId" "high" "J" (.long w_1)) (P3 : ¬ (w_0 = w_1)) :
    MetFree l (⟨"com/example/xmitq/xmitq/MessageId", "equals", "(Ljava/lang/Object;)Z"⟩ : MethodName) (head1 (Jvm.Cond.code (⟨"com/example/xmitq/xmitq/MessageId", "equals", "(Ljava/lang/Object;)Z"⟩ : MethodName) prog_29_method_6_code 3 (some .boolean) :: ws) ({ frames := 0, cells := 0, slots := 0, locals := 0 } : Room)) (fun a U => a = #[(.ref pr0), (.ref pr1)] ∧ Z.Warmed39 U.vm ∧ U.heap = h0) (fun _ _ _ _ _ => True) (fun _ U o U' => ∃ v L, o = .returned v ∧ Q_own_eqN Z pr0 pr1 w_0 w_1 h0 n0 v U'.heap L ∧ FrameEnd U o U' L ({ frames := 0, cells := 0, slots := 0, locals := 0 } : Room).cells ({ frames := 0, cells := 0, slots := 0, locals := 0 } : Room).slots) := by
  refine MetFree.of_bodySF (plainFor_of_name pn_1) hisR ?_
  intro p e s m args below meth c s₁ Bd hml0 hP hK
  obtain ⟨rfl, hZ, hh⟩ := hP
  have hx := Bd.exec
  have hby := Bd.bytes
  have hml : c.maxLocals = 3 := hml0
  have hown : s.vm.findClass "com/example/xmitq/xmitq/MessageId" = some m.cls := findClass_of_methodNamed Bd.named
  have hnm := (name_of_methodNamed Bd.named Bd.method).1
  have X0 : Stand p l e ({ frames := 0, cells := 0, slots := 0, locals := 0 } : Room) s m #[(.ref pr0), (.ref pr1)] below meth c s₁ [] 0 0 := Stand.of_body Bd
  have e0 : s₁.heap = h0 := by rw [← hh, Bd.state]; rfl
  have N0 := Fr.nil n0
  have go0 : ∀ t, Steps p.tables e below (s₁.setTop (mkF m 0 #[.val (.ref pr0), .val (.ref pr1), .unset] [])) t → Steps p.tables e below (s₁.setTop (entryFrame m #[(.ref pr0), (.ref pr1)] 3)) t := fun t k => castTop (ef_own_eqN m pr0 pr1) k
  revert go0
  generalize s₁.setTop (entryFrame m #[(.ref pr0), (.ref pr1)] 3) = st0
  intro go0
  obtain ⟨T1, X1, e1, st1⟩ := instY X0 hx hZ hown (hw _ (List.mem_of_getElem? (i := 18) rfl)) e0 (Ins.self P0) (g := (mkF m 1 #[.val (.ref pr0), .val (.ref pr1), .unset] [(.ref pr1)])) rfl rfl (hb hby d9_1)
  obtain ⟨T2, X2, e2, st2⟩ := castY X1 hx hZ hown (hw _ (List.mem_of_getElem? (i := 18) rfl)) e1 (Ins.self P0) (g := (mkF m 8 #[.val (.ref pr0), .val (.ref pr1), .unset] [(.ref pr1)])) rfl rfl (hb hby d9_8)
  obtain ⟨T3, X3, e3, st3⟩ := getF X2 hx hZ hown (host := "") (Or.inl (hw _ (List.mem_of_getElem? (i := 9) rfl))) Via.refl e2 P1 (g := (mkF m 13 #[.val (.ref pr0), .val (.ref pr1), .val (.ref pr1)] [(.ref pr0)])) rfl rfl (hb hby d9_13)
  obtain ⟨T4, X4, e4, st4⟩ := getF X3 hx hZ hown (host := "") (Or.inl (hw _ (List.mem_of_getElem? (i := 9) rfl))) Via.refl e3 P2 (g := (mkF m 17 #[.val (.ref pr0), .val (.ref pr1), .val (.ref pr1)] [(.ref pr1), (.long w_0)])) rfl rfl (hb hby d9_17)
  have go5 : ∀ t, Steps p.tables e below (T4.setTop (mkF m 41 #[.val (.ref pr0), .val (.ref pr1), .val (.ref pr1)] [(.int (0 : Int32))])) t → Steps p.tables e below st0 t := by
    intro t kt
    refine go0 t ?_
    refine XS.aloadN X0.here hx rfl (hb hby d9_0) rfl rfl ?_
    show Steps p.tables e below (s₁.setTop (mkF m 1 #[.val (.ref pr0), .val (.ref pr1), .unset] [(.ref pr1)])) _
    refine st1 _ ?_
    show Steps p.tables e below (T1.setTop (mkF m 4 #[.val (.ref pr0), .val (.ref pr1), .unset] [(.int (1 : Int32))])) _
    refine XS.ifNo X1.here hx rfl (hb hby d9_4) rfl ((if0 _ _).trans (feq (by decide : ¬ ((1 : Int32) = (0 : Int32)))).1) ?_
    show Steps p.tables e below (T1.setTop (mkF m 7 #[.val (.ref pr0), .val (.ref pr1), .unset] [])) _
    refine XS.aloadN X1.here hx rfl (hb hby d9_7) rfl rfl ?_
    show Steps p.tables e below (T1.setTop (mkF m 8 #[.val (.ref pr0), .val (.ref pr1), .unset] [(.ref pr1)])) _
    refine st2 _ ?_
    show Steps p.tables e below (T2.setTop (mkF m 11 #[.val (.ref pr0), .val (.ref pr1), .unset] [(.ref pr1)])) _
    refine XS.astoreN X2.here hx rfl (hb hby d9_11) rfl rfl (l' := #[.val (.ref pr0), .val (.ref pr1), .val (.ref pr1)]) rfl ?_
    show Steps p.tables e below (T2.setTop (mkF m 12 #[.val (.ref pr0), .val (.ref pr1), .val (.ref pr1)] [])) _
    refine XS.aloadN X2.here hx rfl (hb hby d9_12) rfl rfl ?_
    show Steps p.tables e below (T2.setTop (mkF m 13 #[.val (.ref pr0), .val (.ref pr1), .val (.ref pr1)] [(.ref pr0)])) _
    refine st3 _ ?_
    show Steps p.tables e below (T3.setTop (mkF m 16 #[.val (.ref pr0), .val (.ref pr1), .val (.ref pr1)] [(.long w_0)])) _
    refine XS.aloadN X3.here hx rfl (hb hby d9_16) rfl rfl ?_
    show Steps p.tables e below (T3.setTop (mkF m 17 #[.val (.ref pr0), .val (.ref pr1), .val (.ref pr1)] [(.ref pr1), (.long w_0)])) _
    refine st4 _ ?_
    show Steps p.tables e below (T4.setTop (mkF m 20 #[.val (.ref pr0), .val (.ref pr1), .val (.ref pr1)] [(.long w_1), (.long w_0)])) _
    refine XS.lcmp X4.here hx rfl (hb hby d9_20) rfl ?_
    show Steps p.tables e below (T4.setTop (mkF m 21 #[.val (.ref pr0), .val (.ref pr1), .val (.ref pr1)] [(.int (lcmpW w_0 w_1))])) _
    refine XS.ifYes X4.here hx rfl (pc0 := 21) (pc' := 40) rfl (hb hby d9_21) rfl (Jvm.Free.XT.ll_ne_t P3) (by decide) (by decide) ?_
    show Steps p.tables e below (T4.setTop (mkF m 40 #[.val (.ref pr0), .val (.ref pr1), .val (.ref pr1)] [])) _
    refine XS.iconst X4.here hx rfl (hb hby d9_40) ?_
    show Steps p.tables e below (T4.setTop (mkF m 41 #[.val (.ref pr0), .val (.ref pr1), .val (.ref pr1)] [(.int (0 : Int32))])) _
    exact kt
  obtain ⟨fs, hr, hrun, hended, hW, hsame⟩ := X4.leave (v := some (.int (0 : Int32))) (fun h => by rw [Bd.returns] at h; cases h)
  refine ⟨_, _, go5 _ ?_, hrun, hended, _, _, rfl, ?_, ⟨_, rfl⟩, hW, hsame.mono (by decide) (by decide)⟩
  · exact retN X4 hx (t := .boolean) Bd.returns (by simp) (hb hby d9_41) hr
  · show Q_own_eqN Z pr0 pr1 w_0 w_1 h0 n0 _ T4.heap _
    rw [e4]
    exact ⟨rfl, N0, rfl⟩
theorem ef_own_eqYN (m : MethodId) (pr0 : Addr) (pr1 : Addr) : entryFrame m #[(.ref pr0), (.ref pr1)] 3 = mkF m 0 #[.val (.ref pr0), .val (.ref pr1), .unset] [] := by first | (simp [entryFrame, mkF, argsToLocals, Value.category]; done) | rfl
def Q_own_eqYN (Z : State) (pr0 : Addr) (pr1 : Addr) (w_0 : Int64) (w_1 : Int64) (w_2 : Int64) (w_3 : Int64) (h0 : Heap) (n0 : Nat) (v : Option Value) (h : Heap) (L : List Loc) : Prop := v = some (.int (0 : Int32)) ∧ Fr n0 L ∧ h = h0
set_option maxRecDepth 65536 in
set_option maxHeartbeats 40000000 in
theorem own_eqYN (l : Launch) (Z : State) (a0 : Array Value) (hw : ∀ d ∈ tables_1, d.before a0 Z = true) (ws : List Jvm.Cond) (pr0 : Addr) (pr1 : Addr) (w_0 : Int64) (w_1 : Int64) (w_2 : Int64) (w_3 : Int64) (h0 : Heap) (n0 : Nat) (Z0 : n0 ≤ h0.size) (P0 : Exa Z h0 pr1 "com/example/xmitq/xmitq/MessageId") (P1 : Fld Z h0 pr0 "com/example/xmitq/xmitq/MessageId" "high" "J" (.long w_0)) (P2 : Fld Z h0 pr1 "com/example/xmitq/xmitq/MessageId" "high" "J" (.long w_1)) (P3 : w_0 = w_1) (P4 : Fld Z h0 pr0 "com/example/xmitq/xmitq/MessageId" "low" "J" (.long w_2)) (P5 : Fld Z h0 pr1 "com/example/xmitq/xmitq/MessageId" "low" "J" (.long w_3)) (P6 : ¬ (w_2 = w_3)) :
    MetFree l (⟨"com/example/xmitq/xmitq/MessageId", "equals", "(Ljava/lang/Object;)Z"⟩ : MethodName) (head1 (Jvm.Cond.code (⟨"com/example/xmitq/xmitq/MessageId", "equals", "(Ljava/lang/Object;)Z"⟩ : MethodName) prog_29_method_6_code 3 (some .boolean) :: ws) ({ frames := 0, cells := 0, slots := 0, locals := 0 } : Room)) (fun a U => a = #[(.ref pr0), (.ref pr1)] ∧ Z.Warmed39 U.vm ∧ U.heap = h0) (fun _ _ _ _ _ => True) (fun _ U o U' => ∃ v L, o = .returned v ∧ Q_own_eqYN Z pr0 pr1 w_0 w_1 w_2 w_3 h0 n0 v U'.heap L ∧ FrameEnd U o U' L ({ frames := 0, cells := 0, slots := 0, locals := 0 } : Room).cells ({ frames := 0, cells := 0, slots := 0, locals := 0 } : Room).slots) := by
  refine MetFree.of_bodySF (plainFor_of_name pn_1) hisR ?_
  intro p e s m args below meth c s₁ Bd hml0 hP hK
  obtain ⟨rfl, hZ, hh⟩ := hP
  have hx := Bd.exec
  have hby := Bd.bytes
  have hml : c.maxLocals = 3 := hml0
  have hown : s.vm.findClass "com/example/xmitq/xmitq/MessageId" = some m.cls := findClass_of_methodNamed Bd.named
  have hnm := (name_of_methodNamed Bd.named Bd.method).1
  have X0 : Stand p l e ({ frames := 0, cells := 0, slots := 0, locals := 0 } : Room) s m #[(.ref pr0), (.ref pr1)] below meth c s₁ [] 0 0 := Stand.of_body Bd
  have e0 : s₁.heap = h0 := by rw [← hh, Bd.state]; rfl
  have N0 := Fr.nil n0
  have go0 : ∀ t, Steps p.tables e below (s₁.setTop (mkF m 0 #[.val (.ref pr0), .val (.ref pr1), .unset] [])) t → Steps p.tables e below (s₁.setTop (entryFrame m #[(.ref pr0), (.ref pr1)] 3)) t := fun t k => castTop (ef_own_eqYN m pr0 pr1) k
  revert go0
  generalize s₁.setTop (entryFrame m #[(.ref pr0), (.ref pr1)] 3) = st0
  intro go0
  obtain ⟨T1, X1, e1, st1⟩ := instY X0 hx hZ hown (hw _ (List.mem_of_getElem? (i := 18) rfl)) e0 (Ins.self P0) (g := (mkF m 1 #[.val (.ref pr0), .val (.ref pr1), .unset] [(.ref pr1)])) rfl rfl (hb hby d9_1)
  obtain ⟨T2, X2, e2, st2⟩ := castY X1 hx hZ hown (hw _ (List.mem_of_getElem? (i := 18) rfl)) e1 (Ins.self P0) (g := (mkF m 8 #[.val (.ref pr0), .val (.ref pr1), .unset] [(.ref pr1)])) rfl rfl (hb hby d9_8)
  obtain ⟨T3, X3, e3, st3⟩ := getF X2 hx hZ hown (host := "") (Or.inl (hw _ (List.mem_of_getElem? (i := 9) rfl))) Via.refl e2 P1 (g := (mkF m 13 #[.val (.ref pr0), .val (.ref pr1), .val (.ref pr1)] [(.ref pr0)])) rfl rfl (hb hby d9_13)
  obtain ⟨T4, X4, e4, st4⟩ := getF X3 hx hZ hown (host := "") (Or.inl (hw _ (List.mem_of_getElem? (i := 9) rfl))) Via.refl e3 P2 (g := (mkF m 17 #[.val (.ref pr0), .val (.ref pr1), .val (.ref pr1)] [(.ref pr1), (.long w_0)])) rfl rfl (hb hby d9_17)
  obtain ⟨T5, X5, e5, st5⟩ := getF X4 hx hZ hown (host := "") (Or.inl (hw _ (List.mem_of_getElem? (i := 11) rfl))) Via.refl e4 P4 (g := (mkF m 25 #[.val (.ref pr0), .val (.ref pr1), .val (.ref pr1)] [(.ref pr0)])) rfl rfl (hb hby d9_25)
  obtain ⟨T6, X6, e6, st6⟩ := getF X5 hx hZ hown (host := "") (Or.inl (hw _ (List.mem_of_getElem? (i := 11) rfl))) Via.refl e5 P5 (g := (mkF m 29 #[.val (.ref pr0), .val (.ref pr1), .val (.ref pr1)] [(.ref pr1), (.long w_2)])) rfl rfl (hb hby d9_29)
  have go7 : ∀ t, Steps p.tables e below (T6.setTop (mkF m 41 #[.val (.ref pr0), .val (.ref pr1), .val (.ref pr1)] [(.int (0 : Int32))])) t → Steps p.tables e below st0 t := by
    intro t kt
    refine go0 t ?_
    refine XS.aloadN X0.here hx rfl (hb hby d9_0) rfl rfl ?_
    show Steps p.tables e below (s₁.setTop (mkF m 1 #[.val (.ref pr0), .val (.ref pr1), .unset] [(.ref pr1)])) _
    refine st1 _ ?_
    show Steps p.tables e below (T1.setTop (mkF m 4 #[.val (.ref pr0), .val (.ref pr1), .unset] [(.int (1 : Int32))])) _
    refine XS.ifNo X1.here hx rfl (hb hby d9_4) rfl ((if0 _ _).trans (feq (by decide : ¬ ((1 : Int32) = (0 : Int32)))).1) ?_
    show Steps p.tables e below (T1.setTop (mkF m 7 #[.val (.ref pr0), .val (.ref pr1), .unset] [])) _
    refine XS.aloadN X1.here hx rfl (hb hby d9_7) rfl rfl ?_
    show Steps p.tables e below (T1.setTop (mkF m 8 #[.val (.ref pr0), .val (.ref pr1), .unset] [(.ref pr1)])) _
    refine st2 _ ?_
    show Steps p.tables e below (T2.setTop (mkF m 11 #[.val (.ref pr0), .val (.ref pr1), .unset] [(.ref pr1)])) _
    refine XS.astoreN X2.here hx rfl (hb hby d9_11) rfl rfl (l' := #[.val (.ref pr0), .val (.ref pr1), .val (.ref pr1)]) rfl ?_
    show Steps p.tables e below (T2.setTop (mkF m 12 #[.val (.ref pr0), .val (.ref pr1), .val (.ref pr1)] [])) _
    refine XS.aloadN X2.here hx rfl (hb hby d9_12) rfl rfl ?_
    show Steps p.tables e below (T2.setTop (mkF m 13 #[.val (.ref pr0), .val (.ref pr1), .val (.ref pr1)] [(.ref pr0)])) _
    refine st3 _ ?_
    show Steps p.tables e below (T3.setTop (mkF m 16 #[.val (.ref pr0), .val (.ref pr1), .val (.ref pr1)] [(.long w_0)])) _
    refine XS.aloadN X3.here hx rfl (hb hby d9_16) rfl rfl ?_
    show Steps p.tables e below (T3.setTop (mkF m 17 #[.val (.ref pr0), .val (.ref pr1), .val (.ref pr1)] [(.ref pr1), (.long w_0)])) _
    refine st4 _ ?_
    show Steps p.tables e below (T4.setTop (mkF m 20 #[.val (.ref pr0), .val (.ref pr1), .val (.ref pr1)] [(.long w_1), (.long w_0)])) _
    refine XS.lcmp X4.here hx rfl (hb hby d9_20) rfl ?_
    show Steps p.tables e below (T4.setTop (mkF m 21 #[.val (.ref pr0), .val (.ref pr1), .val (.ref pr1)] [(.int (lcmpW w_0 w_1))])) _
    refine XS.ifNo X4.here hx rfl (hb hby d9_21) rfl (Jvm.Free.XT.ll_ne_f P3) ?_
    show Steps p.tables e below (T4.setTop (mkF m 24 #[.val (.ref pr0), .val (.ref pr1), .val (.ref pr1)] [])) _
    refine XS.aloadN X4.here hx rfl (hb hby d9_24) rfl rfl ?_
    show Steps p.tables e below (T4.setTop (mkF m 25 #[.val (.ref pr0), .val (.ref pr1), .val (.ref pr1)] [(.ref pr0)])) _
    refine st5 _ ?_
    show Steps p.tables e below (T5.setTop (mkF m 28 #[.val (.ref pr0), .val (.ref pr1), .val (.ref pr1)] [(.long w_2)])) _
    refine XS.aloadN X5.here hx rfl (hb hby d9_28) rfl rfl ?_
    show Steps p.tables e below (T5.setTop (mkF m 29 #[.val (.ref pr0), .val (.ref pr1), .val (.ref pr1)] [(.ref pr1), (.long w_2)])) _
    refine st6 _ ?_
    show Steps p.tables e below (T6.setTop (mkF m 32 #[.val (.ref pr0), .val (.ref pr1), .val (.ref pr1)] [(.long w_3), (.long w_2)])) _
    refine XS.lcmp X6.here hx rfl (hb hby d9_32) rfl ?_
    show Steps p.tables e below (T6.setTop (mkF m 33 #[.val (.ref pr0), .val (.ref pr1), .val (.ref pr1)] [(.int (lcmpW w_2 w_3))])) _
    refine XS.ifYes X6.here hx rfl (pc0 := 33) (pc' := 40) rfl (hb hby d9_33) rfl (Jvm.Free.XT.ll_ne_t P6) (by decide) (by decide) ?_
    show Steps p.tables e below (T6.setTop (mkF m 40 #[.val (.ref pr0), .val (.ref pr1), .val (.ref pr1)] [])) _
    refine XS.iconst X6.here hx rfl (hb hby d9_40) ?_
    show Steps p.tables e below (T6.setTop (mkF m 41 #[.val (.ref pr0), .val (.ref pr1), .val (.ref pr1)] [(.int (0 : Int32))])) _
    exact kt
  obtain ⟨fs, hr, hrun, hended, hW, hsame⟩ := X6.leave (v := some (.int (0 : Int32))) (fun h => by rw [Bd.returns] at h; cases h)
  refine ⟨_, _, go7 _ ?_, hrun, hended, _, _, rfl, ?_, ⟨_, rfl⟩, hW, hsame.mono (by decide) (by decide)⟩
  · exact retN X6 hx (t := .boolean) Bd.returns (by simp) (hb hby d9_41) hr
  · show Q_own_eqYN Z pr0 pr1 w_0 w_1 w_2 w_3 h0 n0 _ T6.heap _
    rw [e6]
    exact ⟨rfl, N0, rfl⟩
set_option maxRecDepth 65536 in
set_option maxHeartbeats 40000000 in
theorem own_tail30 {p : Program} {l : Launch} {e : Env} {s : State} {m : MethodId} {args : Array Value} {below : List Frame} {meth : Method} {c : Code} {T0 : State} {locs : List Loc} {Z : State} {a0 : Array Value} {h0 : Heap} {n0 : Nat} (ha : Int64) (la : Int64) (h2 : Int64) (l2 : Int64) (xm : Int32) (hbb : Int64) (lbb : Int64) (ca : Addr) (kc : ClassId) (vs : List Value) (X0 : Stand p l e room_1 s m args below meth c T0 locs 0 0) (hx : p.tables.exec = Jvm.exec) (hZ : Z.Warmed39 s.vm) (hw : ∀ d ∈ tables_1, d.before a0 Z = true) (hby : c.code = code) (hml : c.maxLocals = 20) (hown : s.vm.findClass "com/example/xmitq/xmitq/MessageIdEqualsPinLaw" = some m.cls) (e0 : T0.heap = h0) (N0 : Fr n0 locs) (Z0 : n0 ≤ h0.size) (hret : meth.sig.returnType = some .boolean) (hlk : meth.locks = false) (P0 : Sta Z h0 "java/lang/Long$LongCache" "cache" "[Ljava/lang/Long;" (.ref ca)) (P1 : Arv Z h0 ca kc (.object "java/lang/Long") (256 : Int32) vs .null) (P2 : own_AllL Z h0 vs 256 "java/lang/Long") :
    ∃ s₂ o, Steps p.tables e below (T0.setTop (mkF m 30 #[.val (.long ha), .second, .val (.long la), .second, .val (.long h2), .second, .val (.long l2), .second, .val (.int xm), .val (.long hbb), .second, .val (.long lbb), .second, .unset, .unset, .unset, .unset, .unset, .unset, .unset] [])) s₂ ∧ s₂.status = .running ∧ Ended s₂ below o ∧ ∃ v L, o = .returned v ∧ (v = some (.int (1 : Int32)) ∧ Fr n0 L) ∧ FrameEnd s o s₂ L room_1.cells room_1.slots := by
  obtain ⟨st0, hst0⟩ : ∃ zst, zst = T0.setTop (mkF m 30 #[.val (.long ha), .second, .val (.long la), .second, .val (.long h2), .second, .val (.long l2), .second, .val (.int xm), .val (.long hbb), .second, .val (.long lbb), .second, .unset, .unset, .unset, .unset, .unset, .unset, .unset] []) := ⟨_, rfl⟩
  have go0 : ∀ t, Steps p.tables e below (T0.setTop (mkF m 30 #[.val (.long ha), .second, .val (.long la), .second, .val (.long h2), .second, .val (.long l2), .second, .val (.int xm), .val (.long hbb), .second, .val (.long lbb), .second, .unset, .unset, .unset, .unset, .unset, .unset, .unset] [])) t → Steps p.tables e below st0 t := fun t k => by rw [hst0]; exact k
  rw [← hst0]
  obtain ⟨T1, h1, X1, e1, E1, A1, D1, -, st1⟩ := newO X0 hx hZ hown (hw _ (List.mem_of_getElem? (i := 0) rfl)) (hw _ (List.mem_of_getElem? (i := 1) rfl)) (hw _ (List.mem_of_getElem? (i := 2) rfl)) e0 (g := (mkF m 38 #[.val (.long ha), .second, .val (.long la), .second, .val (.long h2), .second, .val (.long l2), .second, .val (.int xm), .val (.long hbb), .second, .val (.long lbb), .second, .val (.int (((xm.toUInt32 >>> ((2 : Int32) &&& 31).toUInt32).toInt32) &&& (3 : Int32))), .unset, .unset, .unset, .unset, .unset, .unset] [])) rfl (hb hby at_38) (by decide) (by decide)
  obtain ⟨b1, g1⟩ : ∃ zsz, zsz = h0.size := ⟨_, rfl⟩
  rw [← g1] at A1 D1 st1
  have ne1_ca : ca ≠ b1 := Nat.ne_of_lt (Nat.lt_of_lt_of_eq P1.lt g1.symm)
  have ge1 : n0 ≤ b1 := Nat.le_trans Z0 (Nat.le_of_eq g1.symm)
  have Z1 : n0 ≤ h1.size := Nat.le_trans Z0 E1.1
  have F1_high : Fld Z h1 b1 "com/example/xmitq/xmitq/MessageId" "high" "J" (.long (0 : Int64)) := D1 (Or.inr (hw _ (List.mem_of_getElem? (i := 10) rfl))) (ty := .long) (by decide)
  have F1_low : Fld Z h1 b1 "com/example/xmitq/xmitq/MessageId" "low" "J" (.long (0 : Int64)) := D1 (Or.inr (hw _ (List.mem_of_getElem? (i := 12) rfl))) (ty := .long) (by decide)
  obtain ⟨_, _, ⟨T2, L2, k2, n2⟩, -, X2, ⟨Lc2, hQ2, l2, y2, z2⟩, st2⟩ := X1.specialBack hx (y := (⟨"com/example/xmitq/xmitq/MessageId", "<init>", "(JJ)V"⟩ : MethodName)) rfl hown (mvT hZ (hw _ (List.mem_of_getElem? (i := 3) rfl))) (mvT hZ (hw _ (List.mem_of_getElem? (i := 4) rfl))) (mvT hZ (hw _ (List.mem_of_getElem? (i := 5) rfl))) (by decide) (backOf (W := 1) (own_init l Z a0 hw [] b1 ha la h1 n0 Z1 A1 F1_high F1_low ge1) hZ (hw _ (List.mem_of_getElem? (i := 5) rfl)) (hw _ (List.mem_of_getElem? (i := 2) rfl)) (by decide) (by decide)) (g := (mkF m 44 #[.val (.long ha), .second, .val (.long la), .second, .val (.long h2), .second, .val (.long l2), .second, .val (.int xm), .val (.long hbb), .second, .val (.long lbb), .second, .val (.int (((xm.toUInt32 >>> ((2 : Int32) &&& 31).toUInt32).toInt32) &&& (3 : Int32))), .unset, .unset, .unset, .unset, .unset, .unset] [(.long la), (.long ha), (.ref b1), (.ref b1)])) rfl (by rw [hml]; rfl) (Steps.refl _) (a := b1) (argsL := [(.long ha), (.long la)]) (rest := [(.ref b1)]) (lenOf pd_11 rfl) rfl (by show 2 * 0 + _ ≤ _; exact Nat.le_of_eq rfl) (hb hby at_44) (fun _ _ => ⟨rfl, e1, (by decide : 1 + 0 ≤ _), (by decide : 2 + 0 ≤ _)⟩)
  dsimp only [Pt.U, Pt.locs, Pt.cells, Pt.slots] at X2 l2 y2 z2 st2 hQ2
  subst l2 y2 z2
  obtain ⟨Nq2, rfl, Kc2, p2_0, p2_1, p2_2⟩ := hQ2
  have N2 := Fr.app N0 Nq2
  have Z2 : n0 ≤ T2.heap.size := Nat.le_trans Z1 Kc2.1
  obtain ⟨T3, h3, X3, e3, E3, A3, D3, -, st3⟩ := newO X2 hx hZ hown (hw _ (List.mem_of_getElem? (i := 0) rfl)) (hw _ (List.mem_of_getElem? (i := 1) rfl)) (hw _ (List.mem_of_getElem? (i := 2) rfl)) rfl (g := (mkF m 49 #[.val (.long ha), .second, .val (.long la), .second, .val (.long h2), .second, .val (.long l2), .second, .val (.int xm), .val (.long hbb), .second, .val (.long lbb), .second, .val (.int (((xm.toUInt32 >>> ((2 : Int32) &&& 31).toUInt32).toInt32) &&& (3 : Int32))), .val (.ref b1), .unset, .unset, .unset, .unset, .unset] [])) rfl (hb hby at_49) (by decide) (by decide)
  obtain ⟨b3, g3⟩ : ∃ zsz, zsz = T2.heap.size := ⟨_, rfl⟩
  rw [← g3] at A3 D3 st3
  have ne3_b1 : b1 ≠ b3 := Nat.ne_of_lt (Nat.lt_of_lt_of_eq p2_0.lt g3.symm)
  have f4 : Arv Z T2.heap ca kc (.object "java/lang/Long") (256 : Int32) vs .null := ((P1.ext E1).keep Kc2 (ninS ne1_ca nin0))
  have ne3_ca : ca ≠ b3 := Nat.ne_of_lt (Nat.lt_of_lt_of_eq f4.lt g3.symm)
  have ge3 : n0 ≤ b3 := Nat.le_trans Z2 (Nat.le_of_eq g3.symm)
  have Z3 : n0 ≤ h3.size := Nat.le_trans Z2 E3.1
  have F3_high : Fld Z h3 b3 "com/example/xmitq/xmitq/MessageId" "high" "J" (.long (0 : Int64)) := D3 (Or.inr (hw _ (List.mem_of_getElem? (i := 10) rfl))) (ty := .long) (by decide)
  have F3_low : Fld Z h3 b3 "com/example/xmitq/xmitq/MessageId" "low" "J" (.long (0 : Int64)) := D3 (Or.inr (hw _ (List.mem_of_getElem? (i := 12) rfl))) (ty := .long) (by decide)
  obtain ⟨_, _, ⟨T5, L5, k5, n5⟩, -, X5, ⟨Lc5, hQ5, l5, y5, z5⟩, st5⟩ := X3.specialBack hx (y := (⟨"com/example/xmitq/xmitq/MessageId", "<init>", "(JJ)V"⟩ : MethodName)) rfl hown (mvT hZ (hw _ (List.mem_of_getElem? (i := 3) rfl))) (mvT hZ (hw _ (List.mem_of_getElem? (i := 4) rfl))) (mvT hZ (hw _ (List.mem_of_getElem? (i := 5) rfl))) (by decide) (backOf (W := 1) (own_init l Z a0 hw [] b3 hbb lbb h3 n0 Z3 A3 F3_high F3_low ge3) hZ (hw _ (List.mem_of_getElem? (i := 5) rfl)) (hw _ (List.mem_of_getElem? (i := 2) rfl)) (by decide) (by decide)) (g := (mkF m 57 #[.val (.long ha), .second, .val (.long la), .second, .val (.long h2), .second, .val (.long l2), .second, .val (.int xm), .val (.long hbb), .second, .val (.long lbb), .second, .val (.int (((xm.toUInt32 >>> ((2 : Int32) &&& 31).toUInt32).toInt32) &&& (3 : Int32))), .val (.ref b1), .unset, .unset, .unset, .unset, .unset] [(.long lbb), (.long hbb), (.ref b3), (.ref b3)])) rfl (by rw [hml]; rfl) (Steps.refl _) (a := b3) (argsL := [(.long hbb), (.long lbb)]) (rest := [(.ref b3)]) (lenOf pd_11 rfl) rfl (by show 2 * 0 + _ ≤ _; exact Nat.le_of_eq rfl) (hb hby at_57) (fun _ _ => ⟨rfl, e3, (by decide : 2 + 0 ≤ _), (by decide : 4 + 0 ≤ _)⟩)
  dsimp only [Pt.U, Pt.locs, Pt.cells, Pt.slots] at X5 l5 y5 z5 st5 hQ5
  subst l5 y5 z5
  obtain ⟨Nq5, rfl, Kc5, p5_0, p5_1, p5_2⟩ := hQ5
  have N5 := Fr.app N2 Nq5
  have Z5 : n0 ≤ T5.heap.size := Nat.le_trans Z3 Kc5.1
  have go6 : ∀ t, Steps p.tables e below (T5.setTop (mkF m 66 #[.val (.long ha), .second, .val (.long la), .second, .val (.long h2), .second, .val (.long l2), .second, .val (.int xm), .val (.long hbb), .second, .val (.long lbb), .second, .val (.int (((xm.toUInt32 >>> ((2 : Int32) &&& 31).toUInt32).toInt32) &&& (3 : Int32))), .val (.ref b1), .val (.ref b3), .unset, .unset, .unset, .unset] [(.int (lcmpW ha hbb))])) t → Steps p.tables e below st0 t := by
    intro t kt
    refine go0 t ?_
    refine XS.iload X0.here hx rfl (hb hby at_30) rfl ?_
    show Steps p.tables e below (T0.setTop (mkF m 32 #[.val (.long ha), .second, .val (.long la), .second, .val (.long h2), .second, .val (.long l2), .second, .val (.int xm), .val (.long hbb), .second, .val (.long lbb), .second, .unset, .unset, .unset, .unset, .unset, .unset, .unset] [(.int xm)])) _
    refine XS.iconst X0.here hx rfl (hb hby at_32) ?_
    show Steps p.tables e below (T0.setTop (mkF m 33 #[.val (.long ha), .second, .val (.long la), .second, .val (.long h2), .second, .val (.long l2), .second, .val (.int xm), .val (.long hbb), .second, .val (.long lbb), .second, .unset, .unset, .unset, .unset, .unset, .unset, .unset] [(.int (2 : Int32)), (.int xm)])) _
    refine XS.iushr X0.here hx rfl (hb hby at_33) rfl ?_
    show Steps p.tables e below (T0.setTop (mkF m 34 #[.val (.long ha), .second, .val (.long la), .second, .val (.long h2), .second, .val (.long l2), .second, .val (.int xm), .val (.long hbb), .second, .val (.long lbb), .second, .unset, .unset, .unset, .unset, .unset, .unset, .unset] [(.int ((xm.toUInt32 >>> ((2 : Int32) &&& 31).toUInt32).toInt32))])) _
    refine XS.iconst X0.here hx rfl (hb hby at_34) ?_
    show Steps p.tables e below (T0.setTop (mkF m 35 #[.val (.long ha), .second, .val (.long la), .second, .val (.long h2), .second, .val (.long l2), .second, .val (.int xm), .val (.long hbb), .second, .val (.long lbb), .second, .unset, .unset, .unset, .unset, .unset, .unset, .unset] [(.int (3 : Int32)), (.int ((xm.toUInt32 >>> ((2 : Int32) &&& 31).toUInt32).toInt32))])) _
    refine XS.iand X0.here hx rfl (hb hby at_35) rfl ?_
    show Steps p.tables e below (T0.setTop (mkF m 36 #[.val (.long ha), .second, .val (.long la), .second, .val (.long h2), .second, .val (.long l2), .second, .val (.int xm), .val (.long hbb), .second, .val (.long lbb), .second, .unset, .unset, .unset, .unset, .unset, .unset, .unset] [(.int (((xm.toUInt32 >>> ((2 : Int32) &&& 31).toUInt32).toInt32) &&& (3 : Int32)))])) _
    refine XS.istore X0.here hx rfl (hb hby at_36) rfl (l' := #[.val (.long ha), .second, .val (.long la), .second, .val (.long h2), .second, .val (.long l2), .second, .val (.int xm), .val (.long hbb), .second, .val (.long lbb), .second, .val (.int (((xm.toUInt32 >>> ((2 : Int32) &&& 31).toUInt32).toInt32) &&& (3 : Int32))), .unset, .unset, .unset, .unset, .unset, .unset]) rfl ?_
    show Steps p.tables e below (T0.setTop (mkF m 38 #[.val (.long ha), .second, .val (.long la), .second, .val (.long h2), .second, .val (.long l2), .second, .val (.int xm), .val (.long hbb), .second, .val (.long lbb), .second, .val (.int (((xm.toUInt32 >>> ((2 : Int32) &&& 31).toUInt32).toInt32) &&& (3 : Int32))), .unset, .unset, .unset, .unset, .unset, .unset] [])) _
    refine st1 _ ?_
    show Steps p.tables e below (T1.setTop (mkF m 41 #[.val (.long ha), .second, .val (.long la), .second, .val (.long h2), .second, .val (.long l2), .second, .val (.int xm), .val (.long hbb), .second, .val (.long lbb), .second, .val (.int (((xm.toUInt32 >>> ((2 : Int32) &&& 31).toUInt32).toInt32) &&& (3 : Int32))), .unset, .unset, .unset, .unset, .unset, .unset] [(.ref b1)])) _
    refine XS.dup X1.here hx rfl (hb hby at_41) rfl rfl ?_
    show Steps p.tables e below (T1.setTop (mkF m 42 #[.val (.long ha), .second, .val (.long la), .second, .val (.long h2), .second, .val (.long l2), .second, .val (.int xm), .val (.long hbb), .second, .val (.long lbb), .second, .val (.int (((xm.toUInt32 >>> ((2 : Int32) &&& 31).toUInt32).toInt32) &&& (3 : Int32))), .unset, .unset, .unset, .unset, .unset, .unset] [(.ref b1), (.ref b1)])) _
    refine XS.lloadN X1.here hx rfl (hb hby at_42) rfl ?_
    show Steps p.tables e below (T1.setTop (mkF m 43 #[.val (.long ha), .second, .val (.long la), .second, .val (.long h2), .second, .val (.long l2), .second, .val (.int xm), .val (.long hbb), .second, .val (.long lbb), .second, .val (.int (((xm.toUInt32 >>> ((2 : Int32) &&& 31).toUInt32).toInt32) &&& (3 : Int32))), .unset, .unset, .unset, .unset, .unset, .unset] [(.long ha), (.ref b1), (.ref b1)])) _
    refine XS.lloadN X1.here hx rfl (hb hby at_43) rfl ?_
    show Steps p.tables e below (T1.setTop (mkF m 44 #[.val (.long ha), .second, .val (.long la), .second, .val (.long h2), .second, .val (.long l2), .second, .val (.int xm), .val (.long hbb), .second, .val (.long lbb), .second, .val (.int (((xm.toUInt32 >>> ((2 : Int32) &&& 31).toUInt32).toInt32) &&& (3 : Int32))), .unset, .unset, .unset, .unset, .unset, .unset] [(.long la), (.long ha), (.ref b1), (.ref b1)])) _
    refine st2.trans ?_
    show Steps p.tables e below (T2.setTop (mkF m 47 #[.val (.long ha), .second, .val (.long la), .second, .val (.long h2), .second, .val (.long l2), .second, .val (.int xm), .val (.long hbb), .second, .val (.long lbb), .second, .val (.int (((xm.toUInt32 >>> ((2 : Int32) &&& 31).toUInt32).toInt32) &&& (3 : Int32))), .unset, .unset, .unset, .unset, .unset, .unset] [(.ref b1)])) _
    refine XS.astore X2.here hx rfl (hb hby at_47) rfl rfl (l' := #[.val (.long ha), .second, .val (.long la), .second, .val (.long h2), .second, .val (.long l2), .second, .val (.int xm), .val (.long hbb), .second, .val (.long lbb), .second, .val (.int (((xm.toUInt32 >>> ((2 : Int32) &&& 31).toUInt32).toInt32) &&& (3 : Int32))), .val (.ref b1), .unset, .unset, .unset, .unset, .unset]) rfl ?_
    show Steps p.tables e below (T2.setTop (mkF m 49 #[.val (.long ha), .second, .val (.long la), .second, .val (.long h2), .second, .val (.long l2), .second, .val (.int xm), .val (.long hbb), .second, .val (.long lbb), .second, .val (.int (((xm.toUInt32 >>> ((2 : Int32) &&& 31).toUInt32).toInt32) &&& (3 : Int32))), .val (.ref b1), .unset, .unset, .unset, .unset, .unset] [])) _
    refine st3 _ ?_
    show Steps p.tables e below (T3.setTop (mkF m 52 #[.val (.long ha), .second, .val (.long la), .second, .val (.long h2), .second, .val (.long l2), .second, .val (.int xm), .val (.long hbb), .second, .val (.long lbb), .second, .val (.int (((xm.toUInt32 >>> ((2 : Int32) &&& 31).toUInt32).toInt32) &&& (3 : Int32))), .val (.ref b1), .unset, .unset, .unset, .unset, .unset] [(.ref b3)])) _
    refine XS.dup X3.here hx rfl (hb hby at_52) rfl rfl ?_
    show Steps p.tables e below (T3.setTop (mkF m 53 #[.val (.long ha), .second, .val (.long la), .second, .val (.long h2), .second, .val (.long l2), .second, .val (.int xm), .val (.long hbb), .second, .val (.long lbb), .second, .val (.int (((xm.toUInt32 >>> ((2 : Int32) &&& 31).toUInt32).toInt32) &&& (3 : Int32))), .val (.ref b1), .unset, .unset, .unset, .unset, .unset] [(.ref b3), (.ref b3)])) _
    refine XS.lload X3.here hx rfl (hb hby at_53) rfl ?_
    show Steps p.tables e below (T3.setTop (mkF m 55 #[.val (.long ha), .second, .val (.long la), .second, .val (.long h2), .second, .val (.long l2), .second, .val (.int xm), .val (.long hbb), .second, .val (.long lbb), .second, .val (.int (((xm.toUInt32 >>> ((2 : Int32) &&& 31).toUInt32).toInt32) &&& (3 : Int32))), .val (.ref b1), .unset, .unset, .unset, .unset, .unset] [(.long hbb), (.ref b3), (.ref b3)])) _
    refine XS.lload X3.here hx rfl (hb hby at_55) rfl ?_
    show Steps p.tables e below (T3.setTop (mkF m 57 #[.val (.long ha), .second, .val (.long la), .second, .val (.long h2), .second, .val (.long l2), .second, .val (.int xm), .val (.long hbb), .second, .val (.long lbb), .second, .val (.int (((xm.toUInt32 >>> ((2 : Int32) &&& 31).toUInt32).toInt32) &&& (3 : Int32))), .val (.ref b1), .unset, .unset, .unset, .unset, .unset] [(.long lbb), (.long hbb), (.ref b3), (.ref b3)])) _
    refine st5.trans ?_
    show Steps p.tables e below (T5.setTop (mkF m 60 #[.val (.long ha), .second, .val (.long la), .second, .val (.long h2), .second, .val (.long l2), .second, .val (.int xm), .val (.long hbb), .second, .val (.long lbb), .second, .val (.int (((xm.toUInt32 >>> ((2 : Int32) &&& 31).toUInt32).toInt32) &&& (3 : Int32))), .val (.ref b1), .unset, .unset, .unset, .unset, .unset] [(.ref b3)])) _
    refine XS.astore X5.here hx rfl (hb hby at_60) rfl rfl (l' := #[.val (.long ha), .second, .val (.long la), .second, .val (.long h2), .second, .val (.long l2), .second, .val (.int xm), .val (.long hbb), .second, .val (.long lbb), .second, .val (.int (((xm.toUInt32 >>> ((2 : Int32) &&& 31).toUInt32).toInt32) &&& (3 : Int32))), .val (.ref b1), .val (.ref b3), .unset, .unset, .unset, .unset]) rfl ?_
    show Steps p.tables e below (T5.setTop (mkF m 62 #[.val (.long ha), .second, .val (.long la), .second, .val (.long h2), .second, .val (.long l2), .second, .val (.int xm), .val (.long hbb), .second, .val (.long lbb), .second, .val (.int (((xm.toUInt32 >>> ((2 : Int32) &&& 31).toUInt32).toInt32) &&& (3 : Int32))), .val (.ref b1), .val (.ref b3), .unset, .unset, .unset, .unset] [])) _
    refine XS.lloadN X5.here hx rfl (hb hby at_62) rfl ?_
    show Steps p.tables e below (T5.setTop (mkF m 63 #[.val (.long ha), .second, .val (.long la), .second, .val (.long h2), .second, .val (.long l2), .second, .val (.int xm), .val (.long hbb), .second, .val (.long lbb), .second, .val (.int (((xm.toUInt32 >>> ((2 : Int32) &&& 31).toUInt32).toInt32) &&& (3 : Int32))), .val (.ref b1), .val (.ref b3), .unset, .unset, .unset, .unset] [(.long ha)])) _
    refine XS.lload X5.here hx rfl (hb hby at_63) rfl ?_
    show Steps p.tables e below (T5.setTop (mkF m 65 #[.val (.long ha), .second, .val (.long la), .second, .val (.long h2), .second, .val (.long l2), .second, .val (.int xm), .val (.long hbb), .second, .val (.long lbb), .second, .val (.int (((xm.toUInt32 >>> ((2 : Int32) &&& 31).toUInt32).toInt32) &&& (3 : Int32))), .val (.ref b1), .val (.ref b3), .unset, .unset, .unset, .unset] [(.long hbb), (.long ha)])) _
    refine XS.lcmp X5.here hx rfl (hb hby at_65) rfl ?_
    show Steps p.tables e below (T5.setTop (mkF m 66 #[.val (.long ha), .second, .val (.long la), .second, .val (.long h2), .second, .val (.long l2), .second, .val (.int xm), .val (.long hbb), .second, .val (.long lbb), .second, .val (.int (((xm.toUInt32 >>> ((2 : Int32) &&& 31).toUInt32).toInt32) &&& (3 : Int32))), .val (.ref b1), .val (.ref b3), .unset, .unset, .unset, .unset] [(.int (lcmpW ha hbb))])) _
    exact kt
  by_cases hc7 : ha = hbb
  · skip
    have go8 : ∀ t, Steps p.tables e below (T5.setTop (mkF m 73 #[.val (.long ha), .second, .val (.long la), .second, .val (.long h2), .second, .val (.long l2), .second, .val (.int xm), .val (.long hbb), .second, .val (.long lbb), .second, .val (.int (((xm.toUInt32 >>> ((2 : Int32) &&& 31).toUInt32).toInt32) &&& (3 : Int32))), .val (.ref b1), .val (.ref b3), .unset, .unset, .unset, .unset] [(.int (lcmpW la lbb))])) t → Steps p.tables e below st0 t := by
      intro t kt
      refine go6 t ?_
      refine XS.ifNo X5.here hx rfl (hb hby at_66) rfl (Jvm.Free.XT.ll_ne_f hc7) ?_
      show Steps p.tables e below (T5.setTop (mkF m 69 #[.val (.long ha), .second, .val (.long la), .second, .val (.long h2), .second, .val (.long l2), .second, .val (.int xm), .val (.long hbb), .second, .val (.long lbb), .second, .val (.int (((xm.toUInt32 >>> ((2 : Int32) &&& 31).toUInt32).toInt32) &&& (3 : Int32))), .val (.ref b1), .val (.ref b3), .unset, .unset, .unset, .unset] [])) _
      refine XS.lloadN X5.here hx rfl (hb hby at_69) rfl ?_
      show Steps p.tables e below (T5.setTop (mkF m 70 #[.val (.long ha), .second, .val (.long la), .second, .val (.long h2), .second, .val (.long l2), .second, .val (.int xm), .val (.long hbb), .second, .val (.long lbb), .second, .val (.int (((xm.toUInt32 >>> ((2 : Int32) &&& 31).toUInt32).toInt32) &&& (3 : Int32))), .val (.ref b1), .val (.ref b3), .unset, .unset, .unset, .unset] [(.long la)])) _
      refine XS.lload X5.here hx rfl (hb hby at_70) rfl ?_
      show Steps p.tables e below (T5.setTop (mkF m 72 #[.val (.long ha), .second, .val (.long la), .second, .val (.long h2), .second, .val (.long l2), .second, .val (.int xm), .val (.long hbb), .second, .val (.long lbb), .second, .val (.int (((xm.toUInt32 >>> ((2 : Int32) &&& 31).toUInt32).toInt32) &&& (3 : Int32))), .val (.ref b1), .val (.ref b3), .unset, .unset, .unset, .unset] [(.long lbb), (.long la)])) _
      refine XS.lcmp X5.here hx rfl (hb hby at_72) rfl ?_
      show Steps p.tables e below (T5.setTop (mkF m 73 #[.val (.long ha), .second, .val (.long la), .second, .val (.long h2), .second, .val (.long l2), .second, .val (.int xm), .val (.long hbb), .second, .val (.long lbb), .second, .val (.int (((xm.toUInt32 >>> ((2 : Int32) &&& 31).toUInt32).toInt32) &&& (3 : Int32))), .val (.ref b1), .val (.ref b3), .unset, .unset, .unset, .unset] [(.int (lcmpW la lbb))])) _
      exact kt
    by_cases hc9 : la = lbb
    · skip
      have go10 : ∀ t, Steps p.tables e below (T5.setTop (mkF m 86 #[.val (.long ha), .second, .val (.long la), .second, .val (.long h2), .second, .val (.long l2), .second, .val (.int xm), .val (.long hbb), .second, .val (.long lbb), .second, .val (.int (((xm.toUInt32 >>> ((2 : Int32) &&& 31).toUInt32).toInt32) &&& (3 : Int32))), .val (.ref b1), .val (.ref b3), .val (.int (1 : Int32)), .unset, .unset, .unset] [(.int (1 : Int32)), (.int (((xm.toUInt32 >>> ((2 : Int32) &&& 31).toUInt32).toInt32) &&& (3 : Int32)))])) t → Steps p.tables e below st0 t := by
        intro t kt
        refine go8 t ?_
        refine XS.ifNo X5.here hx rfl (hb hby at_73) rfl (Jvm.Free.XT.ll_ne_f hc9) ?_
        show Steps p.tables e below (T5.setTop (mkF m 76 #[.val (.long ha), .second, .val (.long la), .second, .val (.long h2), .second, .val (.long l2), .second, .val (.int xm), .val (.long hbb), .second, .val (.long lbb), .second, .val (.int (((xm.toUInt32 >>> ((2 : Int32) &&& 31).toUInt32).toInt32) &&& (3 : Int32))), .val (.ref b1), .val (.ref b3), .unset, .unset, .unset, .unset] [])) _
        refine XS.iconst X5.here hx rfl (hb hby at_76) ?_
        show Steps p.tables e below (T5.setTop (mkF m 77 #[.val (.long ha), .second, .val (.long la), .second, .val (.long h2), .second, .val (.long l2), .second, .val (.int xm), .val (.long hbb), .second, .val (.long lbb), .second, .val (.int (((xm.toUInt32 >>> ((2 : Int32) &&& 31).toUInt32).toInt32) &&& (3 : Int32))), .val (.ref b1), .val (.ref b3), .unset, .unset, .unset, .unset] [(.int (1 : Int32))])) _
        refine XS.goto X5.here hx rfl (pc0 := 77) (pc' := 81) rfl (hb hby at_77) (by decide) (by decide) ?_
        show Steps p.tables e below (T5.setTop (mkF m 81 #[.val (.long ha), .second, .val (.long la), .second, .val (.long h2), .second, .val (.long l2), .second, .val (.int xm), .val (.long hbb), .second, .val (.long lbb), .second, .val (.int (((xm.toUInt32 >>> ((2 : Int32) &&& 31).toUInt32).toInt32) &&& (3 : Int32))), .val (.ref b1), .val (.ref b3), .unset, .unset, .unset, .unset] [(.int (1 : Int32))])) _
        refine XS.istore X5.here hx rfl (hb hby at_81) rfl (l' := #[.val (.long ha), .second, .val (.long la), .second, .val (.long h2), .second, .val (.long l2), .second, .val (.int xm), .val (.long hbb), .second, .val (.long lbb), .second, .val (.int (((xm.toUInt32 >>> ((2 : Int32) &&& 31).toUInt32).toInt32) &&& (3 : Int32))), .val (.ref b1), .val (.ref b3), .val (.int (1 : Int32)), .unset, .unset, .unset]) rfl ?_
        show Steps p.tables e below (T5.setTop (mkF m 83 #[.val (.long ha), .second, .val (.long la), .second, .val (.long h2), .second, .val (.long l2), .second, .val (.int xm), .val (.long hbb), .second, .val (.long lbb), .second, .val (.int (((xm.toUInt32 >>> ((2 : Int32) &&& 31).toUInt32).toInt32) &&& (3 : Int32))), .val (.ref b1), .val (.ref b3), .val (.int (1 : Int32)), .unset, .unset, .unset] [])) _
        refine XS.iload X5.here hx rfl (hb hby at_83) rfl ?_
        show Steps p.tables e below (T5.setTop (mkF m 85 #[.val (.long ha), .second, .val (.long la), .second, .val (.long h2), .second, .val (.long l2), .second, .val (.int xm), .val (.long hbb), .second, .val (.long lbb), .second, .val (.int (((xm.toUInt32 >>> ((2 : Int32) &&& 31).toUInt32).toInt32) &&& (3 : Int32))), .val (.ref b1), .val (.ref b3), .val (.int (1 : Int32)), .unset, .unset, .unset] [(.int (((xm.toUInt32 >>> ((2 : Int32) &&& 31).toUInt32).toInt32) &&& (3 : Int32)))])) _
        refine XS.iconst X5.here hx rfl (hb hby at_85) ?_
        show Steps p.tables e below (T5.setTop (mkF m 86 #[.val (.long ha), .second, .val (.long la), .second, .val (.long h2), .second, .val (.long l2), .second, .val (.int xm), .val (.long hbb), .second, .val (.long lbb), .second, .val (.int (((xm.toUInt32 >>> ((2 : Int32) &&& 31).toUInt32).toInt32) &&& (3 : Int32))), .val (.ref b1), .val (.ref b3), .val (.int (1 : Int32)), .unset, .unset, .unset] [(.int (1 : Int32)), (.int (((xm.toUInt32 >>> ((2 : Int32) &&& 31).toUInt32).toInt32) &&& (3 : Int32)))])) _
        exact kt
      by_cases hc11 : (((xm.toUInt32 >>> ((2 : Int32) &&& 31).toUInt32).toInt32) &&& (3 : Int32)) = (1 : Int32)
      · skip
        have f13 : Exa Z T5.heap b1 "com/example/xmitq/xmitq/MessageId" := ((p2_0.ext E3).keep Kc5)
        obtain ⟨cq12, kq12, q12a, q12b, q12c⟩ := isOf hZ rfl f13
        obtain ⟨_, _, ⟨T12, L12, k12, n12⟩, -, X12, ⟨Lc12, hQ12, l12, y12, z12⟩, st12⟩ := X5.virtualBack hx (y := (⟨"com/example/xmitq/xmitq/MessageId", "equals", "(Ljava/lang/Object;)Z"⟩ : MethodName)) (z := (⟨"com/example/xmitq/xmitq/MessageId", "equals", "(Ljava/lang/Object;)Z"⟩ : MethodName)) hown (mvT hZ (hw _ (List.mem_of_getElem? (i := 13) rfl))) (mvT hZ (hw _ (List.mem_of_getElem? (i := 14) rfl))) (notFace_of_selects (args := #[]) (mvT hZ (hw _ (List.mem_of_getElem? (i := 16) rfl)))) (mvT hZ (hw _ (List.mem_of_getElem? (i := 16) rfl))) (mvT hZ (hw _ (List.mem_of_getElem? (i := 15) rfl))) (by decide) (backOf (W := 0) (own_eqNull l Z a0 hw [] b1 T5.heap n0 Z5 ) hZ (hw _ (List.mem_of_getElem? (i := 17) rfl)) (hw _ (List.mem_of_getElem? (i := 2) rfl)) (by decide) (by decide)) q12a q12c (g := (mkF m 128 #[.val (.long ha), .second, .val (.long la), .second, .val (.long h2), .second, .val (.long l2), .second, .val (.int xm), .val (.long hbb), .second, .val (.long lbb), .second, .val (.int (((xm.toUInt32 >>> ((2 : Int32) &&& 31).toUInt32).toInt32) &&& (3 : Int32))), .val (.ref b1), .val (.ref b3), .val (.int (1 : Int32)), .val .null, .val (.int (0 : Int32)), .unset] [.null, (.ref b1)])) rfl (by rw [hml]; rfl) (Steps.refl _) (argsL := [.null]) (rest := []) (lenOf pd_12 rfl) rfl (by show 2 * 0 + _ ≤ _; exact Nat.le_of_eq rfl) (hb hby at_128) (fun _ _ => ⟨rfl, rfl, (by decide : 2 + 0 ≤ _), (by decide : 4 + 0 ≤ _)⟩)
        dsimp only [Pt.U, Pt.locs, Pt.cells, Pt.slots] at X12 l12 y12 z12 st12 hQ12
        subst l12 y12 z12
        obtain ⟨rfl, Nq12, e12⟩ := hQ12
        have N12 := Fr.app N5 Nq12
        have f14 : Fld Z T5.heap b1 "com/example/xmitq/xmitq/MessageId" "high" "J" (.long ha) := ((p2_1.ext E3).keep Kc5 (ninS ne3_b1 nin0))
        have f15 : Fld Z T5.heap b1 "com/example/xmitq/xmitq/MessageId" "low" "J" (.long la) := ((p2_2.ext E3).keep Kc5 (ninS ne3_b1 nin0))
        obtain ⟨cq16, kq16, q16a, q16b, q16c⟩ := isOf hZ e12 p5_0
        obtain ⟨_, _, ⟨T16, L16, k16, n16⟩, -, X16, ⟨Lc16, hQ16, l16, y16, z16⟩, st16⟩ := X12.virtualBack hx (y := (⟨"com/example/xmitq/xmitq/MessageId", "equals", "(Ljava/lang/Object;)Z"⟩ : MethodName)) (z := (⟨"com/example/xmitq/xmitq/MessageId", "equals", "(Ljava/lang/Object;)Z"⟩ : MethodName)) hown (mvT hZ (hw _ (List.mem_of_getElem? (i := 13) rfl))) (mvT hZ (hw _ (List.mem_of_getElem? (i := 14) rfl))) (notFace_of_selects (args := #[]) (mvT hZ (hw _ (List.mem_of_getElem? (i := 16) rfl)))) (mvT hZ (hw _ (List.mem_of_getElem? (i := 16) rfl))) (mvT hZ (hw _ (List.mem_of_getElem? (i := 15) rfl))) (by decide) (backOf (W := 0) (own_eqYY l Z a0 hw [] b3 b1 hbb ha lbb la T5.heap n0 Z5 f13 p5_1 f14 (Eq.symm hc7) p5_2 f15 (Eq.symm hc9)) hZ (hw _ (List.mem_of_getElem? (i := 17) rfl)) (hw _ (List.mem_of_getElem? (i := 2) rfl)) (by decide) (by decide)) q16a q16c (g := (mkF m 152 #[.val (.long ha), .second, .val (.long la), .second, .val (.long h2), .second, .val (.long l2), .second, .val (.int xm), .val (.long hbb), .second, .val (.long lbb), .second, .val (.int (((xm.toUInt32 >>> ((2 : Int32) &&& 31).toUInt32).toInt32) &&& (3 : Int32))), .val (.ref b1), .val (.ref b3), .val (.int (1 : Int32)), .val .null, .val (.int (0 : Int32)), .val (.int (1 : Int32))] [(.ref b1), (.ref b3)])) rfl (by rw [hml]; rfl) (Steps.refl _) (argsL := [(.ref b1)]) (rest := []) (lenOf pd_12 rfl) rfl (by show 2 * 0 + _ ≤ _; exact Nat.le_of_eq rfl) (hb hby at_152) (fun _ _ => ⟨rfl, e12, (by decide : 2 + 0 ≤ _), (by decide : 4 + 0 ≤ _)⟩)
        dsimp only [Pt.U, Pt.locs, Pt.cells, Pt.slots] at X16 l16 y16 z16 st16 hQ16
        subst l16 y16 z16
        obtain ⟨rfl, Nq16, e16⟩ := hQ16
        have N16 := Fr.app N12 Nq16
        obtain ⟨cq17, kq17, q17a, q17b, q17c⟩ := isOf hZ e16 f13
        obtain ⟨_, _, ⟨T17, L17, k17, n17⟩, -, X17, ⟨Lc17, hQ17, l17, y17, z17⟩, st17⟩ := X16.virtualBack hx (y := (⟨"com/example/xmitq/xmitq/MessageId", "equals", "(Ljava/lang/Object;)Z"⟩ : MethodName)) (z := (⟨"com/example/xmitq/xmitq/MessageId", "equals", "(Ljava/lang/Object;)Z"⟩ : MethodName)) hown (mvT hZ (hw _ (List.mem_of_getElem? (i := 13) rfl))) (mvT hZ (hw _ (List.mem_of_getElem? (i := 14) rfl))) (notFace_of_selects (args := #[]) (mvT hZ (hw _ (List.mem_of_getElem? (i := 16) rfl)))) (mvT hZ (hw _ (List.mem_of_getElem? (i := 16) rfl))) (mvT hZ (hw _ (List.mem_of_getElem? (i := 15) rfl))) (by decide) (backOf (W := 0) (own_eqYY l Z a0 hw [] b1 b1 ha ha la la T5.heap n0 Z5 f13 f14 f14 (rfl : ha = ha) f15 f15 (rfl : la = la)) hZ (hw _ (List.mem_of_getElem? (i := 17) rfl)) (hw _ (List.mem_of_getElem? (i := 2) rfl)) (by decide) (by decide)) q17a q17c (g := (mkF m 176 #[.val (.long ha), .second, .val (.long la), .second, .val (.long h2), .second, .val (.long l2), .second, .val (.int xm), .val (.long hbb), .second, .val (.long lbb), .second, .val (.int (((xm.toUInt32 >>> ((2 : Int32) &&& 31).toUInt32).toInt32) &&& (3 : Int32))), .val (.ref b1), .val (.ref b3), .val (.int (1 : Int32)), .val .null, .val (.int (0 : Int32)), .val (.int (1 : Int32))] [(.ref b1), (.ref b1)])) rfl (by rw [hml]; rfl) (Steps.refl _) (argsL := [(.ref b1)]) (rest := []) (lenOf pd_12 rfl) rfl (by show 2 * 0 + _ ≤ _; exact Nat.le_of_eq rfl) (hb hby at_176) (fun _ _ => ⟨rfl, e16, (by decide : 2 + 0 ≤ _), (by decide : 4 + 0 ≤ _)⟩)
        dsimp only [Pt.U, Pt.locs, Pt.cells, Pt.slots] at X17 l17 y17 z17 st17 hQ17
        subst l17 y17 z17
        obtain ⟨rfl, Nq17, e17⟩ := hQ17
        have N17 := Fr.app N16 Nq17
        have go18 : ∀ t, Steps p.tables e below (T17.setTop (mkF m 191 #[.val (.long ha), .second, .val (.long la), .second, .val (.long h2), .second, .val (.long l2), .second, .val (.int xm), .val (.long hbb), .second, .val (.long lbb), .second, .val (.int (((xm.toUInt32 >>> ((2 : Int32) &&& 31).toUInt32).toInt32) &&& (3 : Int32))), .val (.ref b1), .val (.ref b3), .val (.int (1 : Int32)), .val .null, .val (.int (0 : Int32)), .val (.int (1 : Int32))] [(.int (1 : Int32))])) t → Steps p.tables e below st0 t := by
          intro t kt
          refine go10 t ?_
          refine XS.icmpNo X5.here hx rfl (hb hby at_86) rfl (teq hc11).2 ?_
          show Steps p.tables e below (T5.setTop (mkF m 89 #[.val (.long ha), .second, .val (.long la), .second, .val (.long h2), .second, .val (.long l2), .second, .val (.int xm), .val (.long hbb), .second, .val (.long lbb), .second, .val (.int (((xm.toUInt32 >>> ((2 : Int32) &&& 31).toUInt32).toInt32) &&& (3 : Int32))), .val (.ref b1), .val (.ref b3), .val (.int (1 : Int32)), .unset, .unset, .unset] [])) _
          refine XS.aconstNull X5.here hx rfl (hb hby at_89) ?_
          show Steps p.tables e below (T5.setTop (mkF m 90 #[.val (.long ha), .second, .val (.long la), .second, .val (.long h2), .second, .val (.long l2), .second, .val (.int xm), .val (.long hbb), .second, .val (.long lbb), .second, .val (.int (((xm.toUInt32 >>> ((2 : Int32) &&& 31).toUInt32).toInt32) &&& (3 : Int32))), .val (.ref b1), .val (.ref b3), .val (.int (1 : Int32)), .unset, .unset, .unset] [.null])) _
          refine XS.astore X5.here hx rfl (hb hby at_90) rfl rfl (l' := #[.val (.long ha), .second, .val (.long la), .second, .val (.long h2), .second, .val (.long l2), .second, .val (.int xm), .val (.long hbb), .second, .val (.long lbb), .second, .val (.int (((xm.toUInt32 >>> ((2 : Int32) &&& 31).toUInt32).toInt32) &&& (3 : Int32))), .val (.ref b1), .val (.ref b3), .val (.int (1 : Int32)), .val .null, .unset, .unset]) rfl ?_
          show Steps p.tables e below (T5.setTop (mkF m 92 #[.val (.long ha), .second, .val (.long la), .second, .val (.long h2), .second, .val (.long l2), .second, .val (.int xm), .val (.long hbb), .second, .val (.long lbb), .second, .val (.int (((xm.toUInt32 >>> ((2 : Int32) &&& 31).toUInt32).toInt32) &&& (3 : Int32))), .val (.ref b1), .val (.ref b3), .val (.int (1 : Int32)), .val .null, .unset, .unset] [])) _
          refine XS.iconst X5.here hx rfl (hb hby at_92) ?_
          show Steps p.tables e below (T5.setTop (mkF m 93 #[.val (.long ha), .second, .val (.long la), .second, .val (.long h2), .second, .val (.long l2), .second, .val (.int xm), .val (.long hbb), .second, .val (.long lbb), .second, .val (.int (((xm.toUInt32 >>> ((2 : Int32) &&& 31).toUInt32).toInt32) &&& (3 : Int32))), .val (.ref b1), .val (.ref b3), .val (.int (1 : Int32)), .val .null, .unset, .unset] [(.int (0 : Int32))])) _
          refine XS.istore X5.here hx rfl (hb hby at_93) rfl (l' := #[.val (.long ha), .second, .val (.long la), .second, .val (.long h2), .second, .val (.long l2), .second, .val (.int xm), .val (.long hbb), .second, .val (.long lbb), .second, .val (.int (((xm.toUInt32 >>> ((2 : Int32) &&& 31).toUInt32).toInt32) &&& (3 : Int32))), .val (.ref b1), .val (.ref b3), .val (.int (1 : Int32)), .val .null, .val (.int (0 : Int32)), .unset]) rfl ?_
          show Steps p.tables e below (T5.setTop (mkF m 95 #[.val (.long ha), .second, .val (.long la), .second, .val (.long h2), .second, .val (.long l2), .second, .val (.int xm), .val (.long hbb), .second, .val (.long lbb), .second, .val (.int (((xm.toUInt32 >>> ((2 : Int32) &&& 31).toUInt32).toInt32) &&& (3 : Int32))), .val (.ref b1), .val (.ref b3), .val (.int (1 : Int32)), .val .null, .val (.int (0 : Int32)), .unset] [])) _
          refine XS.goto X5.here hx rfl (pc0 := 95) (pc' := 124) rfl (hb hby at_95) (by decide) (by decide) ?_
          show Steps p.tables e below (T5.setTop (mkF m 124 #[.val (.long ha), .second, .val (.long la), .second, .val (.long h2), .second, .val (.long l2), .second, .val (.int xm), .val (.long hbb), .second, .val (.long lbb), .second, .val (.int (((xm.toUInt32 >>> ((2 : Int32) &&& 31).toUInt32).toInt32) &&& (3 : Int32))), .val (.ref b1), .val (.ref b3), .val (.int (1 : Int32)), .val .null, .val (.int (0 : Int32)), .unset] [])) _
          refine XS.aload X5.here hx rfl (hb hby at_124) rfl rfl ?_
          show Steps p.tables e below (T5.setTop (mkF m 126 #[.val (.long ha), .second, .val (.long la), .second, .val (.long h2), .second, .val (.long l2), .second, .val (.int xm), .val (.long hbb), .second, .val (.long lbb), .second, .val (.int (((xm.toUInt32 >>> ((2 : Int32) &&& 31).toUInt32).toInt32) &&& (3 : Int32))), .val (.ref b1), .val (.ref b3), .val (.int (1 : Int32)), .val .null, .val (.int (0 : Int32)), .unset] [(.ref b1)])) _
          refine XS.aload X5.here hx rfl (hb hby at_126) rfl rfl ?_
          show Steps p.tables e below (T5.setTop (mkF m 128 #[.val (.long ha), .second, .val (.long la), .second, .val (.long h2), .second, .val (.long l2), .second, .val (.int xm), .val (.long hbb), .second, .val (.long lbb), .second, .val (.int (((xm.toUInt32 >>> ((2 : Int32) &&& 31).toUInt32).toInt32) &&& (3 : Int32))), .val (.ref b1), .val (.ref b3), .val (.int (1 : Int32)), .val .null, .val (.int (0 : Int32)), .unset] [.null, (.ref b1)])) _
          refine st12.trans ?_
          show Steps p.tables e below (T12.setTop (mkF m 131 #[.val (.long ha), .second, .val (.long la), .second, .val (.long h2), .second, .val (.long l2), .second, .val (.int xm), .val (.long hbb), .second, .val (.long lbb), .second, .val (.int (((xm.toUInt32 >>> ((2 : Int32) &&& 31).toUInt32).toInt32) &&& (3 : Int32))), .val (.ref b1), .val (.ref b3), .val (.int (1 : Int32)), .val .null, .val (.int (0 : Int32)), .unset] [(.int (0 : Int32))])) _
          refine XS.iload X12.here hx rfl (hb hby at_131) rfl ?_
          show Steps p.tables e below (T12.setTop (mkF m 133 #[.val (.long ha), .second, .val (.long la), .second, .val (.long h2), .second, .val (.long l2), .second, .val (.int xm), .val (.long hbb), .second, .val (.long lbb), .second, .val (.int (((xm.toUInt32 >>> ((2 : Int32) &&& 31).toUInt32).toInt32) &&& (3 : Int32))), .val (.ref b1), .val (.ref b3), .val (.int (1 : Int32)), .val .null, .val (.int (0 : Int32)), .unset] [(.int (0 : Int32)), (.int (0 : Int32))])) _
          refine XS.icmpNo X12.here hx rfl (hb hby at_133) rfl (teq (by decide : (0 : Int32) = (0 : Int32))).2 ?_
          show Steps p.tables e below (T12.setTop (mkF m 136 #[.val (.long ha), .second, .val (.long la), .second, .val (.long h2), .second, .val (.long l2), .second, .val (.int xm), .val (.long hbb), .second, .val (.long lbb), .second, .val (.int (((xm.toUInt32 >>> ((2 : Int32) &&& 31).toUInt32).toInt32) &&& (3 : Int32))), .val (.ref b1), .val (.ref b3), .val (.int (1 : Int32)), .val .null, .val (.int (0 : Int32)), .unset] [])) _
          refine XS.iconst X12.here hx rfl (hb hby at_136) ?_
          show Steps p.tables e below (T12.setTop (mkF m 137 #[.val (.long ha), .second, .val (.long la), .second, .val (.long h2), .second, .val (.long l2), .second, .val (.int xm), .val (.long hbb), .second, .val (.long lbb), .second, .val (.int (((xm.toUInt32 >>> ((2 : Int32) &&& 31).toUInt32).toInt32) &&& (3 : Int32))), .val (.ref b1), .val (.ref b3), .val (.int (1 : Int32)), .val .null, .val (.int (0 : Int32)), .unset] [(.int (1 : Int32))])) _
          refine XS.goto X12.here hx rfl (pc0 := 137) (pc' := 141) rfl (hb hby at_137) (by decide) (by decide) ?_
          show Steps p.tables e below (T12.setTop (mkF m 141 #[.val (.long ha), .second, .val (.long la), .second, .val (.long h2), .second, .val (.long l2), .second, .val (.int xm), .val (.long hbb), .second, .val (.long lbb), .second, .val (.int (((xm.toUInt32 >>> ((2 : Int32) &&& 31).toUInt32).toInt32) &&& (3 : Int32))), .val (.ref b1), .val (.ref b3), .val (.int (1 : Int32)), .val .null, .val (.int (0 : Int32)), .unset] [(.int (1 : Int32))])) _
          refine XS.istore X12.here hx rfl (hb hby at_141) rfl (l' := #[.val (.long ha), .second, .val (.long la), .second, .val (.long h2), .second, .val (.long l2), .second, .val (.int xm), .val (.long hbb), .second, .val (.long lbb), .second, .val (.int (((xm.toUInt32 >>> ((2 : Int32) &&& 31).toUInt32).toInt32) &&& (3 : Int32))), .val (.ref b1), .val (.ref b3), .val (.int (1 : Int32)), .val .null, .val (.int (0 : Int32)), .val (.int (1 : Int32))]) rfl ?_
          show Steps p.tables e below (T12.setTop (mkF m 143 #[.val (.long ha), .second, .val (.long la), .second, .val (.long h2), .second, .val (.long l2), .second, .val (.int xm), .val (.long hbb), .second, .val (.long lbb), .second, .val (.int (((xm.toUInt32 >>> ((2 : Int32) &&& 31).toUInt32).toInt32) &&& (3 : Int32))), .val (.ref b1), .val (.ref b3), .val (.int (1 : Int32)), .val .null, .val (.int (0 : Int32)), .val (.int (1 : Int32))] [])) _
          refine XS.iload X12.here hx rfl (hb hby at_143) rfl ?_
          show Steps p.tables e below (T12.setTop (mkF m 145 #[.val (.long ha), .second, .val (.long la), .second, .val (.long h2), .second, .val (.long l2), .second, .val (.int xm), .val (.long hbb), .second, .val (.long lbb), .second, .val (.int (((xm.toUInt32 >>> ((2 : Int32) &&& 31).toUInt32).toInt32) &&& (3 : Int32))), .val (.ref b1), .val (.ref b3), .val (.int (1 : Int32)), .val .null, .val (.int (0 : Int32)), .val (.int (1 : Int32))] [(.int (1 : Int32))])) _
          refine XS.ifNo X12.here hx rfl (hb hby at_145) rfl ((if0 _ _).trans (feq (by decide : ¬ ((1 : Int32) = (0 : Int32)))).1) ?_
          show Steps p.tables e below (T12.setTop (mkF m 148 #[.val (.long ha), .second, .val (.long la), .second, .val (.long h2), .second, .val (.long l2), .second, .val (.int xm), .val (.long hbb), .second, .val (.long lbb), .second, .val (.int (((xm.toUInt32 >>> ((2 : Int32) &&& 31).toUInt32).toInt32) &&& (3 : Int32))), .val (.ref b1), .val (.ref b3), .val (.int (1 : Int32)), .val .null, .val (.int (0 : Int32)), .val (.int (1 : Int32))] [])) _
          refine XS.aload X12.here hx rfl (hb hby at_148) rfl rfl ?_
          show Steps p.tables e below (T12.setTop (mkF m 150 #[.val (.long ha), .second, .val (.long la), .second, .val (.long h2), .second, .val (.long l2), .second, .val (.int xm), .val (.long hbb), .second, .val (.long lbb), .second, .val (.int (((xm.toUInt32 >>> ((2 : Int32) &&& 31).toUInt32).toInt32) &&& (3 : Int32))), .val (.ref b1), .val (.ref b3), .val (.int (1 : Int32)), .val .null, .val (.int (0 : Int32)), .val (.int (1 : Int32))] [(.ref b3)])) _
          refine XS.aload X12.here hx rfl (hb hby at_150) rfl rfl ?_
          show Steps p.tables e below (T12.setTop (mkF m 152 #[.val (.long ha), .second, .val (.long la), .second, .val (.long h2), .second, .val (.long l2), .second, .val (.int xm), .val (.long hbb), .second, .val (.long lbb), .second, .val (.int (((xm.toUInt32 >>> ((2 : Int32) &&& 31).toUInt32).toInt32) &&& (3 : Int32))), .val (.ref b1), .val (.ref b3), .val (.int (1 : Int32)), .val .null, .val (.int (0 : Int32)), .val (.int (1 : Int32))] [(.ref b1), (.ref b3)])) _
          refine st16.trans ?_
          show Steps p.tables e below (T16.setTop (mkF m 155 #[.val (.long ha), .second, .val (.long la), .second, .val (.long h2), .second, .val (.long l2), .second, .val (.int xm), .val (.long hbb), .second, .val (.long lbb), .second, .val (.int (((xm.toUInt32 >>> ((2 : Int32) &&& 31).toUInt32).toInt32) &&& (3 : Int32))), .val (.ref b1), .val (.ref b3), .val (.int (1 : Int32)), .val .null, .val (.int (0 : Int32)), .val (.int (1 : Int32))] [(.int (1 : Int32))])) _
          refine XS.iload X16.here hx rfl (hb hby at_155) rfl ?_
          show Steps p.tables e below (T16.setTop (mkF m 157 #[.val (.long ha), .second, .val (.long la), .second, .val (.long h2), .second, .val (.long l2), .second, .val (.int xm), .val (.long hbb), .second, .val (.long lbb), .second, .val (.int (((xm.toUInt32 >>> ((2 : Int32) &&& 31).toUInt32).toInt32) &&& (3 : Int32))), .val (.ref b1), .val (.ref b3), .val (.int (1 : Int32)), .val .null, .val (.int (0 : Int32)), .val (.int (1 : Int32))] [(.int (1 : Int32)), (.int (1 : Int32))])) _
          refine XS.icmpNo X16.here hx rfl (hb hby at_157) rfl (teq (by decide : (1 : Int32) = (1 : Int32))).2 ?_
          show Steps p.tables e below (T16.setTop (mkF m 160 #[.val (.long ha), .second, .val (.long la), .second, .val (.long h2), .second, .val (.long l2), .second, .val (.int xm), .val (.long hbb), .second, .val (.long lbb), .second, .val (.int (((xm.toUInt32 >>> ((2 : Int32) &&& 31).toUInt32).toInt32) &&& (3 : Int32))), .val (.ref b1), .val (.ref b3), .val (.int (1 : Int32)), .val .null, .val (.int (0 : Int32)), .val (.int (1 : Int32))] [])) _
          refine XS.iconst X16.here hx rfl (hb hby at_160) ?_
          show Steps p.tables e below (T16.setTop (mkF m 161 #[.val (.long ha), .second, .val (.long la), .second, .val (.long h2), .second, .val (.long l2), .second, .val (.int xm), .val (.long hbb), .second, .val (.long lbb), .second, .val (.int (((xm.toUInt32 >>> ((2 : Int32) &&& 31).toUInt32).toInt32) &&& (3 : Int32))), .val (.ref b1), .val (.ref b3), .val (.int (1 : Int32)), .val .null, .val (.int (0 : Int32)), .val (.int (1 : Int32))] [(.int (1 : Int32))])) _
          refine XS.goto X16.here hx rfl (pc0 := 161) (pc' := 165) rfl (hb hby at_161) (by decide) (by decide) ?_
          show Steps p.tables e below (T16.setTop (mkF m 165 #[.val (.long ha), .second, .val (.long la), .second, .val (.long h2), .second, .val (.long l2), .second, .val (.int xm), .val (.long hbb), .second, .val (.long lbb), .second, .val (.int (((xm.toUInt32 >>> ((2 : Int32) &&& 31).toUInt32).toInt32) &&& (3 : Int32))), .val (.ref b1), .val (.ref b3), .val (.int (1 : Int32)), .val .null, .val (.int (0 : Int32)), .val (.int (1 : Int32))] [(.int (1 : Int32))])) _
          refine XS.istore X16.here hx rfl (hb hby at_165) rfl (l' := #[.val (.long ha), .second, .val (.long la), .second, .val (.long h2), .second, .val (.long l2), .second, .val (.int xm), .val (.long hbb), .second, .val (.long lbb), .second, .val (.int (((xm.toUInt32 >>> ((2 : Int32) &&& 31).toUInt32).toInt32) &&& (3 : Int32))), .val (.ref b1), .val (.ref b3), .val (.int (1 : Int32)), .val .null, .val (.int (0 : Int32)), .val (.int (1 : Int32))]) rfl ?_
          show Steps p.tables e below (T16.setTop (mkF m 167 #[.val (.long ha), .second, .val (.long la), .second, .val (.long h2), .second, .val (.long l2), .second, .val (.int xm), .val (.long hbb), .second, .val (.long lbb), .second, .val (.int (((xm.toUInt32 >>> ((2 : Int32) &&& 31).toUInt32).toInt32) &&& (3 : Int32))), .val (.ref b1), .val (.ref b3), .val (.int (1 : Int32)), .val .null, .val (.int (0 : Int32)), .val (.int (1 : Int32))] [])) _
          refine XS.iload X16.here hx rfl (hb hby at_167) rfl ?_
          show Steps p.tables e below (T16.setTop (mkF m 169 #[.val (.long ha), .second, .val (.long la), .second, .val (.long h2), .second, .val (.long l2), .second, .val (.int xm), .val (.long hbb), .second, .val (.long lbb), .second, .val (.int (((xm.toUInt32 >>> ((2 : Int32) &&& 31).toUInt32).toInt32) &&& (3 : Int32))), .val (.ref b1), .val (.ref b3), .val (.int (1 : Int32)), .val .null, .val (.int (0 : Int32)), .val (.int (1 : Int32))] [(.int (1 : Int32))])) _
          refine XS.ifNo X16.here hx rfl (hb hby at_169) rfl ((if0 _ _).trans (feq (by decide : ¬ ((1 : Int32) = (0 : Int32)))).1) ?_
          show Steps p.tables e below (T16.setTop (mkF m 172 #[.val (.long ha), .second, .val (.long la), .second, .val (.long h2), .second, .val (.long l2), .second, .val (.int xm), .val (.long hbb), .second, .val (.long lbb), .second, .val (.int (((xm.toUInt32 >>> ((2 : Int32) &&& 31).toUInt32).toInt32) &&& (3 : Int32))), .val (.ref b1), .val (.ref b3), .val (.int (1 : Int32)), .val .null, .val (.int (0 : Int32)), .val (.int (1 : Int32))] [])) _
          refine XS.aload X16.here hx rfl (hb hby at_172) rfl rfl ?_
          show Steps p.tables e below (T16.setTop (mkF m 174 #[.val (.long ha), .second, .val (.long la), .second, .val (.long h2), .second, .val (.long l2), .second, .val (.int xm), .val (.long hbb), .second, .val (.long lbb), .second, .val (.int (((xm.toUInt32 >>> ((2 : Int32) &&& 31).toUInt32).toInt32) &&& (3 : Int32))), .val (.ref b1), .val (.ref b3), .val (.int (1 : Int32)), .val .null, .val (.int (0 : Int32)), .val (.int (1 : Int32))] [(.ref b1)])) _
          refine XS.aload X16.here hx rfl (hb hby at_174) rfl rfl ?_
          show Steps p.tables e below (T16.setTop (mkF m 176 #[.val (.long ha), .second, .val (.long la), .second, .val (.long h2), .second, .val (.long l2), .second, .val (.int xm), .val (.long hbb), .second, .val (.long lbb), .second, .val (.int (((xm.toUInt32 >>> ((2 : Int32) &&& 31).toUInt32).toInt32) &&& (3 : Int32))), .val (.ref b1), .val (.ref b3), .val (.int (1 : Int32)), .val .null, .val (.int (0 : Int32)), .val (.int (1 : Int32))] [(.ref b1), (.ref b1)])) _
          refine st17.trans ?_
          show Steps p.tables e below (T17.setTop (mkF m 179 #[.val (.long ha), .second, .val (.long la), .second, .val (.long h2), .second, .val (.long l2), .second, .val (.int xm), .val (.long hbb), .second, .val (.long lbb), .second, .val (.int (((xm.toUInt32 >>> ((2 : Int32) &&& 31).toUInt32).toInt32) &&& (3 : Int32))), .val (.ref b1), .val (.ref b3), .val (.int (1 : Int32)), .val .null, .val (.int (0 : Int32)), .val (.int (1 : Int32))] [(.int (1 : Int32))])) _
          refine XS.ifNo X17.here hx rfl (hb hby at_179) rfl ((if0 _ _).trans (feq (by decide : ¬ ((1 : Int32) = (0 : Int32)))).1) ?_
          show Steps p.tables e below (T17.setTop (mkF m 182 #[.val (.long ha), .second, .val (.long la), .second, .val (.long h2), .second, .val (.long l2), .second, .val (.int xm), .val (.long hbb), .second, .val (.long lbb), .second, .val (.int (((xm.toUInt32 >>> ((2 : Int32) &&& 31).toUInt32).toInt32) &&& (3 : Int32))), .val (.ref b1), .val (.ref b3), .val (.int (1 : Int32)), .val .null, .val (.int (0 : Int32)), .val (.int (1 : Int32))] [])) _
          refine XS.iconst X17.here hx rfl (hb hby at_182) ?_
          show Steps p.tables e below (T17.setTop (mkF m 183 #[.val (.long ha), .second, .val (.long la), .second, .val (.long h2), .second, .val (.long l2), .second, .val (.int xm), .val (.long hbb), .second, .val (.long lbb), .second, .val (.int (((xm.toUInt32 >>> ((2 : Int32) &&& 31).toUInt32).toInt32) &&& (3 : Int32))), .val (.ref b1), .val (.ref b3), .val (.int (1 : Int32)), .val .null, .val (.int (0 : Int32)), .val (.int (1 : Int32))] [(.int (1 : Int32))])) _
          refine XS.goto X17.here hx rfl (pc0 := 183) (pc' := 187) rfl (hb hby at_183) (by decide) (by decide) ?_
          show Steps p.tables e below (T17.setTop (mkF m 187 #[.val (.long ha), .second, .val (.long la), .second, .val (.long h2), .second, .val (.long l2), .second, .val (.int xm), .val (.long hbb), .second, .val (.long lbb), .second, .val (.int (((xm.toUInt32 >>> ((2 : Int32) &&& 31).toUInt32).toInt32) &&& (3 : Int32))), .val (.ref b1), .val (.ref b3), .val (.int (1 : Int32)), .val .null, .val (.int (0 : Int32)), .val (.int (1 : Int32))] [(.int (1 : Int32))])) _
          refine XS.istore X17.here hx rfl (hb hby at_187) rfl (l' := #[.val (.long ha), .second, .val (.long la), .second, .val (.long h2), .second, .val (.long l2), .second, .val (.int xm), .val (.long hbb), .second, .val (.long lbb), .second, .val (.int (((xm.toUInt32 >>> ((2 : Int32) &&& 31).toUInt32).toInt32) &&& (3 : Int32))), .val (.ref b1), .val (.ref b3), .val (.int (1 : Int32)), .val .null, .val (.int (0 : Int32)), .val (.int (1 : Int32))]) rfl ?_
          show Steps p.tables e below (T17.setTop (mkF m 189 #[.val (.long ha), .second, .val (.long la), .second, .val (.long h2), .second, .val (.long l2), .second, .val (.int xm), .val (.long hbb), .second, .val (.long lbb), .second, .val (.int (((xm.toUInt32 >>> ((2 : Int32) &&& 31).toUInt32).toInt32) &&& (3 : Int32))), .val (.ref b1), .val (.ref b3), .val (.int (1 : Int32)), .val .null, .val (.int (0 : Int32)), .val (.int (1 : Int32))] [])) _
          refine XS.iload X17.here hx rfl (hb hby at_189) rfl ?_
          show Steps p.tables e below (T17.setTop (mkF m 191 #[.val (.long ha), .second, .val (.long la), .second, .val (.long h2), .second, .val (.long l2), .second, .val (.int xm), .val (.long hbb), .second, .val (.long lbb), .second, .val (.int (((xm.toUInt32 >>> ((2 : Int32) &&& 31).toUInt32).toInt32) &&& (3 : Int32))), .val (.ref b1), .val (.ref b3), .val (.int (1 : Int32)), .val .null, .val (.int (0 : Int32)), .val (.int (1 : Int32))] [(.int (1 : Int32))])) _
          exact kt
        obtain ⟨fs, hr, hrun, hended, hW, hsame⟩ := X17.leave (v := some (.int (1 : Int32))) (fun h => by rw [hret] at h; cases h) hlk
        refine ⟨_, _, go18 _ ?_, hrun, hended, _, _, rfl, ⟨rfl, N17⟩, ⟨_, rfl⟩, hW, hsame.mono (by decide) (by decide)⟩
        exact retN X17 hx (t := .boolean) hret (by simp) (hb hby at_191) hr
      · skip
        have go19 : ∀ t, Steps p.tables e below (T5.setTop (mkF m 101 #[.val (.long ha), .second, .val (.long la), .second, .val (.long h2), .second, .val (.long l2), .second, .val (.int xm), .val (.long hbb), .second, .val (.long lbb), .second, .val (.int (((xm.toUInt32 >>> ((2 : Int32) &&& 31).toUInt32).toInt32) &&& (3 : Int32))), .val (.ref b1), .val (.ref b3), .val (.int (1 : Int32)), .unset, .unset, .unset] [(.int (2 : Int32)), (.int (((xm.toUInt32 >>> ((2 : Int32) &&& 31).toUInt32).toInt32) &&& (3 : Int32)))])) t → Steps p.tables e below st0 t := by
          intro t kt
          refine go10 t ?_
          refine XS.icmpYes X5.here hx rfl (pc0 := 86) (pc' := 98) rfl (hb hby at_86) rfl (feq hc11).2 (by decide) (by decide) ?_
          show Steps p.tables e below (T5.setTop (mkF m 98 #[.val (.long ha), .second, .val (.long la), .second, .val (.long h2), .second, .val (.long l2), .second, .val (.int xm), .val (.long hbb), .second, .val (.long lbb), .second, .val (.int (((xm.toUInt32 >>> ((2 : Int32) &&& 31).toUInt32).toInt32) &&& (3 : Int32))), .val (.ref b1), .val (.ref b3), .val (.int (1 : Int32)), .unset, .unset, .unset] [])) _
          refine XS.iload X5.here hx rfl (hb hby at_98) rfl ?_
          show Steps p.tables e below (T5.setTop (mkF m 100 #[.val (.long ha), .second, .val (.long la), .second, .val (.long h2), .second, .val (.long l2), .second, .val (.int xm), .val (.long hbb), .second, .val (.long lbb), .second, .val (.int (((xm.toUInt32 >>> ((2 : Int32) &&& 31).toUInt32).toInt32) &&& (3 : Int32))), .val (.ref b1), .val (.ref b3), .val (.int (1 : Int32)), .unset, .unset, .unset] [(.int (((xm.toUInt32 >>> ((2 : Int32) &&& 31).toUInt32).toInt32) &&& (3 : Int32)))])) _
          refine XS.iconst X5.here hx rfl (hb hby at_100) ?_
          show Steps p.tables e below (T5.setTop (mkF m 101 #[.val (.long ha), .second, .val (.long la), .second, .val (.long h2), .second, .val (.long l2), .second, .val (.int xm), .val (.long hbb), .second, .val (.long lbb), .second, .val (.int (((xm.toUInt32 >>> ((2 : Int32) &&& 31).toUInt32).toInt32) &&& (3 : Int32))), .val (.ref b1), .val (.ref b3), .val (.int (1 : Int32)), .unset, .unset, .unset] [(.int (2 : Int32)), (.int (((xm.toUInt32 >>> ((2 : Int32) &&& 31).toUInt32).toInt32) &&& (3 : Int32)))])) _
          exact kt
        by_cases hc20 : (((xm.toUInt32 >>> ((2 : Int32) &&& 31).toUInt32).toInt32) &&& (3 : Int32)) = (2 : Int32)
        · skip
          have go21 : ∀ t, Steps p.tables e below (T5.setTop (mkF m 105 #[.val (.long ha), .second, .val (.long la), .second, .val (.long h2), .second, .val (.long l2), .second, .val (.int xm), .val (.long hbb), .second, .val (.long lbb), .second, .val (.int (((xm.toUInt32 >>> ((2 : Int32) &&& 31).toUInt32).toInt32) &&& (3 : Int32))), .val (.ref b1), .val (.ref b3), .val (.int (1 : Int32)), .unset, .unset, .unset] [(.long ha)])) t → Steps p.tables e below st0 t := by
            intro t kt
            refine go19 t ?_
            refine XS.icmpNo X5.here hx rfl (hb hby at_101) rfl (teq hc20).2 ?_
            show Steps p.tables e below (T5.setTop (mkF m 104 #[.val (.long ha), .second, .val (.long la), .second, .val (.long h2), .second, .val (.long l2), .second, .val (.int xm), .val (.long hbb), .second, .val (.long lbb), .second, .val (.int (((xm.toUInt32 >>> ((2 : Int32) &&& 31).toUInt32).toInt32) &&& (3 : Int32))), .val (.ref b1), .val (.ref b3), .val (.int (1 : Int32)), .unset, .unset, .unset] [])) _
            refine XS.lloadN X5.here hx rfl (hb hby at_104) rfl ?_
            show Steps p.tables e below (T5.setTop (mkF m 105 #[.val (.long ha), .second, .val (.long la), .second, .val (.long h2), .second, .val (.long l2), .second, .val (.int xm), .val (.long hbb), .second, .val (.long lbb), .second, .val (.int (((xm.toUInt32 >>> ((2 : Int32) &&& 31).toUInt32).toInt32) &&& (3 : Int32))), .val (.ref b1), .val (.ref b3), .val (.int (1 : Int32)), .unset, .unset, .unset] [(.long ha)])) _
            exact kt
          by_cases hc22 : ha < (-128 : Int64)
          · skip
            obtain ⟨_, _, ⟨T23, L23, k23, n23⟩, -, X23, ⟨Lc23, hQ23, l23, y23, z23⟩, st23⟩ := Jvm.LawKit.callS X5 hx (y := (⟨"java/lang/Long", "valueOf", "(J)Ljava/lang/Long;"⟩ : MethodName)) hown (mvT hZ (hw _ (List.mem_of_getElem? (i := 20) rfl))) (mvT hZ (hw _ (List.mem_of_getElem? (i := 21) rfl))) (mvT hZ (hw _ (List.mem_of_getElem? (i := 22) rfl))) (mvT hZ (hw _ (List.mem_of_getElem? (i := 23) rfl))) (by decide) (backOf (W := 0) (own_vLo l Z a0 hw [] ha T5.heap n0 Z5 hc22) hZ (hw _ (List.mem_of_getElem? (i := 23) rfl)) (hw _ (List.mem_of_getElem? (i := 22) rfl)) (by decide) (by decide)) (g := (mkF m 105 #[.val (.long ha), .second, .val (.long la), .second, .val (.long h2), .second, .val (.long l2), .second, .val (.int xm), .val (.long hbb), .second, .val (.long lbb), .second, .val (.int (((xm.toUInt32 >>> ((2 : Int32) &&& 31).toUInt32).toInt32) &&& (3 : Int32))), .val (.ref b1), .val (.ref b3), .val (.int (1 : Int32)), .unset, .unset, .unset] [(.long ha)])) rfl (by rw [hml]; rfl) (argsL := [(.long ha)]) (rest := []) (lenOf pd_13 rfl) rfl (by show 2 * 0 + _ ≤ _; exact Nat.le_of_eq rfl) (hb hby at_105) (fun _ _ => ⟨rfl, rfl, (by decide : 2 + 1 ≤ _), (by decide : 4 + 1 ≤ _)⟩)
            dsimp only [Pt.U, Pt.locs, Pt.cells, Pt.slots] at X23 l23 y23 z23 st23 hQ23
            subst l23 y23 z23
            obtain ⟨Nq23, b23_0, rfl, szb23_0, Kc23, p23_0⟩ := hQ23
            have N23 := Fr.app N5 Nq23
            have f24 : Exa Z T5.heap b1 "com/example/xmitq/xmitq/MessageId" := ((p2_0.ext E3).keep Kc5)
            have ne_b23_0_b1 : b1 ≠ b23_0 := Nat.ne_of_lt (Nat.lt_of_lt_of_le f24.lt szb23_0)
            have f25 : Arv Z T5.heap ca kc (.object "java/lang/Long") (256 : Int32) vs .null := ((f4.ext E3).keep Kc5 (ninS ne3_ca nin0))
            have ne_b23_0_ca : ca ≠ b23_0 := Nat.ne_of_lt (Nat.lt_of_lt_of_le f25.lt szb23_0)
            have ne_b23_0_b3 : b3 ≠ b23_0 := Nat.ne_of_lt (Nat.lt_of_lt_of_le p5_0.lt szb23_0)
            have ge_b23_0 : n0 ≤ b23_0 := Nat.le_trans Z5 szb23_0
            have Z23 : n0 ≤ T23.heap.size := Nat.le_trans Z5 Kc23.1
            have f27 : Exa Z T23.heap b1 "com/example/xmitq/xmitq/MessageId" := (f24.keep Kc23)
            obtain ⟨cq26, kq26, q26a, q26b, q26c⟩ := isOf hZ rfl f27
            obtain ⟨_, _, ⟨T26, L26, k26, n26⟩, -, X26, ⟨Lc26, hQ26, l26, y26, z26⟩, st26⟩ := X23.virtualBack hx (y := (⟨"com/example/xmitq/xmitq/MessageId", "equals", "(Ljava/lang/Object;)Z"⟩ : MethodName)) (z := (⟨"com/example/xmitq/xmitq/MessageId", "equals", "(Ljava/lang/Object;)Z"⟩ : MethodName)) hown (mvT hZ (hw _ (List.mem_of_getElem? (i := 13) rfl))) (mvT hZ (hw _ (List.mem_of_getElem? (i := 14) rfl))) (notFace_of_selects (args := #[]) (mvT hZ (hw _ (List.mem_of_getElem? (i := 16) rfl)))) (mvT hZ (hw _ (List.mem_of_getElem? (i := 16) rfl))) (mvT hZ (hw _ (List.mem_of_getElem? (i := 15) rfl))) (by decide) (backOf (W := 0) (own_eqLong l Z a0 hw [] b1 b23_0 T23.heap n0 Z23 p23_0) hZ (hw _ (List.mem_of_getElem? (i := 17) rfl)) (hw _ (List.mem_of_getElem? (i := 2) rfl)) (by decide) (by decide)) q26a q26c (g := (mkF m 128 #[.val (.long ha), .second, .val (.long la), .second, .val (.long h2), .second, .val (.long l2), .second, .val (.int xm), .val (.long hbb), .second, .val (.long lbb), .second, .val (.int (((xm.toUInt32 >>> ((2 : Int32) &&& 31).toUInt32).toInt32) &&& (3 : Int32))), .val (.ref b1), .val (.ref b3), .val (.int (1 : Int32)), .val (.ref b23_0), .val (.int (0 : Int32)), .unset] [(.ref b23_0), (.ref b1)])) rfl (by rw [hml]; rfl) (Steps.refl _) (argsL := [(.ref b23_0)]) (rest := []) (lenOf pd_12 rfl) rfl (by show 2 * 0 + _ ≤ _; exact Nat.le_of_eq rfl) (hb hby at_128) (fun _ _ => ⟨rfl, rfl, (by decide : 3 + 0 ≤ _), (by decide : 5 + 0 ≤ _)⟩)
            dsimp only [Pt.U, Pt.locs, Pt.cells, Pt.slots] at X26 l26 y26 z26 st26 hQ26
            subst l26 y26 z26
            obtain ⟨rfl, Nq26, e26⟩ := hQ26
            have N26 := Fr.app N23 Nq26
            have f28 : Fld Z T23.heap b3 "com/example/xmitq/xmitq/MessageId" "high" "J" (.long hbb) := (p5_1.keep Kc23 nin0)
            have f29 : Fld Z T23.heap b1 "com/example/xmitq/xmitq/MessageId" "high" "J" (.long ha) := (((p2_1.ext E3).keep Kc5 (ninS ne3_b1 nin0)).keep Kc23 nin0)
            have f30 : Fld Z T23.heap b3 "com/example/xmitq/xmitq/MessageId" "low" "J" (.long lbb) := (p5_2.keep Kc23 nin0)
            have f31 : Fld Z T23.heap b1 "com/example/xmitq/xmitq/MessageId" "low" "J" (.long la) := (((p2_2.ext E3).keep Kc5 (ninS ne3_b1 nin0)).keep Kc23 nin0)
            have f33 : Exa Z T23.heap b3 "com/example/xmitq/xmitq/MessageId" := (p5_0.keep Kc23)
            obtain ⟨cq32, kq32, q32a, q32b, q32c⟩ := isOf hZ e26 f33
            obtain ⟨_, _, ⟨T32, L32, k32, n32⟩, -, X32, ⟨Lc32, hQ32, l32, y32, z32⟩, st32⟩ := X26.virtualBack hx (y := (⟨"com/example/xmitq/xmitq/MessageId", "equals", "(Ljava/lang/Object;)Z"⟩ : MethodName)) (z := (⟨"com/example/xmitq/xmitq/MessageId", "equals", "(Ljava/lang/Object;)Z"⟩ : MethodName)) hown (mvT hZ (hw _ (List.mem_of_getElem? (i := 13) rfl))) (mvT hZ (hw _ (List.mem_of_getElem? (i := 14) rfl))) (notFace_of_selects (args := #[]) (mvT hZ (hw _ (List.mem_of_getElem? (i := 16) rfl)))) (mvT hZ (hw _ (List.mem_of_getElem? (i := 16) rfl))) (mvT hZ (hw _ (List.mem_of_getElem? (i := 15) rfl))) (by decide) (backOf (W := 0) (own_eqYY l Z a0 hw [] b3 b1 hbb ha lbb la T23.heap n0 Z23 f27 f28 f29 (Eq.symm hc7) f30 f31 (Eq.symm hc9)) hZ (hw _ (List.mem_of_getElem? (i := 17) rfl)) (hw _ (List.mem_of_getElem? (i := 2) rfl)) (by decide) (by decide)) q32a q32c (g := (mkF m 152 #[.val (.long ha), .second, .val (.long la), .second, .val (.long h2), .second, .val (.long l2), .second, .val (.int xm), .val (.long hbb), .second, .val (.long lbb), .second, .val (.int (((xm.toUInt32 >>> ((2 : Int32) &&& 31).toUInt32).toInt32) &&& (3 : Int32))), .val (.ref b1), .val (.ref b3), .val (.int (1 : Int32)), .val (.ref b23_0), .val (.int (0 : Int32)), .val (.int (1 : Int32))] [(.ref b1), (.ref b3)])) rfl (by rw [hml]; rfl) (Steps.refl _) (argsL := [(.ref b1)]) (rest := []) (lenOf pd_12 rfl) rfl (by show 2 * 0 + _ ≤ _; exact Nat.le_of_eq rfl) (hb hby at_152) (fun _ _ => ⟨rfl, e26, (by decide : 3 + 0 ≤ _), (by decide : 5 + 0 ≤ _)⟩)
            dsimp only [Pt.U, Pt.locs, Pt.cells, Pt.slots] at X32 l32 y32 z32 st32 hQ32
            subst l32 y32 z32
            obtain ⟨rfl, Nq32, e32⟩ := hQ32
            have N32 := Fr.app N26 Nq32
            obtain ⟨cq34, kq34, q34a, q34b, q34c⟩ := isOf hZ e32 f27
            obtain ⟨_, _, ⟨T34, L34, k34, n34⟩, -, X34, ⟨Lc34, hQ34, l34, y34, z34⟩, st34⟩ := X32.virtualBack hx (y := (⟨"com/example/xmitq/xmitq/MessageId", "equals", "(Ljava/lang/Object;)Z"⟩ : MethodName)) (z := (⟨"com/example/xmitq/xmitq/MessageId", "equals", "(Ljava/lang/Object;)Z"⟩ : MethodName)) hown (mvT hZ (hw _ (List.mem_of_getElem? (i := 13) rfl))) (mvT hZ (hw _ (List.mem_of_getElem? (i := 14) rfl))) (notFace_of_selects (args := #[]) (mvT hZ (hw _ (List.mem_of_getElem? (i := 16) rfl)))) (mvT hZ (hw _ (List.mem_of_getElem? (i := 16) rfl))) (mvT hZ (hw _ (List.mem_of_getElem? (i := 15) rfl))) (by decide) (backOf (W := 0) (own_eqYY l Z a0 hw [] b1 b1 ha ha la la T23.heap n0 Z23 f27 f29 f29 (rfl : ha = ha) f31 f31 (rfl : la = la)) hZ (hw _ (List.mem_of_getElem? (i := 17) rfl)) (hw _ (List.mem_of_getElem? (i := 2) rfl)) (by decide) (by decide)) q34a q34c (g := (mkF m 176 #[.val (.long ha), .second, .val (.long la), .second, .val (.long h2), .second, .val (.long l2), .second, .val (.int xm), .val (.long hbb), .second, .val (.long lbb), .second, .val (.int (((xm.toUInt32 >>> ((2 : Int32) &&& 31).toUInt32).toInt32) &&& (3 : Int32))), .val (.ref b1), .val (.ref b3), .val (.int (1 : Int32)), .val (.ref b23_0), .val (.int (0 : Int32)), .val (.int (1 : Int32))] [(.ref b1), (.ref b1)])) rfl (by rw [hml]; rfl) (Steps.refl _) (argsL := [(.ref b1)]) (rest := []) (lenOf pd_12 rfl) rfl (by show 2 * 0 + _ ≤ _; exact Nat.le_of_eq rfl) (hb hby at_176) (fun _ _ => ⟨rfl, e32, (by decide : 3 + 0 ≤ _), (by decide : 5 + 0 ≤ _)⟩)
            dsimp only [Pt.U, Pt.locs, Pt.cells, Pt.slots] at X34 l34 y34 z34 st34 hQ34
            subst l34 y34 z34
            obtain ⟨rfl, Nq34, e34⟩ := hQ34
            have N34 := Fr.app N32 Nq34
            have go35 : ∀ t, Steps p.tables e below (T34.setTop (mkF m 191 #[.val (.long ha), .second, .val (.long la), .second, .val (.long h2), .second, .val (.long l2), .second, .val (.int xm), .val (.long hbb), .second, .val (.long lbb), .second, .val (.int (((xm.toUInt32 >>> ((2 : Int32) &&& 31).toUInt32).toInt32) &&& (3 : Int32))), .val (.ref b1), .val (.ref b3), .val (.int (1 : Int32)), .val (.ref b23_0), .val (.int (0 : Int32)), .val (.int (1 : Int32))] [(.int (1 : Int32))])) t → Steps p.tables e below st0 t := by
              intro t kt
              refine go21 t ?_
              refine st23 _ ?_
              show Steps p.tables e below (T23.setTop (mkF m 108 #[.val (.long ha), .second, .val (.long la), .second, .val (.long h2), .second, .val (.long l2), .second, .val (.int xm), .val (.long hbb), .second, .val (.long lbb), .second, .val (.int (((xm.toUInt32 >>> ((2 : Int32) &&& 31).toUInt32).toInt32) &&& (3 : Int32))), .val (.ref b1), .val (.ref b3), .val (.int (1 : Int32)), .unset, .unset, .unset] [(.ref b23_0)])) _
              refine XS.astore X23.here hx rfl (hb hby at_108) rfl rfl (l' := #[.val (.long ha), .second, .val (.long la), .second, .val (.long h2), .second, .val (.long l2), .second, .val (.int xm), .val (.long hbb), .second, .val (.long lbb), .second, .val (.int (((xm.toUInt32 >>> ((2 : Int32) &&& 31).toUInt32).toInt32) &&& (3 : Int32))), .val (.ref b1), .val (.ref b3), .val (.int (1 : Int32)), .val (.ref b23_0), .unset, .unset]) rfl ?_
              show Steps p.tables e below (T23.setTop (mkF m 110 #[.val (.long ha), .second, .val (.long la), .second, .val (.long h2), .second, .val (.long l2), .second, .val (.int xm), .val (.long hbb), .second, .val (.long lbb), .second, .val (.int (((xm.toUInt32 >>> ((2 : Int32) &&& 31).toUInt32).toInt32) &&& (3 : Int32))), .val (.ref b1), .val (.ref b3), .val (.int (1 : Int32)), .val (.ref b23_0), .unset, .unset] [])) _
              refine XS.iconst X23.here hx rfl (hb hby at_110) ?_
              show Steps p.tables e below (T23.setTop (mkF m 111 #[.val (.long ha), .second, .val (.long la), .second, .val (.long h2), .second, .val (.long l2), .second, .val (.int xm), .val (.long hbb), .second, .val (.long lbb), .second, .val (.int (((xm.toUInt32 >>> ((2 : Int32) &&& 31).toUInt32).toInt32) &&& (3 : Int32))), .val (.ref b1), .val (.ref b3), .val (.int (1 : Int32)), .val (.ref b23_0), .unset, .unset] [(.int (0 : Int32))])) _
              refine XS.istore X23.here hx rfl (hb hby at_111) rfl (l' := #[.val (.long ha), .second, .val (.long la), .second, .val (.long h2), .second, .val (.long l2), .second, .val (.int xm), .val (.long hbb), .second, .val (.long lbb), .second, .val (.int (((xm.toUInt32 >>> ((2 : Int32) &&& 31).toUInt32).toInt32) &&& (3 : Int32))), .val (.ref b1), .val (.ref b3), .val (.int (1 : Int32)), .val (.ref b23_0), .val (.int (0 : Int32)), .unset]) rfl ?_
              show Steps p.tables e below (T23.setTop (mkF m 113 #[.val (.long ha), .second, .val (.long la), .second, .val (.long h2), .second, .val (.long l2), .second, .val (.int xm), .val (.long hbb), .second, .val (.long lbb), .second, .val (.int (((xm.toUInt32 >>> ((2 : Int32) &&& 31).toUInt32).toInt32) &&& (3 : Int32))), .val (.ref b1), .val (.ref b3), .val (.int (1 : Int32)), .val (.ref b23_0), .val (.int (0 : Int32)), .unset] [])) _
              refine XS.goto X23.here hx rfl (pc0 := 113) (pc' := 124) rfl (hb hby at_113) (by decide) (by decide) ?_
              show Steps p.tables e below (T23.setTop (mkF m 124 #[.val (.long ha), .second, .val (.long la), .second, .val (.long h2), .second, .val (.long l2), .second, .val (.int xm), .val (.long hbb), .second, .val (.long lbb), .second, .val (.int (((xm.toUInt32 >>> ((2 : Int32) &&& 31).toUInt32).toInt32) &&& (3 : Int32))), .val (.ref b1), .val (.ref b3), .val (.int (1 : Int32)), .val (.ref b23_0), .val (.int (0 : Int32)), .unset] [])) _
              refine XS.aload X23.here hx rfl (hb hby at_124) rfl rfl ?_
              show Steps p.tables e below (T23.setTop (mkF m 126 #[.val (.long ha), .second, .val (.long la), .second, .val (.long h2), .second, .val (.long l2), .second, .val (.int xm), .val (.long hbb), .second, .val (.long lbb), .second, .val (.int (((xm.toUInt32 >>> ((2 : Int32) &&& 31).toUInt32).toInt32) &&& (3 : Int32))), .val (.ref b1), .val (.ref b3), .val (.int (1 : Int32)), .val (.ref b23_0), .val (.int (0 : Int32)), .unset] [(.ref b1)])) _
              refine XS.aload X23.here hx rfl (hb hby at_126) rfl rfl ?_
              show Steps p.tables e below (T23.setTop (mkF m 128 #[.val (.long ha), .second, .val (.long la), .second, .val (.long h2), .second, .val (.long l2), .second, .val (.int xm), .val (.long hbb), .second, .val (.long lbb), .second, .val (.int (((xm.toUInt32 >>> ((2 : Int32) &&& 31).toUInt32).toInt32) &&& (3 : Int32))), .val (.ref b1), .val (.ref b3), .val (.int (1 : Int32)), .val (.ref b23_0), .val (.int (0 : Int32)), .unset] [(.ref b23_0), (.ref b1)])) _
              refine st26.trans ?_
              show Steps p.tables e below (T26.setTop (mkF m 131 #[.val (.long ha), .second, .val (.long la), .second, .val (.long h2), .second, .val (.long l2), .second, .val (.int xm), .val (.long hbb), .second, .val (.long lbb), .second, .val (.int (((xm.toUInt32 >>> ((2 : Int32) &&& 31).toUInt32).toInt32) &&& (3 : Int32))), .val (.ref b1), .val (.ref b3), .val (.int (1 : Int32)), .val (.ref b23_0), .val (.int (0 : Int32)), .unset] [(.int (0 : Int32))])) _
              refine XS.iload X26.here hx rfl (hb hby at_131) rfl ?_
              show Steps p.tables e below (T26.setTop (mkF m 133 #[.val (.long ha), .second, .val (.long la), .second, .val (.long h2), .second, .val (.long l2), .second, .val (.int xm), .val (.long hbb), .second, .val (.long lbb), .second, .val (.int (((xm.toUInt32 >>> ((2 : Int32) &&& 31).toUInt32).toInt32) &&& (3 : Int32))), .val (.ref b1), .val (.ref b3), .val (.int (1 : Int32)), .val (.ref b23_0), .val (.int (0 : Int32)), .unset] [(.int (0 : Int32)), (.int (0 : Int32))])) _
              refine XS.icmpNo X26.here hx rfl (hb hby at_133) rfl (teq (by decide : (0 : Int32) = (0 : Int32))).2 ?_
              show Steps p.tables e below (T26.setTop (mkF m 136 #[.val (.long ha), .second, .val (.long la), .second, .val (.long h2), .second, .val (.long l2), .second, .val (.int xm), .val (.long hbb), .second, .val (.long lbb), .second, .val (.int (((xm.toUInt32 >>> ((2 : Int32) &&& 31).toUInt32).toInt32) &&& (3 : Int32))), .val (.ref b1), .val (.ref b3), .val (.int (1 : Int32)), .val (.ref b23_0), .val (.int (0 : Int32)), .unset] [])) _
              refine XS.iconst X26.here hx rfl (hb hby at_136) ?_
              show Steps p.tables e below (T26.setTop (mkF m 137 #[.val (.long ha), .second, .val (.long la), .second, .val (.long h2), .second, .val (.long l2), .second, .val (.int xm), .val (.long hbb), .second, .val (.long lbb), .second, .val (.int (((xm.toUInt32 >>> ((2 : Int32) &&& 31).toUInt32).toInt32) &&& (3 : Int32))), .val (.ref b1), .val (.ref b3), .val (.int (1 : Int32)), .val (.ref b23_0), .val (.int (0 : Int32)), .unset] [(.int (1 : Int32))])) _
              refine XS.goto X26.here hx rfl (pc0 := 137) (pc' := 141) rfl (hb hby at_137) (by decide) (by decide) ?_
              show Steps p.tables e below (T26.setTop (mkF m 141 #[.val (.long ha), .second, .val (.long la), .second, .val (.long h2), .second, .val (.long l2), .second, .val (.int xm), .val (.long hbb), .second, .val (.long lbb), .second, .val (.int (((xm.toUInt32 >>> ((2 : Int32) &&& 31).toUInt32).toInt32) &&& (3 : Int32))), .val (.ref b1), .val (.ref b3), .val (.int (1 : Int32)), .val (.ref b23_0), .val (.int (0 : Int32)), .unset] [(.int (1 : Int32))])) _
              refine XS.istore X26.here hx rfl (hb hby at_141) rfl (l' := #[.val (.long ha), .second, .val (.long la), .second, .val (.long h2), .second, .val (.long l2), .second, .val (.int xm), .val (.long hbb), .second, .val (.long lbb), .second, .val (.int (((xm.toUInt32 >>> ((2 : Int32) &&& 31).toUInt32).toInt32) &&& (3 : Int32))), .val (.ref b1), .val (.ref b3), .val (.int (1 : Int32)), .val (.ref b23_0), .val (.int (0 : Int32)), .val (.int (1 : Int32))]) rfl ?_
              show Steps p.tables e below (T26.setTop (mkF m 143 #[.val (.long ha), .second, .val (.long la), .second, .val (.long h2), .second, .val (.long l2), .second, .val (.int xm), .val (.long hbb), .second, .val (.long lbb), .second, .val (.int (((xm.toUInt32 >>> ((2 : Int32) &&& 31).toUInt32).toInt32) &&& (3 : Int32))), .val (.ref b1), .val (.ref b3), .val (.int (1 : Int32)), .val (.ref b23_0), .val (.int (0 : Int32)), .val (.int (1 : Int32))] [])) _
              refine XS.iload X26.here hx rfl (hb hby at_143) rfl ?_
              show Steps p.tables e below (T26.setTop (mkF m 145 #[.val (.long ha), .second, .val (.long la), .second, .val (.long h2), .second, .val (.long l2), .second, .val (.int xm), .val (.long hbb), .second, .val (.long lbb), .second, .val (.int (((xm.toUInt32 >>> ((2 : Int32) &&& 31).toUInt32).toInt32) &&& (3 : Int32))), .val (.ref b1), .val (.ref b3), .val (.int (1 : Int32)), .val (.ref b23_0), .val (.int (0 : Int32)), .val (.int (1 : Int32))] [(.int (1 : Int32))])) _
              refine XS.ifNo X26.here hx rfl (hb hby at_145) rfl ((if0 _ _).trans (feq (by decide : ¬ ((1 : Int32) = (0 : Int32)))).1) ?_
              show Steps p.tables e below (T26.setTop (mkF m 148 #[.val (.long ha), .second, .val (.long la), .second, .val (.long h2), .second, .val (.long l2), .second, .val (.int xm), .val (.long hbb), .second, .val (.long lbb), .second, .val (.int (((xm.toUInt32 >>> ((2 : Int32) &&& 31).toUInt32).toInt32) &&& (3 : Int32))), .val (.ref b1), .val (.ref b3), .val (.int (1 : Int32)), .val (.ref b23_0), .val (.int (0 : Int32)), .val (.int (1 : Int32))] [])) _
              refine XS.aload X26.here hx rfl (hb hby at_148) rfl rfl ?_
              show Steps p.tables e below (T26.setTop (mkF m 150 #[.val (.long ha), .second, .val (.long la), .second, .val (.long h2), .second, .val (.long l2), .second, .val (.int xm), .val (.long hbb), .second, .val (.long lbb), .second, .val (.int (((xm.toUInt32 >>> ((2 : Int32) &&& 31).toUInt32).toInt32) &&& (3 : Int32))), .val (.ref b1), .val (.ref b3), .val (.int (1 : Int32)), .val (.ref b23_0), .val (.int (0 : Int32)), .val (.int (1 : Int32))] [(.ref b3)])) _
              refine XS.aload X26.here hx rfl (hb hby at_150) rfl rfl ?_
              show Steps p.tables e below (T26.setTop (mkF m 152 #[.val (.long ha), .second, .val (.long la), .second, .val (.long h2), .second, .val (.long l2), .second, .val (.int xm), .val (.long hbb), .second, .val (.long lbb), .second, .val (.int (((xm.toUInt32 >>> ((2 : Int32) &&& 31).toUInt32).toInt32) &&& (3 : Int32))), .val (.ref b1), .val (.ref b3), .val (.int (1 : Int32)), .val (.ref b23_0), .val (.int (0 : Int32)), .val (.int (1 : Int32))] [(.ref b1), (.ref b3)])) _
              refine st32.trans ?_
              show Steps p.tables e below (T32.setTop (mkF m 155 #[.val (.long ha), .second, .val (.long la), .second, .val (.long h2), .second, .val (.long l2), .second, .val (.int xm), .val (.long hbb), .second, .val (.long lbb), .second, .val (.int (((xm.toUInt32 >>> ((2 : Int32) &&& 31).toUInt32).toInt32) &&& (3 : Int32))), .val (.ref b1), .val (.ref b3), .val (.int (1 : Int32)), .val (.ref b23_0), .val (.int (0 : Int32)), .val (.int (1 : Int32))] [(.int (1 : Int32))])) _
              refine XS.iload X32.here hx rfl (hb hby at_155) rfl ?_
              show Steps p.tables e below (T32.setTop (mkF m 157 #[.val (.long ha), .second, .val (.long la), .second, .val (.long h2), .second, .val (.long l2), .second, .val (.int xm), .val (.long hbb), .second, .val (.long lbb), .second, .val (.int (((xm.toUInt32 >>> ((2 : Int32) &&& 31).toUInt32).toInt32) &&& (3 : Int32))), .val (.ref b1), .val (.ref b3), .val (.int (1 : Int32)), .val (.ref b23_0), .val (.int (0 : Int32)), .val (.int (1 : Int32))] [(.int (1 : Int32)), (.int (1 : Int32))])) _
              refine XS.icmpNo X32.here hx rfl (hb hby at_157) rfl (teq (by decide : (1 : Int32) = (1 : Int32))).2 ?_
              show Steps p.tables e below (T32.setTop (mkF m 160 #[.val (.long ha), .second, .val (.long la), .second, .val (.long h2), .second, .val (.long l2), .second, .val (.int xm), .val (.long hbb), .second, .val (.long lbb), .second, .val (.int (((xm.toUInt32 >>> ((2 : Int32) &&& 31).toUInt32).toInt32) &&& (3 : Int32))), .val (.ref b1), .val (.ref b3), .val (.int (1 : Int32)), .val (.ref b23_0), .val (.int (0 : Int32)), .val (.int (1 : Int32))] [])) _
              refine XS.iconst X32.here hx rfl (hb hby at_160) ?_
              show Steps p.tables e below (T32.setTop (mkF m 161 #[.val (.long ha), .second, .val (.long la), .second, .val (.long h2), .second, .val (.long l2), .second, .val (.int xm), .val (.long hbb), .second, .val (.long lbb), .second, .val (.int (((xm.toUInt32 >>> ((2 : Int32) &&& 31).toUInt32).toInt32) &&& (3 : Int32))), .val (.ref b1), .val (.ref b3), .val (.int (1 : Int32)), .val (.ref b23_0), .val (.int (0 : Int32)), .val (.int (1 : Int32))] [(.int (1 : Int32))])) _
              refine XS.goto X32.here hx rfl (pc0 := 161) (pc' := 165) rfl (hb hby at_161) (by decide) (by decide) ?_
              show Steps p.tables e below (T32.setTop (mkF m 165 #[.val (.long ha), .second, .val (.long la), .second, .val (.long h2), .second, .val (.long l2), .second, .val (.int xm), .val (.long hbb), .second, .val (.long lbb), .second, .val (.int (((xm.toUInt32 >>> ((2 : Int32) &&& 31).toUInt32).toInt32) &&& (3 : Int32))), .val (.ref b1), .val (.ref b3), .val (.int (1 : Int32)), .val (.ref b23_0), .val (.int (0 : Int32)), .val (.int (1 : Int32))] [(.int (1 : Int32))])) _
              refine XS.istore X32.here hx rfl (hb hby at_165) rfl (l' := #[.val (.long ha), .second, .val (.long la), .second, .val (.long h2), .second, .val (.long l2), .second, .val (.int xm), .val (.long hbb), .second, .val (.long lbb), .second, .val (.int (((xm.toUInt32 >>> ((2 : Int32) &&& 31).toUInt32).toInt32) &&& (3 : Int32))), .val (.ref b1), .val (.ref b3), .val (.int (1 : Int32)), .val (.ref b23_0), .val (.int (0 : Int32)), .val (.int (1 : Int32))]) rfl ?_
              show Steps p.tables e below (T32.setTop (mkF m 167 #[.val (.long ha), .second, .val (.long la), .second, .val (.long h2), .second, .val (.long l2), .second, .val (.int xm), .val (.long hbb), .second, .val (.long lbb), .second, .val (.int (((xm.toUInt32 >>> ((2 : Int32) &&& 31).toUInt32).toInt32) &&& (3 : Int32))), .val (.ref b1), .val (.ref b3), .val (.int (1 : Int32)), .val (.ref b23_0), .val (.int (0 : Int32)), .val (.int (1 : Int32))] [])) _
              refine XS.iload X32.here hx rfl (hb hby at_167) rfl ?_
              show Steps p.tables e below (T32.setTop (mkF m 169 #[.val (.long ha), .second, .val (.long la), .second, .val (.long h2), .second, .val (.long l2), .second, .val (.int xm), .val (.long hbb), .second, .val (.long lbb), .second, .val (.int (((xm.toUInt32 >>> ((2 : Int32) &&& 31).toUInt32).toInt32) &&& (3 : Int32))), .val (.ref b1), .val (.ref b3), .val (.int (1 : Int32)), .val (.ref b23_0), .val (.int (0 : Int32)), .val (.int (1 : Int32))] [(.int (1 : Int32))])) _
              refine XS.ifNo X32.here hx rfl (hb hby at_169) rfl ((if0 _ _).trans (feq (by decide : ¬ ((1 : Int32) = (0 : Int32)))).1) ?_
              show Steps p.tables e below (T32.setTop (mkF m 172 #[.val (.long ha), .second, .val (.long la), .second, .val (.long h2), .second, .val (.long l2), .second, .val (.int xm), .val (.long hbb), .second, .val (.long lbb), .second, .val (.int (((xm.toUInt32 >>> ((2 : Int32) &&& 31).toUInt32).toInt32) &&& (3 : Int32))), .val (.ref b1), .val (.ref b3), .val (.int (1 : Int32)), .val (.ref b23_0), .val (.int (0 : Int32)), .val (.int (1 : Int32))] [])) _
              refine XS.aload X32.here hx rfl (hb hby at_172) rfl rfl ?_
              show Steps p.tables e below (T32.setTop (mkF m 174 #[.val (.long ha), .second, .val (.long la), .second, .val (.long h2), .second, .val (.long l2), .second, .val (.int xm), .val (.long hbb), .second, .val (.long lbb), .second, .val (.int (((xm.toUInt32 >>> ((2 : Int32) &&& 31).toUInt32).toInt32) &&& (3 : Int32))), .val (.ref b1), .val (.ref b3), .val (.int (1 : Int32)), .val (.ref b23_0), .val (.int (0 : Int32)), .val (.int (1 : Int32))] [(.ref b1)])) _
              refine XS.aload X32.here hx rfl (hb hby at_174) rfl rfl ?_
              show Steps p.tables e below (T32.setTop (mkF m 176 #[.val (.long ha), .second, .val (.long la), .second, .val (.long h2), .second, .val (.long l2), .second, .val (.int xm), .val (.long hbb), .second, .val (.long lbb), .second, .val (.int (((xm.toUInt32 >>> ((2 : Int32) &&& 31).toUInt32).toInt32) &&& (3 : Int32))), .val (.ref b1), .val (.ref b3), .val (.int (1 : Int32)), .val (.ref b23_0), .val (.int (0 : Int32)), .val (.int (1 : Int32))] [(.ref b1), (.ref b1)])) _
              refine st34.trans ?_
              show Steps p.tables e below (T34.setTop (mkF m 179 #[.val (.long ha), .second, .val (.long la), .second, .val (.long h2), .second, .val (.long l2), .second, .val (.int xm), .val (.long hbb), .second, .val (.long lbb), .second, .val (.int (((xm.toUInt32 >>> ((2 : Int32) &&& 31).toUInt32).toInt32) &&& (3 : Int32))), .val (.ref b1), .val (.ref b3), .val (.int (1 : Int32)), .val (.ref b23_0), .val (.int (0 : Int32)), .val (.int (1 : Int32))] [(.int (1 : Int32))])) _
              refine XS.ifNo X34.here hx rfl (hb hby at_179) rfl ((if0 _ _).trans (feq (by decide : ¬ ((1 : Int32) = (0 : Int32)))).1) ?_
              show Steps p.tables e below (T34.setTop (mkF m 182 #[.val (.long ha), .second, .val (.long la), .second, .val (.long h2), .second, .val (.long l2), .second, .val (.int xm), .val (.long hbb), .second, .val (.long lbb), .second, .val (.int (((xm.toUInt32 >>> ((2 : Int32) &&& 31).toUInt32).toInt32) &&& (3 : Int32))), .val (.ref b1), .val (.ref b3), .val (.int (1 : Int32)), .val (.ref b23_0), .val (.int (0 : Int32)), .val (.int (1 : Int32))] [])) _
              refine XS.iconst X34.here hx rfl (hb hby at_182) ?_
              show Steps p.tables e below (T34.setTop (mkF m 183 #[.val (.long ha), .second, .val (.long la), .second, .val (.long h2), .second, .val (.long l2), .second, .val (.int xm), .val (.long hbb), .second, .val (.long lbb), .second, .val (.int (((xm.toUInt32 >>> ((2 : Int32) &&& 31).toUInt32).toInt32) &&& (3 : Int32))), .val (.ref b1), .val (.ref b3), .val (.int (1 : Int32)), .val (.ref b23_0), .val (.int (0 : Int32)), .val (.int (1 : Int32))] [(.int (1 : Int32))])) _
              refine XS.goto X34.here hx rfl (pc0 := 183) (pc' := 187) rfl (hb hby at_183) (by decide) (by decide) ?_
              show Steps p.tables e below (T34.setTop (mkF m 187 #[.val (.long ha), .second, .val (.long la), .second, .val (.long h2), .second, .val (.long l2), .second, .val (.int xm), .val (.long hbb), .second, .val (.long lbb), .second, .val (.int (((xm.toUInt32 >>> ((2 : Int32) &&& 31).toUInt32).toInt32) &&& (3 : Int32))), .val (.ref b1), .val (.ref b3), .val (.int (1 : Int32)), .val (.ref b23_0), .val (.int (0 : Int32)), .val (.int (1 : Int32))] [(.int (1 : Int32))])) _
              refine XS.istore X34.here hx rfl (hb hby at_187) rfl (l' := #[.val (.long ha), .second, .val (.long la), .second, .val (.long h2), .second, .val (.long l2), .second, .val (.int xm), .val (.long hbb), .second, .val (.long lbb), .second, .val (.int (((xm.toUInt32 >>> ((2 : Int32) &&& 31).toUInt32).toInt32) &&& (3 : Int32))), .val (.ref b1), .val (.ref b3), .val (.int (1 : Int32)), .val (.ref b23_0), .val (.int (0 : Int32)), .val (.int (1 : Int32))]) rfl ?_
              show Steps p.tables e below (T34.setTop (mkF m 189 #[.val (.long ha), .second, .val (.long la), .second, .val (.long h2), .second, .val (.long l2), .second, .val (.int xm), .val (.long hbb), .second, .val (.long lbb), .second, .val (.int (((xm.toUInt32 >>> ((2 : Int32) &&& 31).toUInt32).toInt32) &&& (3 : Int32))), .val (.ref b1), .val (.ref b3), .val (.int (1 : Int32)), .val (.ref b23_0), .val (.int (0 : Int32)), .val (.int (1 : Int32))] [])) _
              refine XS.iload X34.here hx rfl (hb hby at_189) rfl ?_
              show Steps p.tables e below (T34.setTop (mkF m 191 #[.val (.long ha), .second, .val (.long la), .second, .val (.long h2), .second, .val (.long l2), .second, .val (.int xm), .val (.long hbb), .second, .val (.long lbb), .second, .val (.int (((xm.toUInt32 >>> ((2 : Int32) &&& 31).toUInt32).toInt32) &&& (3 : Int32))), .val (.ref b1), .val (.ref b3), .val (.int (1 : Int32)), .val (.ref b23_0), .val (.int (0 : Int32)), .val (.int (1 : Int32))] [(.int (1 : Int32))])) _
              exact kt
            obtain ⟨fs, hr, hrun, hended, hW, hsame⟩ := X34.leave (v := some (.int (1 : Int32))) (fun h => by rw [hret] at h; cases h) hlk
            refine ⟨_, _, go35 _ ?_, hrun, hended, _, _, rfl, ⟨rfl, N34⟩, ⟨_, rfl⟩, hW, hsame.mono (by decide) (by decide)⟩
            exact retN X34 hx (t := .boolean) hret (by simp) (hb hby at_191) hr
          · skip
            by_cases hc36 : (127 : Int64) < ha
            · skip
              obtain ⟨_, _, ⟨T37, L37, k37, n37⟩, -, X37, ⟨Lc37, hQ37, l37, y37, z37⟩, st37⟩ := Jvm.LawKit.callS X5 hx (y := (⟨"java/lang/Long", "valueOf", "(J)Ljava/lang/Long;"⟩ : MethodName)) hown (mvT hZ (hw _ (List.mem_of_getElem? (i := 20) rfl))) (mvT hZ (hw _ (List.mem_of_getElem? (i := 21) rfl))) (mvT hZ (hw _ (List.mem_of_getElem? (i := 22) rfl))) (mvT hZ (hw _ (List.mem_of_getElem? (i := 23) rfl))) (by decide) (backOf (W := 0) (own_vHi l Z a0 hw [] ha T5.heap n0 Z5 hc22 hc36) hZ (hw _ (List.mem_of_getElem? (i := 23) rfl)) (hw _ (List.mem_of_getElem? (i := 22) rfl)) (by decide) (by decide)) (g := (mkF m 105 #[.val (.long ha), .second, .val (.long la), .second, .val (.long h2), .second, .val (.long l2), .second, .val (.int xm), .val (.long hbb), .second, .val (.long lbb), .second, .val (.int (((xm.toUInt32 >>> ((2 : Int32) &&& 31).toUInt32).toInt32) &&& (3 : Int32))), .val (.ref b1), .val (.ref b3), .val (.int (1 : Int32)), .unset, .unset, .unset] [(.long ha)])) rfl (by rw [hml]; rfl) (argsL := [(.long ha)]) (rest := []) (lenOf pd_13 rfl) rfl (by show 2 * 0 + _ ≤ _; exact Nat.le_of_eq rfl) (hb hby at_105) (fun _ _ => ⟨rfl, rfl, (by decide : 2 + 1 ≤ _), (by decide : 4 + 1 ≤ _)⟩)
              dsimp only [Pt.U, Pt.locs, Pt.cells, Pt.slots] at X37 l37 y37 z37 st37 hQ37
              subst l37 y37 z37
              obtain ⟨Nq37, b37_0, rfl, szb37_0, Kc37, p37_0⟩ := hQ37
              have N37 := Fr.app N5 Nq37
              have f38 : Exa Z T5.heap b1 "com/example/xmitq/xmitq/MessageId" := ((p2_0.ext E3).keep Kc5)
              have ne_b37_0_b1 : b1 ≠ b37_0 := Nat.ne_of_lt (Nat.lt_of_lt_of_le f38.lt szb37_0)
              have f39 : Arv Z T5.heap ca kc (.object "java/lang/Long") (256 : Int32) vs .null := ((f4.ext E3).keep Kc5 (ninS ne3_ca nin0))
              have ne_b37_0_ca : ca ≠ b37_0 := Nat.ne_of_lt (Nat.lt_of_lt_of_le f39.lt szb37_0)
              have ne_b37_0_b3 : b3 ≠ b37_0 := Nat.ne_of_lt (Nat.lt_of_lt_of_le p5_0.lt szb37_0)
              have ge_b37_0 : n0 ≤ b37_0 := Nat.le_trans Z5 szb37_0
              have Z37 : n0 ≤ T37.heap.size := Nat.le_trans Z5 Kc37.1
              have f41 : Exa Z T37.heap b1 "com/example/xmitq/xmitq/MessageId" := (f38.keep Kc37)
              obtain ⟨cq40, kq40, q40a, q40b, q40c⟩ := isOf hZ rfl f41
              obtain ⟨_, _, ⟨T40, L40, k40, n40⟩, -, X40, ⟨Lc40, hQ40, l40, y40, z40⟩, st40⟩ := X37.virtualBack hx (y := (⟨"com/example/xmitq/xmitq/MessageId", "equals", "(Ljava/lang/Object;)Z"⟩ : MethodName)) (z := (⟨"com/example/xmitq/xmitq/MessageId", "equals", "(Ljava/lang/Object;)Z"⟩ : MethodName)) hown (mvT hZ (hw _ (List.mem_of_getElem? (i := 13) rfl))) (mvT hZ (hw _ (List.mem_of_getElem? (i := 14) rfl))) (notFace_of_selects (args := #[]) (mvT hZ (hw _ (List.mem_of_getElem? (i := 16) rfl)))) (mvT hZ (hw _ (List.mem_of_getElem? (i := 16) rfl))) (mvT hZ (hw _ (List.mem_of_getElem? (i := 15) rfl))) (by decide) (backOf (W := 0) (own_eqLong l Z a0 hw [] b1 b37_0 T37.heap n0 Z37 p37_0) hZ (hw _ (List.mem_of_getElem? (i := 17) rfl)) (hw _ (List.mem_of_getElem? (i := 2) rfl)) (by decide) (by decide)) q40a q40c (g := (mkF m 128 #[.val (.long ha), .second, .val (.long la), .second, .val (.long h2), .second, .val (.long l2), .second, .val (.int xm), .val (.long hbb), .second, .val (.long lbb), .second, .val (.int (((xm.toUInt32 >>> ((2 : Int32) &&& 31).toUInt32).toInt32) &&& (3 : Int32))), .val (.ref b1), .val (.ref b3), .val (.int (1 : Int32)), .val (.ref b37_0), .val (.int (0 : Int32)), .unset] [(.ref b37_0), (.ref b1)])) rfl (by rw [hml]; rfl) (Steps.refl _) (argsL := [(.ref b37_0)]) (rest := []) (lenOf pd_12 rfl) rfl (by show 2 * 0 + _ ≤ _; exact Nat.le_of_eq rfl) (hb hby at_128) (fun _ _ => ⟨rfl, rfl, (by decide : 3 + 0 ≤ _), (by decide : 5 + 0 ≤ _)⟩)
              dsimp only [Pt.U, Pt.locs, Pt.cells, Pt.slots] at X40 l40 y40 z40 st40 hQ40
              subst l40 y40 z40
              obtain ⟨rfl, Nq40, e40⟩ := hQ40
              have N40 := Fr.app N37 Nq40
              have f42 : Fld Z T37.heap b3 "com/example/xmitq/xmitq/MessageId" "high" "J" (.long hbb) := (p5_1.keep Kc37 nin0)
              have f43 : Fld Z T37.heap b1 "com/example/xmitq/xmitq/MessageId" "high" "J" (.long ha) := (((p2_1.ext E3).keep Kc5 (ninS ne3_b1 nin0)).keep Kc37 nin0)
              have f44 : Fld Z T37.heap b3 "com/example/xmitq/xmitq/MessageId" "low" "J" (.long lbb) := (p5_2.keep Kc37 nin0)
              have f45 : Fld Z T37.heap b1 "com/example/xmitq/xmitq/MessageId" "low" "J" (.long la) := (((p2_2.ext E3).keep Kc5 (ninS ne3_b1 nin0)).keep Kc37 nin0)
              have f47 : Exa Z T37.heap b3 "com/example/xmitq/xmitq/MessageId" := (p5_0.keep Kc37)
              obtain ⟨cq46, kq46, q46a, q46b, q46c⟩ := isOf hZ e40 f47
              obtain ⟨_, _, ⟨T46, L46, k46, n46⟩, -, X46, ⟨Lc46, hQ46, l46, y46, z46⟩, st46⟩ := X40.virtualBack hx (y := (⟨"com/example/xmitq/xmitq/MessageId", "equals", "(Ljava/lang/Object;)Z"⟩ : MethodName)) (z := (⟨"com/example/xmitq/xmitq/MessageId", "equals", "(Ljava/lang/Object;)Z"⟩ : MethodName)) hown (mvT hZ (hw _ (List.mem_of_getElem? (i := 13) rfl))) (mvT hZ (hw _ (List.mem_of_getElem? (i := 14) rfl))) (notFace_of_selects (args := #[]) (mvT hZ (hw _ (List.mem_of_getElem? (i := 16) rfl)))) (mvT hZ (hw _ (List.mem_of_getElem? (i := 16) rfl))) (mvT hZ (hw _ (List.mem_of_getElem? (i := 15) rfl))) (by decide) (backOf (W := 0) (own_eqYY l Z a0 hw [] b3 b1 hbb ha lbb la T37.heap n0 Z37 f41 f42 f43 (Eq.symm hc7) f44 f45 (Eq.symm hc9)) hZ (hw _ (List.mem_of_getElem? (i := 17) rfl)) (hw _ (List.mem_of_getElem? (i := 2) rfl)) (by decide) (by decide)) q46a q46c (g := (mkF m 152 #[.val (.long ha), .second, .val (.long la), .second, .val (.long h2), .second, .val (.long l2), .second, .val (.int xm), .val (.long hbb), .second, .val (.long lbb), .second, .val (.int (((xm.toUInt32 >>> ((2 : Int32) &&& 31).toUInt32).toInt32) &&& (3 : Int32))), .val (.ref b1), .val (.ref b3), .val (.int (1 : Int32)), .val (.ref b37_0), .val (.int (0 : Int32)), .val (.int (1 : Int32))] [(.ref b1), (.ref b3)])) rfl (by rw [hml]; rfl) (Steps.refl _) (argsL := [(.ref b1)]) (rest := []) (lenOf pd_12 rfl) rfl (by show 2 * 0 + _ ≤ _; exact Nat.le_of_eq rfl) (hb hby at_152) (fun _ _ => ⟨rfl, e40, (by decide : 3 + 0 ≤ _), (by decide : 5 + 0 ≤ _)⟩)
              dsimp only [Pt.U, Pt.locs, Pt.cells, Pt.slots] at X46 l46 y46 z46 st46 hQ46
              subst l46 y46 z46
              obtain ⟨rfl, Nq46, e46⟩ := hQ46
              have N46 := Fr.app N40 Nq46
              obtain ⟨cq48, kq48, q48a, q48b, q48c⟩ := isOf hZ e46 f41
              obtain ⟨_, _, ⟨T48, L48, k48, n48⟩, -, X48, ⟨Lc48, hQ48, l48, y48, z48⟩, st48⟩ := X46.virtualBack hx (y := (⟨"com/example/xmitq/xmitq/MessageId", "equals", "(Ljava/lang/Object;)Z"⟩ : MethodName)) (z := (⟨"com/example/xmitq/xmitq/MessageId", "equals", "(Ljava/lang/Object;)Z"⟩ : MethodName)) hown (mvT hZ (hw _ (List.mem_of_getElem? (i := 13) rfl))) (mvT hZ (hw _ (List.mem_of_getElem? (i := 14) rfl))) (notFace_of_selects (args := #[]) (mvT hZ (hw _ (List.mem_of_getElem? (i := 16) rfl)))) (mvT hZ (hw _ (List.mem_of_getElem? (i := 16) rfl))) (mvT hZ (hw _ (List.mem_of_getElem? (i := 15) rfl))) (by decide) (backOf (W := 0) (own_eqYY l Z a0 hw [] b1 b1 ha ha la la T37.heap n0 Z37 f41 f43 f43 (rfl : ha = ha) f45 f45 (rfl : la = la)) hZ (hw _ (List.mem_of_getElem? (i := 17) rfl)) (hw _ (List.mem_of_getElem? (i := 2) rfl)) (by decide) (by decide)) q48a q48c (g := (mkF m 176 #[.val (.long ha), .second, .val (.long la), .second, .val (.long h2), .second, .val (.long l2), .second, .val (.int xm), .val (.long hbb), .second, .val (.long lbb), .second, .val (.int (((xm.toUInt32 >>> ((2 : Int32) &&& 31).toUInt32).toInt32) &&& (3 : Int32))), .val (.ref b1), .val (.ref b3), .val (.int (1 : Int32)), .val (.ref b37_0), .val (.int (0 : Int32)), .val (.int (1 : Int32))] [(.ref b1), (.ref b1)])) rfl (by rw [hml]; rfl) (Steps.refl _) (argsL := [(.ref b1)]) (rest := []) (lenOf pd_12 rfl) rfl (by show 2 * 0 + _ ≤ _; exact Nat.le_of_eq rfl) (hb hby at_176) (fun _ _ => ⟨rfl, e46, (by decide : 3 + 0 ≤ _), (by decide : 5 + 0 ≤ _)⟩)
              dsimp only [Pt.U, Pt.locs, Pt.cells, Pt.slots] at X48 l48 y48 z48 st48 hQ48
              subst l48 y48 z48
              obtain ⟨rfl, Nq48, e48⟩ := hQ48
              have N48 := Fr.app N46 Nq48
              have go49 : ∀ t, Steps p.tables e below (T48.setTop (mkF m 191 #[.val (.long ha), .second, .val (.long la), .second, .val (.long h2), .second, .val (.long l2), .second, .val (.int xm), .val (.long hbb), .second, .val (.long lbb), .second, .val (.int (((xm.toUInt32 >>> ((2 : Int32) &&& 31).toUInt32).toInt32) &&& (3 : Int32))), .val (.ref b1), .val (.ref b3), .val (.int (1 : Int32)), .val (.ref b37_0), .val (.int (0 : Int32)), .val (.int (1 : Int32))] [(.int (1 : Int32))])) t → Steps p.tables e below st0 t := by
                intro t kt
                refine go21 t ?_
                refine st37 _ ?_
                show Steps p.tables e below (T37.setTop (mkF m 108 #[.val (.long ha), .second, .val (.long la), .second, .val (.long h2), .second, .val (.long l2), .second, .val (.int xm), .val (.long hbb), .second, .val (.long lbb), .second, .val (.int (((xm.toUInt32 >>> ((2 : Int32) &&& 31).toUInt32).toInt32) &&& (3 : Int32))), .val (.ref b1), .val (.ref b3), .val (.int (1 : Int32)), .unset, .unset, .unset] [(.ref b37_0)])) _
                refine XS.astore X37.here hx rfl (hb hby at_108) rfl rfl (l' := #[.val (.long ha), .second, .val (.long la), .second, .val (.long h2), .second, .val (.long l2), .second, .val (.int xm), .val (.long hbb), .second, .val (.long lbb), .second, .val (.int (((xm.toUInt32 >>> ((2 : Int32) &&& 31).toUInt32).toInt32) &&& (3 : Int32))), .val (.ref b1), .val (.ref b3), .val (.int (1 : Int32)), .val (.ref b37_0), .unset, .unset]) rfl ?_
                show Steps p.tables e below (T37.setTop (mkF m 110 #[.val (.long ha), .second, .val (.long la), .second, .val (.long h2), .second, .val (.long l2), .second, .val (.int xm), .val (.long hbb), .second, .val (.long lbb), .second, .val (.int (((xm.toUInt32 >>> ((2 : Int32) &&& 31).toUInt32).toInt32) &&& (3 : Int32))), .val (.ref b1), .val (.ref b3), .val (.int (1 : Int32)), .val (.ref b37_0), .unset, .unset] [])) _
                refine XS.iconst X37.here hx rfl (hb hby at_110) ?_
                show Steps p.tables e below (T37.setTop (mkF m 111 #[.val (.long ha), .second, .val (.long la), .second, .val (.long h2), .second, .val (.long l2), .second, .val (.int xm), .val (.long hbb), .second, .val (.long lbb), .second, .val (.int (((xm.toUInt32 >>> ((2 : Int32) &&& 31).toUInt32).toInt32) &&& (3 : Int32))), .val (.ref b1), .val (.ref b3), .val (.int (1 : Int32)), .val (.ref b37_0), .unset, .unset] [(.int (0 : Int32))])) _
                refine XS.istore X37.here hx rfl (hb hby at_111) rfl (l' := #[.val (.long ha), .second, .val (.long la), .second, .val (.long h2), .second, .val (.long l2), .second, .val (.int xm), .val (.long hbb), .second, .val (.long lbb), .second, .val (.int (((xm.toUInt32 >>> ((2 : Int32) &&& 31).toUInt32).toInt32) &&& (3 : Int32))), .val (.ref b1), .val (.ref b3), .val (.int (1 : Int32)), .val (.ref b37_0), .val (.int (0 : Int32)), .unset]) rfl ?_
                show Steps p.tables e below (T37.setTop (mkF m 113 #[.val (.long ha), .second, .val (.long la), .second, .val (.long h2), .second, .val (.long l2), .second, .val (.int xm), .val (.long hbb), .second, .val (.long lbb), .second, .val (.int (((xm.toUInt32 >>> ((2 : Int32) &&& 31).toUInt32).toInt32) &&& (3 : Int32))), .val (.ref b1), .val (.ref b3), .val (.int (1 : Int32)), .val (.ref b37_0), .val (.int (0 : Int32)), .unset] [])) _
                refine XS.goto X37.here hx rfl (pc0 := 113) (pc' := 124) rfl (hb hby at_113) (by decide) (by decide) ?_
                show Steps p.tables e below (T37.setTop (mkF m 124 #[.val (.long ha), .second, .val (.long la), .second, .val (.long h2), .second, .val (.long l2), .second, .val (.int xm), .val (.long hbb), .second, .val (.long lbb), .second, .val (.int (((xm.toUInt32 >>> ((2 : Int32) &&& 31).toUInt32).toInt32) &&& (3 : Int32))), .val (.ref b1), .val (.ref b3), .val (.int (1 : Int32)), .val (.ref b37_0), .val (.int (0 : Int32)), .unset] [])) _
                refine XS.aload X37.here hx rfl (hb hby at_124) rfl rfl ?_
                show Steps p.tables e below (T37.setTop (mkF m 126 #[.val (.long ha), .second, .val (.long la), .second, .val (.long h2), .second, .val (.long l2), .second, .val (.int xm), .val (.long hbb), .second, .val (.long lbb), .second, .val (.int (((xm.toUInt32 >>> ((2 : Int32) &&& 31).toUInt32).toInt32) &&& (3 : Int32))), .val (.ref b1), .val (.ref b3), .val (.int (1 : Int32)), .val (.ref b37_0), .val (.int (0 : Int32)), .unset] [(.ref b1)])) _
                refine XS.aload X37.here hx rfl (hb hby at_126) rfl rfl ?_
                show Steps p.tables e below (T37.setTop (mkF m 128 #[.val (.long ha), .second, .val (.long la), .second, .val (.long h2), .second, .val (.long l2), .second, .val (.int xm), .val (.long hbb), .second, .val (.long lbb), .second, .val (.int (((xm.toUInt32 >>> ((2 : Int32) &&& 31).toUInt32).toInt32) &&& (3 : Int32))), .val (.ref b1), .val (.ref b3), .val (.int (1 : Int32)), .val (.ref b37_0), .val (.int (0 : Int32)), .unset] [(.ref b37_0), (.ref b1)])) _
                refine st40.trans ?_
                show Steps p.tables e below (T40.setTop (mkF m 131 #[.val (.long ha), .second, .val (.long la), .second, .val (.long h2), .second, .val (.long l2), .second, .val (.int xm), .val (.long hbb), .second, .val (.long lbb), .second, .val (.int (((xm.toUInt32 >>> ((2 : Int32) &&& 31).toUInt32).toInt32) &&& (3 : Int32))), .val (.ref b1), .val (.ref b3), .val (.int (1 : Int32)), .val (.ref b37_0), .val (.int (0 : Int32)), .unset] [(.int (0 : Int32))])) _
                refine XS.iload X40.here hx rfl (hb hby at_131) rfl ?_
                show Steps p.tables e below (T40.setTop (mkF m 133 #[.val (.long ha), .second, .val (.long la), .second, .val (.long h2), .second, .val (.long l2), .second, .val (.int xm), .val (.long hbb), .second, .val (.long lbb), .second, .val (.int (((xm.toUInt32 >>> ((2 : Int32) &&& 31).toUInt32).toInt32) &&& (3 : Int32))), .val (.ref b1), .val (.ref b3), .val (.int (1 : Int32)), .val (.ref b37_0), .val (.int (0 : Int32)), .unset] [(.int (0 : Int32)), (.int (0 : Int32))])) _
                refine XS.icmpNo X40.here hx rfl (hb hby at_133) rfl (teq (by decide : (0 : Int32) = (0 : Int32))).2 ?_
                show Steps p.tables e below (T40.setTop (mkF m 136 #[.val (.long ha), .second, .val (.long la), .second, .val (.long h2), .second, .val (.long l2), .second, .val (.int xm), .val (.long hbb), .second, .val (.long lbb), .second, .val (.int (((xm.toUInt32 >>> ((2 : Int32) &&& 31).toUInt32).toInt32) &&& (3 : Int32))), .val (.ref b1), .val (.ref b3), .val (.int (1 : Int32)), .val (.ref b37_0), .val (.int (0 : Int32)), .unset] [])) _
                refine XS.iconst X40.here hx rfl (hb hby at_136) ?_
                show Steps p.tables e below (T40.setTop (mkF m 137 #[.val (.long ha), .second, .val (.long la), .second, .val (.long h2), .second, .val (.long l2), .second, .val (.int xm), .val (.long hbb), .second, .val (.long lbb), .second, .val (.int (((xm.toUInt32 >>> ((2 : Int32) &&& 31).toUInt32).toInt32) &&& (3 : Int32))), .val (.ref b1), .val (.ref b3), .val (.int (1 : Int32)), .val (.ref b37_0), .val (.int (0 : Int32)), .unset] [(.int (1 : Int32))])) _
                refine XS.goto X40.here hx rfl (pc0 := 137) (pc' := 141) rfl (hb hby at_137) (by decide) (by decide) ?_
                show Steps p.tables e below (T40.setTop (mkF m 141 #[.val (.long ha), .second, .val (.long la), .second, .val (.long h2), .second, .val (.long l2), .second, .val (.int xm), .val (.long hbb), .second, .val (.long lbb), .second, .val (.int (((xm.toUInt32 >>> ((2 : Int32) &&& 31).toUInt32).toInt32) &&& (3 : Int32))), .val (.ref b1), .val (.ref b3), .val (.int (1 : Int32)), .val (.ref b37_0), .val (.int (0 : Int32)), .unset] [(.int (1 : Int32))])) _
                refine XS.istore X40.here hx rfl (hb hby at_141) rfl (l' := #[.val (.long ha), .second, .val (.long la), .second, .val (.long h2), .second, .val (.long l2), .second, .val (.int xm), .val (.long hbb), .second, .val (.long lbb), .second, .val (.int (((xm.toUInt32 >>> ((2 : Int32) &&& 31).toUInt32).toInt32) &&& (3 : Int32))), .val (.ref b1), .val (.ref b3), .val (.int (1 : Int32)), .val (.ref b37_0), .val (.int (0 : Int32)), .val (.int (1 : Int32))]) rfl ?_
                show Steps p.tables e below (T40.setTop (mkF m 143 #[.val (.long ha), .second, .val (.long la), .second, .val (.long h2), .second, .val (.long l2), .second, .val (.int xm), .val (.long hbb), .second, .val (.long lbb), .second, .val (.int (((xm.toUInt32 >>> ((2 : Int32) &&& 31).toUInt32).toInt32) &&& (3 : Int32))), .val (.ref b1), .val (.ref b3), .val (.int (1 : Int32)), .val (.ref b37_0), .val (.int (0 : Int32)), .val (.int (1 : Int32))] [])) _
                refine XS.iload X40.here hx rfl (hb hby at_143) rfl ?_
                show Steps p.tables e below (T40.setTop (mkF m 145 #[.val (.long ha), .second, .val (.long la), .second, .val (.long h2), .second, .val (.long l2), .second, .val (.int xm), .val (.long hbb), .second, .val (.long lbb), .second, .val (.int (((xm.toUInt32 >>> ((2 : Int32) &&& 31).toUInt32).toInt32) &&& (3 : Int32))), .val (.ref b1), .val (.ref b3), .val (.int (1 : Int32)), .val (.ref b37_0), .val (.int (0 : Int32)), .val (.int (1 : Int32))] [(.int (1 : Int32))])) _
                refine XS.ifNo X40.here hx rfl (hb hby at_145) rfl ((if0 _ _).trans (feq (by decide : ¬ ((1 : Int32) = (0 : Int32)))).1) ?_
                show Steps p.tables e below (T40.setTop (mkF m 148 #[.val (.long ha), .second, .val (.long la), .second, .val (.long h2), .second, .val (.long l2), .second, .val (.int xm), .val (.long hbb), .second, .val (.long lbb), .second, .val (.int (((xm.toUInt32 >>> ((2 : Int32) &&& 31).toUInt32).toInt32) &&& (3 : Int32))), .val (.ref b1), .val (.ref b3), .val (.int (1 : Int32)), .val (.ref b37_0), .val (.int (0 : Int32)), .val (.int (1 : Int32))] [])) _
                refine XS.aload X40.here hx rfl (hb hby at_148) rfl rfl ?_
                show Steps p.tables e below (T40.setTop (mkF m 150 #[.val (.long ha), .second, .val (.long la), .second, .val (.long h2), .second, .val (.long l2), .second, .val (.int xm), .val (.long hbb), .second, .val (.long lbb), .second, .val (.int (((xm.toUInt32 >>> ((2 : Int32) &&& 31).toUInt32).toInt32) &&& (3 : Int32))), .val (.ref b1), .val (.ref b3), .val (.int (1 : Int32)), .val (.ref b37_0), .val (.int (0 : Int32)), .val (.int (1 : Int32))] [(.ref b3)])) _
                refine XS.aload X40.here hx rfl (hb hby at_150) rfl rfl ?_
                show Steps p.tables e below (T40.setTop (mkF m 152 #[.val (.long ha), .second, .val (.long la), .second, .val (.long h2), .second, .val (.long l2), .second, .val (.int xm), .val (.long hbb), .second, .val (.long lbb), .second, .val (.int (((xm.toUInt32 >>> ((2 : Int32) &&& 31).toUInt32).toInt32) &&& (3 : Int32))), .val (.ref b1), .val (.ref b3), .val (.int (1 : Int32)), .val (.ref b37_0), .val (.int (0 : Int32)), .val (.int (1 : Int32))] [(.ref b1), (.ref b3)])) _
                refine st46.trans ?_
                show Steps p.tables e below (T46.setTop (mkF m 155 #[.val (.long ha), .second, .val (.long la), .second, .val (.long h2), .second, .val (.long l2), .second, .val (.int xm), .val (.long hbb), .second, .val (.long lbb), .second, .val (.int (((xm.toUInt32 >>> ((2 : Int32) &&& 31).toUInt32).toInt32) &&& (3 : Int32))), .val (.ref b1), .val (.ref b3), .val (.int (1 : Int32)), .val (.ref b37_0), .val (.int (0 : Int32)), .val (.int (1 : Int32))] [(.int (1 : Int32))])) _
                refine XS.iload X46.here hx rfl (hb hby at_155) rfl ?_
                show Steps p.tables e below (T46.setTop (mkF m 157 #[.val (.long ha), .second, .val (.long la), .second, .val (.long h2), .second, .val (.long l2), .second, .val (.int xm), .val (.long hbb), .second, .val (.long lbb), .second, .val (.int (((xm.toUInt32 >>> ((2 : Int32) &&& 31).toUInt32).toInt32) &&& (3 : Int32))), .val (.ref b1), .val (.ref b3), .val (.int (1 : Int32)), .val (.ref b37_0), .val (.int (0 : Int32)), .val (.int (1 : Int32))] [(.int (1 : Int32)), (.int (1 : Int32))])) _
                refine XS.icmpNo X46.here hx rfl (hb hby at_157) rfl (teq (by decide : (1 : Int32) = (1 : Int32))).2 ?_
                show Steps p.tables e below (T46.setTop (mkF m 160 #[.val (.long ha), .second, .val (.long la), .second, .val (.long h2), .second, .val (.long l2), .second, .val (.int xm), .val (.long hbb), .second, .val (.long lbb), .second, .val (.int (((xm.toUInt32 >>> ((2 : Int32) &&& 31).toUInt32).toInt32) &&& (3 : Int32))), .val (.ref b1), .val (.ref b3), .val (.int (1 : Int32)), .val (.ref b37_0), .val (.int (0 : Int32)), .val (.int (1 : Int32))] [])) _
                refine XS.iconst X46.here hx rfl (hb hby at_160) ?_
                show Steps p.tables e below (T46.setTop (mkF m 161 #[.val (.long ha), .second, .val (.long la), .second, .val (.long h2), .second, .val (.long l2), .second, .val (.int xm), .val (.long hbb), .second, .val (.long lbb), .second, .val (.int (((xm.toUInt32 >>> ((2 : Int32) &&& 31).toUInt32).toInt32) &&& (3 : Int32))), .val (.ref b1), .val (.ref b3), .val (.int (1 : Int32)), .val (.ref b37_0), .val (.int (0 : Int32)), .val (.int (1 : Int32))] [(.int (1 : Int32))])) _
                refine XS.goto X46.here hx rfl (pc0 := 161) (pc' := 165) rfl (hb hby at_161) (by decide) (by decide) ?_
                show Steps p.tables e below (T46.setTop (mkF m 165 #[.val (.long ha), .second, .val (.long la), .second, .val (.long h2), .second, .val (.long l2), .second, .val (.int xm), .val (.long hbb), .second, .val (.long lbb), .second, .val (.int (((xm.toUInt32 >>> ((2 : Int32) &&& 31).toUInt32).toInt32) &&& (3 : Int32))), .val (.ref b1), .val (.ref b3), .val (.int (1 : Int32)), .val (.ref b37_0), .val (.int (0 : Int32)), .val (.int (1 : Int32))] [(.int (1 : Int32))])) _
                refine XS.istore X46.here hx rfl (hb hby at_165) rfl (l' := #[.val (.long ha), .second, .val (.long la), .second, .val (.long h2), .second, .val (.long l2), .second, .val (.int xm), .val (.long hbb), .second, .val (.long lbb), .second, .val (.int (((xm.toUInt32 >>> ((2 : Int32) &&& 31).toUInt32).toInt32) &&& (3 : Int32))), .val (.ref b1), .val (.ref b3), .val (.int (1 : Int32)), .val (.ref b37_0), .val (.int (0 : Int32)), .val (.int (1 : Int32))]) rfl ?_
                show Steps p.tables e below (T46.setTop (mkF m 167 #[.val (.long ha), .second, .val (.long la), .second, .val (.long h2), .second, .val (.long l2), .second, .val (.int xm), .val (.long hbb), .second, .val (.long lbb), .second, .val (.int (((xm.toUInt32 >>> ((2 : Int32) &&& 31).toUInt32).toInt32) &&& (3 : Int32))), .val (.ref b1), .val (.ref b3), .val (.int (1 : Int32)), .val (.ref b37_0), .val (.int (0 : Int32)), .val (.int (1 : Int32))] [])) _
                refine XS.iload X46.here hx rfl (hb hby at_167) rfl ?_
                show Steps p.tables e below (T46.setTop (mkF m 169 #[.val (.long ha), .second, .val (.long la), .second, .val (.long h2), .second, .val (.long l2), .second, .val (.int xm), .val (.long hbb), .second, .val (.long lbb), .second, .val (.int (((xm.toUInt32 >>> ((2 : Int32) &&& 31).toUInt32).toInt32) &&& (3 : Int32))), .val (.ref b1), .val (.ref b3), .val (.int (1 : Int32)), .val (.ref b37_0), .val (.int (0 : Int32)), .val (.int (1 : Int32))] [(.int (1 : Int32))])) _
                refine XS.ifNo X46.here hx rfl (hb hby at_169) rfl ((if0 _ _).trans (feq (by decide : ¬ ((1 : Int32) = (0 : Int32)))).1) ?_
                show Steps p.tables e below (T46.setTop (mkF m 172 #[.val (.long ha), .second, .val (.long la), .second, .val (.long h2), .second, .val (.long l2), .second, .val (.int xm), .val (.long hbb), .second, .val (.long lbb), .second, .val (.int (((xm.toUInt32 >>> ((2 : Int32) &&& 31).toUInt32).toInt32) &&& (3 : Int32))), .val (.ref b1), .val (.ref b3), .val (.int (1 : Int32)), .val (.ref b37_0), .val (.int (0 : Int32)), .val (.int (1 : Int32))] [])) _
                refine XS.aload X46.here hx rfl (hb hby at_172) rfl rfl ?_
                show Steps p.tables e below (T46.setTop (mkF m 174 #[.val (.long ha), .second, .val (.long la), .second, .val (.long h2), .second, .val (.long l2), .second, .val (.int xm), .val (.long hbb), .second, .val (.long lbb), .second, .val (.int (((xm.toUInt32 >>> ((2 : Int32) &&& 31).toUInt32).toInt32) &&& (3 : Int32))), .val (.ref b1), .val (.ref b3), .val (.int (1 : Int32)), .val (.ref b37_0), .val (.int (0 : Int32)), .val (.int (1 : Int32))] [(.ref b1)])) _
                refine XS.aload X46.here hx rfl (hb hby at_174) rfl rfl ?_
                show Steps p.tables e below (T46.setTop (mkF m 176 #[.val (.long ha), .second, .val (.long la), .second, .val (.long h2), .second, .val (.long l2), .second, .val (.int xm), .val (.long hbb), .second, .val (.long lbb), .second, .val (.int (((xm.toUInt32 >>> ((2 : Int32) &&& 31).toUInt32).toInt32) &&& (3 : Int32))), .val (.ref b1), .val (.ref b3), .val (.int (1 : Int32)), .val (.ref b37_0), .val (.int (0 : Int32)), .val (.int (1 : Int32))] [(.ref b1), (.ref b1)])) _
                refine st48.trans ?_
                show Steps p.tables e below (T48.setTop (mkF m 179 #[.val (.long ha), .second, .val (.long la), .second, .val (.long h2), .second, .val (.long l2), .second, .val (.int xm), .val (.long hbb), .second, .val (.long lbb), .second, .val (.int (((xm.toUInt32 >>> ((2 : Int32) &&& 31).toUInt32).toInt32) &&& (3 : Int32))), .val (.ref b1), .val (.ref b3), .val (.int (1 : Int32)), .val (.ref b37_0), .val (.int (0 : Int32)), .val (.int (1 : Int32))] [(.int (1 : Int32))])) _
                refine XS.ifNo X48.here hx rfl (hb hby at_179) rfl ((if0 _ _).trans (feq (by decide : ¬ ((1 : Int32) = (0 : Int32)))).1) ?_
                show Steps p.tables e below (T48.setTop (mkF m 182 #[.val (.long ha), .second, .val (.long la), .second, .val (.long h2), .second, .val (.long l2), .second, .val (.int xm), .val (.long hbb), .second, .val (.long lbb), .second, .val (.int (((xm.toUInt32 >>> ((2 : Int32) &&& 31).toUInt32).toInt32) &&& (3 : Int32))), .val (.ref b1), .val (.ref b3), .val (.int (1 : Int32)), .val (.ref b37_0), .val (.int (0 : Int32)), .val (.int (1 : Int32))] [])) _
                refine XS.iconst X48.here hx rfl (hb hby at_182) ?_
                show Steps p.tables e below (T48.setTop (mkF m 183 #[.val (.long ha), .second, .val (.long la), .second, .val (.long h2), .second, .val (.long l2), .second, .val (.int xm), .val (.long hbb), .second, .val (.long lbb), .second, .val (.int (((xm.toUInt32 >>> ((2 : Int32) &&& 31).toUInt32).toInt32) &&& (3 : Int32))), .val (.ref b1), .val (.ref b3), .val (.int (1 : Int32)), .val (.ref b37_0), .val (.int (0 : Int32)), .val (.int (1 : Int32))] [(.int (1 : Int32))])) _
                refine XS.goto X48.here hx rfl (pc0 := 183) (pc' := 187) rfl (hb hby at_183) (by decide) (by decide) ?_
                show Steps p.tables e below (T48.setTop (mkF m 187 #[.val (.long ha), .second, .val (.long la), .second, .val (.long h2), .second, .val (.long l2), .second, .val (.int xm), .val (.long hbb), .second, .val (.long lbb), .second, .val (.int (((xm.toUInt32 >>> ((2 : Int32) &&& 31).toUInt32).toInt32) &&& (3 : Int32))), .val (.ref b1), .val (.ref b3), .val (.int (1 : Int32)), .val (.ref b37_0), .val (.int (0 : Int32)), .val (.int (1 : Int32))] [(.int (1 : Int32))])) _
                refine XS.istore X48.here hx rfl (hb hby at_187) rfl (l' := #[.val (.long ha), .second, .val (.long la), .second, .val (.long h2), .second, .val (.long l2), .second, .val (.int xm), .val (.long hbb), .second, .val (.long lbb), .second, .val (.int (((xm.toUInt32 >>> ((2 : Int32) &&& 31).toUInt32).toInt32) &&& (3 : Int32))), .val (.ref b1), .val (.ref b3), .val (.int (1 : Int32)), .val (.ref b37_0), .val (.int (0 : Int32)), .val (.int (1 : Int32))]) rfl ?_
                show Steps p.tables e below (T48.setTop (mkF m 189 #[.val (.long ha), .second, .val (.long la), .second, .val (.long h2), .second, .val (.long l2), .second, .val (.int xm), .val (.long hbb), .second, .val (.long lbb), .second, .val (.int (((xm.toUInt32 >>> ((2 : Int32) &&& 31).toUInt32).toInt32) &&& (3 : Int32))), .val (.ref b1), .val (.ref b3), .val (.int (1 : Int32)), .val (.ref b37_0), .val (.int (0 : Int32)), .val (.int (1 : Int32))] [])) _
                refine XS.iload X48.here hx rfl (hb hby at_189) rfl ?_
                show Steps p.tables e below (T48.setTop (mkF m 191 #[.val (.long ha), .second, .val (.long la), .second, .val (.long h2), .second, .val (.long l2), .second, .val (.int xm), .val (.long hbb), .second, .val (.long lbb), .second, .val (.int (((xm.toUInt32 >>> ((2 : Int32) &&& 31).toUInt32).toInt32) &&& (3 : Int32))), .val (.ref b1), .val (.ref b3), .val (.int (1 : Int32)), .val (.ref b37_0), .val (.int (0 : Int32)), .val (.int (1 : Int32))] [(.int (1 : Int32))])) _
                exact kt
              obtain ⟨fs, hr, hrun, hended, hW, hsame⟩ := X48.leave (v := some (.int (1 : Int32))) (fun h => by rw [hret] at h; cases h) hlk
              refine ⟨_, _, go49 _ ?_, hrun, hended, _, _, rfl, ⟨rfl, N48⟩, ⟨_, rfl⟩, hW, hsame.mono (by decide) (by decide)⟩
              exact retN X48 hx (t := .boolean) hret (by simp) (hb hby at_191) hr
            · skip
              have f50 : Sta Z T5.heap "java/lang/Long$LongCache" "cache" "[Ljava/lang/Long;" (.ref ca) := (own_sta_keep ((own_sta_keep (P0.ext E1) Kc2 (allS (P := fun x => ∀ c, h1[x]? = some c → c.vm.isStatics = false) (own_nost A1) all0)).ext E3) Kc5 (allS (P := fun x => ∀ c, h3[x]? = some c → c.vm.isStatics = false) (own_nost A3) all0))
              have f51 : Arv Z T5.heap ca kc (.object "java/lang/Long") (256 : Int32) vs .null := ((f4.ext E3).keep Kc5 (ninS ne3_ca nin0))
              have f52 : own_AllL Z T5.heap vs 256 "java/lang/Long" := ((((P2.ext E1).keep Kc2).ext E3).keep Kc5)
              obtain ⟨_, _, ⟨T53, L53, k53, n53⟩, -, X53, ⟨Lc53, hQ53, l53, y53, z53⟩, st53⟩ := Jvm.LawKit.callS X5 hx (y := (⟨"java/lang/Long", "valueOf", "(J)Ljava/lang/Long;"⟩ : MethodName)) hown (mvT hZ (hw _ (List.mem_of_getElem? (i := 20) rfl))) (mvT hZ (hw _ (List.mem_of_getElem? (i := 21) rfl))) (mvT hZ (hw _ (List.mem_of_getElem? (i := 22) rfl))) (mvT hZ (hw _ (List.mem_of_getElem? (i := 23) rfl))) (by decide) (backOf (W := 0) (own_vIn l Z a0 hw [] ha ca kc vs T5.heap n0 Z5 hc22 hc36 f50 f51 f52) hZ (hw _ (List.mem_of_getElem? (i := 23) rfl)) (hw _ (List.mem_of_getElem? (i := 22) rfl)) (by decide) (by decide)) (g := (mkF m 105 #[.val (.long ha), .second, .val (.long la), .second, .val (.long h2), .second, .val (.long l2), .second, .val (.int xm), .val (.long hbb), .second, .val (.long lbb), .second, .val (.int (((xm.toUInt32 >>> ((2 : Int32) &&& 31).toUInt32).toInt32) &&& (3 : Int32))), .val (.ref b1), .val (.ref b3), .val (.int (1 : Int32)), .unset, .unset, .unset] [(.long ha)])) rfl (by rw [hml]; rfl) (argsL := [(.long ha)]) (rest := []) (lenOf pd_13 rfl) rfl (by show 2 * 0 + _ ≤ _; exact Nat.le_of_eq rfl) (hb hby at_105) (fun _ _ => ⟨rfl, rfl, (by decide : 2 + 0 ≤ _), (by decide : 4 + 0 ≤ _)⟩)
              dsimp only [Pt.U, Pt.locs, Pt.cells, Pt.slots] at X53 l53 y53 z53 st53 hQ53
              subst l53 y53 z53
              obtain ⟨Nq53, y53_0, rfl, Kc53, p53_0⟩ := hQ53
              have N53 := Fr.app N5 Nq53
              have Z53 : n0 ≤ T53.heap.size := Nat.le_trans Z5 Kc53.1
              have f55 : Exa Z T53.heap b1 "com/example/xmitq/xmitq/MessageId" := (((p2_0.ext E3).keep Kc5).keep Kc53)
              obtain ⟨cq54, kq54, q54a, q54b, q54c⟩ := isOf hZ rfl f55
              obtain ⟨_, _, ⟨T54, L54, k54, n54⟩, -, X54, ⟨Lc54, hQ54, l54, y54, z54⟩, st54⟩ := X53.virtualBack hx (y := (⟨"com/example/xmitq/xmitq/MessageId", "equals", "(Ljava/lang/Object;)Z"⟩ : MethodName)) (z := (⟨"com/example/xmitq/xmitq/MessageId", "equals", "(Ljava/lang/Object;)Z"⟩ : MethodName)) hown (mvT hZ (hw _ (List.mem_of_getElem? (i := 13) rfl))) (mvT hZ (hw _ (List.mem_of_getElem? (i := 14) rfl))) (notFace_of_selects (args := #[]) (mvT hZ (hw _ (List.mem_of_getElem? (i := 16) rfl)))) (mvT hZ (hw _ (List.mem_of_getElem? (i := 16) rfl))) (mvT hZ (hw _ (List.mem_of_getElem? (i := 15) rfl))) (by decide) (backOf (W := 0) (own_eqLong l Z a0 hw [] b1 y53_0 T53.heap n0 Z53 p53_0) hZ (hw _ (List.mem_of_getElem? (i := 17) rfl)) (hw _ (List.mem_of_getElem? (i := 2) rfl)) (by decide) (by decide)) q54a q54c (g := (mkF m 128 #[.val (.long ha), .second, .val (.long la), .second, .val (.long h2), .second, .val (.long l2), .second, .val (.int xm), .val (.long hbb), .second, .val (.long lbb), .second, .val (.int (((xm.toUInt32 >>> ((2 : Int32) &&& 31).toUInt32).toInt32) &&& (3 : Int32))), .val (.ref b1), .val (.ref b3), .val (.int (1 : Int32)), .val (.ref y53_0), .val (.int (0 : Int32)), .unset] [(.ref y53_0), (.ref b1)])) rfl (by rw [hml]; rfl) (Steps.refl _) (argsL := [(.ref y53_0)]) (rest := []) (lenOf pd_12 rfl) rfl (by show 2 * 0 + _ ≤ _; exact Nat.le_of_eq rfl) (hb hby at_128) (fun _ _ => ⟨rfl, rfl, (by decide : 2 + 0 ≤ _), (by decide : 4 + 0 ≤ _)⟩)
              dsimp only [Pt.U, Pt.locs, Pt.cells, Pt.slots] at X54 l54 y54 z54 st54 hQ54
              subst l54 y54 z54
              obtain ⟨rfl, Nq54, e54⟩ := hQ54
              have N54 := Fr.app N53 Nq54
              have f56 : Fld Z T53.heap b3 "com/example/xmitq/xmitq/MessageId" "high" "J" (.long hbb) := (p5_1.keep Kc53 nin0)
              have f57 : Fld Z T53.heap b1 "com/example/xmitq/xmitq/MessageId" "high" "J" (.long ha) := (((p2_1.ext E3).keep Kc5 (ninS ne3_b1 nin0)).keep Kc53 nin0)
              have f58 : Fld Z T53.heap b3 "com/example/xmitq/xmitq/MessageId" "low" "J" (.long lbb) := (p5_2.keep Kc53 nin0)
              have f59 : Fld Z T53.heap b1 "com/example/xmitq/xmitq/MessageId" "low" "J" (.long la) := (((p2_2.ext E3).keep Kc5 (ninS ne3_b1 nin0)).keep Kc53 nin0)
              have f61 : Exa Z T53.heap b3 "com/example/xmitq/xmitq/MessageId" := (p5_0.keep Kc53)
              obtain ⟨cq60, kq60, q60a, q60b, q60c⟩ := isOf hZ e54 f61
              obtain ⟨_, _, ⟨T60, L60, k60, n60⟩, -, X60, ⟨Lc60, hQ60, l60, y60, z60⟩, st60⟩ := X54.virtualBack hx (y := (⟨"com/example/xmitq/xmitq/MessageId", "equals", "(Ljava/lang/Object;)Z"⟩ : MethodName)) (z := (⟨"com/example/xmitq/xmitq/MessageId", "equals", "(Ljava/lang/Object;)Z"⟩ : MethodName)) hown (mvT hZ (hw _ (List.mem_of_getElem? (i := 13) rfl))) (mvT hZ (hw _ (List.mem_of_getElem? (i := 14) rfl))) (notFace_of_selects (args := #[]) (mvT hZ (hw _ (List.mem_of_getElem? (i := 16) rfl)))) (mvT hZ (hw _ (List.mem_of_getElem? (i := 16) rfl))) (mvT hZ (hw _ (List.mem_of_getElem? (i := 15) rfl))) (by decide) (backOf (W := 0) (own_eqYY l Z a0 hw [] b3 b1 hbb ha lbb la T53.heap n0 Z53 f55 f56 f57 (Eq.symm hc7) f58 f59 (Eq.symm hc9)) hZ (hw _ (List.mem_of_getElem? (i := 17) rfl)) (hw _ (List.mem_of_getElem? (i := 2) rfl)) (by decide) (by decide)) q60a q60c (g := (mkF m 152 #[.val (.long ha), .second, .val (.long la), .second, .val (.long h2), .second, .val (.long l2), .second, .val (.int xm), .val (.long hbb), .second, .val (.long lbb), .second, .val (.int (((xm.toUInt32 >>> ((2 : Int32) &&& 31).toUInt32).toInt32) &&& (3 : Int32))), .val (.ref b1), .val (.ref b3), .val (.int (1 : Int32)), .val (.ref y53_0), .val (.int (0 : Int32)), .val (.int (1 : Int32))] [(.ref b1), (.ref b3)])) rfl (by rw [hml]; rfl) (Steps.refl _) (argsL := [(.ref b1)]) (rest := []) (lenOf pd_12 rfl) rfl (by show 2 * 0 + _ ≤ _; exact Nat.le_of_eq rfl) (hb hby at_152) (fun _ _ => ⟨rfl, e54, (by decide : 2 + 0 ≤ _), (by decide : 4 + 0 ≤ _)⟩)
              dsimp only [Pt.U, Pt.locs, Pt.cells, Pt.slots] at X60 l60 y60 z60 st60 hQ60
              subst l60 y60 z60
              obtain ⟨rfl, Nq60, e60⟩ := hQ60
              have N60 := Fr.app N54 Nq60
              obtain ⟨cq62, kq62, q62a, q62b, q62c⟩ := isOf hZ e60 f55
              obtain ⟨_, _, ⟨T62, L62, k62, n62⟩, -, X62, ⟨Lc62, hQ62, l62, y62, z62⟩, st62⟩ := X60.virtualBack hx (y := (⟨"com/example/xmitq/xmitq/MessageId", "equals", "(Ljava/lang/Object;)Z"⟩ : MethodName)) (z := (⟨"com/example/xmitq/xmitq/MessageId", "equals", "(Ljava/lang/Object;)Z"⟩ : MethodName)) hown (mvT hZ (hw _ (List.mem_of_getElem? (i := 13) rfl))) (mvT hZ (hw _ (List.mem_of_getElem? (i := 14) rfl))) (notFace_of_selects (args := #[]) (mvT hZ (hw _ (List.mem_of_getElem? (i := 16) rfl)))) (mvT hZ (hw _ (List.mem_of_getElem? (i := 16) rfl))) (mvT hZ (hw _ (List.mem_of_getElem? (i := 15) rfl))) (by decide) (backOf (W := 0) (own_eqYY l Z a0 hw [] b1 b1 ha ha la la T53.heap n0 Z53 f55 f57 f57 (rfl : ha = ha) f59 f59 (rfl : la = la)) hZ (hw _ (List.mem_of_getElem? (i := 17) rfl)) (hw _ (List.mem_of_getElem? (i := 2) rfl)) (by decide) (by decide)) q62a q62c (g := (mkF m 176 #[.val (.long ha), .second, .val (.long la), .second, .val (.long h2), .second, .val (.long l2), .second, .val (.int xm), .val (.long hbb), .second, .val (.long lbb), .second, .val (.int (((xm.toUInt32 >>> ((2 : Int32) &&& 31).toUInt32).toInt32) &&& (3 : Int32))), .val (.ref b1), .val (.ref b3), .val (.int (1 : Int32)), .val (.ref y53_0), .val (.int (0 : Int32)), .val (.int (1 : Int32))] [(.ref b1), (.ref b1)])) rfl (by rw [hml]; rfl) (Steps.refl _) (argsL := [(.ref b1)]) (rest := []) (lenOf pd_12 rfl) rfl (by show 2 * 0 + _ ≤ _; exact Nat.le_of_eq rfl) (hb hby at_176) (fun _ _ => ⟨rfl, e60, (by decide : 2 + 0 ≤ _), (by decide : 4 + 0 ≤ _)⟩)
              dsimp only [Pt.U, Pt.locs, Pt.cells, Pt.slots] at X62 l62 y62 z62 st62 hQ62
              subst l62 y62 z62
              obtain ⟨rfl, Nq62, e62⟩ := hQ62
              have N62 := Fr.app N60 Nq62
              have go63 : ∀ t, Steps p.tables e below (T62.setTop (mkF m 191 #[.val (.long ha), .second, .val (.long la), .second, .val (.long h2), .second, .val (.long l2), .second, .val (.int xm), .val (.long hbb), .second, .val (.long lbb), .second, .val (.int (((xm.toUInt32 >>> ((2 : Int32) &&& 31).toUInt32).toInt32) &&& (3 : Int32))), .val (.ref b1), .val (.ref b3), .val (.int (1 : Int32)), .val (.ref y53_0), .val (.int (0 : Int32)), .val (.int (1 : Int32))] [(.int (1 : Int32))])) t → Steps p.tables e below st0 t := by
                intro t kt
                refine go21 t ?_
                refine st53 _ ?_
                show Steps p.tables e below (T53.setTop (mkF m 108 #[.val (.long ha), .second, .val (.long la), .second, .val (.long h2), .second, .val (.long l2), .second, .val (.int xm), .val (.long hbb), .second, .val (.long lbb), .second, .val (.int (((xm.toUInt32 >>> ((2 : Int32) &&& 31).toUInt32).toInt32) &&& (3 : Int32))), .val (.ref b1), .val (.ref b3), .val (.int (1 : Int32)), .unset, .unset, .unset] [(.ref y53_0)])) _
                refine XS.astore X53.here hx rfl (hb hby at_108) rfl rfl (l' := #[.val (.long ha), .second, .val (.long la), .second, .val (.long h2), .second, .val (.long l2), .second, .val (.int xm), .val (.long hbb), .second, .val (.long lbb), .second, .val (.int (((xm.toUInt32 >>> ((2 : Int32) &&& 31).toUInt32).toInt32) &&& (3 : Int32))), .val (.ref b1), .val (.ref b3), .val (.int (1 : Int32)), .val (.ref y53_0), .unset, .unset]) rfl ?_
                show Steps p.tables e below (T53.setTop (mkF m 110 #[.val (.long ha), .second, .val (.long la), .second, .val (.long h2), .second, .val (.long l2), .second, .val (.int xm), .val (.long hbb), .second, .val (.long lbb), .second, .val (.int (((xm.toUInt32 >>> ((2 : Int32) &&& 31).toUInt32).toInt32) &&& (3 : Int32))), .val (.ref b1), .val (.ref b3), .val (.int (1 : Int32)), .val (.ref y53_0), .unset, .unset] [])) _
                refine XS.iconst X53.here hx rfl (hb hby at_110) ?_
                show Steps p.tables e below (T53.setTop (mkF m 111 #[.val (.long ha), .second, .val (.long la), .second, .val (.long h2), .second, .val (.long l2), .second, .val (.int xm), .val (.long hbb), .second, .val (.long lbb), .second, .val (.int (((xm.toUInt32 >>> ((2 : Int32) &&& 31).toUInt32).toInt32) &&& (3 : Int32))), .val (.ref b1), .val (.ref b3), .val (.int (1 : Int32)), .val (.ref y53_0), .unset, .unset] [(.int (0 : Int32))])) _
                refine XS.istore X53.here hx rfl (hb hby at_111) rfl (l' := #[.val (.long ha), .second, .val (.long la), .second, .val (.long h2), .second, .val (.long l2), .second, .val (.int xm), .val (.long hbb), .second, .val (.long lbb), .second, .val (.int (((xm.toUInt32 >>> ((2 : Int32) &&& 31).toUInt32).toInt32) &&& (3 : Int32))), .val (.ref b1), .val (.ref b3), .val (.int (1 : Int32)), .val (.ref y53_0), .val (.int (0 : Int32)), .unset]) rfl ?_
                show Steps p.tables e below (T53.setTop (mkF m 113 #[.val (.long ha), .second, .val (.long la), .second, .val (.long h2), .second, .val (.long l2), .second, .val (.int xm), .val (.long hbb), .second, .val (.long lbb), .second, .val (.int (((xm.toUInt32 >>> ((2 : Int32) &&& 31).toUInt32).toInt32) &&& (3 : Int32))), .val (.ref b1), .val (.ref b3), .val (.int (1 : Int32)), .val (.ref y53_0), .val (.int (0 : Int32)), .unset] [])) _
                refine XS.goto X53.here hx rfl (pc0 := 113) (pc' := 124) rfl (hb hby at_113) (by decide) (by decide) ?_
                show Steps p.tables e below (T53.setTop (mkF m 124 #[.val (.long ha), .second, .val (.long la), .second, .val (.long h2), .second, .val (.long l2), .second, .val (.int xm), .val (.long hbb), .second, .val (.long lbb), .second, .val (.int (((xm.toUInt32 >>> ((2 : Int32) &&& 31).toUInt32).toInt32) &&& (3 : Int32))), .val (.ref b1), .val (.ref b3), .val (.int (1 : Int32)), .val (.ref y53_0), .val (.int (0 : Int32)), .unset] [])) _
                refine XS.aload X53.here hx rfl (hb hby at_124) rfl rfl ?_
                show Steps p.tables e below (T53.setTop (mkF m 126 #[.val (.long ha), .second, .val (.long la), .second, .val (.long h2), .second, .val (.long l2), .second, .val (.int xm), .val (.long hbb), .second, .val (.long lbb), .second, .val (.int (((xm.toUInt32 >>> ((2 : Int32) &&& 31).toUInt32).toInt32) &&& (3 : Int32))), .val (.ref b1), .val (.ref b3), .val (.int (1 : Int32)), .val (.ref y53_0), .val (.int (0 : Int32)), .unset] [(.ref b1)])) _
                refine XS.aload X53.here hx rfl (hb hby at_126) rfl rfl ?_
                show Steps p.tables e below (T53.setTop (mkF m 128 #[.val (.long ha), .second, .val (.long la), .second, .val (.long h2), .second, .val (.long l2), .second, .val (.int xm), .val (.long hbb), .second, .val (.long lbb), .second, .val (.int (((xm.toUInt32 >>> ((2 : Int32) &&& 31).toUInt32).toInt32) &&& (3 : Int32))), .val (.ref b1), .val (.ref b3), .val (.int (1 : Int32)), .val (.ref y53_0), .val (.int (0 : Int32)), .unset] [(.ref y53_0), (.ref b1)])) _
                refine st54.trans ?_
                show Steps p.tables e below (T54.setTop (mkF m 131 #[.val (.long ha), .second, .val (.long la), .second, .val (.long h2), .second, .val (.long l2), .second, .val (.int xm), .val (.long hbb), .second, .val (.long lbb), .second, .val (.int (((xm.toUInt32 >>> ((2 : Int32) &&& 31).toUInt32).toInt32) &&& (3 : Int32))), .val (.ref b1), .val (.ref b3), .val (.int (1 : Int32)), .val (.ref y53_0), .val (.int (0 : Int32)), .unset] [(.int (0 : Int32))])) _
                refine XS.iload X54.here hx rfl (hb hby at_131) rfl ?_
                show Steps p.tables e below (T54.setTop (mkF m 133 #[.val (.long ha), .second, .val (.long la), .second, .val (.long h2), .second, .val (.long l2), .second, .val (.int xm), .val (.long hbb), .second, .val (.long lbb), .second, .val (.int (((xm.toUInt32 >>> ((2 : Int32) &&& 31).toUInt32).toInt32) &&& (3 : Int32))), .val (.ref b1), .val (.ref b3), .val (.int (1 : Int32)), .val (.ref y53_0), .val (.int (0 : Int32)), .unset] [(.int (0 : Int32)), (.int (0 : Int32))])) _
                refine XS.icmpNo X54.here hx rfl (hb hby at_133) rfl (teq (by decide : (0 : Int32) = (0 : Int32))).2 ?_
                show Steps p.tables e below (T54.setTop (mkF m 136 #[.val (.long ha), .second, .val (.long la), .second, .val (.long h2), .second, .val (.long l2), .second, .val (.int xm), .val (.long hbb), .second, .val (.long lbb), .second, .val (.int (((xm.toUInt32 >>> ((2 : Int32) &&& 31).toUInt32).toInt32) &&& (3 : Int32))), .val (.ref b1), .val (.ref b3), .val (.int (1 : Int32)), .val (.ref y53_0), .val (.int (0 : Int32)), .unset] [])) _
                refine XS.iconst X54.here hx rfl (hb hby at_136) ?_
                show Steps p.tables e below (T54.setTop (mkF m 137 #[.val (.long ha), .second, .val (.long la), .second, .val (.long h2), .second, .val (.long l2), .second, .val (.int xm), .val (.long hbb), .second, .val (.long lbb), .second, .val (.int (((xm.toUInt32 >>> ((2 : Int32) &&& 31).toUInt32).toInt32) &&& (3 : Int32))), .val (.ref b1), .val (.ref b3), .val (.int (1 : Int32)), .val (.ref y53_0), .val (.int (0 : Int32)), .unset] [(.int (1 : Int32))])) _
                refine XS.goto X54.here hx rfl (pc0 := 137) (pc' := 141) rfl (hb hby at_137) (by decide) (by decide) ?_
                show Steps p.tables e below (T54.setTop (mkF m 141 #[.val (.long ha), .second, .val (.long la), .second, .val (.long h2), .second, .val (.long l2), .second, .val (.int xm), .val (.long hbb), .second, .val (.long lbb), .second, .val (.int (((xm.toUInt32 >>> ((2 : Int32) &&& 31).toUInt32).toInt32) &&& (3 : Int32))), .val (.ref b1), .val (.ref b3), .val (.int (1 : Int32)), .val (.ref y53_0), .val (.int (0 : Int32)), .unset] [(.int (1 : Int32))])) _
                refine XS.istore X54.here hx rfl (hb hby at_141) rfl (l' := #[.val (.long ha), .second, .val (.long la), .second, .val (.long h2), .second, .val (.long l2), .second, .val (.int xm), .val (.long hbb), .second, .val (.long lbb), .second, .val (.int (((xm.toUInt32 >>> ((2 : Int32) &&& 31).toUInt32).toInt32) &&& (3 : Int32))), .val (.ref b1), .val (.ref b3), .val (.int (1 : Int32)), .val (.ref y53_0), .val (.int (0 : Int32)), .val (.int (1 : Int32))]) rfl ?_
                show Steps p.tables e below (T54.setTop (mkF m 143 #[.val (.long ha), .second, .val (.long la), .second, .val (.long h2), .second, .val (.long l2), .second, .val (.int xm), .val (.long hbb), .second, .val (.long lbb), .second, .val (.int (((xm.toUInt32 >>> ((2 : Int32) &&& 31).toUInt32).toInt32) &&& (3 : Int32))), .val (.ref b1), .val (.ref b3), .val (.int (1 : Int32)), .val (.ref y53_0), .val (.int (0 : Int32)), .val (.int (1 : Int32))] [])) _
                refine XS.iload X54.here hx rfl (hb hby at_143) rfl ?_
                show Steps p.tables e below (T54.setTop (mkF m 145 #[.val (.long ha), .second, .val (.long la), .second, .val (.long h2), .second, .val (.long l2), .second, .val (.int xm), .val (.long hbb), .second, .val (.long lbb), .second, .val (.int (((xm.toUInt32 >>> ((2 : Int32) &&& 31).toUInt32).toInt32) &&& (3 : Int32))), .val (.ref b1), .val (.ref b3), .val (.int (1 : Int32)), .val (.ref y53_0), .val (.int (0 : Int32)), .val (.int (1 : Int32))] [(.int (1 : Int32))])) _
                refine XS.ifNo X54.here hx rfl (hb hby at_145) rfl ((if0 _ _).trans (feq (by decide : ¬ ((1 : Int32) = (0 : Int32)))).1) ?_
                show Steps p.tables e below (T54.setTop (mkF m 148 #[.val (.long ha), .second, .val (.long la), .second, .val (.long h2), .second, .val (.long l2), .second, .val (.int xm), .val (.long hbb), .second, .val (.long lbb), .second, .val (.int (((xm.toUInt32 >>> ((2 : Int32) &&& 31).toUInt32).toInt32) &&& (3 : Int32))), .val (.ref b1), .val (.ref b3), .val (.int (1 : Int32)), .val (.ref y53_0), .val (.int (0 : Int32)), .val (.int (1 : Int32))] [])) _
                refine XS.aload X54.here hx rfl (hb hby at_148) rfl rfl ?_
                show Steps p.tables e below (T54.setTop (mkF m 150 #[.val (.long ha), .second, .val (.long la), .second, .val (.long h2), .second, .val (.long l2), .second, .val (.int xm), .val (.long hbb), .second, .val (.long lbb), .second, .val (.int (((xm.toUInt32 >>> ((2 : Int32) &&& 31).toUInt32).toInt32) &&& (3 : Int32))), .val (.ref b1), .val (.ref b3), .val (.int (1 : Int32)), .val (.ref y53_0), .val (.int (0 : Int32)), .val (.int (1 : Int32))] [(.ref b3)])) _
                refine XS.aload X54.here hx rfl (hb hby at_150) rfl rfl ?_
                show Steps p.tables e below (T54.setTop (mkF m 152 #[.val (.long ha), .second, .val (.long la), .second, .val (.long h2), .second, .val (.long l2), .second, .val (.int xm), .val (.long hbb), .second, .val (.long lbb), .second, .val (.int (((xm.toUInt32 >>> ((2 : Int32) &&& 31).toUInt32).toInt32) &&& (3 : Int32))), .val (.ref b1), .val (.ref b3), .val (.int (1 : Int32)), .val (.ref y53_0), .val (.int (0 : Int32)), .val (.int (1 : Int32))] [(.ref b1), (.ref b3)])) _
                refine st60.trans ?_
                show Steps p.tables e below (T60.setTop (mkF m 155 #[.val (.long ha), .second, .val (.long la), .second, .val (.long h2), .second, .val (.long l2), .second, .val (.int xm), .val (.long hbb), .second, .val (.long lbb), .second, .val (.int (((xm.toUInt32 >>> ((2 : Int32) &&& 31).toUInt32).toInt32) &&& (3 : Int32))), .val (.ref b1), .val (.ref b3), .val (.int (1 : Int32)), .val (.ref y53_0), .val (.int (0 : Int32)), .val (.int (1 : Int32))] [(.int (1 : Int32))])) _
                refine XS.iload X60.here hx rfl (hb hby at_155) rfl ?_
                show Steps p.tables e below (T60.setTop (mkF m 157 #[.val (.long ha), .second, .val (.long la), .second, .val (.long h2), .second, .val (.long l2), .second, .val (.int xm), .val (.long hbb), .second, .val (.long lbb), .second, .val (.int (((xm.toUInt32 >>> ((2 : Int32) &&& 31).toUInt32).toInt32) &&& (3 : Int32))), .val (.ref b1), .val (.ref b3), .val (.int (1 : Int32)), .val (.ref y53_0), .val (.int (0 : Int32)), .val (.int (1 : Int32))] [(.int (1 : Int32)), (.int (1 : Int32))])) _
                refine XS.icmpNo X60.here hx rfl (hb hby at_157) rfl (teq (by decide : (1 : Int32) = (1 : Int32))).2 ?_
                show Steps p.tables e below (T60.setTop (mkF m 160 #[.val (.long ha), .second, .val (.long la), .second, .val (.long h2), .second, .val (.long l2), .second, .val (.int xm), .val (.long hbb), .second, .val (.long lbb), .second, .val (.int (((xm.toUInt32 >>> ((2 : Int32) &&& 31).toUInt32).toInt32) &&& (3 : Int32))), .val (.ref b1), .val (.ref b3), .val (.int (1 : Int32)), .val (.ref y53_0), .val (.int (0 : Int32)), .val (.int (1 : Int32))] [])) _
                refine XS.iconst X60.here hx rfl (hb hby at_160) ?_
                show Steps p.tables e below (T60.setTop (mkF m 161 #[.val (.long ha), .second, .val (.long la), .second, .val (.long h2), .second, .val (.long l2), .second, .val (.int xm), .val (.long hbb), .second, .val (.long lbb), .second, .val (.int (((xm.toUInt32 >>> ((2 : Int32) &&& 31).toUInt32).toInt32) &&& (3 : Int32))), .val (.ref b1), .val (.ref b3), .val (.int (1 : Int32)), .val (.ref y53_0), .val (.int (0 : Int32)), .val (.int (1 : Int32))] [(.int (1 : Int32))])) _
                refine XS.goto X60.here hx rfl (pc0 := 161) (pc' := 165) rfl (hb hby at_161) (by decide) (by decide) ?_
                show Steps p.tables e below (T60.setTop (mkF m 165 #[.val (.long ha), .second, .val (.long la), .second, .val (.long h2), .second, .val (.long l2), .second, .val (.int xm), .val (.long hbb), .second, .val (.long lbb), .second, .val (.int (((xm.toUInt32 >>> ((2 : Int32) &&& 31).toUInt32).toInt32) &&& (3 : Int32))), .val (.ref b1), .val (.ref b3), .val (.int (1 : Int32)), .val (.ref y53_0), .val (.int (0 : Int32)), .val (.int (1 : Int32))] [(.int (1 : Int32))])) _
                refine XS.istore X60.here hx rfl (hb hby at_165) rfl (l' := #[.val (.long ha), .second, .val (.long la), .second, .val (.long h2), .second, .val (.long l2), .second, .val (.int xm), .val (.long hbb), .second, .val (.long lbb), .second, .val (.int (((xm.toUInt32 >>> ((2 : Int32) &&& 31).toUInt32).toInt32) &&& (3 : Int32))), .val (.ref b1), .val (.ref b3), .val (.int (1 : Int32)), .val (.ref y53_0), .val (.int (0 : Int32)), .val (.int (1 : Int32))]) rfl ?_
                show Steps p.tables e below (T60.setTop (mkF m 167 #[.val (.long ha), .second, .val (.long la), .second, .val (.long h2), .second, .val (.long l2), .second, .val (.int xm), .val (.long hbb), .second, .val (.long lbb), .second, .val (.int (((xm.toUInt32 >>> ((2 : Int32) &&& 31).toUInt32).toInt32) &&& (3 : Int32))), .val (.ref b1), .val (.ref b3), .val (.int (1 : Int32)), .val (.ref y53_0), .val (.int (0 : Int32)), .val (.int (1 : Int32))] [])) _
                refine XS.iload X60.here hx rfl (hb hby at_167) rfl ?_
                show Steps p.tables e below (T60.setTop (mkF m 169 #[.val (.long ha), .second, .val (.long la), .second, .val (.long h2), .second, .val (.long l2), .second, .val (.int xm), .val (.long hbb), .second, .val (.long lbb), .second, .val (.int (((xm.toUInt32 >>> ((2 : Int32) &&& 31).toUInt32).toInt32) &&& (3 : Int32))), .val (.ref b1), .val (.ref b3), .val (.int (1 : Int32)), .val (.ref y53_0), .val (.int (0 : Int32)), .val (.int (1 : Int32))] [(.int (1 : Int32))])) _
                refine XS.ifNo X60.here hx rfl (hb hby at_169) rfl ((if0 _ _).trans (feq (by decide : ¬ ((1 : Int32) = (0 : Int32)))).1) ?_
                show Steps p.tables e below (T60.setTop (mkF m 172 #[.val (.long ha), .second, .val (.long la), .second, .val (.long h2), .second, .val (.long l2), .second, .val (.int xm), .val (.long hbb), .second, .val (.long lbb), .second, .val (.int (((xm.toUInt32 >>> ((2 : Int32) &&& 31).toUInt32).toInt32) &&& (3 : Int32))), .val (.ref b1), .val (.ref b3), .val (.int (1 : Int32)), .val (.ref y53_0), .val (.int (0 : Int32)), .val (.int (1 : Int32))] [])) _
                refine XS.aload X60.here hx rfl (hb hby at_172) rfl rfl ?_
                show Steps p.tables e below (T60.setTop (mkF m 174 #[.val (.long ha), .second, .val (.long la), .second, .val (.long h2), .second, .val (.long l2), .second, .val (.int xm), .val (.long hbb), .second, .val (.long lbb), .second, .val (.int (((xm.toUInt32 >>> ((2 : Int32) &&& 31).toUInt32).toInt32) &&& (3 : Int32))), .val (.ref b1), .val (.ref b3), .val (.int (1 : Int32)), .val (.ref y53_0), .val (.int (0 : Int32)), .val (.int (1 : Int32))] [(.ref b1)])) _
                refine XS.aload X60.here hx rfl (hb hby at_174) rfl rfl ?_
                show Steps p.tables e below (T60.setTop (mkF m 176 #[.val (.long ha), .second, .val (.long la), .second, .val (.long h2), .second, .val (.long l2), .second, .val (.int xm), .val (.long hbb), .second, .val (.long lbb), .second, .val (.int (((xm.toUInt32 >>> ((2 : Int32) &&& 31).toUInt32).toInt32) &&& (3 : Int32))), .val (.ref b1), .val (.ref b3), .val (.int (1 : Int32)), .val (.ref y53_0), .val (.int (0 : Int32)), .val (.int (1 : Int32))] [(.ref b1), (.ref b1)])) _
                refine st62.trans ?_
                show Steps p.tables e below (T62.setTop (mkF m 179 #[.val (.long ha), .second, .val (.long la), .second, .val (.long h2), .second, .val (.long l2), .second, .val (.int xm), .val (.long hbb), .second, .val (.long lbb), .second, .val (.int (((xm.toUInt32 >>> ((2 : Int32) &&& 31).toUInt32).toInt32) &&& (3 : Int32))), .val (.ref b1), .val (.ref b3), .val (.int (1 : Int32)), .val (.ref y53_0), .val (.int (0 : Int32)), .val (.int (1 : Int32))] [(.int (1 : Int32))])) _
                refine XS.ifNo X62.here hx rfl (hb hby at_179) rfl ((if0 _ _).trans (feq (by decide : ¬ ((1 : Int32) = (0 : Int32)))).1) ?_
                show Steps p.tables e below (T62.setTop (mkF m 182 #[.val (.long ha), .second, .val (.long la), .second, .val (.long h2), .second, .val (.long l2), .second, .val (.int xm), .val (.long hbb), .second, .val (.long lbb), .second, .val (.int (((xm.toUInt32 >>> ((2 : Int32) &&& 31).toUInt32).toInt32) &&& (3 : Int32))), .val (.ref b1), .val (.ref b3), .val (.int (1 : Int32)), .val (.ref y53_0), .val (.int (0 : Int32)), .val (.int (1 : Int32))] [])) _
                refine XS.iconst X62.here hx rfl (hb hby at_182) ?_
                show Steps p.tables e below (T62.setTop (mkF m 183 #[.val (.long ha), .second, .val (.long la), .second, .val (.long h2), .second, .val (.long l2), .second, .val (.int xm), .val (.long hbb), .second, .val (.long lbb), .second, .val (.int (((xm.toUInt32 >>> ((2 : Int32) &&& 31).toUInt32).toInt32) &&& (3 : Int32))), .val (.ref b1), .val (.ref b3), .val (.int (1 : Int32)), .val (.ref y53_0), .val (.int (0 : Int32)), .val (.int (1 : Int32))] [(.int (1 : Int32))])) _
                refine XS.goto X62.here hx rfl (pc0 := 183) (pc' := 187) rfl (hb hby at_183) (by decide) (by decide) ?_
                show Steps p.tables e below (T62.setTop (mkF m 187 #[.val (.long ha), .second, .val (.long la), .second, .val (.long h2), .second, .val (.long l2), .second, .val (.int xm), .val (.long hbb), .second, .val (.long lbb), .second, .val (.int (((xm.toUInt32 >>> ((2 : Int32) &&& 31).toUInt32).toInt32) &&& (3 : Int32))), .val (.ref b1), .val (.ref b3), .val (.int (1 : Int32)), .val (.ref y53_0), .val (.int (0 : Int32)), .val (.int (1 : Int32))] [(.int (1 : Int32))])) _
                refine XS.istore X62.here hx rfl (hb hby at_187) rfl (l' := #[.val (.long ha), .second, .val (.long la), .second, .val (.long h2), .second, .val (.long l2), .second, .val (.int xm), .val (.long hbb), .second, .val (.long lbb), .second, .val (.int (((xm.toUInt32 >>> ((2 : Int32) &&& 31).toUInt32).toInt32) &&& (3 : Int32))), .val (.ref b1), .val (.ref b3), .val (.int (1 : Int32)), .val (.ref y53_0), .val (.int (0 : Int32)), .val (.int (1 : Int32))]) rfl ?_
                show Steps p.tables e below (T62.setTop (mkF m 189 #[.val (.long ha), .second, .val (.long la), .second, .val (.long h2), .second, .val (.long l2), .second, .val (.int xm), .val (.long hbb), .second, .val (.long lbb), .second, .val (.int (((xm.toUInt32 >>> ((2 : Int32) &&& 31).toUInt32).toInt32) &&& (3 : Int32))), .val (.ref b1), .val (.ref b3), .val (.int (1 : Int32)), .val (.ref y53_0), .val (.int (0 : Int32)), .val (.int (1 : Int32))] [])) _
                refine XS.iload X62.here hx rfl (hb hby at_189) rfl ?_
                show Steps p.tables e below (T62.setTop (mkF m 191 #[.val (.long ha), .second, .val (.long la), .second, .val (.long h2), .second, .val (.long l2), .second, .val (.int xm), .val (.long hbb), .second, .val (.long lbb), .second, .val (.int (((xm.toUInt32 >>> ((2 : Int32) &&& 31).toUInt32).toInt32) &&& (3 : Int32))), .val (.ref b1), .val (.ref b3), .val (.int (1 : Int32)), .val (.ref y53_0), .val (.int (0 : Int32)), .val (.int (1 : Int32))] [(.int (1 : Int32))])) _
                exact kt
              obtain ⟨fs, hr, hrun, hended, hW, hsame⟩ := X62.leave (v := some (.int (1 : Int32))) (fun h => by rw [hret] at h; cases h) hlk
              refine ⟨_, _, go63 _ ?_, hrun, hended, _, _, rfl, ⟨rfl, N62⟩, ⟨_, rfl⟩, hW, hsame.mono (by decide) (by decide)⟩
              exact retN X62 hx (t := .boolean) hret (by simp) (hb hby at_191) hr
        · skip
          have f64 : Fld Z T5.heap b1 "com/example/xmitq/xmitq/MessageId" "high" "J" (.long ha) := ((p2_1.ext E3).keep Kc5 (ninS ne3_b1 nin0))
          have f65 : Fld Z T5.heap b1 "com/example/xmitq/xmitq/MessageId" "low" "J" (.long la) := ((p2_2.ext E3).keep Kc5 (ninS ne3_b1 nin0))
          have f67 : Exa Z T5.heap b1 "com/example/xmitq/xmitq/MessageId" := ((p2_0.ext E3).keep Kc5)
          obtain ⟨cq66, kq66, q66a, q66b, q66c⟩ := isOf hZ rfl f67
          obtain ⟨_, _, ⟨T66, L66, k66, n66⟩, -, X66, ⟨Lc66, hQ66, l66, y66, z66⟩, st66⟩ := X5.virtualBack hx (y := (⟨"com/example/xmitq/xmitq/MessageId", "equals", "(Ljava/lang/Object;)Z"⟩ : MethodName)) (z := (⟨"com/example/xmitq/xmitq/MessageId", "equals", "(Ljava/lang/Object;)Z"⟩ : MethodName)) hown (mvT hZ (hw _ (List.mem_of_getElem? (i := 13) rfl))) (mvT hZ (hw _ (List.mem_of_getElem? (i := 14) rfl))) (notFace_of_selects (args := #[]) (mvT hZ (hw _ (List.mem_of_getElem? (i := 16) rfl)))) (mvT hZ (hw _ (List.mem_of_getElem? (i := 16) rfl))) (mvT hZ (hw _ (List.mem_of_getElem? (i := 15) rfl))) (by decide) (backOf (W := 0) (own_eqYY l Z a0 hw [] b1 b3 ha hbb la lbb T5.heap n0 Z5 p5_0 f64 p5_1 hc7 f65 p5_2 hc9) hZ (hw _ (List.mem_of_getElem? (i := 17) rfl)) (hw _ (List.mem_of_getElem? (i := 2) rfl)) (by decide) (by decide)) q66a q66c (g := (mkF m 128 #[.val (.long ha), .second, .val (.long la), .second, .val (.long h2), .second, .val (.long l2), .second, .val (.int xm), .val (.long hbb), .second, .val (.long lbb), .second, .val (.int (((xm.toUInt32 >>> ((2 : Int32) &&& 31).toUInt32).toInt32) &&& (3 : Int32))), .val (.ref b1), .val (.ref b3), .val (.int (1 : Int32)), .val (.ref b3), .val (.int (1 : Int32)), .unset] [(.ref b3), (.ref b1)])) rfl (by rw [hml]; rfl) (Steps.refl _) (argsL := [(.ref b3)]) (rest := []) (lenOf pd_12 rfl) rfl (by show 2 * 0 + _ ≤ _; exact Nat.le_of_eq rfl) (hb hby at_128) (fun _ _ => ⟨rfl, rfl, (by decide : 2 + 0 ≤ _), (by decide : 4 + 0 ≤ _)⟩)
          dsimp only [Pt.U, Pt.locs, Pt.cells, Pt.slots] at X66 l66 y66 z66 st66 hQ66
          subst l66 y66 z66
          obtain ⟨rfl, Nq66, e66⟩ := hQ66
          have N66 := Fr.app N5 Nq66
          obtain ⟨cq68, kq68, q68a, q68b, q68c⟩ := isOf hZ e66 p5_0
          obtain ⟨_, _, ⟨T68, L68, k68, n68⟩, -, X68, ⟨Lc68, hQ68, l68, y68, z68⟩, st68⟩ := X66.virtualBack hx (y := (⟨"com/example/xmitq/xmitq/MessageId", "equals", "(Ljava/lang/Object;)Z"⟩ : MethodName)) (z := (⟨"com/example/xmitq/xmitq/MessageId", "equals", "(Ljava/lang/Object;)Z"⟩ : MethodName)) hown (mvT hZ (hw _ (List.mem_of_getElem? (i := 13) rfl))) (mvT hZ (hw _ (List.mem_of_getElem? (i := 14) rfl))) (notFace_of_selects (args := #[]) (mvT hZ (hw _ (List.mem_of_getElem? (i := 16) rfl)))) (mvT hZ (hw _ (List.mem_of_getElem? (i := 16) rfl))) (mvT hZ (hw _ (List.mem_of_getElem? (i := 15) rfl))) (by decide) (backOf (W := 0) (own_eqYY l Z a0 hw [] b3 b1 hbb ha lbb la T5.heap n0 Z5 f67 p5_1 f64 (Eq.symm hc7) p5_2 f65 (Eq.symm hc9)) hZ (hw _ (List.mem_of_getElem? (i := 17) rfl)) (hw _ (List.mem_of_getElem? (i := 2) rfl)) (by decide) (by decide)) q68a q68c (g := (mkF m 152 #[.val (.long ha), .second, .val (.long la), .second, .val (.long h2), .second, .val (.long l2), .second, .val (.int xm), .val (.long hbb), .second, .val (.long lbb), .second, .val (.int (((xm.toUInt32 >>> ((2 : Int32) &&& 31).toUInt32).toInt32) &&& (3 : Int32))), .val (.ref b1), .val (.ref b3), .val (.int (1 : Int32)), .val (.ref b3), .val (.int (1 : Int32)), .val (.int (1 : Int32))] [(.ref b1), (.ref b3)])) rfl (by rw [hml]; rfl) (Steps.refl _) (argsL := [(.ref b1)]) (rest := []) (lenOf pd_12 rfl) rfl (by show 2 * 0 + _ ≤ _; exact Nat.le_of_eq rfl) (hb hby at_152) (fun _ _ => ⟨rfl, e66, (by decide : 2 + 0 ≤ _), (by decide : 4 + 0 ≤ _)⟩)
          dsimp only [Pt.U, Pt.locs, Pt.cells, Pt.slots] at X68 l68 y68 z68 st68 hQ68
          subst l68 y68 z68
          obtain ⟨rfl, Nq68, e68⟩ := hQ68
          have N68 := Fr.app N66 Nq68
          obtain ⟨cq69, kq69, q69a, q69b, q69c⟩ := isOf hZ e68 f67
          obtain ⟨_, _, ⟨T69, L69, k69, n69⟩, -, X69, ⟨Lc69, hQ69, l69, y69, z69⟩, st69⟩ := X68.virtualBack hx (y := (⟨"com/example/xmitq/xmitq/MessageId", "equals", "(Ljava/lang/Object;)Z"⟩ : MethodName)) (z := (⟨"com/example/xmitq/xmitq/MessageId", "equals", "(Ljava/lang/Object;)Z"⟩ : MethodName)) hown (mvT hZ (hw _ (List.mem_of_getElem? (i := 13) rfl))) (mvT hZ (hw _ (List.mem_of_getElem? (i := 14) rfl))) (notFace_of_selects (args := #[]) (mvT hZ (hw _ (List.mem_of_getElem? (i := 16) rfl)))) (mvT hZ (hw _ (List.mem_of_getElem? (i := 16) rfl))) (mvT hZ (hw _ (List.mem_of_getElem? (i := 15) rfl))) (by decide) (backOf (W := 0) (own_eqYY l Z a0 hw [] b1 b1 ha ha la la T5.heap n0 Z5 f67 f64 f64 (rfl : ha = ha) f65 f65 (rfl : la = la)) hZ (hw _ (List.mem_of_getElem? (i := 17) rfl)) (hw _ (List.mem_of_getElem? (i := 2) rfl)) (by decide) (by decide)) q69a q69c (g := (mkF m 176 #[.val (.long ha), .second, .val (.long la), .second, .val (.long h2), .second, .val (.long l2), .second, .val (.int xm), .val (.long hbb), .second, .val (.long lbb), .second, .val (.int (((xm.toUInt32 >>> ((2 : Int32) &&& 31).toUInt32).toInt32) &&& (3 : Int32))), .val (.ref b1), .val (.ref b3), .val (.int (1 : Int32)), .val (.ref b3), .val (.int (1 : Int32)), .val (.int (1 : Int32))] [(.ref b1), (.ref b1)])) rfl (by rw [hml]; rfl) (Steps.refl _) (argsL := [(.ref b1)]) (rest := []) (lenOf pd_12 rfl) rfl (by show 2 * 0 + _ ≤ _; exact Nat.le_of_eq rfl) (hb hby at_176) (fun _ _ => ⟨rfl, e68, (by decide : 2 + 0 ≤ _), (by decide : 4 + 0 ≤ _)⟩)
          dsimp only [Pt.U, Pt.locs, Pt.cells, Pt.slots] at X69 l69 y69 z69 st69 hQ69
          subst l69 y69 z69
          obtain ⟨rfl, Nq69, e69⟩ := hQ69
          have N69 := Fr.app N68 Nq69
          have go70 : ∀ t, Steps p.tables e below (T69.setTop (mkF m 191 #[.val (.long ha), .second, .val (.long la), .second, .val (.long h2), .second, .val (.long l2), .second, .val (.int xm), .val (.long hbb), .second, .val (.long lbb), .second, .val (.int (((xm.toUInt32 >>> ((2 : Int32) &&& 31).toUInt32).toInt32) &&& (3 : Int32))), .val (.ref b1), .val (.ref b3), .val (.int (1 : Int32)), .val (.ref b3), .val (.int (1 : Int32)), .val (.int (1 : Int32))] [(.int (1 : Int32))])) t → Steps p.tables e below st0 t := by
            intro t kt
            refine go19 t ?_
            refine XS.icmpYes X5.here hx rfl (pc0 := 101) (pc' := 116) rfl (hb hby at_101) rfl (feq hc20).2 (by decide) (by decide) ?_
            show Steps p.tables e below (T5.setTop (mkF m 116 #[.val (.long ha), .second, .val (.long la), .second, .val (.long h2), .second, .val (.long l2), .second, .val (.int xm), .val (.long hbb), .second, .val (.long lbb), .second, .val (.int (((xm.toUInt32 >>> ((2 : Int32) &&& 31).toUInt32).toInt32) &&& (3 : Int32))), .val (.ref b1), .val (.ref b3), .val (.int (1 : Int32)), .unset, .unset, .unset] [])) _
            refine XS.aload X5.here hx rfl (hb hby at_116) rfl rfl ?_
            show Steps p.tables e below (T5.setTop (mkF m 118 #[.val (.long ha), .second, .val (.long la), .second, .val (.long h2), .second, .val (.long l2), .second, .val (.int xm), .val (.long hbb), .second, .val (.long lbb), .second, .val (.int (((xm.toUInt32 >>> ((2 : Int32) &&& 31).toUInt32).toInt32) &&& (3 : Int32))), .val (.ref b1), .val (.ref b3), .val (.int (1 : Int32)), .unset, .unset, .unset] [(.ref b3)])) _
            refine XS.astore X5.here hx rfl (hb hby at_118) rfl rfl (l' := #[.val (.long ha), .second, .val (.long la), .second, .val (.long h2), .second, .val (.long l2), .second, .val (.int xm), .val (.long hbb), .second, .val (.long lbb), .second, .val (.int (((xm.toUInt32 >>> ((2 : Int32) &&& 31).toUInt32).toInt32) &&& (3 : Int32))), .val (.ref b1), .val (.ref b3), .val (.int (1 : Int32)), .val (.ref b3), .unset, .unset]) rfl ?_
            show Steps p.tables e below (T5.setTop (mkF m 120 #[.val (.long ha), .second, .val (.long la), .second, .val (.long h2), .second, .val (.long l2), .second, .val (.int xm), .val (.long hbb), .second, .val (.long lbb), .second, .val (.int (((xm.toUInt32 >>> ((2 : Int32) &&& 31).toUInt32).toInt32) &&& (3 : Int32))), .val (.ref b1), .val (.ref b3), .val (.int (1 : Int32)), .val (.ref b3), .unset, .unset] [])) _
            refine XS.iload X5.here hx rfl (hb hby at_120) rfl ?_
            show Steps p.tables e below (T5.setTop (mkF m 122 #[.val (.long ha), .second, .val (.long la), .second, .val (.long h2), .second, .val (.long l2), .second, .val (.int xm), .val (.long hbb), .second, .val (.long lbb), .second, .val (.int (((xm.toUInt32 >>> ((2 : Int32) &&& 31).toUInt32).toInt32) &&& (3 : Int32))), .val (.ref b1), .val (.ref b3), .val (.int (1 : Int32)), .val (.ref b3), .unset, .unset] [(.int (1 : Int32))])) _
            refine XS.istore X5.here hx rfl (hb hby at_122) rfl (l' := #[.val (.long ha), .second, .val (.long la), .second, .val (.long h2), .second, .val (.long l2), .second, .val (.int xm), .val (.long hbb), .second, .val (.long lbb), .second, .val (.int (((xm.toUInt32 >>> ((2 : Int32) &&& 31).toUInt32).toInt32) &&& (3 : Int32))), .val (.ref b1), .val (.ref b3), .val (.int (1 : Int32)), .val (.ref b3), .val (.int (1 : Int32)), .unset]) rfl ?_
            show Steps p.tables e below (T5.setTop (mkF m 124 #[.val (.long ha), .second, .val (.long la), .second, .val (.long h2), .second, .val (.long l2), .second, .val (.int xm), .val (.long hbb), .second, .val (.long lbb), .second, .val (.int (((xm.toUInt32 >>> ((2 : Int32) &&& 31).toUInt32).toInt32) &&& (3 : Int32))), .val (.ref b1), .val (.ref b3), .val (.int (1 : Int32)), .val (.ref b3), .val (.int (1 : Int32)), .unset] [])) _
            refine XS.aload X5.here hx rfl (hb hby at_124) rfl rfl ?_
            show Steps p.tables e below (T5.setTop (mkF m 126 #[.val (.long ha), .second, .val (.long la), .second, .val (.long h2), .second, .val (.long l2), .second, .val (.int xm), .val (.long hbb), .second, .val (.long lbb), .second, .val (.int (((xm.toUInt32 >>> ((2 : Int32) &&& 31).toUInt32).toInt32) &&& (3 : Int32))), .val (.ref b1), .val (.ref b3), .val (.int (1 : Int32)), .val (.ref b3), .val (.int (1 : Int32)), .unset] [(.ref b1)])) _
            refine XS.aload X5.here hx rfl (hb hby at_126) rfl rfl ?_
            show Steps p.tables e below (T5.setTop (mkF m 128 #[.val (.long ha), .second, .val (.long la), .second, .val (.long h2), .second, .val (.long l2), .second, .val (.int xm), .val (.long hbb), .second, .val (.long lbb), .second, .val (.int (((xm.toUInt32 >>> ((2 : Int32) &&& 31).toUInt32).toInt32) &&& (3 : Int32))), .val (.ref b1), .val (.ref b3), .val (.int (1 : Int32)), .val (.ref b3), .val (.int (1 : Int32)), .unset] [(.ref b3), (.ref b1)])) _
            refine st66.trans ?_
            show Steps p.tables e below (T66.setTop (mkF m 131 #[.val (.long ha), .second, .val (.long la), .second, .val (.long h2), .second, .val (.long l2), .second, .val (.int xm), .val (.long hbb), .second, .val (.long lbb), .second, .val (.int (((xm.toUInt32 >>> ((2 : Int32) &&& 31).toUInt32).toInt32) &&& (3 : Int32))), .val (.ref b1), .val (.ref b3), .val (.int (1 : Int32)), .val (.ref b3), .val (.int (1 : Int32)), .unset] [(.int (1 : Int32))])) _
            refine XS.iload X66.here hx rfl (hb hby at_131) rfl ?_
            show Steps p.tables e below (T66.setTop (mkF m 133 #[.val (.long ha), .second, .val (.long la), .second, .val (.long h2), .second, .val (.long l2), .second, .val (.int xm), .val (.long hbb), .second, .val (.long lbb), .second, .val (.int (((xm.toUInt32 >>> ((2 : Int32) &&& 31).toUInt32).toInt32) &&& (3 : Int32))), .val (.ref b1), .val (.ref b3), .val (.int (1 : Int32)), .val (.ref b3), .val (.int (1 : Int32)), .unset] [(.int (1 : Int32)), (.int (1 : Int32))])) _
            refine XS.icmpNo X66.here hx rfl (hb hby at_133) rfl (teq (by decide : (1 : Int32) = (1 : Int32))).2 ?_
            show Steps p.tables e below (T66.setTop (mkF m 136 #[.val (.long ha), .second, .val (.long la), .second, .val (.long h2), .second, .val (.long l2), .second, .val (.int xm), .val (.long hbb), .second, .val (.long lbb), .second, .val (.int (((xm.toUInt32 >>> ((2 : Int32) &&& 31).toUInt32).toInt32) &&& (3 : Int32))), .val (.ref b1), .val (.ref b3), .val (.int (1 : Int32)), .val (.ref b3), .val (.int (1 : Int32)), .unset] [])) _
            refine XS.iconst X66.here hx rfl (hb hby at_136) ?_
            show Steps p.tables e below (T66.setTop (mkF m 137 #[.val (.long ha), .second, .val (.long la), .second, .val (.long h2), .second, .val (.long l2), .second, .val (.int xm), .val (.long hbb), .second, .val (.long lbb), .second, .val (.int (((xm.toUInt32 >>> ((2 : Int32) &&& 31).toUInt32).toInt32) &&& (3 : Int32))), .val (.ref b1), .val (.ref b3), .val (.int (1 : Int32)), .val (.ref b3), .val (.int (1 : Int32)), .unset] [(.int (1 : Int32))])) _
            refine XS.goto X66.here hx rfl (pc0 := 137) (pc' := 141) rfl (hb hby at_137) (by decide) (by decide) ?_
            show Steps p.tables e below (T66.setTop (mkF m 141 #[.val (.long ha), .second, .val (.long la), .second, .val (.long h2), .second, .val (.long l2), .second, .val (.int xm), .val (.long hbb), .second, .val (.long lbb), .second, .val (.int (((xm.toUInt32 >>> ((2 : Int32) &&& 31).toUInt32).toInt32) &&& (3 : Int32))), .val (.ref b1), .val (.ref b3), .val (.int (1 : Int32)), .val (.ref b3), .val (.int (1 : Int32)), .unset] [(.int (1 : Int32))])) _
            refine XS.istore X66.here hx rfl (hb hby at_141) rfl (l' := #[.val (.long ha), .second, .val (.long la), .second, .val (.long h2), .second, .val (.long l2), .second, .val (.int xm), .val (.long hbb), .second, .val (.long lbb), .second, .val (.int (((xm.toUInt32 >>> ((2 : Int32) &&& 31).toUInt32).toInt32) &&& (3 : Int32))), .val (.ref b1), .val (.ref b3), .val (.int (1 : Int32)), .val (.ref b3), .val (.int (1 : Int32)), .val (.int (1 : Int32))]) rfl ?_
            show Steps p.tables e below (T66.setTop (mkF m 143 #[.val (.long ha), .second, .val (.long la), .second, .val (.long h2), .second, .val (.long l2), .second, .val (.int xm), .val (.long hbb), .second, .val (.long lbb), .second, .val (.int (((xm.toUInt32 >>> ((2 : Int32) &&& 31).toUInt32).toInt32) &&& (3 : Int32))), .val (.ref b1), .val (.ref b3), .val (.int (1 : Int32)), .val (.ref b3), .val (.int (1 : Int32)), .val (.int (1 : Int32))] [])) _
            refine XS.iload X66.here hx rfl (hb hby at_143) rfl ?_
            show Steps p.tables e below (T66.setTop (mkF m 145 #[.val (.long ha), .second, .val (.long la), .second, .val (.long h2), .second, .val (.long l2), .second, .val (.int xm), .val (.long hbb), .second, .val (.long lbb), .second, .val (.int (((xm.toUInt32 >>> ((2 : Int32) &&& 31).toUInt32).toInt32) &&& (3 : Int32))), .val (.ref b1), .val (.ref b3), .val (.int (1 : Int32)), .val (.ref b3), .val (.int (1 : Int32)), .val (.int (1 : Int32))] [(.int (1 : Int32))])) _
            refine XS.ifNo X66.here hx rfl (hb hby at_145) rfl ((if0 _ _).trans (feq (by decide : ¬ ((1 : Int32) = (0 : Int32)))).1) ?_
            show Steps p.tables e below (T66.setTop (mkF m 148 #[.val (.long ha), .second, .val (.long la), .second, .val (.long h2), .second, .val (.long l2), .second, .val (.int xm), .val (.long hbb), .second, .val (.long lbb), .second, .val (.int (((xm.toUInt32 >>> ((2 : Int32) &&& 31).toUInt32).toInt32) &&& (3 : Int32))), .val (.ref b1), .val (.ref b3), .val (.int (1 : Int32)), .val (.ref b3), .val (.int (1 : Int32)), .val (.int (1 : Int32))] [])) _
            refine XS.aload X66.here hx rfl (hb hby at_148) rfl rfl ?_
            show Steps p.tables e below (T66.setTop (mkF m 150 #[.val (.long ha), .second, .val (.long la), .second, .val (.long h2), .second, .val (.long l2), .second, .val (.int xm), .val (.long hbb), .second, .val (.long lbb), .second, .val (.int (((xm.toUInt32 >>> ((2 : Int32) &&& 31).toUInt32).toInt32) &&& (3 : Int32))), .val (.ref b1), .val (.ref b3), .val (.int (1 : Int32)), .val (.ref b3), .val (.int (1 : Int32)), .val (.int (1 : Int32))] [(.ref b3)])) _
            refine XS.aload X66.here hx rfl (hb hby at_150) rfl rfl ?_
            show Steps p.tables e below (T66.setTop (mkF m 152 #[.val (.long ha), .second, .val (.long la), .second, .val (.long h2), .second, .val (.long l2), .second, .val (.int xm), .val (.long hbb), .second, .val (.long lbb), .second, .val (.int (((xm.toUInt32 >>> ((2 : Int32) &&& 31).toUInt32).toInt32) &&& (3 : Int32))), .val (.ref b1), .val (.ref b3), .val (.int (1 : Int32)), .val (.ref b3), .val (.int (1 : Int32)), .val (.int (1 : Int32))] [(.ref b1), (.ref b3)])) _
            refine st68.trans ?_
            show Steps p.tables e below (T68.setTop (mkF m 155 #[.val (.long ha), .second, .val (.long la), .second, .val (.long h2), .second, .val (.long l2), .second, .val (.int xm), .val (.long hbb), .second, .val (.long lbb), .second, .val (.int (((xm.toUInt32 >>> ((2 : Int32) &&& 31).toUInt32).toInt32) &&& (3 : Int32))), .val (.ref b1), .val (.ref b3), .val (.int (1 : Int32)), .val (.ref b3), .val (.int (1 : Int32)), .val (.int (1 : Int32))] [(.int (1 : Int32))])) _
            refine XS.iload X68.here hx rfl (hb hby at_155) rfl ?_
            show Steps p.tables e below (T68.setTop (mkF m 157 #[.val (.long ha), .second, .val (.long la), .second, .val (.long h2), .second, .val (.long l2), .second, .val (.int xm), .val (.long hbb), .second, .val (.long lbb), .second, .val (.int (((xm.toUInt32 >>> ((2 : Int32) &&& 31).toUInt32).toInt32) &&& (3 : Int32))), .val (.ref b1), .val (.ref b3), .val (.int (1 : Int32)), .val (.ref b3), .val (.int (1 : Int32)), .val (.int (1 : Int32))] [(.int (1 : Int32)), (.int (1 : Int32))])) _
            refine XS.icmpNo X68.here hx rfl (hb hby at_157) rfl (teq (by decide : (1 : Int32) = (1 : Int32))).2 ?_
            show Steps p.tables e below (T68.setTop (mkF m 160 #[.val (.long ha), .second, .val (.long la), .second, .val (.long h2), .second, .val (.long l2), .second, .val (.int xm), .val (.long hbb), .second, .val (.long lbb), .second, .val (.int (((xm.toUInt32 >>> ((2 : Int32) &&& 31).toUInt32).toInt32) &&& (3 : Int32))), .val (.ref b1), .val (.ref b3), .val (.int (1 : Int32)), .val (.ref b3), .val (.int (1 : Int32)), .val (.int (1 : Int32))] [])) _
            refine XS.iconst X68.here hx rfl (hb hby at_160) ?_
            show Steps p.tables e below (T68.setTop (mkF m 161 #[.val (.long ha), .second, .val (.long la), .second, .val (.long h2), .second, .val (.long l2), .second, .val (.int xm), .val (.long hbb), .second, .val (.long lbb), .second, .val (.int (((xm.toUInt32 >>> ((2 : Int32) &&& 31).toUInt32).toInt32) &&& (3 : Int32))), .val (.ref b1), .val (.ref b3), .val (.int (1 : Int32)), .val (.ref b3), .val (.int (1 : Int32)), .val (.int (1 : Int32))] [(.int (1 : Int32))])) _
            refine XS.goto X68.here hx rfl (pc0 := 161) (pc' := 165) rfl (hb hby at_161) (by decide) (by decide) ?_
            show Steps p.tables e below (T68.setTop (mkF m 165 #[.val (.long ha), .second, .val (.long la), .second, .val (.long h2), .second, .val (.long l2), .second, .val (.int xm), .val (.long hbb), .second, .val (.long lbb), .second, .val (.int (((xm.toUInt32 >>> ((2 : Int32) &&& 31).toUInt32).toInt32) &&& (3 : Int32))), .val (.ref b1), .val (.ref b3), .val (.int (1 : Int32)), .val (.ref b3), .val (.int (1 : Int32)), .val (.int (1 : Int32))] [(.int (1 : Int32))])) _
            refine XS.istore X68.here hx rfl (hb hby at_165) rfl (l' := #[.val (.long ha), .second, .val (.long la), .second, .val (.long h2), .second, .val (.long l2), .second, .val (.int xm), .val (.long hbb), .second, .val (.long lbb), .second, .val (.int (((xm.toUInt32 >>> ((2 : Int32) &&& 31).toUInt32).toInt32) &&& (3 : Int32))), .val (.ref b1), .val (.ref b3), .val (.int (1 : Int32)), .val (.ref b3), .val (.int (1 : Int32)), .val (.int (1 : Int32))]) rfl ?_
            show Steps p.tables e below (T68.setTop (mkF m 167 #[.val (.long ha), .second, .val (.long la), .second, .val (.long h2), .second, .val (.long l2), .second, .val (.int xm), .val (.long hbb), .second, .val (.long lbb), .second, .val (.int (((xm.toUInt32 >>> ((2 : Int32) &&& 31).toUInt32).toInt32) &&& (3 : Int32))), .val (.ref b1), .val (.ref b3), .val (.int (1 : Int32)), .val (.ref b3), .val (.int (1 : Int32)), .val (.int (1 : Int32))] [])) _
            refine XS.iload X68.here hx rfl (hb hby at_167) rfl ?_
            show Steps p.tables e below (T68.setTop (mkF m 169 #[.val (.long ha), .second, .val (.long la), .second, .val (.long h2), .second, .val (.long l2), .second, .val (.int xm), .val (.long hbb), .second, .val (.long lbb), .second, .val (.int (((xm.toUInt32 >>> ((2 : Int32) &&& 31).toUInt32).toInt32) &&& (3 : Int32))), .val (.ref b1), .val (.ref b3), .val (.int (1 : Int32)), .val (.ref b3), .val (.int (1 : Int32)), .val (.int (1 : Int32))] [(.int (1 : Int32))])) _
            refine XS.ifNo X68.here hx rfl (hb hby at_169) rfl ((if0 _ _).trans (feq (by decide : ¬ ((1 : Int32) = (0 : Int32)))).1) ?_
            show Steps p.tables e below (T68.setTop (mkF m 172 #[.val (.long ha), .second, .val (.long la), .second, .val (.long h2), .second, .val (.long l2), .second, .val (.int xm), .val (.long hbb), .second, .val (.long lbb), .second, .val (.int (((xm.toUInt32 >>> ((2 : Int32) &&& 31).toUInt32).toInt32) &&& (3 : Int32))), .val (.ref b1), .val (.ref b3), .val (.int (1 : Int32)), .val (.ref b3), .val (.int (1 : Int32)), .val (.int (1 : Int32))] [])) _
            refine XS.aload X68.here hx rfl (hb hby at_172) rfl rfl ?_
            show Steps p.tables e below (T68.setTop (mkF m 174 #[.val (.long ha), .second, .val (.long la), .second, .val (.long h2), .second, .val (.long l2), .second, .val (.int xm), .val (.long hbb), .second, .val (.long lbb), .second, .val (.int (((xm.toUInt32 >>> ((2 : Int32) &&& 31).toUInt32).toInt32) &&& (3 : Int32))), .val (.ref b1), .val (.ref b3), .val (.int (1 : Int32)), .val (.ref b3), .val (.int (1 : Int32)), .val (.int (1 : Int32))] [(.ref b1)])) _
            refine XS.aload X68.here hx rfl (hb hby at_174) rfl rfl ?_
            show Steps p.tables e below (T68.setTop (mkF m 176 #[.val (.long ha), .second, .val (.long la), .second, .val (.long h2), .second, .val (.long l2), .second, .val (.int xm), .val (.long hbb), .second, .val (.long lbb), .second, .val (.int (((xm.toUInt32 >>> ((2 : Int32) &&& 31).toUInt32).toInt32) &&& (3 : Int32))), .val (.ref b1), .val (.ref b3), .val (.int (1 : Int32)), .val (.ref b3), .val (.int (1 : Int32)), .val (.int (1 : Int32))] [(.ref b1), (.ref b1)])) _
            refine st69.trans ?_
            show Steps p.tables e below (T69.setTop (mkF m 179 #[.val (.long ha), .second, .val (.long la), .second, .val (.long h2), .second, .val (.long l2), .second, .val (.int xm), .val (.long hbb), .second, .val (.long lbb), .second, .val (.int (((xm.toUInt32 >>> ((2 : Int32) &&& 31).toUInt32).toInt32) &&& (3 : Int32))), .val (.ref b1), .val (.ref b3), .val (.int (1 : Int32)), .val (.ref b3), .val (.int (1 : Int32)), .val (.int (1 : Int32))] [(.int (1 : Int32))])) _
            refine XS.ifNo X69.here hx rfl (hb hby at_179) rfl ((if0 _ _).trans (feq (by decide : ¬ ((1 : Int32) = (0 : Int32)))).1) ?_
            show Steps p.tables e below (T69.setTop (mkF m 182 #[.val (.long ha), .second, .val (.long la), .second, .val (.long h2), .second, .val (.long l2), .second, .val (.int xm), .val (.long hbb), .second, .val (.long lbb), .second, .val (.int (((xm.toUInt32 >>> ((2 : Int32) &&& 31).toUInt32).toInt32) &&& (3 : Int32))), .val (.ref b1), .val (.ref b3), .val (.int (1 : Int32)), .val (.ref b3), .val (.int (1 : Int32)), .val (.int (1 : Int32))] [])) _
            refine XS.iconst X69.here hx rfl (hb hby at_182) ?_
            show Steps p.tables e below (T69.setTop (mkF m 183 #[.val (.long ha), .second, .val (.long la), .second, .val (.long h2), .second, .val (.long l2), .second, .val (.int xm), .val (.long hbb), .second, .val (.long lbb), .second, .val (.int (((xm.toUInt32 >>> ((2 : Int32) &&& 31).toUInt32).toInt32) &&& (3 : Int32))), .val (.ref b1), .val (.ref b3), .val (.int (1 : Int32)), .val (.ref b3), .val (.int (1 : Int32)), .val (.int (1 : Int32))] [(.int (1 : Int32))])) _
            refine XS.goto X69.here hx rfl (pc0 := 183) (pc' := 187) rfl (hb hby at_183) (by decide) (by decide) ?_
            show Steps p.tables e below (T69.setTop (mkF m 187 #[.val (.long ha), .second, .val (.long la), .second, .val (.long h2), .second, .val (.long l2), .second, .val (.int xm), .val (.long hbb), .second, .val (.long lbb), .second, .val (.int (((xm.toUInt32 >>> ((2 : Int32) &&& 31).toUInt32).toInt32) &&& (3 : Int32))), .val (.ref b1), .val (.ref b3), .val (.int (1 : Int32)), .val (.ref b3), .val (.int (1 : Int32)), .val (.int (1 : Int32))] [(.int (1 : Int32))])) _
            refine XS.istore X69.here hx rfl (hb hby at_187) rfl (l' := #[.val (.long ha), .second, .val (.long la), .second, .val (.long h2), .second, .val (.long l2), .second, .val (.int xm), .val (.long hbb), .second, .val (.long lbb), .second, .val (.int (((xm.toUInt32 >>> ((2 : Int32) &&& 31).toUInt32).toInt32) &&& (3 : Int32))), .val (.ref b1), .val (.ref b3), .val (.int (1 : Int32)), .val (.ref b3), .val (.int (1 : Int32)), .val (.int (1 : Int32))]) rfl ?_
            show Steps p.tables e below (T69.setTop (mkF m 189 #[.val (.long ha), .second, .val (.long la), .second, .val (.long h2), .second, .val (.long l2), .second, .val (.int xm), .val (.long hbb), .second, .val (.long lbb), .second, .val (.int (((xm.toUInt32 >>> ((2 : Int32) &&& 31).toUInt32).toInt32) &&& (3 : Int32))), .val (.ref b1), .val (.ref b3), .val (.int (1 : Int32)), .val (.ref b3), .val (.int (1 : Int32)), .val (.int (1 : Int32))] [])) _
            refine XS.iload X69.here hx rfl (hb hby at_189) rfl ?_
            show Steps p.tables e below (T69.setTop (mkF m 191 #[.val (.long ha), .second, .val (.long la), .second, .val (.long h2), .second, .val (.long l2), .second, .val (.int xm), .val (.long hbb), .second, .val (.long lbb), .second, .val (.int (((xm.toUInt32 >>> ((2 : Int32) &&& 31).toUInt32).toInt32) &&& (3 : Int32))), .val (.ref b1), .val (.ref b3), .val (.int (1 : Int32)), .val (.ref b3), .val (.int (1 : Int32)), .val (.int (1 : Int32))] [(.int (1 : Int32))])) _
            exact kt
          obtain ⟨fs, hr, hrun, hended, hW, hsame⟩ := X69.leave (v := some (.int (1 : Int32))) (fun h => by rw [hret] at h; cases h) hlk
          refine ⟨_, _, go70 _ ?_, hrun, hended, _, _, rfl, ⟨rfl, N69⟩, ⟨_, rfl⟩, hW, hsame.mono (by decide) (by decide)⟩
          exact retN X69 hx (t := .boolean) hret (by simp) (hb hby at_191) hr
    · skip
      have go71 : ∀ t, Steps p.tables e below (T5.setTop (mkF m 86 #[.val (.long ha), .second, .val (.long la), .second, .val (.long h2), .second, .val (.long l2), .second, .val (.int xm), .val (.long hbb), .second, .val (.long lbb), .second, .val (.int (((xm.toUInt32 >>> ((2 : Int32) &&& 31).toUInt32).toInt32) &&& (3 : Int32))), .val (.ref b1), .val (.ref b3), .val (.int (0 : Int32)), .unset, .unset, .unset] [(.int (1 : Int32)), (.int (((xm.toUInt32 >>> ((2 : Int32) &&& 31).toUInt32).toInt32) &&& (3 : Int32)))])) t → Steps p.tables e below st0 t := by
        intro t kt
        refine go8 t ?_
        refine XS.ifYes X5.here hx rfl (pc0 := 73) (pc' := 80) rfl (hb hby at_73) rfl (Jvm.Free.XT.ll_ne_t hc9) (by decide) (by decide) ?_
        show Steps p.tables e below (T5.setTop (mkF m 80 #[.val (.long ha), .second, .val (.long la), .second, .val (.long h2), .second, .val (.long l2), .second, .val (.int xm), .val (.long hbb), .second, .val (.long lbb), .second, .val (.int (((xm.toUInt32 >>> ((2 : Int32) &&& 31).toUInt32).toInt32) &&& (3 : Int32))), .val (.ref b1), .val (.ref b3), .unset, .unset, .unset, .unset] [])) _
        refine XS.iconst X5.here hx rfl (hb hby at_80) ?_
        show Steps p.tables e below (T5.setTop (mkF m 81 #[.val (.long ha), .second, .val (.long la), .second, .val (.long h2), .second, .val (.long l2), .second, .val (.int xm), .val (.long hbb), .second, .val (.long lbb), .second, .val (.int (((xm.toUInt32 >>> ((2 : Int32) &&& 31).toUInt32).toInt32) &&& (3 : Int32))), .val (.ref b1), .val (.ref b3), .unset, .unset, .unset, .unset] [(.int (0 : Int32))])) _
        refine XS.istore X5.here hx rfl (hb hby at_81) rfl (l' := #[.val (.long ha), .second, .val (.long la), .second, .val (.long h2), .second, .val (.long l2), .second, .val (.int xm), .val (.long hbb), .second, .val (.long lbb), .second, .val (.int (((xm.toUInt32 >>> ((2 : Int32) &&& 31).toUInt32).toInt32) &&& (3 : Int32))), .val (.ref b1), .val (.ref b3), .val (.int (0 : Int32)), .unset, .unset, .unset]) rfl ?_
        show Steps p.tables e below (T5.setTop (mkF m 83 #[.val (.long ha), .second, .val (.long la), .second, .val (.long h2), .second, .val (.long l2), .second, .val (.int xm), .val (.long hbb), .second, .val (.long lbb), .second, .val (.int (((xm.toUInt32 >>> ((2 : Int32) &&& 31).toUInt32).toInt32) &&& (3 : Int32))), .val (.ref b1), .val (.ref b3), .val (.int (0 : Int32)), .unset, .unset, .unset] [])) _
        refine XS.iload X5.here hx rfl (hb hby at_83) rfl ?_
        show Steps p.tables e below (T5.setTop (mkF m 85 #[.val (.long ha), .second, .val (.long la), .second, .val (.long h2), .second, .val (.long l2), .second, .val (.int xm), .val (.long hbb), .second, .val (.long lbb), .second, .val (.int (((xm.toUInt32 >>> ((2 : Int32) &&& 31).toUInt32).toInt32) &&& (3 : Int32))), .val (.ref b1), .val (.ref b3), .val (.int (0 : Int32)), .unset, .unset, .unset] [(.int (((xm.toUInt32 >>> ((2 : Int32) &&& 31).toUInt32).toInt32) &&& (3 : Int32)))])) _
        refine XS.iconst X5.here hx rfl (hb hby at_85) ?_
        show Steps p.tables e below (T5.setTop (mkF m 86 #[.val (.long ha), .second, .val (.long la), .second, .val (.long h2), .second, .val (.long l2), .second, .val (.int xm), .val (.long hbb), .second, .val (.long lbb), .second, .val (.int (((xm.toUInt32 >>> ((2 : Int32) &&& 31).toUInt32).toInt32) &&& (3 : Int32))), .val (.ref b1), .val (.ref b3), .val (.int (0 : Int32)), .unset, .unset, .unset] [(.int (1 : Int32)), (.int (((xm.toUInt32 >>> ((2 : Int32) &&& 31).toUInt32).toInt32) &&& (3 : Int32)))])) _
        exact kt
      by_cases hc72 : (((xm.toUInt32 >>> ((2 : Int32) &&& 31).toUInt32).toInt32) &&& (3 : Int32)) = (1 : Int32)
      · skip
        have f74 : Exa Z T5.heap b1 "com/example/xmitq/xmitq/MessageId" := ((p2_0.ext E3).keep Kc5)
        obtain ⟨cq73, kq73, q73a, q73b, q73c⟩ := isOf hZ rfl f74
        obtain ⟨_, _, ⟨T73, L73, k73, n73⟩, -, X73, ⟨Lc73, hQ73, l73, y73, z73⟩, st73⟩ := X5.virtualBack hx (y := (⟨"com/example/xmitq/xmitq/MessageId", "equals", "(Ljava/lang/Object;)Z"⟩ : MethodName)) (z := (⟨"com/example/xmitq/xmitq/MessageId", "equals", "(Ljava/lang/Object;)Z"⟩ : MethodName)) hown (mvT hZ (hw _ (List.mem_of_getElem? (i := 13) rfl))) (mvT hZ (hw _ (List.mem_of_getElem? (i := 14) rfl))) (notFace_of_selects (args := #[]) (mvT hZ (hw _ (List.mem_of_getElem? (i := 16) rfl)))) (mvT hZ (hw _ (List.mem_of_getElem? (i := 16) rfl))) (mvT hZ (hw _ (List.mem_of_getElem? (i := 15) rfl))) (by decide) (backOf (W := 0) (own_eqNull l Z a0 hw [] b1 T5.heap n0 Z5 ) hZ (hw _ (List.mem_of_getElem? (i := 17) rfl)) (hw _ (List.mem_of_getElem? (i := 2) rfl)) (by decide) (by decide)) q73a q73c (g := (mkF m 128 #[.val (.long ha), .second, .val (.long la), .second, .val (.long h2), .second, .val (.long l2), .second, .val (.int xm), .val (.long hbb), .second, .val (.long lbb), .second, .val (.int (((xm.toUInt32 >>> ((2 : Int32) &&& 31).toUInt32).toInt32) &&& (3 : Int32))), .val (.ref b1), .val (.ref b3), .val (.int (0 : Int32)), .val .null, .val (.int (0 : Int32)), .unset] [.null, (.ref b1)])) rfl (by rw [hml]; rfl) (Steps.refl _) (argsL := [.null]) (rest := []) (lenOf pd_12 rfl) rfl (by show 2 * 0 + _ ≤ _; exact Nat.le_of_eq rfl) (hb hby at_128) (fun _ _ => ⟨rfl, rfl, (by decide : 2 + 0 ≤ _), (by decide : 4 + 0 ≤ _)⟩)
        dsimp only [Pt.U, Pt.locs, Pt.cells, Pt.slots] at X73 l73 y73 z73 st73 hQ73
        subst l73 y73 z73
        obtain ⟨rfl, Nq73, e73⟩ := hQ73
        have N73 := Fr.app N5 Nq73
        have f75 : Fld Z T5.heap b1 "com/example/xmitq/xmitq/MessageId" "high" "J" (.long ha) := ((p2_1.ext E3).keep Kc5 (ninS ne3_b1 nin0))
        have f76 : Fld Z T5.heap b1 "com/example/xmitq/xmitq/MessageId" "low" "J" (.long la) := ((p2_2.ext E3).keep Kc5 (ninS ne3_b1 nin0))
        obtain ⟨cq77, kq77, q77a, q77b, q77c⟩ := isOf hZ e73 p5_0
        obtain ⟨_, _, ⟨T77, L77, k77, n77⟩, -, X77, ⟨Lc77, hQ77, l77, y77, z77⟩, st77⟩ := X73.virtualBack hx (y := (⟨"com/example/xmitq/xmitq/MessageId", "equals", "(Ljava/lang/Object;)Z"⟩ : MethodName)) (z := (⟨"com/example/xmitq/xmitq/MessageId", "equals", "(Ljava/lang/Object;)Z"⟩ : MethodName)) hown (mvT hZ (hw _ (List.mem_of_getElem? (i := 13) rfl))) (mvT hZ (hw _ (List.mem_of_getElem? (i := 14) rfl))) (notFace_of_selects (args := #[]) (mvT hZ (hw _ (List.mem_of_getElem? (i := 16) rfl)))) (mvT hZ (hw _ (List.mem_of_getElem? (i := 16) rfl))) (mvT hZ (hw _ (List.mem_of_getElem? (i := 15) rfl))) (by decide) (backOf (W := 0) (own_eqYN l Z a0 hw [] b3 b1 hbb ha lbb la T5.heap n0 Z5 f74 p5_1 f75 (Eq.symm hc7) p5_2 f76 (Ne.symm hc9)) hZ (hw _ (List.mem_of_getElem? (i := 17) rfl)) (hw _ (List.mem_of_getElem? (i := 2) rfl)) (by decide) (by decide)) q77a q77c (g := (mkF m 152 #[.val (.long ha), .second, .val (.long la), .second, .val (.long h2), .second, .val (.long l2), .second, .val (.int xm), .val (.long hbb), .second, .val (.long lbb), .second, .val (.int (((xm.toUInt32 >>> ((2 : Int32) &&& 31).toUInt32).toInt32) &&& (3 : Int32))), .val (.ref b1), .val (.ref b3), .val (.int (0 : Int32)), .val .null, .val (.int (0 : Int32)), .val (.int (1 : Int32))] [(.ref b1), (.ref b3)])) rfl (by rw [hml]; rfl) (Steps.refl _) (argsL := [(.ref b1)]) (rest := []) (lenOf pd_12 rfl) rfl (by show 2 * 0 + _ ≤ _; exact Nat.le_of_eq rfl) (hb hby at_152) (fun _ _ => ⟨rfl, e73, (by decide : 2 + 0 ≤ _), (by decide : 4 + 0 ≤ _)⟩)
        dsimp only [Pt.U, Pt.locs, Pt.cells, Pt.slots] at X77 l77 y77 z77 st77 hQ77
        subst l77 y77 z77
        obtain ⟨rfl, Nq77, e77⟩ := hQ77
        have N77 := Fr.app N73 Nq77
        obtain ⟨cq78, kq78, q78a, q78b, q78c⟩ := isOf hZ e77 f74
        obtain ⟨_, _, ⟨T78, L78, k78, n78⟩, -, X78, ⟨Lc78, hQ78, l78, y78, z78⟩, st78⟩ := X77.virtualBack hx (y := (⟨"com/example/xmitq/xmitq/MessageId", "equals", "(Ljava/lang/Object;)Z"⟩ : MethodName)) (z := (⟨"com/example/xmitq/xmitq/MessageId", "equals", "(Ljava/lang/Object;)Z"⟩ : MethodName)) hown (mvT hZ (hw _ (List.mem_of_getElem? (i := 13) rfl))) (mvT hZ (hw _ (List.mem_of_getElem? (i := 14) rfl))) (notFace_of_selects (args := #[]) (mvT hZ (hw _ (List.mem_of_getElem? (i := 16) rfl)))) (mvT hZ (hw _ (List.mem_of_getElem? (i := 16) rfl))) (mvT hZ (hw _ (List.mem_of_getElem? (i := 15) rfl))) (by decide) (backOf (W := 0) (own_eqYY l Z a0 hw [] b1 b1 ha ha la la T5.heap n0 Z5 f74 f75 f75 (rfl : ha = ha) f76 f76 (rfl : la = la)) hZ (hw _ (List.mem_of_getElem? (i := 17) rfl)) (hw _ (List.mem_of_getElem? (i := 2) rfl)) (by decide) (by decide)) q78a q78c (g := (mkF m 176 #[.val (.long ha), .second, .val (.long la), .second, .val (.long h2), .second, .val (.long l2), .second, .val (.int xm), .val (.long hbb), .second, .val (.long lbb), .second, .val (.int (((xm.toUInt32 >>> ((2 : Int32) &&& 31).toUInt32).toInt32) &&& (3 : Int32))), .val (.ref b1), .val (.ref b3), .val (.int (0 : Int32)), .val .null, .val (.int (0 : Int32)), .val (.int (1 : Int32))] [(.ref b1), (.ref b1)])) rfl (by rw [hml]; rfl) (Steps.refl _) (argsL := [(.ref b1)]) (rest := []) (lenOf pd_12 rfl) rfl (by show 2 * 0 + _ ≤ _; exact Nat.le_of_eq rfl) (hb hby at_176) (fun _ _ => ⟨rfl, e77, (by decide : 2 + 0 ≤ _), (by decide : 4 + 0 ≤ _)⟩)
        dsimp only [Pt.U, Pt.locs, Pt.cells, Pt.slots] at X78 l78 y78 z78 st78 hQ78
        subst l78 y78 z78
        obtain ⟨rfl, Nq78, e78⟩ := hQ78
        have N78 := Fr.app N77 Nq78
        have go79 : ∀ t, Steps p.tables e below (T78.setTop (mkF m 191 #[.val (.long ha), .second, .val (.long la), .second, .val (.long h2), .second, .val (.long l2), .second, .val (.int xm), .val (.long hbb), .second, .val (.long lbb), .second, .val (.int (((xm.toUInt32 >>> ((2 : Int32) &&& 31).toUInt32).toInt32) &&& (3 : Int32))), .val (.ref b1), .val (.ref b3), .val (.int (0 : Int32)), .val .null, .val (.int (0 : Int32)), .val (.int (1 : Int32))] [(.int (1 : Int32))])) t → Steps p.tables e below st0 t := by
          intro t kt
          refine go71 t ?_
          refine XS.icmpNo X5.here hx rfl (hb hby at_86) rfl (teq hc72).2 ?_
          show Steps p.tables e below (T5.setTop (mkF m 89 #[.val (.long ha), .second, .val (.long la), .second, .val (.long h2), .second, .val (.long l2), .second, .val (.int xm), .val (.long hbb), .second, .val (.long lbb), .second, .val (.int (((xm.toUInt32 >>> ((2 : Int32) &&& 31).toUInt32).toInt32) &&& (3 : Int32))), .val (.ref b1), .val (.ref b3), .val (.int (0 : Int32)), .unset, .unset, .unset] [])) _
          refine XS.aconstNull X5.here hx rfl (hb hby at_89) ?_
          show Steps p.tables e below (T5.setTop (mkF m 90 #[.val (.long ha), .second, .val (.long la), .second, .val (.long h2), .second, .val (.long l2), .second, .val (.int xm), .val (.long hbb), .second, .val (.long lbb), .second, .val (.int (((xm.toUInt32 >>> ((2 : Int32) &&& 31).toUInt32).toInt32) &&& (3 : Int32))), .val (.ref b1), .val (.ref b3), .val (.int (0 : Int32)), .unset, .unset, .unset] [.null])) _
          refine XS.astore X5.here hx rfl (hb hby at_90) rfl rfl (l' := #[.val (.long ha), .second, .val (.long la), .second, .val (.long h2), .second, .val (.long l2), .second, .val (.int xm), .val (.long hbb), .second, .val (.long lbb), .second, .val (.int (((xm.toUInt32 >>> ((2 : Int32) &&& 31).toUInt32).toInt32) &&& (3 : Int32))), .val (.ref b1), .val (.ref b3), .val (.int (0 : Int32)), .val .null, .unset, .unset]) rfl ?_
          show Steps p.tables e below (T5.setTop (mkF m 92 #[.val (.long ha), .second, .val (.long la), .second, .val (.long h2), .second, .val (.long l2), .second, .val (.int xm), .val (.long hbb), .second, .val (.long lbb), .second, .val (.int (((xm.toUInt32 >>> ((2 : Int32) &&& 31).toUInt32).toInt32) &&& (3 : Int32))), .val (.ref b1), .val (.ref b3), .val (.int (0 : Int32)), .val .null, .unset, .unset] [])) _
          refine XS.iconst X5.here hx rfl (hb hby at_92) ?_
          show Steps p.tables e below (T5.setTop (mkF m 93 #[.val (.long ha), .second, .val (.long la), .second, .val (.long h2), .second, .val (.long l2), .second, .val (.int xm), .val (.long hbb), .second, .val (.long lbb), .second, .val (.int (((xm.toUInt32 >>> ((2 : Int32) &&& 31).toUInt32).toInt32) &&& (3 : Int32))), .val (.ref b1), .val (.ref b3), .val (.int (0 : Int32)), .val .null, .unset, .unset] [(.int (0 : Int32))])) _
          refine XS.istore X5.here hx rfl (hb hby at_93) rfl (l' := #[.val (.long ha), .second, .val (.long la), .second, .val (.long h2), .second, .val (.long l2), .second, .val (.int xm), .val (.long hbb), .second, .val (.long lbb), .second, .val (.int (((xm.toUInt32 >>> ((2 : Int32) &&& 31).toUInt32).toInt32) &&& (3 : Int32))), .val (.ref b1), .val (.ref b3), .val (.int (0 : Int32)), .val .null, .val (.int (0 : Int32)), .unset]) rfl ?_
          show Steps p.tables e below (T5.setTop (mkF m 95 #[.val (.long ha), .second, .val (.long la), .second, .val (.long h2), .second, .val (.long l2), .second, .val (.int xm), .val (.long hbb), .second, .val (.long lbb), .second, .val (.int (((xm.toUInt32 >>> ((2 : Int32) &&& 31).toUInt32).toInt32) &&& (3 : Int32))), .val (.ref b1), .val (.ref b3), .val (.int (0 : Int32)), .val .null, .val (.int (0 : Int32)), .unset] [])) _
          refine XS.goto X5.here hx rfl (pc0 := 95) (pc' := 124) rfl (hb hby at_95) (by decide) (by decide) ?_
          show Steps p.tables e below (T5.setTop (mkF m 124 #[.val (.long ha), .second, .val (.long la), .second, .val (.long h2), .second, .val (.long l2), .second, .val (.int xm), .val (.long hbb), .second, .val (.long lbb), .second, .val (.int (((xm.toUInt32 >>> ((2 : Int32) &&& 31).toUInt32).toInt32) &&& (3 : Int32))), .val (.ref b1), .val (.ref b3), .val (.int (0 : Int32)), .val .null, .val (.int (0 : Int32)), .unset] [])) _
          refine XS.aload X5.here hx rfl (hb hby at_124) rfl rfl ?_
          show Steps p.tables e below (T5.setTop (mkF m 126 #[.val (.long ha), .second, .val (.long la), .second, .val (.long h2), .second, .val (.long l2), .second, .val (.int xm), .val (.long hbb), .second, .val (.long lbb), .second, .val (.int (((xm.toUInt32 >>> ((2 : Int32) &&& 31).toUInt32).toInt32) &&& (3 : Int32))), .val (.ref b1), .val (.ref b3), .val (.int (0 : Int32)), .val .null, .val (.int (0 : Int32)), .unset] [(.ref b1)])) _
          refine XS.aload X5.here hx rfl (hb hby at_126) rfl rfl ?_
          show Steps p.tables e below (T5.setTop (mkF m 128 #[.val (.long ha), .second, .val (.long la), .second, .val (.long h2), .second, .val (.long l2), .second, .val (.int xm), .val (.long hbb), .second, .val (.long lbb), .second, .val (.int (((xm.toUInt32 >>> ((2 : Int32) &&& 31).toUInt32).toInt32) &&& (3 : Int32))), .val (.ref b1), .val (.ref b3), .val (.int (0 : Int32)), .val .null, .val (.int (0 : Int32)), .unset] [.null, (.ref b1)])) _
          refine st73.trans ?_
          show Steps p.tables e below (T73.setTop (mkF m 131 #[.val (.long ha), .second, .val (.long la), .second, .val (.long h2), .second, .val (.long l2), .second, .val (.int xm), .val (.long hbb), .second, .val (.long lbb), .second, .val (.int (((xm.toUInt32 >>> ((2 : Int32) &&& 31).toUInt32).toInt32) &&& (3 : Int32))), .val (.ref b1), .val (.ref b3), .val (.int (0 : Int32)), .val .null, .val (.int (0 : Int32)), .unset] [(.int (0 : Int32))])) _
          refine XS.iload X73.here hx rfl (hb hby at_131) rfl ?_
          show Steps p.tables e below (T73.setTop (mkF m 133 #[.val (.long ha), .second, .val (.long la), .second, .val (.long h2), .second, .val (.long l2), .second, .val (.int xm), .val (.long hbb), .second, .val (.long lbb), .second, .val (.int (((xm.toUInt32 >>> ((2 : Int32) &&& 31).toUInt32).toInt32) &&& (3 : Int32))), .val (.ref b1), .val (.ref b3), .val (.int (0 : Int32)), .val .null, .val (.int (0 : Int32)), .unset] [(.int (0 : Int32)), (.int (0 : Int32))])) _
          refine XS.icmpNo X73.here hx rfl (hb hby at_133) rfl (teq (by decide : (0 : Int32) = (0 : Int32))).2 ?_
          show Steps p.tables e below (T73.setTop (mkF m 136 #[.val (.long ha), .second, .val (.long la), .second, .val (.long h2), .second, .val (.long l2), .second, .val (.int xm), .val (.long hbb), .second, .val (.long lbb), .second, .val (.int (((xm.toUInt32 >>> ((2 : Int32) &&& 31).toUInt32).toInt32) &&& (3 : Int32))), .val (.ref b1), .val (.ref b3), .val (.int (0 : Int32)), .val .null, .val (.int (0 : Int32)), .unset] [])) _
          refine XS.iconst X73.here hx rfl (hb hby at_136) ?_
          show Steps p.tables e below (T73.setTop (mkF m 137 #[.val (.long ha), .second, .val (.long la), .second, .val (.long h2), .second, .val (.long l2), .second, .val (.int xm), .val (.long hbb), .second, .val (.long lbb), .second, .val (.int (((xm.toUInt32 >>> ((2 : Int32) &&& 31).toUInt32).toInt32) &&& (3 : Int32))), .val (.ref b1), .val (.ref b3), .val (.int (0 : Int32)), .val .null, .val (.int (0 : Int32)), .unset] [(.int (1 : Int32))])) _
          refine XS.goto X73.here hx rfl (pc0 := 137) (pc' := 141) rfl (hb hby at_137) (by decide) (by decide) ?_
          show Steps p.tables e below (T73.setTop (mkF m 141 #[.val (.long ha), .second, .val (.long la), .second, .val (.long h2), .second, .val (.long l2), .second, .val (.int xm), .val (.long hbb), .second, .val (.long lbb), .second, .val (.int (((xm.toUInt32 >>> ((2 : Int32) &&& 31).toUInt32).toInt32) &&& (3 : Int32))), .val (.ref b1), .val (.ref b3), .val (.int (0 : Int32)), .val .null, .val (.int (0 : Int32)), .unset] [(.int (1 : Int32))])) _
          refine XS.istore X73.here hx rfl (hb hby at_141) rfl (l' := #[.val (.long ha), .second, .val (.long la), .second, .val (.long h2), .second, .val (.long l2), .second, .val (.int xm), .val (.long hbb), .second, .val (.long lbb), .second, .val (.int (((xm.toUInt32 >>> ((2 : Int32) &&& 31).toUInt32).toInt32) &&& (3 : Int32))), .val (.ref b1), .val (.ref b3), .val (.int (0 : Int32)), .val .null, .val (.int (0 : Int32)), .val (.int (1 : Int32))]) rfl ?_
          show Steps p.tables e below (T73.setTop (mkF m 143 #[.val (.long ha), .second, .val (.long la), .second, .val (.long h2), .second, .val (.long l2), .second, .val (.int xm), .val (.long hbb), .second, .val (.long lbb), .second, .val (.int (((xm.toUInt32 >>> ((2 : Int32) &&& 31).toUInt32).toInt32) &&& (3 : Int32))), .val (.ref b1), .val (.ref b3), .val (.int (0 : Int32)), .val .null, .val (.int (0 : Int32)), .val (.int (1 : Int32))] [])) _
          refine XS.iload X73.here hx rfl (hb hby at_143) rfl ?_
          show Steps p.tables e below (T73.setTop (mkF m 145 #[.val (.long ha), .second, .val (.long la), .second, .val (.long h2), .second, .val (.long l2), .second, .val (.int xm), .val (.long hbb), .second, .val (.long lbb), .second, .val (.int (((xm.toUInt32 >>> ((2 : Int32) &&& 31).toUInt32).toInt32) &&& (3 : Int32))), .val (.ref b1), .val (.ref b3), .val (.int (0 : Int32)), .val .null, .val (.int (0 : Int32)), .val (.int (1 : Int32))] [(.int (1 : Int32))])) _
          refine XS.ifNo X73.here hx rfl (hb hby at_145) rfl ((if0 _ _).trans (feq (by decide : ¬ ((1 : Int32) = (0 : Int32)))).1) ?_
          show Steps p.tables e below (T73.setTop (mkF m 148 #[.val (.long ha), .second, .val (.long la), .second, .val (.long h2), .second, .val (.long l2), .second, .val (.int xm), .val (.long hbb), .second, .val (.long lbb), .second, .val (.int (((xm.toUInt32 >>> ((2 : Int32) &&& 31).toUInt32).toInt32) &&& (3 : Int32))), .val (.ref b1), .val (.ref b3), .val (.int (0 : Int32)), .val .null, .val (.int (0 : Int32)), .val (.int (1 : Int32))] [])) _
          refine XS.aload X73.here hx rfl (hb hby at_148) rfl rfl ?_
          show Steps p.tables e below (T73.setTop (mkF m 150 #[.val (.long ha), .second, .val (.long la), .second, .val (.long h2), .second, .val (.long l2), .second, .val (.int xm), .val (.long hbb), .second, .val (.long lbb), .second, .val (.int (((xm.toUInt32 >>> ((2 : Int32) &&& 31).toUInt32).toInt32) &&& (3 : Int32))), .val (.ref b1), .val (.ref b3), .val (.int (0 : Int32)), .val .null, .val (.int (0 : Int32)), .val (.int (1 : Int32))] [(.ref b3)])) _
          refine XS.aload X73.here hx rfl (hb hby at_150) rfl rfl ?_
          show Steps p.tables e below (T73.setTop (mkF m 152 #[.val (.long ha), .second, .val (.long la), .second, .val (.long h2), .second, .val (.long l2), .second, .val (.int xm), .val (.long hbb), .second, .val (.long lbb), .second, .val (.int (((xm.toUInt32 >>> ((2 : Int32) &&& 31).toUInt32).toInt32) &&& (3 : Int32))), .val (.ref b1), .val (.ref b3), .val (.int (0 : Int32)), .val .null, .val (.int (0 : Int32)), .val (.int (1 : Int32))] [(.ref b1), (.ref b3)])) _
          refine st77.trans ?_
          show Steps p.tables e below (T77.setTop (mkF m 155 #[.val (.long ha), .second, .val (.long la), .second, .val (.long h2), .second, .val (.long l2), .second, .val (.int xm), .val (.long hbb), .second, .val (.long lbb), .second, .val (.int (((xm.toUInt32 >>> ((2 : Int32) &&& 31).toUInt32).toInt32) &&& (3 : Int32))), .val (.ref b1), .val (.ref b3), .val (.int (0 : Int32)), .val .null, .val (.int (0 : Int32)), .val (.int (1 : Int32))] [(.int (0 : Int32))])) _
          refine XS.iload X77.here hx rfl (hb hby at_155) rfl ?_
          show Steps p.tables e below (T77.setTop (mkF m 157 #[.val (.long ha), .second, .val (.long la), .second, .val (.long h2), .second, .val (.long l2), .second, .val (.int xm), .val (.long hbb), .second, .val (.long lbb), .second, .val (.int (((xm.toUInt32 >>> ((2 : Int32) &&& 31).toUInt32).toInt32) &&& (3 : Int32))), .val (.ref b1), .val (.ref b3), .val (.int (0 : Int32)), .val .null, .val (.int (0 : Int32)), .val (.int (1 : Int32))] [(.int (0 : Int32)), (.int (0 : Int32))])) _
          refine XS.icmpNo X77.here hx rfl (hb hby at_157) rfl (teq (by decide : (0 : Int32) = (0 : Int32))).2 ?_
          show Steps p.tables e below (T77.setTop (mkF m 160 #[.val (.long ha), .second, .val (.long la), .second, .val (.long h2), .second, .val (.long l2), .second, .val (.int xm), .val (.long hbb), .second, .val (.long lbb), .second, .val (.int (((xm.toUInt32 >>> ((2 : Int32) &&& 31).toUInt32).toInt32) &&& (3 : Int32))), .val (.ref b1), .val (.ref b3), .val (.int (0 : Int32)), .val .null, .val (.int (0 : Int32)), .val (.int (1 : Int32))] [])) _
          refine XS.iconst X77.here hx rfl (hb hby at_160) ?_
          show Steps p.tables e below (T77.setTop (mkF m 161 #[.val (.long ha), .second, .val (.long la), .second, .val (.long h2), .second, .val (.long l2), .second, .val (.int xm), .val (.long hbb), .second, .val (.long lbb), .second, .val (.int (((xm.toUInt32 >>> ((2 : Int32) &&& 31).toUInt32).toInt32) &&& (3 : Int32))), .val (.ref b1), .val (.ref b3), .val (.int (0 : Int32)), .val .null, .val (.int (0 : Int32)), .val (.int (1 : Int32))] [(.int (1 : Int32))])) _
          refine XS.goto X77.here hx rfl (pc0 := 161) (pc' := 165) rfl (hb hby at_161) (by decide) (by decide) ?_
          show Steps p.tables e below (T77.setTop (mkF m 165 #[.val (.long ha), .second, .val (.long la), .second, .val (.long h2), .second, .val (.long l2), .second, .val (.int xm), .val (.long hbb), .second, .val (.long lbb), .second, .val (.int (((xm.toUInt32 >>> ((2 : Int32) &&& 31).toUInt32).toInt32) &&& (3 : Int32))), .val (.ref b1), .val (.ref b3), .val (.int (0 : Int32)), .val .null, .val (.int (0 : Int32)), .val (.int (1 : Int32))] [(.int (1 : Int32))])) _
          refine XS.istore X77.here hx rfl (hb hby at_165) rfl (l' := #[.val (.long ha), .second, .val (.long la), .second, .val (.long h2), .second, .val (.long l2), .second, .val (.int xm), .val (.long hbb), .second, .val (.long lbb), .second, .val (.int (((xm.toUInt32 >>> ((2 : Int32) &&& 31).toUInt32).toInt32) &&& (3 : Int32))), .val (.ref b1), .val (.ref b3), .val (.int (0 : Int32)), .val .null, .val (.int (0 : Int32)), .val (.int (1 : Int32))]) rfl ?_
          show Steps p.tables e below (T77.setTop (mkF m 167 #[.val (.long ha), .second, .val (.long la), .second, .val (.long h2), .second, .val (.long l2), .second, .val (.int xm), .val (.long hbb), .second, .val (.long lbb), .second, .val (.int (((xm.toUInt32 >>> ((2 : Int32) &&& 31).toUInt32).toInt32) &&& (3 : Int32))), .val (.ref b1), .val (.ref b3), .val (.int (0 : Int32)), .val .null, .val (.int (0 : Int32)), .val (.int (1 : Int32))] [])) _
          refine XS.iload X77.here hx rfl (hb hby at_167) rfl ?_
          show Steps p.tables e below (T77.setTop (mkF m 169 #[.val (.long ha), .second, .val (.long la), .second, .val (.long h2), .second, .val (.long l2), .second, .val (.int xm), .val (.long hbb), .second, .val (.long lbb), .second, .val (.int (((xm.toUInt32 >>> ((2 : Int32) &&& 31).toUInt32).toInt32) &&& (3 : Int32))), .val (.ref b1), .val (.ref b3), .val (.int (0 : Int32)), .val .null, .val (.int (0 : Int32)), .val (.int (1 : Int32))] [(.int (1 : Int32))])) _
          refine XS.ifNo X77.here hx rfl (hb hby at_169) rfl ((if0 _ _).trans (feq (by decide : ¬ ((1 : Int32) = (0 : Int32)))).1) ?_
          show Steps p.tables e below (T77.setTop (mkF m 172 #[.val (.long ha), .second, .val (.long la), .second, .val (.long h2), .second, .val (.long l2), .second, .val (.int xm), .val (.long hbb), .second, .val (.long lbb), .second, .val (.int (((xm.toUInt32 >>> ((2 : Int32) &&& 31).toUInt32).toInt32) &&& (3 : Int32))), .val (.ref b1), .val (.ref b3), .val (.int (0 : Int32)), .val .null, .val (.int (0 : Int32)), .val (.int (1 : Int32))] [])) _
          refine XS.aload X77.here hx rfl (hb hby at_172) rfl rfl ?_
          show Steps p.tables e below (T77.setTop (mkF m 174 #[.val (.long ha), .second, .val (.long la), .second, .val (.long h2), .second, .val (.long l2), .second, .val (.int xm), .val (.long hbb), .second, .val (.long lbb), .second, .val (.int (((xm.toUInt32 >>> ((2 : Int32) &&& 31).toUInt32).toInt32) &&& (3 : Int32))), .val (.ref b1), .val (.ref b3), .val (.int (0 : Int32)), .val .null, .val (.int (0 : Int32)), .val (.int (1 : Int32))] [(.ref b1)])) _
          refine XS.aload X77.here hx rfl (hb hby at_174) rfl rfl ?_
          show Steps p.tables e below (T77.setTop (mkF m 176 #[.val (.long ha), .second, .val (.long la), .second, .val (.long h2), .second, .val (.long l2), .second, .val (.int xm), .val (.long hbb), .second, .val (.long lbb), .second, .val (.int (((xm.toUInt32 >>> ((2 : Int32) &&& 31).toUInt32).toInt32) &&& (3 : Int32))), .val (.ref b1), .val (.ref b3), .val (.int (0 : Int32)), .val .null, .val (.int (0 : Int32)), .val (.int (1 : Int32))] [(.ref b1), (.ref b1)])) _
          refine st78.trans ?_
          show Steps p.tables e below (T78.setTop (mkF m 179 #[.val (.long ha), .second, .val (.long la), .second, .val (.long h2), .second, .val (.long l2), .second, .val (.int xm), .val (.long hbb), .second, .val (.long lbb), .second, .val (.int (((xm.toUInt32 >>> ((2 : Int32) &&& 31).toUInt32).toInt32) &&& (3 : Int32))), .val (.ref b1), .val (.ref b3), .val (.int (0 : Int32)), .val .null, .val (.int (0 : Int32)), .val (.int (1 : Int32))] [(.int (1 : Int32))])) _
          refine XS.ifNo X78.here hx rfl (hb hby at_179) rfl ((if0 _ _).trans (feq (by decide : ¬ ((1 : Int32) = (0 : Int32)))).1) ?_
          show Steps p.tables e below (T78.setTop (mkF m 182 #[.val (.long ha), .second, .val (.long la), .second, .val (.long h2), .second, .val (.long l2), .second, .val (.int xm), .val (.long hbb), .second, .val (.long lbb), .second, .val (.int (((xm.toUInt32 >>> ((2 : Int32) &&& 31).toUInt32).toInt32) &&& (3 : Int32))), .val (.ref b1), .val (.ref b3), .val (.int (0 : Int32)), .val .null, .val (.int (0 : Int32)), .val (.int (1 : Int32))] [])) _
          refine XS.iconst X78.here hx rfl (hb hby at_182) ?_
          show Steps p.tables e below (T78.setTop (mkF m 183 #[.val (.long ha), .second, .val (.long la), .second, .val (.long h2), .second, .val (.long l2), .second, .val (.int xm), .val (.long hbb), .second, .val (.long lbb), .second, .val (.int (((xm.toUInt32 >>> ((2 : Int32) &&& 31).toUInt32).toInt32) &&& (3 : Int32))), .val (.ref b1), .val (.ref b3), .val (.int (0 : Int32)), .val .null, .val (.int (0 : Int32)), .val (.int (1 : Int32))] [(.int (1 : Int32))])) _
          refine XS.goto X78.here hx rfl (pc0 := 183) (pc' := 187) rfl (hb hby at_183) (by decide) (by decide) ?_
          show Steps p.tables e below (T78.setTop (mkF m 187 #[.val (.long ha), .second, .val (.long la), .second, .val (.long h2), .second, .val (.long l2), .second, .val (.int xm), .val (.long hbb), .second, .val (.long lbb), .second, .val (.int (((xm.toUInt32 >>> ((2 : Int32) &&& 31).toUInt32).toInt32) &&& (3 : Int32))), .val (.ref b1), .val (.ref b3), .val (.int (0 : Int32)), .val .null, .val (.int (0 : Int32)), .val (.int (1 : Int32))] [(.int (1 : Int32))])) _
          refine XS.istore X78.here hx rfl (hb hby at_187) rfl (l' := #[.val (.long ha), .second, .val (.long la), .second, .val (.long h2), .second, .val (.long l2), .second, .val (.int xm), .val (.long hbb), .second, .val (.long lbb), .second, .val (.int (((xm.toUInt32 >>> ((2 : Int32) &&& 31).toUInt32).toInt32) &&& (3 : Int32))), .val (.ref b1), .val (.ref b3), .val (.int (0 : Int32)), .val .null, .val (.int (0 : Int32)), .val (.int (1 : Int32))]) rfl ?_
          show Steps p.tables e below (T78.setTop (mkF m 189 #[.val (.long ha), .second, .val (.long la), .second, .val (.long h2), .second, .val (.long l2), .second, .val (.int xm), .val (.long hbb), .second, .val (.long lbb), .second, .val (.int (((xm.toUInt32 >>> ((2 : Int32) &&& 31).toUInt32).toInt32) &&& (3 : Int32))), .val (.ref b1), .val (.ref b3), .val (.int (0 : Int32)), .val .null, .val (.int (0 : Int32)), .val (.int (1 : Int32))] [])) _
          refine XS.iload X78.here hx rfl (hb hby at_189) rfl ?_
          show Steps p.tables e below (T78.setTop (mkF m 191 #[.val (.long ha), .second, .val (.long la), .second, .val (.long h2), .second, .val (.long l2), .second, .val (.int xm), .val (.long hbb), .second, .val (.long lbb), .second, .val (.int (((xm.toUInt32 >>> ((2 : Int32) &&& 31).toUInt32).toInt32) &&& (3 : Int32))), .val (.ref b1), .val (.ref b3), .val (.int (0 : Int32)), .val .null, .val (.int (0 : Int32)), .val (.int (1 : Int32))] [(.int (1 : Int32))])) _
          exact kt
        obtain ⟨fs, hr, hrun, hended, hW, hsame⟩ := X78.leave (v := some (.int (1 : Int32))) (fun h => by rw [hret] at h; cases h) hlk
        refine ⟨_, _, go79 _ ?_, hrun, hended, _, _, rfl, ⟨rfl, N78⟩, ⟨_, rfl⟩, hW, hsame.mono (by decide) (by decide)⟩
        exact retN X78 hx (t := .boolean) hret (by simp) (hb hby at_191) hr
      · skip
        have go80 : ∀ t, Steps p.tables e below (T5.setTop (mkF m 101 #[.val (.long ha), .second, .val (.long la), .second, .val (.long h2), .second, .val (.long l2), .second, .val (.int xm), .val (.long hbb), .second, .val (.long lbb), .second, .val (.int (((xm.toUInt32 >>> ((2 : Int32) &&& 31).toUInt32).toInt32) &&& (3 : Int32))), .val (.ref b1), .val (.ref b3), .val (.int (0 : Int32)), .unset, .unset, .unset] [(.int (2 : Int32)), (.int (((xm.toUInt32 >>> ((2 : Int32) &&& 31).toUInt32).toInt32) &&& (3 : Int32)))])) t → Steps p.tables e below st0 t := by
          intro t kt
          refine go71 t ?_
          refine XS.icmpYes X5.here hx rfl (pc0 := 86) (pc' := 98) rfl (hb hby at_86) rfl (feq hc72).2 (by decide) (by decide) ?_
          show Steps p.tables e below (T5.setTop (mkF m 98 #[.val (.long ha), .second, .val (.long la), .second, .val (.long h2), .second, .val (.long l2), .second, .val (.int xm), .val (.long hbb), .second, .val (.long lbb), .second, .val (.int (((xm.toUInt32 >>> ((2 : Int32) &&& 31).toUInt32).toInt32) &&& (3 : Int32))), .val (.ref b1), .val (.ref b3), .val (.int (0 : Int32)), .unset, .unset, .unset] [])) _
          refine XS.iload X5.here hx rfl (hb hby at_98) rfl ?_
          show Steps p.tables e below (T5.setTop (mkF m 100 #[.val (.long ha), .second, .val (.long la), .second, .val (.long h2), .second, .val (.long l2), .second, .val (.int xm), .val (.long hbb), .second, .val (.long lbb), .second, .val (.int (((xm.toUInt32 >>> ((2 : Int32) &&& 31).toUInt32).toInt32) &&& (3 : Int32))), .val (.ref b1), .val (.ref b3), .val (.int (0 : Int32)), .unset, .unset, .unset] [(.int (((xm.toUInt32 >>> ((2 : Int32) &&& 31).toUInt32).toInt32) &&& (3 : Int32)))])) _
          refine XS.iconst X5.here hx rfl (hb hby at_100) ?_
          show Steps p.tables e below (T5.setTop (mkF m 101 #[.val (.long ha), .second, .val (.long la), .second, .val (.long h2), .second, .val (.long l2), .second, .val (.int xm), .val (.long hbb), .second, .val (.long lbb), .second, .val (.int (((xm.toUInt32 >>> ((2 : Int32) &&& 31).toUInt32).toInt32) &&& (3 : Int32))), .val (.ref b1), .val (.ref b3), .val (.int (0 : Int32)), .unset, .unset, .unset] [(.int (2 : Int32)), (.int (((xm.toUInt32 >>> ((2 : Int32) &&& 31).toUInt32).toInt32) &&& (3 : Int32)))])) _
          exact kt
        by_cases hc81 : (((xm.toUInt32 >>> ((2 : Int32) &&& 31).toUInt32).toInt32) &&& (3 : Int32)) = (2 : Int32)
        · skip
          have go82 : ∀ t, Steps p.tables e below (T5.setTop (mkF m 105 #[.val (.long ha), .second, .val (.long la), .second, .val (.long h2), .second, .val (.long l2), .second, .val (.int xm), .val (.long hbb), .second, .val (.long lbb), .second, .val (.int (((xm.toUInt32 >>> ((2 : Int32) &&& 31).toUInt32).toInt32) &&& (3 : Int32))), .val (.ref b1), .val (.ref b3), .val (.int (0 : Int32)), .unset, .unset, .unset] [(.long ha)])) t → Steps p.tables e below st0 t := by
            intro t kt
            refine go80 t ?_
            refine XS.icmpNo X5.here hx rfl (hb hby at_101) rfl (teq hc81).2 ?_
            show Steps p.tables e below (T5.setTop (mkF m 104 #[.val (.long ha), .second, .val (.long la), .second, .val (.long h2), .second, .val (.long l2), .second, .val (.int xm), .val (.long hbb), .second, .val (.long lbb), .second, .val (.int (((xm.toUInt32 >>> ((2 : Int32) &&& 31).toUInt32).toInt32) &&& (3 : Int32))), .val (.ref b1), .val (.ref b3), .val (.int (0 : Int32)), .unset, .unset, .unset] [])) _
            refine XS.lloadN X5.here hx rfl (hb hby at_104) rfl ?_
            show Steps p.tables e below (T5.setTop (mkF m 105 #[.val (.long ha), .second, .val (.long la), .second, .val (.long h2), .second, .val (.long l2), .second, .val (.int xm), .val (.long hbb), .second, .val (.long lbb), .second, .val (.int (((xm.toUInt32 >>> ((2 : Int32) &&& 31).toUInt32).toInt32) &&& (3 : Int32))), .val (.ref b1), .val (.ref b3), .val (.int (0 : Int32)), .unset, .unset, .unset] [(.long ha)])) _
            exact kt
          by_cases hc83 : ha < (-128 : Int64)
          · skip
            obtain ⟨_, _, ⟨T84, L84, k84, n84⟩, -, X84, ⟨Lc84, hQ84, l84, y84, z84⟩, st84⟩ := Jvm.LawKit.callS X5 hx (y := (⟨"java/lang/Long", "valueOf", "(J)Ljava/lang/Long;"⟩ : MethodName)) hown (mvT hZ (hw _ (List.mem_of_getElem? (i := 20) rfl))) (mvT hZ (hw _ (List.mem_of_getElem? (i := 21) rfl))) (mvT hZ (hw _ (List.mem_of_getElem? (i := 22) rfl))) (mvT hZ (hw _ (List.mem_of_getElem? (i := 23) rfl))) (by decide) (backOf (W := 0) (own_vLo l Z a0 hw [] ha T5.heap n0 Z5 hc83) hZ (hw _ (List.mem_of_getElem? (i := 23) rfl)) (hw _ (List.mem_of_getElem? (i := 22) rfl)) (by decide) (by decide)) (g := (mkF m 105 #[.val (.long ha), .second, .val (.long la), .second, .val (.long h2), .second, .val (.long l2), .second, .val (.int xm), .val (.long hbb), .second, .val (.long lbb), .second, .val (.int (((xm.toUInt32 >>> ((2 : Int32) &&& 31).toUInt32).toInt32) &&& (3 : Int32))), .val (.ref b1), .val (.ref b3), .val (.int (0 : Int32)), .unset, .unset, .unset] [(.long ha)])) rfl (by rw [hml]; rfl) (argsL := [(.long ha)]) (rest := []) (lenOf pd_13 rfl) rfl (by show 2 * 0 + _ ≤ _; exact Nat.le_of_eq rfl) (hb hby at_105) (fun _ _ => ⟨rfl, rfl, (by decide : 2 + 1 ≤ _), (by decide : 4 + 1 ≤ _)⟩)
            dsimp only [Pt.U, Pt.locs, Pt.cells, Pt.slots] at X84 l84 y84 z84 st84 hQ84
            subst l84 y84 z84
            obtain ⟨Nq84, b84_0, rfl, szb84_0, Kc84, p84_0⟩ := hQ84
            have N84 := Fr.app N5 Nq84
            have f85 : Exa Z T5.heap b1 "com/example/xmitq/xmitq/MessageId" := ((p2_0.ext E3).keep Kc5)
            have ne_b84_0_b1 : b1 ≠ b84_0 := Nat.ne_of_lt (Nat.lt_of_lt_of_le f85.lt szb84_0)
            have f86 : Arv Z T5.heap ca kc (.object "java/lang/Long") (256 : Int32) vs .null := ((f4.ext E3).keep Kc5 (ninS ne3_ca nin0))
            have ne_b84_0_ca : ca ≠ b84_0 := Nat.ne_of_lt (Nat.lt_of_lt_of_le f86.lt szb84_0)
            have ne_b84_0_b3 : b3 ≠ b84_0 := Nat.ne_of_lt (Nat.lt_of_lt_of_le p5_0.lt szb84_0)
            have ge_b84_0 : n0 ≤ b84_0 := Nat.le_trans Z5 szb84_0
            have Z84 : n0 ≤ T84.heap.size := Nat.le_trans Z5 Kc84.1
            have f88 : Exa Z T84.heap b1 "com/example/xmitq/xmitq/MessageId" := (f85.keep Kc84)
            obtain ⟨cq87, kq87, q87a, q87b, q87c⟩ := isOf hZ rfl f88
            obtain ⟨_, _, ⟨T87, L87, k87, n87⟩, -, X87, ⟨Lc87, hQ87, l87, y87, z87⟩, st87⟩ := X84.virtualBack hx (y := (⟨"com/example/xmitq/xmitq/MessageId", "equals", "(Ljava/lang/Object;)Z"⟩ : MethodName)) (z := (⟨"com/example/xmitq/xmitq/MessageId", "equals", "(Ljava/lang/Object;)Z"⟩ : MethodName)) hown (mvT hZ (hw _ (List.mem_of_getElem? (i := 13) rfl))) (mvT hZ (hw _ (List.mem_of_getElem? (i := 14) rfl))) (notFace_of_selects (args := #[]) (mvT hZ (hw _ (List.mem_of_getElem? (i := 16) rfl)))) (mvT hZ (hw _ (List.mem_of_getElem? (i := 16) rfl))) (mvT hZ (hw _ (List.mem_of_getElem? (i := 15) rfl))) (by decide) (backOf (W := 0) (own_eqLong l Z a0 hw [] b1 b84_0 T84.heap n0 Z84 p84_0) hZ (hw _ (List.mem_of_getElem? (i := 17) rfl)) (hw _ (List.mem_of_getElem? (i := 2) rfl)) (by decide) (by decide)) q87a q87c (g := (mkF m 128 #[.val (.long ha), .second, .val (.long la), .second, .val (.long h2), .second, .val (.long l2), .second, .val (.int xm), .val (.long hbb), .second, .val (.long lbb), .second, .val (.int (((xm.toUInt32 >>> ((2 : Int32) &&& 31).toUInt32).toInt32) &&& (3 : Int32))), .val (.ref b1), .val (.ref b3), .val (.int (0 : Int32)), .val (.ref b84_0), .val (.int (0 : Int32)), .unset] [(.ref b84_0), (.ref b1)])) rfl (by rw [hml]; rfl) (Steps.refl _) (argsL := [(.ref b84_0)]) (rest := []) (lenOf pd_12 rfl) rfl (by show 2 * 0 + _ ≤ _; exact Nat.le_of_eq rfl) (hb hby at_128) (fun _ _ => ⟨rfl, rfl, (by decide : 3 + 0 ≤ _), (by decide : 5 + 0 ≤ _)⟩)
            dsimp only [Pt.U, Pt.locs, Pt.cells, Pt.slots] at X87 l87 y87 z87 st87 hQ87
            subst l87 y87 z87
            obtain ⟨rfl, Nq87, e87⟩ := hQ87
            have N87 := Fr.app N84 Nq87
            have f89 : Fld Z T84.heap b3 "com/example/xmitq/xmitq/MessageId" "high" "J" (.long hbb) := (p5_1.keep Kc84 nin0)
            have f90 : Fld Z T84.heap b1 "com/example/xmitq/xmitq/MessageId" "high" "J" (.long ha) := (((p2_1.ext E3).keep Kc5 (ninS ne3_b1 nin0)).keep Kc84 nin0)
            have f91 : Fld Z T84.heap b3 "com/example/xmitq/xmitq/MessageId" "low" "J" (.long lbb) := (p5_2.keep Kc84 nin0)
            have f92 : Fld Z T84.heap b1 "com/example/xmitq/xmitq/MessageId" "low" "J" (.long la) := (((p2_2.ext E3).keep Kc5 (ninS ne3_b1 nin0)).keep Kc84 nin0)
            have f94 : Exa Z T84.heap b3 "com/example/xmitq/xmitq/MessageId" := (p5_0.keep Kc84)
            obtain ⟨cq93, kq93, q93a, q93b, q93c⟩ := isOf hZ e87 f94
            obtain ⟨_, _, ⟨T93, L93, k93, n93⟩, -, X93, ⟨Lc93, hQ93, l93, y93, z93⟩, st93⟩ := X87.virtualBack hx (y := (⟨"com/example/xmitq/xmitq/MessageId", "equals", "(Ljava/lang/Object;)Z"⟩ : MethodName)) (z := (⟨"com/example/xmitq/xmitq/MessageId", "equals", "(Ljava/lang/Object;)Z"⟩ : MethodName)) hown (mvT hZ (hw _ (List.mem_of_getElem? (i := 13) rfl))) (mvT hZ (hw _ (List.mem_of_getElem? (i := 14) rfl))) (notFace_of_selects (args := #[]) (mvT hZ (hw _ (List.mem_of_getElem? (i := 16) rfl)))) (mvT hZ (hw _ (List.mem_of_getElem? (i := 16) rfl))) (mvT hZ (hw _ (List.mem_of_getElem? (i := 15) rfl))) (by decide) (backOf (W := 0) (own_eqYN l Z a0 hw [] b3 b1 hbb ha lbb la T84.heap n0 Z84 f88 f89 f90 (Eq.symm hc7) f91 f92 (Ne.symm hc9)) hZ (hw _ (List.mem_of_getElem? (i := 17) rfl)) (hw _ (List.mem_of_getElem? (i := 2) rfl)) (by decide) (by decide)) q93a q93c (g := (mkF m 152 #[.val (.long ha), .second, .val (.long la), .second, .val (.long h2), .second, .val (.long l2), .second, .val (.int xm), .val (.long hbb), .second, .val (.long lbb), .second, .val (.int (((xm.toUInt32 >>> ((2 : Int32) &&& 31).toUInt32).toInt32) &&& (3 : Int32))), .val (.ref b1), .val (.ref b3), .val (.int (0 : Int32)), .val (.ref b84_0), .val (.int (0 : Int32)), .val (.int (1 : Int32))] [(.ref b1), (.ref b3)])) rfl (by rw [hml]; rfl) (Steps.refl _) (argsL := [(.ref b1)]) (rest := []) (lenOf pd_12 rfl) rfl (by show 2 * 0 + _ ≤ _; exact Nat.le_of_eq rfl) (hb hby at_152) (fun _ _ => ⟨rfl, e87, (by decide : 3 + 0 ≤ _), (by decide : 5 + 0 ≤ _)⟩)
            dsimp only [Pt.U, Pt.locs, Pt.cells, Pt.slots] at X93 l93 y93 z93 st93 hQ93
            subst l93 y93 z93
            obtain ⟨rfl, Nq93, e93⟩ := hQ93
            have N93 := Fr.app N87 Nq93
            obtain ⟨cq95, kq95, q95a, q95b, q95c⟩ := isOf hZ e93 f88
            obtain ⟨_, _, ⟨T95, L95, k95, n95⟩, -, X95, ⟨Lc95, hQ95, l95, y95, z95⟩, st95⟩ := X93.virtualBack hx (y := (⟨"com/example/xmitq/xmitq/MessageId", "equals", "(Ljava/lang/Object;)Z"⟩ : MethodName)) (z := (⟨"com/example/xmitq/xmitq/MessageId", "equals", "(Ljava/lang/Object;)Z"⟩ : MethodName)) hown (mvT hZ (hw _ (List.mem_of_getElem? (i := 13) rfl))) (mvT hZ (hw _ (List.mem_of_getElem? (i := 14) rfl))) (notFace_of_selects (args := #[]) (mvT hZ (hw _ (List.mem_of_getElem? (i := 16) rfl)))) (mvT hZ (hw _ (List.mem_of_getElem? (i := 16) rfl))) (mvT hZ (hw _ (List.mem_of_getElem? (i := 15) rfl))) (by decide) (backOf (W := 0) (own_eqYY l Z a0 hw [] b1 b1 ha ha la la T84.heap n0 Z84 f88 f90 f90 (rfl : ha = ha) f92 f92 (rfl : la = la)) hZ (hw _ (List.mem_of_getElem? (i := 17) rfl)) (hw _ (List.mem_of_getElem? (i := 2) rfl)) (by decide) (by decide)) q95a q95c (g := (mkF m 176 #[.val (.long ha), .second, .val (.long la), .second, .val (.long h2), .second, .val (.long l2), .second, .val (.int xm), .val (.long hbb), .second, .val (.long lbb), .second, .val (.int (((xm.toUInt32 >>> ((2 : Int32) &&& 31).toUInt32).toInt32) &&& (3 : Int32))), .val (.ref b1), .val (.ref b3), .val (.int (0 : Int32)), .val (.ref b84_0), .val (.int (0 : Int32)), .val (.int (1 : Int32))] [(.ref b1), (.ref b1)])) rfl (by rw [hml]; rfl) (Steps.refl _) (argsL := [(.ref b1)]) (rest := []) (lenOf pd_12 rfl) rfl (by show 2 * 0 + _ ≤ _; exact Nat.le_of_eq rfl) (hb hby at_176) (fun _ _ => ⟨rfl, e93, (by decide : 3 + 0 ≤ _), (by decide : 5 + 0 ≤ _)⟩)
            dsimp only [Pt.U, Pt.locs, Pt.cells, Pt.slots] at X95 l95 y95 z95 st95 hQ95
            subst l95 y95 z95
            obtain ⟨rfl, Nq95, e95⟩ := hQ95
            have N95 := Fr.app N93 Nq95
            have go96 : ∀ t, Steps p.tables e below (T95.setTop (mkF m 191 #[.val (.long ha), .second, .val (.long la), .second, .val (.long h2), .second, .val (.long l2), .second, .val (.int xm), .val (.long hbb), .second, .val (.long lbb), .second, .val (.int (((xm.toUInt32 >>> ((2 : Int32) &&& 31).toUInt32).toInt32) &&& (3 : Int32))), .val (.ref b1), .val (.ref b3), .val (.int (0 : Int32)), .val (.ref b84_0), .val (.int (0 : Int32)), .val (.int (1 : Int32))] [(.int (1 : Int32))])) t → Steps p.tables e below st0 t := by
              intro t kt
              refine go82 t ?_
              refine st84 _ ?_
              show Steps p.tables e below (T84.setTop (mkF m 108 #[.val (.long ha), .second, .val (.long la), .second, .val (.long h2), .second, .val (.long l2), .second, .val (.int xm), .val (.long hbb), .second, .val (.long lbb), .second, .val (.int (((xm.toUInt32 >>> ((2 : Int32) &&& 31).toUInt32).toInt32) &&& (3 : Int32))), .val (.ref b1), .val (.ref b3), .val (.int (0 : Int32)), .unset, .unset, .unset] [(.ref b84_0)])) _
              refine XS.astore X84.here hx rfl (hb hby at_108) rfl rfl (l' := #[.val (.long ha), .second, .val (.long la), .second, .val (.long h2), .second, .val (.long l2), .second, .val (.int xm), .val (.long hbb), .second, .val (.long lbb), .second, .val (.int (((xm.toUInt32 >>> ((2 : Int32) &&& 31).toUInt32).toInt32) &&& (3 : Int32))), .val (.ref b1), .val (.ref b3), .val (.int (0 : Int32)), .val (.ref b84_0), .unset, .unset]) rfl ?_
              show Steps p.tables e below (T84.setTop (mkF m 110 #[.val (.long ha), .second, .val (.long la), .second, .val (.long h2), .second, .val (.long l2), .second, .val (.int xm), .val (.long hbb), .second, .val (.long lbb), .second, .val (.int (((xm.toUInt32 >>> ((2 : Int32) &&& 31).toUInt32).toInt32) &&& (3 : Int32))), .val (.ref b1), .val (.ref b3), .val (.int (0 : Int32)), .val (.ref b84_0), .unset, .unset] [])) _
              refine XS.iconst X84.here hx rfl (hb hby at_110) ?_
              show Steps p.tables e below (T84.setTop (mkF m 111 #[.val (.long ha), .second, .val (.long la), .second, .val (.long h2), .second, .val (.long l2), .second, .val (.int xm), .val (.long hbb), .second, .val (.long lbb), .second, .val (.int (((xm.toUInt32 >>> ((2 : Int32) &&& 31).toUInt32).toInt32) &&& (3 : Int32))), .val (.ref b1), .val (.ref b3), .val (.int (0 : Int32)), .val (.ref b84_0), .unset, .unset] [(.int (0 : Int32))])) _
              refine XS.istore X84.here hx rfl (hb hby at_111) rfl (l' := #[.val (.long ha), .second, .val (.long la), .second, .val (.long h2), .second, .val (.long l2), .second, .val (.int xm), .val (.long hbb), .second, .val (.long lbb), .second, .val (.int (((xm.toUInt32 >>> ((2 : Int32) &&& 31).toUInt32).toInt32) &&& (3 : Int32))), .val (.ref b1), .val (.ref b3), .val (.int (0 : Int32)), .val (.ref b84_0), .val (.int (0 : Int32)), .unset]) rfl ?_
              show Steps p.tables e below (T84.setTop (mkF m 113 #[.val (.long ha), .second, .val (.long la), .second, .val (.long h2), .second, .val (.long l2), .second, .val (.int xm), .val (.long hbb), .second, .val (.long lbb), .second, .val (.int (((xm.toUInt32 >>> ((2 : Int32) &&& 31).toUInt32).toInt32) &&& (3 : Int32))), .val (.ref b1), .val (.ref b3), .val (.int (0 : Int32)), .val (.ref b84_0), .val (.int (0 : Int32)), .unset] [])) _
              refine XS.goto X84.here hx rfl (pc0 := 113) (pc' := 124) rfl (hb hby at_113) (by decide) (by decide) ?_
              show Steps p.tables e below (T84.setTop (mkF m 124 #[.val (.long ha), .second, .val (.long la), .second, .val (.long h2), .second, .val (.long l2), .second, .val (.int xm), .val (.long hbb), .second, .val (.long lbb), .second, .val (.int (((xm.toUInt32 >>> ((2 : Int32) &&& 31).toUInt32).toInt32) &&& (3 : Int32))), .val (.ref b1), .val (.ref b3), .val (.int (0 : Int32)), .val (.ref b84_0), .val (.int (0 : Int32)), .unset] [])) _
              refine XS.aload X84.here hx rfl (hb hby at_124) rfl rfl ?_
              show Steps p.tables e below (T84.setTop (mkF m 126 #[.val (.long ha), .second, .val (.long la), .second, .val (.long h2), .second, .val (.long l2), .second, .val (.int xm), .val (.long hbb), .second, .val (.long lbb), .second, .val (.int (((xm.toUInt32 >>> ((2 : Int32) &&& 31).toUInt32).toInt32) &&& (3 : Int32))), .val (.ref b1), .val (.ref b3), .val (.int (0 : Int32)), .val (.ref b84_0), .val (.int (0 : Int32)), .unset] [(.ref b1)])) _
              refine XS.aload X84.here hx rfl (hb hby at_126) rfl rfl ?_
              show Steps p.tables e below (T84.setTop (mkF m 128 #[.val (.long ha), .second, .val (.long la), .second, .val (.long h2), .second, .val (.long l2), .second, .val (.int xm), .val (.long hbb), .second, .val (.long lbb), .second, .val (.int (((xm.toUInt32 >>> ((2 : Int32) &&& 31).toUInt32).toInt32) &&& (3 : Int32))), .val (.ref b1), .val (.ref b3), .val (.int (0 : Int32)), .val (.ref b84_0), .val (.int (0 : Int32)), .unset] [(.ref b84_0), (.ref b1)])) _
              refine st87.trans ?_
              show Steps p.tables e below (T87.setTop (mkF m 131 #[.val (.long ha), .second, .val (.long la), .second, .val (.long h2), .second, .val (.long l2), .second, .val (.int xm), .val (.long hbb), .second, .val (.long lbb), .second, .val (.int (((xm.toUInt32 >>> ((2 : Int32) &&& 31).toUInt32).toInt32) &&& (3 : Int32))), .val (.ref b1), .val (.ref b3), .val (.int (0 : Int32)), .val (.ref b84_0), .val (.int (0 : Int32)), .unset] [(.int (0 : Int32))])) _
              refine XS.iload X87.here hx rfl (hb hby at_131) rfl ?_
              show Steps p.tables e below (T87.setTop (mkF m 133 #[.val (.long ha), .second, .val (.long la), .second, .val (.long h2), .second, .val (.long l2), .second, .val (.int xm), .val (.long hbb), .second, .val (.long lbb), .second, .val (.int (((xm.toUInt32 >>> ((2 : Int32) &&& 31).toUInt32).toInt32) &&& (3 : Int32))), .val (.ref b1), .val (.ref b3), .val (.int (0 : Int32)), .val (.ref b84_0), .val (.int (0 : Int32)), .unset] [(.int (0 : Int32)), (.int (0 : Int32))])) _
              refine XS.icmpNo X87.here hx rfl (hb hby at_133) rfl (teq (by decide : (0 : Int32) = (0 : Int32))).2 ?_
              show Steps p.tables e below (T87.setTop (mkF m 136 #[.val (.long ha), .second, .val (.long la), .second, .val (.long h2), .second, .val (.long l2), .second, .val (.int xm), .val (.long hbb), .second, .val (.long lbb), .second, .val (.int (((xm.toUInt32 >>> ((2 : Int32) &&& 31).toUInt32).toInt32) &&& (3 : Int32))), .val (.ref b1), .val (.ref b3), .val (.int (0 : Int32)), .val (.ref b84_0), .val (.int (0 : Int32)), .unset] [])) _
              refine XS.iconst X87.here hx rfl (hb hby at_136) ?_
              show Steps p.tables e below (T87.setTop (mkF m 137 #[.val (.long ha), .second, .val (.long la), .second, .val (.long h2), .second, .val (.long l2), .second, .val (.int xm), .val (.long hbb), .second, .val (.long lbb), .second, .val (.int (((xm.toUInt32 >>> ((2 : Int32) &&& 31).toUInt32).toInt32) &&& (3 : Int32))), .val (.ref b1), .val (.ref b3), .val (.int (0 : Int32)), .val (.ref b84_0), .val (.int (0 : Int32)), .unset] [(.int (1 : Int32))])) _
              refine XS.goto X87.here hx rfl (pc0 := 137) (pc' := 141) rfl (hb hby at_137) (by decide) (by decide) ?_
              show Steps p.tables e below (T87.setTop (mkF m 141 #[.val (.long ha), .second, .val (.long la), .second, .val (.long h2), .second, .val (.long l2), .second, .val (.int xm), .val (.long hbb), .second, .val (.long lbb), .second, .val (.int (((xm.toUInt32 >>> ((2 : Int32) &&& 31).toUInt32).toInt32) &&& (3 : Int32))), .val (.ref b1), .val (.ref b3), .val (.int (0 : Int32)), .val (.ref b84_0), .val (.int (0 : Int32)), .unset] [(.int (1 : Int32))])) _
              refine XS.istore X87.here hx rfl (hb hby at_141) rfl (l' := #[.val (.long ha), .second, .val (.long la), .second, .val (.long h2), .second, .val (.long l2), .second, .val (.int xm), .val (.long hbb), .second, .val (.long lbb), .second, .val (.int (((xm.toUInt32 >>> ((2 : Int32) &&& 31).toUInt32).toInt32) &&& (3 : Int32))), .val (.ref b1), .val (.ref b3), .val (.int (0 : Int32)), .val (.ref b84_0), .val (.int (0 : Int32)), .val (.int (1 : Int32))]) rfl ?_
              show Steps p.tables e below (T87.setTop (mkF m 143 #[.val (.long ha), .second, .val (.long la), .second, .val (.long h2), .second, .val (.long l2), .second, .val (.int xm), .val (.long hbb), .second, .val (.long lbb), .second, .val (.int (((xm.toUInt32 >>> ((2 : Int32) &&& 31).toUInt32).toInt32) &&& (3 : Int32))), .val (.ref b1), .val (.ref b3), .val (.int (0 : Int32)), .val (.ref b84_0), .val (.int (0 : Int32)), .val (.int (1 : Int32))] [])) _
              refine XS.iload X87.here hx rfl (hb hby at_143) rfl ?_
              show Steps p.tables e below (T87.setTop (mkF m 145 #[.val (.long ha), .second, .val (.long la), .second, .val (.long h2), .second, .val (.long l2), .second, .val (.int xm), .val (.long hbb), .second, .val (.long lbb), .second, .val (.int (((xm.toUInt32 >>> ((2 : Int32) &&& 31).toUInt32).toInt32) &&& (3 : Int32))), .val (.ref b1), .val (.ref b3), .val (.int (0 : Int32)), .val (.ref b84_0), .val (.int (0 : Int32)), .val (.int (1 : Int32))] [(.int (1 : Int32))])) _
              refine XS.ifNo X87.here hx rfl (hb hby at_145) rfl ((if0 _ _).trans (feq (by decide : ¬ ((1 : Int32) = (0 : Int32)))).1) ?_
              show Steps p.tables e below (T87.setTop (mkF m 148 #[.val (.long ha), .second, .val (.long la), .second, .val (.long h2), .second, .val (.long l2), .second, .val (.int xm), .val (.long hbb), .second, .val (.long lbb), .second, .val (.int (((xm.toUInt32 >>> ((2 : Int32) &&& 31).toUInt32).toInt32) &&& (3 : Int32))), .val (.ref b1), .val (.ref b3), .val (.int (0 : Int32)), .val (.ref b84_0), .val (.int (0 : Int32)), .val (.int (1 : Int32))] [])) _
              refine XS.aload X87.here hx rfl (hb hby at_148) rfl rfl ?_
              show Steps p.tables e below (T87.setTop (mkF m 150 #[.val (.long ha), .second, .val (.long la), .second, .val (.long h2), .second, .val (.long l2), .second, .val (.int xm), .val (.long hbb), .second, .val (.long lbb), .second, .val (.int (((xm.toUInt32 >>> ((2 : Int32) &&& 31).toUInt32).toInt32) &&& (3 : Int32))), .val (.ref b1), .val (.ref b3), .val (.int (0 : Int32)), .val (.ref b84_0), .val (.int (0 : Int32)), .val (.int (1 : Int32))] [(.ref b3)])) _
              refine XS.aload X87.here hx rfl (hb hby at_150) rfl rfl ?_
              show Steps p.tables e below (T87.setTop (mkF m 152 #[.val (.long ha), .second, .val (.long la), .second, .val (.long h2), .second, .val (.long l2), .second, .val (.int xm), .val (.long hbb), .second, .val (.long lbb), .second, .val (.int (((xm.toUInt32 >>> ((2 : Int32) &&& 31).toUInt32).toInt32) &&& (3 : Int32))), .val (.ref b1), .val (.ref b3), .val (.int (0 : Int32)), .val (.ref b84_0), .val (.int (0 : Int32)), .val (.int (1 : Int32))] [(.ref b1), (.ref b3)])) _
              refine st93.trans ?_
              show Steps p.tables e below (T93.setTop (mkF m 155 #[.val (.long ha), .second, .val (.long la), .second, .val (.long h2), .second, .val (.long l2), .second, .val (.int xm), .val (.long hbb), .second, .val (.long lbb), .second, .val (.int (((xm.toUInt32 >>> ((2 : Int32) &&& 31).toUInt32).toInt32) &&& (3 : Int32))), .val (.ref b1), .val (.ref b3), .val (.int (0 : Int32)), .val (.ref b84_0), .val (.int (0 : Int32)), .val (.int (1 : Int32))] [(.int (0 : Int32))])) _
              refine XS.iload X93.here hx rfl (hb hby at_155) rfl ?_
              show Steps p.tables e below (T93.setTop (mkF m 157 #[.val (.long ha), .second, .val (.long la), .second, .val (.long h2), .second, .val (.long l2), .second, .val (.int xm), .val (.long hbb), .second, .val (.long lbb), .second, .val (.int (((xm.toUInt32 >>> ((2 : Int32) &&& 31).toUInt32).toInt32) &&& (3 : Int32))), .val (.ref b1), .val (.ref b3), .val (.int (0 : Int32)), .val (.ref b84_0), .val (.int (0 : Int32)), .val (.int (1 : Int32))] [(.int (0 : Int32)), (.int (0 : Int32))])) _
              refine XS.icmpNo X93.here hx rfl (hb hby at_157) rfl (teq (by decide : (0 : Int32) = (0 : Int32))).2 ?_
              show Steps p.tables e below (T93.setTop (mkF m 160 #[.val (.long ha), .second, .val (.long la), .second, .val (.long h2), .second, .val (.long l2), .second, .val (.int xm), .val (.long hbb), .second, .val (.long lbb), .second, .val (.int (((xm.toUInt32 >>> ((2 : Int32) &&& 31).toUInt32).toInt32) &&& (3 : Int32))), .val (.ref b1), .val (.ref b3), .val (.int (0 : Int32)), .val (.ref b84_0), .val (.int (0 : Int32)), .val (.int (1 : Int32))] [])) _
              refine XS.iconst X93.here hx rfl (hb hby at_160) ?_
              show Steps p.tables e below (T93.setTop (mkF m 161 #[.val (.long ha), .second, .val (.long la), .second, .val (.long h2), .second, .val (.long l2), .second, .val (.int xm), .val (.long hbb), .second, .val (.long lbb), .second, .val (.int (((xm.toUInt32 >>> ((2 : Int32) &&& 31).toUInt32).toInt32) &&& (3 : Int32))), .val (.ref b1), .val (.ref b3), .val (.int (0 : Int32)), .val (.ref b84_0), .val (.int (0 : Int32)), .val (.int (1 : Int32))] [(.int (1 : Int32))])) _
              refine XS.goto X93.here hx rfl (pc0 := 161) (pc' := 165) rfl (hb hby at_161) (by decide) (by decide) ?_
              show Steps p.tables e below (T93.setTop (mkF m 165 #[.val (.long ha), .second, .val (.long la), .second, .val (.long h2), .second, .val (.long l2), .second, .val (.int xm), .val (.long hbb), .second, .val (.long lbb), .second, .val (.int (((xm.toUInt32 >>> ((2 : Int32) &&& 31).toUInt32).toInt32) &&& (3 : Int32))), .val (.ref b1), .val (.ref b3), .val (.int (0 : Int32)), .val (.ref b84_0), .val (.int (0 : Int32)), .val (.int (1 : Int32))] [(.int (1 : Int32))])) _
              refine XS.istore X93.here hx rfl (hb hby at_165) rfl (l' := #[.val (.long ha), .second, .val (.long la), .second, .val (.long h2), .second, .val (.long l2), .second, .val (.int xm), .val (.long hbb), .second, .val (.long lbb), .second, .val (.int (((xm.toUInt32 >>> ((2 : Int32) &&& 31).toUInt32).toInt32) &&& (3 : Int32))), .val (.ref b1), .val (.ref b3), .val (.int (0 : Int32)), .val (.ref b84_0), .val (.int (0 : Int32)), .val (.int (1 : Int32))]) rfl ?_
              show Steps p.tables e below (T93.setTop (mkF m 167 #[.val (.long ha), .second, .val (.long la), .second, .val (.long h2), .second, .val (.long l2), .second, .val (.int xm), .val (.long hbb), .second, .val (.long lbb), .second, .val (.int (((xm.toUInt32 >>> ((2 : Int32) &&& 31).toUInt32).toInt32) &&& (3 : Int32))), .val (.ref b1), .val (.ref b3), .val (.int (0 : Int32)), .val (.ref b84_0), .val (.int (0 : Int32)), .val (.int (1 : Int32))] [])) _
              refine XS.iload X93.here hx rfl (hb hby at_167) rfl ?_
              show Steps p.tables e below (T93.setTop (mkF m 169 #[.val (.long ha), .second, .val (.long la), .second, .val (.long h2), .second, .val (.long l2), .second, .val (.int xm), .val (.long hbb), .second, .val (.long lbb), .second, .val (.int (((xm.toUInt32 >>> ((2 : Int32) &&& 31).toUInt32).toInt32) &&& (3 : Int32))), .val (.ref b1), .val (.ref b3), .val (.int (0 : Int32)), .val (.ref b84_0), .val (.int (0 : Int32)), .val (.int (1 : Int32))] [(.int (1 : Int32))])) _
              refine XS.ifNo X93.here hx rfl (hb hby at_169) rfl ((if0 _ _).trans (feq (by decide : ¬ ((1 : Int32) = (0 : Int32)))).1) ?_
              show Steps p.tables e below (T93.setTop (mkF m 172 #[.val (.long ha), .second, .val (.long la), .second, .val (.long h2), .second, .val (.long l2), .second, .val (.int xm), .val (.long hbb), .second, .val (.long lbb), .second, .val (.int (((xm.toUInt32 >>> ((2 : Int32) &&& 31).toUInt32).toInt32) &&& (3 : Int32))), .val (.ref b1), .val (.ref b3), .val (.int (0 : Int32)), .val (.ref b84_0), .val (.int (0 : Int32)), .val (.int (1 : Int32))] [])) _
              refine XS.aload X93.here hx rfl (hb hby at_172) rfl rfl ?_
              show Steps p.tables e below (T93.setTop (mkF m 174 #[.val (.long ha), .second, .val (.long la), .second, .val (.long h2), .second, .val (.long l2), .second, .val (.int xm), .val (.long hbb), .second, .val (.long lbb), .second, .val (.int (((xm.toUInt32 >>> ((2 : Int32) &&& 31).toUInt32).toInt32) &&& (3 : Int32))), .val (.ref b1), .val (.ref b3), .val (.int (0 : Int32)), .val (.ref b84_0), .val (.int (0 : Int32)), .val (.int (1 : Int32))] [(.ref b1)])) _
              refine XS.aload X93.here hx rfl (hb hby at_174) rfl rfl ?_
              show Steps p.tables e below (T93.setTop (mkF m 176 #[.val (.long ha), .second, .val (.long la), .second, .val (.long h2), .second, .val (.long l2), .second, .val (.int xm), .val (.long hbb), .second, .val (.long lbb), .second, .val (.int (((xm.toUInt32 >>> ((2 : Int32) &&& 31).toUInt32).toInt32) &&& (3 : Int32))), .val (.ref b1), .val (.ref b3), .val (.int (0 : Int32)), .val (.ref b84_0), .val (.int (0 : Int32)), .val (.int (1 : Int32))] [(.ref b1), (.ref b1)])) _
              refine st95.trans ?_
              show Steps p.tables e below (T95.setTop (mkF m 179 #[.val (.long ha), .second, .val (.long la), .second, .val (.long h2), .second, .val (.long l2), .second, .val (.int xm), .val (.long hbb), .second, .val (.long lbb), .second, .val (.int (((xm.toUInt32 >>> ((2 : Int32) &&& 31).toUInt32).toInt32) &&& (3 : Int32))), .val (.ref b1), .val (.ref b3), .val (.int (0 : Int32)), .val (.ref b84_0), .val (.int (0 : Int32)), .val (.int (1 : Int32))] [(.int (1 : Int32))])) _
              refine XS.ifNo X95.here hx rfl (hb hby at_179) rfl ((if0 _ _).trans (feq (by decide : ¬ ((1 : Int32) = (0 : Int32)))).1) ?_
              show Steps p.tables e below (T95.setTop (mkF m 182 #[.val (.long ha), .second, .val (.long la), .second, .val (.long h2), .second, .val (.long l2), .second, .val (.int xm), .val (.long hbb), .second, .val (.long lbb), .second, .val (.int (((xm.toUInt32 >>> ((2 : Int32) &&& 31).toUInt32).toInt32) &&& (3 : Int32))), .val (.ref b1), .val (.ref b3), .val (.int (0 : Int32)), .val (.ref b84_0), .val (.int (0 : Int32)), .val (.int (1 : Int32))] [])) _
              refine XS.iconst X95.here hx rfl (hb hby at_182) ?_
              show Steps p.tables e below (T95.setTop (mkF m 183 #[.val (.long ha), .second, .val (.long la), .second, .val (.long h2), .second, .val (.long l2), .second, .val (.int xm), .val (.long hbb), .second, .val (.long lbb), .second, .val (.int (((xm.toUInt32 >>> ((2 : Int32) &&& 31).toUInt32).toInt32) &&& (3 : Int32))), .val (.ref b1), .val (.ref b3), .val (.int (0 : Int32)), .val (.ref b84_0), .val (.int (0 : Int32)), .val (.int (1 : Int32))] [(.int (1 : Int32))])) _
              refine XS.goto X95.here hx rfl (pc0 := 183) (pc' := 187) rfl (hb hby at_183) (by decide) (by decide) ?_
              show Steps p.tables e below (T95.setTop (mkF m 187 #[.val (.long ha), .second, .val (.long la), .second, .val (.long h2), .second, .val (.long l2), .second, .val (.int xm), .val (.long hbb), .second, .val (.long lbb), .second, .val (.int (((xm.toUInt32 >>> ((2 : Int32) &&& 31).toUInt32).toInt32) &&& (3 : Int32))), .val (.ref b1), .val (.ref b3), .val (.int (0 : Int32)), .val (.ref b84_0), .val (.int (0 : Int32)), .val (.int (1 : Int32))] [(.int (1 : Int32))])) _
              refine XS.istore X95.here hx rfl (hb hby at_187) rfl (l' := #[.val (.long ha), .second, .val (.long la), .second, .val (.long h2), .second, .val (.long l2), .second, .val (.int xm), .val (.long hbb), .second, .val (.long lbb), .second, .val (.int (((xm.toUInt32 >>> ((2 : Int32) &&& 31).toUInt32).toInt32) &&& (3 : Int32))), .val (.ref b1), .val (.ref b3), .val (.int (0 : Int32)), .val (.ref b84_0), .val (.int (0 : Int32)), .val (.int (1 : Int32))]) rfl ?_
              show Steps p.tables e below (T95.setTop (mkF m 189 #[.val (.long ha), .second, .val (.long la), .second, .val (.long h2), .second, .val (.long l2), .second, .val (.int xm), .val (.long hbb), .second, .val (.long lbb), .second, .val (.int (((xm.toUInt32 >>> ((2 : Int32) &&& 31).toUInt32).toInt32) &&& (3 : Int32))), .val (.ref b1), .val (.ref b3), .val (.int (0 : Int32)), .val (.ref b84_0), .val (.int (0 : Int32)), .val (.int (1 : Int32))] [])) _
              refine XS.iload X95.here hx rfl (hb hby at_189) rfl ?_
              show Steps p.tables e below (T95.setTop (mkF m 191 #[.val (.long ha), .second, .val (.long la), .second, .val (.long h2), .second, .val (.long l2), .second, .val (.int xm), .val (.long hbb), .second, .val (.long lbb), .second, .val (.int (((xm.toUInt32 >>> ((2 : Int32) &&& 31).toUInt32).toInt32) &&& (3 : Int32))), .val (.ref b1), .val (.ref b3), .val (.int (0 : Int32)), .val (.ref b84_0), .val (.int (0 : Int32)), .val (.int (1 : Int32))] [(.int (1 : Int32))])) _
              exact kt
            obtain ⟨fs, hr, hrun, hended, hW, hsame⟩ := X95.leave (v := some (.int (1 : Int32))) (fun h => by rw [hret] at h; cases h) hlk
            refine ⟨_, _, go96 _ ?_, hrun, hended, _, _, rfl, ⟨rfl, N95⟩, ⟨_, rfl⟩, hW, hsame.mono (by decide) (by decide)⟩
            exact retN X95 hx (t := .boolean) hret (by simp) (hb hby at_191) hr
          · skip
            by_cases hc97 : (127 : Int64) < ha
            · skip
              obtain ⟨_, _, ⟨T98, L98, k98, n98⟩, -, X98, ⟨Lc98, hQ98, l98, y98, z98⟩, st98⟩ := Jvm.LawKit.callS X5 hx (y := (⟨"java/lang/Long", "valueOf", "(J)Ljava/lang/Long;"⟩ : MethodName)) hown (mvT hZ (hw _ (List.mem_of_getElem? (i := 20) rfl))) (mvT hZ (hw _ (List.mem_of_getElem? (i := 21) rfl))) (mvT hZ (hw _ (List.mem_of_getElem? (i := 22) rfl))) (mvT hZ (hw _ (List.mem_of_getElem? (i := 23) rfl))) (by decide) (backOf (W := 0) (own_vHi l Z a0 hw [] ha T5.heap n0 Z5 hc83 hc97) hZ (hw _ (List.mem_of_getElem? (i := 23) rfl)) (hw _ (List.mem_of_getElem? (i := 22) rfl)) (by decide) (by decide)) (g := (mkF m 105 #[.val (.long ha), .second, .val (.long la), .second, .val (.long h2), .second, .val (.long l2), .second, .val (.int xm), .val (.long hbb), .second, .val (.long lbb), .second, .val (.int (((xm.toUInt32 >>> ((2 : Int32) &&& 31).toUInt32).toInt32) &&& (3 : Int32))), .val (.ref b1), .val (.ref b3), .val (.int (0 : Int32)), .unset, .unset, .unset] [(.long ha)])) rfl (by rw [hml]; rfl) (argsL := [(.long ha)]) (rest := []) (lenOf pd_13 rfl) rfl (by show 2 * 0 + _ ≤ _; exact Nat.le_of_eq rfl) (hb hby at_105) (fun _ _ => ⟨rfl, rfl, (by decide : 2 + 1 ≤ _), (by decide : 4 + 1 ≤ _)⟩)
              dsimp only [Pt.U, Pt.locs, Pt.cells, Pt.slots] at X98 l98 y98 z98 st98 hQ98
              subst l98 y98 z98
              obtain ⟨Nq98, b98_0, rfl, szb98_0, Kc98, p98_0⟩ := hQ98
              have N98 := Fr.app N5 Nq98
              have f99 : Exa Z T5.heap b1 "com/example/xmitq/xmitq/MessageId" := ((p2_0.ext E3).keep Kc5)
              have ne_b98_0_b1 : b1 ≠ b98_0 := Nat.ne_of_lt (Nat.lt_of_lt_of_le f99.lt szb98_0)
              have f100 : Arv Z T5.heap ca kc (.object "java/lang/Long") (256 : Int32) vs .null := ((f4.ext E3).keep Kc5 (ninS ne3_ca nin0))
              have ne_b98_0_ca : ca ≠ b98_0 := Nat.ne_of_lt (Nat.lt_of_lt_of_le f100.lt szb98_0)
              have ne_b98_0_b3 : b3 ≠ b98_0 := Nat.ne_of_lt (Nat.lt_of_lt_of_le p5_0.lt szb98_0)
              have ge_b98_0 : n0 ≤ b98_0 := Nat.le_trans Z5 szb98_0
              have Z98 : n0 ≤ T98.heap.size := Nat.le_trans Z5 Kc98.1
              have f102 : Exa Z T98.heap b1 "com/example/xmitq/xmitq/MessageId" := (f99.keep Kc98)
              obtain ⟨cq101, kq101, q101a, q101b, q101c⟩ := isOf hZ rfl f102
              obtain ⟨_, _, ⟨T101, L101, k101, n101⟩, -, X101, ⟨Lc101, hQ101, l101, y101, z101⟩, st101⟩ := X98.virtualBack hx (y := (⟨"com/example/xmitq/xmitq/MessageId", "equals", "(Ljava/lang/Object;)Z"⟩ : MethodName)) (z := (⟨"com/example/xmitq/xmitq/MessageId", "equals", "(Ljava/lang/Object;)Z"⟩ : MethodName)) hown (mvT hZ (hw _ (List.mem_of_getElem? (i := 13) rfl))) (mvT hZ (hw _ (List.mem_of_getElem? (i := 14) rfl))) (notFace_of_selects (args := #[]) (mvT hZ (hw _ (List.mem_of_getElem? (i := 16) rfl)))) (mvT hZ (hw _ (List.mem_of_getElem? (i := 16) rfl))) (mvT hZ (hw _ (List.mem_of_getElem? (i := 15) rfl))) (by decide) (backOf (W := 0) (own_eqLong l Z a0 hw [] b1 b98_0 T98.heap n0 Z98 p98_0) hZ (hw _ (List.mem_of_getElem? (i := 17) rfl)) (hw _ (List.mem_of_getElem? (i := 2) rfl)) (by decide) (by decide)) q101a q101c (g := (mkF m 128 #[.val (.long ha), .second, .val (.long la), .second, .val (.long h2), .second, .val (.long l2), .second, .val (.int xm), .val (.long hbb), .second, .val (.long lbb), .second, .val (.int (((xm.toUInt32 >>> ((2 : Int32) &&& 31).toUInt32).toInt32) &&& (3 : Int32))), .val (.ref b1), .val (.ref b3), .val (.int (0 : Int32)), .val (.ref b98_0), .val (.int (0 : Int32)), .unset] [(.ref b98_0), (.ref b1)])) rfl (by rw [hml]; rfl) (Steps.refl _) (argsL := [(.ref b98_0)]) (rest := []) (lenOf pd_12 rfl) rfl (by show 2 * 0 + _ ≤ _; exact Nat.le_of_eq rfl) (hb hby at_128) (fun _ _ => ⟨rfl, rfl, (by decide : 3 + 0 ≤ _), (by decide : 5 + 0 ≤ _)⟩)
              dsimp only [Pt.U, Pt.locs, Pt.cells, Pt.slots] at X101 l101 y101 z101 st101 hQ101
              subst l101 y101 z101
              obtain ⟨rfl, Nq101, e101⟩ := hQ101
              have N101 := Fr.app N98 Nq101
              have f103 : Fld Z T98.heap b3 "com/example/xmitq/xmitq/MessageId" "high" "J" (.long hbb) := (p5_1.keep Kc98 nin0)
              have f104 : Fld Z T98.heap b1 "com/example/xmitq/xmitq/MessageId" "high" "J" (.long ha) := (((p2_1.ext E3).keep Kc5 (ninS ne3_b1 nin0)).keep Kc98 nin0)
              have f105 : Fld Z T98.heap b3 "com/example/xmitq/xmitq/MessageId" "low" "J" (.long lbb) := (p5_2.keep Kc98 nin0)
              have f106 : Fld Z T98.heap b1 "com/example/xmitq/xmitq/MessageId" "low" "J" (.long la) := (((p2_2.ext E3).keep Kc5 (ninS ne3_b1 nin0)).keep Kc98 nin0)
              have f108 : Exa Z T98.heap b3 "com/example/xmitq/xmitq/MessageId" := (p5_0.keep Kc98)
              obtain ⟨cq107, kq107, q107a, q107b, q107c⟩ := isOf hZ e101 f108
              obtain ⟨_, _, ⟨T107, L107, k107, n107⟩, -, X107, ⟨Lc107, hQ107, l107, y107, z107⟩, st107⟩ := X101.virtualBack hx (y := (⟨"com/example/xmitq/xmitq/MessageId", "equals", "(Ljava/lang/Object;)Z"⟩ : MethodName)) (z := (⟨"com/example/xmitq/xmitq/MessageId", "equals", "(Ljava/lang/Object;)Z"⟩ : MethodName)) hown (mvT hZ (hw _ (List.mem_of_getElem? (i := 13) rfl))) (mvT hZ (hw _ (List.mem_of_getElem? (i := 14) rfl))) (notFace_of_selects (args := #[]) (mvT hZ (hw _ (List.mem_of_getElem? (i := 16) rfl)))) (mvT hZ (hw _ (List.mem_of_getElem? (i := 16) rfl))) (mvT hZ (hw _ (List.mem_of_getElem? (i := 15) rfl))) (by decide) (backOf (W := 0) (own_eqYN l Z a0 hw [] b3 b1 hbb ha lbb la T98.heap n0 Z98 f102 f103 f104 (Eq.symm hc7) f105 f106 (Ne.symm hc9)) hZ (hw _ (List.mem_of_getElem? (i := 17) rfl)) (hw _ (List.mem_of_getElem? (i := 2) rfl)) (by decide) (by decide)) q107a q107c (g := (mkF m 152 #[.val (.long ha), .second, .val (.long la), .second, .val (.long h2), .second, .val (.long l2), .second, .val (.int xm), .val (.long hbb), .second, .val (.long lbb), .second, .val (.int (((xm.toUInt32 >>> ((2 : Int32) &&& 31).toUInt32).toInt32) &&& (3 : Int32))), .val (.ref b1), .val (.ref b3), .val (.int (0 : Int32)), .val (.ref b98_0), .val (.int (0 : Int32)), .val (.int (1 : Int32))] [(.ref b1), (.ref b3)])) rfl (by rw [hml]; rfl) (Steps.refl _) (argsL := [(.ref b1)]) (rest := []) (lenOf pd_12 rfl) rfl (by show 2 * 0 + _ ≤ _; exact Nat.le_of_eq rfl) (hb hby at_152) (fun _ _ => ⟨rfl, e101, (by decide : 3 + 0 ≤ _), (by decide : 5 + 0 ≤ _)⟩)
              dsimp only [Pt.U, Pt.locs, Pt.cells, Pt.slots] at X107 l107 y107 z107 st107 hQ107
              subst l107 y107 z107
              obtain ⟨rfl, Nq107, e107⟩ := hQ107
              have N107 := Fr.app N101 Nq107
              obtain ⟨cq109, kq109, q109a, q109b, q109c⟩ := isOf hZ e107 f102
              obtain ⟨_, _, ⟨T109, L109, k109, n109⟩, -, X109, ⟨Lc109, hQ109, l109, y109, z109⟩, st109⟩ := X107.virtualBack hx (y := (⟨"com/example/xmitq/xmitq/MessageId", "equals", "(Ljava/lang/Object;)Z"⟩ : MethodName)) (z := (⟨"com/example/xmitq/xmitq/MessageId", "equals", "(Ljava/lang/Object;)Z"⟩ : MethodName)) hown (mvT hZ (hw _ (List.mem_of_getElem? (i := 13) rfl))) (mvT hZ (hw _ (List.mem_of_getElem? (i := 14) rfl))) (notFace_of_selects (args := #[]) (mvT hZ (hw _ (List.mem_of_getElem? (i := 16) rfl)))) (mvT hZ (hw _ (List.mem_of_getElem? (i := 16) rfl))) (mvT hZ (hw _ (List.mem_of_getElem? (i := 15) rfl))) (by decide) (backOf (W := 0) (own_eqYY l Z a0 hw [] b1 b1 ha ha la la T98.heap n0 Z98 f102 f104 f104 (rfl : ha = ha) f106 f106 (rfl : la = la)) hZ (hw _ (List.mem_of_getElem? (i := 17) rfl)) (hw _ (List.mem_of_getElem? (i := 2) rfl)) (by decide) (by decide)) q109a q109c (g := (mkF m 176 #[.val (.long ha), .second, .val (.long la), .second, .val (.long h2), .second, .val (.long l2), .second, .val (.int xm), .val (.long hbb), .second, .val (.long lbb), .second, .val (.int (((xm.toUInt32 >>> ((2 : Int32) &&& 31).toUInt32).toInt32) &&& (3 : Int32))), .val (.ref b1), .val (.ref b3), .val (.int (0 : Int32)), .val (.ref b98_0), .val (.int (0 : Int32)), .val (.int (1 : Int32))] [(.ref b1), (.ref b1)])) rfl (by rw [hml]; rfl) (Steps.refl _) (argsL := [(.ref b1)]) (rest := []) (lenOf pd_12 rfl) rfl (by show 2 * 0 + _ ≤ _; exact Nat.le_of_eq rfl) (hb hby at_176) (fun _ _ => ⟨rfl, e107, (by decide : 3 + 0 ≤ _), (by decide : 5 + 0 ≤ _)⟩)
              dsimp only [Pt.U, Pt.locs, Pt.cells, Pt.slots] at X109 l109 y109 z109 st109 hQ109
              subst l109 y109 z109
              obtain ⟨rfl, Nq109, e109⟩ := hQ109
              have N109 := Fr.app N107 Nq109
              have go110 : ∀ t, Steps p.tables e below (T109.setTop (mkF m 191 #[.val (.long ha), .second, .val (.long la), .second, .val (.long h2), .second, .val (.long l2), .second, .val (.int xm), .val (.long hbb), .second, .val (.long lbb), .second, .val (.int (((xm.toUInt32 >>> ((2 : Int32) &&& 31).toUInt32).toInt32) &&& (3 : Int32))), .val (.ref b1), .val (.ref b3), .val (.int (0 : Int32)), .val (.ref b98_0), .val (.int (0 : Int32)), .val (.int (1 : Int32))] [(.int (1 : Int32))])) t → Steps p.tables e below st0 t := by
                intro t kt
                refine go82 t ?_
                refine st98 _ ?_
                show Steps p.tables e below (T98.setTop (mkF m 108 #[.val (.long ha), .second, .val (.long la), .second, .val (.long h2), .second, .val (.long l2), .second, .val (.int xm), .val (.long hbb), .second, .val (.long lbb), .second, .val (.int (((xm.toUInt32 >>> ((2 : Int32) &&& 31).toUInt32).toInt32) &&& (3 : Int32))), .val (.ref b1), .val (.ref b3), .val (.int (0 : Int32)), .unset, .unset, .unset] [(.ref b98_0)])) _
                refine XS.astore X98.here hx rfl (hb hby at_108) rfl rfl (l' := #[.val (.long ha), .second, .val (.long la), .second, .val (.long h2), .second, .val (.long l2), .second, .val (.int xm), .val (.long hbb), .second, .val (.long lbb), .second, .val (.int (((xm.toUInt32 >>> ((2 : Int32) &&& 31).toUInt32).toInt32) &&& (3 : Int32))), .val (.ref b1), .val (.ref b3), .val (.int (0 : Int32)), .val (.ref b98_0), .unset, .unset]) rfl ?_
                show Steps p.tables e below (T98.setTop (mkF m 110 #[.val (.long ha), .second, .val (.long la), .second, .val (.long h2), .second, .val (.long l2), .second, .val (.int xm), .val (.long hbb), .second, .val (.long lbb), .second, .val (.int (((xm.toUInt32 >>> ((2 : Int32) &&& 31).toUInt32).toInt32) &&& (3 : Int32))), .val (.ref b1), .val (.ref b3), .val (.int (0 : Int32)), .val (.ref b98_0), .unset, .unset] [])) _
                refine XS.iconst X98.here hx rfl (hb hby at_110) ?_
                show Steps p.tables e below (T98.setTop (mkF m 111 #[.val (.long ha), .second, .val (.long la), .second, .val (.long h2), .second, .val (.long l2), .second, .val (.int xm), .val (.long hbb), .second, .val (.long lbb), .second, .val (.int (((xm.toUInt32 >>> ((2 : Int32) &&& 31).toUInt32).toInt32) &&& (3 : Int32))), .val (.ref b1), .val (.ref b3), .val (.int (0 : Int32)), .val (.ref b98_0), .unset, .unset] [(.int (0 : Int32))])) _
                refine XS.istore X98.here hx rfl (hb hby at_111) rfl (l' := #[.val (.long ha), .second, .val (.long la), .second, .val (.long h2), .second, .val (.long l2), .second, .val (.int xm), .val (.long hbb), .second, .val (.long lbb), .second, .val (.int (((xm.toUInt32 >>> ((2 : Int32) &&& 31).toUInt32).toInt32) &&& (3 : Int32))), .val (.ref b1), .val (.ref b3), .val (.int (0 : Int32)), .val (.ref b98_0), .val (.int (0 : Int32)), .unset]) rfl ?_
                show Steps p.tables e below (T98.setTop (mkF m 113 #[.val (.long ha), .second, .val (.long la), .second, .val (.long h2), .second, .val (.long l2), .second, .val (.int xm), .val (.long hbb), .second, .val (.long lbb), .second, .val (.int (((xm.toUInt32 >>> ((2 : Int32) &&& 31).toUInt32).toInt32) &&& (3 : Int32))), .val (.ref b1), .val (.ref b3), .val (.int (0 : Int32)), .val (.ref b98_0), .val (.int (0 : Int32)), .unset] [])) _
                refine XS.goto X98.here hx rfl (pc0 := 113) (pc' := 124) rfl (hb hby at_113) (by decide) (by decide) ?_
                show Steps p.tables e below (T98.setTop (mkF m 124 #[.val (.long ha), .second, .val (.long la), .second, .val (.long h2), .second, .val (.long l2), .second, .val (.int xm), .val (.long hbb), .second, .val (.long lbb), .second, .val (.int (((xm.toUInt32 >>> ((2 : Int32) &&& 31).toUInt32).toInt32) &&& (3 : Int32))), .val (.ref b1), .val (.ref b3), .val (.int (0 : Int32)), .val (.ref b98_0), .val (.int (0 : Int32)), .unset] [])) _
                refine XS.aload X98.here hx rfl (hb hby at_124) rfl rfl ?_
                show Steps p.tables e below (T98.setTop (mkF m 126 #[.val (.long ha), .second, .val (.long la), .second, .val (.long h2), .second, .val (.long l2), .second, .val (.int xm), .val (.long hbb), .second, .val (.long lbb), .second, .val (.int (((xm.toUInt32 >>> ((2 : Int32) &&& 31).toUInt32).toInt32) &&& (3 : Int32))), .val (.ref b1), .val (.ref b3), .val (.int (0 : Int32)), .val (.ref b98_0), .val (.int (0 : Int32)), .unset] [(.ref b1)])) _
                refine XS.aload X98.here hx rfl (hb hby at_126) rfl rfl ?_
                show Steps p.tables e below (T98.setTop (mkF m 128 #[.val (.long ha), .second, .val (.long la), .second, .val (.long h2), .second, .val (.long l2), .second, .val (.int xm), .val (.long hbb), .second, .val (.long lbb), .second, .val (.int (((xm.toUInt32 >>> ((2 : Int32) &&& 31).toUInt32).toInt32) &&& (3 : Int32))), .val (.ref b1), .val (.ref b3), .val (.int (0 : Int32)), .val (.ref b98_0), .val (.int (0 : Int32)), .unset] [(.ref b98_0), (.ref b1)])) _
                refine st101.trans ?_
                show Steps p.tables e below (T101.setTop (mkF m 131 #[.val (.long ha), .second, .val (.long la), .second, .val (.long h2), .second, .val (.long l2), .second, .val (.int xm), .val (.long hbb), .second, .val (.long lbb), .second, .val (.int (((xm.toUInt32 >>> ((2 : Int32) &&& 31).toUInt32).toInt32) &&& (3 : Int32))), .val (.ref b1), .val (.ref b3), .val (.int (0 : Int32)), .val (.ref b98_0), .val (.int (0 : Int32)), .unset] [(.int (0 : Int32))])) _
                refine XS.iload X101.here hx rfl (hb hby at_131) rfl ?_
                show Steps p.tables e below (T101.setTop (mkF m 133 #[.val (.long ha), .second, .val (.long la), .second, .val (.long h2), .second, .val (.long l2), .second, .val (.int xm), .val (.long hbb), .second, .val (.long lbb), .second, .val (.int (((xm.toUInt32 >>> ((2 : Int32) &&& 31).toUInt32).toInt32) &&& (3 : Int32))), .val (.ref b1), .val (.ref b3), .val (.int (0 : Int32)), .val (.ref b98_0), .val (.int (0 : Int32)), .unset] [(.int (0 : Int32)), (.int (0 : Int32))])) _
                refine XS.icmpNo X101.here hx rfl (hb hby at_133) rfl (teq (by decide : (0 : Int32) = (0 : Int32))).2 ?_
                show Steps p.tables e below (T101.setTop (mkF m 136 #[.val (.long ha), .second, .val (.long la), .second, .val (.long h2), .second, .val (.long l2), .second, .val (.int xm), .val (.long hbb), .second, .val (.long lbb), .second, .val (.int (((xm.toUInt32 >>> ((2 : Int32) &&& 31).toUInt32).toInt32) &&& (3 : Int32))), .val (.ref b1), .val (.ref b3), .val (.int (0 : Int32)), .val (.ref b98_0), .val (.int (0 : Int32)), .unset] [])) _
                refine XS.iconst X101.here hx rfl (hb hby at_136) ?_
                show Steps p.tables e below (T101.setTop (mkF m 137 #[.val (.long ha), .second, .val (.long la), .second, .val (.long h2), .second, .val (.long l2), .second, .val (.int xm), .val (.long hbb), .second, .val (.long lbb), .second, .val (.int (((xm.toUInt32 >>> ((2 : Int32) &&& 31).toUInt32).toInt32) &&& (3 : Int32))), .val (.ref b1), .val (.ref b3), .val (.int (0 : Int32)), .val (.ref b98_0), .val (.int (0 : Int32)), .unset] [(.int (1 : Int32))])) _
                refine XS.goto X101.here hx rfl (pc0 := 137) (pc' := 141) rfl (hb hby at_137) (by decide) (by decide) ?_
                show Steps p.tables e below (T101.setTop (mkF m 141 #[.val (.long ha), .second, .val (.long la), .second, .val (.long h2), .second, .val (.long l2), .second, .val (.int xm), .val (.long hbb), .second, .val (.long lbb), .second, .val (.int (((xm.toUInt32 >>> ((2 : Int32) &&& 31).toUInt32).toInt32) &&& (3 : Int32))), .val (.ref b1), .val (.ref b3), .val (.int (0 : Int32)), .val (.ref b98_0), .val (.int (0 : Int32)), .unset] [(.int (1 : Int32))])) _
                refine XS.istore X101.here hx rfl (hb hby at_141) rfl (l' := #[.val (.long ha), .second, .val (.long la), .second, .val (.long h2), .second, .val (.long l2), .second, .val (.int xm), .val (.long hbb), .second, .val (.long lbb), .second, .val (.int (((xm.toUInt32 >>> ((2 : Int32) &&& 31).toUInt32).toInt32) &&& (3 : Int32))), .val (.ref b1), .val (.ref b3), .val (.int (0 : Int32)), .val (.ref b98_0), .val (.int (0 : Int32)), .val (.int (1 : Int32))]) rfl ?_
                show Steps p.tables e below (T101.setTop (mkF m 143 #[.val (.long ha), .second, .val (.long la), .second, .val (.long h2), .second, .val (.long l2), .second, .val (.int xm), .val (.long hbb), .second, .val (.long lbb), .second, .val (.int (((xm.toUInt32 >>> ((2 : Int32) &&& 31).toUInt32).toInt32) &&& (3 : Int32))), .val (.ref b1), .val (.ref b3), .val (.int (0 : Int32)), .val (.ref b98_0), .val (.int (0 : Int32)), .val (.int (1 : Int32))] [])) _
                refine XS.iload X101.here hx rfl (hb hby at_143) rfl ?_
                show Steps p.tables e below (T101.setTop (mkF m 145 #[.val (.long ha), .second, .val (.long la), .second, .val (.long h2), .second, .val (.long l2), .second, .val (.int xm), .val (.long hbb), .second, .val (.long lbb), .second, .val (.int (((xm.toUInt32 >>> ((2 : Int32) &&& 31).toUInt32).toInt32) &&& (3 : Int32))), .val (.ref b1), .val (.ref b3), .val (.int (0 : Int32)), .val (.ref b98_0), .val (.int (0 : Int32)), .val (.int (1 : Int32))] [(.int (1 : Int32))])) _
                refine XS.ifNo X101.here hx rfl (hb hby at_145) rfl ((if0 _ _).trans (feq (by decide : ¬ ((1 : Int32) = (0 : Int32)))).1) ?_
                show Steps p.tables e below (T101.setTop (mkF m 148 #[.val (.long ha), .second, .val (.long la), .second, .val (.long h2), .second, .val (.long l2), .second, .val (.int xm), .val (.long hbb), .second, .val (.long lbb), .second, .val (.int (((xm.toUInt32 >>> ((2 : Int32) &&& 31).toUInt32).toInt32) &&& (3 : Int32))), .val (.ref b1), .val (.ref b3), .val (.int (0 : Int32)), .val (.ref b98_0), .val (.int (0 : Int32)), .val (.int (1 : Int32))] [])) _
                refine XS.aload X101.here hx rfl (hb hby at_148) rfl rfl ?_
                show Steps p.tables e below (T101.setTop (mkF m 150 #[.val (.long ha), .second, .val (.long la), .second, .val (.long h2), .second, .val (.long l2), .second, .val (.int xm), .val (.long hbb), .second, .val (.long lbb), .second, .val (.int (((xm.toUInt32 >>> ((2 : Int32) &&& 31).toUInt32).toInt32) &&& (3 : Int32))), .val (.ref b1), .val (.ref b3), .val (.int (0 : Int32)), .val (.ref b98_0), .val (.int (0 : Int32)), .val (.int (1 : Int32))] [(.ref b3)])) _
                refine XS.aload X101.here hx rfl (hb hby at_150) rfl rfl ?_
                show Steps p.tables e below (T101.setTop (mkF m 152 #[.val (.long ha), .second, .val (.long la), .second, .val (.long h2), .second, .val (.long l2), .second, .val (.int xm), .val (.long hbb), .second, .val (.long lbb), .second, .val (.int (((xm.toUInt32 >>> ((2 : Int32) &&& 31).toUInt32).toInt32) &&& (3 : Int32))), .val (.ref b1), .val (.ref b3), .val (.int (0 : Int32)), .val (.ref b98_0), .val (.int (0 : Int32)), .val (.int (1 : Int32))] [(.ref b1), (.ref b3)])) _
                refine st107.trans ?_
                show Steps p.tables e below (T107.setTop (mkF m 155 #[.val (.long ha), .second, .val (.long la), .second, .val (.long h2), .second, .val (.long l2), .second, .val (.int xm), .val (.long hbb), .second, .val (.long lbb), .second, .val (.int (((xm.toUInt32 >>> ((2 : Int32) &&& 31).toUInt32).toInt32) &&& (3 : Int32))), .val (.ref b1), .val (.ref b3), .val (.int (0 : Int32)), .val (.ref b98_0), .val (.int (0 : Int32)), .val (.int (1 : Int32))] [(.int (0 : Int32))])) _
                refine XS.iload X107.here hx rfl (hb hby at_155) rfl ?_
                show Steps p.tables e below (T107.setTop (mkF m 157 #[.val (.long ha), .second, .val (.long la), .second, .val (.long h2), .second, .val (.long l2), .second, .val (.int xm), .val (.long hbb), .second, .val (.long lbb), .second, .val (.int (((xm.toUInt32 >>> ((2 : Int32) &&& 31).toUInt32).toInt32) &&& (3 : Int32))), .val (.ref b1), .val (.ref b3), .val (.int (0 : Int32)), .val (.ref b98_0), .val (.int (0 : Int32)), .val (.int (1 : Int32))] [(.int (0 : Int32)), (.int (0 : Int32))])) _
                refine XS.icmpNo X107.here hx rfl (hb hby at_157) rfl (teq (by decide : (0 : Int32) = (0 : Int32))).2 ?_
                show Steps p.tables e below (T107.setTop (mkF m 160 #[.val (.long ha), .second, .val (.long la), .second, .val (.long h2), .second, .val (.long l2), .second, .val (.int xm), .val (.long hbb), .second, .val (.long lbb), .second, .val (.int (((xm.toUInt32 >>> ((2 : Int32) &&& 31).toUInt32).toInt32) &&& (3 : Int32))), .val (.ref b1), .val (.ref b3), .val (.int (0 : Int32)), .val (.ref b98_0), .val (.int (0 : Int32)), .val (.int (1 : Int32))] [])) _
                refine XS.iconst X107.here hx rfl (hb hby at_160) ?_
                show Steps p.tables e below (T107.setTop (mkF m 161 #[.val (.long ha), .second, .val (.long la), .second, .val (.long h2), .second, .val (.long l2), .second, .val (.int xm), .val (.long hbb), .second, .val (.long lbb), .second, .val (.int (((xm.toUInt32 >>> ((2 : Int32) &&& 31).toUInt32).toInt32) &&& (3 : Int32))), .val (.ref b1), .val (.ref b3), .val (.int (0 : Int32)), .val (.ref b98_0), .val (.int (0 : Int32)), .val (.int (1 : Int32))] [(.int (1 : Int32))])) _
                refine XS.goto X107.here hx rfl (pc0 := 161) (pc' := 165) rfl (hb hby at_161) (by decide) (by decide) ?_
                show Steps p.tables e below (T107.setTop (mkF m 165 #[.val (.long ha), .second, .val (.long la), .second, .val (.long h2), .second, .val (.long l2), .second, .val (.int xm), .val (.long hbb), .second, .val (.long lbb), .second, .val (.int (((xm.toUInt32 >>> ((2 : Int32) &&& 31).toUInt32).toInt32) &&& (3 : Int32))), .val (.ref b1), .val (.ref b3), .val (.int (0 : Int32)), .val (.ref b98_0), .val (.int (0 : Int32)), .val (.int (1 : Int32))] [(.int (1 : Int32))])) _
                refine XS.istore X107.here hx rfl (hb hby at_165) rfl (l' := #[.val (.long ha), .second, .val (.long la), .second, .val (.long h2), .second, .val (.long l2), .second, .val (.int xm), .val (.long hbb), .second, .val (.long lbb), .second, .val (.int (((xm.toUInt32 >>> ((2 : Int32) &&& 31).toUInt32).toInt32) &&& (3 : Int32))), .val (.ref b1), .val (.ref b3), .val (.int (0 : Int32)), .val (.ref b98_0), .val (.int (0 : Int32)), .val (.int (1 : Int32))]) rfl ?_
                show Steps p.tables e below (T107.setTop (mkF m 167 #[.val (.long ha), .second, .val (.long la), .second, .val (.long h2), .second, .val (.long l2), .second, .val (.int xm), .val (.long hbb), .second, .val (.long lbb), .second, .val (.int (((xm.toUInt32 >>> ((2 : Int32) &&& 31).toUInt32).toInt32) &&& (3 : Int32))), .val (.ref b1), .val (.ref b3), .val (.int (0 : Int32)), .val (.ref b98_0), .val (.int (0 : Int32)), .val (.int (1 : Int32))] [])) _
                refine XS.iload X107.here hx rfl (hb hby at_167) rfl ?_
                show Steps p.tables e below (T107.setTop (mkF m 169 #[.val (.long ha), .second, .val (.long la), .second, .val (.long h2), .second, .val (.long l2), .second, .val (.int xm), .val (.long hbb), .second, .val (.long lbb), .second, .val (.int (((xm.toUInt32 >>> ((2 : Int32) &&& 31).toUInt32).toInt32) &&& (3 : Int32))), .val (.ref b1), .val (.ref b3), .val (.int (0 : Int32)), .val (.ref b98_0), .val (.int (0 : Int32)), .val (.int (1 : Int32))] [(.int (1 : Int32))])) _
                refine XS.ifNo X107.here hx rfl (hb hby at_169) rfl ((if0 _ _).trans (feq (by decide : ¬ ((1 : Int32) = (0 : Int32)))).1) ?_
                show Steps p.tables e below (T107.setTop (mkF m 172 #[.val (.long ha), .second, .val (.long la), .second, .val (.long h2), .second, .val (.long l2), .second, .val (.int xm), .val (.long hbb), .second, .val (.long lbb), .second, .val (.int (((xm.toUInt32 >>> ((2 : Int32) &&& 31).toUInt32).toInt32) &&& (3 : Int32))), .val (.ref b1), .val (.ref b3), .val (.int (0 : Int32)), .val (.ref b98_0), .val (.int (0 : Int32)), .val (.int (1 : Int32))] [])) _
                refine XS.aload X107.here hx rfl (hb hby at_172) rfl rfl ?_
                show Steps p.tables e below (T107.setTop (mkF m 174 #[.val (.long ha), .second, .val (.long la), .second, .val (.long h2), .second, .val (.long l2), .second, .val (.int xm), .val (.long hbb), .second, .val (.long lbb), .second, .val (.int (((xm.toUInt32 >>> ((2 : Int32) &&& 31).toUInt32).toInt32) &&& (3 : Int32))), .val (.ref b1), .val (.ref b3), .val (.int (0 : Int32)), .val (.ref b98_0), .val (.int (0 : Int32)), .val (.int (1 : Int32))] [(.ref b1)])) _
                refine XS.aload X107.here hx rfl (hb hby at_174) rfl rfl ?_
                show Steps p.tables e below (T107.setTop (mkF m 176 #[.val (.long ha), .second, .val (.long la), .second, .val (.long h2), .second, .val (.long l2), .second, .val (.int xm), .val (.long hbb), .second, .val (.long lbb), .second, .val (.int (((xm.toUInt32 >>> ((2 : Int32) &&& 31).toUInt32).toInt32) &&& (3 : Int32))), .val (.ref b1), .val (.ref b3), .val (.int (0 : Int32)), .val (.ref b98_0), .val (.int (0 : Int32)), .val (.int (1 : Int32))] [(.ref b1), (.ref b1)])) _
                refine st109.trans ?_
                show Steps p.tables e below (T109.setTop (mkF m 179 #[.val (.long ha), .second, .val (.long la), .second, .val (.long h2), .second, .val (.long l2), .second, .val (.int xm), .val (.long hbb), .second, .val (.long lbb), .second, .val (.int (((xm.toUInt32 >>> ((2 : Int32) &&& 31).toUInt32).toInt32) &&& (3 : Int32))), .val (.ref b1), .val (.ref b3), .val (.int (0 : Int32)), .val (.ref b98_0), .val (.int (0 : Int32)), .val (.int (1 : Int32))] [(.int (1 : Int32))])) _
                refine XS.ifNo X109.here hx rfl (hb hby at_179) rfl ((if0 _ _).trans (feq (by decide : ¬ ((1 : Int32) = (0 : Int32)))).1) ?_
                show Steps p.tables e below (T109.setTop (mkF m 182 #[.val (.long ha), .second, .val (.long la), .second, .val (.long h2), .second, .val (.long l2), .second, .val (.int xm), .val (.long hbb), .second, .val (.long lbb), .second, .val (.int (((xm.toUInt32 >>> ((2 : Int32) &&& 31).toUInt32).toInt32) &&& (3 : Int32))), .val (.ref b1), .val (.ref b3), .val (.int (0 : Int32)), .val (.ref b98_0), .val (.int (0 : Int32)), .val (.int (1 : Int32))] [])) _
                refine XS.iconst X109.here hx rfl (hb hby at_182) ?_
                show Steps p.tables e below (T109.setTop (mkF m 183 #[.val (.long ha), .second, .val (.long la), .second, .val (.long h2), .second, .val (.long l2), .second, .val (.int xm), .val (.long hbb), .second, .val (.long lbb), .second, .val (.int (((xm.toUInt32 >>> ((2 : Int32) &&& 31).toUInt32).toInt32) &&& (3 : Int32))), .val (.ref b1), .val (.ref b3), .val (.int (0 : Int32)), .val (.ref b98_0), .val (.int (0 : Int32)), .val (.int (1 : Int32))] [(.int (1 : Int32))])) _
                refine XS.goto X109.here hx rfl (pc0 := 183) (pc' := 187) rfl (hb hby at_183) (by decide) (by decide) ?_
                show Steps p.tables e below (T109.setTop (mkF m 187 #[.val (.long ha), .second, .val (.long la), .second, .val (.long h2), .second, .val (.long l2), .second, .val (.int xm), .val (.long hbb), .second, .val (.long lbb), .second, .val (.int (((xm.toUInt32 >>> ((2 : Int32) &&& 31).toUInt32).toInt32) &&& (3 : Int32))), .val (.ref b1), .val (.ref b3), .val (.int (0 : Int32)), .val (.ref b98_0), .val (.int (0 : Int32)), .val (.int (1 : Int32))] [(.int (1 : Int32))])) _
                refine XS.istore X109.here hx rfl (hb hby at_187) rfl (l' := #[.val (.long ha), .second, .val (.long la), .second, .val (.long h2), .second, .val (.long l2), .second, .val (.int xm), .val (.long hbb), .second, .val (.long lbb), .second, .val (.int (((xm.toUInt32 >>> ((2 : Int32) &&& 31).toUInt32).toInt32) &&& (3 : Int32))), .val (.ref b1), .val (.ref b3), .val (.int (0 : Int32)), .val (.ref b98_0), .val (.int (0 : Int32)), .val (.int (1 : Int32))]) rfl ?_
                show Steps p.tables e below (T109.setTop (mkF m 189 #[.val (.long ha), .second, .val (.long la), .second, .val (.long h2), .second, .val (.long l2), .second, .val (.int xm), .val (.long hbb), .second, .val (.long lbb), .second, .val (.int (((xm.toUInt32 >>> ((2 : Int32) &&& 31).toUInt32).toInt32) &&& (3 : Int32))), .val (.ref b1), .val (.ref b3), .val (.int (0 : Int32)), .val (.ref b98_0), .val (.int (0 : Int32)), .val (.int (1 : Int32))] [])) _
                refine XS.iload X109.here hx rfl (hb hby at_189) rfl ?_
                show Steps p.tables e below (T109.setTop (mkF m 191 #[.val (.long ha), .second, .val (.long la), .second, .val (.long h2), .second, .val (.long l2), .second, .val (.int xm), .val (.long hbb), .second, .val (.long lbb), .second, .val (.int (((xm.toUInt32 >>> ((2 : Int32) &&& 31).toUInt32).toInt32) &&& (3 : Int32))), .val (.ref b1), .val (.ref b3), .val (.int (0 : Int32)), .val (.ref b98_0), .val (.int (0 : Int32)), .val (.int (1 : Int32))] [(.int (1 : Int32))])) _
                exact kt
              obtain ⟨fs, hr, hrun, hended, hW, hsame⟩ := X109.leave (v := some (.int (1 : Int32))) (fun h => by rw [hret] at h; cases h) hlk
              refine ⟨_, _, go110 _ ?_, hrun, hended, _, _, rfl, ⟨rfl, N109⟩, ⟨_, rfl⟩, hW, hsame.mono (by decide) (by decide)⟩
              exact retN X109 hx (t := .boolean) hret (by simp) (hb hby at_191) hr
            · skip
              have f111 : Sta Z T5.heap "java/lang/Long$LongCache" "cache" "[Ljava/lang/Long;" (.ref ca) := (own_sta_keep ((own_sta_keep (P0.ext E1) Kc2 (allS (P := fun x => ∀ c, h1[x]? = some c → c.vm.isStatics = false) (own_nost A1) all0)).ext E3) Kc5 (allS (P := fun x => ∀ c, h3[x]? = some c → c.vm.isStatics = false) (own_nost A3) all0))
              have f112 : Arv Z T5.heap ca kc (.object "java/lang/Long") (256 : Int32) vs .null := ((f4.ext E3).keep Kc5 (ninS ne3_ca nin0))
              have f113 : own_AllL Z T5.heap vs 256 "java/lang/Long" := ((((P2.ext E1).keep Kc2).ext E3).keep Kc5)
              obtain ⟨_, _, ⟨T114, L114, k114, n114⟩, -, X114, ⟨Lc114, hQ114, l114, y114, z114⟩, st114⟩ := Jvm.LawKit.callS X5 hx (y := (⟨"java/lang/Long", "valueOf", "(J)Ljava/lang/Long;"⟩ : MethodName)) hown (mvT hZ (hw _ (List.mem_of_getElem? (i := 20) rfl))) (mvT hZ (hw _ (List.mem_of_getElem? (i := 21) rfl))) (mvT hZ (hw _ (List.mem_of_getElem? (i := 22) rfl))) (mvT hZ (hw _ (List.mem_of_getElem? (i := 23) rfl))) (by decide) (backOf (W := 0) (own_vIn l Z a0 hw [] ha ca kc vs T5.heap n0 Z5 hc83 hc97 f111 f112 f113) hZ (hw _ (List.mem_of_getElem? (i := 23) rfl)) (hw _ (List.mem_of_getElem? (i := 22) rfl)) (by decide) (by decide)) (g := (mkF m 105 #[.val (.long ha), .second, .val (.long la), .second, .val (.long h2), .second, .val (.long l2), .second, .val (.int xm), .val (.long hbb), .second, .val (.long lbb), .second, .val (.int (((xm.toUInt32 >>> ((2 : Int32) &&& 31).toUInt32).toInt32) &&& (3 : Int32))), .val (.ref b1), .val (.ref b3), .val (.int (0 : Int32)), .unset, .unset, .unset] [(.long ha)])) rfl (by rw [hml]; rfl) (argsL := [(.long ha)]) (rest := []) (lenOf pd_13 rfl) rfl (by show 2 * 0 + _ ≤ _; exact Nat.le_of_eq rfl) (hb hby at_105) (fun _ _ => ⟨rfl, rfl, (by decide : 2 + 0 ≤ _), (by decide : 4 + 0 ≤ _)⟩)
              dsimp only [Pt.U, Pt.locs, Pt.cells, Pt.slots] at X114 l114 y114 z114 st114 hQ114
              subst l114 y114 z114
              obtain ⟨Nq114, y114_0, rfl, Kc114, p114_0⟩ := hQ114
              have N114 := Fr.app N5 Nq114
              have Z114 : n0 ≤ T114.heap.size := Nat.le_trans Z5 Kc114.1
              have f116 : Exa Z T114.heap b1 "com/example/xmitq/xmitq/MessageId" := (((p2_0.ext E3).keep Kc5).keep Kc114)
              obtain ⟨cq115, kq115, q115a, q115b, q115c⟩ := isOf hZ rfl f116
              obtain ⟨_, _, ⟨T115, L115, k115, n115⟩, -, X115, ⟨Lc115, hQ115, l115, y115, z115⟩, st115⟩ := X114.virtualBack hx (y := (⟨"com/example/xmitq/xmitq/MessageId", "equals", "(Ljava/lang/Object;)Z"⟩ : MethodName)) (z := (⟨"com/example/xmitq/xmitq/MessageId", "equals", "(Ljava/lang/Object;)Z"⟩ : MethodName)) hown (mvT hZ (hw _ (List.mem_of_getElem? (i := 13) rfl))) (mvT hZ (hw _ (List.mem_of_getElem? (i := 14) rfl))) (notFace_of_selects (args := #[]) (mvT hZ (hw _ (List.mem_of_getElem? (i := 16) rfl)))) (mvT hZ (hw _ (List.mem_of_getElem? (i := 16) rfl))) (mvT hZ (hw _ (List.mem_of_getElem? (i := 15) rfl))) (by decide) (backOf (W := 0) (own_eqLong l Z a0 hw [] b1 y114_0 T114.heap n0 Z114 p114_0) hZ (hw _ (List.mem_of_getElem? (i := 17) rfl)) (hw _ (List.mem_of_getElem? (i := 2) rfl)) (by decide) (by decide)) q115a q115c (g := (mkF m 128 #[.val (.long ha), .second, .val (.long la), .second, .val (.long h2), .second, .val (.long l2), .second, .val (.int xm), .val (.long hbb), .second, .val (.long lbb), .second, .val (.int (((xm.toUInt32 >>> ((2 : Int32) &&& 31).toUInt32).toInt32) &&& (3 : Int32))), .val (.ref b1), .val (.ref b3), .val (.int (0 : Int32)), .val (.ref y114_0), .val (.int (0 : Int32)), .unset] [(.ref y114_0), (.ref b1)])) rfl (by rw [hml]; rfl) (Steps.refl _) (argsL := [(.ref y114_0)]) (rest := []) (lenOf pd_12 rfl) rfl (by show 2 * 0 + _ ≤ _; exact Nat.le_of_eq rfl) (hb hby at_128) (fun _ _ => ⟨rfl, rfl, (by decide : 2 + 0 ≤ _), (by decide : 4 + 0 ≤ _)⟩)
              dsimp only [Pt.U, Pt.locs, Pt.cells, Pt.slots] at X115 l115 y115 z115 st115 hQ115
              subst l115 y115 z115
              obtain ⟨rfl, Nq115, e115⟩ := hQ115
              have N115 := Fr.app N114 Nq115
              have f117 : Fld Z T114.heap b3 "com/example/xmitq/xmitq/MessageId" "high" "J" (.long hbb) := (p5_1.keep Kc114 nin0)
              have f118 : Fld Z T114.heap b1 "com/example/xmitq/xmitq/MessageId" "high" "J" (.long ha) := (((p2_1.ext E3).keep Kc5 (ninS ne3_b1 nin0)).keep Kc114 nin0)
              have f119 : Fld Z T114.heap b3 "com/example/xmitq/xmitq/MessageId" "low" "J" (.long lbb) := (p5_2.keep Kc114 nin0)
              have f120 : Fld Z T114.heap b1 "com/example/xmitq/xmitq/MessageId" "low" "J" (.long la) := (((p2_2.ext E3).keep Kc5 (ninS ne3_b1 nin0)).keep Kc114 nin0)
              have f122 : Exa Z T114.heap b3 "com/example/xmitq/xmitq/MessageId" := (p5_0.keep Kc114)
              obtain ⟨cq121, kq121, q121a, q121b, q121c⟩ := isOf hZ e115 f122
              obtain ⟨_, _, ⟨T121, L121, k121, n121⟩, -, X121, ⟨Lc121, hQ121, l121, y121, z121⟩, st121⟩ := X115.virtualBack hx (y := (⟨"com/example/xmitq/xmitq/MessageId", "equals", "(Ljava/lang/Object;)Z"⟩ : MethodName)) (z := (⟨"com/example/xmitq/xmitq/MessageId", "equals", "(Ljava/lang/Object;)Z"⟩ : MethodName)) hown (mvT hZ (hw _ (List.mem_of_getElem? (i := 13) rfl))) (mvT hZ (hw _ (List.mem_of_getElem? (i := 14) rfl))) (notFace_of_selects (args := #[]) (mvT hZ (hw _ (List.mem_of_getElem? (i := 16) rfl)))) (mvT hZ (hw _ (List.mem_of_getElem? (i := 16) rfl))) (mvT hZ (hw _ (List.mem_of_getElem? (i := 15) rfl))) (by decide) (backOf (W := 0) (own_eqYN l Z a0 hw [] b3 b1 hbb ha lbb la T114.heap n0 Z114 f116 f117 f118 (Eq.symm hc7) f119 f120 (Ne.symm hc9)) hZ (hw _ (List.mem_of_getElem? (i := 17) rfl)) (hw _ (List.mem_of_getElem? (i := 2) rfl)) (by decide) (by decide)) q121a q121c (g := (mkF m 152 #[.val (.long ha), .second, .val (.long la), .second, .val (.long h2), .second, .val (.long l2), .second, .val (.int xm), .val (.long hbb), .second, .val (.long lbb), .second, .val (.int (((xm.toUInt32 >>> ((2 : Int32) &&& 31).toUInt32).toInt32) &&& (3 : Int32))), .val (.ref b1), .val (.ref b3), .val (.int (0 : Int32)), .val (.ref y114_0), .val (.int (0 : Int32)), .val (.int (1 : Int32))] [(.ref b1), (.ref b3)])) rfl (by rw [hml]; rfl) (Steps.refl _) (argsL := [(.ref b1)]) (rest := []) (lenOf pd_12 rfl) rfl (by show 2 * 0 + _ ≤ _; exact Nat.le_of_eq rfl) (hb hby at_152) (fun _ _ => ⟨rfl, e115, (by decide : 2 + 0 ≤ _), (by decide : 4 + 0 ≤ _)⟩)
              dsimp only [Pt.U, Pt.locs, Pt.cells, Pt.slots] at X121 l121 y121 z121 st121 hQ121
              subst l121 y121 z121
              obtain ⟨rfl, Nq121, e121⟩ := hQ121
              have N121 := Fr.app N115 Nq121
              obtain ⟨cq123, kq123, q123a, q123b, q123c⟩ := isOf hZ e121 f116
              obtain ⟨_, _, ⟨T123, L123, k123, n123⟩, -, X123, ⟨Lc123, hQ123, l123, y123, z123⟩, st123⟩ := X121.virtualBack hx (y := (⟨"com/example/xmitq/xmitq/MessageId", "equals", "(Ljava/lang/Object;)Z"⟩ : MethodName)) (z := (⟨"com/example/xmitq/xmitq/MessageId", "equals", "(Ljava/lang/Object;)Z"⟩ : MethodName)) hown (mvT hZ (hw _ (List.mem_of_getElem? (i := 13) rfl))) (mvT hZ (hw _ (List.mem_of_getElem? (i := 14) rfl))) (notFace_of_selects (args := #[]) (mvT hZ (hw _ (List.mem_of_getElem? (i := 16) rfl)))) (mvT hZ (hw _ (List.mem_of_getElem? (i := 16) rfl))) (mvT hZ (hw _ (List.mem_of_getElem? (i := 15) rfl))) (by decide) (backOf (W := 0) (own_eqYY l Z a0 hw [] b1 b1 ha ha la la T114.heap n0 Z114 f116 f118 f118 (rfl : ha = ha) f120 f120 (rfl : la = la)) hZ (hw _ (List.mem_of_getElem? (i := 17) rfl)) (hw _ (List.mem_of_getElem? (i := 2) rfl)) (by decide) (by decide)) q123a q123c (g := (mkF m 176 #[.val (.long ha), .second, .val (.long la), .second, .val (.long h2), .second, .val (.long l2), .second, .val (.int xm), .val (.long hbb), .second, .val (.long lbb), .second, .val (.int (((xm.toUInt32 >>> ((2 : Int32) &&& 31).toUInt32).toInt32) &&& (3 : Int32))), .val (.ref b1), .val (.ref b3), .val (.int (0 : Int32)), .val (.ref y114_0), .val (.int (0 : Int32)), .val (.int (1 : Int32))] [(.ref b1), (.ref b1)])) rfl (by rw [hml]; rfl) (Steps.refl _) (argsL := [(.ref b1)]) (rest := []) (lenOf pd_12 rfl) rfl (by show 2 * 0 + _ ≤ _; exact Nat.le_of_eq rfl) (hb hby at_176) (fun _ _ => ⟨rfl, e121, (by decide : 2 + 0 ≤ _), (by decide : 4 + 0 ≤ _)⟩)
              dsimp only [Pt.U, Pt.locs, Pt.cells, Pt.slots] at X123 l123 y123 z123 st123 hQ123
              subst l123 y123 z123
              obtain ⟨rfl, Nq123, e123⟩ := hQ123
              have N123 := Fr.app N121 Nq123
              have go124 : ∀ t, Steps p.tables e below (T123.setTop (mkF m 191 #[.val (.long ha), .second, .val (.long la), .second, .val (.long h2), .second, .val (.long l2), .second, .val (.int xm), .val (.long hbb), .second, .val (.long lbb), .second, .val (.int (((xm.toUInt32 >>> ((2 : Int32) &&& 31).toUInt32).toInt32) &&& (3 : Int32))), .val (.ref b1), .val (.ref b3), .val (.int (0 : Int32)), .val (.ref y114_0), .val (.int (0 : Int32)), .val (.int (1 : Int32))] [(.int (1 : Int32))])) t → Steps p.tables e below st0 t := by
                intro t kt
                refine go82 t ?_
                refine st114 _ ?_
                show Steps p.tables e below (T114.setTop (mkF m 108 #[.val (.long ha), .second, .val (.long la), .second, .val (.long h2), .second, .val (.long l2), .second, .val (.int xm), .val (.long hbb), .second, .val (.long lbb), .second, .val (.int (((xm.toUInt32 >>> ((2 : Int32) &&& 31).toUInt32).toInt32) &&& (3 : Int32))), .val (.ref b1), .val (.ref b3), .val (.int (0 : Int32)), .unset, .unset, .unset] [(.ref y114_0)])) _
                refine XS.astore X114.here hx rfl (hb hby at_108) rfl rfl (l' := #[.val (.long ha), .second, .val (.long la), .second, .val (.long h2), .second, .val (.long l2), .second, .val (.int xm), .val (.long hbb), .second, .val (.long lbb), .second, .val (.int (((xm.toUInt32 >>> ((2 : Int32) &&& 31).toUInt32).toInt32) &&& (3 : Int32))), .val (.ref b1), .val (.ref b3), .val (.int (0 : Int32)), .val (.ref y114_0), .unset, .unset]) rfl ?_
                show Steps p.tables e below (T114.setTop (mkF m 110 #[.val (.long ha), .second, .val (.long la), .second, .val (.long h2), .second, .val (.long l2), .second, .val (.int xm), .val (.long hbb), .second, .val (.long lbb), .second, .val (.int (((xm.toUInt32 >>> ((2 : Int32) &&& 31).toUInt32).toInt32) &&& (3 : Int32))), .val (.ref b1), .val (.ref b3), .val (.int (0 : Int32)), .val (.ref y114_0), .unset, .unset] [])) _
                refine XS.iconst X114.here hx rfl (hb hby at_110) ?_
                show Steps p.tables e below (T114.setTop (mkF m 111 #[.val (.long ha), .second, .val (.long la), .second, .val (.long h2), .second, .val (.long l2), .second, .val (.int xm), .val (.long hbb), .second, .val (.long lbb), .second, .val (.int (((xm.toUInt32 >>> ((2 : Int32) &&& 31).toUInt32).toInt32) &&& (3 : Int32))), .val (.ref b1), .val (.ref b3), .val (.int (0 : Int32)), .val (.ref y114_0), .unset, .unset] [(.int (0 : Int32))])) _
                refine XS.istore X114.here hx rfl (hb hby at_111) rfl (l' := #[.val (.long ha), .second, .val (.long la), .second, .val (.long h2), .second, .val (.long l2), .second, .val (.int xm), .val (.long hbb), .second, .val (.long lbb), .second, .val (.int (((xm.toUInt32 >>> ((2 : Int32) &&& 31).toUInt32).toInt32) &&& (3 : Int32))), .val (.ref b1), .val (.ref b3), .val (.int (0 : Int32)), .val (.ref y114_0), .val (.int (0 : Int32)), .unset]) rfl ?_
                show Steps p.tables e below (T114.setTop (mkF m 113 #[.val (.long ha), .second, .val (.long la), .second, .val (.long h2), .second, .val (.long l2), .second, .val (.int xm), .val (.long hbb), .second, .val (.long lbb), .second, .val (.int (((xm.toUInt32 >>> ((2 : Int32) &&& 31).toUInt32).toInt32) &&& (3 : Int32))), .val (.ref b1), .val (.ref b3), .val (.int (0 : Int32)), .val (.ref y114_0), .val (.int (0 : Int32)), .unset] [])) _
                refine XS.goto X114.here hx rfl (pc0 := 113) (pc' := 124) rfl (hb hby at_113) (by decide) (by decide) ?_
                show Steps p.tables e below (T114.setTop (mkF m 124 #[.val (.long ha), .second, .val (.long la), .second, .val (.long h2), .second, .val (.long l2), .second, .val (.int xm), .val (.long hbb), .second, .val (.long lbb), .second, .val (.int (((xm.toUInt32 >>> ((2 : Int32) &&& 31).toUInt32).toInt32) &&& (3 : Int32))), .val (.ref b1), .val (.ref b3), .val (.int (0 : Int32)), .val (.ref y114_0), .val (.int (0 : Int32)), .unset] [])) _
                refine XS.aload X114.here hx rfl (hb hby at_124) rfl rfl ?_
                show Steps p.tables e below (T114.setTop (mkF m 126 #[.val (.long ha), .second, .val (.long la), .second, .val (.long h2), .second, .val (.long l2), .second, .val (.int xm), .val (.long hbb), .second, .val (.long lbb), .second, .val (.int (((xm.toUInt32 >>> ((2 : Int32) &&& 31).toUInt32).toInt32) &&& (3 : Int32))), .val (.ref b1), .val (.ref b3), .val (.int (0 : Int32)), .val (.ref y114_0), .val (.int (0 : Int32)), .unset] [(.ref b1)])) _
                refine XS.aload X114.here hx rfl (hb hby at_126) rfl rfl ?_
                show Steps p.tables e below (T114.setTop (mkF m 128 #[.val (.long ha), .second, .val (.long la), .second, .val (.long h2), .second, .val (.long l2), .second, .val (.int xm), .val (.long hbb), .second, .val (.long lbb), .second, .val (.int (((xm.toUInt32 >>> ((2 : Int32) &&& 31).toUInt32).toInt32) &&& (3 : Int32))), .val (.ref b1), .val (.ref b3), .val (.int (0 : Int32)), .val (.ref y114_0), .val (.int (0 : Int32)), .unset] [(.ref y114_0), (.ref b1)])) _
                refine st115.trans ?_
                show Steps p.tables e below (T115.setTop (mkF m 131 #[.val (.long ha), .second, .val (.long la), .second, .val (.long h2), .second, .val (.long l2), .second, .val (.int xm), .val (.long hbb), .second, .val (.long lbb), .second, .val (.int (((xm.toUInt32 >>> ((2 : Int32) &&& 31).toUInt32).toInt32) &&& (3 : Int32))), .val (.ref b1), .val (.ref b3), .val (.int (0 : Int32)), .val (.ref y114_0), .val (.int (0 : Int32)), .unset] [(.int (0 : Int32))])) _
                refine XS.iload X115.here hx rfl (hb hby at_131) rfl ?_
                show Steps p.tables e below (T115.setTop (mkF m 133 #[.val (.long ha), .second, .val (.long la), .second, .val (.long h2), .second, .val (.long l2), .second, .val (.int xm), .val (.long hbb), .second, .val (.long lbb), .second, .val (.int (((xm.toUInt32 >>> ((2 : Int32) &&& 31).toUInt32).toInt32) &&& (3 : Int32))), .val (.ref b1), .val (.ref b3), .val (.int (0 : Int32)), .val (.ref y114_0), .val (.int (0 : Int32)), .unset] [(.int (0 : Int32)), (.int (0 : Int32))])) _
                refine XS.icmpNo X115.here hx rfl (hb hby at_133) rfl (teq (by decide : (0 : Int32) = (0 : Int32))).2 ?_
                show Steps p.tables e below (T115.setTop (mkF m 136 #[.val (.long ha), .second, .val (.long la), .second, .val (.long h2), .second, .val (.long l2), .second, .val (.int xm), .val (.long hbb), .second, .val (.long lbb), .second, .val (.int (((xm.toUInt32 >>> ((2 : Int32) &&& 31).toUInt32).toInt32) &&& (3 : Int32))), .val (.ref b1), .val (.ref b3), .val (.int (0 : Int32)), .val (.ref y114_0), .val (.int (0 : Int32)), .unset] [])) _
                refine XS.iconst X115.here hx rfl (hb hby at_136) ?_
                show Steps p.tables e below (T115.setTop (mkF m 137 #[.val (.long ha), .second, .val (.long la), .second, .val (.long h2), .second, .val (.long l2), .second, .val (.int xm), .val (.long hbb), .second, .val (.long lbb), .second, .val (.int (((xm.toUInt32 >>> ((2 : Int32) &&& 31).toUInt32).toInt32) &&& (3 : Int32))), .val (.ref b1), .val (.ref b3), .val (.int (0 : Int32)), .val (.ref y114_0), .val (.int (0 : Int32)), .unset] [(.int (1 : Int32))])) _
                refine XS.goto X115.here hx rfl (pc0 := 137) (pc' := 141) rfl (hb hby at_137) (by decide) (by decide) ?_
                show Steps p.tables e below (T115.setTop (mkF m 141 #[.val (.long ha), .second, .val (.long la), .second, .val (.long h2), .second, .val (.long l2), .second, .val (.int xm), .val (.long hbb), .second, .val (.long lbb), .second, .val (.int (((xm.toUInt32 >>> ((2 : Int32) &&& 31).toUInt32).toInt32) &&& (3 : Int32))), .val (.ref b1), .val (.ref b3), .val (.int (0 : Int32)), .val (.ref y114_0), .val (.int (0 : Int32)), .unset] [(.int (1 : Int32))])) _
                refine XS.istore X115.here hx rfl (hb hby at_141) rfl (l' := #[.val (.long ha), .second, .val (.long la), .second, .val (.long h2), .second, .val (.long l2), .second, .val (.int xm), .val (.long hbb), .second, .val (.long lbb), .second, .val (.int (((xm.toUInt32 >>> ((2 : Int32) &&& 31).toUInt32).toInt32) &&& (3 : Int32))), .val (.ref b1), .val (.ref b3), .val (.int (0 : Int32)), .val (.ref y114_0), .val (.int (0 : Int32)), .val (.int (1 : Int32))]) rfl ?_
                show Steps p.tables e below (T115.setTop (mkF m 143 #[.val (.long ha), .second, .val (.long la), .second, .val (.long h2), .second, .val (.long l2), .second, .val (.int xm), .val (.long hbb), .second, .val (.long lbb), .second, .val (.int (((xm.toUInt32 >>> ((2 : Int32) &&& 31).toUInt32).toInt32) &&& (3 : Int32))), .val (.ref b1), .val (.ref b3), .val (.int (0 : Int32)), .val (.ref y114_0), .val (.int (0 : Int32)), .val (.int (1 : Int32))] [])) _
                refine XS.iload X115.here hx rfl (hb hby at_143) rfl ?_
                show Steps p.tables e below (T115.setTop (mkF m 145 #[.val (.long ha), .second, .val (.long la), .second, .val (.long h2), .second, .val (.long l2), .second, .val (.int xm), .val (.long hbb), .second, .val (.long lbb), .second, .val (.int (((xm.toUInt32 >>> ((2 : Int32) &&& 31).toUInt32).toInt32) &&& (3 : Int32))), .val (.ref b1), .val (.ref b3), .val (.int (0 : Int32)), .val (.ref y114_0), .val (.int (0 : Int32)), .val (.int (1 : Int32))] [(.int (1 : Int32))])) _
                refine XS.ifNo X115.here hx rfl (hb hby at_145) rfl ((if0 _ _).trans (feq (by decide : ¬ ((1 : Int32) = (0 : Int32)))).1) ?_
                show Steps p.tables e below (T115.setTop (mkF m 148 #[.val (.long ha), .second, .val (.long la), .second, .val (.long h2), .second, .val (.long l2), .second, .val (.int xm), .val (.long hbb), .second, .val (.long lbb), .second, .val (.int (((xm.toUInt32 >>> ((2 : Int32) &&& 31).toUInt32).toInt32) &&& (3 : Int32))), .val (.ref b1), .val (.ref b3), .val (.int (0 : Int32)), .val (.ref y114_0), .val (.int (0 : Int32)), .val (.int (1 : Int32))] [])) _
                refine XS.aload X115.here hx rfl (hb hby at_148) rfl rfl ?_
                show Steps p.tables e below (T115.setTop (mkF m 150 #[.val (.long ha), .second, .val (.long la), .second, .val (.long h2), .second, .val (.long l2), .second, .val (.int xm), .val (.long hbb), .second, .val (.long lbb), .second, .val (.int (((xm.toUInt32 >>> ((2 : Int32) &&& 31).toUInt32).toInt32) &&& (3 : Int32))), .val (.ref b1), .val (.ref b3), .val (.int (0 : Int32)), .val (.ref y114_0), .val (.int (0 : Int32)), .val (.int (1 : Int32))] [(.ref b3)])) _
                refine XS.aload X115.here hx rfl (hb hby at_150) rfl rfl ?_
                show Steps p.tables e below (T115.setTop (mkF m 152 #[.val (.long ha), .second, .val (.long la), .second, .val (.long h2), .second, .val (.long l2), .second, .val (.int xm), .val (.long hbb), .second, .val (.long lbb), .second, .val (.int (((xm.toUInt32 >>> ((2 : Int32) &&& 31).toUInt32).toInt32) &&& (3 : Int32))), .val (.ref b1), .val (.ref b3), .val (.int (0 : Int32)), .val (.ref y114_0), .val (.int (0 : Int32)), .val (.int (1 : Int32))] [(.ref b1), (.ref b3)])) _
                refine st121.trans ?_
                show Steps p.tables e below (T121.setTop (mkF m 155 #[.val (.long ha), .second, .val (.long la), .second, .val (.long h2), .second, .val (.long l2), .second, .val (.int xm), .val (.long hbb), .second, .val (.long lbb), .second, .val (.int (((xm.toUInt32 >>> ((2 : Int32) &&& 31).toUInt32).toInt32) &&& (3 : Int32))), .val (.ref b1), .val (.ref b3), .val (.int (0 : Int32)), .val (.ref y114_0), .val (.int (0 : Int32)), .val (.int (1 : Int32))] [(.int (0 : Int32))])) _
                refine XS.iload X121.here hx rfl (hb hby at_155) rfl ?_
                show Steps p.tables e below (T121.setTop (mkF m 157 #[.val (.long ha), .second, .val (.long la), .second, .val (.long h2), .second, .val (.long l2), .second, .val (.int xm), .val (.long hbb), .second, .val (.long lbb), .second, .val (.int (((xm.toUInt32 >>> ((2 : Int32) &&& 31).toUInt32).toInt32) &&& (3 : Int32))), .val (.ref b1), .val (.ref b3), .val (.int (0 : Int32)), .val (.ref y114_0), .val (.int (0 : Int32)), .val (.int (1 : Int32))] [(.int (0 : Int32)), (.int (0 : Int32))])) _
                refine XS.icmpNo X121.here hx rfl (hb hby at_157) rfl (teq (by decide : (0 : Int32) = (0 : Int32))).2 ?_
                show Steps p.tables e below (T121.setTop (mkF m 160 #[.val (.long ha), .second, .val (.long la), .second, .val (.long h2), .second, .val (.long l2), .second, .val (.int xm), .val (.long hbb), .second, .val (.long lbb), .second, .val (.int (((xm.toUInt32 >>> ((2 : Int32) &&& 31).toUInt32).toInt32) &&& (3 : Int32))), .val (.ref b1), .val (.ref b3), .val (.int (0 : Int32)), .val (.ref y114_0), .val (.int (0 : Int32)), .val (.int (1 : Int32))] [])) _
                refine XS.iconst X121.here hx rfl (hb hby at_160) ?_
                show Steps p.tables e below (T121.setTop (mkF m 161 #[.val (.long ha), .second, .val (.long la), .second, .val (.long h2), .second, .val (.long l2), .second, .val (.int xm), .val (.long hbb), .second, .val (.long lbb), .second, .val (.int (((xm.toUInt32 >>> ((2 : Int32) &&& 31).toUInt32).toInt32) &&& (3 : Int32))), .val (.ref b1), .val (.ref b3), .val (.int (0 : Int32)), .val (.ref y114_0), .val (.int (0 : Int32)), .val (.int (1 : Int32))] [(.int (1 : Int32))])) _
                refine XS.goto X121.here hx rfl (pc0 := 161) (pc' := 165) rfl (hb hby at_161) (by decide) (by decide) ?_
                show Steps p.tables e below (T121.setTop (mkF m 165 #[.val (.long ha), .second, .val (.long la), .second, .val (.long h2), .second, .val (.long l2), .second, .val (.int xm), .val (.long hbb), .second, .val (.long lbb), .second, .val (.int (((xm.toUInt32 >>> ((2 : Int32) &&& 31).toUInt32).toInt32) &&& (3 : Int32))), .val (.ref b1), .val (.ref b3), .val (.int (0 : Int32)), .val (.ref y114_0), .val (.int (0 : Int32)), .val (.int (1 : Int32))] [(.int (1 : Int32))])) _
                refine XS.istore X121.here hx rfl (hb hby at_165) rfl (l' := #[.val (.long ha), .second, .val (.long la), .second, .val (.long h2), .second, .val (.long l2), .second, .val (.int xm), .val (.long hbb), .second, .val (.long lbb), .second, .val (.int (((xm.toUInt32 >>> ((2 : Int32) &&& 31).toUInt32).toInt32) &&& (3 : Int32))), .val (.ref b1), .val (.ref b3), .val (.int (0 : Int32)), .val (.ref y114_0), .val (.int (0 : Int32)), .val (.int (1 : Int32))]) rfl ?_
                show Steps p.tables e below (T121.setTop (mkF m 167 #[.val (.long ha), .second, .val (.long la), .second, .val (.long h2), .second, .val (.long l2), .second, .val (.int xm), .val (.long hbb), .second, .val (.long lbb), .second, .val (.int (((xm.toUInt32 >>> ((2 : Int32) &&& 31).toUInt32).toInt32) &&& (3 : Int32))), .val (.ref b1), .val (.ref b3), .val (.int (0 : Int32)), .val (.ref y114_0), .val (.int (0 : Int32)), .val (.int (1 : Int32))] [])) _
                refine XS.iload X121.here hx rfl (hb hby at_167) rfl ?_
                show Steps p.tables e below (T121.setTop (mkF m 169 #[.val (.long ha), .second, .val (.long la), .second, .val (.long h2), .second, .val (.long l2), .second, .val (.int xm), .val (.long hbb), .second, .val (.long lbb), .second, .val (.int (((xm.toUInt32 >>> ((2 : Int32) &&& 31).toUInt32).toInt32) &&& (3 : Int32))), .val (.ref b1), .val (.ref b3), .val (.int (0 : Int32)), .val (.ref y114_0), .val (.int (0 : Int32)), .val (.int (1 : Int32))] [(.int (1 : Int32))])) _
                refine XS.ifNo X121.here hx rfl (hb hby at_169) rfl ((if0 _ _).trans (feq (by decide : ¬ ((1 : Int32) = (0 : Int32)))).1) ?_
                show Steps p.tables e below (T121.setTop (mkF m 172 #[.val (.long ha), .second, .val (.long la), .second, .val (.long h2), .second, .val (.long l2), .second, .val (.int xm), .val (.long hbb), .second, .val (.long lbb), .second, .val (.int (((xm.toUInt32 >>> ((2 : Int32) &&& 31).toUInt32).toInt32) &&& (3 : Int32))), .val (.ref b1), .val (.ref b3), .val (.int (0 : Int32)), .val (.ref y114_0), .val (.int (0 : Int32)), .val (.int (1 : Int32))] [])) _
                refine XS.aload X121.here hx rfl (hb hby at_172) rfl rfl ?_
                show Steps p.tables e below (T121.setTop (mkF m 174 #[.val (.long ha), .second, .val (.long la), .second, .val (.long h2), .second, .val (.long l2), .second, .val (.int xm), .val (.long hbb), .second, .val (.long lbb), .second, .val (.int (((xm.toUInt32 >>> ((2 : Int32) &&& 31).toUInt32).toInt32) &&& (3 : Int32))), .val (.ref b1), .val (.ref b3), .val (.int (0 : Int32)), .val (.ref y114_0), .val (.int (0 : Int32)), .val (.int (1 : Int32))] [(.ref b1)])) _
                refine XS.aload X121.here hx rfl (hb hby at_174) rfl rfl ?_
                show Steps p.tables e below (T121.setTop (mkF m 176 #[.val (.long ha), .second, .val (.long la), .second, .val (.long h2), .second, .val (.long l2), .second, .val (.int xm), .val (.long hbb), .second, .val (.long lbb), .second, .val (.int (((xm.toUInt32 >>> ((2 : Int32) &&& 31).toUInt32).toInt32) &&& (3 : Int32))), .val (.ref b1), .val (.ref b3), .val (.int (0 : Int32)), .val (.ref y114_0), .val (.int (0 : Int32)), .val (.int (1 : Int32))] [(.ref b1), (.ref b1)])) _
                refine st123.trans ?_
                show Steps p.tables e below (T123.setTop (mkF m 179 #[.val (.long ha), .second, .val (.long la), .second, .val (.long h2), .second, .val (.long l2), .second, .val (.int xm), .val (.long hbb), .second, .val (.long lbb), .second, .val (.int (((xm.toUInt32 >>> ((2 : Int32) &&& 31).toUInt32).toInt32) &&& (3 : Int32))), .val (.ref b1), .val (.ref b3), .val (.int (0 : Int32)), .val (.ref y114_0), .val (.int (0 : Int32)), .val (.int (1 : Int32))] [(.int (1 : Int32))])) _
                refine XS.ifNo X123.here hx rfl (hb hby at_179) rfl ((if0 _ _).trans (feq (by decide : ¬ ((1 : Int32) = (0 : Int32)))).1) ?_
                show Steps p.tables e below (T123.setTop (mkF m 182 #[.val (.long ha), .second, .val (.long la), .second, .val (.long h2), .second, .val (.long l2), .second, .val (.int xm), .val (.long hbb), .second, .val (.long lbb), .second, .val (.int (((xm.toUInt32 >>> ((2 : Int32) &&& 31).toUInt32).toInt32) &&& (3 : Int32))), .val (.ref b1), .val (.ref b3), .val (.int (0 : Int32)), .val (.ref y114_0), .val (.int (0 : Int32)), .val (.int (1 : Int32))] [])) _
                refine XS.iconst X123.here hx rfl (hb hby at_182) ?_
                show Steps p.tables e below (T123.setTop (mkF m 183 #[.val (.long ha), .second, .val (.long la), .second, .val (.long h2), .second, .val (.long l2), .second, .val (.int xm), .val (.long hbb), .second, .val (.long lbb), .second, .val (.int (((xm.toUInt32 >>> ((2 : Int32) &&& 31).toUInt32).toInt32) &&& (3 : Int32))), .val (.ref b1), .val (.ref b3), .val (.int (0 : Int32)), .val (.ref y114_0), .val (.int (0 : Int32)), .val (.int (1 : Int32))] [(.int (1 : Int32))])) _
                refine XS.goto X123.here hx rfl (pc0 := 183) (pc' := 187) rfl (hb hby at_183) (by decide) (by decide) ?_
                show Steps p.tables e below (T123.setTop (mkF m 187 #[.val (.long ha), .second, .val (.long la), .second, .val (.long h2), .second, .val (.long l2), .second, .val (.int xm), .val (.long hbb), .second, .val (.long lbb), .second, .val (.int (((xm.toUInt32 >>> ((2 : Int32) &&& 31).toUInt32).toInt32) &&& (3 : Int32))), .val (.ref b1), .val (.ref b3), .val (.int (0 : Int32)), .val (.ref y114_0), .val (.int (0 : Int32)), .val (.int (1 : Int32))] [(.int (1 : Int32))])) _
                refine XS.istore X123.here hx rfl (hb hby at_187) rfl (l' := #[.val (.long ha), .second, .val (.long la), .second, .val (.long h2), .second, .val (.long l2), .second, .val (.int xm), .val (.long hbb), .second, .val (.long lbb), .second, .val (.int (((xm.toUInt32 >>> ((2 : Int32) &&& 31).toUInt32).toInt32) &&& (3 : Int32))), .val (.ref b1), .val (.ref b3), .val (.int (0 : Int32)), .val (.ref y114_0), .val (.int (0 : Int32)), .val (.int (1 : Int32))]) rfl ?_
                show Steps p.tables e below (T123.setTop (mkF m 189 #[.val (.long ha), .second, .val (.long la), .second, .val (.long h2), .second, .val (.long l2), .second, .val (.int xm), .val (.long hbb), .second, .val (.long lbb), .second, .val (.int (((xm.toUInt32 >>> ((2 : Int32) &&& 31).toUInt32).toInt32) &&& (3 : Int32))), .val (.ref b1), .val (.ref b3), .val (.int (0 : Int32)), .val (.ref y114_0), .val (.int (0 : Int32)), .val (.int (1 : Int32))] [])) _
                refine XS.iload X123.here hx rfl (hb hby at_189) rfl ?_
                show Steps p.tables e below (T123.setTop (mkF m 191 #[.val (.long ha), .second, .val (.long la), .second, .val (.long h2), .second, .val (.long l2), .second, .val (.int xm), .val (.long hbb), .second, .val (.long lbb), .second, .val (.int (((xm.toUInt32 >>> ((2 : Int32) &&& 31).toUInt32).toInt32) &&& (3 : Int32))), .val (.ref b1), .val (.ref b3), .val (.int (0 : Int32)), .val (.ref y114_0), .val (.int (0 : Int32)), .val (.int (1 : Int32))] [(.int (1 : Int32))])) _
                exact kt
              obtain ⟨fs, hr, hrun, hended, hW, hsame⟩ := X123.leave (v := some (.int (1 : Int32))) (fun h => by rw [hret] at h; cases h) hlk
              refine ⟨_, _, go124 _ ?_, hrun, hended, _, _, rfl, ⟨rfl, N123⟩, ⟨_, rfl⟩, hW, hsame.mono (by decide) (by decide)⟩
              exact retN X123 hx (t := .boolean) hret (by simp) (hb hby at_191) hr
        · skip
          have f125 : Fld Z T5.heap b1 "com/example/xmitq/xmitq/MessageId" "high" "J" (.long ha) := ((p2_1.ext E3).keep Kc5 (ninS ne3_b1 nin0))
          have f126 : Fld Z T5.heap b1 "com/example/xmitq/xmitq/MessageId" "low" "J" (.long la) := ((p2_2.ext E3).keep Kc5 (ninS ne3_b1 nin0))
          have f128 : Exa Z T5.heap b1 "com/example/xmitq/xmitq/MessageId" := ((p2_0.ext E3).keep Kc5)
          obtain ⟨cq127, kq127, q127a, q127b, q127c⟩ := isOf hZ rfl f128
          obtain ⟨_, _, ⟨T127, L127, k127, n127⟩, -, X127, ⟨Lc127, hQ127, l127, y127, z127⟩, st127⟩ := X5.virtualBack hx (y := (⟨"com/example/xmitq/xmitq/MessageId", "equals", "(Ljava/lang/Object;)Z"⟩ : MethodName)) (z := (⟨"com/example/xmitq/xmitq/MessageId", "equals", "(Ljava/lang/Object;)Z"⟩ : MethodName)) hown (mvT hZ (hw _ (List.mem_of_getElem? (i := 13) rfl))) (mvT hZ (hw _ (List.mem_of_getElem? (i := 14) rfl))) (notFace_of_selects (args := #[]) (mvT hZ (hw _ (List.mem_of_getElem? (i := 16) rfl)))) (mvT hZ (hw _ (List.mem_of_getElem? (i := 16) rfl))) (mvT hZ (hw _ (List.mem_of_getElem? (i := 15) rfl))) (by decide) (backOf (W := 0) (own_eqYN l Z a0 hw [] b1 b3 ha hbb la lbb T5.heap n0 Z5 p5_0 f125 p5_1 hc7 f126 p5_2 hc9) hZ (hw _ (List.mem_of_getElem? (i := 17) rfl)) (hw _ (List.mem_of_getElem? (i := 2) rfl)) (by decide) (by decide)) q127a q127c (g := (mkF m 128 #[.val (.long ha), .second, .val (.long la), .second, .val (.long h2), .second, .val (.long l2), .second, .val (.int xm), .val (.long hbb), .second, .val (.long lbb), .second, .val (.int (((xm.toUInt32 >>> ((2 : Int32) &&& 31).toUInt32).toInt32) &&& (3 : Int32))), .val (.ref b1), .val (.ref b3), .val (.int (0 : Int32)), .val (.ref b3), .val (.int (0 : Int32)), .unset] [(.ref b3), (.ref b1)])) rfl (by rw [hml]; rfl) (Steps.refl _) (argsL := [(.ref b3)]) (rest := []) (lenOf pd_12 rfl) rfl (by show 2 * 0 + _ ≤ _; exact Nat.le_of_eq rfl) (hb hby at_128) (fun _ _ => ⟨rfl, rfl, (by decide : 2 + 0 ≤ _), (by decide : 4 + 0 ≤ _)⟩)
          dsimp only [Pt.U, Pt.locs, Pt.cells, Pt.slots] at X127 l127 y127 z127 st127 hQ127
          subst l127 y127 z127
          obtain ⟨rfl, Nq127, e127⟩ := hQ127
          have N127 := Fr.app N5 Nq127
          obtain ⟨cq129, kq129, q129a, q129b, q129c⟩ := isOf hZ e127 p5_0
          obtain ⟨_, _, ⟨T129, L129, k129, n129⟩, -, X129, ⟨Lc129, hQ129, l129, y129, z129⟩, st129⟩ := X127.virtualBack hx (y := (⟨"com/example/xmitq/xmitq/MessageId", "equals", "(Ljava/lang/Object;)Z"⟩ : MethodName)) (z := (⟨"com/example/xmitq/xmitq/MessageId", "equals", "(Ljava/lang/Object;)Z"⟩ : MethodName)) hown (mvT hZ (hw _ (List.mem_of_getElem? (i := 13) rfl))) (mvT hZ (hw _ (List.mem_of_getElem? (i := 14) rfl))) (notFace_of_selects (args := #[]) (mvT hZ (hw _ (List.mem_of_getElem? (i := 16) rfl)))) (mvT hZ (hw _ (List.mem_of_getElem? (i := 16) rfl))) (mvT hZ (hw _ (List.mem_of_getElem? (i := 15) rfl))) (by decide) (backOf (W := 0) (own_eqYN l Z a0 hw [] b3 b1 hbb ha lbb la T5.heap n0 Z5 f128 p5_1 f125 (Eq.symm hc7) p5_2 f126 (Ne.symm hc9)) hZ (hw _ (List.mem_of_getElem? (i := 17) rfl)) (hw _ (List.mem_of_getElem? (i := 2) rfl)) (by decide) (by decide)) q129a q129c (g := (mkF m 152 #[.val (.long ha), .second, .val (.long la), .second, .val (.long h2), .second, .val (.long l2), .second, .val (.int xm), .val (.long hbb), .second, .val (.long lbb), .second, .val (.int (((xm.toUInt32 >>> ((2 : Int32) &&& 31).toUInt32).toInt32) &&& (3 : Int32))), .val (.ref b1), .val (.ref b3), .val (.int (0 : Int32)), .val (.ref b3), .val (.int (0 : Int32)), .val (.int (1 : Int32))] [(.ref b1), (.ref b3)])) rfl (by rw [hml]; rfl) (Steps.refl _) (argsL := [(.ref b1)]) (rest := []) (lenOf pd_12 rfl) rfl (by show 2 * 0 + _ ≤ _; exact Nat.le_of_eq rfl) (hb hby at_152) (fun _ _ => ⟨rfl, e127, (by decide : 2 + 0 ≤ _), (by decide : 4 + 0 ≤ _)⟩)
          dsimp only [Pt.U, Pt.locs, Pt.cells, Pt.slots] at X129 l129 y129 z129 st129 hQ129
          subst l129 y129 z129
          obtain ⟨rfl, Nq129, e129⟩ := hQ129
          have N129 := Fr.app N127 Nq129
          obtain ⟨cq130, kq130, q130a, q130b, q130c⟩ := isOf hZ e129 f128
          obtain ⟨_, _, ⟨T130, L130, k130, n130⟩, -, X130, ⟨Lc130, hQ130, l130, y130, z130⟩, st130⟩ := X129.virtualBack hx (y := (⟨"com/example/xmitq/xmitq/MessageId", "equals", "(Ljava/lang/Object;)Z"⟩ : MethodName)) (z := (⟨"com/example/xmitq/xmitq/MessageId", "equals", "(Ljava/lang/Object;)Z"⟩ : MethodName)) hown (mvT hZ (hw _ (List.mem_of_getElem? (i := 13) rfl))) (mvT hZ (hw _ (List.mem_of_getElem? (i := 14) rfl))) (notFace_of_selects (args := #[]) (mvT hZ (hw _ (List.mem_of_getElem? (i := 16) rfl)))) (mvT hZ (hw _ (List.mem_of_getElem? (i := 16) rfl))) (mvT hZ (hw _ (List.mem_of_getElem? (i := 15) rfl))) (by decide) (backOf (W := 0) (own_eqYY l Z a0 hw [] b1 b1 ha ha la la T5.heap n0 Z5 f128 f125 f125 (rfl : ha = ha) f126 f126 (rfl : la = la)) hZ (hw _ (List.mem_of_getElem? (i := 17) rfl)) (hw _ (List.mem_of_getElem? (i := 2) rfl)) (by decide) (by decide)) q130a q130c (g := (mkF m 176 #[.val (.long ha), .second, .val (.long la), .second, .val (.long h2), .second, .val (.long l2), .second, .val (.int xm), .val (.long hbb), .second, .val (.long lbb), .second, .val (.int (((xm.toUInt32 >>> ((2 : Int32) &&& 31).toUInt32).toInt32) &&& (3 : Int32))), .val (.ref b1), .val (.ref b3), .val (.int (0 : Int32)), .val (.ref b3), .val (.int (0 : Int32)), .val (.int (1 : Int32))] [(.ref b1), (.ref b1)])) rfl (by rw [hml]; rfl) (Steps.refl _) (argsL := [(.ref b1)]) (rest := []) (lenOf pd_12 rfl) rfl (by show 2 * 0 + _ ≤ _; exact Nat.le_of_eq rfl) (hb hby at_176) (fun _ _ => ⟨rfl, e129, (by decide : 2 + 0 ≤ _), (by decide : 4 + 0 ≤ _)⟩)
          dsimp only [Pt.U, Pt.locs, Pt.cells, Pt.slots] at X130 l130 y130 z130 st130 hQ130
          subst l130 y130 z130
          obtain ⟨rfl, Nq130, e130⟩ := hQ130
          have N130 := Fr.app N129 Nq130
          have go131 : ∀ t, Steps p.tables e below (T130.setTop (mkF m 191 #[.val (.long ha), .second, .val (.long la), .second, .val (.long h2), .second, .val (.long l2), .second, .val (.int xm), .val (.long hbb), .second, .val (.long lbb), .second, .val (.int (((xm.toUInt32 >>> ((2 : Int32) &&& 31).toUInt32).toInt32) &&& (3 : Int32))), .val (.ref b1), .val (.ref b3), .val (.int (0 : Int32)), .val (.ref b3), .val (.int (0 : Int32)), .val (.int (1 : Int32))] [(.int (1 : Int32))])) t → Steps p.tables e below st0 t := by
            intro t kt
            refine go80 t ?_
            refine XS.icmpYes X5.here hx rfl (pc0 := 101) (pc' := 116) rfl (hb hby at_101) rfl (feq hc81).2 (by decide) (by decide) ?_
            show Steps p.tables e below (T5.setTop (mkF m 116 #[.val (.long ha), .second, .val (.long la), .second, .val (.long h2), .second, .val (.long l2), .second, .val (.int xm), .val (.long hbb), .second, .val (.long lbb), .second, .val (.int (((xm.toUInt32 >>> ((2 : Int32) &&& 31).toUInt32).toInt32) &&& (3 : Int32))), .val (.ref b1), .val (.ref b3), .val (.int (0 : Int32)), .unset, .unset, .unset] [])) _
            refine XS.aload X5.here hx rfl (hb hby at_116) rfl rfl ?_
            show Steps p.tables e below (T5.setTop (mkF m 118 #[.val (.long ha), .second, .val (.long la), .second, .val (.long h2), .second, .val (.long l2), .second, .val (.int xm), .val (.long hbb), .second, .val (.long lbb), .second, .val (.int (((xm.toUInt32 >>> ((2 : Int32) &&& 31).toUInt32).toInt32) &&& (3 : Int32))), .val (.ref b1), .val (.ref b3), .val (.int (0 : Int32)), .unset, .unset, .unset] [(.ref b3)])) _
            refine XS.astore X5.here hx rfl (hb hby at_118) rfl rfl (l' := #[.val (.long ha), .second, .val (.long la), .second, .val (.long h2), .second, .val (.long l2), .second, .val (.int xm), .val (.long hbb), .second, .val (.long lbb), .second, .val (.int (((xm.toUInt32 >>> ((2 : Int32) &&& 31).toUInt32).toInt32) &&& (3 : Int32))), .val (.ref b1), .val (.ref b3), .val (.int (0 : Int32)), .val (.ref b3), .unset, .unset]) rfl ?_
            show Steps p.tables e below (T5.setTop (mkF m 120 #[.val (.long ha), .second, .val (.long la), .second, .val (.long h2), .second, .val (.long l2), .second, .val (.int xm), .val (.long hbb), .second, .val (.long lbb), .second, .val (.int (((xm.toUInt32 >>> ((2 : Int32) &&& 31).toUInt32).toInt32) &&& (3 : Int32))), .val (.ref b1), .val (.ref b3), .val (.int (0 : Int32)), .val (.ref b3), .unset, .unset] [])) _
            refine XS.iload X5.here hx rfl (hb hby at_120) rfl ?_
            show Steps p.tables e below (T5.setTop (mkF m 122 #[.val (.long ha), .second, .val (.long la), .second, .val (.long h2), .second, .val (.long l2), .second, .val (.int xm), .val (.long hbb), .second, .val (.long lbb), .second, .val (.int (((xm.toUInt32 >>> ((2 : Int32) &&& 31).toUInt32).toInt32) &&& (3 : Int32))), .val (.ref b1), .val (.ref b3), .val (.int (0 : Int32)), .val (.ref b3), .unset, .unset] [(.int (0 : Int32))])) _
            refine XS.istore X5.here hx rfl (hb hby at_122) rfl (l' := #[.val (.long ha), .second, .val (.long la), .second, .val (.long h2), .second, .val (.long l2), .second, .val (.int xm), .val (.long hbb), .second, .val (.long lbb), .second, .val (.int (((xm.toUInt32 >>> ((2 : Int32) &&& 31).toUInt32).toInt32) &&& (3 : Int32))), .val (.ref b1), .val (.ref b3), .val (.int (0 : Int32)), .val (.ref b3), .val (.int (0 : Int32)), .unset]) rfl ?_
            show Steps p.tables e below (T5.setTop (mkF m 124 #[.val (.long ha), .second, .val (.long la), .second, .val (.long h2), .second, .val (.long l2), .second, .val (.int xm), .val (.long hbb), .second, .val (.long lbb), .second, .val (.int (((xm.toUInt32 >>> ((2 : Int32) &&& 31).toUInt32).toInt32) &&& (3 : Int32))), .val (.ref b1), .val (.ref b3), .val (.int (0 : Int32)), .val (.ref b3), .val (.int (0 : Int32)), .unset] [])) _
            refine XS.aload X5.here hx rfl (hb hby at_124) rfl rfl ?_
            show Steps p.tables e below (T5.setTop (mkF m 126 #[.val (.long ha), .second, .val (.long la), .second, .val (.long h2), .second, .val (.long l2), .second, .val (.int xm), .val (.long hbb), .second, .val (.long lbb), .second, .val (.int (((xm.toUInt32 >>> ((2 : Int32) &&& 31).toUInt32).toInt32) &&& (3 : Int32))), .val (.ref b1), .val (.ref b3), .val (.int (0 : Int32)), .val (.ref b3), .val (.int (0 : Int32)), .unset] [(.ref b1)])) _
            refine XS.aload X5.here hx rfl (hb hby at_126) rfl rfl ?_
            show Steps p.tables e below (T5.setTop (mkF m 128 #[.val (.long ha), .second, .val (.long la), .second, .val (.long h2), .second, .val (.long l2), .second, .val (.int xm), .val (.long hbb), .second, .val (.long lbb), .second, .val (.int (((xm.toUInt32 >>> ((2 : Int32) &&& 31).toUInt32).toInt32) &&& (3 : Int32))), .val (.ref b1), .val (.ref b3), .val (.int (0 : Int32)), .val (.ref b3), .val (.int (0 : Int32)), .unset] [(.ref b3), (.ref b1)])) _
            refine st127.trans ?_
            show Steps p.tables e below (T127.setTop (mkF m 131 #[.val (.long ha), .second, .val (.long la), .second, .val (.long h2), .second, .val (.long l2), .second, .val (.int xm), .val (.long hbb), .second, .val (.long lbb), .second, .val (.int (((xm.toUInt32 >>> ((2 : Int32) &&& 31).toUInt32).toInt32) &&& (3 : Int32))), .val (.ref b1), .val (.ref b3), .val (.int (0 : Int32)), .val (.ref b3), .val (.int (0 : Int32)), .unset] [(.int (0 : Int32))])) _
            refine XS.iload X127.here hx rfl (hb hby at_131) rfl ?_
            show Steps p.tables e below (T127.setTop (mkF m 133 #[.val (.long ha), .second, .val (.long la), .second, .val (.long h2), .second, .val (.long l2), .second, .val (.int xm), .val (.long hbb), .second, .val (.long lbb), .second, .val (.int (((xm.toUInt32 >>> ((2 : Int32) &&& 31).toUInt32).toInt32) &&& (3 : Int32))), .val (.ref b1), .val (.ref b3), .val (.int (0 : Int32)), .val (.ref b3), .val (.int (0 : Int32)), .unset] [(.int (0 : Int32)), (.int (0 : Int32))])) _
            refine XS.icmpNo X127.here hx rfl (hb hby at_133) rfl (teq (by decide : (0 : Int32) = (0 : Int32))).2 ?_
            show Steps p.tables e below (T127.setTop (mkF m 136 #[.val (.long ha), .second, .val (.long la), .second, .val (.long h2), .second, .val (.long l2), .second, .val (.int xm), .val (.long hbb), .second, .val (.long lbb), .second, .val (.int (((xm.toUInt32 >>> ((2 : Int32) &&& 31).toUInt32).toInt32) &&& (3 : Int32))), .val (.ref b1), .val (.ref b3), .val (.int (0 : Int32)), .val (.ref b3), .val (.int (0 : Int32)), .unset] [])) _
            refine XS.iconst X127.here hx rfl (hb hby at_136) ?_
            show Steps p.tables e below (T127.setTop (mkF m 137 #[.val (.long ha), .second, .val (.long la), .second, .val (.long h2), .second, .val (.long l2), .second, .val (.int xm), .val (.long hbb), .second, .val (.long lbb), .second, .val (.int (((xm.toUInt32 >>> ((2 : Int32) &&& 31).toUInt32).toInt32) &&& (3 : Int32))), .val (.ref b1), .val (.ref b3), .val (.int (0 : Int32)), .val (.ref b3), .val (.int (0 : Int32)), .unset] [(.int (1 : Int32))])) _
            refine XS.goto X127.here hx rfl (pc0 := 137) (pc' := 141) rfl (hb hby at_137) (by decide) (by decide) ?_
            show Steps p.tables e below (T127.setTop (mkF m 141 #[.val (.long ha), .second, .val (.long la), .second, .val (.long h2), .second, .val (.long l2), .second, .val (.int xm), .val (.long hbb), .second, .val (.long lbb), .second, .val (.int (((xm.toUInt32 >>> ((2 : Int32) &&& 31).toUInt32).toInt32) &&& (3 : Int32))), .val (.ref b1), .val (.ref b3), .val (.int (0 : Int32)), .val (.ref b3), .val (.int (0 : Int32)), .unset] [(.int (1 : Int32))])) _
            refine XS.istore X127.here hx rfl (hb hby at_141) rfl (l' := #[.val (.long ha), .second, .val (.long la), .second, .val (.long h2), .second, .val (.long l2), .second, .val (.int xm), .val (.long hbb), .second, .val (.long lbb), .second, .val (.int (((xm.toUInt32 >>> ((2 : Int32) &&& 31).toUInt32).toInt32) &&& (3 : Int32))), .val (.ref b1), .val (.ref b3), .val (.int (0 : Int32)), .val (.ref b3), .val (.int (0 : Int32)), .val (.int (1 : Int32))]) rfl ?_
            show Steps p.tables e below (T127.setTop (mkF m 143 #[.val (.long ha), .second, .val (.long la), .second, .val (.long h2), .second, .val (.long l2), .second, .val (.int xm), .val (.long hbb), .second, .val (.long lbb), .second, .val (.int (((xm.toUInt32 >>> ((2 : Int32) &&& 31).toUInt32).toInt32) &&& (3 : Int32))), .val (.ref b1), .val (.ref b3), .val (.int (0 : Int32)), .val (.ref b3), .val (.int (0 : Int32)), .val (.int (1 : Int32))] [])) _
            refine XS.iload X127.here hx rfl (hb hby at_143) rfl ?_
            show Steps p.tables e below (T127.setTop (mkF m 145 #[.val (.long ha), .second, .val (.long la), .second, .val (.long h2), .second, .val (.long l2), .second, .val (.int xm), .val (.long hbb), .second, .val (.long lbb), .second, .val (.int (((xm.toUInt32 >>> ((2 : Int32) &&& 31).toUInt32).toInt32) &&& (3 : Int32))), .val (.ref b1), .val (.ref b3), .val (.int (0 : Int32)), .val (.ref b3), .val (.int (0 : Int32)), .val (.int (1 : Int32))] [(.int (1 : Int32))])) _
            refine XS.ifNo X127.here hx rfl (hb hby at_145) rfl ((if0 _ _).trans (feq (by decide : ¬ ((1 : Int32) = (0 : Int32)))).1) ?_
            show Steps p.tables e below (T127.setTop (mkF m 148 #[.val (.long ha), .second, .val (.long la), .second, .val (.long h2), .second, .val (.long l2), .second, .val (.int xm), .val (.long hbb), .second, .val (.long lbb), .second, .val (.int (((xm.toUInt32 >>> ((2 : Int32) &&& 31).toUInt32).toInt32) &&& (3 : Int32))), .val (.ref b1), .val (.ref b3), .val (.int (0 : Int32)), .val (.ref b3), .val (.int (0 : Int32)), .val (.int (1 : Int32))] [])) _
            refine XS.aload X127.here hx rfl (hb hby at_148) rfl rfl ?_
            show Steps p.tables e below (T127.setTop (mkF m 150 #[.val (.long ha), .second, .val (.long la), .second, .val (.long h2), .second, .val (.long l2), .second, .val (.int xm), .val (.long hbb), .second, .val (.long lbb), .second, .val (.int (((xm.toUInt32 >>> ((2 : Int32) &&& 31).toUInt32).toInt32) &&& (3 : Int32))), .val (.ref b1), .val (.ref b3), .val (.int (0 : Int32)), .val (.ref b3), .val (.int (0 : Int32)), .val (.int (1 : Int32))] [(.ref b3)])) _
            refine XS.aload X127.here hx rfl (hb hby at_150) rfl rfl ?_
            show Steps p.tables e below (T127.setTop (mkF m 152 #[.val (.long ha), .second, .val (.long la), .second, .val (.long h2), .second, .val (.long l2), .second, .val (.int xm), .val (.long hbb), .second, .val (.long lbb), .second, .val (.int (((xm.toUInt32 >>> ((2 : Int32) &&& 31).toUInt32).toInt32) &&& (3 : Int32))), .val (.ref b1), .val (.ref b3), .val (.int (0 : Int32)), .val (.ref b3), .val (.int (0 : Int32)), .val (.int (1 : Int32))] [(.ref b1), (.ref b3)])) _
            refine st129.trans ?_
            show Steps p.tables e below (T129.setTop (mkF m 155 #[.val (.long ha), .second, .val (.long la), .second, .val (.long h2), .second, .val (.long l2), .second, .val (.int xm), .val (.long hbb), .second, .val (.long lbb), .second, .val (.int (((xm.toUInt32 >>> ((2 : Int32) &&& 31).toUInt32).toInt32) &&& (3 : Int32))), .val (.ref b1), .val (.ref b3), .val (.int (0 : Int32)), .val (.ref b3), .val (.int (0 : Int32)), .val (.int (1 : Int32))] [(.int (0 : Int32))])) _
            refine XS.iload X129.here hx rfl (hb hby at_155) rfl ?_
            show Steps p.tables e below (T129.setTop (mkF m 157 #[.val (.long ha), .second, .val (.long la), .second, .val (.long h2), .second, .val (.long l2), .second, .val (.int xm), .val (.long hbb), .second, .val (.long lbb), .second, .val (.int (((xm.toUInt32 >>> ((2 : Int32) &&& 31).toUInt32).toInt32) &&& (3 : Int32))), .val (.ref b1), .val (.ref b3), .val (.int (0 : Int32)), .val (.ref b3), .val (.int (0 : Int32)), .val (.int (1 : Int32))] [(.int (0 : Int32)), (.int (0 : Int32))])) _
            refine XS.icmpNo X129.here hx rfl (hb hby at_157) rfl (teq (by decide : (0 : Int32) = (0 : Int32))).2 ?_
            show Steps p.tables e below (T129.setTop (mkF m 160 #[.val (.long ha), .second, .val (.long la), .second, .val (.long h2), .second, .val (.long l2), .second, .val (.int xm), .val (.long hbb), .second, .val (.long lbb), .second, .val (.int (((xm.toUInt32 >>> ((2 : Int32) &&& 31).toUInt32).toInt32) &&& (3 : Int32))), .val (.ref b1), .val (.ref b3), .val (.int (0 : Int32)), .val (.ref b3), .val (.int (0 : Int32)), .val (.int (1 : Int32))] [])) _
            refine XS.iconst X129.here hx rfl (hb hby at_160) ?_
            show Steps p.tables e below (T129.setTop (mkF m 161 #[.val (.long ha), .second, .val (.long la), .second, .val (.long h2), .second, .val (.long l2), .second, .val (.int xm), .val (.long hbb), .second, .val (.long lbb), .second, .val (.int (((xm.toUInt32 >>> ((2 : Int32) &&& 31).toUInt32).toInt32) &&& (3 : Int32))), .val (.ref b1), .val (.ref b3), .val (.int (0 : Int32)), .val (.ref b3), .val (.int (0 : Int32)), .val (.int (1 : Int32))] [(.int (1 : Int32))])) _
            refine XS.goto X129.here hx rfl (pc0 := 161) (pc' := 165) rfl (hb hby at_161) (by decide) (by decide) ?_
            show Steps p.tables e below (T129.setTop (mkF m 165 #[.val (.long ha), .second, .val (.long la), .second, .val (.long h2), .second, .val (.long l2), .second, .val (.int xm), .val (.long hbb), .second, .val (.long lbb), .second, .val (.int (((xm.toUInt32 >>> ((2 : Int32) &&& 31).toUInt32).toInt32) &&& (3 : Int32))), .val (.ref b1), .val (.ref b3), .val (.int (0 : Int32)), .val (.ref b3), .val (.int (0 : Int32)), .val (.int (1 : Int32))] [(.int (1 : Int32))])) _
            refine XS.istore X129.here hx rfl (hb hby at_165) rfl (l' := #[.val (.long ha), .second, .val (.long la), .second, .val (.long h2), .second, .val (.long l2), .second, .val (.int xm), .val (.long hbb), .second, .val (.long lbb), .second, .val (.int (((xm.toUInt32 >>> ((2 : Int32) &&& 31).toUInt32).toInt32) &&& (3 : Int32))), .val (.ref b1), .val (.ref b3), .val (.int (0 : Int32)), .val (.ref b3), .val (.int (0 : Int32)), .val (.int (1 : Int32))]) rfl ?_
            show Steps p.tables e below (T129.setTop (mkF m 167 #[.val (.long ha), .second, .val (.long la), .second, .val (.long h2), .second, .val (.long l2), .second, .val (.int xm), .val (.long hbb), .second, .val (.long lbb), .second, .val (.int (((xm.toUInt32 >>> ((2 : Int32) &&& 31).toUInt32).toInt32) &&& (3 : Int32))), .val (.ref b1), .val (.ref b3), .val (.int (0 : Int32)), .val (.ref b3), .val (.int (0 : Int32)), .val (.int (1 : Int32))] [])) _
            refine XS.iload X129.here hx rfl (hb hby at_167) rfl ?_
            show Steps p.tables e below (T129.setTop (mkF m 169 #[.val (.long ha), .second, .val (.long la), .second, .val (.long h2), .second, .val (.long l2), .second, .val (.int xm), .val (.long hbb), .second, .val (.long lbb), .second, .val (.int (((xm.toUInt32 >>> ((2 : Int32) &&& 31).toUInt32).toInt32) &&& (3 : Int32))), .val (.ref b1), .val (.ref b3), .val (.int (0 : Int32)), .val (.ref b3), .val (.int (0 : Int32)), .val (.int (1 : Int32))] [(.int (1 : Int32))])) _
            refine XS.ifNo X129.here hx rfl (hb hby at_169) rfl ((if0 _ _).trans (feq (by decide : ¬ ((1 : Int32) = (0 : Int32)))).1) ?_
            show Steps p.tables e below (T129.setTop (mkF m 172 #[.val (.long ha), .second, .val (.long la), .second, .val (.long h2), .second, .val (.long l2), .second, .val (.int xm), .val (.long hbb), .second, .val (.long lbb), .second, .val (.int (((xm.toUInt32 >>> ((2 : Int32) &&& 31).toUInt32).toInt32) &&& (3 : Int32))), .val (.ref b1), .val (.ref b3), .val (.int (0 : Int32)), .val (.ref b3), .val (.int (0 : Int32)), .val (.int (1 : Int32))] [])) _
            refine XS.aload X129.here hx rfl (hb hby at_172) rfl rfl ?_
            show Steps p.tables e below (T129.setTop (mkF m 174 #[.val (.long ha), .second, .val (.long la), .second, .val (.long h2), .second, .val (.long l2), .second, .val (.int xm), .val (.long hbb), .second, .val (.long lbb), .second, .val (.int (((xm.toUInt32 >>> ((2 : Int32) &&& 31).toUInt32).toInt32) &&& (3 : Int32))), .val (.ref b1), .val (.ref b3), .val (.int (0 : Int32)), .val (.ref b3), .val (.int (0 : Int32)), .val (.int (1 : Int32))] [(.ref b1)])) _
            refine XS.aload X129.here hx rfl (hb hby at_174) rfl rfl ?_
            show Steps p.tables e below (T129.setTop (mkF m 176 #[.val (.long ha), .second, .val (.long la), .second, .val (.long h2), .second, .val (.long l2), .second, .val (.int xm), .val (.long hbb), .second, .val (.long lbb), .second, .val (.int (((xm.toUInt32 >>> ((2 : Int32) &&& 31).toUInt32).toInt32) &&& (3 : Int32))), .val (.ref b1), .val (.ref b3), .val (.int (0 : Int32)), .val (.ref b3), .val (.int (0 : Int32)), .val (.int (1 : Int32))] [(.ref b1), (.ref b1)])) _
            refine st130.trans ?_
            show Steps p.tables e below (T130.setTop (mkF m 179 #[.val (.long ha), .second, .val (.long la), .second, .val (.long h2), .second, .val (.long l2), .second, .val (.int xm), .val (.long hbb), .second, .val (.long lbb), .second, .val (.int (((xm.toUInt32 >>> ((2 : Int32) &&& 31).toUInt32).toInt32) &&& (3 : Int32))), .val (.ref b1), .val (.ref b3), .val (.int (0 : Int32)), .val (.ref b3), .val (.int (0 : Int32)), .val (.int (1 : Int32))] [(.int (1 : Int32))])) _
            refine XS.ifNo X130.here hx rfl (hb hby at_179) rfl ((if0 _ _).trans (feq (by decide : ¬ ((1 : Int32) = (0 : Int32)))).1) ?_
            show Steps p.tables e below (T130.setTop (mkF m 182 #[.val (.long ha), .second, .val (.long la), .second, .val (.long h2), .second, .val (.long l2), .second, .val (.int xm), .val (.long hbb), .second, .val (.long lbb), .second, .val (.int (((xm.toUInt32 >>> ((2 : Int32) &&& 31).toUInt32).toInt32) &&& (3 : Int32))), .val (.ref b1), .val (.ref b3), .val (.int (0 : Int32)), .val (.ref b3), .val (.int (0 : Int32)), .val (.int (1 : Int32))] [])) _
            refine XS.iconst X130.here hx rfl (hb hby at_182) ?_
            show Steps p.tables e below (T130.setTop (mkF m 183 #[.val (.long ha), .second, .val (.long la), .second, .val (.long h2), .second, .val (.long l2), .second, .val (.int xm), .val (.long hbb), .second, .val (.long lbb), .second, .val (.int (((xm.toUInt32 >>> ((2 : Int32) &&& 31).toUInt32).toInt32) &&& (3 : Int32))), .val (.ref b1), .val (.ref b3), .val (.int (0 : Int32)), .val (.ref b3), .val (.int (0 : Int32)), .val (.int (1 : Int32))] [(.int (1 : Int32))])) _
            refine XS.goto X130.here hx rfl (pc0 := 183) (pc' := 187) rfl (hb hby at_183) (by decide) (by decide) ?_
            show Steps p.tables e below (T130.setTop (mkF m 187 #[.val (.long ha), .second, .val (.long la), .second, .val (.long h2), .second, .val (.long l2), .second, .val (.int xm), .val (.long hbb), .second, .val (.long lbb), .second, .val (.int (((xm.toUInt32 >>> ((2 : Int32) &&& 31).toUInt32).toInt32) &&& (3 : Int32))), .val (.ref b1), .val (.ref b3), .val (.int (0 : Int32)), .val (.ref b3), .val (.int (0 : Int32)), .val (.int (1 : Int32))] [(.int (1 : Int32))])) _
            refine XS.istore X130.here hx rfl (hb hby at_187) rfl (l' := #[.val (.long ha), .second, .val (.long la), .second, .val (.long h2), .second, .val (.long l2), .second, .val (.int xm), .val (.long hbb), .second, .val (.long lbb), .second, .val (.int (((xm.toUInt32 >>> ((2 : Int32) &&& 31).toUInt32).toInt32) &&& (3 : Int32))), .val (.ref b1), .val (.ref b3), .val (.int (0 : Int32)), .val (.ref b3), .val (.int (0 : Int32)), .val (.int (1 : Int32))]) rfl ?_
            show Steps p.tables e below (T130.setTop (mkF m 189 #[.val (.long ha), .second, .val (.long la), .second, .val (.long h2), .second, .val (.long l2), .second, .val (.int xm), .val (.long hbb), .second, .val (.long lbb), .second, .val (.int (((xm.toUInt32 >>> ((2 : Int32) &&& 31).toUInt32).toInt32) &&& (3 : Int32))), .val (.ref b1), .val (.ref b3), .val (.int (0 : Int32)), .val (.ref b3), .val (.int (0 : Int32)), .val (.int (1 : Int32))] [])) _
            refine XS.iload X130.here hx rfl (hb hby at_189) rfl ?_
            show Steps p.tables e below (T130.setTop (mkF m 191 #[.val (.long ha), .second, .val (.long la), .second, .val (.long h2), .second, .val (.long l2), .second, .val (.int xm), .val (.long hbb), .second, .val (.long lbb), .second, .val (.int (((xm.toUInt32 >>> ((2 : Int32) &&& 31).toUInt32).toInt32) &&& (3 : Int32))), .val (.ref b1), .val (.ref b3), .val (.int (0 : Int32)), .val (.ref b3), .val (.int (0 : Int32)), .val (.int (1 : Int32))] [(.int (1 : Int32))])) _
            exact kt
          obtain ⟨fs, hr, hrun, hended, hW, hsame⟩ := X130.leave (v := some (.int (1 : Int32))) (fun h => by rw [hret] at h; cases h) hlk
          refine ⟨_, _, go131 _ ?_, hrun, hended, _, _, rfl, ⟨rfl, N130⟩, ⟨_, rfl⟩, hW, hsame.mono (by decide) (by decide)⟩
          exact retN X130 hx (t := .boolean) hret (by simp) (hb hby at_191) hr
  · skip
    have go132 : ∀ t, Steps p.tables e below (T5.setTop (mkF m 86 #[.val (.long ha), .second, .val (.long la), .second, .val (.long h2), .second, .val (.long l2), .second, .val (.int xm), .val (.long hbb), .second, .val (.long lbb), .second, .val (.int (((xm.toUInt32 >>> ((2 : Int32) &&& 31).toUInt32).toInt32) &&& (3 : Int32))), .val (.ref b1), .val (.ref b3), .val (.int (0 : Int32)), .unset, .unset, .unset] [(.int (1 : Int32)), (.int (((xm.toUInt32 >>> ((2 : Int32) &&& 31).toUInt32).toInt32) &&& (3 : Int32)))])) t → Steps p.tables e below st0 t := by
      intro t kt
      refine go6 t ?_
      refine XS.ifYes X5.here hx rfl (pc0 := 66) (pc' := 80) rfl (hb hby at_66) rfl (Jvm.Free.XT.ll_ne_t hc7) (by decide) (by decide) ?_
      show Steps p.tables e below (T5.setTop (mkF m 80 #[.val (.long ha), .second, .val (.long la), .second, .val (.long h2), .second, .val (.long l2), .second, .val (.int xm), .val (.long hbb), .second, .val (.long lbb), .second, .val (.int (((xm.toUInt32 >>> ((2 : Int32) &&& 31).toUInt32).toInt32) &&& (3 : Int32))), .val (.ref b1), .val (.ref b3), .unset, .unset, .unset, .unset] [])) _
      refine XS.iconst X5.here hx rfl (hb hby at_80) ?_
      show Steps p.tables e below (T5.setTop (mkF m 81 #[.val (.long ha), .second, .val (.long la), .second, .val (.long h2), .second, .val (.long l2), .second, .val (.int xm), .val (.long hbb), .second, .val (.long lbb), .second, .val (.int (((xm.toUInt32 >>> ((2 : Int32) &&& 31).toUInt32).toInt32) &&& (3 : Int32))), .val (.ref b1), .val (.ref b3), .unset, .unset, .unset, .unset] [(.int (0 : Int32))])) _
      refine XS.istore X5.here hx rfl (hb hby at_81) rfl (l' := #[.val (.long ha), .second, .val (.long la), .second, .val (.long h2), .second, .val (.long l2), .second, .val (.int xm), .val (.long hbb), .second, .val (.long lbb), .second, .val (.int (((xm.toUInt32 >>> ((2 : Int32) &&& 31).toUInt32).toInt32) &&& (3 : Int32))), .val (.ref b1), .val (.ref b3), .val (.int (0 : Int32)), .unset, .unset, .unset]) rfl ?_
      show Steps p.tables e below (T5.setTop (mkF m 83 #[.val (.long ha), .second, .val (.long la), .second, .val (.long h2), .second, .val (.long l2), .second, .val (.int xm), .val (.long hbb), .second, .val (.long lbb), .second, .val (.int (((xm.toUInt32 >>> ((2 : Int32) &&& 31).toUInt32).toInt32) &&& (3 : Int32))), .val (.ref b1), .val (.ref b3), .val (.int (0 : Int32)), .unset, .unset, .unset] [])) _
      refine XS.iload X5.here hx rfl (hb hby at_83) rfl ?_
      show Steps p.tables e below (T5.setTop (mkF m 85 #[.val (.long ha), .second, .val (.long la), .second, .val (.long h2), .second, .val (.long l2), .second, .val (.int xm), .val (.long hbb), .second, .val (.long lbb), .second, .val (.int (((xm.toUInt32 >>> ((2 : Int32) &&& 31).toUInt32).toInt32) &&& (3 : Int32))), .val (.ref b1), .val (.ref b3), .val (.int (0 : Int32)), .unset, .unset, .unset] [(.int (((xm.toUInt32 >>> ((2 : Int32) &&& 31).toUInt32).toInt32) &&& (3 : Int32)))])) _
      refine XS.iconst X5.here hx rfl (hb hby at_85) ?_
      show Steps p.tables e below (T5.setTop (mkF m 86 #[.val (.long ha), .second, .val (.long la), .second, .val (.long h2), .second, .val (.long l2), .second, .val (.int xm), .val (.long hbb), .second, .val (.long lbb), .second, .val (.int (((xm.toUInt32 >>> ((2 : Int32) &&& 31).toUInt32).toInt32) &&& (3 : Int32))), .val (.ref b1), .val (.ref b3), .val (.int (0 : Int32)), .unset, .unset, .unset] [(.int (1 : Int32)), (.int (((xm.toUInt32 >>> ((2 : Int32) &&& 31).toUInt32).toInt32) &&& (3 : Int32)))])) _
      exact kt
    by_cases hc133 : (((xm.toUInt32 >>> ((2 : Int32) &&& 31).toUInt32).toInt32) &&& (3 : Int32)) = (1 : Int32)
    · skip
      have f135 : Exa Z T5.heap b1 "com/example/xmitq/xmitq/MessageId" := ((p2_0.ext E3).keep Kc5)
      obtain ⟨cq134, kq134, q134a, q134b, q134c⟩ := isOf hZ rfl f135
      obtain ⟨_, _, ⟨T134, L134, k134, n134⟩, -, X134, ⟨Lc134, hQ134, l134, y134, z134⟩, st134⟩ := X5.virtualBack hx (y := (⟨"com/example/xmitq/xmitq/MessageId", "equals", "(Ljava/lang/Object;)Z"⟩ : MethodName)) (z := (⟨"com/example/xmitq/xmitq/MessageId", "equals", "(Ljava/lang/Object;)Z"⟩ : MethodName)) hown (mvT hZ (hw _ (List.mem_of_getElem? (i := 13) rfl))) (mvT hZ (hw _ (List.mem_of_getElem? (i := 14) rfl))) (notFace_of_selects (args := #[]) (mvT hZ (hw _ (List.mem_of_getElem? (i := 16) rfl)))) (mvT hZ (hw _ (List.mem_of_getElem? (i := 16) rfl))) (mvT hZ (hw _ (List.mem_of_getElem? (i := 15) rfl))) (by decide) (backOf (W := 0) (own_eqNull l Z a0 hw [] b1 T5.heap n0 Z5 ) hZ (hw _ (List.mem_of_getElem? (i := 17) rfl)) (hw _ (List.mem_of_getElem? (i := 2) rfl)) (by decide) (by decide)) q134a q134c (g := (mkF m 128 #[.val (.long ha), .second, .val (.long la), .second, .val (.long h2), .second, .val (.long l2), .second, .val (.int xm), .val (.long hbb), .second, .val (.long lbb), .second, .val (.int (((xm.toUInt32 >>> ((2 : Int32) &&& 31).toUInt32).toInt32) &&& (3 : Int32))), .val (.ref b1), .val (.ref b3), .val (.int (0 : Int32)), .val .null, .val (.int (0 : Int32)), .unset] [.null, (.ref b1)])) rfl (by rw [hml]; rfl) (Steps.refl _) (argsL := [.null]) (rest := []) (lenOf pd_12 rfl) rfl (by show 2 * 0 + _ ≤ _; exact Nat.le_of_eq rfl) (hb hby at_128) (fun _ _ => ⟨rfl, rfl, (by decide : 2 + 0 ≤ _), (by decide : 4 + 0 ≤ _)⟩)
      dsimp only [Pt.U, Pt.locs, Pt.cells, Pt.slots] at X134 l134 y134 z134 st134 hQ134
      subst l134 y134 z134
      obtain ⟨rfl, Nq134, e134⟩ := hQ134
      have N134 := Fr.app N5 Nq134
      have f136 : Fld Z T5.heap b1 "com/example/xmitq/xmitq/MessageId" "high" "J" (.long ha) := ((p2_1.ext E3).keep Kc5 (ninS ne3_b1 nin0))
      obtain ⟨cq137, kq137, q137a, q137b, q137c⟩ := isOf hZ e134 p5_0
      obtain ⟨_, _, ⟨T137, L137, k137, n137⟩, -, X137, ⟨Lc137, hQ137, l137, y137, z137⟩, st137⟩ := X134.virtualBack hx (y := (⟨"com/example/xmitq/xmitq/MessageId", "equals", "(Ljava/lang/Object;)Z"⟩ : MethodName)) (z := (⟨"com/example/xmitq/xmitq/MessageId", "equals", "(Ljava/lang/Object;)Z"⟩ : MethodName)) hown (mvT hZ (hw _ (List.mem_of_getElem? (i := 13) rfl))) (mvT hZ (hw _ (List.mem_of_getElem? (i := 14) rfl))) (notFace_of_selects (args := #[]) (mvT hZ (hw _ (List.mem_of_getElem? (i := 16) rfl)))) (mvT hZ (hw _ (List.mem_of_getElem? (i := 16) rfl))) (mvT hZ (hw _ (List.mem_of_getElem? (i := 15) rfl))) (by decide) (backOf (W := 0) (own_eqN l Z a0 hw [] b3 b1 hbb ha T5.heap n0 Z5 f135 p5_1 f136 (Ne.symm hc7)) hZ (hw _ (List.mem_of_getElem? (i := 17) rfl)) (hw _ (List.mem_of_getElem? (i := 2) rfl)) (by decide) (by decide)) q137a q137c (g := (mkF m 152 #[.val (.long ha), .second, .val (.long la), .second, .val (.long h2), .second, .val (.long l2), .second, .val (.int xm), .val (.long hbb), .second, .val (.long lbb), .second, .val (.int (((xm.toUInt32 >>> ((2 : Int32) &&& 31).toUInt32).toInt32) &&& (3 : Int32))), .val (.ref b1), .val (.ref b3), .val (.int (0 : Int32)), .val .null, .val (.int (0 : Int32)), .val (.int (1 : Int32))] [(.ref b1), (.ref b3)])) rfl (by rw [hml]; rfl) (Steps.refl _) (argsL := [(.ref b1)]) (rest := []) (lenOf pd_12 rfl) rfl (by show 2 * 0 + _ ≤ _; exact Nat.le_of_eq rfl) (hb hby at_152) (fun _ _ => ⟨rfl, e134, (by decide : 2 + 0 ≤ _), (by decide : 4 + 0 ≤ _)⟩)
      dsimp only [Pt.U, Pt.locs, Pt.cells, Pt.slots] at X137 l137 y137 z137 st137 hQ137
      subst l137 y137 z137
      obtain ⟨rfl, Nq137, e137⟩ := hQ137
      have N137 := Fr.app N134 Nq137
      have f138 : Fld Z T5.heap b1 "com/example/xmitq/xmitq/MessageId" "low" "J" (.long la) := ((p2_2.ext E3).keep Kc5 (ninS ne3_b1 nin0))
      obtain ⟨cq139, kq139, q139a, q139b, q139c⟩ := isOf hZ e137 f135
      obtain ⟨_, _, ⟨T139, L139, k139, n139⟩, -, X139, ⟨Lc139, hQ139, l139, y139, z139⟩, st139⟩ := X137.virtualBack hx (y := (⟨"com/example/xmitq/xmitq/MessageId", "equals", "(Ljava/lang/Object;)Z"⟩ : MethodName)) (z := (⟨"com/example/xmitq/xmitq/MessageId", "equals", "(Ljava/lang/Object;)Z"⟩ : MethodName)) hown (mvT hZ (hw _ (List.mem_of_getElem? (i := 13) rfl))) (mvT hZ (hw _ (List.mem_of_getElem? (i := 14) rfl))) (notFace_of_selects (args := #[]) (mvT hZ (hw _ (List.mem_of_getElem? (i := 16) rfl)))) (mvT hZ (hw _ (List.mem_of_getElem? (i := 16) rfl))) (mvT hZ (hw _ (List.mem_of_getElem? (i := 15) rfl))) (by decide) (backOf (W := 0) (own_eqYY l Z a0 hw [] b1 b1 ha ha la la T5.heap n0 Z5 f135 f136 f136 (rfl : ha = ha) f138 f138 (rfl : la = la)) hZ (hw _ (List.mem_of_getElem? (i := 17) rfl)) (hw _ (List.mem_of_getElem? (i := 2) rfl)) (by decide) (by decide)) q139a q139c (g := (mkF m 176 #[.val (.long ha), .second, .val (.long la), .second, .val (.long h2), .second, .val (.long l2), .second, .val (.int xm), .val (.long hbb), .second, .val (.long lbb), .second, .val (.int (((xm.toUInt32 >>> ((2 : Int32) &&& 31).toUInt32).toInt32) &&& (3 : Int32))), .val (.ref b1), .val (.ref b3), .val (.int (0 : Int32)), .val .null, .val (.int (0 : Int32)), .val (.int (1 : Int32))] [(.ref b1), (.ref b1)])) rfl (by rw [hml]; rfl) (Steps.refl _) (argsL := [(.ref b1)]) (rest := []) (lenOf pd_12 rfl) rfl (by show 2 * 0 + _ ≤ _; exact Nat.le_of_eq rfl) (hb hby at_176) (fun _ _ => ⟨rfl, e137, (by decide : 2 + 0 ≤ _), (by decide : 4 + 0 ≤ _)⟩)
      dsimp only [Pt.U, Pt.locs, Pt.cells, Pt.slots] at X139 l139 y139 z139 st139 hQ139
      subst l139 y139 z139
      obtain ⟨rfl, Nq139, e139⟩ := hQ139
      have N139 := Fr.app N137 Nq139
      have go140 : ∀ t, Steps p.tables e below (T139.setTop (mkF m 191 #[.val (.long ha), .second, .val (.long la), .second, .val (.long h2), .second, .val (.long l2), .second, .val (.int xm), .val (.long hbb), .second, .val (.long lbb), .second, .val (.int (((xm.toUInt32 >>> ((2 : Int32) &&& 31).toUInt32).toInt32) &&& (3 : Int32))), .val (.ref b1), .val (.ref b3), .val (.int (0 : Int32)), .val .null, .val (.int (0 : Int32)), .val (.int (1 : Int32))] [(.int (1 : Int32))])) t → Steps p.tables e below st0 t := by
        intro t kt
        refine go132 t ?_
        refine XS.icmpNo X5.here hx rfl (hb hby at_86) rfl (teq hc133).2 ?_
        show Steps p.tables e below (T5.setTop (mkF m 89 #[.val (.long ha), .second, .val (.long la), .second, .val (.long h2), .second, .val (.long l2), .second, .val (.int xm), .val (.long hbb), .second, .val (.long lbb), .second, .val (.int (((xm.toUInt32 >>> ((2 : Int32) &&& 31).toUInt32).toInt32) &&& (3 : Int32))), .val (.ref b1), .val (.ref b3), .val (.int (0 : Int32)), .unset, .unset, .unset] [])) _
        refine XS.aconstNull X5.here hx rfl (hb hby at_89) ?_
        show Steps p.tables e below (T5.setTop (mkF m 90 #[.val (.long ha), .second, .val (.long la), .second, .val (.long h2), .second, .val (.long l2), .second, .val (.int xm), .val (.long hbb), .second, .val (.long lbb), .second, .val (.int (((xm.toUInt32 >>> ((2 : Int32) &&& 31).toUInt32).toInt32) &&& (3 : Int32))), .val (.ref b1), .val (.ref b3), .val (.int (0 : Int32)), .unset, .unset, .unset] [.null])) _
        refine XS.astore X5.here hx rfl (hb hby at_90) rfl rfl (l' := #[.val (.long ha), .second, .val (.long la), .second, .val (.long h2), .second, .val (.long l2), .second, .val (.int xm), .val (.long hbb), .second, .val (.long lbb), .second, .val (.int (((xm.toUInt32 >>> ((2 : Int32) &&& 31).toUInt32).toInt32) &&& (3 : Int32))), .val (.ref b1), .val (.ref b3), .val (.int (0 : Int32)), .val .null, .unset, .unset]) rfl ?_
        show Steps p.tables e below (T5.setTop (mkF m 92 #[.val (.long ha), .second, .val (.long la), .second, .val (.long h2), .second, .val (.long l2), .second, .val (.int xm), .val (.long hbb), .second, .val (.long lbb), .second, .val (.int (((xm.toUInt32 >>> ((2 : Int32) &&& 31).toUInt32).toInt32) &&& (3 : Int32))), .val (.ref b1), .val (.ref b3), .val (.int (0 : Int32)), .val .null, .unset, .unset] [])) _
        refine XS.iconst X5.here hx rfl (hb hby at_92) ?_
        show Steps p.tables e below (T5.setTop (mkF m 93 #[.val (.long ha), .second, .val (.long la), .second, .val (.long h2), .second, .val (.long l2), .second, .val (.int xm), .val (.long hbb), .second, .val (.long lbb), .second, .val (.int (((xm.toUInt32 >>> ((2 : Int32) &&& 31).toUInt32).toInt32) &&& (3 : Int32))), .val (.ref b1), .val (.ref b3), .val (.int (0 : Int32)), .val .null, .unset, .unset] [(.int (0 : Int32))])) _
        refine XS.istore X5.here hx rfl (hb hby at_93) rfl (l' := #[.val (.long ha), .second, .val (.long la), .second, .val (.long h2), .second, .val (.long l2), .second, .val (.int xm), .val (.long hbb), .second, .val (.long lbb), .second, .val (.int (((xm.toUInt32 >>> ((2 : Int32) &&& 31).toUInt32).toInt32) &&& (3 : Int32))), .val (.ref b1), .val (.ref b3), .val (.int (0 : Int32)), .val .null, .val (.int (0 : Int32)), .unset]) rfl ?_
        show Steps p.tables e below (T5.setTop (mkF m 95 #[.val (.long ha), .second, .val (.long la), .second, .val (.long h2), .second, .val (.long l2), .second, .val (.int xm), .val (.long hbb), .second, .val (.long lbb), .second, .val (.int (((xm.toUInt32 >>> ((2 : Int32) &&& 31).toUInt32).toInt32) &&& (3 : Int32))), .val (.ref b1), .val (.ref b3), .val (.int (0 : Int32)), .val .null, .val (.int (0 : Int32)), .unset] [])) _
        refine XS.goto X5.here hx rfl (pc0 := 95) (pc' := 124) rfl (hb hby at_95) (by decide) (by decide) ?_
        show Steps p.tables e below (T5.setTop (mkF m 124 #[.val (.long ha), .second, .val (.long la), .second, .val (.long h2), .second, .val (.long l2), .second, .val (.int xm), .val (.long hbb), .second, .val (.long lbb), .second, .val (.int (((xm.toUInt32 >>> ((2 : Int32) &&& 31).toUInt32).toInt32) &&& (3 : Int32))), .val (.ref b1), .val (.ref b3), .val (.int (0 : Int32)), .val .null, .val (.int (0 : Int32)), .unset] [])) _
        refine XS.aload X5.here hx rfl (hb hby at_124) rfl rfl ?_
        show Steps p.tables e below (T5.setTop (mkF m 126 #[.val (.long ha), .second, .val (.long la), .second, .val (.long h2), .second, .val (.long l2), .second, .val (.int xm), .val (.long hbb), .second, .val (.long lbb), .second, .val (.int (((xm.toUInt32 >>> ((2 : Int32) &&& 31).toUInt32).toInt32) &&& (3 : Int32))), .val (.ref b1), .val (.ref b3), .val (.int (0 : Int32)), .val .null, .val (.int (0 : Int32)), .unset] [(.ref b1)])) _
        refine XS.aload X5.here hx rfl (hb hby at_126) rfl rfl ?_
        show Steps p.tables e below (T5.setTop (mkF m 128 #[.val (.long ha), .second, .val (.long la), .second, .val (.long h2), .second, .val (.long l2), .second, .val (.int xm), .val (.long hbb), .second, .val (.long lbb), .second, .val (.int (((xm.toUInt32 >>> ((2 : Int32) &&& 31).toUInt32).toInt32) &&& (3 : Int32))), .val (.ref b1), .val (.ref b3), .val (.int (0 : Int32)), .val .null, .val (.int (0 : Int32)), .unset] [.null, (.ref b1)])) _
        refine st134.trans ?_
        show Steps p.tables e below (T134.setTop (mkF m 131 #[.val (.long ha), .second, .val (.long la), .second, .val (.long h2), .second, .val (.long l2), .second, .val (.int xm), .val (.long hbb), .second, .val (.long lbb), .second, .val (.int (((xm.toUInt32 >>> ((2 : Int32) &&& 31).toUInt32).toInt32) &&& (3 : Int32))), .val (.ref b1), .val (.ref b3), .val (.int (0 : Int32)), .val .null, .val (.int (0 : Int32)), .unset] [(.int (0 : Int32))])) _
        refine XS.iload X134.here hx rfl (hb hby at_131) rfl ?_
        show Steps p.tables e below (T134.setTop (mkF m 133 #[.val (.long ha), .second, .val (.long la), .second, .val (.long h2), .second, .val (.long l2), .second, .val (.int xm), .val (.long hbb), .second, .val (.long lbb), .second, .val (.int (((xm.toUInt32 >>> ((2 : Int32) &&& 31).toUInt32).toInt32) &&& (3 : Int32))), .val (.ref b1), .val (.ref b3), .val (.int (0 : Int32)), .val .null, .val (.int (0 : Int32)), .unset] [(.int (0 : Int32)), (.int (0 : Int32))])) _
        refine XS.icmpNo X134.here hx rfl (hb hby at_133) rfl (teq (by decide : (0 : Int32) = (0 : Int32))).2 ?_
        show Steps p.tables e below (T134.setTop (mkF m 136 #[.val (.long ha), .second, .val (.long la), .second, .val (.long h2), .second, .val (.long l2), .second, .val (.int xm), .val (.long hbb), .second, .val (.long lbb), .second, .val (.int (((xm.toUInt32 >>> ((2 : Int32) &&& 31).toUInt32).toInt32) &&& (3 : Int32))), .val (.ref b1), .val (.ref b3), .val (.int (0 : Int32)), .val .null, .val (.int (0 : Int32)), .unset] [])) _
        refine XS.iconst X134.here hx rfl (hb hby at_136) ?_
        show Steps p.tables e below (T134.setTop (mkF m 137 #[.val (.long ha), .second, .val (.long la), .second, .val (.long h2), .second, .val (.long l2), .second, .val (.int xm), .val (.long hbb), .second, .val (.long lbb), .second, .val (.int (((xm.toUInt32 >>> ((2 : Int32) &&& 31).toUInt32).toInt32) &&& (3 : Int32))), .val (.ref b1), .val (.ref b3), .val (.int (0 : Int32)), .val .null, .val (.int (0 : Int32)), .unset] [(.int (1 : Int32))])) _
        refine XS.goto X134.here hx rfl (pc0 := 137) (pc' := 141) rfl (hb hby at_137) (by decide) (by decide) ?_
        show Steps p.tables e below (T134.setTop (mkF m 141 #[.val (.long ha), .second, .val (.long la), .second, .val (.long h2), .second, .val (.long l2), .second, .val (.int xm), .val (.long hbb), .second, .val (.long lbb), .second, .val (.int (((xm.toUInt32 >>> ((2 : Int32) &&& 31).toUInt32).toInt32) &&& (3 : Int32))), .val (.ref b1), .val (.ref b3), .val (.int (0 : Int32)), .val .null, .val (.int (0 : Int32)), .unset] [(.int (1 : Int32))])) _
        refine XS.istore X134.here hx rfl (hb hby at_141) rfl (l' := #[.val (.long ha), .second, .val (.long la), .second, .val (.long h2), .second, .val (.long l2), .second, .val (.int xm), .val (.long hbb), .second, .val (.long lbb), .second, .val (.int (((xm.toUInt32 >>> ((2 : Int32) &&& 31).toUInt32).toInt32) &&& (3 : Int32))), .val (.ref b1), .val (.ref b3), .val (.int (0 : Int32)), .val .null, .val (.int (0 : Int32)), .val (.int (1 : Int32))]) rfl ?_
        show Steps p.tables e below (T134.setTop (mkF m 143 #[.val (.long ha), .second, .val (.long la), .second, .val (.long h2), .second, .val (.long l2), .second, .val (.int xm), .val (.long hbb), .second, .val (.long lbb), .second, .val (.int (((xm.toUInt32 >>> ((2 : Int32) &&& 31).toUInt32).toInt32) &&& (3 : Int32))), .val (.ref b1), .val (.ref b3), .val (.int (0 : Int32)), .val .null, .val (.int (0 : Int32)), .val (.int (1 : Int32))] [])) _
        refine XS.iload X134.here hx rfl (hb hby at_143) rfl ?_
        show Steps p.tables e below (T134.setTop (mkF m 145 #[.val (.long ha), .second, .val (.long la), .second, .val (.long h2), .second, .val (.long l2), .second, .val (.int xm), .val (.long hbb), .second, .val (.long lbb), .second, .val (.int (((xm.toUInt32 >>> ((2 : Int32) &&& 31).toUInt32).toInt32) &&& (3 : Int32))), .val (.ref b1), .val (.ref b3), .val (.int (0 : Int32)), .val .null, .val (.int (0 : Int32)), .val (.int (1 : Int32))] [(.int (1 : Int32))])) _
        refine XS.ifNo X134.here hx rfl (hb hby at_145) rfl ((if0 _ _).trans (feq (by decide : ¬ ((1 : Int32) = (0 : Int32)))).1) ?_
        show Steps p.tables e below (T134.setTop (mkF m 148 #[.val (.long ha), .second, .val (.long la), .second, .val (.long h2), .second, .val (.long l2), .second, .val (.int xm), .val (.long hbb), .second, .val (.long lbb), .second, .val (.int (((xm.toUInt32 >>> ((2 : Int32) &&& 31).toUInt32).toInt32) &&& (3 : Int32))), .val (.ref b1), .val (.ref b3), .val (.int (0 : Int32)), .val .null, .val (.int (0 : Int32)), .val (.int (1 : Int32))] [])) _
        refine XS.aload X134.here hx rfl (hb hby at_148) rfl rfl ?_
        show Steps p.tables e below (T134.setTop (mkF m 150 #[.val (.long ha), .second, .val (.long la), .second, .val (.long h2), .second, .val (.long l2), .second, .val (.int xm), .val (.long hbb), .second, .val (.long lbb), .second, .val (.int (((xm.toUInt32 >>> ((2 : Int32) &&& 31).toUInt32).toInt32) &&& (3 : Int32))), .val (.ref b1), .val (.ref b3), .val (.int (0 : Int32)), .val .null, .val (.int (0 : Int32)), .val (.int (1 : Int32))] [(.ref b3)])) _
        refine XS.aload X134.here hx rfl (hb hby at_150) rfl rfl ?_
        show Steps p.tables e below (T134.setTop (mkF m 152 #[.val (.long ha), .second, .val (.long la), .second, .val (.long h2), .second, .val (.long l2), .second, .val (.int xm), .val (.long hbb), .second, .val (.long lbb), .second, .val (.int (((xm.toUInt32 >>> ((2 : Int32) &&& 31).toUInt32).toInt32) &&& (3 : Int32))), .val (.ref b1), .val (.ref b3), .val (.int (0 : Int32)), .val .null, .val (.int (0 : Int32)), .val (.int (1 : Int32))] [(.ref b1), (.ref b3)])) _
        refine st137.trans ?_
        show Steps p.tables e below (T137.setTop (mkF m 155 #[.val (.long ha), .second, .val (.long la), .second, .val (.long h2), .second, .val (.long l2), .second, .val (.int xm), .val (.long hbb), .second, .val (.long lbb), .second, .val (.int (((xm.toUInt32 >>> ((2 : Int32) &&& 31).toUInt32).toInt32) &&& (3 : Int32))), .val (.ref b1), .val (.ref b3), .val (.int (0 : Int32)), .val .null, .val (.int (0 : Int32)), .val (.int (1 : Int32))] [(.int (0 : Int32))])) _
        refine XS.iload X137.here hx rfl (hb hby at_155) rfl ?_
        show Steps p.tables e below (T137.setTop (mkF m 157 #[.val (.long ha), .second, .val (.long la), .second, .val (.long h2), .second, .val (.long l2), .second, .val (.int xm), .val (.long hbb), .second, .val (.long lbb), .second, .val (.int (((xm.toUInt32 >>> ((2 : Int32) &&& 31).toUInt32).toInt32) &&& (3 : Int32))), .val (.ref b1), .val (.ref b3), .val (.int (0 : Int32)), .val .null, .val (.int (0 : Int32)), .val (.int (1 : Int32))] [(.int (0 : Int32)), (.int (0 : Int32))])) _
        refine XS.icmpNo X137.here hx rfl (hb hby at_157) rfl (teq (by decide : (0 : Int32) = (0 : Int32))).2 ?_
        show Steps p.tables e below (T137.setTop (mkF m 160 #[.val (.long ha), .second, .val (.long la), .second, .val (.long h2), .second, .val (.long l2), .second, .val (.int xm), .val (.long hbb), .second, .val (.long lbb), .second, .val (.int (((xm.toUInt32 >>> ((2 : Int32) &&& 31).toUInt32).toInt32) &&& (3 : Int32))), .val (.ref b1), .val (.ref b3), .val (.int (0 : Int32)), .val .null, .val (.int (0 : Int32)), .val (.int (1 : Int32))] [])) _
        refine XS.iconst X137.here hx rfl (hb hby at_160) ?_
        show Steps p.tables e below (T137.setTop (mkF m 161 #[.val (.long ha), .second, .val (.long la), .second, .val (.long h2), .second, .val (.long l2), .second, .val (.int xm), .val (.long hbb), .second, .val (.long lbb), .second, .val (.int (((xm.toUInt32 >>> ((2 : Int32) &&& 31).toUInt32).toInt32) &&& (3 : Int32))), .val (.ref b1), .val (.ref b3), .val (.int (0 : Int32)), .val .null, .val (.int (0 : Int32)), .val (.int (1 : Int32))] [(.int (1 : Int32))])) _
        refine XS.goto X137.here hx rfl (pc0 := 161) (pc' := 165) rfl (hb hby at_161) (by decide) (by decide) ?_
        show Steps p.tables e below (T137.setTop (mkF m 165 #[.val (.long ha), .second, .val (.long la), .second, .val (.long h2), .second, .val (.long l2), .second, .val (.int xm), .val (.long hbb), .second, .val (.long lbb), .second, .val (.int (((xm.toUInt32 >>> ((2 : Int32) &&& 31).toUInt32).toInt32) &&& (3 : Int32))), .val (.ref b1), .val (.ref b3), .val (.int (0 : Int32)), .val .null, .val (.int (0 : Int32)), .val (.int (1 : Int32))] [(.int (1 : Int32))])) _
        refine XS.istore X137.here hx rfl (hb hby at_165) rfl (l' := #[.val (.long ha), .second, .val (.long la), .second, .val (.long h2), .second, .val (.long l2), .second, .val (.int xm), .val (.long hbb), .second, .val (.long lbb), .second, .val (.int (((xm.toUInt32 >>> ((2 : Int32) &&& 31).toUInt32).toInt32) &&& (3 : Int32))), .val (.ref b1), .val (.ref b3), .val (.int (0 : Int32)), .val .null, .val (.int (0 : Int32)), .val (.int (1 : Int32))]) rfl ?_
        show Steps p.tables e below (T137.setTop (mkF m 167 #[.val (.long ha), .second, .val (.long la), .second, .val (.long h2), .second, .val (.long l2), .second, .val (.int xm), .val (.long hbb), .second, .val (.long lbb), .second, .val (.int (((xm.toUInt32 >>> ((2 : Int32) &&& 31).toUInt32).toInt32) &&& (3 : Int32))), .val (.ref b1), .val (.ref b3), .val (.int (0 : Int32)), .val .null, .val (.int (0 : Int32)), .val (.int (1 : Int32))] [])) _
        refine XS.iload X137.here hx rfl (hb hby at_167) rfl ?_
        show Steps p.tables e below (T137.setTop (mkF m 169 #[.val (.long ha), .second, .val (.long la), .second, .val (.long h2), .second, .val (.long l2), .second, .val (.int xm), .val (.long hbb), .second, .val (.long lbb), .second, .val (.int (((xm.toUInt32 >>> ((2 : Int32) &&& 31).toUInt32).toInt32) &&& (3 : Int32))), .val (.ref b1), .val (.ref b3), .val (.int (0 : Int32)), .val .null, .val (.int (0 : Int32)), .val (.int (1 : Int32))] [(.int (1 : Int32))])) _
        refine XS.ifNo X137.here hx rfl (hb hby at_169) rfl ((if0 _ _).trans (feq (by decide : ¬ ((1 : Int32) = (0 : Int32)))).1) ?_
        show Steps p.tables e below (T137.setTop (mkF m 172 #[.val (.long ha), .second, .val (.long la), .second, .val (.long h2), .second, .val (.long l2), .second, .val (.int xm), .val (.long hbb), .second, .val (.long lbb), .second, .val (.int (((xm.toUInt32 >>> ((2 : Int32) &&& 31).toUInt32).toInt32) &&& (3 : Int32))), .val (.ref b1), .val (.ref b3), .val (.int (0 : Int32)), .val .null, .val (.int (0 : Int32)), .val (.int (1 : Int32))] [])) _
        refine XS.aload X137.here hx rfl (hb hby at_172) rfl rfl ?_
        show Steps p.tables e below (T137.setTop (mkF m 174 #[.val (.long ha), .second, .val (.long la), .second, .val (.long h2), .second, .val (.long l2), .second, .val (.int xm), .val (.long hbb), .second, .val (.long lbb), .second, .val (.int (((xm.toUInt32 >>> ((2 : Int32) &&& 31).toUInt32).toInt32) &&& (3 : Int32))), .val (.ref b1), .val (.ref b3), .val (.int (0 : Int32)), .val .null, .val (.int (0 : Int32)), .val (.int (1 : Int32))] [(.ref b1)])) _
        refine XS.aload X137.here hx rfl (hb hby at_174) rfl rfl ?_
        show Steps p.tables e below (T137.setTop (mkF m 176 #[.val (.long ha), .second, .val (.long la), .second, .val (.long h2), .second, .val (.long l2), .second, .val (.int xm), .val (.long hbb), .second, .val (.long lbb), .second, .val (.int (((xm.toUInt32 >>> ((2 : Int32) &&& 31).toUInt32).toInt32) &&& (3 : Int32))), .val (.ref b1), .val (.ref b3), .val (.int (0 : Int32)), .val .null, .val (.int (0 : Int32)), .val (.int (1 : Int32))] [(.ref b1), (.ref b1)])) _
        refine st139.trans ?_
        show Steps p.tables e below (T139.setTop (mkF m 179 #[.val (.long ha), .second, .val (.long la), .second, .val (.long h2), .second, .val (.long l2), .second, .val (.int xm), .val (.long hbb), .second, .val (.long lbb), .second, .val (.int (((xm.toUInt32 >>> ((2 : Int32) &&& 31).toUInt32).toInt32) &&& (3 : Int32))), .val (.ref b1), .val (.ref b3), .val (.int (0 : Int32)), .val .null, .val (.int (0 : Int32)), .val (.int (1 : Int32))] [(.int (1 : Int32))])) _
        refine XS.ifNo X139.here hx rfl (hb hby at_179) rfl ((if0 _ _).trans (feq (by decide : ¬ ((1 : Int32) = (0 : Int32)))).1) ?_
        show Steps p.tables e below (T139.setTop (mkF m 182 #[.val (.long ha), .second, .val (.long la), .second, .val (.long h2), .second, .val (.long l2), .second, .val (.int xm), .val (.long hbb), .second, .val (.long lbb), .second, .val (.int (((xm.toUInt32 >>> ((2 : Int32) &&& 31).toUInt32).toInt32) &&& (3 : Int32))), .val (.ref b1), .val (.ref b3), .val (.int (0 : Int32)), .val .null, .val (.int (0 : Int32)), .val (.int (1 : Int32))] [])) _
        refine XS.iconst X139.here hx rfl (hb hby at_182) ?_
        show Steps p.tables e below (T139.setTop (mkF m 183 #[.val (.long ha), .second, .val (.long la), .second, .val (.long h2), .second, .val (.long l2), .second, .val (.int xm), .val (.long hbb), .second, .val (.long lbb), .second, .val (.int (((xm.toUInt32 >>> ((2 : Int32) &&& 31).toUInt32).toInt32) &&& (3 : Int32))), .val (.ref b1), .val (.ref b3), .val (.int (0 : Int32)), .val .null, .val (.int (0 : Int32)), .val (.int (1 : Int32))] [(.int (1 : Int32))])) _
        refine XS.goto X139.here hx rfl (pc0 := 183) (pc' := 187) rfl (hb hby at_183) (by decide) (by decide) ?_
        show Steps p.tables e below (T139.setTop (mkF m 187 #[.val (.long ha), .second, .val (.long la), .second, .val (.long h2), .second, .val (.long l2), .second, .val (.int xm), .val (.long hbb), .second, .val (.long lbb), .second, .val (.int (((xm.toUInt32 >>> ((2 : Int32) &&& 31).toUInt32).toInt32) &&& (3 : Int32))), .val (.ref b1), .val (.ref b3), .val (.int (0 : Int32)), .val .null, .val (.int (0 : Int32)), .val (.int (1 : Int32))] [(.int (1 : Int32))])) _
        refine XS.istore X139.here hx rfl (hb hby at_187) rfl (l' := #[.val (.long ha), .second, .val (.long la), .second, .val (.long h2), .second, .val (.long l2), .second, .val (.int xm), .val (.long hbb), .second, .val (.long lbb), .second, .val (.int (((xm.toUInt32 >>> ((2 : Int32) &&& 31).toUInt32).toInt32) &&& (3 : Int32))), .val (.ref b1), .val (.ref b3), .val (.int (0 : Int32)), .val .null, .val (.int (0 : Int32)), .val (.int (1 : Int32))]) rfl ?_
        show Steps p.tables e below (T139.setTop (mkF m 189 #[.val (.long ha), .second, .val (.long la), .second, .val (.long h2), .second, .val (.long l2), .second, .val (.int xm), .val (.long hbb), .second, .val (.long lbb), .second, .val (.int (((xm.toUInt32 >>> ((2 : Int32) &&& 31).toUInt32).toInt32) &&& (3 : Int32))), .val (.ref b1), .val (.ref b3), .val (.int (0 : Int32)), .val .null, .val (.int (0 : Int32)), .val (.int (1 : Int32))] [])) _
        refine XS.iload X139.here hx rfl (hb hby at_189) rfl ?_
        show Steps p.tables e below (T139.setTop (mkF m 191 #[.val (.long ha), .second, .val (.long la), .second, .val (.long h2), .second, .val (.long l2), .second, .val (.int xm), .val (.long hbb), .second, .val (.long lbb), .second, .val (.int (((xm.toUInt32 >>> ((2 : Int32) &&& 31).toUInt32).toInt32) &&& (3 : Int32))), .val (.ref b1), .val (.ref b3), .val (.int (0 : Int32)), .val .null, .val (.int (0 : Int32)), .val (.int (1 : Int32))] [(.int (1 : Int32))])) _
        exact kt
      obtain ⟨fs, hr, hrun, hended, hW, hsame⟩ := X139.leave (v := some (.int (1 : Int32))) (fun h => by rw [hret] at h; cases h) hlk
      refine ⟨_, _, go140 _ ?_, hrun, hended, _, _, rfl, ⟨rfl, N139⟩, ⟨_, rfl⟩, hW, hsame.mono (by decide) (by decide)⟩
      exact retN X139 hx (t := .boolean) hret (by simp) (hb hby at_191) hr
    · skip
      have go141 : ∀ t, Steps p.tables e below (T5.setTop (mkF m 101 #[.val (.long ha), .second, .val (.long la), .second, .val (.long h2), .second, .val (.long l2), .second, .val (.int xm), .val (.long hbb), .second, .val (.long lbb), .second, .val (.int (((xm.toUInt32 >>> ((2 : Int32) &&& 31).toUInt32).toInt32) &&& (3 : Int32))), .val (.ref b1), .val (.ref b3), .val (.int (0 : Int32)), .unset, .unset, .unset] [(.int (2 : Int32)), (.int (((xm.toUInt32 >>> ((2 : Int32) &&& 31).toUInt32).toInt32) &&& (3 : Int32)))])) t → Steps p.tables e below st0 t := by
        intro t kt
        refine go132 t ?_
        refine XS.icmpYes X5.here hx rfl (pc0 := 86) (pc' := 98) rfl (hb hby at_86) rfl (feq hc133).2 (by decide) (by decide) ?_
        show Steps p.tables e below (T5.setTop (mkF m 98 #[.val (.long ha), .second, .val (.long la), .second, .val (.long h2), .second, .val (.long l2), .second, .val (.int xm), .val (.long hbb), .second, .val (.long lbb), .second, .val (.int (((xm.toUInt32 >>> ((2 : Int32) &&& 31).toUInt32).toInt32) &&& (3 : Int32))), .val (.ref b1), .val (.ref b3), .val (.int (0 : Int32)), .unset, .unset, .unset] [])) _
        refine XS.iload X5.here hx rfl (hb hby at_98) rfl ?_
        show Steps p.tables e below (T5.setTop (mkF m 100 #[.val (.long ha), .second, .val (.long la), .second, .val (.long h2), .second, .val (.long l2), .second, .val (.int xm), .val (.long hbb), .second, .val (.long lbb), .second, .val (.int (((xm.toUInt32 >>> ((2 : Int32) &&& 31).toUInt32).toInt32) &&& (3 : Int32))), .val (.ref b1), .val (.ref b3), .val (.int (0 : Int32)), .unset, .unset, .unset] [(.int (((xm.toUInt32 >>> ((2 : Int32) &&& 31).toUInt32).toInt32) &&& (3 : Int32)))])) _
        refine XS.iconst X5.here hx rfl (hb hby at_100) ?_
        show Steps p.tables e below (T5.setTop (mkF m 101 #[.val (.long ha), .second, .val (.long la), .second, .val (.long h2), .second, .val (.long l2), .second, .val (.int xm), .val (.long hbb), .second, .val (.long lbb), .second, .val (.int (((xm.toUInt32 >>> ((2 : Int32) &&& 31).toUInt32).toInt32) &&& (3 : Int32))), .val (.ref b1), .val (.ref b3), .val (.int (0 : Int32)), .unset, .unset, .unset] [(.int (2 : Int32)), (.int (((xm.toUInt32 >>> ((2 : Int32) &&& 31).toUInt32).toInt32) &&& (3 : Int32)))])) _
        exact kt
      by_cases hc142 : (((xm.toUInt32 >>> ((2 : Int32) &&& 31).toUInt32).toInt32) &&& (3 : Int32)) = (2 : Int32)
      · skip
        have go143 : ∀ t, Steps p.tables e below (T5.setTop (mkF m 105 #[.val (.long ha), .second, .val (.long la), .second, .val (.long h2), .second, .val (.long l2), .second, .val (.int xm), .val (.long hbb), .second, .val (.long lbb), .second, .val (.int (((xm.toUInt32 >>> ((2 : Int32) &&& 31).toUInt32).toInt32) &&& (3 : Int32))), .val (.ref b1), .val (.ref b3), .val (.int (0 : Int32)), .unset, .unset, .unset] [(.long ha)])) t → Steps p.tables e below st0 t := by
          intro t kt
          refine go141 t ?_
          refine XS.icmpNo X5.here hx rfl (hb hby at_101) rfl (teq hc142).2 ?_
          show Steps p.tables e below (T5.setTop (mkF m 104 #[.val (.long ha), .second, .val (.long la), .second, .val (.long h2), .second, .val (.long l2), .second, .val (.int xm), .val (.long hbb), .second, .val (.long lbb), .second, .val (.int (((xm.toUInt32 >>> ((2 : Int32) &&& 31).toUInt32).toInt32) &&& (3 : Int32))), .val (.ref b1), .val (.ref b3), .val (.int (0 : Int32)), .unset, .unset, .unset] [])) _
          refine XS.lloadN X5.here hx rfl (hb hby at_104) rfl ?_
          show Steps p.tables e below (T5.setTop (mkF m 105 #[.val (.long ha), .second, .val (.long la), .second, .val (.long h2), .second, .val (.long l2), .second, .val (.int xm), .val (.long hbb), .second, .val (.long lbb), .second, .val (.int (((xm.toUInt32 >>> ((2 : Int32) &&& 31).toUInt32).toInt32) &&& (3 : Int32))), .val (.ref b1), .val (.ref b3), .val (.int (0 : Int32)), .unset, .unset, .unset] [(.long ha)])) _
          exact kt
        by_cases hc144 : ha < (-128 : Int64)
        · skip
          obtain ⟨_, _, ⟨T145, L145, k145, n145⟩, -, X145, ⟨Lc145, hQ145, l145, y145, z145⟩, st145⟩ := Jvm.LawKit.callS X5 hx (y := (⟨"java/lang/Long", "valueOf", "(J)Ljava/lang/Long;"⟩ : MethodName)) hown (mvT hZ (hw _ (List.mem_of_getElem? (i := 20) rfl))) (mvT hZ (hw _ (List.mem_of_getElem? (i := 21) rfl))) (mvT hZ (hw _ (List.mem_of_getElem? (i := 22) rfl))) (mvT hZ (hw _ (List.mem_of_getElem? (i := 23) rfl))) (by decide) (backOf (W := 0) (own_vLo l Z a0 hw [] ha T5.heap n0 Z5 hc144) hZ (hw _ (List.mem_of_getElem? (i := 23) rfl)) (hw _ (List.mem_of_getElem? (i := 22) rfl)) (by decide) (by decide)) (g := (mkF m 105 #[.val (.long ha), .second, .val (.long la), .second, .val (.long h2), .second, .val (.long l2), .second, .val (.int xm), .val (.long hbb), .second, .val (.long lbb), .second, .val (.int (((xm.toUInt32 >>> ((2 : Int32) &&& 31).toUInt32).toInt32) &&& (3 : Int32))), .val (.ref b1), .val (.ref b3), .val (.int (0 : Int32)), .unset, .unset, .unset] [(.long ha)])) rfl (by rw [hml]; rfl) (argsL := [(.long ha)]) (rest := []) (lenOf pd_13 rfl) rfl (by show 2 * 0 + _ ≤ _; exact Nat.le_of_eq rfl) (hb hby at_105) (fun _ _ => ⟨rfl, rfl, (by decide : 2 + 1 ≤ _), (by decide : 4 + 1 ≤ _)⟩)
          dsimp only [Pt.U, Pt.locs, Pt.cells, Pt.slots] at X145 l145 y145 z145 st145 hQ145
          subst l145 y145 z145
          obtain ⟨Nq145, b145_0, rfl, szb145_0, Kc145, p145_0⟩ := hQ145
          have N145 := Fr.app N5 Nq145
          have f146 : Exa Z T5.heap b1 "com/example/xmitq/xmitq/MessageId" := ((p2_0.ext E3).keep Kc5)
          have ne_b145_0_b1 : b1 ≠ b145_0 := Nat.ne_of_lt (Nat.lt_of_lt_of_le f146.lt szb145_0)
          have f147 : Arv Z T5.heap ca kc (.object "java/lang/Long") (256 : Int32) vs .null := ((f4.ext E3).keep Kc5 (ninS ne3_ca nin0))
          have ne_b145_0_ca : ca ≠ b145_0 := Nat.ne_of_lt (Nat.lt_of_lt_of_le f147.lt szb145_0)
          have ne_b145_0_b3 : b3 ≠ b145_0 := Nat.ne_of_lt (Nat.lt_of_lt_of_le p5_0.lt szb145_0)
          have ge_b145_0 : n0 ≤ b145_0 := Nat.le_trans Z5 szb145_0
          have Z145 : n0 ≤ T145.heap.size := Nat.le_trans Z5 Kc145.1
          have f149 : Exa Z T145.heap b1 "com/example/xmitq/xmitq/MessageId" := (f146.keep Kc145)
          obtain ⟨cq148, kq148, q148a, q148b, q148c⟩ := isOf hZ rfl f149
          obtain ⟨_, _, ⟨T148, L148, k148, n148⟩, -, X148, ⟨Lc148, hQ148, l148, y148, z148⟩, st148⟩ := X145.virtualBack hx (y := (⟨"com/example/xmitq/xmitq/MessageId", "equals", "(Ljava/lang/Object;)Z"⟩ : MethodName)) (z := (⟨"com/example/xmitq/xmitq/MessageId", "equals", "(Ljava/lang/Object;)Z"⟩ : MethodName)) hown (mvT hZ (hw _ (List.mem_of_getElem? (i := 13) rfl))) (mvT hZ (hw _ (List.mem_of_getElem? (i := 14) rfl))) (notFace_of_selects (args := #[]) (mvT hZ (hw _ (List.mem_of_getElem? (i := 16) rfl)))) (mvT hZ (hw _ (List.mem_of_getElem? (i := 16) rfl))) (mvT hZ (hw _ (List.mem_of_getElem? (i := 15) rfl))) (by decide) (backOf (W := 0) (own_eqLong l Z a0 hw [] b1 b145_0 T145.heap n0 Z145 p145_0) hZ (hw _ (List.mem_of_getElem? (i := 17) rfl)) (hw _ (List.mem_of_getElem? (i := 2) rfl)) (by decide) (by decide)) q148a q148c (g := (mkF m 128 #[.val (.long ha), .second, .val (.long la), .second, .val (.long h2), .second, .val (.long l2), .second, .val (.int xm), .val (.long hbb), .second, .val (.long lbb), .second, .val (.int (((xm.toUInt32 >>> ((2 : Int32) &&& 31).toUInt32).toInt32) &&& (3 : Int32))), .val (.ref b1), .val (.ref b3), .val (.int (0 : Int32)), .val (.ref b145_0), .val (.int (0 : Int32)), .unset] [(.ref b145_0), (.ref b1)])) rfl (by rw [hml]; rfl) (Steps.refl _) (argsL := [(.ref b145_0)]) (rest := []) (lenOf pd_12 rfl) rfl (by show 2 * 0 + _ ≤ _; exact Nat.le_of_eq rfl) (hb hby at_128) (fun _ _ => ⟨rfl, rfl, (by decide : 3 + 0 ≤ _), (by decide : 5 + 0 ≤ _)⟩)
          dsimp only [Pt.U, Pt.locs, Pt.cells, Pt.slots] at X148 l148 y148 z148 st148 hQ148
          subst l148 y148 z148
          obtain ⟨rfl, Nq148, e148⟩ := hQ148
          have N148 := Fr.app N145 Nq148
          have f150 : Fld Z T145.heap b3 "com/example/xmitq/xmitq/MessageId" "high" "J" (.long hbb) := (p5_1.keep Kc145 nin0)
          have f151 : Fld Z T145.heap b1 "com/example/xmitq/xmitq/MessageId" "high" "J" (.long ha) := (((p2_1.ext E3).keep Kc5 (ninS ne3_b1 nin0)).keep Kc145 nin0)
          have f153 : Exa Z T145.heap b3 "com/example/xmitq/xmitq/MessageId" := (p5_0.keep Kc145)
          obtain ⟨cq152, kq152, q152a, q152b, q152c⟩ := isOf hZ e148 f153
          obtain ⟨_, _, ⟨T152, L152, k152, n152⟩, -, X152, ⟨Lc152, hQ152, l152, y152, z152⟩, st152⟩ := X148.virtualBack hx (y := (⟨"com/example/xmitq/xmitq/MessageId", "equals", "(Ljava/lang/Object;)Z"⟩ : MethodName)) (z := (⟨"com/example/xmitq/xmitq/MessageId", "equals", "(Ljava/lang/Object;)Z"⟩ : MethodName)) hown (mvT hZ (hw _ (List.mem_of_getElem? (i := 13) rfl))) (mvT hZ (hw _ (List.mem_of_getElem? (i := 14) rfl))) (notFace_of_selects (args := #[]) (mvT hZ (hw _ (List.mem_of_getElem? (i := 16) rfl)))) (mvT hZ (hw _ (List.mem_of_getElem? (i := 16) rfl))) (mvT hZ (hw _ (List.mem_of_getElem? (i := 15) rfl))) (by decide) (backOf (W := 0) (own_eqN l Z a0 hw [] b3 b1 hbb ha T145.heap n0 Z145 f149 f150 f151 (Ne.symm hc7)) hZ (hw _ (List.mem_of_getElem? (i := 17) rfl)) (hw _ (List.mem_of_getElem? (i := 2) rfl)) (by decide) (by decide)) q152a q152c (g := (mkF m 152 #[.val (.long ha), .second, .val (.long la), .second, .val (.long h2), .second, .val (.long l2), .second, .val (.int xm), .val (.long hbb), .second, .val (.long lbb), .second, .val (.int (((xm.toUInt32 >>> ((2 : Int32) &&& 31).toUInt32).toInt32) &&& (3 : Int32))), .val (.ref b1), .val (.ref b3), .val (.int (0 : Int32)), .val (.ref b145_0), .val (.int (0 : Int32)), .val (.int (1 : Int32))] [(.ref b1), (.ref b3)])) rfl (by rw [hml]; rfl) (Steps.refl _) (argsL := [(.ref b1)]) (rest := []) (lenOf pd_12 rfl) rfl (by show 2 * 0 + _ ≤ _; exact Nat.le_of_eq rfl) (hb hby at_152) (fun _ _ => ⟨rfl, e148, (by decide : 3 + 0 ≤ _), (by decide : 5 + 0 ≤ _)⟩)
          dsimp only [Pt.U, Pt.locs, Pt.cells, Pt.slots] at X152 l152 y152 z152 st152 hQ152
          subst l152 y152 z152
          obtain ⟨rfl, Nq152, e152⟩ := hQ152
          have N152 := Fr.app N148 Nq152
          have f154 : Fld Z T145.heap b1 "com/example/xmitq/xmitq/MessageId" "low" "J" (.long la) := (((p2_2.ext E3).keep Kc5 (ninS ne3_b1 nin0)).keep Kc145 nin0)
          obtain ⟨cq155, kq155, q155a, q155b, q155c⟩ := isOf hZ e152 f149
          obtain ⟨_, _, ⟨T155, L155, k155, n155⟩, -, X155, ⟨Lc155, hQ155, l155, y155, z155⟩, st155⟩ := X152.virtualBack hx (y := (⟨"com/example/xmitq/xmitq/MessageId", "equals", "(Ljava/lang/Object;)Z"⟩ : MethodName)) (z := (⟨"com/example/xmitq/xmitq/MessageId", "equals", "(Ljava/lang/Object;)Z"⟩ : MethodName)) hown (mvT hZ (hw _ (List.mem_of_getElem? (i := 13) rfl))) (mvT hZ (hw _ (List.mem_of_getElem? (i := 14) rfl))) (notFace_of_selects (args := #[]) (mvT hZ (hw _ (List.mem_of_getElem? (i := 16) rfl)))) (mvT hZ (hw _ (List.mem_of_getElem? (i := 16) rfl))) (mvT hZ (hw _ (List.mem_of_getElem? (i := 15) rfl))) (by decide) (backOf (W := 0) (own_eqYY l Z a0 hw [] b1 b1 ha ha la la T145.heap n0 Z145 f149 f151 f151 (rfl : ha = ha) f154 f154 (rfl : la = la)) hZ (hw _ (List.mem_of_getElem? (i := 17) rfl)) (hw _ (List.mem_of_getElem? (i := 2) rfl)) (by decide) (by decide)) q155a q155c (g := (mkF m 176 #[.val (.long ha), .second, .val (.long la), .second, .val (.long h2), .second, .val (.long l2), .second, .val (.int xm), .val (.long hbb), .second, .val (.long lbb), .second, .val (.int (((xm.toUInt32 >>> ((2 : Int32) &&& 31).toUInt32).toInt32) &&& (3 : Int32))), .val (.ref b1), .val (.ref b3), .val (.int (0 : Int32)), .val (.ref b145_0), .val (.int (0 : Int32)), .val (.int (1 : Int32))] [(.ref b1), (.ref b1)])) rfl (by rw [hml]; rfl) (Steps.refl _) (argsL := [(.ref b1)]) (rest := []) (lenOf pd_12 rfl) rfl (by show 2 * 0 + _ ≤ _; exact Nat.le_of_eq rfl) (hb hby at_176) (fun _ _ => ⟨rfl, e152, (by decide : 3 + 0 ≤ _), (by decide : 5 + 0 ≤ _)⟩)
          dsimp only [Pt.U, Pt.locs, Pt.cells, Pt.slots] at X155 l155 y155 z155 st155 hQ155
          subst l155 y155 z155
          obtain ⟨rfl, Nq155, e155⟩ := hQ155
          have N155 := Fr.app N152 Nq155
          have go156 : ∀ t, Steps p.tables e below (T155.setTop (mkF m 191 #[.val (.long ha), .second, .val (.long la), .second, .val (.long h2), .second, .val (.long l2), .second, .val (.int xm), .val (.long hbb), .second, .val (.long lbb), .second, .val (.int (((xm.toUInt32 >>> ((2 : Int32) &&& 31).toUInt32).toInt32) &&& (3 : Int32))), .val (.ref b1), .val (.ref b3), .val (.int (0 : Int32)), .val (.ref b145_0), .val (.int (0 : Int32)), .val (.int (1 : Int32))] [(.int (1 : Int32))])) t → Steps p.tables e below st0 t := by
            intro t kt
            refine go143 t ?_
            refine st145 _ ?_
            show Steps p.tables e below (T145.setTop (mkF m 108 #[.val (.long ha), .second, .val (.long la), .second, .val (.long h2), .second, .val (.long l2), .second, .val (.int xm), .val (.long hbb), .second, .val (.long lbb), .second, .val (.int (((xm.toUInt32 >>> ((2 : Int32) &&& 31).toUInt32).toInt32) &&& (3 : Int32))), .val (.ref b1), .val (.ref b3), .val (.int (0 : Int32)), .unset, .unset, .unset] [(.ref b145_0)])) _
            refine XS.astore X145.here hx rfl (hb hby at_108) rfl rfl (l' := #[.val (.long ha), .second, .val (.long la), .second, .val (.long h2), .second, .val (.long l2), .second, .val (.int xm), .val (.long hbb), .second, .val (.long lbb), .second, .val (.int (((xm.toUInt32 >>> ((2 : Int32) &&& 31).toUInt32).toInt32) &&& (3 : Int32))), .val (.ref b1), .val (.ref b3), .val (.int (0 : Int32)), .val (.ref b145_0), .unset, .unset]) rfl ?_
            show Steps p.tables e below (T145.setTop (mkF m 110 #[.val (.long ha), .second, .val (.long la), .second, .val (.long h2), .second, .val (.long l2), .second, .val (.int xm), .val (.long hbb), .second, .val (.long lbb), .second, .val (.int (((xm.toUInt32 >>> ((2 : Int32) &&& 31).toUInt32).toInt32) &&& (3 : Int32))), .val (.ref b1), .val (.ref b3), .val (.int (0 : Int32)), .val (.ref b145_0), .unset, .unset] [])) _
            refine XS.iconst X145.here hx rfl (hb hby at_110) ?_
            show Steps p.tables e below (T145.setTop (mkF m 111 #[.val (.long ha), .second, .val (.long la), .second, .val (.long h2), .second, .val (.long l2), .second, .val (.int xm), .val (.long hbb), .second, .val (.long lbb), .second, .val (.int (((xm.toUInt32 >>> ((2 : Int32) &&& 31).toUInt32).toInt32) &&& (3 : Int32))), .val (.ref b1), .val (.ref b3), .val (.int (0 : Int32)), .val (.ref b145_0), .unset, .unset] [(.int (0 : Int32))])) _
            refine XS.istore X145.here hx rfl (hb hby at_111) rfl (l' := #[.val (.long ha), .second, .val (.long la), .second, .val (.long h2), .second, .val (.long l2), .second, .val (.int xm), .val (.long hbb), .second, .val (.long lbb), .second, .val (.int (((xm.toUInt32 >>> ((2 : Int32) &&& 31).toUInt32).toInt32) &&& (3 : Int32))), .val (.ref b1), .val (.ref b3), .val (.int (0 : Int32)), .val (.ref b145_0), .val (.int (0 : Int32)), .unset]) rfl ?_
            show Steps p.tables e below (T145.setTop (mkF m 113 #[.val (.long ha), .second, .val (.long la), .second, .val (.long h2), .second, .val (.long l2), .second, .val (.int xm), .val (.long hbb), .second, .val (.long lbb), .second, .val (.int (((xm.toUInt32 >>> ((2 : Int32) &&& 31).toUInt32).toInt32) &&& (3 : Int32))), .val (.ref b1), .val (.ref b3), .val (.int (0 : Int32)), .val (.ref b145_0), .val (.int (0 : Int32)), .unset] [])) _
            refine XS.goto X145.here hx rfl (pc0 := 113) (pc' := 124) rfl (hb hby at_113) (by decide) (by decide) ?_
            show Steps p.tables e below (T145.setTop (mkF m 124 #[.val (.long ha), .second, .val (.long la), .second, .val (.long h2), .second, .val (.long l2), .second, .val (.int xm), .val (.long hbb), .second, .val (.long lbb), .second, .val (.int (((xm.toUInt32 >>> ((2 : Int32) &&& 31).toUInt32).toInt32) &&& (3 : Int32))), .val (.ref b1), .val (.ref b3), .val (.int (0 : Int32)), .val (.ref b145_0), .val (.int (0 : Int32)), .unset] [])) _
            refine XS.aload X145.here hx rfl (hb hby at_124) rfl rfl ?_
            show Steps p.tables e below (T145.setTop (mkF m 126 #[.val (.long ha), .second, .val (.long la), .second, .val (.long h2), .second, .val (.long l2), .second, .val (.int xm), .val (.long hbb), .second, .val (.long lbb), .second, .val (.int (((xm.toUInt32 >>> ((2 : Int32) &&& 31).toUInt32).toInt32) &&& (3 : Int32))), .val (.ref b1), .val (.ref b3), .val (.int (0 : Int32)), .val (.ref b145_0), .val (.int (0 : Int32)), .unset] [(.ref b1)])) _
            refine XS.aload X145.here hx rfl (hb hby at_126) rfl rfl ?_
            show Steps p.tables e below (T145.setTop (mkF m 128 #[.val (.long ha), .second, .val (.long la), .second, .val (.long h2), .second, .val (.long l2), .second, .val (.int xm), .val (.long hbb), .second, .val (.long lbb), .second, .val (.int (((xm.toUInt32 >>> ((2 : Int32) &&& 31).toUInt32).toInt32) &&& (3 : Int32))), .val (.ref b1), .val (.ref b3), .val (.int (0 : Int32)), .val (.ref b145_0), .val (.int (0 : Int32)), .unset] [(.ref b145_0), (.ref b1)])) _
            refine st148.trans ?_
            show Steps p.tables e below (T148.setTop (mkF m 131 #[.val (.long ha), .second, .val (.long la), .second, .val (.long h2), .second, .val (.long l2), .second, .val (.int xm), .val (.long hbb), .second, .val (.long lbb), .second, .val (.int (((xm.toUInt32 >>> ((2 : Int32) &&& 31).toUInt32).toInt32) &&& (3 : Int32))), .val (.ref b1), .val (.ref b3), .val (.int (0 : Int32)), .val (.ref b145_0), .val (.int (0 : Int32)), .unset] [(.int (0 : Int32))])) _
            refine XS.iload X148.here hx rfl (hb hby at_131) rfl ?_
            show Steps p.tables e below (T148.setTop (mkF m 133 #[.val (.long ha), .second, .val (.long la), .second, .val (.long h2), .second, .val (.long l2), .second, .val (.int xm), .val (.long hbb), .second, .val (.long lbb), .second, .val (.int (((xm.toUInt32 >>> ((2 : Int32) &&& 31).toUInt32).toInt32) &&& (3 : Int32))), .val (.ref b1), .val (.ref b3), .val (.int (0 : Int32)), .val (.ref b145_0), .val (.int (0 : Int32)), .unset] [(.int (0 : Int32)), (.int (0 : Int32))])) _
            refine XS.icmpNo X148.here hx rfl (hb hby at_133) rfl (teq (by decide : (0 : Int32) = (0 : Int32))).2 ?_
            show Steps p.tables e below (T148.setTop (mkF m 136 #[.val (.long ha), .second, .val (.long la), .second, .val (.long h2), .second, .val (.long l2), .second, .val (.int xm), .val (.long hbb), .second, .val (.long lbb), .second, .val (.int (((xm.toUInt32 >>> ((2 : Int32) &&& 31).toUInt32).toInt32) &&& (3 : Int32))), .val (.ref b1), .val (.ref b3), .val (.int (0 : Int32)), .val (.ref b145_0), .val (.int (0 : Int32)), .unset] [])) _
            refine XS.iconst X148.here hx rfl (hb hby at_136) ?_
            show Steps p.tables e below (T148.setTop (mkF m 137 #[.val (.long ha), .second, .val (.long la), .second, .val (.long h2), .second, .val (.long l2), .second, .val (.int xm), .val (.long hbb), .second, .val (.long lbb), .second, .val (.int (((xm.toUInt32 >>> ((2 : Int32) &&& 31).toUInt32).toInt32) &&& (3 : Int32))), .val (.ref b1), .val (.ref b3), .val (.int (0 : Int32)), .val (.ref b145_0), .val (.int (0 : Int32)), .unset] [(.int (1 : Int32))])) _
            refine XS.goto X148.here hx rfl (pc0 := 137) (pc' := 141) rfl (hb hby at_137) (by decide) (by decide) ?_
            show Steps p.tables e below (T148.setTop (mkF m 141 #[.val (.long ha), .second, .val (.long la), .second, .val (.long h2), .second, .val (.long l2), .second, .val (.int xm), .val (.long hbb), .second, .val (.long lbb), .second, .val (.int (((xm.toUInt32 >>> ((2 : Int32) &&& 31).toUInt32).toInt32) &&& (3 : Int32))), .val (.ref b1), .val (.ref b3), .val (.int (0 : Int32)), .val (.ref b145_0), .val (.int (0 : Int32)), .unset] [(.int (1 : Int32))])) _
            refine XS.istore X148.here hx rfl (hb hby at_141) rfl (l' := #[.val (.long ha), .second, .val (.long la), .second, .val (.long h2), .second, .val (.long l2), .second, .val (.int xm), .val (.long hbb), .second, .val (.long lbb), .second, .val (.int (((xm.toUInt32 >>> ((2 : Int32) &&& 31).toUInt32).toInt32) &&& (3 : Int32))), .val (.ref b1), .val (.ref b3), .val (.int (0 : Int32)), .val (.ref b145_0), .val (.int (0 : Int32)), .val (.int (1 : Int32))]) rfl ?_
            show Steps p.tables e below (T148.setTop (mkF m 143 #[.val (.long ha), .second, .val (.long la), .second, .val (.long h2), .second, .val (.long l2), .second, .val (.int xm), .val (.long hbb), .second, .val (.long lbb), .second, .val (.int (((xm.toUInt32 >>> ((2 : Int32) &&& 31).toUInt32).toInt32) &&& (3 : Int32))), .val (.ref b1), .val (.ref b3), .val (.int (0 : Int32)), .val (.ref b145_0), .val (.int (0 : Int32)), .val (.int (1 : Int32))] [])) _
            refine XS.iload X148.here hx rfl (hb hby at_143) rfl ?_
            show Steps p.tables e below (T148.setTop (mkF m 145 #[.val (.long ha), .second, .val (.long la), .second, .val (.long h2), .second, .val (.long l2), .second, .val (.int xm), .val (.long hbb), .second, .val (.long lbb), .second, .val (.int (((xm.toUInt32 >>> ((2 : Int32) &&& 31).toUInt32).toInt32) &&& (3 : Int32))), .val (.ref b1), .val (.ref b3), .val (.int (0 : Int32)), .val (.ref b145_0), .val (.int (0 : Int32)), .val (.int (1 : Int32))] [(.int (1 : Int32))])) _
            refine XS.ifNo X148.here hx rfl (hb hby at_145) rfl ((if0 _ _).trans (feq (by decide : ¬ ((1 : Int32) = (0 : Int32)))).1) ?_
            show Steps p.tables e below (T148.setTop (mkF m 148 #[.val (.long ha), .second, .val (.long la), .second, .val (.long h2), .second, .val (.long l2), .second, .val (.int xm), .val (.long hbb), .second, .val (.long lbb), .second, .val (.int (((xm.toUInt32 >>> ((2 : Int32) &&& 31).toUInt32).toInt32) &&& (3 : Int32))), .val (.ref b1), .val (.ref b3), .val (.int (0 : Int32)), .val (.ref b145_0), .val (.int (0 : Int32)), .val (.int (1 : Int32))] [])) _
            refine XS.aload X148.here hx rfl (hb hby at_148) rfl rfl ?_
            show Steps p.tables e below (T148.setTop (mkF m 150 #[.val (.long ha), .second, .val (.long la), .second, .val (.long h2), .second, .val (.long l2), .second, .val (.int xm), .val (.long hbb), .second, .val (.long lbb), .second, .val (.int (((xm.toUInt32 >>> ((2 : Int32) &&& 31).toUInt32).toInt32) &&& (3 : Int32))), .val (.ref b1), .val (.ref b3), .val (.int (0 : Int32)), .val (.ref b145_0), .val (.int (0 : Int32)), .val (.int (1 : Int32))] [(.ref b3)])) _
            refine XS.aload X148.here hx rfl (hb hby at_150) rfl rfl ?_
            show Steps p.tables e below (T148.setTop (mkF m 152 #[.val (.long ha), .second, .val (.long la), .second, .val (.long h2), .second, .val (.long l2), .second, .val (.int xm), .val (.long hbb), .second, .val (.long lbb), .second, .val (.int (((xm.toUInt32 >>> ((2 : Int32) &&& 31).toUInt32).toInt32) &&& (3 : Int32))), .val (.ref b1), .val (.ref b3), .val (.int (0 : Int32)), .val (.ref b145_0), .val (.int (0 : Int32)), .val (.int (1 : Int32))] [(.ref b1), (.ref b3)])) _
            refine st152.trans ?_
            show Steps p.tables e below (T152.setTop (mkF m 155 #[.val (.long ha), .second, .val (.long la), .second, .val (.long h2), .second, .val (.long l2), .second, .val (.int xm), .val (.long hbb), .second, .val (.long lbb), .second, .val (.int (((xm.toUInt32 >>> ((2 : Int32) &&& 31).toUInt32).toInt32) &&& (3 : Int32))), .val (.ref b1), .val (.ref b3), .val (.int (0 : Int32)), .val (.ref b145_0), .val (.int (0 : Int32)), .val (.int (1 : Int32))] [(.int (0 : Int32))])) _
            refine XS.iload X152.here hx rfl (hb hby at_155) rfl ?_
            show Steps p.tables e below (T152.setTop (mkF m 157 #[.val (.long ha), .second, .val (.long la), .second, .val (.long h2), .second, .val (.long l2), .second, .val (.int xm), .val (.long hbb), .second, .val (.long lbb), .second, .val (.int (((xm.toUInt32 >>> ((2 : Int32) &&& 31).toUInt32).toInt32) &&& (3 : Int32))), .val (.ref b1), .val (.ref b3), .val (.int (0 : Int32)), .val (.ref b145_0), .val (.int (0 : Int32)), .val (.int (1 : Int32))] [(.int (0 : Int32)), (.int (0 : Int32))])) _
            refine XS.icmpNo X152.here hx rfl (hb hby at_157) rfl (teq (by decide : (0 : Int32) = (0 : Int32))).2 ?_
            show Steps p.tables e below (T152.setTop (mkF m 160 #[.val (.long ha), .second, .val (.long la), .second, .val (.long h2), .second, .val (.long l2), .second, .val (.int xm), .val (.long hbb), .second, .val (.long lbb), .second, .val (.int (((xm.toUInt32 >>> ((2 : Int32) &&& 31).toUInt32).toInt32) &&& (3 : Int32))), .val (.ref b1), .val (.ref b3), .val (.int (0 : Int32)), .val (.ref b145_0), .val (.int (0 : Int32)), .val (.int (1 : Int32))] [])) _
            refine XS.iconst X152.here hx rfl (hb hby at_160) ?_
            show Steps p.tables e below (T152.setTop (mkF m 161 #[.val (.long ha), .second, .val (.long la), .second, .val (.long h2), .second, .val (.long l2), .second, .val (.int xm), .val (.long hbb), .second, .val (.long lbb), .second, .val (.int (((xm.toUInt32 >>> ((2 : Int32) &&& 31).toUInt32).toInt32) &&& (3 : Int32))), .val (.ref b1), .val (.ref b3), .val (.int (0 : Int32)), .val (.ref b145_0), .val (.int (0 : Int32)), .val (.int (1 : Int32))] [(.int (1 : Int32))])) _
            refine XS.goto X152.here hx rfl (pc0 := 161) (pc' := 165) rfl (hb hby at_161) (by decide) (by decide) ?_
            show Steps p.tables e below (T152.setTop (mkF m 165 #[.val (.long ha), .second, .val (.long la), .second, .val (.long h2), .second, .val (.long l2), .second, .val (.int xm), .val (.long hbb), .second, .val (.long lbb), .second, .val (.int (((xm.toUInt32 >>> ((2 : Int32) &&& 31).toUInt32).toInt32) &&& (3 : Int32))), .val (.ref b1), .val (.ref b3), .val (.int (0 : Int32)), .val (.ref b145_0), .val (.int (0 : Int32)), .val (.int (1 : Int32))] [(.int (1 : Int32))])) _
            refine XS.istore X152.here hx rfl (hb hby at_165) rfl (l' := #[.val (.long ha), .second, .val (.long la), .second, .val (.long h2), .second, .val (.long l2), .second, .val (.int xm), .val (.long hbb), .second, .val (.long lbb), .second, .val (.int (((xm.toUInt32 >>> ((2 : Int32) &&& 31).toUInt32).toInt32) &&& (3 : Int32))), .val (.ref b1), .val (.ref b3), .val (.int (0 : Int32)), .val (.ref b145_0), .val (.int (0 : Int32)), .val (.int (1 : Int32))]) rfl ?_
            show Steps p.tables e below (T152.setTop (mkF m 167 #[.val (.long ha), .second, .val (.long la), .second, .val (.long h2), .second, .val (.long l2), .second, .val (.int xm), .val (.long hbb), .second, .val (.long lbb), .second, .val (.int (((xm.toUInt32 >>> ((2 : Int32) &&& 31).toUInt32).toInt32) &&& (3 : Int32))), .val (.ref b1), .val (.ref b3), .val (.int (0 : Int32)), .val (.ref b145_0), .val (.int (0 : Int32)), .val (.int (1 : Int32))] [])) _
            refine XS.iload X152.here hx rfl (hb hby at_167) rfl ?_
            show Steps p.tables e below (T152.setTop (mkF m 169 #[.val (.long ha), .second, .val (.long la), .second, .val (.long h2), .second, .val (.long l2), .second, .val (.int xm), .val (.long hbb), .second, .val (.long lbb), .second, .val (.int (((xm.toUInt32 >>> ((2 : Int32) &&& 31).toUInt32).toInt32) &&& (3 : Int32))), .val (.ref b1), .val (.ref b3), .val (.int (0 : Int32)), .val (.ref b145_0), .val (.int (0 : Int32)), .val (.int (1 : Int32))] [(.int (1 : Int32))])) _
            refine XS.ifNo X152.here hx rfl (hb hby at_169) rfl ((if0 _ _).trans (feq (by decide : ¬ ((1 : Int32) = (0 : Int32)))).1) ?_
            show Steps p.tables e below (T152.setTop (mkF m 172 #[.val (.long ha), .second, .val (.long la), .second, .val (.long h2), .second, .val (.long l2), .second, .val (.int xm), .val (.long hbb), .second, .val (.long lbb), .second, .val (.int (((xm.toUInt32 >>> ((2 : Int32) &&& 31).toUInt32).toInt32) &&& (3 : Int32))), .val (.ref b1), .val (.ref b3), .val (.int (0 : Int32)), .val (.ref b145_0), .val (.int (0 : Int32)), .val (.int (1 : Int32))] [])) _
            refine XS.aload X152.here hx rfl (hb hby at_172) rfl rfl ?_
            show Steps p.tables e below (T152.setTop (mkF m 174 #[.val (.long ha), .second, .val (.long la), .second, .val (.long h2), .second, .val (.long l2), .second, .val (.int xm), .val (.long hbb), .second, .val (.long lbb), .second, .val (.int (((xm.toUInt32 >>> ((2 : Int32) &&& 31).toUInt32).toInt32) &&& (3 : Int32))), .val (.ref b1), .val (.ref b3), .val (.int (0 : Int32)), .val (.ref b145_0), .val (.int (0 : Int32)), .val (.int (1 : Int32))] [(.ref b1)])) _
            refine XS.aload X152.here hx rfl (hb hby at_174) rfl rfl ?_
            show Steps p.tables e below (T152.setTop (mkF m 176 #[.val (.long ha), .second, .val (.long la), .second, .val (.long h2), .second, .val (.long l2), .second, .val (.int xm), .val (.long hbb), .second, .val (.long lbb), .second, .val (.int (((xm.toUInt32 >>> ((2 : Int32) &&& 31).toUInt32).toInt32) &&& (3 : Int32))), .val (.ref b1), .val (.ref b3), .val (.int (0 : Int32)), .val (.ref b145_0), .val (.int (0 : Int32)), .val (.int (1 : Int32))] [(.ref b1), (.ref b1)])) _
            refine st155.trans ?_
            show Steps p.tables e below (T155.setTop (mkF m 179 #[.val (.long ha), .second, .val (.long la), .second, .val (.long h2), .second, .val (.long l2), .second, .val (.int xm), .val (.long hbb), .second, .val (.long lbb), .second, .val (.int (((xm.toUInt32 >>> ((2 : Int32) &&& 31).toUInt32).toInt32) &&& (3 : Int32))), .val (.ref b1), .val (.ref b3), .val (.int (0 : Int32)), .val (.ref b145_0), .val (.int (0 : Int32)), .val (.int (1 : Int32))] [(.int (1 : Int32))])) _
            refine XS.ifNo X155.here hx rfl (hb hby at_179) rfl ((if0 _ _).trans (feq (by decide : ¬ ((1 : Int32) = (0 : Int32)))).1) ?_
            show Steps p.tables e below (T155.setTop (mkF m 182 #[.val (.long ha), .second, .val (.long la), .second, .val (.long h2), .second, .val (.long l2), .second, .val (.int xm), .val (.long hbb), .second, .val (.long lbb), .second, .val (.int (((xm.toUInt32 >>> ((2 : Int32) &&& 31).toUInt32).toInt32) &&& (3 : Int32))), .val (.ref b1), .val (.ref b3), .val (.int (0 : Int32)), .val (.ref b145_0), .val (.int (0 : Int32)), .val (.int (1 : Int32))] [])) _
            refine XS.iconst X155.here hx rfl (hb hby at_182) ?_
            show Steps p.tables e below (T155.setTop (mkF m 183 #[.val (.long ha), .second, .val (.long la), .second, .val (.long h2), .second, .val (.long l2), .second, .val (.int xm), .val (.long hbb), .second, .val (.long lbb), .second, .val (.int (((xm.toUInt32 >>> ((2 : Int32) &&& 31).toUInt32).toInt32) &&& (3 : Int32))), .val (.ref b1), .val (.ref b3), .val (.int (0 : Int32)), .val (.ref b145_0), .val (.int (0 : Int32)), .val (.int (1 : Int32))] [(.int (1 : Int32))])) _
            refine XS.goto X155.here hx rfl (pc0 := 183) (pc' := 187) rfl (hb hby at_183) (by decide) (by decide) ?_
            show Steps p.tables e below (T155.setTop (mkF m 187 #[.val (.long ha), .second, .val (.long la), .second, .val (.long h2), .second, .val (.long l2), .second, .val (.int xm), .val (.long hbb), .second, .val (.long lbb), .second, .val (.int (((xm.toUInt32 >>> ((2 : Int32) &&& 31).toUInt32).toInt32) &&& (3 : Int32))), .val (.ref b1), .val (.ref b3), .val (.int (0 : Int32)), .val (.ref b145_0), .val (.int (0 : Int32)), .val (.int (1 : Int32))] [(.int (1 : Int32))])) _
            refine XS.istore X155.here hx rfl (hb hby at_187) rfl (l' := #[.val (.long ha), .second, .val (.long la), .second, .val (.long h2), .second, .val (.long l2), .second, .val (.int xm), .val (.long hbb), .second, .val (.long lbb), .second, .val (.int (((xm.toUInt32 >>> ((2 : Int32) &&& 31).toUInt32).toInt32) &&& (3 : Int32))), .val (.ref b1), .val (.ref b3), .val (.int (0 : Int32)), .val (.ref b145_0), .val (.int (0 : Int32)), .val (.int (1 : Int32))]) rfl ?_
            show Steps p.tables e below (T155.setTop (mkF m 189 #[.val (.long ha), .second, .val (.long la), .second, .val (.long h2), .second, .val (.long l2), .second, .val (.int xm), .val (.long hbb), .second, .val (.long lbb), .second, .val (.int (((xm.toUInt32 >>> ((2 : Int32) &&& 31).toUInt32).toInt32) &&& (3 : Int32))), .val (.ref b1), .val (.ref b3), .val (.int (0 : Int32)), .val (.ref b145_0), .val (.int (0 : Int32)), .val (.int (1 : Int32))] [])) _
            refine XS.iload X155.here hx rfl (hb hby at_189) rfl ?_
            show Steps p.tables e below (T155.setTop (mkF m 191 #[.val (.long ha), .second, .val (.long la), .second, .val (.long h2), .second, .val (.long l2), .second, .val (.int xm), .val (.long hbb), .second, .val (.long lbb), .second, .val (.int (((xm.toUInt32 >>> ((2 : Int32) &&& 31).toUInt32).toInt32) &&& (3 : Int32))), .val (.ref b1), .val (.ref b3), .val (.int (0 : Int32)), .val (.ref b145_0), .val (.int (0 : Int32)), .val (.int (1 : Int32))] [(.int (1 : Int32))])) _
            exact kt
          obtain ⟨fs, hr, hrun, hended, hW, hsame⟩ := X155.leave (v := some (.int (1 : Int32))) (fun h => by rw [hret] at h; cases h) hlk
          refine ⟨_, _, go156 _ ?_, hrun, hended, _, _, rfl, ⟨rfl, N155⟩, ⟨_, rfl⟩, hW, hsame.mono (by decide) (by decide)⟩
          exact retN X155 hx (t := .boolean) hret (by simp) (hb hby at_191) hr
        · skip
          by_cases hc157 : (127 : Int64) < ha
          · skip
            obtain ⟨_, _, ⟨T158, L158, k158, n158⟩, -, X158, ⟨Lc158, hQ158, l158, y158, z158⟩, st158⟩ := Jvm.LawKit.callS X5 hx (y := (⟨"java/lang/Long", "valueOf", "(J)Ljava/lang/Long;"⟩ : MethodName)) hown (mvT hZ (hw _ (List.mem_of_getElem? (i := 20) rfl))) (mvT hZ (hw _ (List.mem_of_getElem? (i := 21) rfl))) (mvT hZ (hw _ (List.mem_of_getElem? (i := 22) rfl))) (mvT hZ (hw _ (List.mem_of_getElem? (i := 23) rfl))) (by decide) (backOf (W := 0) (own_vHi l Z a0 hw [] ha T5.heap n0 Z5 hc144 hc157) hZ (hw _ (List.mem_of_getElem? (i := 23) rfl)) (hw _ (List.mem_of_getElem? (i := 22) rfl)) (by decide) (by decide)) (g := (mkF m 105 #[.val (.long ha), .second, .val (.long la), .second, .val (.long h2), .second, .val (.long l2), .second, .val (.int xm), .val (.long hbb), .second, .val (.long lbb), .second, .val (.int (((xm.toUInt32 >>> ((2 : Int32) &&& 31).toUInt32).toInt32) &&& (3 : Int32))), .val (.ref b1), .val (.ref b3), .val (.int (0 : Int32)), .unset, .unset, .unset] [(.long ha)])) rfl (by rw [hml]; rfl) (argsL := [(.long ha)]) (rest := []) (lenOf pd_13 rfl) rfl (by show 2 * 0 + _ ≤ _; exact Nat.le_of_eq rfl) (hb hby at_105) (fun _ _ => ⟨rfl, rfl, (by decide : 2 + 1 ≤ _), (by decide : 4 + 1 ≤ _)⟩)
            dsimp only [Pt.U, Pt.locs, Pt.cells, Pt.slots] at X158 l158 y158 z158 st158 hQ158
            subst l158 y158 z158
            obtain ⟨Nq158, b158_0, rfl, szb158_0, Kc158, p158_0⟩ := hQ158
            have N158 := Fr.app N5 Nq158
            have f159 : Exa Z T5.heap b1 "com/example/xmitq/xmitq/MessageId" := ((p2_0.ext E3).keep Kc5)
            have ne_b158_0_b1 : b1 ≠ b158_0 := Nat.ne_of_lt (Nat.lt_of_lt_of_le f159.lt szb158_0)
            have f160 : Arv Z T5.heap ca kc (.object "java/lang/Long") (256 : Int32) vs .null := ((f4.ext E3).keep Kc5 (ninS ne3_ca nin0))
            have ne_b158_0_ca : ca ≠ b158_0 := Nat.ne_of_lt (Nat.lt_of_lt_of_le f160.lt szb158_0)
            have ne_b158_0_b3 : b3 ≠ b158_0 := Nat.ne_of_lt (Nat.lt_of_lt_of_le p5_0.lt szb158_0)
            have ge_b158_0 : n0 ≤ b158_0 := Nat.le_trans Z5 szb158_0
            have Z158 : n0 ≤ T158.heap.size := Nat.le_trans Z5 Kc158.1
            have f162 : Exa Z T158.heap b1 "com/example/xmitq/xmitq/MessageId" := (f159.keep Kc158)
            obtain ⟨cq161, kq161, q161a, q161b, q161c⟩ := isOf hZ rfl f162
            obtain ⟨_, _, ⟨T161, L161, k161, n161⟩, -, X161, ⟨Lc161, hQ161, l161, y161, z161⟩, st161⟩ := X158.virtualBack hx (y := (⟨"com/example/xmitq/xmitq/MessageId", "equals", "(Ljava/lang/Object;)Z"⟩ : MethodName)) (z := (⟨"com/example/xmitq/xmitq/MessageId", "equals", "(Ljava/lang/Object;)Z"⟩ : MethodName)) hown (mvT hZ (hw _ (List.mem_of_getElem? (i := 13) rfl))) (mvT hZ (hw _ (List.mem_of_getElem? (i := 14) rfl))) (notFace_of_selects (args := #[]) (mvT hZ (hw _ (List.mem_of_getElem? (i := 16) rfl)))) (mvT hZ (hw _ (List.mem_of_getElem? (i := 16) rfl))) (mvT hZ (hw _ (List.mem_of_getElem? (i := 15) rfl))) (by decide) (backOf (W := 0) (own_eqLong l Z a0 hw [] b1 b158_0 T158.heap n0 Z158 p158_0) hZ (hw _ (List.mem_of_getElem? (i := 17) rfl)) (hw _ (List.mem_of_getElem? (i := 2) rfl)) (by decide) (by decide)) q161a q161c (g := (mkF m 128 #[.val (.long ha), .second, .val (.long la), .second, .val (.long h2), .second, .val (.long l2), .second, .val (.int xm), .val (.long hbb), .second, .val (.long lbb), .second, .val (.int (((xm.toUInt32 >>> ((2 : Int32) &&& 31).toUInt32).toInt32) &&& (3 : Int32))), .val (.ref b1), .val (.ref b3), .val (.int (0 : Int32)), .val (.ref b158_0), .val (.int (0 : Int32)), .unset] [(.ref b158_0), (.ref b1)])) rfl (by rw [hml]; rfl) (Steps.refl _) (argsL := [(.ref b158_0)]) (rest := []) (lenOf pd_12 rfl) rfl (by show 2 * 0 + _ ≤ _; exact Nat.le_of_eq rfl) (hb hby at_128) (fun _ _ => ⟨rfl, rfl, (by decide : 3 + 0 ≤ _), (by decide : 5 + 0 ≤ _)⟩)
            dsimp only [Pt.U, Pt.locs, Pt.cells, Pt.slots] at X161 l161 y161 z161 st161 hQ161
            subst l161 y161 z161
            obtain ⟨rfl, Nq161, e161⟩ := hQ161
            have N161 := Fr.app N158 Nq161
            have f163 : Fld Z T158.heap b3 "com/example/xmitq/xmitq/MessageId" "high" "J" (.long hbb) := (p5_1.keep Kc158 nin0)
            have f164 : Fld Z T158.heap b1 "com/example/xmitq/xmitq/MessageId" "high" "J" (.long ha) := (((p2_1.ext E3).keep Kc5 (ninS ne3_b1 nin0)).keep Kc158 nin0)
            have f166 : Exa Z T158.heap b3 "com/example/xmitq/xmitq/MessageId" := (p5_0.keep Kc158)
            obtain ⟨cq165, kq165, q165a, q165b, q165c⟩ := isOf hZ e161 f166
            obtain ⟨_, _, ⟨T165, L165, k165, n165⟩, -, X165, ⟨Lc165, hQ165, l165, y165, z165⟩, st165⟩ := X161.virtualBack hx (y := (⟨"com/example/xmitq/xmitq/MessageId", "equals", "(Ljava/lang/Object;)Z"⟩ : MethodName)) (z := (⟨"com/example/xmitq/xmitq/MessageId", "equals", "(Ljava/lang/Object;)Z"⟩ : MethodName)) hown (mvT hZ (hw _ (List.mem_of_getElem? (i := 13) rfl))) (mvT hZ (hw _ (List.mem_of_getElem? (i := 14) rfl))) (notFace_of_selects (args := #[]) (mvT hZ (hw _ (List.mem_of_getElem? (i := 16) rfl)))) (mvT hZ (hw _ (List.mem_of_getElem? (i := 16) rfl))) (mvT hZ (hw _ (List.mem_of_getElem? (i := 15) rfl))) (by decide) (backOf (W := 0) (own_eqN l Z a0 hw [] b3 b1 hbb ha T158.heap n0 Z158 f162 f163 f164 (Ne.symm hc7)) hZ (hw _ (List.mem_of_getElem? (i := 17) rfl)) (hw _ (List.mem_of_getElem? (i := 2) rfl)) (by decide) (by decide)) q165a q165c (g := (mkF m 152 #[.val (.long ha), .second, .val (.long la), .second, .val (.long h2), .second, .val (.long l2), .second, .val (.int xm), .val (.long hbb), .second, .val (.long lbb), .second, .val (.int (((xm.toUInt32 >>> ((2 : Int32) &&& 31).toUInt32).toInt32) &&& (3 : Int32))), .val (.ref b1), .val (.ref b3), .val (.int (0 : Int32)), .val (.ref b158_0), .val (.int (0 : Int32)), .val (.int (1 : Int32))] [(.ref b1), (.ref b3)])) rfl (by rw [hml]; rfl) (Steps.refl _) (argsL := [(.ref b1)]) (rest := []) (lenOf pd_12 rfl) rfl (by show 2 * 0 + _ ≤ _; exact Nat.le_of_eq rfl) (hb hby at_152) (fun _ _ => ⟨rfl, e161, (by decide : 3 + 0 ≤ _), (by decide : 5 + 0 ≤ _)⟩)
            dsimp only [Pt.U, Pt.locs, Pt.cells, Pt.slots] at X165 l165 y165 z165 st165 hQ165
            subst l165 y165 z165
            obtain ⟨rfl, Nq165, e165⟩ := hQ165
            have N165 := Fr.app N161 Nq165
            have f167 : Fld Z T158.heap b1 "com/example/xmitq/xmitq/MessageId" "low" "J" (.long la) := (((p2_2.ext E3).keep Kc5 (ninS ne3_b1 nin0)).keep Kc158 nin0)
            obtain ⟨cq168, kq168, q168a, q168b, q168c⟩ := isOf hZ e165 f162
            obtain ⟨_, _, ⟨T168, L168, k168, n168⟩, -, X168, ⟨Lc168, hQ168, l168, y168, z168⟩, st168⟩ := X165.virtualBack hx (y := (⟨"com/example/xmitq/xmitq/MessageId", "equals", "(Ljava/lang/Object;)Z"⟩ : MethodName)) (z := (⟨"com/example/xmitq/xmitq/MessageId", "equals", "(Ljava/lang/Object;)Z"⟩ : MethodName)) hown (mvT hZ (hw _ (List.mem_of_getElem? (i := 13) rfl))) (mvT hZ (hw _ (List.mem_of_getElem? (i := 14) rfl))) (notFace_of_selects (args := #[]) (mvT hZ (hw _ (List.mem_of_getElem? (i := 16) rfl)))) (mvT hZ (hw _ (List.mem_of_getElem? (i := 16) rfl))) (mvT hZ (hw _ (List.mem_of_getElem? (i := 15) rfl))) (by decide) (backOf (W := 0) (own_eqYY l Z a0 hw [] b1 b1 ha ha la la T158.heap n0 Z158 f162 f164 f164 (rfl : ha = ha) f167 f167 (rfl : la = la)) hZ (hw _ (List.mem_of_getElem? (i := 17) rfl)) (hw _ (List.mem_of_getElem? (i := 2) rfl)) (by decide) (by decide)) q168a q168c (g := (mkF m 176 #[.val (.long ha), .second, .val (.long la), .second, .val (.long h2), .second, .val (.long l2), .second, .val (.int xm), .val (.long hbb), .second, .val (.long lbb), .second, .val (.int (((xm.toUInt32 >>> ((2 : Int32) &&& 31).toUInt32).toInt32) &&& (3 : Int32))), .val (.ref b1), .val (.ref b3), .val (.int (0 : Int32)), .val (.ref b158_0), .val (.int (0 : Int32)), .val (.int (1 : Int32))] [(.ref b1), (.ref b1)])) rfl (by rw [hml]; rfl) (Steps.refl _) (argsL := [(.ref b1)]) (rest := []) (lenOf pd_12 rfl) rfl (by show 2 * 0 + _ ≤ _; exact Nat.le_of_eq rfl) (hb hby at_176) (fun _ _ => ⟨rfl, e165, (by decide : 3 + 0 ≤ _), (by decide : 5 + 0 ≤ _)⟩)
            dsimp only [Pt.U, Pt.locs, Pt.cells, Pt.slots] at X168 l168 y168 z168 st168 hQ168
            subst l168 y168 z168
            obtain ⟨rfl, Nq168, e168⟩ := hQ168
            have N168 := Fr.app N165 Nq168
            have go169 : ∀ t, Steps p.tables e below (T168.setTop (mkF m 191 #[.val (.long ha), .second, .val (.long la), .second, .val (.long h2), .second, .val (.long l2), .second, .val (.int xm), .val (.long hbb), .second, .val (.long lbb), .second, .val (.int (((xm.toUInt32 >>> ((2 : Int32) &&& 31).toUInt32).toInt32) &&& (3 : Int32))), .val (.ref b1), .val (.ref b3), .val (.int (0 : Int32)), .val (.ref b158_0), .val (.int (0 : Int32)), .val (.int (1 : Int32))] [(.int (1 : Int32))])) t → Steps p.tables e below st0 t := by
              intro t kt
              refine go143 t ?_
              refine st158 _ ?_
              show Steps p.tables e below (T158.setTop (mkF m 108 #[.val (.long ha), .second, .val (.long la), .second, .val (.long h2), .second, .val (.long l2), .second, .val (.int xm), .val (.long hbb), .second, .val (.long lbb), .second, .val (.int (((xm.toUInt32 >>> ((2 : Int32) &&& 31).toUInt32).toInt32) &&& (3 : Int32))), .val (.ref b1), .val (.ref b3), .val (.int (0 : Int32)), .unset, .unset, .unset] [(.ref b158_0)])) _
              refine XS.astore X158.here hx rfl (hb hby at_108) rfl rfl (l' := #[.val (.long ha), .second, .val (.long la), .second, .val (.long h2), .second, .val (.long l2), .second, .val (.int xm), .val (.long hbb), .second, .val (.long lbb), .second, .val (.int (((xm.toUInt32 >>> ((2 : Int32) &&& 31).toUInt32).toInt32) &&& (3 : Int32))), .val (.ref b1), .val (.ref b3), .val (.int (0 : Int32)), .val (.ref b158_0), .unset, .unset]) rfl ?_
              show Steps p.tables e below (T158.setTop (mkF m 110 #[.val (.long ha), .second, .val (.long la), .second, .val (.long h2), .second, .val (.long l2), .second, .val (.int xm), .val (.long hbb), .second, .val (.long lbb), .second, .val (.int (((xm.toUInt32 >>> ((2 : Int32) &&& 31).toUInt32).toInt32) &&& (3 : Int32))), .val (.ref b1), .val (.ref b3), .val (.int (0 : Int32)), .val (.ref b158_0), .unset, .unset] [])) _
              refine XS.iconst X158.here hx rfl (hb hby at_110) ?_
              show Steps p.tables e below (T158.setTop (mkF m 111 #[.val (.long ha), .second, .val (.long la), .second, .val (.long h2), .second, .val (.long l2), .second, .val (.int xm), .val (.long hbb), .second, .val (.long lbb), .second, .val (.int (((xm.toUInt32 >>> ((2 : Int32) &&& 31).toUInt32).toInt32) &&& (3 : Int32))), .val (.ref b1), .val (.ref b3), .val (.int (0 : Int32)), .val (.ref b158_0), .unset, .unset] [(.int (0 : Int32))])) _
              refine XS.istore X158.here hx rfl (hb hby at_111) rfl (l' := #[.val (.long ha), .second, .val (.long la), .second, .val (.long h2), .second, .val (.long l2), .second, .val (.int xm), .val (.long hbb), .second, .val (.long lbb), .second, .val (.int (((xm.toUInt32 >>> ((2 : Int32) &&& 31).toUInt32).toInt32) &&& (3 : Int32))), .val (.ref b1), .val (.ref b3), .val (.int (0 : Int32)), .val (.ref b158_0), .val (.int (0 : Int32)), .unset]) rfl ?_
              show Steps p.tables e below (T158.setTop (mkF m 113 #[.val (.long ha), .second, .val (.long la), .second, .val (.long h2), .second, .val (.long l2), .second, .val (.int xm), .val (.long hbb), .second, .val (.long lbb), .second, .val (.int (((xm.toUInt32 >>> ((2 : Int32) &&& 31).toUInt32).toInt32) &&& (3 : Int32))), .val (.ref b1), .val (.ref b3), .val (.int (0 : Int32)), .val (.ref b158_0), .val (.int (0 : Int32)), .unset] [])) _
              refine XS.goto X158.here hx rfl (pc0 := 113) (pc' := 124) rfl (hb hby at_113) (by decide) (by decide) ?_
              show Steps p.tables e below (T158.setTop (mkF m 124 #[.val (.long ha), .second, .val (.long la), .second, .val (.long h2), .second, .val (.long l2), .second, .val (.int xm), .val (.long hbb), .second, .val (.long lbb), .second, .val (.int (((xm.toUInt32 >>> ((2 : Int32) &&& 31).toUInt32).toInt32) &&& (3 : Int32))), .val (.ref b1), .val (.ref b3), .val (.int (0 : Int32)), .val (.ref b158_0), .val (.int (0 : Int32)), .unset] [])) _
              refine XS.aload X158.here hx rfl (hb hby at_124) rfl rfl ?_
              show Steps p.tables e below (T158.setTop (mkF m 126 #[.val (.long ha), .second, .val (.long la), .second, .val (.long h2), .second, .val (.long l2), .second, .val (.int xm), .val (.long hbb), .second, .val (.long lbb), .second, .val (.int (((xm.toUInt32 >>> ((2 : Int32) &&& 31).toUInt32).toInt32) &&& (3 : Int32))), .val (.ref b1), .val (.ref b3), .val (.int (0 : Int32)), .val (.ref b158_0), .val (.int (0 : Int32)), .unset] [(.ref b1)])) _
              refine XS.aload X158.here hx rfl (hb hby at_126) rfl rfl ?_
              show Steps p.tables e below (T158.setTop (mkF m 128 #[.val (.long ha), .second, .val (.long la), .second, .val (.long h2), .second, .val (.long l2), .second, .val (.int xm), .val (.long hbb), .second, .val (.long lbb), .second, .val (.int (((xm.toUInt32 >>> ((2 : Int32) &&& 31).toUInt32).toInt32) &&& (3 : Int32))), .val (.ref b1), .val (.ref b3), .val (.int (0 : Int32)), .val (.ref b158_0), .val (.int (0 : Int32)), .unset] [(.ref b158_0), (.ref b1)])) _
              refine st161.trans ?_
              show Steps p.tables e below (T161.setTop (mkF m 131 #[.val (.long ha), .second, .val (.long la), .second, .val (.long h2), .second, .val (.long l2), .second, .val (.int xm), .val (.long hbb), .second, .val (.long lbb), .second, .val (.int (((xm.toUInt32 >>> ((2 : Int32) &&& 31).toUInt32).toInt32) &&& (3 : Int32))), .val (.ref b1), .val (.ref b3), .val (.int (0 : Int32)), .val (.ref b158_0), .val (.int (0 : Int32)), .unset] [(.int (0 : Int32))])) _
              refine XS.iload X161.here hx rfl (hb hby at_131) rfl ?_
              show Steps p.tables e below (T161.setTop (mkF m 133 #[.val (.long ha), .second, .val (.long la), .second, .val (.long h2), .second, .val (.long l2), .second, .val (.int xm), .val (.long hbb), .second, .val (.long lbb), .second, .val (.int (((xm.toUInt32 >>> ((2 : Int32) &&& 31).toUInt32).toInt32) &&& (3 : Int32))), .val (.ref b1), .val (.ref b3), .val (.int (0 : Int32)), .val (.ref b158_0), .val (.int (0 : Int32)), .unset] [(.int (0 : Int32)), (.int (0 : Int32))])) _
              refine XS.icmpNo X161.here hx rfl (hb hby at_133) rfl (teq (by decide : (0 : Int32) = (0 : Int32))).2 ?_
              show Steps p.tables e below (T161.setTop (mkF m 136 #[.val (.long ha), .second, .val (.long la), .second, .val (.long h2), .second, .val (.long l2), .second, .val (.int xm), .val (.long hbb), .second, .val (.long lbb), .second, .val (.int (((xm.toUInt32 >>> ((2 : Int32) &&& 31).toUInt32).toInt32) &&& (3 : Int32))), .val (.ref b1), .val (.ref b3), .val (.int (0 : Int32)), .val (.ref b158_0), .val (.int (0 : Int32)), .unset] [])) _
              refine XS.iconst X161.here hx rfl (hb hby at_136) ?_
              show Steps p.tables e below (T161.setTop (mkF m 137 #[.val (.long ha), .second, .val (.long la), .second, .val (.long h2), .second, .val (.long l2), .second, .val (.int xm), .val (.long hbb), .second, .val (.long lbb), .second, .val (.int (((xm.toUInt32 >>> ((2 : Int32) &&& 31).toUInt32).toInt32) &&& (3 : Int32))), .val (.ref b1), .val (.ref b3), .val (.int (0 : Int32)), .val (.ref b158_0), .val (.int (0 : Int32)), .unset] [(.int (1 : Int32))])) _
              refine XS.goto X161.here hx rfl (pc0 := 137) (pc' := 141) rfl (hb hby at_137) (by decide) (by decide) ?_
              show Steps p.tables e below (T161.setTop (mkF m 141 #[.val (.long ha), .second, .val (.long la), .second, .val (.long h2), .second, .val (.long l2), .second, .val (.int xm), .val (.long hbb), .second, .val (.long lbb), .second, .val (.int (((xm.toUInt32 >>> ((2 : Int32) &&& 31).toUInt32).toInt32) &&& (3 : Int32))), .val (.ref b1), .val (.ref b3), .val (.int (0 : Int32)), .val (.ref b158_0), .val (.int (0 : Int32)), .unset] [(.int (1 : Int32))])) _
              refine XS.istore X161.here hx rfl (hb hby at_141) rfl (l' := #[.val (.long ha), .second, .val (.long la), .second, .val (.long h2), .second, .val (.long l2), .second, .val (.int xm), .val (.long hbb), .second, .val (.long lbb), .second, .val (.int (((xm.toUInt32 >>> ((2 : Int32) &&& 31).toUInt32).toInt32) &&& (3 : Int32))), .val (.ref b1), .val (.ref b3), .val (.int (0 : Int32)), .val (.ref b158_0), .val (.int (0 : Int32)), .val (.int (1 : Int32))]) rfl ?_
              show Steps p.tables e below (T161.setTop (mkF m 143 #[.val (.long ha), .second, .val (.long la), .second, .val (.long h2), .second, .val (.long l2), .second, .val (.int xm), .val (.long hbb), .second, .val (.long lbb), .second, .val (.int (((xm.toUInt32 >>> ((2 : Int32) &&& 31).toUInt32).toInt32) &&& (3 : Int32))), .val (.ref b1), .val (.ref b3), .val (.int (0 : Int32)), .val (.ref b158_0), .val (.int (0 : Int32)), .val (.int (1 : Int32))] [])) _
              refine XS.iload X161.here hx rfl (hb hby at_143) rfl ?_
              show Steps p.tables e below (T161.setTop (mkF m 145 #[.val (.long ha), .second, .val (.long la), .second, .val (.long h2), .second, .val (.long l2), .second, .val (.int xm), .val (.long hbb), .second, .val (.long lbb), .second, .val (.int (((xm.toUInt32 >>> ((2 : Int32) &&& 31).toUInt32).toInt32) &&& (3 : Int32))), .val (.ref b1), .val (.ref b3), .val (.int (0 : Int32)), .val (.ref b158_0), .val (.int (0 : Int32)), .val (.int (1 : Int32))] [(.int (1 : Int32))])) _
              refine XS.ifNo X161.here hx rfl (hb hby at_145) rfl ((if0 _ _).trans (feq (by decide : ¬ ((1 : Int32) = (0 : Int32)))).1) ?_
              show Steps p.tables e below (T161.setTop (mkF m 148 #[.val (.long ha), .second, .val (.long la), .second, .val (.long h2), .second, .val (.long l2), .second, .val (.int xm), .val (.long hbb), .second, .val (.long lbb), .second, .val (.int (((xm.toUInt32 >>> ((2 : Int32) &&& 31).toUInt32).toInt32) &&& (3 : Int32))), .val (.ref b1), .val (.ref b3), .val (.int (0 : Int32)), .val (.ref b158_0), .val (.int (0 : Int32)), .val (.int (1 : Int32))] [])) _
              refine XS.aload X161.here hx rfl (hb hby at_148) rfl rfl ?_
              show Steps p.tables e below (T161.setTop (mkF m 150 #[.val (.long ha), .second, .val (.long la), .second, .val (.long h2), .second, .val (.long l2), .second, .val (.int xm), .val (.long hbb), .second, .val (.long lbb), .second, .val (.int (((xm.toUInt32 >>> ((2 : Int32) &&& 31).toUInt32).toInt32) &&& (3 : Int32))), .val (.ref b1), .val (.ref b3), .val (.int (0 : Int32)), .val (.ref b158_0), .val (.int (0 : Int32)), .val (.int (1 : Int32))] [(.ref b3)])) _
              refine XS.aload X161.here hx rfl (hb hby at_150) rfl rfl ?_
              show Steps p.tables e below (T161.setTop (mkF m 152 #[.val (.long ha), .second, .val (.long la), .second, .val (.long h2), .second, .val (.long l2), .second, .val (.int xm), .val (.long hbb), .second, .val (.long lbb), .second, .val (.int (((xm.toUInt32 >>> ((2 : Int32) &&& 31).toUInt32).toInt32) &&& (3 : Int32))), .val (.ref b1), .val (.ref b3), .val (.int (0 : Int32)), .val (.ref b158_0), .val (.int (0 : Int32)), .val (.int (1 : Int32))] [(.ref b1), (.ref b3)])) _
              refine st165.trans ?_
              show Steps p.tables e below (T165.setTop (mkF m 155 #[.val (.long ha), .second, .val (.long la), .second, .val (.long h2), .second, .val (.long l2), .second, .val (.int xm), .val (.long hbb), .second, .val (.long lbb), .second, .val (.int (((xm.toUInt32 >>> ((2 : Int32) &&& 31).toUInt32).toInt32) &&& (3 : Int32))), .val (.ref b1), .val (.ref b3), .val (.int (0 : Int32)), .val (.ref b158_0), .val (.int (0 : Int32)), .val (.int (1 : Int32))] [(.int (0 : Int32))])) _
              refine XS.iload X165.here hx rfl (hb hby at_155) rfl ?_
              show Steps p.tables e below (T165.setTop (mkF m 157 #[.val (.long ha), .second, .val (.long la), .second, .val (.long h2), .second, .val (.long l2), .second, .val (.int xm), .val (.long hbb), .second, .val (.long lbb), .second, .val (.int (((xm.toUInt32 >>> ((2 : Int32) &&& 31).toUInt32).toInt32) &&& (3 : Int32))), .val (.ref b1), .val (.ref b3), .val (.int (0 : Int32)), .val (.ref b158_0), .val (.int (0 : Int32)), .val (.int (1 : Int32))] [(.int (0 : Int32)), (.int (0 : Int32))])) _
              refine XS.icmpNo X165.here hx rfl (hb hby at_157) rfl (teq (by decide : (0 : Int32) = (0 : Int32))).2 ?_
              show Steps p.tables e below (T165.setTop (mkF m 160 #[.val (.long ha), .second, .val (.long la), .second, .val (.long h2), .second, .val (.long l2), .second, .val (.int xm), .val (.long hbb), .second, .val (.long lbb), .second, .val (.int (((xm.toUInt32 >>> ((2 : Int32) &&& 31).toUInt32).toInt32) &&& (3 : Int32))), .val (.ref b1), .val (.ref b3), .val (.int (0 : Int32)), .val (.ref b158_0), .val (.int (0 : Int32)), .val (.int (1 : Int32))] [])) _
              refine XS.iconst X165.here hx rfl (hb hby at_160) ?_
              show Steps p.tables e below (T165.setTop (mkF m 161 #[.val (.long ha), .second, .val (.long la), .second, .val (.long h2), .second, .val (.long l2), .second, .val (.int xm), .val (.long hbb), .second, .val (.long lbb), .second, .val (.int (((xm.toUInt32 >>> ((2 : Int32) &&& 31).toUInt32).toInt32) &&& (3 : Int32))), .val (.ref b1), .val (.ref b3), .val (.int (0 : Int32)), .val (.ref b158_0), .val (.int (0 : Int32)), .val (.int (1 : Int32))] [(.int (1 : Int32))])) _
              refine XS.goto X165.here hx rfl (pc0 := 161) (pc' := 165) rfl (hb hby at_161) (by decide) (by decide) ?_
              show Steps p.tables e below (T165.setTop (mkF m 165 #[.val (.long ha), .second, .val (.long la), .second, .val (.long h2), .second, .val (.long l2), .second, .val (.int xm), .val (.long hbb), .second, .val (.long lbb), .second, .val (.int (((xm.toUInt32 >>> ((2 : Int32) &&& 31).toUInt32).toInt32) &&& (3 : Int32))), .val (.ref b1), .val (.ref b3), .val (.int (0 : Int32)), .val (.ref b158_0), .val (.int (0 : Int32)), .val (.int (1 : Int32))] [(.int (1 : Int32))])) _
              refine XS.istore X165.here hx rfl (hb hby at_165) rfl (l' := #[.val (.long ha), .second, .val (.long la), .second, .val (.long h2), .second, .val (.long l2), .second, .val (.int xm), .val (.long hbb), .second, .val (.long lbb), .second, .val (.int (((xm.toUInt32 >>> ((2 : Int32) &&& 31).toUInt32).toInt32) &&& (3 : Int32))), .val (.ref b1), .val (.ref b3), .val (.int (0 : Int32)), .val (.ref b158_0), .val (.int (0 : Int32)), .val (.int (1 : Int32))]) rfl ?_
              show Steps p.tables e below (T165.setTop (mkF m 167 #[.val (.long ha), .second, .val (.long la), .second, .val (.long h2), .second, .val (.long l2), .second, .val (.int xm), .val (.long hbb), .second, .val (.long lbb), .second, .val (.int (((xm.toUInt32 >>> ((2 : Int32) &&& 31).toUInt32).toInt32) &&& (3 : Int32))), .val (.ref b1), .val (.ref b3), .val (.int (0 : Int32)), .val (.ref b158_0), .val (.int (0 : Int32)), .val (.int (1 : Int32))] [])) _
              refine XS.iload X165.here hx rfl (hb hby at_167) rfl ?_
              show Steps p.tables e below (T165.setTop (mkF m 169 #[.val (.long ha), .second, .val (.long la), .second, .val (.long h2), .second, .val (.long l2), .second, .val (.int xm), .val (.long hbb), .second, .val (.long lbb), .second, .val (.int (((xm.toUInt32 >>> ((2 : Int32) &&& 31).toUInt32).toInt32) &&& (3 : Int32))), .val (.ref b1), .val (.ref b3), .val (.int (0 : Int32)), .val (.ref b158_0), .val (.int (0 : Int32)), .val (.int (1 : Int32))] [(.int (1 : Int32))])) _
              refine XS.ifNo X165.here hx rfl (hb hby at_169) rfl ((if0 _ _).trans (feq (by decide : ¬ ((1 : Int32) = (0 : Int32)))).1) ?_
              show Steps p.tables e below (T165.setTop (mkF m 172 #[.val (.long ha), .second, .val (.long la), .second, .val (.long h2), .second, .val (.long l2), .second, .val (.int xm), .val (.long hbb), .second, .val (.long lbb), .second, .val (.int (((xm.toUInt32 >>> ((2 : Int32) &&& 31).toUInt32).toInt32) &&& (3 : Int32))), .val (.ref b1), .val (.ref b3), .val (.int (0 : Int32)), .val (.ref b158_0), .val (.int (0 : Int32)), .val (.int (1 : Int32))] [])) _
              refine XS.aload X165.here hx rfl (hb hby at_172) rfl rfl ?_
              show Steps p.tables e below (T165.setTop (mkF m 174 #[.val (.long ha), .second, .val (.long la), .second, .val (.long h2), .second, .val (.long l2), .second, .val (.int xm), .val (.long hbb), .second, .val (.long lbb), .second, .val (.int (((xm.toUInt32 >>> ((2 : Int32) &&& 31).toUInt32).toInt32) &&& (3 : Int32))), .val (.ref b1), .val (.ref b3), .val (.int (0 : Int32)), .val (.ref b158_0), .val (.int (0 : Int32)), .val (.int (1 : Int32))] [(.ref b1)])) _
              refine XS.aload X165.here hx rfl (hb hby at_174) rfl rfl ?_
              show Steps p.tables e below (T165.setTop (mkF m 176 #[.val (.long ha), .second, .val (.long la), .second, .val (.long h2), .second, .val (.long l2), .second, .val (.int xm), .val (.long hbb), .second, .val (.long lbb), .second, .val (.int (((xm.toUInt32 >>> ((2 : Int32) &&& 31).toUInt32).toInt32) &&& (3 : Int32))), .val (.ref b1), .val (.ref b3), .val (.int (0 : Int32)), .val (.ref b158_0), .val (.int (0 : Int32)), .val (.int (1 : Int32))] [(.ref b1), (.ref b1)])) _
              refine st168.trans ?_
              show Steps p.tables e below (T168.setTop (mkF m 179 #[.val (.long ha), .second, .val (.long la), .second, .val (.long h2), .second, .val (.long l2), .second, .val (.int xm), .val (.long hbb), .second, .val (.long lbb), .second, .val (.int (((xm.toUInt32 >>> ((2 : Int32) &&& 31).toUInt32).toInt32) &&& (3 : Int32))), .val (.ref b1), .val (.ref b3), .val (.int (0 : Int32)), .val (.ref b158_0), .val (.int (0 : Int32)), .val (.int (1 : Int32))] [(.int (1 : Int32))])) _
              refine XS.ifNo X168.here hx rfl (hb hby at_179) rfl ((if0 _ _).trans (feq (by decide : ¬ ((1 : Int32) = (0 : Int32)))).1) ?_
              show Steps p.tables e below (T168.setTop (mkF m 182 #[.val (.long ha), .second, .val (.long la), .second, .val (.long h2), .second, .val (.long l2), .second, .val (.int xm), .val (.long hbb), .second, .val (.long lbb), .second, .val (.int (((xm.toUInt32 >>> ((2 : Int32) &&& 31).toUInt32).toInt32) &&& (3 : Int32))), .val (.ref b1), .val (.ref b3), .val (.int (0 : Int32)), .val (.ref b158_0), .val (.int (0 : Int32)), .val (.int (1 : Int32))] [])) _
              refine XS.iconst X168.here hx rfl (hb hby at_182) ?_
              show Steps p.tables e below (T168.setTop (mkF m 183 #[.val (.long ha), .second, .val (.long la), .second, .val (.long h2), .second, .val (.long l2), .second, .val (.int xm), .val (.long hbb), .second, .val (.long lbb), .second, .val (.int (((xm.toUInt32 >>> ((2 : Int32) &&& 31).toUInt32).toInt32) &&& (3 : Int32))), .val (.ref b1), .val (.ref b3), .val (.int (0 : Int32)), .val (.ref b158_0), .val (.int (0 : Int32)), .val (.int (1 : Int32))] [(.int (1 : Int32))])) _
              refine XS.goto X168.here hx rfl (pc0 := 183) (pc' := 187) rfl (hb hby at_183) (by decide) (by decide) ?_
              show Steps p.tables e below (T168.setTop (mkF m 187 #[.val (.long ha), .second, .val (.long la), .second, .val (.long h2), .second, .val (.long l2), .second, .val (.int xm), .val (.long hbb), .second, .val (.long lbb), .second, .val (.int (((xm.toUInt32 >>> ((2 : Int32) &&& 31).toUInt32).toInt32) &&& (3 : Int32))), .val (.ref b1), .val (.ref b3), .val (.int (0 : Int32)), .val (.ref b158_0), .val (.int (0 : Int32)), .val (.int (1 : Int32))] [(.int (1 : Int32))])) _
              refine XS.istore X168.here hx rfl (hb hby at_187) rfl (l' := #[.val (.long ha), .second, .val (.long la), .second, .val (.long h2), .second, .val (.long l2), .second, .val (.int xm), .val (.long hbb), .second, .val (.long lbb), .second, .val (.int (((xm.toUInt32 >>> ((2 : Int32) &&& 31).toUInt32).toInt32) &&& (3 : Int32))), .val (.ref b1), .val (.ref b3), .val (.int (0 : Int32)), .val (.ref b158_0), .val (.int (0 : Int32)), .val (.int (1 : Int32))]) rfl ?_
              show Steps p.tables e below (T168.setTop (mkF m 189 #[.val (.long ha), .second, .val (.long la), .second, .val (.long h2), .second, .val (.long l2), .second, .val (.int xm), .val (.long hbb), .second, .val (.long lbb), .second, .val (.int (((xm.toUInt32 >>> ((2 : Int32) &&& 31).toUInt32).toInt32) &&& (3 : Int32))), .val (.ref b1), .val (.ref b3), .val (.int (0 : Int32)), .val (.ref b158_0), .val (.int (0 : Int32)), .val (.int (1 : Int32))] [])) _
              refine XS.iload X168.here hx rfl (hb hby at_189) rfl ?_
              show Steps p.tables e below (T168.setTop (mkF m 191 #[.val (.long ha), .second, .val (.long la), .second, .val (.long h2), .second, .val (.long l2), .second, .val (.int xm), .val (.long hbb), .second, .val (.long lbb), .second, .val (.int (((xm.toUInt32 >>> ((2 : Int32) &&& 31).toUInt32).toInt32) &&& (3 : Int32))), .val (.ref b1), .val (.ref b3), .val (.int (0 : Int32)), .val (.ref b158_0), .val (.int (0 : Int32)), .val (.int (1 : Int32))] [(.int (1 : Int32))])) _
              exact kt
            obtain ⟨fs, hr, hrun, hended, hW, hsame⟩ := X168.leave (v := some (.int (1 : Int32))) (fun h => by rw [hret] at h; cases h) hlk
            refine ⟨_, _, go169 _ ?_, hrun, hended, _, _, rfl, ⟨rfl, N168⟩, ⟨_, rfl⟩, hW, hsame.mono (by decide) (by decide)⟩
            exact retN X168 hx (t := .boolean) hret (by simp) (hb hby at_191) hr
          · skip
            have f170 : Sta Z T5.heap "java/lang/Long$LongCache" "cache" "[Ljava/lang/Long;" (.ref ca) := (own_sta_keep ((own_sta_keep (P0.ext E1) Kc2 (allS (P := fun x => ∀ c, h1[x]? = some c → c.vm.isStatics = false) (own_nost A1) all0)).ext E3) Kc5 (allS (P := fun x => ∀ c, h3[x]? = some c → c.vm.isStatics = false) (own_nost A3) all0))
            have f171 : Arv Z T5.heap ca kc (.object "java/lang/Long") (256 : Int32) vs .null := ((f4.ext E3).keep Kc5 (ninS ne3_ca nin0))
            have f172 : own_AllL Z T5.heap vs 256 "java/lang/Long" := ((((P2.ext E1).keep Kc2).ext E3).keep Kc5)
            obtain ⟨_, _, ⟨T173, L173, k173, n173⟩, -, X173, ⟨Lc173, hQ173, l173, y173, z173⟩, st173⟩ := Jvm.LawKit.callS X5 hx (y := (⟨"java/lang/Long", "valueOf", "(J)Ljava/lang/Long;"⟩ : MethodName)) hown (mvT hZ (hw _ (List.mem_of_getElem? (i := 20) rfl))) (mvT hZ (hw _ (List.mem_of_getElem? (i := 21) rfl))) (mvT hZ (hw _ (List.mem_of_getElem? (i := 22) rfl))) (mvT hZ (hw _ (List.mem_of_getElem? (i := 23) rfl))) (by decide) (backOf (W := 0) (own_vIn l Z a0 hw [] ha ca kc vs T5.heap n0 Z5 hc144 hc157 f170 f171 f172) hZ (hw _ (List.mem_of_getElem? (i := 23) rfl)) (hw _ (List.mem_of_getElem? (i := 22) rfl)) (by decide) (by decide)) (g := (mkF m 105 #[.val (.long ha), .second, .val (.long la), .second, .val (.long h2), .second, .val (.long l2), .second, .val (.int xm), .val (.long hbb), .second, .val (.long lbb), .second, .val (.int (((xm.toUInt32 >>> ((2 : Int32) &&& 31).toUInt32).toInt32) &&& (3 : Int32))), .val (.ref b1), .val (.ref b3), .val (.int (0 : Int32)), .unset, .unset, .unset] [(.long ha)])) rfl (by rw [hml]; rfl) (argsL := [(.long ha)]) (rest := []) (lenOf pd_13 rfl) rfl (by show 2 * 0 + _ ≤ _; exact Nat.le_of_eq rfl) (hb hby at_105) (fun _ _ => ⟨rfl, rfl, (by decide : 2 + 0 ≤ _), (by decide : 4 + 0 ≤ _)⟩)
            dsimp only [Pt.U, Pt.locs, Pt.cells, Pt.slots] at X173 l173 y173 z173 st173 hQ173
            subst l173 y173 z173
            obtain ⟨Nq173, y173_0, rfl, Kc173, p173_0⟩ := hQ173
            have N173 := Fr.app N5 Nq173
            have Z173 : n0 ≤ T173.heap.size := Nat.le_trans Z5 Kc173.1
            have f175 : Exa Z T173.heap b1 "com/example/xmitq/xmitq/MessageId" := (((p2_0.ext E3).keep Kc5).keep Kc173)
            obtain ⟨cq174, kq174, q174a, q174b, q174c⟩ := isOf hZ rfl f175
            obtain ⟨_, _, ⟨T174, L174, k174, n174⟩, -, X174, ⟨Lc174, hQ174, l174, y174, z174⟩, st174⟩ := X173.virtualBack hx (y := (⟨"com/example/xmitq/xmitq/MessageId", "equals", "(Ljava/lang/Object;)Z"⟩ : MethodName)) (z := (⟨"com/example/xmitq/xmitq/MessageId", "equals", "(Ljava/lang/Object;)Z"⟩ : MethodName)) hown (mvT hZ (hw _ (List.mem_of_getElem? (i := 13) rfl))) (mvT hZ (hw _ (List.mem_of_getElem? (i := 14) rfl))) (notFace_of_selects (args := #[]) (mvT hZ (hw _ (List.mem_of_getElem? (i := 16) rfl)))) (mvT hZ (hw _ (List.mem_of_getElem? (i := 16) rfl))) (mvT hZ (hw _ (List.mem_of_getElem? (i := 15) rfl))) (by decide) (backOf (W := 0) (own_eqLong l Z a0 hw [] b1 y173_0 T173.heap n0 Z173 p173_0) hZ (hw _ (List.mem_of_getElem? (i := 17) rfl)) (hw _ (List.mem_of_getElem? (i := 2) rfl)) (by decide) (by decide)) q174a q174c (g := (mkF m 128 #[.val (.long ha), .second, .val (.long la), .second, .val (.long h2), .second, .val (.long l2), .second, .val (.int xm), .val (.long hbb), .second, .val (.long lbb), .second, .val (.int (((xm.toUInt32 >>> ((2 : Int32) &&& 31).toUInt32).toInt32) &&& (3 : Int32))), .val (.ref b1), .val (.ref b3), .val (.int (0 : Int32)), .val (.ref y173_0), .val (.int (0 : Int32)), .unset] [(.ref y173_0), (.ref b1)])) rfl (by rw [hml]; rfl) (Steps.refl _) (argsL := [(.ref y173_0)]) (rest := []) (lenOf pd_12 rfl) rfl (by show 2 * 0 + _ ≤ _; exact Nat.le_of_eq rfl) (hb hby at_128) (fun _ _ => ⟨rfl, rfl, (by decide : 2 + 0 ≤ _), (by decide : 4 + 0 ≤ _)⟩)
            dsimp only [Pt.U, Pt.locs, Pt.cells, Pt.slots] at X174 l174 y174 z174 st174 hQ174
            subst l174 y174 z174
            obtain ⟨rfl, Nq174, e174⟩ := hQ174
            have N174 := Fr.app N173 Nq174
            have f176 : Fld Z T173.heap b3 "com/example/xmitq/xmitq/MessageId" "high" "J" (.long hbb) := (p5_1.keep Kc173 nin0)
            have f177 : Fld Z T173.heap b1 "com/example/xmitq/xmitq/MessageId" "high" "J" (.long ha) := (((p2_1.ext E3).keep Kc5 (ninS ne3_b1 nin0)).keep Kc173 nin0)
            have f179 : Exa Z T173.heap b3 "com/example/xmitq/xmitq/MessageId" := (p5_0.keep Kc173)
            obtain ⟨cq178, kq178, q178a, q178b, q178c⟩ := isOf hZ e174 f179
            obtain ⟨_, _, ⟨T178, L178, k178, n178⟩, -, X178, ⟨Lc178, hQ178, l178, y178, z178⟩, st178⟩ := X174.virtualBack hx (y := (⟨"com/example/xmitq/xmitq/MessageId", "equals", "(Ljava/lang/Object;)Z"⟩ : MethodName)) (z := (⟨"com/example/xmitq/xmitq/MessageId", "equals", "(Ljava/lang/Object;)Z"⟩ : MethodName)) hown (mvT hZ (hw _ (List.mem_of_getElem? (i := 13) rfl))) (mvT hZ (hw _ (List.mem_of_getElem? (i := 14) rfl))) (notFace_of_selects (args := #[]) (mvT hZ (hw _ (List.mem_of_getElem? (i := 16) rfl)))) (mvT hZ (hw _ (List.mem_of_getElem? (i := 16) rfl))) (mvT hZ (hw _ (List.mem_of_getElem? (i := 15) rfl))) (by decide) (backOf (W := 0) (own_eqN l Z a0 hw [] b3 b1 hbb ha T173.heap n0 Z173 f175 f176 f177 (Ne.symm hc7)) hZ (hw _ (List.mem_of_getElem? (i := 17) rfl)) (hw _ (List.mem_of_getElem? (i := 2) rfl)) (by decide) (by decide)) q178a q178c (g := (mkF m 152 #[.val (.long ha), .second, .val (.long la), .second, .val (.long h2), .second, .val (.long l2), .second, .val (.int xm), .val (.long hbb), .second, .val (.long lbb), .second, .val (.int (((xm.toUInt32 >>> ((2 : Int32) &&& 31).toUInt32).toInt32) &&& (3 : Int32))), .val (.ref b1), .val (.ref b3), .val (.int (0 : Int32)), .val (.ref y173_0), .val (.int (0 : Int32)), .val (.int (1 : Int32))] [(.ref b1), (.ref b3)])) rfl (by rw [hml]; rfl) (Steps.refl _) (argsL := [(.ref b1)]) (rest := []) (lenOf pd_12 rfl) rfl (by show 2 * 0 + _ ≤ _; exact Nat.le_of_eq rfl) (hb hby at_152) (fun _ _ => ⟨rfl, e174, (by decide : 2 + 0 ≤ _), (by decide : 4 + 0 ≤ _)⟩)
            dsimp only [Pt.U, Pt.locs, Pt.cells, Pt.slots] at X178 l178 y178 z178 st178 hQ178
            subst l178 y178 z178
            obtain ⟨rfl, Nq178, e178⟩ := hQ178
            have N178 := Fr.app N174 Nq178
            have f180 : Fld Z T173.heap b1 "com/example/xmitq/xmitq/MessageId" "low" "J" (.long la) := (((p2_2.ext E3).keep Kc5 (ninS ne3_b1 nin0)).keep Kc173 nin0)
            obtain ⟨cq181, kq181, q181a, q181b, q181c⟩ := isOf hZ e178 f175
            obtain ⟨_, _, ⟨T181, L181, k181, n181⟩, -, X181, ⟨Lc181, hQ181, l181, y181, z181⟩, st181⟩ := X178.virtualBack hx (y := (⟨"com/example/xmitq/xmitq/MessageId", "equals", "(Ljava/lang/Object;)Z"⟩ : MethodName)) (z := (⟨"com/example/xmitq/xmitq/MessageId", "equals", "(Ljava/lang/Object;)Z"⟩ : MethodName)) hown (mvT hZ (hw _ (List.mem_of_getElem? (i := 13) rfl))) (mvT hZ (hw _ (List.mem_of_getElem? (i := 14) rfl))) (notFace_of_selects (args := #[]) (mvT hZ (hw _ (List.mem_of_getElem? (i := 16) rfl)))) (mvT hZ (hw _ (List.mem_of_getElem? (i := 16) rfl))) (mvT hZ (hw _ (List.mem_of_getElem? (i := 15) rfl))) (by decide) (backOf (W := 0) (own_eqYY l Z a0 hw [] b1 b1 ha ha la la T173.heap n0 Z173 f175 f177 f177 (rfl : ha = ha) f180 f180 (rfl : la = la)) hZ (hw _ (List.mem_of_getElem? (i := 17) rfl)) (hw _ (List.mem_of_getElem? (i := 2) rfl)) (by decide) (by decide)) q181a q181c (g := (mkF m 176 #[.val (.long ha), .second, .val (.long la), .second, .val (.long h2), .second, .val (.long l2), .second, .val (.int xm), .val (.long hbb), .second, .val (.long lbb), .second, .val (.int (((xm.toUInt32 >>> ((2 : Int32) &&& 31).toUInt32).toInt32) &&& (3 : Int32))), .val (.ref b1), .val (.ref b3), .val (.int (0 : Int32)), .val (.ref y173_0), .val (.int (0 : Int32)), .val (.int (1 : Int32))] [(.ref b1), (.ref b1)])) rfl (by rw [hml]; rfl) (Steps.refl _) (argsL := [(.ref b1)]) (rest := []) (lenOf pd_12 rfl) rfl (by show 2 * 0 + _ ≤ _; exact Nat.le_of_eq rfl) (hb hby at_176) (fun _ _ => ⟨rfl, e178, (by decide : 2 + 0 ≤ _), (by decide : 4 + 0 ≤ _)⟩)
            dsimp only [Pt.U, Pt.locs, Pt.cells, Pt.slots] at X181 l181 y181 z181 st181 hQ181
            subst l181 y181 z181
            obtain ⟨rfl, Nq181, e181⟩ := hQ181
            have N181 := Fr.app N178 Nq181
            have go182 : ∀ t, Steps p.tables e below (T181.setTop (mkF m 191 #[.val (.long ha), .second, .val (.long la), .second, .val (.long h2), .second, .val (.long l2), .second, .val (.int xm), .val (.long hbb), .second, .val (.long lbb), .second, .val (.int (((xm.toUInt32 >>> ((2 : Int32) &&& 31).toUInt32).toInt32) &&& (3 : Int32))), .val (.ref b1), .val (.ref b3), .val (.int (0 : Int32)), .val (.ref y173_0), .val (.int (0 : Int32)), .val (.int (1 : Int32))] [(.int (1 : Int32))])) t → Steps p.tables e below st0 t := by
              intro t kt
              refine go143 t ?_
              refine st173 _ ?_
              show Steps p.tables e below (T173.setTop (mkF m 108 #[.val (.long ha), .second, .val (.long la), .second, .val (.long h2), .second, .val (.long l2), .second, .val (.int xm), .val (.long hbb), .second, .val (.long lbb), .second, .val (.int (((xm.toUInt32 >>> ((2 : Int32) &&& 31).toUInt32).toInt32) &&& (3 : Int32))), .val (.ref b1), .val (.ref b3), .val (.int (0 : Int32)), .unset, .unset, .unset] [(.ref y173_0)])) _
              refine XS.astore X173.here hx rfl (hb hby at_108) rfl rfl (l' := #[.val (.long ha), .second, .val (.long la), .second, .val (.long h2), .second, .val (.long l2), .second, .val (.int xm), .val (.long hbb), .second, .val (.long lbb), .second, .val (.int (((xm.toUInt32 >>> ((2 : Int32) &&& 31).toUInt32).toInt32) &&& (3 : Int32))), .val (.ref b1), .val (.ref b3), .val (.int (0 : Int32)), .val (.ref y173_0), .unset, .unset]) rfl ?_
              show Steps p.tables e below (T173.setTop (mkF m 110 #[.val (.long ha), .second, .val (.long la), .second, .val (.long h2), .second, .val (.long l2), .second, .val (.int xm), .val (.long hbb), .second, .val (.long lbb), .second, .val (.int (((xm.toUInt32 >>> ((2 : Int32) &&& 31).toUInt32).toInt32) &&& (3 : Int32))), .val (.ref b1), .val (.ref b3), .val (.int (0 : Int32)), .val (.ref y173_0), .unset, .unset] [])) _
              refine XS.iconst X173.here hx rfl (hb hby at_110) ?_
              show Steps p.tables e below (T173.setTop (mkF m 111 #[.val (.long ha), .second, .val (.long la), .second, .val (.long h2), .second, .val (.long l2), .second, .val (.int xm), .val (.long hbb), .second, .val (.long lbb), .second, .val (.int (((xm.toUInt32 >>> ((2 : Int32) &&& 31).toUInt32).toInt32) &&& (3 : Int32))), .val (.ref b1), .val (.ref b3), .val (.int (0 : Int32)), .val (.ref y173_0), .unset, .unset] [(.int (0 : Int32))])) _
              refine XS.istore X173.here hx rfl (hb hby at_111) rfl (l' := #[.val (.long ha), .second, .val (.long la), .second, .val (.long h2), .second, .val (.long l2), .second, .val (.int xm), .val (.long hbb), .second, .val (.long lbb), .second, .val (.int (((xm.toUInt32 >>> ((2 : Int32) &&& 31).toUInt32).toInt32) &&& (3 : Int32))), .val (.ref b1), .val (.ref b3), .val (.int (0 : Int32)), .val (.ref y173_0), .val (.int (0 : Int32)), .unset]) rfl ?_
              show Steps p.tables e below (T173.setTop (mkF m 113 #[.val (.long ha), .second, .val (.long la), .second, .val (.long h2), .second, .val (.long l2), .second, .val (.int xm), .val (.long hbb), .second, .val (.long lbb), .second, .val (.int (((xm.toUInt32 >>> ((2 : Int32) &&& 31).toUInt32).toInt32) &&& (3 : Int32))), .val (.ref b1), .val (.ref b3), .val (.int (0 : Int32)), .val (.ref y173_0), .val (.int (0 : Int32)), .unset] [])) _
              refine XS.goto X173.here hx rfl (pc0 := 113) (pc' := 124) rfl (hb hby at_113) (by decide) (by decide) ?_
              show Steps p.tables e below (T173.setTop (mkF m 124 #[.val (.long ha), .second, .val (.long la), .second, .val (.long h2), .second, .val (.long l2), .second, .val (.int xm), .val (.long hbb), .second, .val (.long lbb), .second, .val (.int (((xm.toUInt32 >>> ((2 : Int32) &&& 31).toUInt32).toInt32) &&& (3 : Int32))), .val (.ref b1), .val (.ref b3), .val (.int (0 : Int32)), .val (.ref y173_0), .val (.int (0 : Int32)), .unset] [])) _
              refine XS.aload X173.here hx rfl (hb hby at_124) rfl rfl ?_
              show Steps p.tables e below (T173.setTop (mkF m 126 #[.val (.long ha), .second, .val (.long la), .second, .val (.long h2), .second, .val (.long l2), .second, .val (.int xm), .val (.long hbb), .second, .val (.long lbb), .second, .val (.int (((xm.toUInt32 >>> ((2 : Int32) &&& 31).toUInt32).toInt32) &&& (3 : Int32))), .val (.ref b1), .val (.ref b3), .val (.int (0 : Int32)), .val (.ref y173_0), .val (.int (0 : Int32)), .unset] [(.ref b1)])) _
              refine XS.aload X173.here hx rfl (hb hby at_126) rfl rfl ?_
              show Steps p.tables e below (T173.setTop (mkF m 128 #[.val (.long ha), .second, .val (.long la), .second, .val (.long h2), .second, .val (.long l2), .second, .val (.int xm), .val (.long hbb), .second, .val (.long lbb), .second, .val (.int (((xm.toUInt32 >>> ((2 : Int32) &&& 31).toUInt32).toInt32) &&& (3 : Int32))), .val (.ref b1), .val (.ref b3), .val (.int (0 : Int32)), .val (.ref y173_0), .val (.int (0 : Int32)), .unset] [(.ref y173_0), (.ref b1)])) _
              refine st174.trans ?_
              show Steps p.tables e below (T174.setTop (mkF m 131 #[.val (.long ha), .second, .val (.long la), .second, .val (.long h2), .second, .val (.long l2), .second, .val (.int xm), .val (.long hbb), .second, .val (.long lbb), .second, .val (.int (((xm.toUInt32 >>> ((2 : Int32) &&& 31).toUInt32).toInt32) &&& (3 : Int32))), .val (.ref b1), .val (.ref b3), .val (.int (0 : Int32)), .val (.ref y173_0), .val (.int (0 : Int32)), .unset] [(.int (0 : Int32))])) _
              refine XS.iload X174.here hx rfl (hb hby at_131) rfl ?_
              show Steps p.tables e below (T174.setTop (mkF m 133 #[.val (.long ha), .second, .val (.long la), .second, .val (.long h2), .second, .val (.long l2), .second, .val (.int xm), .val (.long hbb), .second, .val (.long lbb), .second, .val (.int (((xm.toUInt32 >>> ((2 : Int32) &&& 31).toUInt32).toInt32) &&& (3 : Int32))), .val (.ref b1), .val (.ref b3), .val (.int (0 : Int32)), .val (.ref y173_0), .val (.int (0 : Int32)), .unset] [(.int (0 : Int32)), (.int (0 : Int32))])) _
              refine XS.icmpNo X174.here hx rfl (hb hby at_133) rfl (teq (by decide : (0 : Int32) = (0 : Int32))).2 ?_
              show Steps p.tables e below (T174.setTop (mkF m 136 #[.val (.long ha), .second, .val (.long la), .second, .val (.long h2), .second, .val (.long l2), .second, .val (.int xm), .val (.long hbb), .second, .val (.long lbb), .second, .val (.int (((xm.toUInt32 >>> ((2 : Int32) &&& 31).toUInt32).toInt32) &&& (3 : Int32))), .val (.ref b1), .val (.ref b3), .val (.int (0 : Int32)), .val (.ref y173_0), .val (.int (0 : Int32)), .unset] [])) _
              refine XS.iconst X174.here hx rfl (hb hby at_136) ?_
              show Steps p.tables e below (T174.setTop (mkF m 137 #[.val (.long ha), .second, .val (.long la), .second, .val (.long h2), .second, .val (.long l2), .second, .val (.int xm), .val (.long hbb), .second, .val (.long lbb), .second, .val (.int (((xm.toUInt32 >>> ((2 : Int32) &&& 31).toUInt32).toInt32) &&& (3 : Int32))), .val (.ref b1), .val (.ref b3), .val (.int (0 : Int32)), .val (.ref y173_0), .val (.int (0 : Int32)), .unset] [(.int (1 : Int32))])) _
              refine XS.goto X174.here hx rfl (pc0 := 137) (pc' := 141) rfl (hb hby at_137) (by decide) (by decide) ?_
              show Steps p.tables e below (T174.setTop (mkF m 141 #[.val (.long ha), .second, .val (.long la), .second, .val (.long h2), .second, .val (.long l2), .second, .val (.int xm), .val (.long hbb), .second, .val (.long lbb), .second, .val (.int (((xm.toUInt32 >>> ((2 : Int32) &&& 31).toUInt32).toInt32) &&& (3 : Int32))), .val (.ref b1), .val (.ref b3), .val (.int (0 : Int32)), .val (.ref y173_0), .val (.int (0 : Int32)), .unset] [(.int (1 : Int32))])) _
              refine XS.istore X174.here hx rfl (hb hby at_141) rfl (l' := #[.val (.long ha), .second, .val (.long la), .second, .val (.long h2), .second, .val (.long l2), .second, .val (.int xm), .val (.long hbb), .second, .val (.long lbb), .second, .val (.int (((xm.toUInt32 >>> ((2 : Int32) &&& 31).toUInt32).toInt32) &&& (3 : Int32))), .val (.ref b1), .val (.ref b3), .val (.int (0 : Int32)), .val (.ref y173_0), .val (.int (0 : Int32)), .val (.int (1 : Int32))]) rfl ?_
              show Steps p.tables e below (T174.setTop (mkF m 143 #[.val (.long ha), .second, .val (.long la), .second, .val (.long h2), .second, .val (.long l2), .second, .val (.int xm), .val (.long hbb), .second, .val (.long lbb), .second, .val (.int (((xm.toUInt32 >>> ((2 : Int32) &&& 31).toUInt32).toInt32) &&& (3 : Int32))), .val (.ref b1), .val (.ref b3), .val (.int (0 : Int32)), .val (.ref y173_0), .val (.int (0 : Int32)), .val (.int (1 : Int32))] [])) _
              refine XS.iload X174.here hx rfl (hb hby at_143) rfl ?_
              show Steps p.tables e below (T174.setTop (mkF m 145 #[.val (.long ha), .second, .val (.long la), .second, .val (.long h2), .second, .val (.long l2), .second, .val (.int xm), .val (.long hbb), .second, .val (.long lbb), .second, .val (.int (((xm.toUInt32 >>> ((2 : Int32) &&& 31).toUInt32).toInt32) &&& (3 : Int32))), .val (.ref b1), .val (.ref b3), .val (.int (0 : Int32)), .val (.ref y173_0), .val (.int (0 : Int32)), .val (.int (1 : Int32))] [(.int (1 : Int32))])) _
              refine XS.ifNo X174.here hx rfl (hb hby at_145) rfl ((if0 _ _).trans (feq (by decide : ¬ ((1 : Int32) = (0 : Int32)))).1) ?_
              show Steps p.tables e below (T174.setTop (mkF m 148 #[.val (.long ha), .second, .val (.long la), .second, .val (.long h2), .second, .val (.long l2), .second, .val (.int xm), .val (.long hbb), .second, .val (.long lbb), .second, .val (.int (((xm.toUInt32 >>> ((2 : Int32) &&& 31).toUInt32).toInt32) &&& (3 : Int32))), .val (.ref b1), .val (.ref b3), .val (.int (0 : Int32)), .val (.ref y173_0), .val (.int (0 : Int32)), .val (.int (1 : Int32))] [])) _
              refine XS.aload X174.here hx rfl (hb hby at_148) rfl rfl ?_
              show Steps p.tables e below (T174.setTop (mkF m 150 #[.val (.long ha), .second, .val (.long la), .second, .val (.long h2), .second, .val (.long l2), .second, .val (.int xm), .val (.long hbb), .second, .val (.long lbb), .second, .val (.int (((xm.toUInt32 >>> ((2 : Int32) &&& 31).toUInt32).toInt32) &&& (3 : Int32))), .val (.ref b1), .val (.ref b3), .val (.int (0 : Int32)), .val (.ref y173_0), .val (.int (0 : Int32)), .val (.int (1 : Int32))] [(.ref b3)])) _
              refine XS.aload X174.here hx rfl (hb hby at_150) rfl rfl ?_
              show Steps p.tables e below (T174.setTop (mkF m 152 #[.val (.long ha), .second, .val (.long la), .second, .val (.long h2), .second, .val (.long l2), .second, .val (.int xm), .val (.long hbb), .second, .val (.long lbb), .second, .val (.int (((xm.toUInt32 >>> ((2 : Int32) &&& 31).toUInt32).toInt32) &&& (3 : Int32))), .val (.ref b1), .val (.ref b3), .val (.int (0 : Int32)), .val (.ref y173_0), .val (.int (0 : Int32)), .val (.int (1 : Int32))] [(.ref b1), (.ref b3)])) _
              refine st178.trans ?_
              show Steps p.tables e below (T178.setTop (mkF m 155 #[.val (.long ha), .second, .val (.long la), .second, .val (.long h2), .second, .val (.long l2), .second, .val (.int xm), .val (.long hbb), .second, .val (.long lbb), .second, .val (.int (((xm.toUInt32 >>> ((2 : Int32) &&& 31).toUInt32).toInt32) &&& (3 : Int32))), .val (.ref b1), .val (.ref b3), .val (.int (0 : Int32)), .val (.ref y173_0), .val (.int (0 : Int32)), .val (.int (1 : Int32))] [(.int (0 : Int32))])) _
              refine XS.iload X178.here hx rfl (hb hby at_155) rfl ?_
              show Steps p.tables e below (T178.setTop (mkF m 157 #[.val (.long ha), .second, .val (.long la), .second, .val (.long h2), .second, .val (.long l2), .second, .val (.int xm), .val (.long hbb), .second, .val (.long lbb), .second, .val (.int (((xm.toUInt32 >>> ((2 : Int32) &&& 31).toUInt32).toInt32) &&& (3 : Int32))), .val (.ref b1), .val (.ref b3), .val (.int (0 : Int32)), .val (.ref y173_0), .val (.int (0 : Int32)), .val (.int (1 : Int32))] [(.int (0 : Int32)), (.int (0 : Int32))])) _
              refine XS.icmpNo X178.here hx rfl (hb hby at_157) rfl (teq (by decide : (0 : Int32) = (0 : Int32))).2 ?_
              show Steps p.tables e below (T178.setTop (mkF m 160 #[.val (.long ha), .second, .val (.long la), .second, .val (.long h2), .second, .val (.long l2), .second, .val (.int xm), .val (.long hbb), .second, .val (.long lbb), .second, .val (.int (((xm.toUInt32 >>> ((2 : Int32) &&& 31).toUInt32).toInt32) &&& (3 : Int32))), .val (.ref b1), .val (.ref b3), .val (.int (0 : Int32)), .val (.ref y173_0), .val (.int (0 : Int32)), .val (.int (1 : Int32))] [])) _
              refine XS.iconst X178.here hx rfl (hb hby at_160) ?_
              show Steps p.tables e below (T178.setTop (mkF m 161 #[.val (.long ha), .second, .val (.long la), .second, .val (.long h2), .second, .val (.long l2), .second, .val (.int xm), .val (.long hbb), .second, .val (.long lbb), .second, .val (.int (((xm.toUInt32 >>> ((2 : Int32) &&& 31).toUInt32).toInt32) &&& (3 : Int32))), .val (.ref b1), .val (.ref b3), .val (.int (0 : Int32)), .val (.ref y173_0), .val (.int (0 : Int32)), .val (.int (1 : Int32))] [(.int (1 : Int32))])) _
              refine XS.goto X178.here hx rfl (pc0 := 161) (pc' := 165) rfl (hb hby at_161) (by decide) (by decide) ?_
              show Steps p.tables e below (T178.setTop (mkF m 165 #[.val (.long ha), .second, .val (.long la), .second, .val (.long h2), .second, .val (.long l2), .second, .val (.int xm), .val (.long hbb), .second, .val (.long lbb), .second, .val (.int (((xm.toUInt32 >>> ((2 : Int32) &&& 31).toUInt32).toInt32) &&& (3 : Int32))), .val (.ref b1), .val (.ref b3), .val (.int (0 : Int32)), .val (.ref y173_0), .val (.int (0 : Int32)), .val (.int (1 : Int32))] [(.int (1 : Int32))])) _
              refine XS.istore X178.here hx rfl (hb hby at_165) rfl (l' := #[.val (.long ha), .second, .val (.long la), .second, .val (.long h2), .second, .val (.long l2), .second, .val (.int xm), .val (.long hbb), .second, .val (.long lbb), .second, .val (.int (((xm.toUInt32 >>> ((2 : Int32) &&& 31).toUInt32).toInt32) &&& (3 : Int32))), .val (.ref b1), .val (.ref b3), .val (.int (0 : Int32)), .val (.ref y173_0), .val (.int (0 : Int32)), .val (.int (1 : Int32))]) rfl ?_
              show Steps p.tables e below (T178.setTop (mkF m 167 #[.val (.long ha), .second, .val (.long la), .second, .val (.long h2), .second, .val (.long l2), .second, .val (.int xm), .val (.long hbb), .second, .val (.long lbb), .second, .val (.int (((xm.toUInt32 >>> ((2 : Int32) &&& 31).toUInt32).toInt32) &&& (3 : Int32))), .val (.ref b1), .val (.ref b3), .val (.int (0 : Int32)), .val (.ref y173_0), .val (.int (0 : Int32)), .val (.int (1 : Int32))] [])) _
              refine XS.iload X178.here hx rfl (hb hby at_167) rfl ?_
              show Steps p.tables e below (T178.setTop (mkF m 169 #[.val (.long ha), .second, .val (.long la), .second, .val (.long h2), .second, .val (.long l2), .second, .val (.int xm), .val (.long hbb), .second, .val (.long lbb), .second, .val (.int (((xm.toUInt32 >>> ((2 : Int32) &&& 31).toUInt32).toInt32) &&& (3 : Int32))), .val (.ref b1), .val (.ref b3), .val (.int (0 : Int32)), .val (.ref y173_0), .val (.int (0 : Int32)), .val (.int (1 : Int32))] [(.int (1 : Int32))])) _
              refine XS.ifNo X178.here hx rfl (hb hby at_169) rfl ((if0 _ _).trans (feq (by decide : ¬ ((1 : Int32) = (0 : Int32)))).1) ?_
              show Steps p.tables e below (T178.setTop (mkF m 172 #[.val (.long ha), .second, .val (.long la), .second, .val (.long h2), .second, .val (.long l2), .second, .val (.int xm), .val (.long hbb), .second, .val (.long lbb), .second, .val (.int (((xm.toUInt32 >>> ((2 : Int32) &&& 31).toUInt32).toInt32) &&& (3 : Int32))), .val (.ref b1), .val (.ref b3), .val (.int (0 : Int32)), .val (.ref y173_0), .val (.int (0 : Int32)), .val (.int (1 : Int32))] [])) _
              refine XS.aload X178.here hx rfl (hb hby at_172) rfl rfl ?_
              show Steps p.tables e below (T178.setTop (mkF m 174 #[.val (.long ha), .second, .val (.long la), .second, .val (.long h2), .second, .val (.long l2), .second, .val (.int xm), .val (.long hbb), .second, .val (.long lbb), .second, .val (.int (((xm.toUInt32 >>> ((2 : Int32) &&& 31).toUInt32).toInt32) &&& (3 : Int32))), .val (.ref b1), .val (.ref b3), .val (.int (0 : Int32)), .val (.ref y173_0), .val (.int (0 : Int32)), .val (.int (1 : Int32))] [(.ref b1)])) _
              refine XS.aload X178.here hx rfl (hb hby at_174) rfl rfl ?_
              show Steps p.tables e below (T178.setTop (mkF m 176 #[.val (.long ha), .second, .val (.long la), .second, .val (.long h2), .second, .val (.long l2), .second, .val (.int xm), .val (.long hbb), .second, .val (.long lbb), .second, .val (.int (((xm.toUInt32 >>> ((2 : Int32) &&& 31).toUInt32).toInt32) &&& (3 : Int32))), .val (.ref b1), .val (.ref b3), .val (.int (0 : Int32)), .val (.ref y173_0), .val (.int (0 : Int32)), .val (.int (1 : Int32))] [(.ref b1), (.ref b1)])) _
              refine st181.trans ?_
              show Steps p.tables e below (T181.setTop (mkF m 179 #[.val (.long ha), .second, .val (.long la), .second, .val (.long h2), .second, .val (.long l2), .second, .val (.int xm), .val (.long hbb), .second, .val (.long lbb), .second, .val (.int (((xm.toUInt32 >>> ((2 : Int32) &&& 31).toUInt32).toInt32) &&& (3 : Int32))), .val (.ref b1), .val (.ref b3), .val (.int (0 : Int32)), .val (.ref y173_0), .val (.int (0 : Int32)), .val (.int (1 : Int32))] [(.int (1 : Int32))])) _
              refine XS.ifNo X181.here hx rfl (hb hby at_179) rfl ((if0 _ _).trans (feq (by decide : ¬ ((1 : Int32) = (0 : Int32)))).1) ?_
              show Steps p.tables e below (T181.setTop (mkF m 182 #[.val (.long ha), .second, .val (.long la), .second, .val (.long h2), .second, .val (.long l2), .second, .val (.int xm), .val (.long hbb), .second, .val (.long lbb), .second, .val (.int (((xm.toUInt32 >>> ((2 : Int32) &&& 31).toUInt32).toInt32) &&& (3 : Int32))), .val (.ref b1), .val (.ref b3), .val (.int (0 : Int32)), .val (.ref y173_0), .val (.int (0 : Int32)), .val (.int (1 : Int32))] [])) _
              refine XS.iconst X181.here hx rfl (hb hby at_182) ?_
              show Steps p.tables e below (T181.setTop (mkF m 183 #[.val (.long ha), .second, .val (.long la), .second, .val (.long h2), .second, .val (.long l2), .second, .val (.int xm), .val (.long hbb), .second, .val (.long lbb), .second, .val (.int (((xm.toUInt32 >>> ((2 : Int32) &&& 31).toUInt32).toInt32) &&& (3 : Int32))), .val (.ref b1), .val (.ref b3), .val (.int (0 : Int32)), .val (.ref y173_0), .val (.int (0 : Int32)), .val (.int (1 : Int32))] [(.int (1 : Int32))])) _
              refine XS.goto X181.here hx rfl (pc0 := 183) (pc' := 187) rfl (hb hby at_183) (by decide) (by decide) ?_
              show Steps p.tables e below (T181.setTop (mkF m 187 #[.val (.long ha), .second, .val (.long la), .second, .val (.long h2), .second, .val (.long l2), .second, .val (.int xm), .val (.long hbb), .second, .val (.long lbb), .second, .val (.int (((xm.toUInt32 >>> ((2 : Int32) &&& 31).toUInt32).toInt32) &&& (3 : Int32))), .val (.ref b1), .val (.ref b3), .val (.int (0 : Int32)), .val (.ref y173_0), .val (.int (0 : Int32)), .val (.int (1 : Int32))] [(.int (1 : Int32))])) _
              refine XS.istore X181.here hx rfl (hb hby at_187) rfl (l' := #[.val (.long ha), .second, .val (.long la), .second, .val (.long h2), .second, .val (.long l2), .second, .val (.int xm), .val (.long hbb), .second, .val (.long lbb), .second, .val (.int (((xm.toUInt32 >>> ((2 : Int32) &&& 31).toUInt32).toInt32) &&& (3 : Int32))), .val (.ref b1), .val (.ref b3), .val (.int (0 : Int32)), .val (.ref y173_0), .val (.int (0 : Int32)), .val (.int (1 : Int32))]) rfl ?_
              show Steps p.tables e below (T181.setTop (mkF m 189 #[.val (.long ha), .second, .val (.long la), .second, .val (.long h2), .second, .val (.long l2), .second, .val (.int xm), .val (.long hbb), .second, .val (.long lbb), .second, .val (.int (((xm.toUInt32 >>> ((2 : Int32) &&& 31).toUInt32).toInt32) &&& (3 : Int32))), .val (.ref b1), .val (.ref b3), .val (.int (0 : Int32)), .val (.ref y173_0), .val (.int (0 : Int32)), .val (.int (1 : Int32))] [])) _
              refine XS.iload X181.here hx rfl (hb hby at_189) rfl ?_
              show Steps p.tables e below (T181.setTop (mkF m 191 #[.val (.long ha), .second, .val (.long la), .second, .val (.long h2), .second, .val (.long l2), .second, .val (.int xm), .val (.long hbb), .second, .val (.long lbb), .second, .val (.int (((xm.toUInt32 >>> ((2 : Int32) &&& 31).toUInt32).toInt32) &&& (3 : Int32))), .val (.ref b1), .val (.ref b3), .val (.int (0 : Int32)), .val (.ref y173_0), .val (.int (0 : Int32)), .val (.int (1 : Int32))] [(.int (1 : Int32))])) _
              exact kt
            obtain ⟨fs, hr, hrun, hended, hW, hsame⟩ := X181.leave (v := some (.int (1 : Int32))) (fun h => by rw [hret] at h; cases h) hlk
            refine ⟨_, _, go182 _ ?_, hrun, hended, _, _, rfl, ⟨rfl, N181⟩, ⟨_, rfl⟩, hW, hsame.mono (by decide) (by decide)⟩
            exact retN X181 hx (t := .boolean) hret (by simp) (hb hby at_191) hr
      · skip
        have f183 : Fld Z T5.heap b1 "com/example/xmitq/xmitq/MessageId" "high" "J" (.long ha) := ((p2_1.ext E3).keep Kc5 (ninS ne3_b1 nin0))
        have f185 : Exa Z T5.heap b1 "com/example/xmitq/xmitq/MessageId" := ((p2_0.ext E3).keep Kc5)
        obtain ⟨cq184, kq184, q184a, q184b, q184c⟩ := isOf hZ rfl f185
        obtain ⟨_, _, ⟨T184, L184, k184, n184⟩, -, X184, ⟨Lc184, hQ184, l184, y184, z184⟩, st184⟩ := X5.virtualBack hx (y := (⟨"com/example/xmitq/xmitq/MessageId", "equals", "(Ljava/lang/Object;)Z"⟩ : MethodName)) (z := (⟨"com/example/xmitq/xmitq/MessageId", "equals", "(Ljava/lang/Object;)Z"⟩ : MethodName)) hown (mvT hZ (hw _ (List.mem_of_getElem? (i := 13) rfl))) (mvT hZ (hw _ (List.mem_of_getElem? (i := 14) rfl))) (notFace_of_selects (args := #[]) (mvT hZ (hw _ (List.mem_of_getElem? (i := 16) rfl)))) (mvT hZ (hw _ (List.mem_of_getElem? (i := 16) rfl))) (mvT hZ (hw _ (List.mem_of_getElem? (i := 15) rfl))) (by decide) (backOf (W := 0) (own_eqN l Z a0 hw [] b1 b3 ha hbb T5.heap n0 Z5 p5_0 f183 p5_1 hc7) hZ (hw _ (List.mem_of_getElem? (i := 17) rfl)) (hw _ (List.mem_of_getElem? (i := 2) rfl)) (by decide) (by decide)) q184a q184c (g := (mkF m 128 #[.val (.long ha), .second, .val (.long la), .second, .val (.long h2), .second, .val (.long l2), .second, .val (.int xm), .val (.long hbb), .second, .val (.long lbb), .second, .val (.int (((xm.toUInt32 >>> ((2 : Int32) &&& 31).toUInt32).toInt32) &&& (3 : Int32))), .val (.ref b1), .val (.ref b3), .val (.int (0 : Int32)), .val (.ref b3), .val (.int (0 : Int32)), .unset] [(.ref b3), (.ref b1)])) rfl (by rw [hml]; rfl) (Steps.refl _) (argsL := [(.ref b3)]) (rest := []) (lenOf pd_12 rfl) rfl (by show 2 * 0 + _ ≤ _; exact Nat.le_of_eq rfl) (hb hby at_128) (fun _ _ => ⟨rfl, rfl, (by decide : 2 + 0 ≤ _), (by decide : 4 + 0 ≤ _)⟩)
        dsimp only [Pt.U, Pt.locs, Pt.cells, Pt.slots] at X184 l184 y184 z184 st184 hQ184
        subst l184 y184 z184
        obtain ⟨rfl, Nq184, e184⟩ := hQ184
        have N184 := Fr.app N5 Nq184
        obtain ⟨cq186, kq186, q186a, q186b, q186c⟩ := isOf hZ e184 p5_0
        obtain ⟨_, _, ⟨T186, L186, k186, n186⟩, -, X186, ⟨Lc186, hQ186, l186, y186, z186⟩, st186⟩ := X184.virtualBack hx (y := (⟨"com/example/xmitq/xmitq/MessageId", "equals", "(Ljava/lang/Object;)Z"⟩ : MethodName)) (z := (⟨"com/example/xmitq/xmitq/MessageId", "equals", "(Ljava/lang/Object;)Z"⟩ : MethodName)) hown (mvT hZ (hw _ (List.mem_of_getElem? (i := 13) rfl))) (mvT hZ (hw _ (List.mem_of_getElem? (i := 14) rfl))) (notFace_of_selects (args := #[]) (mvT hZ (hw _ (List.mem_of_getElem? (i := 16) rfl)))) (mvT hZ (hw _ (List.mem_of_getElem? (i := 16) rfl))) (mvT hZ (hw _ (List.mem_of_getElem? (i := 15) rfl))) (by decide) (backOf (W := 0) (own_eqN l Z a0 hw [] b3 b1 hbb ha T5.heap n0 Z5 f185 p5_1 f183 (Ne.symm hc7)) hZ (hw _ (List.mem_of_getElem? (i := 17) rfl)) (hw _ (List.mem_of_getElem? (i := 2) rfl)) (by decide) (by decide)) q186a q186c (g := (mkF m 152 #[.val (.long ha), .second, .val (.long la), .second, .val (.long h2), .second, .val (.long l2), .second, .val (.int xm), .val (.long hbb), .second, .val (.long lbb), .second, .val (.int (((xm.toUInt32 >>> ((2 : Int32) &&& 31).toUInt32).toInt32) &&& (3 : Int32))), .val (.ref b1), .val (.ref b3), .val (.int (0 : Int32)), .val (.ref b3), .val (.int (0 : Int32)), .val (.int (1 : Int32))] [(.ref b1), (.ref b3)])) rfl (by rw [hml]; rfl) (Steps.refl _) (argsL := [(.ref b1)]) (rest := []) (lenOf pd_12 rfl) rfl (by show 2 * 0 + _ ≤ _; exact Nat.le_of_eq rfl) (hb hby at_152) (fun _ _ => ⟨rfl, e184, (by decide : 2 + 0 ≤ _), (by decide : 4 + 0 ≤ _)⟩)
        dsimp only [Pt.U, Pt.locs, Pt.cells, Pt.slots] at X186 l186 y186 z186 st186 hQ186
        subst l186 y186 z186
        obtain ⟨rfl, Nq186, e186⟩ := hQ186
        have N186 := Fr.app N184 Nq186
        have f187 : Fld Z T5.heap b1 "com/example/xmitq/xmitq/MessageId" "low" "J" (.long la) := ((p2_2.ext E3).keep Kc5 (ninS ne3_b1 nin0))
        obtain ⟨cq188, kq188, q188a, q188b, q188c⟩ := isOf hZ e186 f185
        obtain ⟨_, _, ⟨T188, L188, k188, n188⟩, -, X188, ⟨Lc188, hQ188, l188, y188, z188⟩, st188⟩ := X186.virtualBack hx (y := (⟨"com/example/xmitq/xmitq/MessageId", "equals", "(Ljava/lang/Object;)Z"⟩ : MethodName)) (z := (⟨"com/example/xmitq/xmitq/MessageId", "equals", "(Ljava/lang/Object;)Z"⟩ : MethodName)) hown (mvT hZ (hw _ (List.mem_of_getElem? (i := 13) rfl))) (mvT hZ (hw _ (List.mem_of_getElem? (i := 14) rfl))) (notFace_of_selects (args := #[]) (mvT hZ (hw _ (List.mem_of_getElem? (i := 16) rfl)))) (mvT hZ (hw _ (List.mem_of_getElem? (i := 16) rfl))) (mvT hZ (hw _ (List.mem_of_getElem? (i := 15) rfl))) (by decide) (backOf (W := 0) (own_eqYY l Z a0 hw [] b1 b1 ha ha la la T5.heap n0 Z5 f185 f183 f183 (rfl : ha = ha) f187 f187 (rfl : la = la)) hZ (hw _ (List.mem_of_getElem? (i := 17) rfl)) (hw _ (List.mem_of_getElem? (i := 2) rfl)) (by decide) (by decide)) q188a q188c (g := (mkF m 176 #[.val (.long ha), .second, .val (.long la), .second, .val (.long h2), .second, .val (.long l2), .second, .val (.int xm), .val (.long hbb), .second, .val (.long lbb), .second, .val (.int (((xm.toUInt32 >>> ((2 : Int32) &&& 31).toUInt32).toInt32) &&& (3 : Int32))), .val (.ref b1), .val (.ref b3), .val (.int (0 : Int32)), .val (.ref b3), .val (.int (0 : Int32)), .val (.int (1 : Int32))] [(.ref b1), (.ref b1)])) rfl (by rw [hml]; rfl) (Steps.refl _) (argsL := [(.ref b1)]) (rest := []) (lenOf pd_12 rfl) rfl (by show 2 * 0 + _ ≤ _; exact Nat.le_of_eq rfl) (hb hby at_176) (fun _ _ => ⟨rfl, e186, (by decide : 2 + 0 ≤ _), (by decide : 4 + 0 ≤ _)⟩)
        dsimp only [Pt.U, Pt.locs, Pt.cells, Pt.slots] at X188 l188 y188 z188 st188 hQ188
        subst l188 y188 z188
        obtain ⟨rfl, Nq188, e188⟩ := hQ188
        have N188 := Fr.app N186 Nq188
        have go189 : ∀ t, Steps p.tables e below (T188.setTop (mkF m 191 #[.val (.long ha), .second, .val (.long la), .second, .val (.long h2), .second, .val (.long l2), .second, .val (.int xm), .val (.long hbb), .second, .val (.long lbb), .second, .val (.int (((xm.toUInt32 >>> ((2 : Int32) &&& 31).toUInt32).toInt32) &&& (3 : Int32))), .val (.ref b1), .val (.ref b3), .val (.int (0 : Int32)), .val (.ref b3), .val (.int (0 : Int32)), .val (.int (1 : Int32))] [(.int (1 : Int32))])) t → Steps p.tables e below st0 t := by
          intro t kt
          refine go141 t ?_
          refine XS.icmpYes X5.here hx rfl (pc0 := 101) (pc' := 116) rfl (hb hby at_101) rfl (feq hc142).2 (by decide) (by decide) ?_
          show Steps p.tables e below (T5.setTop (mkF m 116 #[.val (.long ha), .second, .val (.long la), .second, .val (.long h2), .second, .val (.long l2), .second, .val (.int xm), .val (.long hbb), .second, .val (.long lbb), .second, .val (.int (((xm.toUInt32 >>> ((2 : Int32) &&& 31).toUInt32).toInt32) &&& (3 : Int32))), .val (.ref b1), .val (.ref b3), .val (.int (0 : Int32)), .unset, .unset, .unset] [])) _
          refine XS.aload X5.here hx rfl (hb hby at_116) rfl rfl ?_
          show Steps p.tables e below (T5.setTop (mkF m 118 #[.val (.long ha), .second, .val (.long la), .second, .val (.long h2), .second, .val (.long l2), .second, .val (.int xm), .val (.long hbb), .second, .val (.long lbb), .second, .val (.int (((xm.toUInt32 >>> ((2 : Int32) &&& 31).toUInt32).toInt32) &&& (3 : Int32))), .val (.ref b1), .val (.ref b3), .val (.int (0 : Int32)), .unset, .unset, .unset] [(.ref b3)])) _
          refine XS.astore X5.here hx rfl (hb hby at_118) rfl rfl (l' := #[.val (.long ha), .second, .val (.long la), .second, .val (.long h2), .second, .val (.long l2), .second, .val (.int xm), .val (.long hbb), .second, .val (.long lbb), .second, .val (.int (((xm.toUInt32 >>> ((2 : Int32) &&& 31).toUInt32).toInt32) &&& (3 : Int32))), .val (.ref b1), .val (.ref b3), .val (.int (0 : Int32)), .val (.ref b3), .unset, .unset]) rfl ?_
          show Steps p.tables e below (T5.setTop (mkF m 120 #[.val (.long ha), .second, .val (.long la), .second, .val (.long h2), .second, .val (.long l2), .second, .val (.int xm), .val (.long hbb), .second, .val (.long lbb), .second, .val (.int (((xm.toUInt32 >>> ((2 : Int32) &&& 31).toUInt32).toInt32) &&& (3 : Int32))), .val (.ref b1), .val (.ref b3), .val (.int (0 : Int32)), .val (.ref b3), .unset, .unset] [])) _
          refine XS.iload X5.here hx rfl (hb hby at_120) rfl ?_
          show Steps p.tables e below (T5.setTop (mkF m 122 #[.val (.long ha), .second, .val (.long la), .second, .val (.long h2), .second, .val (.long l2), .second, .val (.int xm), .val (.long hbb), .second, .val (.long lbb), .second, .val (.int (((xm.toUInt32 >>> ((2 : Int32) &&& 31).toUInt32).toInt32) &&& (3 : Int32))), .val (.ref b1), .val (.ref b3), .val (.int (0 : Int32)), .val (.ref b3), .unset, .unset] [(.int (0 : Int32))])) _
          refine XS.istore X5.here hx rfl (hb hby at_122) rfl (l' := #[.val (.long ha), .second, .val (.long la), .second, .val (.long h2), .second, .val (.long l2), .second, .val (.int xm), .val (.long hbb), .second, .val (.long lbb), .second, .val (.int (((xm.toUInt32 >>> ((2 : Int32) &&& 31).toUInt32).toInt32) &&& (3 : Int32))), .val (.ref b1), .val (.ref b3), .val (.int (0 : Int32)), .val (.ref b3), .val (.int (0 : Int32)), .unset]) rfl ?_
          show Steps p.tables e below (T5.setTop (mkF m 124 #[.val (.long ha), .second, .val (.long la), .second, .val (.long h2), .second, .val (.long l2), .second, .val (.int xm), .val (.long hbb), .second, .val (.long lbb), .second, .val (.int (((xm.toUInt32 >>> ((2 : Int32) &&& 31).toUInt32).toInt32) &&& (3 : Int32))), .val (.ref b1), .val (.ref b3), .val (.int (0 : Int32)), .val (.ref b3), .val (.int (0 : Int32)), .unset] [])) _
          refine XS.aload X5.here hx rfl (hb hby at_124) rfl rfl ?_
          show Steps p.tables e below (T5.setTop (mkF m 126 #[.val (.long ha), .second, .val (.long la), .second, .val (.long h2), .second, .val (.long l2), .second, .val (.int xm), .val (.long hbb), .second, .val (.long lbb), .second, .val (.int (((xm.toUInt32 >>> ((2 : Int32) &&& 31).toUInt32).toInt32) &&& (3 : Int32))), .val (.ref b1), .val (.ref b3), .val (.int (0 : Int32)), .val (.ref b3), .val (.int (0 : Int32)), .unset] [(.ref b1)])) _
          refine XS.aload X5.here hx rfl (hb hby at_126) rfl rfl ?_
          show Steps p.tables e below (T5.setTop (mkF m 128 #[.val (.long ha), .second, .val (.long la), .second, .val (.long h2), .second, .val (.long l2), .second, .val (.int xm), .val (.long hbb), .second, .val (.long lbb), .second, .val (.int (((xm.toUInt32 >>> ((2 : Int32) &&& 31).toUInt32).toInt32) &&& (3 : Int32))), .val (.ref b1), .val (.ref b3), .val (.int (0 : Int32)), .val (.ref b3), .val (.int (0 : Int32)), .unset] [(.ref b3), (.ref b1)])) _
          refine st184.trans ?_
          show Steps p.tables e below (T184.setTop (mkF m 131 #[.val (.long ha), .second, .val (.long la), .second, .val (.long h2), .second, .val (.long l2), .second, .val (.int xm), .val (.long hbb), .second, .val (.long lbb), .second, .val (.int (((xm.toUInt32 >>> ((2 : Int32) &&& 31).toUInt32).toInt32) &&& (3 : Int32))), .val (.ref b1), .val (.ref b3), .val (.int (0 : Int32)), .val (.ref b3), .val (.int (0 : Int32)), .unset] [(.int (0 : Int32))])) _
          refine XS.iload X184.here hx rfl (hb hby at_131) rfl ?_
          show Steps p.tables e below (T184.setTop (mkF m 133 #[.val (.long ha), .second, .val (.long la), .second, .val (.long h2), .second, .val (.long l2), .second, .val (.int xm), .val (.long hbb), .second, .val (.long lbb), .second, .val (.int (((xm.toUInt32 >>> ((2 : Int32) &&& 31).toUInt32).toInt32) &&& (3 : Int32))), .val (.ref b1), .val (.ref b3), .val (.int (0 : Int32)), .val (.ref b3), .val (.int (0 : Int32)), .unset] [(.int (0 : Int32)), (.int (0 : Int32))])) _
          refine XS.icmpNo X184.here hx rfl (hb hby at_133) rfl (teq (by decide : (0 : Int32) = (0 : Int32))).2 ?_
          show Steps p.tables e below (T184.setTop (mkF m 136 #[.val (.long ha), .second, .val (.long la), .second, .val (.long h2), .second, .val (.long l2), .second, .val (.int xm), .val (.long hbb), .second, .val (.long lbb), .second, .val (.int (((xm.toUInt32 >>> ((2 : Int32) &&& 31).toUInt32).toInt32) &&& (3 : Int32))), .val (.ref b1), .val (.ref b3), .val (.int (0 : Int32)), .val (.ref b3), .val (.int (0 : Int32)), .unset] [])) _
          refine XS.iconst X184.here hx rfl (hb hby at_136) ?_
          show Steps p.tables e below (T184.setTop (mkF m 137 #[.val (.long ha), .second, .val (.long la), .second, .val (.long h2), .second, .val (.long l2), .second, .val (.int xm), .val (.long hbb), .second, .val (.long lbb), .second, .val (.int (((xm.toUInt32 >>> ((2 : Int32) &&& 31).toUInt32).toInt32) &&& (3 : Int32))), .val (.ref b1), .val (.ref b3), .val (.int (0 : Int32)), .val (.ref b3), .val (.int (0 : Int32)), .unset] [(.int (1 : Int32))])) _
          refine XS.goto X184.here hx rfl (pc0 := 137) (pc' := 141) rfl (hb hby at_137) (by decide) (by decide) ?_
          show Steps p.tables e below (T184.setTop (mkF m 141 #[.val (.long ha), .second, .val (.long la), .second, .val (.long h2), .second, .val (.long l2), .second, .val (.int xm), .val (.long hbb), .second, .val (.long lbb), .second, .val (.int (((xm.toUInt32 >>> ((2 : Int32) &&& 31).toUInt32).toInt32) &&& (3 : Int32))), .val (.ref b1), .val (.ref b3), .val (.int (0 : Int32)), .val (.ref b3), .val (.int (0 : Int32)), .unset] [(.int (1 : Int32))])) _
          refine XS.istore X184.here hx rfl (hb hby at_141) rfl (l' := #[.val (.long ha), .second, .val (.long la), .second, .val (.long h2), .second, .val (.long l2), .second, .val (.int xm), .val (.long hbb), .second, .val (.long lbb), .second, .val (.int (((xm.toUInt32 >>> ((2 : Int32) &&& 31).toUInt32).toInt32) &&& (3 : Int32))), .val (.ref b1), .val (.ref b3), .val (.int (0 : Int32)), .val (.ref b3), .val (.int (0 : Int32)), .val (.int (1 : Int32))]) rfl ?_
          show Steps p.tables e below (T184.setTop (mkF m 143 #[.val (.long ha), .second, .val (.long la), .second, .val (.long h2), .second, .val (.long l2), .second, .val (.int xm), .val (.long hbb), .second, .val (.long lbb), .second, .val (.int (((xm.toUInt32 >>> ((2 : Int32) &&& 31).toUInt32).toInt32) &&& (3 : Int32))), .val (.ref b1), .val (.ref b3), .val (.int (0 : Int32)), .val (.ref b3), .val (.int (0 : Int32)), .val (.int (1 : Int32))] [])) _
          refine XS.iload X184.here hx rfl (hb hby at_143) rfl ?_
          show Steps p.tables e below (T184.setTop (mkF m 145 #[.val (.long ha), .second, .val (.long la), .second, .val (.long h2), .second, .val (.long l2), .second, .val (.int xm), .val (.long hbb), .second, .val (.long lbb), .second, .val (.int (((xm.toUInt32 >>> ((2 : Int32) &&& 31).toUInt32).toInt32) &&& (3 : Int32))), .val (.ref b1), .val (.ref b3), .val (.int (0 : Int32)), .val (.ref b3), .val (.int (0 : Int32)), .val (.int (1 : Int32))] [(.int (1 : Int32))])) _
          refine XS.ifNo X184.here hx rfl (hb hby at_145) rfl ((if0 _ _).trans (feq (by decide : ¬ ((1 : Int32) = (0 : Int32)))).1) ?_
          show Steps p.tables e below (T184.setTop (mkF m 148 #[.val (.long ha), .second, .val (.long la), .second, .val (.long h2), .second, .val (.long l2), .second, .val (.int xm), .val (.long hbb), .second, .val (.long lbb), .second, .val (.int (((xm.toUInt32 >>> ((2 : Int32) &&& 31).toUInt32).toInt32) &&& (3 : Int32))), .val (.ref b1), .val (.ref b3), .val (.int (0 : Int32)), .val (.ref b3), .val (.int (0 : Int32)), .val (.int (1 : Int32))] [])) _
          refine XS.aload X184.here hx rfl (hb hby at_148) rfl rfl ?_
          show Steps p.tables e below (T184.setTop (mkF m 150 #[.val (.long ha), .second, .val (.long la), .second, .val (.long h2), .second, .val (.long l2), .second, .val (.int xm), .val (.long hbb), .second, .val (.long lbb), .second, .val (.int (((xm.toUInt32 >>> ((2 : Int32) &&& 31).toUInt32).toInt32) &&& (3 : Int32))), .val (.ref b1), .val (.ref b3), .val (.int (0 : Int32)), .val (.ref b3), .val (.int (0 : Int32)), .val (.int (1 : Int32))] [(.ref b3)])) _
          refine XS.aload X184.here hx rfl (hb hby at_150) rfl rfl ?_
          show Steps p.tables e below (T184.setTop (mkF m 152 #[.val (.long ha), .second, .val (.long la), .second, .val (.long h2), .second, .val (.long l2), .second, .val (.int xm), .val (.long hbb), .second, .val (.long lbb), .second, .val (.int (((xm.toUInt32 >>> ((2 : Int32) &&& 31).toUInt32).toInt32) &&& (3 : Int32))), .val (.ref b1), .val (.ref b3), .val (.int (0 : Int32)), .val (.ref b3), .val (.int (0 : Int32)), .val (.int (1 : Int32))] [(.ref b1), (.ref b3)])) _
          refine st186.trans ?_
          show Steps p.tables e below (T186.setTop (mkF m 155 #[.val (.long ha), .second, .val (.long la), .second, .val (.long h2), .second, .val (.long l2), .second, .val (.int xm), .val (.long hbb), .second, .val (.long lbb), .second, .val (.int (((xm.toUInt32 >>> ((2 : Int32) &&& 31).toUInt32).toInt32) &&& (3 : Int32))), .val (.ref b1), .val (.ref b3), .val (.int (0 : Int32)), .val (.ref b3), .val (.int (0 : Int32)), .val (.int (1 : Int32))] [(.int (0 : Int32))])) _
          refine XS.iload X186.here hx rfl (hb hby at_155) rfl ?_
          show Steps p.tables e below (T186.setTop (mkF m 157 #[.val (.long ha), .second, .val (.long la), .second, .val (.long h2), .second, .val (.long l2), .second, .val (.int xm), .val (.long hbb), .second, .val (.long lbb), .second, .val (.int (((xm.toUInt32 >>> ((2 : Int32) &&& 31).toUInt32).toInt32) &&& (3 : Int32))), .val (.ref b1), .val (.ref b3), .val (.int (0 : Int32)), .val (.ref b3), .val (.int (0 : Int32)), .val (.int (1 : Int32))] [(.int (0 : Int32)), (.int (0 : Int32))])) _
          refine XS.icmpNo X186.here hx rfl (hb hby at_157) rfl (teq (by decide : (0 : Int32) = (0 : Int32))).2 ?_
          show Steps p.tables e below (T186.setTop (mkF m 160 #[.val (.long ha), .second, .val (.long la), .second, .val (.long h2), .second, .val (.long l2), .second, .val (.int xm), .val (.long hbb), .second, .val (.long lbb), .second, .val (.int (((xm.toUInt32 >>> ((2 : Int32) &&& 31).toUInt32).toInt32) &&& (3 : Int32))), .val (.ref b1), .val (.ref b3), .val (.int (0 : Int32)), .val (.ref b3), .val (.int (0 : Int32)), .val (.int (1 : Int32))] [])) _
          refine XS.iconst X186.here hx rfl (hb hby at_160) ?_
          show Steps p.tables e below (T186.setTop (mkF m 161 #[.val (.long ha), .second, .val (.long la), .second, .val (.long h2), .second, .val (.long l2), .second, .val (.int xm), .val (.long hbb), .second, .val (.long lbb), .second, .val (.int (((xm.toUInt32 >>> ((2 : Int32) &&& 31).toUInt32).toInt32) &&& (3 : Int32))), .val (.ref b1), .val (.ref b3), .val (.int (0 : Int32)), .val (.ref b3), .val (.int (0 : Int32)), .val (.int (1 : Int32))] [(.int (1 : Int32))])) _
          refine XS.goto X186.here hx rfl (pc0 := 161) (pc' := 165) rfl (hb hby at_161) (by decide) (by decide) ?_
          show Steps p.tables e below (T186.setTop (mkF m 165 #[.val (.long ha), .second, .val (.long la), .second, .val (.long h2), .second, .val (.long l2), .second, .val (.int xm), .val (.long hbb), .second, .val (.long lbb), .second, .val (.int (((xm.toUInt32 >>> ((2 : Int32) &&& 31).toUInt32).toInt32) &&& (3 : Int32))), .val (.ref b1), .val (.ref b3), .val (.int (0 : Int32)), .val (.ref b3), .val (.int (0 : Int32)), .val (.int (1 : Int32))] [(.int (1 : Int32))])) _
          refine XS.istore X186.here hx rfl (hb hby at_165) rfl (l' := #[.val (.long ha), .second, .val (.long la), .second, .val (.long h2), .second, .val (.long l2), .second, .val (.int xm), .val (.long hbb), .second, .val (.long lbb), .second, .val (.int (((xm.toUInt32 >>> ((2 : Int32) &&& 31).toUInt32).toInt32) &&& (3 : Int32))), .val (.ref b1), .val (.ref b3), .val (.int (0 : Int32)), .val (.ref b3), .val (.int (0 : Int32)), .val (.int (1 : Int32))]) rfl ?_
          show Steps p.tables e below (T186.setTop (mkF m 167 #[.val (.long ha), .second, .val (.long la), .second, .val (.long h2), .second, .val (.long l2), .second, .val (.int xm), .val (.long hbb), .second, .val (.long lbb), .second, .val (.int (((xm.toUInt32 >>> ((2 : Int32) &&& 31).toUInt32).toInt32) &&& (3 : Int32))), .val (.ref b1), .val (.ref b3), .val (.int (0 : Int32)), .val (.ref b3), .val (.int (0 : Int32)), .val (.int (1 : Int32))] [])) _
          refine XS.iload X186.here hx rfl (hb hby at_167) rfl ?_
          show Steps p.tables e below (T186.setTop (mkF m 169 #[.val (.long ha), .second, .val (.long la), .second, .val (.long h2), .second, .val (.long l2), .second, .val (.int xm), .val (.long hbb), .second, .val (.long lbb), .second, .val (.int (((xm.toUInt32 >>> ((2 : Int32) &&& 31).toUInt32).toInt32) &&& (3 : Int32))), .val (.ref b1), .val (.ref b3), .val (.int (0 : Int32)), .val (.ref b3), .val (.int (0 : Int32)), .val (.int (1 : Int32))] [(.int (1 : Int32))])) _
          refine XS.ifNo X186.here hx rfl (hb hby at_169) rfl ((if0 _ _).trans (feq (by decide : ¬ ((1 : Int32) = (0 : Int32)))).1) ?_
          show Steps p.tables e below (T186.setTop (mkF m 172 #[.val (.long ha), .second, .val (.long la), .second, .val (.long h2), .second, .val (.long l2), .second, .val (.int xm), .val (.long hbb), .second, .val (.long lbb), .second, .val (.int (((xm.toUInt32 >>> ((2 : Int32) &&& 31).toUInt32).toInt32) &&& (3 : Int32))), .val (.ref b1), .val (.ref b3), .val (.int (0 : Int32)), .val (.ref b3), .val (.int (0 : Int32)), .val (.int (1 : Int32))] [])) _
          refine XS.aload X186.here hx rfl (hb hby at_172) rfl rfl ?_
          show Steps p.tables e below (T186.setTop (mkF m 174 #[.val (.long ha), .second, .val (.long la), .second, .val (.long h2), .second, .val (.long l2), .second, .val (.int xm), .val (.long hbb), .second, .val (.long lbb), .second, .val (.int (((xm.toUInt32 >>> ((2 : Int32) &&& 31).toUInt32).toInt32) &&& (3 : Int32))), .val (.ref b1), .val (.ref b3), .val (.int (0 : Int32)), .val (.ref b3), .val (.int (0 : Int32)), .val (.int (1 : Int32))] [(.ref b1)])) _
          refine XS.aload X186.here hx rfl (hb hby at_174) rfl rfl ?_
          show Steps p.tables e below (T186.setTop (mkF m 176 #[.val (.long ha), .second, .val (.long la), .second, .val (.long h2), .second, .val (.long l2), .second, .val (.int xm), .val (.long hbb), .second, .val (.long lbb), .second, .val (.int (((xm.toUInt32 >>> ((2 : Int32) &&& 31).toUInt32).toInt32) &&& (3 : Int32))), .val (.ref b1), .val (.ref b3), .val (.int (0 : Int32)), .val (.ref b3), .val (.int (0 : Int32)), .val (.int (1 : Int32))] [(.ref b1), (.ref b1)])) _
          refine st188.trans ?_
          show Steps p.tables e below (T188.setTop (mkF m 179 #[.val (.long ha), .second, .val (.long la), .second, .val (.long h2), .second, .val (.long l2), .second, .val (.int xm), .val (.long hbb), .second, .val (.long lbb), .second, .val (.int (((xm.toUInt32 >>> ((2 : Int32) &&& 31).toUInt32).toInt32) &&& (3 : Int32))), .val (.ref b1), .val (.ref b3), .val (.int (0 : Int32)), .val (.ref b3), .val (.int (0 : Int32)), .val (.int (1 : Int32))] [(.int (1 : Int32))])) _
          refine XS.ifNo X188.here hx rfl (hb hby at_179) rfl ((if0 _ _).trans (feq (by decide : ¬ ((1 : Int32) = (0 : Int32)))).1) ?_
          show Steps p.tables e below (T188.setTop (mkF m 182 #[.val (.long ha), .second, .val (.long la), .second, .val (.long h2), .second, .val (.long l2), .second, .val (.int xm), .val (.long hbb), .second, .val (.long lbb), .second, .val (.int (((xm.toUInt32 >>> ((2 : Int32) &&& 31).toUInt32).toInt32) &&& (3 : Int32))), .val (.ref b1), .val (.ref b3), .val (.int (0 : Int32)), .val (.ref b3), .val (.int (0 : Int32)), .val (.int (1 : Int32))] [])) _
          refine XS.iconst X188.here hx rfl (hb hby at_182) ?_
          show Steps p.tables e below (T188.setTop (mkF m 183 #[.val (.long ha), .second, .val (.long la), .second, .val (.long h2), .second, .val (.long l2), .second, .val (.int xm), .val (.long hbb), .second, .val (.long lbb), .second, .val (.int (((xm.toUInt32 >>> ((2 : Int32) &&& 31).toUInt32).toInt32) &&& (3 : Int32))), .val (.ref b1), .val (.ref b3), .val (.int (0 : Int32)), .val (.ref b3), .val (.int (0 : Int32)), .val (.int (1 : Int32))] [(.int (1 : Int32))])) _
          refine XS.goto X188.here hx rfl (pc0 := 183) (pc' := 187) rfl (hb hby at_183) (by decide) (by decide) ?_
          show Steps p.tables e below (T188.setTop (mkF m 187 #[.val (.long ha), .second, .val (.long la), .second, .val (.long h2), .second, .val (.long l2), .second, .val (.int xm), .val (.long hbb), .second, .val (.long lbb), .second, .val (.int (((xm.toUInt32 >>> ((2 : Int32) &&& 31).toUInt32).toInt32) &&& (3 : Int32))), .val (.ref b1), .val (.ref b3), .val (.int (0 : Int32)), .val (.ref b3), .val (.int (0 : Int32)), .val (.int (1 : Int32))] [(.int (1 : Int32))])) _
          refine XS.istore X188.here hx rfl (hb hby at_187) rfl (l' := #[.val (.long ha), .second, .val (.long la), .second, .val (.long h2), .second, .val (.long l2), .second, .val (.int xm), .val (.long hbb), .second, .val (.long lbb), .second, .val (.int (((xm.toUInt32 >>> ((2 : Int32) &&& 31).toUInt32).toInt32) &&& (3 : Int32))), .val (.ref b1), .val (.ref b3), .val (.int (0 : Int32)), .val (.ref b3), .val (.int (0 : Int32)), .val (.int (1 : Int32))]) rfl ?_
          show Steps p.tables e below (T188.setTop (mkF m 189 #[.val (.long ha), .second, .val (.long la), .second, .val (.long h2), .second, .val (.long l2), .second, .val (.int xm), .val (.long hbb), .second, .val (.long lbb), .second, .val (.int (((xm.toUInt32 >>> ((2 : Int32) &&& 31).toUInt32).toInt32) &&& (3 : Int32))), .val (.ref b1), .val (.ref b3), .val (.int (0 : Int32)), .val (.ref b3), .val (.int (0 : Int32)), .val (.int (1 : Int32))] [])) _
          refine XS.iload X188.here hx rfl (hb hby at_189) rfl ?_
          show Steps p.tables e below (T188.setTop (mkF m 191 #[.val (.long ha), .second, .val (.long la), .second, .val (.long h2), .second, .val (.long l2), .second, .val (.int xm), .val (.long hbb), .second, .val (.long lbb), .second, .val (.int (((xm.toUInt32 >>> ((2 : Int32) &&& 31).toUInt32).toInt32) &&& (3 : Int32))), .val (.ref b1), .val (.ref b3), .val (.int (0 : Int32)), .val (.ref b3), .val (.int (0 : Int32)), .val (.int (1 : Int32))] [(.int (1 : Int32))])) _
          exact kt
        obtain ⟨fs, hr, hrun, hended, hW, hsame⟩ := X188.leave (v := some (.int (1 : Int32))) (fun h => by rw [hret] at h; cases h) hlk
        refine ⟨_, _, go189 _ ?_, hrun, hended, _, _, rfl, ⟨rfl, N188⟩, ⟨_, rfl⟩, hW, hsame.mono (by decide) (by decide)⟩
        exact retN X188 hx (t := .boolean) hret (by simp) (hb hby at_191) hr
theorem ef_own_law (m : MethodId) (pj0 : Int64) (pj1 : Int64) (pj2 : Int64) (pj3 : Int64) (pi4 : Int32) : entryFrame m #[(.long pj0), (.long pj1), (.long pj2), (.long pj3), (.int pi4)] maxLocals = mkF m 0 #[.val (.long pj0), .second, .val (.long pj1), .second, .val (.long pj2), .second, .val (.long pj3), .second, .val (.int pi4), .unset, .unset, .unset, .unset, .unset, .unset, .unset, .unset, .unset, .unset, .unset] [] := by first | (simp [entryFrame, mkF, argsToLocals, Value.category, maxLocals]; done) | rfl
def Q_own_law (Z : State) (pj0 : Int64) (pj1 : Int64) (pj2 : Int64) (pj3 : Int64) (pi4 : Int32) (ca : Addr) (kc : ClassId) (vs : List Value) (h0 : Heap) (n0 : Nat) (v : Option Value) (h : Heap) (L : List Loc) : Prop := v = some (.int (1 : Int32)) ∧ Fr n0 L
set_option maxRecDepth 65536 in
set_option maxHeartbeats 40000000 in
theorem own_law (l : Launch) (Z : State) (a0 : Array Value) (hw : ∀ d ∈ tables_1, d.before a0 Z = true) (ws : List Jvm.Cond) (pj0 : Int64) (pj1 : Int64) (pj2 : Int64) (pj3 : Int64) (pi4 : Int32) (ca : Addr) (kc : ClassId) (vs : List Value) (h0 : Heap) (n0 : Nat) (Z0 : n0 ≤ h0.size) (P0 : Sta Z h0 "java/lang/Long$LongCache" "cache" "[Ljava/lang/Long;" (.ref ca)) (P1 : Arv Z h0 ca kc (.object "java/lang/Long") (256 : Int32) vs .null) (P2 : own_AllL Z h0 vs 256 "java/lang/Long") :
    MetFree l x (head1 (Jvm.Cond.code x code maxLocals ret :: ws) room_1) (fun a U => a = #[(.long pj0), (.long pj1), (.long pj2), (.long pj3), (.int pi4)] ∧ Z.Warmed39 U.vm ∧ U.heap = h0) (fun _ _ _ _ _ => True) (fun _ U o U' => ∃ v L, o = .returned v ∧ Q_own_law Z pj0 pj1 pj2 pj3 pi4 ca kc vs h0 n0 v U'.heap L ∧ FrameEnd U o U' L room_1.cells room_1.slots) := by
  refine MetFree.of_bodySF (plainFor_of_name pn_14) hisR ?_
  intro p e s m args below meth c s₁ Bd hml0 hP hK
  obtain ⟨rfl, hZ, hh⟩ := hP
  have hx := Bd.exec
  have hby := Bd.bytes
  have hml : c.maxLocals = 20 := hml0
  have hown : s.vm.findClass "com/example/xmitq/xmitq/MessageIdEqualsPinLaw" = some m.cls := findClass_of_methodNamed Bd.named
  have hnm := (name_of_methodNamed Bd.named Bd.method).1
  have X0 : Stand p l e room_1 s m #[(.long pj0), (.long pj1), (.long pj2), (.long pj3), (.int pi4)] below meth c s₁ [] 0 0 := Stand.of_body Bd
  have e0 : s₁.heap = h0 := by rw [← hh, Bd.state]; rfl
  have N0 := Fr.nil n0
  have go0 : ∀ t, Steps p.tables e below (s₁.setTop (mkF m 0 #[.val (.long pj0), .second, .val (.long pj1), .second, .val (.long pj2), .second, .val (.long pj3), .second, .val (.int pi4), .unset, .unset, .unset, .unset, .unset, .unset, .unset, .unset, .unset, .unset, .unset] [])) t → Steps p.tables e below (s₁.setTop (entryFrame m #[(.long pj0), (.long pj1), (.long pj2), (.long pj3), (.int pi4)] maxLocals)) t := fun t k => castTop (ef_own_law m pj0 pj1 pj2 pj3 pi4) k
  revert go0
  generalize s₁.setTop (entryFrame m #[(.long pj0), (.long pj1), (.long pj2), (.long pj3), (.int pi4)] maxLocals) = st0
  intro go0
  have go1 : ∀ t, Steps p.tables e below (s₁.setTop (mkF m 4 #[.val (.long pj0), .second, .val (.long pj1), .second, .val (.long pj2), .second, .val (.long pj3), .second, .val (.int pi4), .unset, .unset, .unset, .unset, .unset, .unset, .unset, .unset, .unset, .unset, .unset] [(.int (pi4 &&& (1 : Int32)))])) t → Steps p.tables e below st0 t := by
    intro t kt
    refine go0 t ?_
    refine XS.iload X0.here hx rfl (hb hby at_0) rfl ?_
    show Steps p.tables e below (s₁.setTop (mkF m 2 #[.val (.long pj0), .second, .val (.long pj1), .second, .val (.long pj2), .second, .val (.long pj3), .second, .val (.int pi4), .unset, .unset, .unset, .unset, .unset, .unset, .unset, .unset, .unset, .unset, .unset] [(.int pi4)])) _
    refine XS.iconst X0.here hx rfl (hb hby at_2) ?_
    show Steps p.tables e below (s₁.setTop (mkF m 3 #[.val (.long pj0), .second, .val (.long pj1), .second, .val (.long pj2), .second, .val (.long pj3), .second, .val (.int pi4), .unset, .unset, .unset, .unset, .unset, .unset, .unset, .unset, .unset, .unset, .unset] [(.int (1 : Int32)), (.int pi4)])) _
    refine XS.iand X0.here hx rfl (hb hby at_3) rfl ?_
    show Steps p.tables e below (s₁.setTop (mkF m 4 #[.val (.long pj0), .second, .val (.long pj1), .second, .val (.long pj2), .second, .val (.long pj3), .second, .val (.int pi4), .unset, .unset, .unset, .unset, .unset, .unset, .unset, .unset, .unset, .unset, .unset] [(.int (pi4 &&& (1 : Int32)))])) _
    exact kt
  by_cases hc2 : (pi4 &&& (1 : Int32)) = (0 : Int32)
  · skip
    have go3 : ∀ t, Steps p.tables e below (s₁.setTop (mkF m 19 #[.val (.long pj0), .second, .val (.long pj1), .second, .val (.long pj2), .second, .val (.long pj3), .second, .val (.int pi4), .val (.long pj2), .second, .unset, .unset, .unset, .unset, .unset, .unset, .unset, .unset, .unset] [(.int (pi4 &&& (2 : Int32)))])) t → Steps p.tables e below st0 t := by
      intro t kt
      refine go1 t ?_
      refine XS.ifYes X0.here hx rfl (pc0 := 4) (pc' := 11) rfl (hb hby at_4) rfl ((if0 _ _).trans (teq hc2).1) (by decide) (by decide) ?_
      show Steps p.tables e below (s₁.setTop (mkF m 11 #[.val (.long pj0), .second, .val (.long pj1), .second, .val (.long pj2), .second, .val (.long pj3), .second, .val (.int pi4), .unset, .unset, .unset, .unset, .unset, .unset, .unset, .unset, .unset, .unset, .unset] [])) _
      refine XS.lload X0.here hx rfl (hb hby at_11) rfl ?_
      show Steps p.tables e below (s₁.setTop (mkF m 13 #[.val (.long pj0), .second, .val (.long pj1), .second, .val (.long pj2), .second, .val (.long pj3), .second, .val (.int pi4), .unset, .unset, .unset, .unset, .unset, .unset, .unset, .unset, .unset, .unset, .unset] [(.long pj2)])) _
      refine XS.lstore X0.here hx rfl (hb hby at_13) rfl (l' := #[.val (.long pj0), .second, .val (.long pj1), .second, .val (.long pj2), .second, .val (.long pj3), .second, .val (.int pi4), .val (.long pj2), .second, .unset, .unset, .unset, .unset, .unset, .unset, .unset, .unset, .unset]) rfl ?_
      show Steps p.tables e below (s₁.setTop (mkF m 15 #[.val (.long pj0), .second, .val (.long pj1), .second, .val (.long pj2), .second, .val (.long pj3), .second, .val (.int pi4), .val (.long pj2), .second, .unset, .unset, .unset, .unset, .unset, .unset, .unset, .unset, .unset] [])) _
      refine XS.iload X0.here hx rfl (hb hby at_15) rfl ?_
      show Steps p.tables e below (s₁.setTop (mkF m 17 #[.val (.long pj0), .second, .val (.long pj1), .second, .val (.long pj2), .second, .val (.long pj3), .second, .val (.int pi4), .val (.long pj2), .second, .unset, .unset, .unset, .unset, .unset, .unset, .unset, .unset, .unset] [(.int pi4)])) _
      refine XS.iconst X0.here hx rfl (hb hby at_17) ?_
      show Steps p.tables e below (s₁.setTop (mkF m 18 #[.val (.long pj0), .second, .val (.long pj1), .second, .val (.long pj2), .second, .val (.long pj3), .second, .val (.int pi4), .val (.long pj2), .second, .unset, .unset, .unset, .unset, .unset, .unset, .unset, .unset, .unset] [(.int (2 : Int32)), (.int pi4)])) _
      refine XS.iand X0.here hx rfl (hb hby at_18) rfl ?_
      show Steps p.tables e below (s₁.setTop (mkF m 19 #[.val (.long pj0), .second, .val (.long pj1), .second, .val (.long pj2), .second, .val (.long pj3), .second, .val (.int pi4), .val (.long pj2), .second, .unset, .unset, .unset, .unset, .unset, .unset, .unset, .unset, .unset] [(.int (pi4 &&& (2 : Int32)))])) _
      exact kt
    by_cases hc4 : (pi4 &&& (2 : Int32)) = (0 : Int32)
    · skip
      have go6 : ∀ t, Steps p.tables e below (s₁.setTop (mkF m 30 #[.val (.long pj0), .second, .val (.long pj1), .second, .val (.long pj2), .second, .val (.long pj3), .second, .val (.int pi4), .val (.long pj2), .second, .val (.long pj3), .second, .unset, .unset, .unset, .unset, .unset, .unset, .unset] [])) t → Steps p.tables e below st0 t := by
        intro t kt
        refine go3 t ?_
        refine XS.ifYes X0.here hx rfl (pc0 := 19) (pc' := 26) rfl (hb hby at_19) rfl ((if0 _ _).trans (teq hc4).1) (by decide) (by decide) ?_
        show Steps p.tables e below (s₁.setTop (mkF m 26 #[.val (.long pj0), .second, .val (.long pj1), .second, .val (.long pj2), .second, .val (.long pj3), .second, .val (.int pi4), .val (.long pj2), .second, .unset, .unset, .unset, .unset, .unset, .unset, .unset, .unset, .unset] [])) _
        refine XS.lload X0.here hx rfl (hb hby at_26) rfl ?_
        show Steps p.tables e below (s₁.setTop (mkF m 28 #[.val (.long pj0), .second, .val (.long pj1), .second, .val (.long pj2), .second, .val (.long pj3), .second, .val (.int pi4), .val (.long pj2), .second, .unset, .unset, .unset, .unset, .unset, .unset, .unset, .unset, .unset] [(.long pj3)])) _
        refine XS.lstore X0.here hx rfl (hb hby at_28) rfl (l' := #[.val (.long pj0), .second, .val (.long pj1), .second, .val (.long pj2), .second, .val (.long pj3), .second, .val (.int pi4), .val (.long pj2), .second, .val (.long pj3), .second, .unset, .unset, .unset, .unset, .unset, .unset, .unset]) rfl ?_
        show Steps p.tables e below (s₁.setTop (mkF m 30 #[.val (.long pj0), .second, .val (.long pj1), .second, .val (.long pj2), .second, .val (.long pj3), .second, .val (.int pi4), .val (.long pj2), .second, .val (.long pj3), .second, .unset, .unset, .unset, .unset, .unset, .unset, .unset] [])) _
        exact kt
      obtain ⟨s₂, o₂, hs₂, hr₂⟩ := own_tail30 pj0 pj1 pj2 pj3 pi4 pj2 pj3 ca kc vs X0 hx hZ hw hby hml hown e0 N0 Z0 Bd.returns (BodyLoose.notSynchronized Bd) P0 P1 P2
      exact ⟨s₂, o₂, go6 _ hs₂, hr₂⟩
    · skip
      have go8 : ∀ t, Steps p.tables e below (s₁.setTop (mkF m 30 #[.val (.long pj0), .second, .val (.long pj1), .second, .val (.long pj2), .second, .val (.long pj3), .second, .val (.int pi4), .val (.long pj2), .second, .val (.long pj1), .second, .unset, .unset, .unset, .unset, .unset, .unset, .unset] [])) t → Steps p.tables e below st0 t := by
        intro t kt
        refine go3 t ?_
        refine XS.ifNo X0.here hx rfl (hb hby at_19) rfl ((if0 _ _).trans (feq hc4).1) ?_
        show Steps p.tables e below (s₁.setTop (mkF m 22 #[.val (.long pj0), .second, .val (.long pj1), .second, .val (.long pj2), .second, .val (.long pj3), .second, .val (.int pi4), .val (.long pj2), .second, .unset, .unset, .unset, .unset, .unset, .unset, .unset, .unset, .unset] [])) _
        refine XS.lloadN X0.here hx rfl (hb hby at_22) rfl ?_
        show Steps p.tables e below (s₁.setTop (mkF m 23 #[.val (.long pj0), .second, .val (.long pj1), .second, .val (.long pj2), .second, .val (.long pj3), .second, .val (.int pi4), .val (.long pj2), .second, .unset, .unset, .unset, .unset, .unset, .unset, .unset, .unset, .unset] [(.long pj1)])) _
        refine XS.goto X0.here hx rfl (pc0 := 23) (pc' := 28) rfl (hb hby at_23) (by decide) (by decide) ?_
        show Steps p.tables e below (s₁.setTop (mkF m 28 #[.val (.long pj0), .second, .val (.long pj1), .second, .val (.long pj2), .second, .val (.long pj3), .second, .val (.int pi4), .val (.long pj2), .second, .unset, .unset, .unset, .unset, .unset, .unset, .unset, .unset, .unset] [(.long pj1)])) _
        refine XS.lstore X0.here hx rfl (hb hby at_28) rfl (l' := #[.val (.long pj0), .second, .val (.long pj1), .second, .val (.long pj2), .second, .val (.long pj3), .second, .val (.int pi4), .val (.long pj2), .second, .val (.long pj1), .second, .unset, .unset, .unset, .unset, .unset, .unset, .unset]) rfl ?_
        show Steps p.tables e below (s₁.setTop (mkF m 30 #[.val (.long pj0), .second, .val (.long pj1), .second, .val (.long pj2), .second, .val (.long pj3), .second, .val (.int pi4), .val (.long pj2), .second, .val (.long pj1), .second, .unset, .unset, .unset, .unset, .unset, .unset, .unset] [])) _
        exact kt
      obtain ⟨s₂, o₂, hs₂, hr₂⟩ := own_tail30 pj0 pj1 pj2 pj3 pi4 pj2 pj1 ca kc vs X0 hx hZ hw hby hml hown e0 N0 Z0 Bd.returns (BodyLoose.notSynchronized Bd) P0 P1 P2
      exact ⟨s₂, o₂, go8 _ hs₂, hr₂⟩
  · skip
    have go9 : ∀ t, Steps p.tables e below (s₁.setTop (mkF m 19 #[.val (.long pj0), .second, .val (.long pj1), .second, .val (.long pj2), .second, .val (.long pj3), .second, .val (.int pi4), .val (.long pj0), .second, .unset, .unset, .unset, .unset, .unset, .unset, .unset, .unset, .unset] [(.int (pi4 &&& (2 : Int32)))])) t → Steps p.tables e below st0 t := by
      intro t kt
      refine go1 t ?_
      refine XS.ifNo X0.here hx rfl (hb hby at_4) rfl ((if0 _ _).trans (feq hc2).1) ?_
      show Steps p.tables e below (s₁.setTop (mkF m 7 #[.val (.long pj0), .second, .val (.long pj1), .second, .val (.long pj2), .second, .val (.long pj3), .second, .val (.int pi4), .unset, .unset, .unset, .unset, .unset, .unset, .unset, .unset, .unset, .unset, .unset] [])) _
      refine XS.lloadN X0.here hx rfl (hb hby at_7) rfl ?_
      show Steps p.tables e below (s₁.setTop (mkF m 8 #[.val (.long pj0), .second, .val (.long pj1), .second, .val (.long pj2), .second, .val (.long pj3), .second, .val (.int pi4), .unset, .unset, .unset, .unset, .unset, .unset, .unset, .unset, .unset, .unset, .unset] [(.long pj0)])) _
      refine XS.goto X0.here hx rfl (pc0 := 8) (pc' := 13) rfl (hb hby at_8) (by decide) (by decide) ?_
      show Steps p.tables e below (s₁.setTop (mkF m 13 #[.val (.long pj0), .second, .val (.long pj1), .second, .val (.long pj2), .second, .val (.long pj3), .second, .val (.int pi4), .unset, .unset, .unset, .unset, .unset, .unset, .unset, .unset, .unset, .unset, .unset] [(.long pj0)])) _
      refine XS.lstore X0.here hx rfl (hb hby at_13) rfl (l' := #[.val (.long pj0), .second, .val (.long pj1), .second, .val (.long pj2), .second, .val (.long pj3), .second, .val (.int pi4), .val (.long pj0), .second, .unset, .unset, .unset, .unset, .unset, .unset, .unset, .unset, .unset]) rfl ?_
      show Steps p.tables e below (s₁.setTop (mkF m 15 #[.val (.long pj0), .second, .val (.long pj1), .second, .val (.long pj2), .second, .val (.long pj3), .second, .val (.int pi4), .val (.long pj0), .second, .unset, .unset, .unset, .unset, .unset, .unset, .unset, .unset, .unset] [])) _
      refine XS.iload X0.here hx rfl (hb hby at_15) rfl ?_
      show Steps p.tables e below (s₁.setTop (mkF m 17 #[.val (.long pj0), .second, .val (.long pj1), .second, .val (.long pj2), .second, .val (.long pj3), .second, .val (.int pi4), .val (.long pj0), .second, .unset, .unset, .unset, .unset, .unset, .unset, .unset, .unset, .unset] [(.int pi4)])) _
      refine XS.iconst X0.here hx rfl (hb hby at_17) ?_
      show Steps p.tables e below (s₁.setTop (mkF m 18 #[.val (.long pj0), .second, .val (.long pj1), .second, .val (.long pj2), .second, .val (.long pj3), .second, .val (.int pi4), .val (.long pj0), .second, .unset, .unset, .unset, .unset, .unset, .unset, .unset, .unset, .unset] [(.int (2 : Int32)), (.int pi4)])) _
      refine XS.iand X0.here hx rfl (hb hby at_18) rfl ?_
      show Steps p.tables e below (s₁.setTop (mkF m 19 #[.val (.long pj0), .second, .val (.long pj1), .second, .val (.long pj2), .second, .val (.long pj3), .second, .val (.int pi4), .val (.long pj0), .second, .unset, .unset, .unset, .unset, .unset, .unset, .unset, .unset, .unset] [(.int (pi4 &&& (2 : Int32)))])) _
      exact kt
    by_cases hc10 : (pi4 &&& (2 : Int32)) = (0 : Int32)
    · skip
      have go12 : ∀ t, Steps p.tables e below (s₁.setTop (mkF m 30 #[.val (.long pj0), .second, .val (.long pj1), .second, .val (.long pj2), .second, .val (.long pj3), .second, .val (.int pi4), .val (.long pj0), .second, .val (.long pj3), .second, .unset, .unset, .unset, .unset, .unset, .unset, .unset] [])) t → Steps p.tables e below st0 t := by
        intro t kt
        refine go9 t ?_
        refine XS.ifYes X0.here hx rfl (pc0 := 19) (pc' := 26) rfl (hb hby at_19) rfl ((if0 _ _).trans (teq hc10).1) (by decide) (by decide) ?_
        show Steps p.tables e below (s₁.setTop (mkF m 26 #[.val (.long pj0), .second, .val (.long pj1), .second, .val (.long pj2), .second, .val (.long pj3), .second, .val (.int pi4), .val (.long pj0), .second, .unset, .unset, .unset, .unset, .unset, .unset, .unset, .unset, .unset] [])) _
        refine XS.lload X0.here hx rfl (hb hby at_26) rfl ?_
        show Steps p.tables e below (s₁.setTop (mkF m 28 #[.val (.long pj0), .second, .val (.long pj1), .second, .val (.long pj2), .second, .val (.long pj3), .second, .val (.int pi4), .val (.long pj0), .second, .unset, .unset, .unset, .unset, .unset, .unset, .unset, .unset, .unset] [(.long pj3)])) _
        refine XS.lstore X0.here hx rfl (hb hby at_28) rfl (l' := #[.val (.long pj0), .second, .val (.long pj1), .second, .val (.long pj2), .second, .val (.long pj3), .second, .val (.int pi4), .val (.long pj0), .second, .val (.long pj3), .second, .unset, .unset, .unset, .unset, .unset, .unset, .unset]) rfl ?_
        show Steps p.tables e below (s₁.setTop (mkF m 30 #[.val (.long pj0), .second, .val (.long pj1), .second, .val (.long pj2), .second, .val (.long pj3), .second, .val (.int pi4), .val (.long pj0), .second, .val (.long pj3), .second, .unset, .unset, .unset, .unset, .unset, .unset, .unset] [])) _
        exact kt
      obtain ⟨s₂, o₂, hs₂, hr₂⟩ := own_tail30 pj0 pj1 pj2 pj3 pi4 pj0 pj3 ca kc vs X0 hx hZ hw hby hml hown e0 N0 Z0 Bd.returns (BodyLoose.notSynchronized Bd) P0 P1 P2
      exact ⟨s₂, o₂, go12 _ hs₂, hr₂⟩
    · skip
      have go14 : ∀ t, Steps p.tables e below (s₁.setTop (mkF m 30 #[.val (.long pj0), .second, .val (.long pj1), .second, .val (.long pj2), .second, .val (.long pj3), .second, .val (.int pi4), .val (.long pj0), .second, .val (.long pj1), .second, .unset, .unset, .unset, .unset, .unset, .unset, .unset] [])) t → Steps p.tables e below st0 t := by
        intro t kt
        refine go9 t ?_
        refine XS.ifNo X0.here hx rfl (hb hby at_19) rfl ((if0 _ _).trans (feq hc10).1) ?_
        show Steps p.tables e below (s₁.setTop (mkF m 22 #[.val (.long pj0), .second, .val (.long pj1), .second, .val (.long pj2), .second, .val (.long pj3), .second, .val (.int pi4), .val (.long pj0), .second, .unset, .unset, .unset, .unset, .unset, .unset, .unset, .unset, .unset] [])) _
        refine XS.lloadN X0.here hx rfl (hb hby at_22) rfl ?_
        show Steps p.tables e below (s₁.setTop (mkF m 23 #[.val (.long pj0), .second, .val (.long pj1), .second, .val (.long pj2), .second, .val (.long pj3), .second, .val (.int pi4), .val (.long pj0), .second, .unset, .unset, .unset, .unset, .unset, .unset, .unset, .unset, .unset] [(.long pj1)])) _
        refine XS.goto X0.here hx rfl (pc0 := 23) (pc' := 28) rfl (hb hby at_23) (by decide) (by decide) ?_
        show Steps p.tables e below (s₁.setTop (mkF m 28 #[.val (.long pj0), .second, .val (.long pj1), .second, .val (.long pj2), .second, .val (.long pj3), .second, .val (.int pi4), .val (.long pj0), .second, .unset, .unset, .unset, .unset, .unset, .unset, .unset, .unset, .unset] [(.long pj1)])) _
        refine XS.lstore X0.here hx rfl (hb hby at_28) rfl (l' := #[.val (.long pj0), .second, .val (.long pj1), .second, .val (.long pj2), .second, .val (.long pj3), .second, .val (.int pi4), .val (.long pj0), .second, .val (.long pj1), .second, .unset, .unset, .unset, .unset, .unset, .unset, .unset]) rfl ?_
        show Steps p.tables e below (s₁.setTop (mkF m 30 #[.val (.long pj0), .second, .val (.long pj1), .second, .val (.long pj2), .second, .val (.long pj3), .second, .val (.int pi4), .val (.long pj0), .second, .val (.long pj1), .second, .unset, .unset, .unset, .unset, .unset, .unset, .unset] [])) _
        exact kt
      obtain ⟨s₂, o₂, hs₂, hr₂⟩ := own_tail30 pj0 pj1 pj2 pj3 pi4 pj0 pj1 ca kc vs X0 hx hZ hw hby hml hown e0 N0 Z0 Bd.returns (BodyLoose.notSynchronized Bd) P0 P1 P2
      exact ⟨s₂, o₂, go14 _ hs₂, hr₂⟩
theorem own_all {s : State} {args : Array Value} {a : Addr} {cl : Cell} {ty : FieldType} {C n d K : String} {rest : Jvm.Cond} (ev : (Term.static C n d).eval args s none [] s = some (.ref a)) (A : Arr s s.heap a cl ty) (cz : cl.slots.size < 2 ^ 31) (sz : cl.slots.size.toInt32 = (256 : Int32))
    (h : (Jvm.Cond.all (.static C n d) (.and (.exactly (.elem (.static C n d) (.index 0)) K) rest)).value args s none s [] = some true) : own_AllL s s.heap cl.slots.toList 256 K := fun i hi => by
  have hA : s.arrayAt? a = some cl := A.fin (Vm.Alike.refl _)
  have hS : cl.slots.size = 256 := by
    have e := len_toInt cz
    rw [sz] at e
    have e2 : (256 : Int32).toInt = 256 := rfl
    omega
  have hj := Cond.all_elim ev hA h i (by omega)
  obtain ⟨g1, -⟩ := and_e hj
  obtain ⟨x, ex⟩ := exa_v g1
  have evi : (Term.static C n d).eval args s none [i] s = some (.ref a) := by simpa [Term.eval] using ev
  have ij : (Term.index 0).eval args s none [i] s = some (.int i.toInt32) := Term.index_eval _
  obtain ⟨-, q⟩ := elem_in ex evi ij A.1
  have e1 : (Nat.toInt32 i).toNatClampNeg = i := by simp only [Int32.toNatClampNeg, len_toInt (show i < 2 ^ 31 by omega)]; rfl
  rw [e1] at q
  exact ⟨x, by rw [List.getD_eq_getElem?_getD, Array.getElem?_toList, q]; rfl, exa_at ex g1⟩

set_option maxRecDepth 65536 in
set_option maxHeartbeats 40000000 in
theorem comes_1 {Post : Tables → Env → Array Value → State → Outcome → State → Prop} (hpost : ∀ tb e args s v u, (limb_1_1.after args s (.returned v) u = true ∧ limb_1_2.after args s (.returned v) u = true ∧ True) → FrameEnd s (.returned v) u (Jvm.fieldLocs frame_1_writes args s ++ Jvm.arrayLocs frame_1_arrays args s ++ Jvm.staticLocs frame_1_statics s) 16 128 → Post tb e args s (.returned v) u) :
    ArmFor flags0 classFile x code maxLocals ret World_1 tables_1 room_1 Calls_1 rest_1 Pre_1 Post := by
  intro l hfl _ _ p e ha hc hk s m args below hf hA hF happ hP
  obtain ⟨hcalls, hrest, hpre⟩ := hP
  obtain ⟨-, -, -, hnamed, -, -, -, hat⟩ := (Spec.applies_iff hf).mp happ
  obtain ⟨hg, hn⟩ := and_e (Cond.before_iff.mp (show (Jvm.Cond.and given_1 narrow_1).before args s = true from hpre))
  obtain ⟨g1a, g1b⟩ := and_e hg
  obtain ⟨g2a, g2b⟩ := and_e g1b
  obtain ⟨g3a, g3b⟩ := and_e g2b
  obtain ⟨g4a, g4b⟩ := and_e g3b
  obtain ⟨g5a, g5b⟩ := and_e g4b
  obtain ⟨w0, w1, w2, w3, w4, rfl⟩ : ∃ w0 w1 w2 w3 w4 : Value, args = #[w0, w1, w2, w3, w4] := by
    have hs : args.size = 5 := by simpa [Cond.value, given_1] using g1a
    obtain ⟨L⟩ := args
    match L, hs with
    | [w0, w1, w2, w3, w4], _ => exact ⟨w0, w1, w2, w3, w4, rfl⟩
  have hw := fun d (hd : d ∈ tables_1) => atoms_spec (ws := Jvm.Cond.code x code maxLocals ret :: tables_1) hat d (List.mem_cons_of_mem _ hd)
  have hfit : Fit s := fun {y c} hc i hi => by
    obtain ⟨ha, rfl⟩ := Array.getElem?_eq_some_iff.mp hc
    have q := List.all_eq_true.mp ((Array.all_eq_true_iff_forall_mem.mp hF) _ (Array.getElem_mem ha)) i (List.mem_range.mpr hi)
    simpa [Array.getElem?_eq_getElem hi] using q
  obtain ⟨hsets, hown0⟩ := atoms_of _ (rest_1_c_eq ▸ (show rest_1_c.before _ s = true from hrest))
  obtain ⟨i0, ei0⟩ := isL_v g2a
  obtain rfl : w0 = (.long i0) := Option.some.inj ei0
  obtain ⟨i1, ei1⟩ := isL_v g3a
  obtain rfl : w1 = (.long i1) := Option.some.inj ei1
  obtain ⟨i2, ei2⟩ := isL_v g4a
  obtain rfl : w2 = (.long i2) := Option.some.inj ei2
  obtain ⟨i3, ei3⟩ := isL_v g5a
  obtain rfl : w3 = (.long i3) := Option.some.inj ei3
  obtain ⟨i4, ei4⟩ := is_v g5b
  obtain rfl : w4 = (.int i4) := Option.some.inj ei4
  have hs2 := Cond.before_iff.mp (hsets _ (List.mem_of_getElem? (i := 2) rfl))
  have hs4 := Cond.before_iff.mp (hsets _ (List.mem_of_getElem? (i := 4) rfl))
  have hs5 := Cond.before_iff.mp (hsets _ (List.mem_of_getElem? (i := 5) rfl))
  obtain ⟨ca, evc⟩ := arr_v hs2
  obtain ⟨clc, Arc⟩ := Arr.start evc hs2
  have S_ca : Sta s s.heap "java/lang/Long$LongCache" "cache" "[Ljava/lang/Long;" (.ref ca) := Sta.start evc (Or.inl (hsets _ (List.mem_of_getElem? (i := 1) rfl)))
  obtain ⟨cz, sz⟩ := own_len evc hs4 Arc
  have V_ca := own_arv (dv := .null) hfit Arc cz sz (by decide)
  have L_ca := own_all evc Arc cz sz hs5
  obtain ⟨n, o, h1, h2, h3, _, L, rfl, ⟨rfl, N⟩, hq⟩ := own_law l s _ hw tables_1 i0 i1 i2 i3 i4 ca clc.cls clc.slots.toList s.heap s.heap.size (Nat.le_refl _) S_ca V_ca L_ca p e ha hc hk s m _ below hf ((Spec.applies_iff_loose hf).mp happ).1 ⟨rfl, State.Warmed39.refl s, rfl⟩ trivial
  refine ⟨n, _, h1, h2, h3, hpost _ _ _ _ _ _ ⟨Cond.after_iff.mpr rfl, Cond.after_iff.mpr (eq_i res_at (Term.int_eval (1)) rfl), trivial⟩ ⟨hq.1, hq.2.1, (hq.2.2.sift fun y hy => Or.inr (N y hy)).mono (by decide) (by decide)⟩⟩
theorem main_1_1 : Claimed_1_1 := comes_1 fun _ _ _ _ _ _ h hF => ⟨h.1, hF⟩
theorem main_1_2 : Claimed_1_2 := comes_1 fun _ _ _ _ _ _ h hF => ⟨h.2.1, hF⟩
end Jvm.Pilot.@@N@@
namespace Jvm.Pilot.@@N@@
open Jvm Jvm.ClassFile Sem Op Lib Jvm.Free Jvm.Stand Jvm.Pilot.@@N@@.Jvm.D
/-! MADE BY PROGRAM (witnessworld.py) out of the Statement's table words and the real class files: 16 classes; the members and pool entries that the words name. The judged class is class 1, her method 1. -/
namespace start1
open Jvm.ClassFile
def u (s : String) : CpInfo := .utf8 (stringToUtf16 s)
/-- a pool by its gaps: so many unusable entries, then the entry; so many at the end -/
def gap : Nat → List CpInfo → List CpInfo
  | 0, r => r
  | n + 1, r => .unusable :: gap n r
def poolList (es : List (Nat × CpInfo)) (last : Nat) : List CpInfo := es.foldr (fun e r => gap e.1 (e.2 :: r)) (gap last [])
def pool (es : List (Nat × CpInfo)) (last : Nat) : Array CpInfo := ⟨poolList es last⟩
def fileOf (pool : Array CpInfo) (this : Nat) (attrs : Array Attribute := #[]) (ms : Array MethodInfo := #[]) (fl : Nat := 33) (sup : Nat := 0) (ifs : Array Nat := #[]) (fds : Array FieldInfo := #[]) : ClassFile where
  minorVersion := 0
  majorVersion := 65
  constantPool := pool
  accessFlags := fl
  thisClass := this
  superClass := sup
  interfaces := ifs
  fields := fds
  methods := ms
  attributes := attrs
def plain (name : String) (sup : Option ClassId) : Class where
  name := name
  kind := .ordinary
  loader := none
  accessFlags := 33
  super := sup
  interfaces := #[]
  cf := none
  fields := #[]
  methods := #[]
  instanceTypes := #[]
  staticTypes := #[]
  resolved := #[]
  callSites := []
  init := .initialized
  statics := none
  mirror := none

def pool0 : Array CpInfo := pool [(5, u "<init>"), (0, u "()V"), (1, .class_ 10), (1, u "java/lang/Object")] 113

def k0c0 : Code := { maxStack := 0, maxLocals := 1, code := object_method_1_code, exceptionTable := #[], attributes := #[] }
def k0m0 : Method := { name := "<init>", desc := "()V", sig := { parameters := [], returnType := none }, accessFlags := 1, code := some k0c0 }
/-- java/lang/Object -/
def k0 : Class := { plain "java/lang/Object" none with
  accessFlags := 33
  interfaces := #[]
  cf := some (fileOf pool0 8 #[] #[{ accessFlags := 1, nameIndex := 5, descriptorIndex := 6, attributes := #[] }] 33 0 #[] #[])
  fields := #[]
  methods := #[k0m0]
  instanceTypes := #[]
  staticTypes := #[]
  resolved := Array.replicate 124 none
  statics := none }

def pool1 : Array CpInfo := pool [(2, .class_ 4), (1, u "java/lang/Object"), (0, u "<init>"), (0, u "()V"), (0, .class_ 8), (0, u "com/example/xmitq/xmitq/MessageId"), (0, .methodref 7 10), (0, .nameAndType 5 11), (0, u "(JJ)V"), (0, .methodref 13 14), (0, .class_ 15), (0, .nameAndType 16 17), (0, u "java/lang/Long"), (0, u "valueOf"), (0, u "(J)Ljava/lang/Long;"), (0, .methodref 7 19), (0, .nameAndType 20 21), (0, u "equals"), (0, u "(Ljava/lang/Object;)Z"), (0, .class_ 23), (0, u "com/example/xmitq/xmitq/MessageIdEqualsPinLaw"), (2, u "law"), (0, u "(JJJJI)Z")] 3

def k1m0 : Method := { name := "<init>", desc := "()V", sig := { parameters := [], returnType := none }, accessFlags := 1, code := none }
def k1c1 : Code := { maxStack := 6, maxLocals := 20, code := code, exceptionTable := #[], attributes := #[] }
def k1m1 : Method := { name := "law", desc := "(JJJJI)Z", sig := { parameters := [.long, .long, .long, .long, .int], returnType := some .boolean }, accessFlags := 9, code := some k1c1 }
/-- com/example/xmitq/xmitq/MessageIdEqualsPinLaw -/
def k1 : Class := { plain "com/example/xmitq/xmitq/MessageIdEqualsPinLaw" (some 0) with
  accessFlags := 49
  interfaces := #[]
  cf := some (fileOf pool1 22 #[] #[{ accessFlags := 1, nameIndex := 5, descriptorIndex := 6, attributes := #[] }, { accessFlags := 9, nameIndex := 26, descriptorIndex := 27, attributes := #[] }] 49 2 #[] #[])
  fields := #[]
  methods := #[k1m0, k1m1]
  instanceTypes := #[]
  staticTypes := #[]
  resolved := Array.replicate 31 none
  statics := none }

def pool2 : Array CpInfo := pool [(1, .methodref 2 3), (0, .class_ 4), (0, .nameAndType 5 6), (0, u "java/lang/Object"), (0, u "<init>"), (0, u "()V"), (0, .fieldref 8 9), (0, .class_ 10), (0, .nameAndType 11 12), (0, u "com/example/xmitq/xmitq/MessageId"), (0, u "high"), (0, u "J"), (0, .fieldref 8 14), (0, .nameAndType 15 12), (0, u "low"), (8, u "(JJ)V"), (22, u "LENGTH"), (0, u "I"), (8, u "equals"), (0, u "(Ljava/lang/Object;)Z")] 6

def k2c0 : Code := { maxStack := 3, maxLocals := 5, code := prog_29_method_1_code, exceptionTable := #[], attributes := #[] }
def k2m0 : Method := { name := "<init>", desc := "(JJ)V", sig := { parameters := [.long, .long], returnType := none }, accessFlags := 1, code := some k2c0 }
def k2c1 : Code := { maxStack := 4, maxLocals := 3, code := prog_29_method_6_code, exceptionTable := #[], attributes := #[] }
def k2m1 : Method := { name := "equals", desc := "(Ljava/lang/Object;)Z", sig := { parameters := [(.object "java/lang/Object")], returnType := some .boolean }, accessFlags := 1, code := some k2c1 }
/-- com/example/xmitq/xmitq/MessageId -/
def k2 : Class := { plain "com/example/xmitq/xmitq/MessageId" (some 0) with
  accessFlags := 33
  interfaces := #[]
  cf := some (fileOf pool2 8 #[] #[{ accessFlags := 1, nameIndex := 5, descriptorIndex := 24, attributes := #[] }, { accessFlags := 1, nameIndex := 57, descriptorIndex := 58, attributes := #[] }] 33 2 #[] #[{ accessFlags := 24, nameIndex := 47, descriptorIndex := 48, attributes := #[] }, { accessFlags := 18, nameIndex := 11, descriptorIndex := 12, attributes := #[] }, { accessFlags := 18, nameIndex := 15, descriptorIndex := 12, attributes := #[] }])
  fields := #[{ name := "LENGTH", type := .int, accessFlags := 24, slot := 0, constantValue := 0 }, { name := "high", type := .long, accessFlags := 18, slot := 0, constantValue := 0 }, { name := "low", type := .long, accessFlags := 18, slot := 1, constantValue := 0 }]
  methods := #[k2m0, k2m1]
  instanceTypes := #[.long, .long]
  staticTypes := #[.int]
  resolved := Array.replicate 65 none
  statics := none }

def pool3 : Array CpInfo := pool [(1, .class_ 2), (0, u "java/io/Serializable"), (0, .class_ 4), (0, u "java/lang/Object")] 2

/-- java/io/Serializable -/
def k3 : Class := { plain "java/io/Serializable" (some 0) with
  accessFlags := 1537
  interfaces := #[]
  cf := some (fileOf pool3 1 #[] #[] 1537 3 #[] #[])
  fields := #[]
  methods := #[]
  instanceTypes := #[]
  staticTypes := #[]
  resolved := Array.replicate 7 none
  statics := none }

def pool4 : Array CpInfo := pool [(1, .methodref 2 3), (0, .class_ 4), (0, .nameAndType 5 6), (0, u "java/lang/Object"), (0, u "<init>"), (0, u "()V"), (1, .class_ 10), (1, u "java/lang/Number"), (2, .class_ 14), (0, u "java/io/Serializable"), (0, u "serialVersionUID"), (0, u "J")] 20

def k4c0 : Code := { maxStack := 1, maxLocals := 1, code := jdk_18_method_1_code, exceptionTable := #[], attributes := #[] }
def k4m0 : Method := { name := "<init>", desc := "()V", sig := { parameters := [], returnType := none }, accessFlags := 1, code := some k4c0 }
/-- java/lang/Number -/
def k4 : Class := { plain "java/lang/Number" (some 0) with
  accessFlags := 1057
  interfaces := #[3]
  cf := some (fileOf pool4 8 #[] #[{ accessFlags := 1, nameIndex := 5, descriptorIndex := 6, attributes := #[] }] 1057 2 #[13] #[{ accessFlags := 26, nameIndex := 15, descriptorIndex := 16, attributes := #[] }])
  fields := #[{ name := "serialVersionUID", type := .long, accessFlags := 26, slot := 0, constantValue := 0 }]
  methods := #[k4m0]
  instanceTypes := #[]
  staticTypes := #[.long]
  resolved := Array.replicate 37 none
  statics := none }

def pool5 : Array CpInfo := pool [(1, .class_ 2), (0, u "java/lang/Comparable"), (0, .class_ 4), (0, u "java/lang/Object")] 7

/-- java/lang/Comparable -/
def k5 : Class := { plain "java/lang/Comparable" (some 0) with
  accessFlags := 1537
  interfaces := #[]
  cf := some (fileOf pool5 1 #[] #[] 1537 3 #[] #[])
  fields := #[]
  methods := #[]
  instanceTypes := #[]
  staticTypes := #[]
  resolved := Array.replicate 12 none
  statics := none }

def pool6 : Array CpInfo := pool [(1, .class_ 2), (0, u "java/lang/constant/Constable"), (0, .class_ 4), (0, u "java/lang/Object")] 6

/-- java/lang/constant/Constable -/
def k6 : Class := { plain "java/lang/constant/Constable" (some 0) with
  accessFlags := 1537
  interfaces := #[]
  cf := some (fileOf pool6 1 #[] #[] 1537 3 #[] #[])
  fields := #[]
  methods := #[]
  instanceTypes := #[]
  staticTypes := #[]
  resolved := Array.replicate 11 none
  statics := none }

def pool7 : Array CpInfo := pool [(1, .class_ 2), (0, u "java/lang/constant/ConstantDesc"), (0, .class_ 4), (0, u "java/lang/Object")] 32

/-- java/lang/constant/ConstantDesc -/
def k7 : Class := { plain "java/lang/constant/ConstantDesc" (some 0) with
  accessFlags := 1537
  interfaces := #[]
  cf := some (fileOf pool7 1 #[] #[] 1537 3 #[] #[])
  fields := #[]
  methods := #[]
  instanceTypes := #[]
  staticTypes := #[]
  resolved := Array.replicate 37 none
  statics := none }

def pool8 : Array CpInfo := pool [(1, .class_ 2), (0, u "java/lang/Long"), (55, .nameAndType 59 60), (0, u "<init>"), (0, u "()V"), (24, u "valueOf"), (143, u "(J)Ljava/lang/Long;"), (0, .long 18446744073709551488), (1, .long 127), (1, .fieldref 235 236), (0, .class_ 237), (0, .nameAndType 238 239), (0, u "java/lang/Long$LongCache"), (0, u "cache"), (0, u "[Ljava/lang/Long;"), (0, .methodref 1 241), (0, .nameAndType 59 242), (0, u "(J)V"), (27, .methodref 271 58), (0, .class_ 272), (0, u "java/lang/Number"), (0, .fieldref 1 274), (0, .nameAndType 275 276), (0, u "value"), (0, u "J"), (84, u "TYPE"), (0, u "Ljava/lang/Class;"), (0, .class_ 364), (0, u "java/lang/Comparable"), (0, .class_ 366), (0, u "java/lang/constant/Constable"), (0, .class_ 368), (0, u "java/lang/constant/ConstantDesc"), (0, u "MIN_VALUE"), (1, u "MAX_VALUE"), (4, u "SIZE"), (0, u "I"), (1, u "BYTES"), (1, u "serialVersionUID")] 142

def k8c0 : Code := { maxStack := 4, maxLocals := 3, code := jdk_35_method_24_code, exceptionTable := #[], attributes := #[] }
def k8m0 : Method := { name := "valueOf", desc := "(J)Ljava/lang/Long;", sig := { parameters := [.long], returnType := some (.object "java/lang/Long") }, accessFlags := 9, code := some k8c0 }
def k8c1 : Code := { maxStack := 3, maxLocals := 3, code := jdk_35_method_26_code, exceptionTable := #[], attributes := #[] }
def k8m1 : Method := { name := "<init>", desc := "(J)V", sig := { parameters := [.long], returnType := none }, accessFlags := 1, code := some k8c1 }
/-- java/lang/Long -/
def k8 : Class := { plain "java/lang/Long" (some 4) with
  accessFlags := 49
  interfaces := #[5, 6, 7]
  cf := some (fileOf pool8 1 #[.nestMembers #[235]] #[{ accessFlags := 9, nameIndex := 85, descriptorIndex := 229, attributes := #[] }, { accessFlags := 1, nameIndex := 59, descriptorIndex := 242, attributes := #[] }] 49 271 #[363, 365, 367] #[{ accessFlags := 25, nameIndex := 369, descriptorIndex := 276, attributes := #[] }, { accessFlags := 25, nameIndex := 371, descriptorIndex := 276, attributes := #[] }, { accessFlags := 25, nameIndex := 361, descriptorIndex := 362, attributes := #[] }, { accessFlags := 18, nameIndex := 275, descriptorIndex := 276, attributes := #[] }, { accessFlags := 25, nameIndex := 376, descriptorIndex := 377, attributes := #[] }, { accessFlags := 25, nameIndex := 379, descriptorIndex := 377, attributes := #[] }, { accessFlags := 26, nameIndex := 381, descriptorIndex := 276, attributes := #[] }])
  fields := #[{ name := "MIN_VALUE", type := .long, accessFlags := 25, slot := 0, constantValue := 0 }, { name := "MAX_VALUE", type := .long, accessFlags := 25, slot := 1, constantValue := 0 }, { name := "TYPE", type := (.object "java/lang/Class"), accessFlags := 25, slot := 2, constantValue := 0 }, { name := "value", type := .long, accessFlags := 18, slot := 0, constantValue := 0 }, { name := "SIZE", type := .int, accessFlags := 25, slot := 3, constantValue := 0 }, { name := "BYTES", type := .int, accessFlags := 25, slot := 4, constantValue := 0 }, { name := "serialVersionUID", type := .long, accessFlags := 26, slot := 5, constantValue := 0 }]
  methods := #[k8m0, k8m1]
  instanceTypes := #[.long]
  staticTypes := #[.long, .long, (.object "java/lang/Class"), .int, .int, .long]
  resolved := Array.replicate 524 none
  statics := none }

def pool9 : Array CpInfo := pool [(2, .class_ 4), (1, u "java/lang/Object"), (0, u "<init>"), (0, u "()V"), (0, .class_ 8), (0, u "java/lang/Long"), (7, .class_ 18), (1, u "java/lang/Long$LongCache"), (0, u "$assertionsDisabled"), (0, u "Z"), (8, u "archivedCache"), (0, u "[Ljava/lang/Long;"), (7, u "cache")] 24

def k9m0 : Method := { name := "<init>", desc := "()V", sig := { parameters := [], returnType := none }, accessFlags := 2, code := none }
/-- java/lang/Long$LongCache -/
def k9 : Class := { plain "java/lang/Long$LongCache" (some 0) with
  accessFlags := 48
  interfaces := #[]
  cf := some (fileOf pool9 16 #[.nestHost 7] #[{ accessFlags := 2, nameIndex := 5, descriptorIndex := 6, attributes := #[] }] 48 2 #[] #[{ accessFlags := 24, nameIndex := 38, descriptorIndex := 30, attributes := #[] }, { accessFlags := 8, nameIndex := 29, descriptorIndex := 30, attributes := #[] }, { accessFlags := 4120, nameIndex := 19, descriptorIndex := 20, attributes := #[] }])
  fields := #[{ name := "cache", type := (.array (.object "java/lang/Long")), accessFlags := 24, slot := 0, constantValue := 0 }, { name := "archivedCache", type := (.array (.object "java/lang/Long")), accessFlags := 8, slot := 1, constantValue := 0 }, { name := "$assertionsDisabled", type := .boolean, accessFlags := 4120, slot := 2, constantValue := 0 }]
  methods := #[k9m0]
  instanceTypes := #[]
  staticTypes := #[(.array (.object "java/lang/Long")), (.array (.object "java/lang/Long")), .boolean]
  resolved := Array.replicate 63 none
  statics := some 0 }

def pool10 : Array CpInfo := pool [(1, u "java/lang/Cloneable"), (0, .class_ 1), (0, u "java/lang/Object"), (0, .class_ 3)] 3

/-- java/lang/Cloneable -/
def k10 : Class := { plain "java/lang/Cloneable" (some 0) with
  accessFlags := 1537
  interfaces := #[]
  cf := some (fileOf pool10 2 #[] #[] 1537 4 #[] #[])
  fields := #[]
  methods := #[]
  instanceTypes := #[]
  staticTypes := #[]
  resolved := Array.replicate 8 none
  statics := none }

/-- the primitive byte -/
def k11 : Class := { plain "byte" none with kind := .primitive 'B', accessFlags := 0x411 }
/-- [B -/
def k12 : Class := { plain "[B" (some 0) with kind := .array 11 .byte, interfaces := #[10, 3], accessFlags := 1041 }

/-- the primitive int -/
def k13 : Class := { plain "int" none with kind := .primitive 'I', accessFlags := 0x411 }
/-- [I -/
def k14 : Class := { plain "[I" (some 0) with kind := .array 13 .int, interfaces := #[10, 3], accessFlags := 1041 }

/-- [Ljava/lang/Long; -/
def k15 : Class := { plain "[Ljava/lang/Long;" (some 0) with kind := .array 8 (.object "java/lang/Long"), interfaces := #[10, 3], accessFlags := 1041 }

def heap : Heap := #[{ cls := 9, slots := #[.ref 1, .null, .int 0], vm := .statics 9 },
  { cls := 15, slots := #[.ref 2, .ref 3, .ref 4, .ref 5, .ref 6, .ref 7, .ref 8, .ref 9, .ref 10, .ref 11, .ref 12, .ref 13, .ref 14, .ref 15, .ref 16, .ref 17, .ref 18, .ref 19, .ref 20, .ref 21, .ref 22, .ref 23, .ref 24, .ref 25, .ref 26, .ref 27, .ref 28, .ref 29, .ref 30, .ref 31, .ref 32, .ref 33, .ref 34, .ref 35, .ref 36, .ref 37, .ref 38, .ref 39, .ref 40, .ref 41, .ref 42, .ref 43, .ref 44, .ref 45, .ref 46, .ref 47, .ref 48, .ref 49, .ref 50, .ref 51, .ref 52, .ref 53, .ref 54, .ref 55, .ref 56, .ref 57, .ref 58, .ref 59, .ref 60, .ref 61, .ref 62, .ref 63, .ref 64, .ref 65, .ref 66, .ref 67, .ref 68, .ref 69, .ref 70, .ref 71, .ref 72, .ref 73, .ref 74, .ref 75, .ref 76, .ref 77, .ref 78, .ref 79, .ref 80, .ref 81, .ref 82, .ref 83, .ref 84, .ref 85, .ref 86, .ref 87, .ref 88, .ref 89, .ref 90, .ref 91, .ref 92, .ref 93, .ref 94, .ref 95, .ref 96, .ref 97, .ref 98, .ref 99, .ref 100, .ref 101, .ref 102, .ref 103, .ref 104, .ref 105, .ref 106, .ref 107, .ref 108, .ref 109, .ref 110, .ref 111, .ref 112, .ref 113, .ref 114, .ref 115, .ref 116, .ref 117, .ref 118, .ref 119, .ref 120, .ref 121, .ref 122, .ref 123, .ref 124, .ref 125, .ref 126, .ref 127, .ref 128, .ref 129, .ref 130, .ref 131, .ref 132, .ref 133, .ref 134, .ref 135, .ref 136, .ref 137, .ref 138, .ref 139, .ref 140, .ref 141, .ref 142, .ref 143, .ref 144, .ref 145, .ref 146, .ref 147, .ref 148, .ref 149, .ref 150, .ref 151, .ref 152, .ref 153, .ref 154, .ref 155, .ref 156, .ref 157, .ref 158, .ref 159, .ref 160, .ref 161, .ref 162, .ref 163, .ref 164, .ref 165, .ref 166, .ref 167, .ref 168, .ref 169, .ref 170, .ref 171, .ref 172, .ref 173, .ref 174, .ref 175, .ref 176, .ref 177, .ref 178, .ref 179, .ref 180, .ref 181, .ref 182, .ref 183, .ref 184, .ref 185, .ref 186, .ref 187, .ref 188, .ref 189, .ref 190, .ref 191, .ref 192, .ref 193, .ref 194, .ref 195, .ref 196, .ref 197, .ref 198, .ref 199, .ref 200, .ref 201, .ref 202, .ref 203, .ref 204, .ref 205, .ref 206, .ref 207, .ref 208, .ref 209, .ref 210, .ref 211, .ref 212, .ref 213, .ref 214, .ref 215, .ref 216, .ref 217, .ref 218, .ref 219, .ref 220, .ref 221, .ref 222, .ref 223, .ref 224, .ref 225, .ref 226, .ref 227, .ref 228, .ref 229, .ref 230, .ref 231, .ref 232, .ref 233, .ref 234, .ref 235, .ref 236, .ref 237, .ref 238, .ref 239, .ref 240, .ref 241, .ref 242, .ref 243, .ref 244, .ref 245, .ref 246, .ref 247, .ref 248, .ref 249, .ref 250, .ref 251, .ref 252, .ref 253, .ref 254, .ref 255, .ref 256, .ref 257], vm := .none },
  { cls := 8, slots := #[.long (-128)], vm := .none },
  { cls := 8, slots := #[.long (-127)], vm := .none },
  { cls := 8, slots := #[.long (-126)], vm := .none },
  { cls := 8, slots := #[.long (-125)], vm := .none },
  { cls := 8, slots := #[.long (-124)], vm := .none },
  { cls := 8, slots := #[.long (-123)], vm := .none },
  { cls := 8, slots := #[.long (-122)], vm := .none },
  { cls := 8, slots := #[.long (-121)], vm := .none },
  { cls := 8, slots := #[.long (-120)], vm := .none },
  { cls := 8, slots := #[.long (-119)], vm := .none },
  { cls := 8, slots := #[.long (-118)], vm := .none },
  { cls := 8, slots := #[.long (-117)], vm := .none },
  { cls := 8, slots := #[.long (-116)], vm := .none },
  { cls := 8, slots := #[.long (-115)], vm := .none },
  { cls := 8, slots := #[.long (-114)], vm := .none },
  { cls := 8, slots := #[.long (-113)], vm := .none },
  { cls := 8, slots := #[.long (-112)], vm := .none },
  { cls := 8, slots := #[.long (-111)], vm := .none },
  { cls := 8, slots := #[.long (-110)], vm := .none },
  { cls := 8, slots := #[.long (-109)], vm := .none },
  { cls := 8, slots := #[.long (-108)], vm := .none },
  { cls := 8, slots := #[.long (-107)], vm := .none },
  { cls := 8, slots := #[.long (-106)], vm := .none },
  { cls := 8, slots := #[.long (-105)], vm := .none },
  { cls := 8, slots := #[.long (-104)], vm := .none },
  { cls := 8, slots := #[.long (-103)], vm := .none },
  { cls := 8, slots := #[.long (-102)], vm := .none },
  { cls := 8, slots := #[.long (-101)], vm := .none },
  { cls := 8, slots := #[.long (-100)], vm := .none },
  { cls := 8, slots := #[.long (-99)], vm := .none },
  { cls := 8, slots := #[.long (-98)], vm := .none },
  { cls := 8, slots := #[.long (-97)], vm := .none },
  { cls := 8, slots := #[.long (-96)], vm := .none },
  { cls := 8, slots := #[.long (-95)], vm := .none },
  { cls := 8, slots := #[.long (-94)], vm := .none },
  { cls := 8, slots := #[.long (-93)], vm := .none },
  { cls := 8, slots := #[.long (-92)], vm := .none },
  { cls := 8, slots := #[.long (-91)], vm := .none },
  { cls := 8, slots := #[.long (-90)], vm := .none },
  { cls := 8, slots := #[.long (-89)], vm := .none },
  { cls := 8, slots := #[.long (-88)], vm := .none },
  { cls := 8, slots := #[.long (-87)], vm := .none },
  { cls := 8, slots := #[.long (-86)], vm := .none },
  { cls := 8, slots := #[.long (-85)], vm := .none },
  { cls := 8, slots := #[.long (-84)], vm := .none },
  { cls := 8, slots := #[.long (-83)], vm := .none },
  { cls := 8, slots := #[.long (-82)], vm := .none },
  { cls := 8, slots := #[.long (-81)], vm := .none },
  { cls := 8, slots := #[.long (-80)], vm := .none },
  { cls := 8, slots := #[.long (-79)], vm := .none },
  { cls := 8, slots := #[.long (-78)], vm := .none },
  { cls := 8, slots := #[.long (-77)], vm := .none },
  { cls := 8, slots := #[.long (-76)], vm := .none },
  { cls := 8, slots := #[.long (-75)], vm := .none },
  { cls := 8, slots := #[.long (-74)], vm := .none },
  { cls := 8, slots := #[.long (-73)], vm := .none },
  { cls := 8, slots := #[.long (-72)], vm := .none },
  { cls := 8, slots := #[.long (-71)], vm := .none },
  { cls := 8, slots := #[.long (-70)], vm := .none },
  { cls := 8, slots := #[.long (-69)], vm := .none },
  { cls := 8, slots := #[.long (-68)], vm := .none },
  { cls := 8, slots := #[.long (-67)], vm := .none },
  { cls := 8, slots := #[.long (-66)], vm := .none },
  { cls := 8, slots := #[.long (-65)], vm := .none },
  { cls := 8, slots := #[.long (-64)], vm := .none },
  { cls := 8, slots := #[.long (-63)], vm := .none },
  { cls := 8, slots := #[.long (-62)], vm := .none },
  { cls := 8, slots := #[.long (-61)], vm := .none },
  { cls := 8, slots := #[.long (-60)], vm := .none },
  { cls := 8, slots := #[.long (-59)], vm := .none },
  { cls := 8, slots := #[.long (-58)], vm := .none },
  { cls := 8, slots := #[.long (-57)], vm := .none },
  { cls := 8, slots := #[.long (-56)], vm := .none },
  { cls := 8, slots := #[.long (-55)], vm := .none },
  { cls := 8, slots := #[.long (-54)], vm := .none },
  { cls := 8, slots := #[.long (-53)], vm := .none },
  { cls := 8, slots := #[.long (-52)], vm := .none },
  { cls := 8, slots := #[.long (-51)], vm := .none },
  { cls := 8, slots := #[.long (-50)], vm := .none },
  { cls := 8, slots := #[.long (-49)], vm := .none },
  { cls := 8, slots := #[.long (-48)], vm := .none },
  { cls := 8, slots := #[.long (-47)], vm := .none },
  { cls := 8, slots := #[.long (-46)], vm := .none },
  { cls := 8, slots := #[.long (-45)], vm := .none },
  { cls := 8, slots := #[.long (-44)], vm := .none },
  { cls := 8, slots := #[.long (-43)], vm := .none },
  { cls := 8, slots := #[.long (-42)], vm := .none },
  { cls := 8, slots := #[.long (-41)], vm := .none },
  { cls := 8, slots := #[.long (-40)], vm := .none },
  { cls := 8, slots := #[.long (-39)], vm := .none },
  { cls := 8, slots := #[.long (-38)], vm := .none },
  { cls := 8, slots := #[.long (-37)], vm := .none },
  { cls := 8, slots := #[.long (-36)], vm := .none },
  { cls := 8, slots := #[.long (-35)], vm := .none },
  { cls := 8, slots := #[.long (-34)], vm := .none },
  { cls := 8, slots := #[.long (-33)], vm := .none },
  { cls := 8, slots := #[.long (-32)], vm := .none },
  { cls := 8, slots := #[.long (-31)], vm := .none },
  { cls := 8, slots := #[.long (-30)], vm := .none },
  { cls := 8, slots := #[.long (-29)], vm := .none },
  { cls := 8, slots := #[.long (-28)], vm := .none },
  { cls := 8, slots := #[.long (-27)], vm := .none },
  { cls := 8, slots := #[.long (-26)], vm := .none },
  { cls := 8, slots := #[.long (-25)], vm := .none },
  { cls := 8, slots := #[.long (-24)], vm := .none },
  { cls := 8, slots := #[.long (-23)], vm := .none },
  { cls := 8, slots := #[.long (-22)], vm := .none },
  { cls := 8, slots := #[.long (-21)], vm := .none },
  { cls := 8, slots := #[.long (-20)], vm := .none },
  { cls := 8, slots := #[.long (-19)], vm := .none },
  { cls := 8, slots := #[.long (-18)], vm := .none },
  { cls := 8, slots := #[.long (-17)], vm := .none },
  { cls := 8, slots := #[.long (-16)], vm := .none },
  { cls := 8, slots := #[.long (-15)], vm := .none },
  { cls := 8, slots := #[.long (-14)], vm := .none },
  { cls := 8, slots := #[.long (-13)], vm := .none },
  { cls := 8, slots := #[.long (-12)], vm := .none },
  { cls := 8, slots := #[.long (-11)], vm := .none },
  { cls := 8, slots := #[.long (-10)], vm := .none },
  { cls := 8, slots := #[.long (-9)], vm := .none },
  { cls := 8, slots := #[.long (-8)], vm := .none },
  { cls := 8, slots := #[.long (-7)], vm := .none },
  { cls := 8, slots := #[.long (-6)], vm := .none },
  { cls := 8, slots := #[.long (-5)], vm := .none },
  { cls := 8, slots := #[.long (-4)], vm := .none },
  { cls := 8, slots := #[.long (-3)], vm := .none },
  { cls := 8, slots := #[.long (-2)], vm := .none },
  { cls := 8, slots := #[.long (-1)], vm := .none },
  { cls := 8, slots := #[.long 0], vm := .none },
  { cls := 8, slots := #[.long 1], vm := .none },
  { cls := 8, slots := #[.long 2], vm := .none },
  { cls := 8, slots := #[.long 3], vm := .none },
  { cls := 8, slots := #[.long 4], vm := .none },
  { cls := 8, slots := #[.long 5], vm := .none },
  { cls := 8, slots := #[.long 6], vm := .none },
  { cls := 8, slots := #[.long 7], vm := .none },
  { cls := 8, slots := #[.long 8], vm := .none },
  { cls := 8, slots := #[.long 9], vm := .none },
  { cls := 8, slots := #[.long 10], vm := .none },
  { cls := 8, slots := #[.long 11], vm := .none },
  { cls := 8, slots := #[.long 12], vm := .none },
  { cls := 8, slots := #[.long 13], vm := .none },
  { cls := 8, slots := #[.long 14], vm := .none },
  { cls := 8, slots := #[.long 15], vm := .none },
  { cls := 8, slots := #[.long 16], vm := .none },
  { cls := 8, slots := #[.long 17], vm := .none },
  { cls := 8, slots := #[.long 18], vm := .none },
  { cls := 8, slots := #[.long 19], vm := .none },
  { cls := 8, slots := #[.long 20], vm := .none },
  { cls := 8, slots := #[.long 21], vm := .none },
  { cls := 8, slots := #[.long 22], vm := .none },
  { cls := 8, slots := #[.long 23], vm := .none },
  { cls := 8, slots := #[.long 24], vm := .none },
  { cls := 8, slots := #[.long 25], vm := .none },
  { cls := 8, slots := #[.long 26], vm := .none },
  { cls := 8, slots := #[.long 27], vm := .none },
  { cls := 8, slots := #[.long 28], vm := .none },
  { cls := 8, slots := #[.long 29], vm := .none },
  { cls := 8, slots := #[.long 30], vm := .none },
  { cls := 8, slots := #[.long 31], vm := .none },
  { cls := 8, slots := #[.long 32], vm := .none },
  { cls := 8, slots := #[.long 33], vm := .none },
  { cls := 8, slots := #[.long 34], vm := .none },
  { cls := 8, slots := #[.long 35], vm := .none },
  { cls := 8, slots := #[.long 36], vm := .none },
  { cls := 8, slots := #[.long 37], vm := .none },
  { cls := 8, slots := #[.long 38], vm := .none },
  { cls := 8, slots := #[.long 39], vm := .none },
  { cls := 8, slots := #[.long 40], vm := .none },
  { cls := 8, slots := #[.long 41], vm := .none },
  { cls := 8, slots := #[.long 42], vm := .none },
  { cls := 8, slots := #[.long 43], vm := .none },
  { cls := 8, slots := #[.long 44], vm := .none },
  { cls := 8, slots := #[.long 45], vm := .none },
  { cls := 8, slots := #[.long 46], vm := .none },
  { cls := 8, slots := #[.long 47], vm := .none },
  { cls := 8, slots := #[.long 48], vm := .none },
  { cls := 8, slots := #[.long 49], vm := .none },
  { cls := 8, slots := #[.long 50], vm := .none },
  { cls := 8, slots := #[.long 51], vm := .none },
  { cls := 8, slots := #[.long 52], vm := .none },
  { cls := 8, slots := #[.long 53], vm := .none },
  { cls := 8, slots := #[.long 54], vm := .none },
  { cls := 8, slots := #[.long 55], vm := .none },
  { cls := 8, slots := #[.long 56], vm := .none },
  { cls := 8, slots := #[.long 57], vm := .none },
  { cls := 8, slots := #[.long 58], vm := .none },
  { cls := 8, slots := #[.long 59], vm := .none },
  { cls := 8, slots := #[.long 60], vm := .none },
  { cls := 8, slots := #[.long 61], vm := .none },
  { cls := 8, slots := #[.long 62], vm := .none },
  { cls := 8, slots := #[.long 63], vm := .none },
  { cls := 8, slots := #[.long 64], vm := .none },
  { cls := 8, slots := #[.long 65], vm := .none },
  { cls := 8, slots := #[.long 66], vm := .none },
  { cls := 8, slots := #[.long 67], vm := .none },
  { cls := 8, slots := #[.long 68], vm := .none },
  { cls := 8, slots := #[.long 69], vm := .none },
  { cls := 8, slots := #[.long 70], vm := .none },
  { cls := 8, slots := #[.long 71], vm := .none },
  { cls := 8, slots := #[.long 72], vm := .none },
  { cls := 8, slots := #[.long 73], vm := .none },
  { cls := 8, slots := #[.long 74], vm := .none },
  { cls := 8, slots := #[.long 75], vm := .none },
  { cls := 8, slots := #[.long 76], vm := .none },
  { cls := 8, slots := #[.long 77], vm := .none },
  { cls := 8, slots := #[.long 78], vm := .none },
  { cls := 8, slots := #[.long 79], vm := .none },
  { cls := 8, slots := #[.long 80], vm := .none },
  { cls := 8, slots := #[.long 81], vm := .none },
  { cls := 8, slots := #[.long 82], vm := .none },
  { cls := 8, slots := #[.long 83], vm := .none },
  { cls := 8, slots := #[.long 84], vm := .none },
  { cls := 8, slots := #[.long 85], vm := .none },
  { cls := 8, slots := #[.long 86], vm := .none },
  { cls := 8, slots := #[.long 87], vm := .none },
  { cls := 8, slots := #[.long 88], vm := .none },
  { cls := 8, slots := #[.long 89], vm := .none },
  { cls := 8, slots := #[.long 90], vm := .none },
  { cls := 8, slots := #[.long 91], vm := .none },
  { cls := 8, slots := #[.long 92], vm := .none },
  { cls := 8, slots := #[.long 93], vm := .none },
  { cls := 8, slots := #[.long 94], vm := .none },
  { cls := 8, slots := #[.long 95], vm := .none },
  { cls := 8, slots := #[.long 96], vm := .none },
  { cls := 8, slots := #[.long 97], vm := .none },
  { cls := 8, slots := #[.long 98], vm := .none },
  { cls := 8, slots := #[.long 99], vm := .none },
  { cls := 8, slots := #[.long 100], vm := .none },
  { cls := 8, slots := #[.long 101], vm := .none },
  { cls := 8, slots := #[.long 102], vm := .none },
  { cls := 8, slots := #[.long 103], vm := .none },
  { cls := 8, slots := #[.long 104], vm := .none },
  { cls := 8, slots := #[.long 105], vm := .none },
  { cls := 8, slots := #[.long 106], vm := .none },
  { cls := 8, slots := #[.long 107], vm := .none },
  { cls := 8, slots := #[.long 108], vm := .none },
  { cls := 8, slots := #[.long 109], vm := .none },
  { cls := 8, slots := #[.long 110], vm := .none },
  { cls := 8, slots := #[.long 111], vm := .none },
  { cls := 8, slots := #[.long 112], vm := .none },
  { cls := 8, slots := #[.long 113], vm := .none },
  { cls := 8, slots := #[.long 114], vm := .none },
  { cls := 8, slots := #[.long 115], vm := .none },
  { cls := 8, slots := #[.long 116], vm := .none },
  { cls := 8, slots := #[.long 117], vm := .none },
  { cls := 8, slots := #[.long 118], vm := .none },
  { cls := 8, slots := #[.long 119], vm := .none },
  { cls := 8, slots := #[.long 120], vm := .none },
  { cls := 8, slots := #[.long 121], vm := .none },
  { cls := 8, slots := #[.long 122], vm := .none },
  { cls := 8, slots := #[.long 123], vm := .none },
  { cls := 8, slots := #[.long 124], vm := .none },
  { cls := 8, slots := #[.long 125], vm := .none },
  { cls := 8, slots := #[.long 126], vm := .none },
  { cls := 8, slots := #[.long 127], vm := .none }]
def classes : Array Class := #[k0, k1, k2, k3, k4, k5, k6, k7, k8, k9, k10, k11, k12, k13, k14, k15]
def interned : List (Array UInt16 × Addr) := []
def slotsUsed : Nat := 515
def theMethod : MethodId := ⟨1, 1⟩
def args0 : Array Value := #[.long 5, .long 6, .long 7, .long 8, .int 3]
def aboutOver (below : List Frame) : State where
  vm := { classes := classes, interned := interned.toArray }
  heap := heap
  slotsUsed := slotsUsed
  threads := #[{ frames := .invoking theMethod args0 :: below }]
def below0 : List Frame := [.native { method := ⟨0, 0⟩, args := #[] }]
def about1 : State := aboutOver below0
def p0 : Program := .bare "" "" ""
def e0 : Env := launch0.env 0 0 0
theorem w_frames : about1.frames = Frame.invoking theMethod args0 :: below0 := rfl
set_option maxRecDepth 65536 in
theorem w_args : argsFit about1.vm theMethod args0 = true := by decide +kernel
set_option maxRecDepth 65536 in
theorem w_heap : heapFits about1 = true := by decide +kernel
set_option maxRecDepth 65536 in
theorem w_runnable : about1.curStatus? = some .runnable := by decide +kernel
set_option maxRecDepth 65536 in
theorem w_alone : about1.alone = true := by decide +kernel
set_option maxRecDepth 65536 in
theorem w_named : about1.methodNamed? x = some theMethod := by decide +kernel
set_option maxRecDepth 65536 in
theorem w_hears : about1.hears theMethod below0 = true := by decide +kernel
set_option maxRecDepth 65536 in
theorem w_ripe : about1.ripe theMethod args0 below0 = true := by decide +kernel
theorem w_running : about1.status = .running := rfl
set_option maxRecDepth 65536 in
theorem w_room : about1.hasRoom e0.platform room_1 = true :=
  launch0.hasRoom_least _ room_1 (by decide +kernel) (by decide +kernel) (by decide +kernel) (by decide +kernel) (by decide +kernel) (by decide +kernel)
theorem allAtoms_all (ts : List Jvm.Cond) (a : Array Jvm.Value) (st : Jvm.State) : (allAtoms ts).before a st = ts.all (fun c => c.before a st) := by
  induction ts with
  | nil => rfl
  | cons c t ih =>
    show (Jvm.Cond.and c (allAtoms t)).before a st = _
    rw [Jvm.Cond.before_and, ih, List.all_cons]
def words1 : List Jvm.Cond := Jvm.Cond.code x code maxLocals ret :: tables_1
/-- a 'code' word, met by the world's own term for the bytes: nothing is compared byte by byte -/
theorem code_word {y : MethodName} {bytes : ByteArray} {mx : Nat} {rt : Option FieldType} {a : Array Value} {s : State} {m : MethodId} {meth : Method} {c : Code} (h1 : s.methodNamed? y = some m) (h2 : s.vm.method? m = some meth) (h3 : meth.code = some c) (h4 : c.code = bytes)
    (h5 : (c.maxLocals == mx && c.exceptionTable.isEmpty && decide (c.maxStack ≤ mostOperands) && decide (meth.sig.returnType = rt) && !meth.locks && decide (parseMethodDescriptor y.desc = some meth.sig)) = true) : (Jvm.Cond.code y bytes mx rt).before a s = true := by
  simp only [Bool.and_eq_true, beq_iff_eq, Bool.not_eq_true', decide_eq_true_eq] at h5
  obtain ⟨⟨⟨⟨⟨g1, g2⟩, g3⟩, g4⟩, g5⟩, g6⟩ := h5
  simp [Cond.before, Cond.holds, Cond.value, h1, h2, h3, h4, g1, g2, g3, g4, g5, g6]
def isCode : Jvm.Cond → Bool
  | .code _ _ _ _ => true
  | _ => false
theorem all_split {L : List Jvm.Cond} {P : Jvm.Cond → Bool} (h1 : L.all (fun c => isCode c || P c) = true) (h2 : ∀ c ∈ L.filter isCode, P c = true) : L.all P = true := by
  refine List.all_eq_true.mpr fun c hc => ?_
  have h := List.all_eq_true.mp h1 c hc
  rcases Bool.eq_false_or_eq_true (isCode c) with hi | hi
  · exact h2 c (List.mem_filter.mpr ⟨hc, hi⟩)
  · simpa [hi] using h
set_option maxRecDepth 65536 in
theorem w_c0 : (Jvm.Cond.code x code maxLocals ret).before args0 about1 = true := code_word (m := ⟨1, 1⟩) (meth := k1m1) (c := k1c1) (by decide +kernel) rfl rfl rfl (by decide +kernel)
set_option maxRecDepth 65536 in
theorem w_c1 : (Jvm.Cond.code ({ cls := "com/example/xmitq/xmitq/MessageId", name := "<init>", desc := "(JJ)V" } : Jvm.MethodName) prog_29_method_1_code (5 : Nat) (Option.none : Option Jvm.ClassFile.FieldType)).before args0 about1 = true := code_word (m := ⟨2, 0⟩) (meth := k2m0) (c := k2c0) (by decide +kernel) rfl rfl rfl (by decide +kernel)
set_option maxRecDepth 65536 in
theorem w_c2 : (Jvm.Cond.code ({ cls := "java/lang/Object", name := "<init>", desc := "()V" } : Jvm.MethodName) object_method_1_code (1 : Nat) (Option.none : Option Jvm.ClassFile.FieldType)).before args0 about1 = true := code_word (m := ⟨0, 0⟩) (meth := k0m0) (c := k0c0) (by decide +kernel) rfl rfl rfl (by decide +kernel)
set_option maxRecDepth 65536 in
theorem w_c3 : (Jvm.Cond.code ({ cls := "com/example/xmitq/xmitq/MessageId", name := "equals", desc := "(Ljava/lang/Object;)Z" } : Jvm.MethodName) prog_29_method_6_code (3 : Nat) (Option.some Jvm.ClassFile.FieldType.boolean)).before args0 about1 = true := code_word (m := ⟨2, 1⟩) (meth := k2m1) (c := k2c1) (by decide +kernel) rfl rfl rfl (by decide +kernel)
set_option maxRecDepth 65536 in
theorem w_c4 : (Jvm.Cond.code ({ cls := "java/lang/Long", name := "valueOf", desc := "(J)Ljava/lang/Long;" } : Jvm.MethodName) jdk_35_method_24_code (3 : Nat) (Option.some (Jvm.ClassFile.FieldType.object "java/lang/Long"))).before args0 about1 = true := code_word (m := ⟨8, 0⟩) (meth := k8m0) (c := k8c0) (by decide +kernel) rfl rfl rfl (by decide +kernel)
set_option maxRecDepth 65536 in
theorem w_c5 : (Jvm.Cond.code ({ cls := "java/lang/Long", name := "<init>", desc := "(J)V" } : Jvm.MethodName) jdk_35_method_26_code (3 : Nat) (Option.none : Option Jvm.ClassFile.FieldType)).before args0 about1 = true := code_word (m := ⟨8, 1⟩) (meth := k8m1) (c := k8c1) (by decide +kernel) rfl rfl rfl (by decide +kernel)
set_option maxRecDepth 65536 in
theorem w_c6 : (Jvm.Cond.code ({ cls := "java/lang/Number", name := "<init>", desc := "()V" } : Jvm.MethodName) jdk_18_method_1_code (1 : Nat) (Option.none : Option Jvm.ClassFile.FieldType)).before args0 about1 = true := code_word (m := ⟨4, 0⟩) (meth := k4m0) (c := k4c0) (by decide +kernel) rfl rfl rfl (by decide +kernel)
def codes1 : List Jvm.Cond := [Jvm.Cond.code x code maxLocals ret, Jvm.Cond.code ({ cls := "com/example/xmitq/xmitq/MessageId", name := "<init>", desc := "(JJ)V" } : Jvm.MethodName) prog_29_method_1_code (5 : Nat) (Option.none : Option Jvm.ClassFile.FieldType), Jvm.Cond.code ({ cls := "java/lang/Object", name := "<init>", desc := "()V" } : Jvm.MethodName) object_method_1_code (1 : Nat) (Option.none : Option Jvm.ClassFile.FieldType), Jvm.Cond.code ({ cls := "com/example/xmitq/xmitq/MessageId", name := "equals", desc := "(Ljava/lang/Object;)Z" } : Jvm.MethodName) prog_29_method_6_code (3 : Nat) (Option.some Jvm.ClassFile.FieldType.boolean), Jvm.Cond.code ({ cls := "java/lang/Long", name := "valueOf", desc := "(J)Ljava/lang/Long;" } : Jvm.MethodName) jdk_35_method_24_code (3 : Nat) (Option.some (Jvm.ClassFile.FieldType.object "java/lang/Long")), Jvm.Cond.code ({ cls := "java/lang/Long", name := "<init>", desc := "(J)V" } : Jvm.MethodName) jdk_35_method_26_code (3 : Nat) (Option.none : Option Jvm.ClassFile.FieldType), Jvm.Cond.code ({ cls := "java/lang/Number", name := "<init>", desc := "()V" } : Jvm.MethodName) jdk_18_method_1_code (1 : Nat) (Option.none : Option Jvm.ClassFile.FieldType)]
set_option maxRecDepth 65536 in
theorem codes_eq : words1.filter isCode = codes1 := rfl
theorem w_codes : ∀ c ∈ words1.filter isCode, c.before args0 about1 = true := by
  rw [codes_eq]
  intro c hc
  simp only [codes1, List.mem_cons, List.not_mem_nil, or_false] at hc
  rcases hc with rfl | rfl | rfl | rfl | rfl | rfl | rfl
  · exact w_c0
  · exact w_c1
  · exact w_c2
  · exact w_c3
  · exact w_c4
  · exact w_c5
  · exact w_c6
set_option maxRecDepth 65536 in
theorem w_t1 : (words1.take 24).all (fun c => isCode c || c.before args0 about1) = true := by decide +kernel
set_option maxRecDepth 65536 in
theorem w_t2 : (words1.drop 24).all (fun c => isCode c || c.before args0 about1) = true := by decide +kernel
theorem w_tables : (allAtoms (Jvm.Cond.code x code maxLocals ret :: tables_1)).before args0 about1 = true := by
  rw [allAtoms_all]
  show words1.all (fun c => c.before args0 about1) = true
  refine all_split ?_ w_codes
  rw [← List.take_append_drop 24 words1, List.all_append, w_t1, w_t2]
  rfl
set_option maxRecDepth 65536 in
theorem w_rest : rest_1_c.before args0 about1 = true := by decide +kernel
set_option maxRecDepth 65536 in
theorem w_case : (Jvm.Cond.and given_1 narrow_1).before args0 about1 = true := by decide +kernel
theorem w_applies : (headSpec (Jvm.Cond.code x code maxLocals ret :: tables_1) room_1).applies x e0.platform about1 = true :=
  (Spec.applies_iff w_frames).mpr ⟨w_running, w_runnable, w_alone, w_named, w_hears, w_ripe, w_room, w_tables⟩
theorem atStart : AtStart classFile x code maxLocals ret World_1 tables_1 room_1 Calls_1 rest_1 Pre_1 launch0 p0 e0 about1 theMethod args0 below0 :=
  ⟨lists_1, trivial, launch0.admits_env _ _ _, launch0.least_env, fairChoices_fair.cas, fairChoices_fair.clock, w_frames, w_args, w_heap, w_applies, trivial, w_rest, w_case⟩
end start1
theorem witness_1 : WitnessClaimed_1 := ⟨start1.p0, start1.e0, start1.about1, start1.theMethod, start1.args0, start1.below0, start1.atStart⟩
end Jvm.Pilot.@@N@@
