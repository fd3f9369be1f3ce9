import JvmDerived
import JvmDerived.Pilot.@@N@@Statement
import JvmDerived.Pilot.@@N@@Code
set_option linter.unusedVariables false
set_option linter.unusedSimpArgs false
namespace Jvm.RoadKit
open Sem ClassFile Op Lib Jvm.Stand Jvm.Free Jvm.LawKit
section New
variable {p : Program} {l : Launch} {e : Env} {R : Room} {s : State} {m : MethodId} {args : Array Value} {below : List Frame} {meth : Method} {c : Code} {T : State} {locs : List Loc} {cells slots : Nat}
theorem retI (X : Stand p l e R s m args below meth c T locs cells slots) (hx : p.tables.exec = Jvm.exec) {pc : Nat} {Ls : Array Slot} {z : Int32} {rest : List Value} (hret : meth.sig.returnType = some .int) (hd : decode c.code pc = .ok (.ireturn, 1)) {fs : List Frame}
    (hl : ∀ (f : JFrame) (acts : List Action), f.method = m → f.locked = none → f.entered = [] → (doReturn e (T.setTop f) acts (some (.int z))).1 = T.setFrames fs) : Steps p.tables e below (T.setTop (mkF m pc Ls (.int z :: rest))) (T.setFrames fs) :=
  retOut X hx hret rfl (Or.inl ⟨rfl, Or.inl rfl, z, rfl⟩) hd hl
end New
end Jvm.RoadKit
namespace Jvm.Pilot.@@N@@
open Jvm Jvm.ClassFile Sem Op Lib Jvm.Free Jvm.Stand Jvm.LawKit Jvm.RoadKit Bundle Jvm.Free.Fl Jvm.Pilot.@@N@@.Jvm.D
def Inv (Z : State) (h : Heap) (n0 : Nat) (a : Addr) (n : Int32) (vs : List Value) : Prop := ∃ (aw ap av al am ao : Addr) (kaw kap kav kal kam kao : ClassId) (x0 x1 x2 x3 x4 : UInt64) (vaw vav val vam vao : List Value),
  n0 ≤ a ∧ a < aw ∧ aw < ap ∧ ap < av ∧ av < al ∧ al < am ∧ am < ao ∧ Exa Z h a "com/example/tidewise/tidewise/plan/HeldPlans" ∧ Fld Z h a "com/example/tidewise/tidewise/plan/HeldPlans" "size" "I" (.int n) ∧ Fld Z h a "com/example/tidewise/tidewise/plan/HeldPlans" "whole" "[D" (.ref aw) ∧ Fld Z h a "com/example/tidewise/tidewise/plan/HeldPlans" "part" "[D" (.ref ap) ∧ Fld Z h a "com/example/tidewise/tidewise/plan/HeldPlans" "value" "[D" (.ref av) ∧ Fld Z h a "com/example/tidewise/tidewise/plan/HeldPlans" "lost" "[D" (.ref al) ∧ Fld Z h a "com/example/tidewise/tidewise/plan/HeldPlans" "mask" "[J" (.ref am) ∧ Fld Z h a "com/example/tidewise/tidewise/plan/HeldPlans" "origin" "[I" (.ref ao) ∧ Fld Z h a "com/example/tidewise/tidewise/plan/HeldPlans" "leastLost" "D" (.double x0) ∧ Fld Z h a "com/example/tidewise/tidewise/plan/HeldPlans" "leastValue" "D" (.double x1) ∧ Fld Z h a "com/example/tidewise/tidewise/plan/HeldPlans" "mostValue" "D" (.double x2) ∧ Fld Z h a "com/example/tidewise/tidewise/plan/HeldPlans" "fewestWhole" "D" (.double x3) ∧ Fld Z h a "com/example/tidewise/tidewise/plan/HeldPlans" "mostWhole" "D" (.double x4) ∧ NoNaN64 x0 ∧ NoNaN64 x1 ∧ NoNaN64 x2 ∧ NoNaN64 x3 ∧ NoNaN64 x4 ∧ Arv Z h aw kaw .double (16 : Int32) vaw (.double (0 : UInt64)) ∧ Arv Z h ap kap .double (16 : Int32) vs (.double (0 : UInt64)) ∧ Arv Z h av kav .double (16 : Int32) vav (.double (0 : UInt64)) ∧ Arv Z h al kal .double (16 : Int32) val (.double (0 : UInt64)) ∧ Arv Z h am kam .long (16 : Int32) vam (.long (0 : Int64)) ∧ Arv Z h ao kao .int (16 : Int32) vao (.int (0 : Int32)) ∧ vaw.length = 16 ∧ vs.length = 16 ∧ vav.length = 16 ∧ val.length = 16 ∧ vam.length = 16 ∧ vao.length = 16
theorem pn_C : plainName "com/example/tidewise/tidewise/plan/HeldPlans" = true := by first | (simp [plainName, overriddenIn]; done) | decide +kernel
theorem pn_L : plainName "com/example/tidewise/tidewise/plan/HeldPlansFirstPassingPinLaw" = true := by first | (simp [plainName, overriddenIn]; done) | decide +kernel
theorem pf_D : parseFieldDescriptor "D" = some .double := by decide +kernel
theorem pf_AD : parseFieldDescriptor "[D" = some (.array .double) := by decide +kernel
theorem pf_AJ : parseFieldDescriptor "[J" = some (.array .long) := by decide +kernel
theorem pf_AI : parseFieldDescriptor "[I" = some (.array .int) := by decide +kernel
theorem pf_I : parseFieldDescriptor "I" = some .int := by decide +kernel
theorem pd_init : parseMethodDescriptor "(DD)V" = some ⟨[.double, .double], none⟩ := by decide +kernel
theorem pd_add : parseMethodDescriptor "(DDDDJI)V" = some ⟨[.double, .double, .double, .double, .long, .int], none⟩ := by decide +kernel
theorem pd_first : parseMethodDescriptor "(D)I" = some ⟨[.double], some .int⟩ := by decide +kernel
theorem pd_mm : parseMethodDescriptor "(DD)D" = some ⟨[.double, .double], some .double⟩ := by decide +kernel
theorem own_pick {f : Bool} {a b : UInt64} (ha : NoNaN64 a) (hb : NoNaN64 b) : NoNaN64 (Native.java_lang_Math.nans.pick64 f a b) := by
  unfold Native.java_lang_Math.nans.pick64
  split
  · split <;> assumption
  · split <;> assumption
  · split <;> assumption
theorem own_inv_size {Z : State} {h : Heap} {n0 : Nat} {a : Addr} {n : Int32} {vs : List Value} (I : Inv Z h n0 a n vs) : n0 ≤ h.size := by
  obtain ⟨aw, ap, av, al, am, ao, kaw, kap, kav, kal, kam, kao, x0, x1, x2, x3, x4, vaw, vav, val, vam, vao, ga, o1, o2, o3, o4, o5, o6, E_a, F_size, F_whole, F_part, F_value, F_lost, F_mask, F_origin, F_leastLost, F_leastValue, F_mostValue, F_fewestWhole, F_mostWhole, nx0, nx1, nx2, nx3, nx4, V_aw, V_ap, V_av, V_al, V_am, V_ao, l_aw, l_ap, l_av, l_al, l_am, l_ao⟩ := I
  exact Nat.le_trans ga (Nat.le_of_lt E_a.lt)
theorem di_0 : decode prog_237_method_1_code 0 = .ok (.aload_n 0, 1) := by decide +kernel
theorem di_1 : decode prog_237_method_1_code 1 = .ok (.invokespecial 1, 3) := by decide +kernel
theorem di_4 : decode prog_237_method_1_code 4 = .ok (.aload_n 0, 1) := by decide +kernel
theorem di_5 : decode prog_237_method_1_code 5 = .ok (.ldc2_w 9, 3) := by decide +kernel
theorem di_8 : decode prog_237_method_1_code 8 = .ok (.putfield 11, 3) := by decide +kernel
theorem di_11 : decode prog_237_method_1_code 11 = .ok (.aload_n 0, 1) := by decide +kernel
theorem di_12 : decode prog_237_method_1_code 12 = .ok (.ldc2_w 9, 3) := by decide +kernel
theorem di_15 : decode prog_237_method_1_code 15 = .ok (.putfield 17, 3) := by decide +kernel
theorem di_18 : decode prog_237_method_1_code 18 = .ok (.aload_n 0, 1) := by decide +kernel
theorem di_19 : decode prog_237_method_1_code 19 = .ok (.ldc2_w 20, 3) := by decide +kernel
theorem di_22 : decode prog_237_method_1_code 22 = .ok (.putfield 22, 3) := by decide +kernel
theorem di_25 : decode prog_237_method_1_code 25 = .ok (.aload_n 0, 1) := by decide +kernel
theorem di_26 : decode prog_237_method_1_code 26 = .ok (.ldc2_w 9, 3) := by decide +kernel
theorem di_29 : decode prog_237_method_1_code 29 = .ok (.putfield 25, 3) := by decide +kernel
theorem di_32 : decode prog_237_method_1_code 32 = .ok (.aload_n 0, 1) := by decide +kernel
theorem di_33 : decode prog_237_method_1_code 33 = .ok (.ldc2_w 20, 3) := by decide +kernel
theorem di_36 : decode prog_237_method_1_code 36 = .ok (.putfield 28, 3) := by decide +kernel
theorem di_39 : decode prog_237_method_1_code 39 = .ok (.aload_n 0, 1) := by decide +kernel
theorem di_40 : decode prog_237_method_1_code 40 = .ok (.bipush 16, 2) := by decide +kernel
theorem di_42 : decode prog_237_method_1_code 42 = .ok (.newarray .double, 2) := by decide +kernel
theorem di_44 : decode prog_237_method_1_code 44 = .ok (.putfield 31, 3) := by decide +kernel
theorem di_47 : decode prog_237_method_1_code 47 = .ok (.aload_n 0, 1) := by decide +kernel
theorem di_48 : decode prog_237_method_1_code 48 = .ok (.bipush 16, 2) := by decide +kernel
theorem di_50 : decode prog_237_method_1_code 50 = .ok (.newarray .double, 2) := by decide +kernel
theorem di_52 : decode prog_237_method_1_code 52 = .ok (.putfield 35, 3) := by decide +kernel
theorem di_55 : decode prog_237_method_1_code 55 = .ok (.aload_n 0, 1) := by decide +kernel
theorem di_56 : decode prog_237_method_1_code 56 = .ok (.bipush 16, 2) := by decide +kernel
theorem di_58 : decode prog_237_method_1_code 58 = .ok (.newarray .double, 2) := by decide +kernel
theorem di_60 : decode prog_237_method_1_code 60 = .ok (.putfield 38, 3) := by decide +kernel
theorem di_63 : decode prog_237_method_1_code 63 = .ok (.aload_n 0, 1) := by decide +kernel
theorem di_64 : decode prog_237_method_1_code 64 = .ok (.bipush 16, 2) := by decide +kernel
theorem di_66 : decode prog_237_method_1_code 66 = .ok (.newarray .double, 2) := by decide +kernel
theorem di_68 : decode prog_237_method_1_code 68 = .ok (.putfield 41, 3) := by decide +kernel
theorem di_71 : decode prog_237_method_1_code 71 = .ok (.aload_n 0, 1) := by decide +kernel
theorem di_72 : decode prog_237_method_1_code 72 = .ok (.bipush 16, 2) := by decide +kernel
theorem di_74 : decode prog_237_method_1_code 74 = .ok (.newarray .long, 2) := by decide +kernel
theorem di_76 : decode prog_237_method_1_code 76 = .ok (.putfield 44, 3) := by decide +kernel
theorem di_79 : decode prog_237_method_1_code 79 = .ok (.aload_n 0, 1) := by decide +kernel
theorem di_80 : decode prog_237_method_1_code 80 = .ok (.bipush 16, 2) := by decide +kernel
theorem di_82 : decode prog_237_method_1_code 82 = .ok (.newarray .int, 2) := by decide +kernel
theorem di_84 : decode prog_237_method_1_code 84 = .ok (.putfield 48, 3) := by decide +kernel
theorem di_87 : decode prog_237_method_1_code 87 = .ok (.aload_n 0, 1) := by decide +kernel
theorem di_88 : decode prog_237_method_1_code 88 = .ok (.dload_n 1, 1) := by decide +kernel
theorem di_89 : decode prog_237_method_1_code 89 = .ok (.putfield 52, 3) := by decide +kernel
theorem di_92 : decode prog_237_method_1_code 92 = .ok (.aload_n 0, 1) := by decide +kernel
theorem di_93 : decode prog_237_method_1_code 93 = .ok (.dload_n 3, 1) := by decide +kernel
theorem di_94 : decode prog_237_method_1_code 94 = .ok (.putfield 55, 3) := by decide +kernel
theorem di_97 : decode prog_237_method_1_code 97 = .ok (.return_, 1) := by decide +kernel
theorem ef_1 (m : MethodId) (a : Addr) (u d : UInt64) : entryFrame m #[(.ref a), (.double u), (.double d)] 5 = mkF m 0 #[.val (.ref a), .val (.double u), .second, .val (.double d), .second] [] := by first | (simp [entryFrame, mkF, argsToLocals, Value.category]; done) | rfl
def Q1 (Z : State) (a : Addr) (n0 : Nat) (v : Option Value) (h : Heap) (L : List Loc) : Prop := v = none ∧ Fr n0 L ∧ Inv Z h n0 a (0 : Int32) (List.replicate 16 (.double (0 : UInt64)))
set_option maxRecDepth 65536 in
set_option maxHeartbeats 40000000 in
theorem rm1 (l : Launch) (Z : State) (a0 : Array Value) (hw : ∀ d ∈ tables_1, d.before a0 Z = true) (ws : List Jvm.Cond) (a : Addr) (u d : UInt64) (h0 : Heap) (n0 : Nat) (Z0 : n0 ≤ h0.size) (F_leastLost : Fld Z h0 a "com/example/tidewise/tidewise/plan/HeldPlans" "leastLost" "D" (.double (0 : UInt64))) (F_leastValue : Fld Z h0 a "com/example/tidewise/tidewise/plan/HeldPlans" "leastValue" "D" (.double (0 : UInt64))) (F_mostValue : Fld Z h0 a "com/example/tidewise/tidewise/plan/HeldPlans" "mostValue" "D" (.double (0 : UInt64))) (F_fewestWhole : Fld Z h0 a "com/example/tidewise/tidewise/plan/HeldPlans" "fewestWhole" "D" (.double (0 : UInt64))) (F_mostWhole : Fld Z h0 a "com/example/tidewise/tidewise/plan/HeldPlans" "mostWhole" "D" (.double (0 : UInt64))) (F_whole : Fld Z h0 a "com/example/tidewise/tidewise/plan/HeldPlans" "whole" "[D" .null) (F_part : Fld Z h0 a "com/example/tidewise/tidewise/plan/HeldPlans" "part" "[D" .null) (F_value : Fld Z h0 a "com/example/tidewise/tidewise/plan/HeldPlans" "value" "[D" .null) (F_lost : Fld Z h0 a "com/example/tidewise/tidewise/plan/HeldPlans" "lost" "[D" .null) (F_mask : Fld Z h0 a "com/example/tidewise/tidewise/plan/HeldPlans" "mask" "[J" .null) (F_origin : Fld Z h0 a "com/example/tidewise/tidewise/plan/HeldPlans" "origin" "[I" .null) (F_upPerVm : Fld Z h0 a "com/example/tidewise/tidewise/plan/HeldPlans" "upPerVm" "D" (.double (0 : UInt64))) (F_downPerVm : Fld Z h0 a "com/example/tidewise/tidewise/plan/HeldPlans" "downPerVm" "D" (.double (0 : UInt64))) (F_size : Fld Z h0 a "com/example/tidewise/tidewise/plan/HeldPlans" "size" "I" (.int (0 : Int32))) (E_a : Exa Z h0 a "com/example/tidewise/tidewise/plan/HeldPlans") (ga : n0 ≤ a) :
    MetFree l (⟨"com/example/tidewise/tidewise/plan/HeldPlans", "<init>", "(DD)V"⟩ : MethodName) (head1 (Jvm.Cond.code (⟨"com/example/tidewise/tidewise/plan/HeldPlans", "<init>", "(DD)V"⟩ : MethodName) prog_237_method_1_code 5 none :: ws) ({ frames := 1, cells := 6, slots := 96, locals := 12 } : Room)) (fun aU U => aU = #[(.ref a), (.double u), (.double d)] ∧ Z.Warmed39 U.vm ∧ U.heap = h0) (fun _ _ _ _ _ => True) (fun _ U o U' => ∃ v L, o = .returned v ∧ Q1 Z a n0 v U'.heap L ∧ FrameEnd U o U' L ({ frames := 1, cells := 6, slots := 96, locals := 12 } : Room).cells ({ frames := 1, cells := 6, slots := 96, locals := 12 } : Room).slots) := by
  refine MetFree.of_bodySF (plainFor_of_name pn_C) hisR ?_
  intro p e s m args below meth c s₁ Bd hml0 hP hK
  obtain ⟨rfl, hZ, hh⟩ := hP
  have hx := Bd.exec
  have hby := Bd.bytes
  have hml : c.maxLocals = 5 := hml0
  have hown : s.vm.findClass "com/example/tidewise/tidewise/plan/HeldPlans" = some m.cls := findClass_of_methodNamed Bd.named
  have hnm := (name_of_methodNamed Bd.named Bd.method).1
  have X0 : Stand p l e ({ frames := 1, cells := 6, slots := 96, locals := 12 } : Room) s m #[(.ref a), (.double u), (.double d)] below meth c s₁ [] 0 0 := Stand.of_body Bd
  have e0 : s₁.heap = h0 := by rw [← hh, Bd.state]; rfl
  have N0 := Fr.nil n0
  have pre0 : ∀ t, Steps p.tables e below (s₁.setTop (mkF m 0 #[.val (.ref a), .val (.double u), .second, .val (.double d), .second] [])) t → Steps p.tables e below (s₁.setTop (entryFrame m #[(.ref a), (.double u), (.double d)] 5)) t := fun t k => castTop (ef_1 m a u d) k
  obtain ⟨T1, X1, e1, st1⟩ := initO X0 hx hZ hown (hw _ (List.mem_of_getElem? (i := 7) rfl)) (hw _ (List.mem_of_getElem? (i := 8) rfl)) (hw _ (List.mem_of_getElem? (i := 9) rfl)) e0 (g := (mkF m 1 #[.val (.ref a), .val (.double u), .second, .val (.double d), .second] [(.ref a)])) rfl (by rw [hml]; rfl) rfl (hb hby di_1) (by decide) (W := 0) (by show 2 * 0 + _ ≤ _; exact Nat.le_of_eq rfl) (by decide)
  obtain ⟨T2, h2, X2, e2, W2, st2⟩ := putF X1 hx hZ hown (host := "") (Or.inl (hw _ (List.mem_of_getElem? (i := 11) rfl))) Via.refl e1 F_leastLost E_a (Or.inl (hw _ (List.mem_of_getElem? (i := 12) rfl))) (hw _ (List.mem_of_getElem? (i := 2) rfl)) (ty := .double) (by decide) rfl rfl (g := (mkF m 8 #[.val (.ref a), .val (.double u), .second, .val (.double d), .second] [(.double (9218868437227405312 : UInt64)), (.ref a)])) rfl rfl (hb hby di_8)
  have f2w := F_leastLost.same W2
  have N2 := Fr.snoc X2 N0 ga
  have f4 := F_leastValue.other W2 (Or.inr (slot_ne (Or.inl (hw _ (List.mem_of_getElem? (i := 14) rfl)) : Laid Z a0 "com/example/tidewise/tidewise/plan/HeldPlans" "com/example/tidewise/tidewise/plan/HeldPlans" "leastValue" "D") (Or.inl (hw _ (List.mem_of_getElem? (i := 12) rfl)) : Laid Z a0 "com/example/tidewise/tidewise/plan/HeldPlans" "com/example/tidewise/tidewise/plan/HeldPlans" "leastLost" "D") (by decide) pf_D pf_D))
  have f5 := E_a.wr W2
  obtain ⟨T3, h3, X3, e3, W3, st3⟩ := putF X2 hx hZ hown (host := "") (Or.inl (hw _ (List.mem_of_getElem? (i := 13) rfl))) Via.refl e2 f4 f5 (Or.inl (hw _ (List.mem_of_getElem? (i := 14) rfl))) (hw _ (List.mem_of_getElem? (i := 2) rfl)) (ty := .double) (by decide) rfl rfl (g := (mkF m 15 #[.val (.ref a), .val (.double u), .second, .val (.double d), .second] [(.double (9218868437227405312 : UInt64)), (.ref a)])) rfl rfl (hb hby di_15)
  have f3w := f4.same W3
  have N3 := Fr.snoc X3 N2 ga
  have f7 := F_mostValue.other W2 (Or.inr (slot_ne (Or.inl (hw _ (List.mem_of_getElem? (i := 17) rfl)) : Laid Z a0 "com/example/tidewise/tidewise/plan/HeldPlans" "com/example/tidewise/tidewise/plan/HeldPlans" "mostValue" "D") (Or.inl (hw _ (List.mem_of_getElem? (i := 12) rfl)) : Laid Z a0 "com/example/tidewise/tidewise/plan/HeldPlans" "com/example/tidewise/tidewise/plan/HeldPlans" "leastLost" "D") (by decide) pf_D pf_D))
  have f8 := f7.other W3 (Or.inr (slot_ne (Or.inl (hw _ (List.mem_of_getElem? (i := 17) rfl)) : Laid Z a0 "com/example/tidewise/tidewise/plan/HeldPlans" "com/example/tidewise/tidewise/plan/HeldPlans" "mostValue" "D") (Or.inl (hw _ (List.mem_of_getElem? (i := 14) rfl)) : Laid Z a0 "com/example/tidewise/tidewise/plan/HeldPlans" "com/example/tidewise/tidewise/plan/HeldPlans" "leastValue" "D") (by decide) pf_D pf_D))
  have f9 := f5.wr W3
  obtain ⟨T6, h6, X6, e6, W6, st6⟩ := putF X3 hx hZ hown (host := "") (Or.inl (hw _ (List.mem_of_getElem? (i := 16) rfl))) Via.refl e3 f8 f9 (Or.inl (hw _ (List.mem_of_getElem? (i := 17) rfl))) (hw _ (List.mem_of_getElem? (i := 2) rfl)) (ty := .double) (by decide) rfl rfl (g := (mkF m 22 #[.val (.ref a), .val (.double u), .second, .val (.double d), .second] [(.double (18442240474082181120 : UInt64)), (.ref a)])) rfl rfl (hb hby di_22)
  have f6w := f8.same W6
  have N6 := Fr.snoc X6 N3 ga
  have f11 := F_fewestWhole.other W2 (Or.inr (slot_ne (Or.inl (hw _ (List.mem_of_getElem? (i := 19) rfl)) : Laid Z a0 "com/example/tidewise/tidewise/plan/HeldPlans" "com/example/tidewise/tidewise/plan/HeldPlans" "fewestWhole" "D") (Or.inl (hw _ (List.mem_of_getElem? (i := 12) rfl)) : Laid Z a0 "com/example/tidewise/tidewise/plan/HeldPlans" "com/example/tidewise/tidewise/plan/HeldPlans" "leastLost" "D") (by decide) pf_D pf_D))
  have f12 := f11.other W3 (Or.inr (slot_ne (Or.inl (hw _ (List.mem_of_getElem? (i := 19) rfl)) : Laid Z a0 "com/example/tidewise/tidewise/plan/HeldPlans" "com/example/tidewise/tidewise/plan/HeldPlans" "fewestWhole" "D") (Or.inl (hw _ (List.mem_of_getElem? (i := 14) rfl)) : Laid Z a0 "com/example/tidewise/tidewise/plan/HeldPlans" "com/example/tidewise/tidewise/plan/HeldPlans" "leastValue" "D") (by decide) pf_D pf_D))
  have f13 := f12.other W6 (Or.inr (slot_ne (Or.inl (hw _ (List.mem_of_getElem? (i := 19) rfl)) : Laid Z a0 "com/example/tidewise/tidewise/plan/HeldPlans" "com/example/tidewise/tidewise/plan/HeldPlans" "fewestWhole" "D") (Or.inl (hw _ (List.mem_of_getElem? (i := 17) rfl)) : Laid Z a0 "com/example/tidewise/tidewise/plan/HeldPlans" "com/example/tidewise/tidewise/plan/HeldPlans" "mostValue" "D") (by decide) pf_D pf_D))
  have f14 := f9.wr W6
  obtain ⟨T10, h10, X10, e10, W10, st10⟩ := putF X6 hx hZ hown (host := "") (Or.inl (hw _ (List.mem_of_getElem? (i := 18) rfl))) Via.refl e6 f13 f14 (Or.inl (hw _ (List.mem_of_getElem? (i := 19) rfl))) (hw _ (List.mem_of_getElem? (i := 2) rfl)) (ty := .double) (by decide) rfl rfl (g := (mkF m 29 #[.val (.ref a), .val (.double u), .second, .val (.double d), .second] [(.double (9218868437227405312 : UInt64)), (.ref a)])) rfl rfl (hb hby di_29)
  have f10w := f13.same W10
  have N10 := Fr.snoc X10 N6 ga
  have f16 := F_mostWhole.other W2 (Or.inr (slot_ne (Or.inl (hw _ (List.mem_of_getElem? (i := 21) rfl)) : Laid Z a0 "com/example/tidewise/tidewise/plan/HeldPlans" "com/example/tidewise/tidewise/plan/HeldPlans" "mostWhole" "D") (Or.inl (hw _ (List.mem_of_getElem? (i := 12) rfl)) : Laid Z a0 "com/example/tidewise/tidewise/plan/HeldPlans" "com/example/tidewise/tidewise/plan/HeldPlans" "leastLost" "D") (by decide) pf_D pf_D))
  have f17 := f16.other W3 (Or.inr (slot_ne (Or.inl (hw _ (List.mem_of_getElem? (i := 21) rfl)) : Laid Z a0 "com/example/tidewise/tidewise/plan/HeldPlans" "com/example/tidewise/tidewise/plan/HeldPlans" "mostWhole" "D") (Or.inl (hw _ (List.mem_of_getElem? (i := 14) rfl)) : Laid Z a0 "com/example/tidewise/tidewise/plan/HeldPlans" "com/example/tidewise/tidewise/plan/HeldPlans" "leastValue" "D") (by decide) pf_D pf_D))
  have f18 := f17.other W6 (Or.inr (slot_ne (Or.inl (hw _ (List.mem_of_getElem? (i := 21) rfl)) : Laid Z a0 "com/example/tidewise/tidewise/plan/HeldPlans" "com/example/tidewise/tidewise/plan/HeldPlans" "mostWhole" "D") (Or.inl (hw _ (List.mem_of_getElem? (i := 17) rfl)) : Laid Z a0 "com/example/tidewise/tidewise/plan/HeldPlans" "com/example/tidewise/tidewise/plan/HeldPlans" "mostValue" "D") (by decide) pf_D pf_D))
  have f19 := f18.other W10 (Or.inr (slot_ne (Or.inl (hw _ (List.mem_of_getElem? (i := 21) rfl)) : Laid Z a0 "com/example/tidewise/tidewise/plan/HeldPlans" "com/example/tidewise/tidewise/plan/HeldPlans" "mostWhole" "D") (Or.inl (hw _ (List.mem_of_getElem? (i := 19) rfl)) : Laid Z a0 "com/example/tidewise/tidewise/plan/HeldPlans" "com/example/tidewise/tidewise/plan/HeldPlans" "fewestWhole" "D") (by decide) pf_D pf_D))
  have f20 := f14.wr W10
  obtain ⟨T15, h15, X15, e15, W15, st15⟩ := putF X10 hx hZ hown (host := "") (Or.inl (hw _ (List.mem_of_getElem? (i := 20) rfl))) Via.refl e10 f19 f20 (Or.inl (hw _ (List.mem_of_getElem? (i := 21) rfl))) (hw _ (List.mem_of_getElem? (i := 2) rfl)) (ty := .double) (by decide) rfl rfl (g := (mkF m 36 #[.val (.ref a), .val (.double u), .second, .val (.double d), .second] [(.double (18442240474082181120 : UInt64)), (.ref a)])) rfl rfl (hb hby di_36)
  have f15w := f19.same W15
  have N15 := Fr.snoc X15 N10 ga
  have f22 := f20.wr W15
  obtain ⟨T21, h21, k_aw, X21, e21, E21, A21, st21⟩ := newP X15 hx hZ (hw _ (List.mem_of_getElem? (i := 22) rfl)) e15 (g := (mkF m 42 #[.val (.ref a), .val (.double u), .second, .val (.double d), .second] [(.int (16 : Int32)), (.ref a)])) rfl (hb hby di_42) rfl (by decide) (cap := 16) (by decide) (by decide) (by decide) (by decide)
  obtain ⟨aw, g21⟩ : ∃ z, z = h15.size := ⟨_, rfl⟩
  rw [← g21] at A21 st21
  have o_aw : a < aw := Nat.lt_of_lt_of_le f22.lt (Nat.le_of_eq g21.symm)
  have V21 : Arv Z h21 aw k_aw .double (16 : Int32) (List.replicate 16 (.double (0 : UInt64))) (.double (0 : UInt64)) := (Arv.new A21 (by decide)).pad (pad_rep [] (.double (0 : UInt64)) 16)
  have lt_a_aw : a < aw := o_aw
  have f24 := F_whole.other W2 (Or.inr (slot_ne (Or.inl (hw _ (List.mem_of_getElem? (i := 24) rfl)) : Laid Z a0 "com/example/tidewise/tidewise/plan/HeldPlans" "com/example/tidewise/tidewise/plan/HeldPlans" "whole" "[D") (Or.inl (hw _ (List.mem_of_getElem? (i := 12) rfl)) : Laid Z a0 "com/example/tidewise/tidewise/plan/HeldPlans" "com/example/tidewise/tidewise/plan/HeldPlans" "leastLost" "D") (by decide) pf_AD pf_D))
  have f25 := f24.other W3 (Or.inr (slot_ne (Or.inl (hw _ (List.mem_of_getElem? (i := 24) rfl)) : Laid Z a0 "com/example/tidewise/tidewise/plan/HeldPlans" "com/example/tidewise/tidewise/plan/HeldPlans" "whole" "[D") (Or.inl (hw _ (List.mem_of_getElem? (i := 14) rfl)) : Laid Z a0 "com/example/tidewise/tidewise/plan/HeldPlans" "com/example/tidewise/tidewise/plan/HeldPlans" "leastValue" "D") (by decide) pf_AD pf_D))
  have f26 := f25.other W6 (Or.inr (slot_ne (Or.inl (hw _ (List.mem_of_getElem? (i := 24) rfl)) : Laid Z a0 "com/example/tidewise/tidewise/plan/HeldPlans" "com/example/tidewise/tidewise/plan/HeldPlans" "whole" "[D") (Or.inl (hw _ (List.mem_of_getElem? (i := 17) rfl)) : Laid Z a0 "com/example/tidewise/tidewise/plan/HeldPlans" "com/example/tidewise/tidewise/plan/HeldPlans" "mostValue" "D") (by decide) pf_AD pf_D))
  have f27 := f26.other W10 (Or.inr (slot_ne (Or.inl (hw _ (List.mem_of_getElem? (i := 24) rfl)) : Laid Z a0 "com/example/tidewise/tidewise/plan/HeldPlans" "com/example/tidewise/tidewise/plan/HeldPlans" "whole" "[D") (Or.inl (hw _ (List.mem_of_getElem? (i := 19) rfl)) : Laid Z a0 "com/example/tidewise/tidewise/plan/HeldPlans" "com/example/tidewise/tidewise/plan/HeldPlans" "fewestWhole" "D") (by decide) pf_AD pf_D))
  have f28 := f27.other W15 (Or.inr (slot_ne (Or.inl (hw _ (List.mem_of_getElem? (i := 24) rfl)) : Laid Z a0 "com/example/tidewise/tidewise/plan/HeldPlans" "com/example/tidewise/tidewise/plan/HeldPlans" "whole" "[D") (Or.inl (hw _ (List.mem_of_getElem? (i := 21) rfl)) : Laid Z a0 "com/example/tidewise/tidewise/plan/HeldPlans" "com/example/tidewise/tidewise/plan/HeldPlans" "mostWhole" "D") (by decide) pf_AD pf_D))
  have f29 := f28.ext E21
  have f30 := f22.ext E21
  obtain ⟨T23, h23, X23, e23, W23, st23⟩ := putF X21 hx hZ hown (host := "") (Or.inl (hw _ (List.mem_of_getElem? (i := 23) rfl))) Via.refl e21 f29 f30 (Or.inl (hw _ (List.mem_of_getElem? (i := 24) rfl))) (hw _ (List.mem_of_getElem? (i := 2) rfl)) (ty := (.array .double)) (by decide) rfl rfl (g := (mkF m 44 #[.val (.ref a), .val (.double u), .second, .val (.double d), .second] [(.ref aw), (.ref a)])) rfl rfl (hb hby di_44)
  have f23w := f29.same W23
  have N23 := Fr.snoc X23 N15 ga
  have f32 := V21.other W23 (Nat.ne_of_gt lt_a_aw)
  obtain ⟨T31, h31, k_ap, X31, e31, E31, A31, st31⟩ := newP X23 hx hZ (hw _ (List.mem_of_getElem? (i := 22) rfl)) e23 (g := (mkF m 50 #[.val (.ref a), .val (.double u), .second, .val (.double d), .second] [(.int (16 : Int32)), (.ref a)])) rfl (hb hby di_50) rfl (by decide) (cap := 16) (by decide) (by decide) (by decide) (by decide)
  obtain ⟨ap, g31⟩ : ∃ z, z = h23.size := ⟨_, rfl⟩
  rw [← g31] at A31 st31
  have o_ap : aw < ap := Nat.lt_of_lt_of_le f32.lt (Nat.le_of_eq g31.symm)
  have V31 : Arv Z h31 ap k_ap .double (16 : Int32) (List.replicate 16 (.double (0 : UInt64))) (.double (0 : UInt64)) := (Arv.new A31 (by decide)).pad (pad_rep [] (.double (0 : UInt64)) 16)
  have lt_a_ap : a < ap := (Nat.lt_trans lt_a_aw o_ap)
  have lt_aw_ap : aw < ap := o_ap
  have f34 := F_part.other W2 (Or.inr (slot_ne (Or.inl (hw _ (List.mem_of_getElem? (i := 26) rfl)) : Laid Z a0 "com/example/tidewise/tidewise/plan/HeldPlans" "com/example/tidewise/tidewise/plan/HeldPlans" "part" "[D") (Or.inl (hw _ (List.mem_of_getElem? (i := 12) rfl)) : Laid Z a0 "com/example/tidewise/tidewise/plan/HeldPlans" "com/example/tidewise/tidewise/plan/HeldPlans" "leastLost" "D") (by decide) pf_AD pf_D))
  have f35 := f34.other W3 (Or.inr (slot_ne (Or.inl (hw _ (List.mem_of_getElem? (i := 26) rfl)) : Laid Z a0 "com/example/tidewise/tidewise/plan/HeldPlans" "com/example/tidewise/tidewise/plan/HeldPlans" "part" "[D") (Or.inl (hw _ (List.mem_of_getElem? (i := 14) rfl)) : Laid Z a0 "com/example/tidewise/tidewise/plan/HeldPlans" "com/example/tidewise/tidewise/plan/HeldPlans" "leastValue" "D") (by decide) pf_AD pf_D))
  have f36 := f35.other W6 (Or.inr (slot_ne (Or.inl (hw _ (List.mem_of_getElem? (i := 26) rfl)) : Laid Z a0 "com/example/tidewise/tidewise/plan/HeldPlans" "com/example/tidewise/tidewise/plan/HeldPlans" "part" "[D") (Or.inl (hw _ (List.mem_of_getElem? (i := 17) rfl)) : Laid Z a0 "com/example/tidewise/tidewise/plan/HeldPlans" "com/example/tidewise/tidewise/plan/HeldPlans" "mostValue" "D") (by decide) pf_AD pf_D))
  have f37 := f36.other W10 (Or.inr (slot_ne (Or.inl (hw _ (List.mem_of_getElem? (i := 26) rfl)) : Laid Z a0 "com/example/tidewise/tidewise/plan/HeldPlans" "com/example/tidewise/tidewise/plan/HeldPlans" "part" "[D") (Or.inl (hw _ (List.mem_of_getElem? (i := 19) rfl)) : Laid Z a0 "com/example/tidewise/tidewise/plan/HeldPlans" "com/example/tidewise/tidewise/plan/HeldPlans" "fewestWhole" "D") (by decide) pf_AD pf_D))
  have f38 := f37.other W15 (Or.inr (slot_ne (Or.inl (hw _ (List.mem_of_getElem? (i := 26) rfl)) : Laid Z a0 "com/example/tidewise/tidewise/plan/HeldPlans" "com/example/tidewise/tidewise/plan/HeldPlans" "part" "[D") (Or.inl (hw _ (List.mem_of_getElem? (i := 21) rfl)) : Laid Z a0 "com/example/tidewise/tidewise/plan/HeldPlans" "com/example/tidewise/tidewise/plan/HeldPlans" "mostWhole" "D") (by decide) pf_AD pf_D))
  have f39 := f38.ext E21
  have f40 := f39.other W23 (Or.inr (slot_ne (Or.inl (hw _ (List.mem_of_getElem? (i := 26) rfl)) : Laid Z a0 "com/example/tidewise/tidewise/plan/HeldPlans" "com/example/tidewise/tidewise/plan/HeldPlans" "part" "[D") (Or.inl (hw _ (List.mem_of_getElem? (i := 24) rfl)) : Laid Z a0 "com/example/tidewise/tidewise/plan/HeldPlans" "com/example/tidewise/tidewise/plan/HeldPlans" "whole" "[D") (by decide) pf_AD pf_AD))
  have f41 := f40.ext E31
  have f42 := f30.wr W23
  have f43 := f42.ext E31
  obtain ⟨T33, h33, X33, e33, W33, st33⟩ := putF X31 hx hZ hown (host := "") (Or.inl (hw _ (List.mem_of_getElem? (i := 25) rfl))) Via.refl e31 f41 f43 (Or.inl (hw _ (List.mem_of_getElem? (i := 26) rfl))) (hw _ (List.mem_of_getElem? (i := 2) rfl)) (ty := (.array .double)) (by decide) rfl rfl (g := (mkF m 52 #[.val (.ref a), .val (.double u), .second, .val (.double d), .second] [(.ref ap), (.ref a)])) rfl rfl (hb hby di_52)
  have f33w := f41.same W33
  have N33 := Fr.snoc X33 N23 ga
  have f45 := V31.other W33 (Nat.ne_of_gt lt_a_ap)
  obtain ⟨T44, h44, k_av, X44, e44, E44, A44, st44⟩ := newP X33 hx hZ (hw _ (List.mem_of_getElem? (i := 22) rfl)) e33 (g := (mkF m 58 #[.val (.ref a), .val (.double u), .second, .val (.double d), .second] [(.int (16 : Int32)), (.ref a)])) rfl (hb hby di_58) rfl (by decide) (cap := 16) (by decide) (by decide) (by decide) (by decide)
  obtain ⟨av, g44⟩ : ∃ z, z = h33.size := ⟨_, rfl⟩
  rw [← g44] at A44 st44
  have o_av : ap < av := Nat.lt_of_lt_of_le f45.lt (Nat.le_of_eq g44.symm)
  have V44 : Arv Z h44 av k_av .double (16 : Int32) (List.replicate 16 (.double (0 : UInt64))) (.double (0 : UInt64)) := (Arv.new A44 (by decide)).pad (pad_rep [] (.double (0 : UInt64)) 16)
  have lt_a_av : a < av := (Nat.lt_trans lt_a_ap o_av)
  have lt_aw_av : aw < av := (Nat.lt_trans lt_aw_ap o_av)
  have lt_ap_av : ap < av := o_av
  have f47 := F_value.other W2 (Or.inr (slot_ne (Or.inl (hw _ (List.mem_of_getElem? (i := 28) rfl)) : Laid Z a0 "com/example/tidewise/tidewise/plan/HeldPlans" "com/example/tidewise/tidewise/plan/HeldPlans" "value" "[D") (Or.inl (hw _ (List.mem_of_getElem? (i := 12) rfl)) : Laid Z a0 "com/example/tidewise/tidewise/plan/HeldPlans" "com/example/tidewise/tidewise/plan/HeldPlans" "leastLost" "D") (by decide) pf_AD pf_D))
  have f48 := f47.other W3 (Or.inr (slot_ne (Or.inl (hw _ (List.mem_of_getElem? (i := 28) rfl)) : Laid Z a0 "com/example/tidewise/tidewise/plan/HeldPlans" "com/example/tidewise/tidewise/plan/HeldPlans" "value" "[D") (Or.inl (hw _ (List.mem_of_getElem? (i := 14) rfl)) : Laid Z a0 "com/example/tidewise/tidewise/plan/HeldPlans" "com/example/tidewise/tidewise/plan/HeldPlans" "leastValue" "D") (by decide) pf_AD pf_D))
  have f49 := f48.other W6 (Or.inr (slot_ne (Or.inl (hw _ (List.mem_of_getElem? (i := 28) rfl)) : Laid Z a0 "com/example/tidewise/tidewise/plan/HeldPlans" "com/example/tidewise/tidewise/plan/HeldPlans" "value" "[D") (Or.inl (hw _ (List.mem_of_getElem? (i := 17) rfl)) : Laid Z a0 "com/example/tidewise/tidewise/plan/HeldPlans" "com/example/tidewise/tidewise/plan/HeldPlans" "mostValue" "D") (by decide) pf_AD pf_D))
  have f50 := f49.other W10 (Or.inr (slot_ne (Or.inl (hw _ (List.mem_of_getElem? (i := 28) rfl)) : Laid Z a0 "com/example/tidewise/tidewise/plan/HeldPlans" "com/example/tidewise/tidewise/plan/HeldPlans" "value" "[D") (Or.inl (hw _ (List.mem_of_getElem? (i := 19) rfl)) : Laid Z a0 "com/example/tidewise/tidewise/plan/HeldPlans" "com/example/tidewise/tidewise/plan/HeldPlans" "fewestWhole" "D") (by decide) pf_AD pf_D))
  have f51 := f50.other W15 (Or.inr (slot_ne (Or.inl (hw _ (List.mem_of_getElem? (i := 28) rfl)) : Laid Z a0 "com/example/tidewise/tidewise/plan/HeldPlans" "com/example/tidewise/tidewise/plan/HeldPlans" "value" "[D") (Or.inl (hw _ (List.mem_of_getElem? (i := 21) rfl)) : Laid Z a0 "com/example/tidewise/tidewise/plan/HeldPlans" "com/example/tidewise/tidewise/plan/HeldPlans" "mostWhole" "D") (by decide) pf_AD pf_D))
  have f52 := f51.ext E21
  have f53 := f52.other W23 (Or.inr (slot_ne (Or.inl (hw _ (List.mem_of_getElem? (i := 28) rfl)) : Laid Z a0 "com/example/tidewise/tidewise/plan/HeldPlans" "com/example/tidewise/tidewise/plan/HeldPlans" "value" "[D") (Or.inl (hw _ (List.mem_of_getElem? (i := 24) rfl)) : Laid Z a0 "com/example/tidewise/tidewise/plan/HeldPlans" "com/example/tidewise/tidewise/plan/HeldPlans" "whole" "[D") (by decide) pf_AD pf_AD))
  have f54 := f53.ext E31
  have f55 := f54.other W33 (Or.inr (slot_ne (Or.inl (hw _ (List.mem_of_getElem? (i := 28) rfl)) : Laid Z a0 "com/example/tidewise/tidewise/plan/HeldPlans" "com/example/tidewise/tidewise/plan/HeldPlans" "value" "[D") (Or.inl (hw _ (List.mem_of_getElem? (i := 26) rfl)) : Laid Z a0 "com/example/tidewise/tidewise/plan/HeldPlans" "com/example/tidewise/tidewise/plan/HeldPlans" "part" "[D") (by decide) pf_AD pf_AD))
  have f56 := f55.ext E44
  have f57 := f43.wr W33
  have f58 := f57.ext E44
  obtain ⟨T46, h46, X46, e46, W46, st46⟩ := putF X44 hx hZ hown (host := "") (Or.inl (hw _ (List.mem_of_getElem? (i := 27) rfl))) Via.refl e44 f56 f58 (Or.inl (hw _ (List.mem_of_getElem? (i := 28) rfl))) (hw _ (List.mem_of_getElem? (i := 2) rfl)) (ty := (.array .double)) (by decide) rfl rfl (g := (mkF m 60 #[.val (.ref a), .val (.double u), .second, .val (.double d), .second] [(.ref av), (.ref a)])) rfl rfl (hb hby di_60)
  have f46w := f56.same W46
  have N46 := Fr.snoc X46 N33 ga
  have f60 := V44.other W46 (Nat.ne_of_gt lt_a_av)
  obtain ⟨T59, h59, k_al, X59, e59, E59, A59, st59⟩ := newP X46 hx hZ (hw _ (List.mem_of_getElem? (i := 22) rfl)) e46 (g := (mkF m 66 #[.val (.ref a), .val (.double u), .second, .val (.double d), .second] [(.int (16 : Int32)), (.ref a)])) rfl (hb hby di_66) rfl (by decide) (cap := 16) (by decide) (by decide) (by decide) (by decide)
  obtain ⟨al, g59⟩ : ∃ z, z = h46.size := ⟨_, rfl⟩
  rw [← g59] at A59 st59
  have o_al : av < al := Nat.lt_of_lt_of_le f60.lt (Nat.le_of_eq g59.symm)
  have V59 : Arv Z h59 al k_al .double (16 : Int32) (List.replicate 16 (.double (0 : UInt64))) (.double (0 : UInt64)) := (Arv.new A59 (by decide)).pad (pad_rep [] (.double (0 : UInt64)) 16)
  have lt_a_al : a < al := (Nat.lt_trans lt_a_av o_al)
  have lt_aw_al : aw < al := (Nat.lt_trans lt_aw_av o_al)
  have lt_ap_al : ap < al := (Nat.lt_trans lt_ap_av o_al)
  have lt_av_al : av < al := o_al
  have f62 := F_lost.other W2 (Or.inr (slot_ne (Or.inl (hw _ (List.mem_of_getElem? (i := 30) rfl)) : Laid Z a0 "com/example/tidewise/tidewise/plan/HeldPlans" "com/example/tidewise/tidewise/plan/HeldPlans" "lost" "[D") (Or.inl (hw _ (List.mem_of_getElem? (i := 12) rfl)) : Laid Z a0 "com/example/tidewise/tidewise/plan/HeldPlans" "com/example/tidewise/tidewise/plan/HeldPlans" "leastLost" "D") (by decide) pf_AD pf_D))
  have f63 := f62.other W3 (Or.inr (slot_ne (Or.inl (hw _ (List.mem_of_getElem? (i := 30) rfl)) : Laid Z a0 "com/example/tidewise/tidewise/plan/HeldPlans" "com/example/tidewise/tidewise/plan/HeldPlans" "lost" "[D") (Or.inl (hw _ (List.mem_of_getElem? (i := 14) rfl)) : Laid Z a0 "com/example/tidewise/tidewise/plan/HeldPlans" "com/example/tidewise/tidewise/plan/HeldPlans" "leastValue" "D") (by decide) pf_AD pf_D))
  have f64 := f63.other W6 (Or.inr (slot_ne (Or.inl (hw _ (List.mem_of_getElem? (i := 30) rfl)) : Laid Z a0 "com/example/tidewise/tidewise/plan/HeldPlans" "com/example/tidewise/tidewise/plan/HeldPlans" "lost" "[D") (Or.inl (hw _ (List.mem_of_getElem? (i := 17) rfl)) : Laid Z a0 "com/example/tidewise/tidewise/plan/HeldPlans" "com/example/tidewise/tidewise/plan/HeldPlans" "mostValue" "D") (by decide) pf_AD pf_D))
  have f65 := f64.other W10 (Or.inr (slot_ne (Or.inl (hw _ (List.mem_of_getElem? (i := 30) rfl)) : Laid Z a0 "com/example/tidewise/tidewise/plan/HeldPlans" "com/example/tidewise/tidewise/plan/HeldPlans" "lost" "[D") (Or.inl (hw _ (List.mem_of_getElem? (i := 19) rfl)) : Laid Z a0 "com/example/tidewise/tidewise/plan/HeldPlans" "com/example/tidewise/tidewise/plan/HeldPlans" "fewestWhole" "D") (by decide) pf_AD pf_D))
  have f66 := f65.other W15 (Or.inr (slot_ne (Or.inl (hw _ (List.mem_of_getElem? (i := 30) rfl)) : Laid Z a0 "com/example/tidewise/tidewise/plan/HeldPlans" "com/example/tidewise/tidewise/plan/HeldPlans" "lost" "[D") (Or.inl (hw _ (List.mem_of_getElem? (i := 21) rfl)) : Laid Z a0 "com/example/tidewise/tidewise/plan/HeldPlans" "com/example/tidewise/tidewise/plan/HeldPlans" "mostWhole" "D") (by decide) pf_AD pf_D))
  have f67 := f66.ext E21
  have f68 := f67.other W23 (Or.inr (slot_ne (Or.inl (hw _ (List.mem_of_getElem? (i := 30) rfl)) : Laid Z a0 "com/example/tidewise/tidewise/plan/HeldPlans" "com/example/tidewise/tidewise/plan/HeldPlans" "lost" "[D") (Or.inl (hw _ (List.mem_of_getElem? (i := 24) rfl)) : Laid Z a0 "com/example/tidewise/tidewise/plan/HeldPlans" "com/example/tidewise/tidewise/plan/HeldPlans" "whole" "[D") (by decide) pf_AD pf_AD))
  have f69 := f68.ext E31
  have f70 := f69.other W33 (Or.inr (slot_ne (Or.inl (hw _ (List.mem_of_getElem? (i := 30) rfl)) : Laid Z a0 "com/example/tidewise/tidewise/plan/HeldPlans" "com/example/tidewise/tidewise/plan/HeldPlans" "lost" "[D") (Or.inl (hw _ (List.mem_of_getElem? (i := 26) rfl)) : Laid Z a0 "com/example/tidewise/tidewise/plan/HeldPlans" "com/example/tidewise/tidewise/plan/HeldPlans" "part" "[D") (by decide) pf_AD pf_AD))
  have f71 := f70.ext E44
  have f72 := f71.other W46 (Or.inr (slot_ne (Or.inl (hw _ (List.mem_of_getElem? (i := 30) rfl)) : Laid Z a0 "com/example/tidewise/tidewise/plan/HeldPlans" "com/example/tidewise/tidewise/plan/HeldPlans" "lost" "[D") (Or.inl (hw _ (List.mem_of_getElem? (i := 28) rfl)) : Laid Z a0 "com/example/tidewise/tidewise/plan/HeldPlans" "com/example/tidewise/tidewise/plan/HeldPlans" "value" "[D") (by decide) pf_AD pf_AD))
  have f73 := f72.ext E59
  have f74 := f58.wr W46
  have f75 := f74.ext E59
  obtain ⟨T61, h61, X61, e61, W61, st61⟩ := putF X59 hx hZ hown (host := "") (Or.inl (hw _ (List.mem_of_getElem? (i := 29) rfl))) Via.refl e59 f73 f75 (Or.inl (hw _ (List.mem_of_getElem? (i := 30) rfl))) (hw _ (List.mem_of_getElem? (i := 2) rfl)) (ty := (.array .double)) (by decide) rfl rfl (g := (mkF m 68 #[.val (.ref a), .val (.double u), .second, .val (.double d), .second] [(.ref al), (.ref a)])) rfl rfl (hb hby di_68)
  have f61w := f73.same W61
  have N61 := Fr.snoc X61 N46 ga
  have f77 := V59.other W61 (Nat.ne_of_gt lt_a_al)
  obtain ⟨T76, h76, k_am, X76, e76, E76, A76, st76⟩ := newP X61 hx hZ (hw _ (List.mem_of_getElem? (i := 31) rfl)) e61 (g := (mkF m 74 #[.val (.ref a), .val (.double u), .second, .val (.double d), .second] [(.int (16 : Int32)), (.ref a)])) rfl (hb hby di_74) rfl (by decide) (cap := 16) (by decide) (by decide) (by decide) (by decide)
  obtain ⟨am, g76⟩ : ∃ z, z = h61.size := ⟨_, rfl⟩
  rw [← g76] at A76 st76
  have o_am : al < am := Nat.lt_of_lt_of_le f77.lt (Nat.le_of_eq g76.symm)
  have V76 : Arv Z h76 am k_am .long (16 : Int32) (List.replicate 16 (.long (0 : Int64))) (.long (0 : Int64)) := (Arv.new A76 (by decide)).pad (pad_rep [] (.long (0 : Int64)) 16)
  have lt_a_am : a < am := (Nat.lt_trans lt_a_al o_am)
  have lt_aw_am : aw < am := (Nat.lt_trans lt_aw_al o_am)
  have lt_ap_am : ap < am := (Nat.lt_trans lt_ap_al o_am)
  have lt_av_am : av < am := (Nat.lt_trans lt_av_al o_am)
  have lt_al_am : al < am := o_am
  have f79 := F_mask.other W2 (Or.inr (slot_ne (Or.inl (hw _ (List.mem_of_getElem? (i := 33) rfl)) : Laid Z a0 "com/example/tidewise/tidewise/plan/HeldPlans" "com/example/tidewise/tidewise/plan/HeldPlans" "mask" "[J") (Or.inl (hw _ (List.mem_of_getElem? (i := 12) rfl)) : Laid Z a0 "com/example/tidewise/tidewise/plan/HeldPlans" "com/example/tidewise/tidewise/plan/HeldPlans" "leastLost" "D") (by decide) pf_AJ pf_D))
  have f80 := f79.other W3 (Or.inr (slot_ne (Or.inl (hw _ (List.mem_of_getElem? (i := 33) rfl)) : Laid Z a0 "com/example/tidewise/tidewise/plan/HeldPlans" "com/example/tidewise/tidewise/plan/HeldPlans" "mask" "[J") (Or.inl (hw _ (List.mem_of_getElem? (i := 14) rfl)) : Laid Z a0 "com/example/tidewise/tidewise/plan/HeldPlans" "com/example/tidewise/tidewise/plan/HeldPlans" "leastValue" "D") (by decide) pf_AJ pf_D))
  have f81 := f80.other W6 (Or.inr (slot_ne (Or.inl (hw _ (List.mem_of_getElem? (i := 33) rfl)) : Laid Z a0 "com/example/tidewise/tidewise/plan/HeldPlans" "com/example/tidewise/tidewise/plan/HeldPlans" "mask" "[J") (Or.inl (hw _ (List.mem_of_getElem? (i := 17) rfl)) : Laid Z a0 "com/example/tidewise/tidewise/plan/HeldPlans" "com/example/tidewise/tidewise/plan/HeldPlans" "mostValue" "D") (by decide) pf_AJ pf_D))
  have f82 := f81.other W10 (Or.inr (slot_ne (Or.inl (hw _ (List.mem_of_getElem? (i := 33) rfl)) : Laid Z a0 "com/example/tidewise/tidewise/plan/HeldPlans" "com/example/tidewise/tidewise/plan/HeldPlans" "mask" "[J") (Or.inl (hw _ (List.mem_of_getElem? (i := 19) rfl)) : Laid Z a0 "com/example/tidewise/tidewise/plan/HeldPlans" "com/example/tidewise/tidewise/plan/HeldPlans" "fewestWhole" "D") (by decide) pf_AJ pf_D))
  have f83 := f82.other W15 (Or.inr (slot_ne (Or.inl (hw _ (List.mem_of_getElem? (i := 33) rfl)) : Laid Z a0 "com/example/tidewise/tidewise/plan/HeldPlans" "com/example/tidewise/tidewise/plan/HeldPlans" "mask" "[J") (Or.inl (hw _ (List.mem_of_getElem? (i := 21) rfl)) : Laid Z a0 "com/example/tidewise/tidewise/plan/HeldPlans" "com/example/tidewise/tidewise/plan/HeldPlans" "mostWhole" "D") (by decide) pf_AJ pf_D))
  have f84 := f83.ext E21
  have f85 := f84.other W23 (Or.inr (slot_ne (Or.inl (hw _ (List.mem_of_getElem? (i := 33) rfl)) : Laid Z a0 "com/example/tidewise/tidewise/plan/HeldPlans" "com/example/tidewise/tidewise/plan/HeldPlans" "mask" "[J") (Or.inl (hw _ (List.mem_of_getElem? (i := 24) rfl)) : Laid Z a0 "com/example/tidewise/tidewise/plan/HeldPlans" "com/example/tidewise/tidewise/plan/HeldPlans" "whole" "[D") (by decide) pf_AJ pf_AD))
  have f86 := f85.ext E31
  have f87 := f86.other W33 (Or.inr (slot_ne (Or.inl (hw _ (List.mem_of_getElem? (i := 33) rfl)) : Laid Z a0 "com/example/tidewise/tidewise/plan/HeldPlans" "com/example/tidewise/tidewise/plan/HeldPlans" "mask" "[J") (Or.inl (hw _ (List.mem_of_getElem? (i := 26) rfl)) : Laid Z a0 "com/example/tidewise/tidewise/plan/HeldPlans" "com/example/tidewise/tidewise/plan/HeldPlans" "part" "[D") (by decide) pf_AJ pf_AD))
  have f88 := f87.ext E44
  have f89 := f88.other W46 (Or.inr (slot_ne (Or.inl (hw _ (List.mem_of_getElem? (i := 33) rfl)) : Laid Z a0 "com/example/tidewise/tidewise/plan/HeldPlans" "com/example/tidewise/tidewise/plan/HeldPlans" "mask" "[J") (Or.inl (hw _ (List.mem_of_getElem? (i := 28) rfl)) : Laid Z a0 "com/example/tidewise/tidewise/plan/HeldPlans" "com/example/tidewise/tidewise/plan/HeldPlans" "value" "[D") (by decide) pf_AJ pf_AD))
  have f90 := f89.ext E59
  have f91 := f90.other W61 (Or.inr (slot_ne (Or.inl (hw _ (List.mem_of_getElem? (i := 33) rfl)) : Laid Z a0 "com/example/tidewise/tidewise/plan/HeldPlans" "com/example/tidewise/tidewise/plan/HeldPlans" "mask" "[J") (Or.inl (hw _ (List.mem_of_getElem? (i := 30) rfl)) : Laid Z a0 "com/example/tidewise/tidewise/plan/HeldPlans" "com/example/tidewise/tidewise/plan/HeldPlans" "lost" "[D") (by decide) pf_AJ pf_AD))
  have f92 := f91.ext E76
  have f93 := f75.wr W61
  have f94 := f93.ext E76
  obtain ⟨T78, h78, X78, e78, W78, st78⟩ := putF X76 hx hZ hown (host := "") (Or.inl (hw _ (List.mem_of_getElem? (i := 32) rfl))) Via.refl e76 f92 f94 (Or.inl (hw _ (List.mem_of_getElem? (i := 33) rfl))) (hw _ (List.mem_of_getElem? (i := 2) rfl)) (ty := (.array .long)) (by decide) rfl rfl (g := (mkF m 76 #[.val (.ref a), .val (.double u), .second, .val (.double d), .second] [(.ref am), (.ref a)])) rfl rfl (hb hby di_76)
  have f78w := f92.same W78
  have N78 := Fr.snoc X78 N61 ga
  have f96 := V76.other W78 (Nat.ne_of_gt lt_a_am)
  obtain ⟨T95, h95, k_ao, X95, e95, E95, A95, st95⟩ := newP X78 hx hZ (hw _ (List.mem_of_getElem? (i := 34) rfl)) e78 (g := (mkF m 82 #[.val (.ref a), .val (.double u), .second, .val (.double d), .second] [(.int (16 : Int32)), (.ref a)])) rfl (hb hby di_82) rfl (by decide) (cap := 16) (by decide) (by decide) (by decide) (by decide)
  obtain ⟨ao, g95⟩ : ∃ z, z = h78.size := ⟨_, rfl⟩
  rw [← g95] at A95 st95
  have o_ao : am < ao := Nat.lt_of_lt_of_le f96.lt (Nat.le_of_eq g95.symm)
  have V95 : Arv Z h95 ao k_ao .int (16 : Int32) (List.replicate 16 (.int (0 : Int32))) (.int (0 : Int32)) := (Arv.new A95 (by decide)).pad (pad_rep [] (.int (0 : Int32)) 16)
  have lt_a_ao : a < ao := (Nat.lt_trans lt_a_am o_ao)
  have lt_aw_ao : aw < ao := (Nat.lt_trans lt_aw_am o_ao)
  have lt_ap_ao : ap < ao := (Nat.lt_trans lt_ap_am o_ao)
  have lt_av_ao : av < ao := (Nat.lt_trans lt_av_am o_ao)
  have lt_al_ao : al < ao := (Nat.lt_trans lt_al_am o_ao)
  have lt_am_ao : am < ao := o_ao
  have f98 := F_origin.other W2 (Or.inr (slot_ne (Or.inl (hw _ (List.mem_of_getElem? (i := 36) rfl)) : Laid Z a0 "com/example/tidewise/tidewise/plan/HeldPlans" "com/example/tidewise/tidewise/plan/HeldPlans" "origin" "[I") (Or.inl (hw _ (List.mem_of_getElem? (i := 12) rfl)) : Laid Z a0 "com/example/tidewise/tidewise/plan/HeldPlans" "com/example/tidewise/tidewise/plan/HeldPlans" "leastLost" "D") (by decide) pf_AI pf_D))
  have f99 := f98.other W3 (Or.inr (slot_ne (Or.inl (hw _ (List.mem_of_getElem? (i := 36) rfl)) : Laid Z a0 "com/example/tidewise/tidewise/plan/HeldPlans" "com/example/tidewise/tidewise/plan/HeldPlans" "origin" "[I") (Or.inl (hw _ (List.mem_of_getElem? (i := 14) rfl)) : Laid Z a0 "com/example/tidewise/tidewise/plan/HeldPlans" "com/example/tidewise/tidewise/plan/HeldPlans" "leastValue" "D") (by decide) pf_AI pf_D))
  have f100 := f99.other W6 (Or.inr (slot_ne (Or.inl (hw _ (List.mem_of_getElem? (i := 36) rfl)) : Laid Z a0 "com/example/tidewise/tidewise/plan/HeldPlans" "com/example/tidewise/tidewise/plan/HeldPlans" "origin" "[I") (Or.inl (hw _ (List.mem_of_getElem? (i := 17) rfl)) : Laid Z a0 "com/example/tidewise/tidewise/plan/HeldPlans" "com/example/tidewise/tidewise/plan/HeldPlans" "mostValue" "D") (by decide) pf_AI pf_D))
  have f101 := f100.other W10 (Or.inr (slot_ne (Or.inl (hw _ (List.mem_of_getElem? (i := 36) rfl)) : Laid Z a0 "com/example/tidewise/tidewise/plan/HeldPlans" "com/example/tidewise/tidewise/plan/HeldPlans" "origin" "[I") (Or.inl (hw _ (List.mem_of_getElem? (i := 19) rfl)) : Laid Z a0 "com/example/tidewise/tidewise/plan/HeldPlans" "com/example/tidewise/tidewise/plan/HeldPlans" "fewestWhole" "D") (by decide) pf_AI pf_D))
  have f102 := f101.other W15 (Or.inr (slot_ne (Or.inl (hw _ (List.mem_of_getElem? (i := 36) rfl)) : Laid Z a0 "com/example/tidewise/tidewise/plan/HeldPlans" "com/example/tidewise/tidewise/plan/HeldPlans" "origin" "[I") (Or.inl (hw _ (List.mem_of_getElem? (i := 21) rfl)) : Laid Z a0 "com/example/tidewise/tidewise/plan/HeldPlans" "com/example/tidewise/tidewise/plan/HeldPlans" "mostWhole" "D") (by decide) pf_AI pf_D))
  have f103 := f102.ext E21
  have f104 := f103.other W23 (Or.inr (slot_ne (Or.inl (hw _ (List.mem_of_getElem? (i := 36) rfl)) : Laid Z a0 "com/example/tidewise/tidewise/plan/HeldPlans" "com/example/tidewise/tidewise/plan/HeldPlans" "origin" "[I") (Or.inl (hw _ (List.mem_of_getElem? (i := 24) rfl)) : Laid Z a0 "com/example/tidewise/tidewise/plan/HeldPlans" "com/example/tidewise/tidewise/plan/HeldPlans" "whole" "[D") (by decide) pf_AI pf_AD))
  have f105 := f104.ext E31
  have f106 := f105.other W33 (Or.inr (slot_ne (Or.inl (hw _ (List.mem_of_getElem? (i := 36) rfl)) : Laid Z a0 "com/example/tidewise/tidewise/plan/HeldPlans" "com/example/tidewise/tidewise/plan/HeldPlans" "origin" "[I") (Or.inl (hw _ (List.mem_of_getElem? (i := 26) rfl)) : Laid Z a0 "com/example/tidewise/tidewise/plan/HeldPlans" "com/example/tidewise/tidewise/plan/HeldPlans" "part" "[D") (by decide) pf_AI pf_AD))
  have f107 := f106.ext E44
  have f108 := f107.other W46 (Or.inr (slot_ne (Or.inl (hw _ (List.mem_of_getElem? (i := 36) rfl)) : Laid Z a0 "com/example/tidewise/tidewise/plan/HeldPlans" "com/example/tidewise/tidewise/plan/HeldPlans" "origin" "[I") (Or.inl (hw _ (List.mem_of_getElem? (i := 28) rfl)) : Laid Z a0 "com/example/tidewise/tidewise/plan/HeldPlans" "com/example/tidewise/tidewise/plan/HeldPlans" "value" "[D") (by decide) pf_AI pf_AD))
  have f109 := f108.ext E59
  have f110 := f109.other W61 (Or.inr (slot_ne (Or.inl (hw _ (List.mem_of_getElem? (i := 36) rfl)) : Laid Z a0 "com/example/tidewise/tidewise/plan/HeldPlans" "com/example/tidewise/tidewise/plan/HeldPlans" "origin" "[I") (Or.inl (hw _ (List.mem_of_getElem? (i := 30) rfl)) : Laid Z a0 "com/example/tidewise/tidewise/plan/HeldPlans" "com/example/tidewise/tidewise/plan/HeldPlans" "lost" "[D") (by decide) pf_AI pf_AD))
  have f111 := f110.ext E76
  have f112 := f111.other W78 (Or.inr (slot_ne (Or.inl (hw _ (List.mem_of_getElem? (i := 36) rfl)) : Laid Z a0 "com/example/tidewise/tidewise/plan/HeldPlans" "com/example/tidewise/tidewise/plan/HeldPlans" "origin" "[I") (Or.inl (hw _ (List.mem_of_getElem? (i := 33) rfl)) : Laid Z a0 "com/example/tidewise/tidewise/plan/HeldPlans" "com/example/tidewise/tidewise/plan/HeldPlans" "mask" "[J") (by decide) pf_AI pf_AJ))
  have f113 := f112.ext E95
  have f114 := f94.wr W78
  have f115 := f114.ext E95
  obtain ⟨T97, h97, X97, e97, W97, st97⟩ := putF X95 hx hZ hown (host := "") (Or.inl (hw _ (List.mem_of_getElem? (i := 35) rfl))) Via.refl e95 f113 f115 (Or.inl (hw _ (List.mem_of_getElem? (i := 36) rfl))) (hw _ (List.mem_of_getElem? (i := 2) rfl)) (ty := (.array .int)) (by decide) rfl rfl (g := (mkF m 84 #[.val (.ref a), .val (.double u), .second, .val (.double d), .second] [(.ref ao), (.ref a)])) rfl rfl (hb hby di_84)
  have f97w := f113.same W97
  have N97 := Fr.snoc X97 N78 ga
  have f117 := F_upPerVm.other W2 (Or.inr (slot_ne (Or.inr (hw _ (List.mem_of_getElem? (i := 38) rfl)) : Laid Z a0 "com/example/tidewise/tidewise/plan/HeldPlans" "com/example/tidewise/tidewise/plan/HeldPlans" "upPerVm" "D") (Or.inl (hw _ (List.mem_of_getElem? (i := 12) rfl)) : Laid Z a0 "com/example/tidewise/tidewise/plan/HeldPlans" "com/example/tidewise/tidewise/plan/HeldPlans" "leastLost" "D") (by decide) pf_D pf_D))
  have f118 := f117.other W3 (Or.inr (slot_ne (Or.inr (hw _ (List.mem_of_getElem? (i := 38) rfl)) : Laid Z a0 "com/example/tidewise/tidewise/plan/HeldPlans" "com/example/tidewise/tidewise/plan/HeldPlans" "upPerVm" "D") (Or.inl (hw _ (List.mem_of_getElem? (i := 14) rfl)) : Laid Z a0 "com/example/tidewise/tidewise/plan/HeldPlans" "com/example/tidewise/tidewise/plan/HeldPlans" "leastValue" "D") (by decide) pf_D pf_D))
  have f119 := f118.other W6 (Or.inr (slot_ne (Or.inr (hw _ (List.mem_of_getElem? (i := 38) rfl)) : Laid Z a0 "com/example/tidewise/tidewise/plan/HeldPlans" "com/example/tidewise/tidewise/plan/HeldPlans" "upPerVm" "D") (Or.inl (hw _ (List.mem_of_getElem? (i := 17) rfl)) : Laid Z a0 "com/example/tidewise/tidewise/plan/HeldPlans" "com/example/tidewise/tidewise/plan/HeldPlans" "mostValue" "D") (by decide) pf_D pf_D))
  have f120 := f119.other W10 (Or.inr (slot_ne (Or.inr (hw _ (List.mem_of_getElem? (i := 38) rfl)) : Laid Z a0 "com/example/tidewise/tidewise/plan/HeldPlans" "com/example/tidewise/tidewise/plan/HeldPlans" "upPerVm" "D") (Or.inl (hw _ (List.mem_of_getElem? (i := 19) rfl)) : Laid Z a0 "com/example/tidewise/tidewise/plan/HeldPlans" "com/example/tidewise/tidewise/plan/HeldPlans" "fewestWhole" "D") (by decide) pf_D pf_D))
  have f121 := f120.other W15 (Or.inr (slot_ne (Or.inr (hw _ (List.mem_of_getElem? (i := 38) rfl)) : Laid Z a0 "com/example/tidewise/tidewise/plan/HeldPlans" "com/example/tidewise/tidewise/plan/HeldPlans" "upPerVm" "D") (Or.inl (hw _ (List.mem_of_getElem? (i := 21) rfl)) : Laid Z a0 "com/example/tidewise/tidewise/plan/HeldPlans" "com/example/tidewise/tidewise/plan/HeldPlans" "mostWhole" "D") (by decide) pf_D pf_D))
  have f122 := f121.ext E21
  have f123 := f122.other W23 (Or.inr (slot_ne (Or.inr (hw _ (List.mem_of_getElem? (i := 38) rfl)) : Laid Z a0 "com/example/tidewise/tidewise/plan/HeldPlans" "com/example/tidewise/tidewise/plan/HeldPlans" "upPerVm" "D") (Or.inl (hw _ (List.mem_of_getElem? (i := 24) rfl)) : Laid Z a0 "com/example/tidewise/tidewise/plan/HeldPlans" "com/example/tidewise/tidewise/plan/HeldPlans" "whole" "[D") (by decide) pf_D pf_AD))
  have f124 := f123.ext E31
  have f125 := f124.other W33 (Or.inr (slot_ne (Or.inr (hw _ (List.mem_of_getElem? (i := 38) rfl)) : Laid Z a0 "com/example/tidewise/tidewise/plan/HeldPlans" "com/example/tidewise/tidewise/plan/HeldPlans" "upPerVm" "D") (Or.inl (hw _ (List.mem_of_getElem? (i := 26) rfl)) : Laid Z a0 "com/example/tidewise/tidewise/plan/HeldPlans" "com/example/tidewise/tidewise/plan/HeldPlans" "part" "[D") (by decide) pf_D pf_AD))
  have f126 := f125.ext E44
  have f127 := f126.other W46 (Or.inr (slot_ne (Or.inr (hw _ (List.mem_of_getElem? (i := 38) rfl)) : Laid Z a0 "com/example/tidewise/tidewise/plan/HeldPlans" "com/example/tidewise/tidewise/plan/HeldPlans" "upPerVm" "D") (Or.inl (hw _ (List.mem_of_getElem? (i := 28) rfl)) : Laid Z a0 "com/example/tidewise/tidewise/plan/HeldPlans" "com/example/tidewise/tidewise/plan/HeldPlans" "value" "[D") (by decide) pf_D pf_AD))
  have f128 := f127.ext E59
  have f129 := f128.other W61 (Or.inr (slot_ne (Or.inr (hw _ (List.mem_of_getElem? (i := 38) rfl)) : Laid Z a0 "com/example/tidewise/tidewise/plan/HeldPlans" "com/example/tidewise/tidewise/plan/HeldPlans" "upPerVm" "D") (Or.inl (hw _ (List.mem_of_getElem? (i := 30) rfl)) : Laid Z a0 "com/example/tidewise/tidewise/plan/HeldPlans" "com/example/tidewise/tidewise/plan/HeldPlans" "lost" "[D") (by decide) pf_D pf_AD))
  have f130 := f129.ext E76
  have f131 := f130.other W78 (Or.inr (slot_ne (Or.inr (hw _ (List.mem_of_getElem? (i := 38) rfl)) : Laid Z a0 "com/example/tidewise/tidewise/plan/HeldPlans" "com/example/tidewise/tidewise/plan/HeldPlans" "upPerVm" "D") (Or.inl (hw _ (List.mem_of_getElem? (i := 33) rfl)) : Laid Z a0 "com/example/tidewise/tidewise/plan/HeldPlans" "com/example/tidewise/tidewise/plan/HeldPlans" "mask" "[J") (by decide) pf_D pf_AJ))
  have f132 := f131.ext E95
  have f133 := f132.other W97 (Or.inr (slot_ne (Or.inr (hw _ (List.mem_of_getElem? (i := 38) rfl)) : Laid Z a0 "com/example/tidewise/tidewise/plan/HeldPlans" "com/example/tidewise/tidewise/plan/HeldPlans" "upPerVm" "D") (Or.inl (hw _ (List.mem_of_getElem? (i := 36) rfl)) : Laid Z a0 "com/example/tidewise/tidewise/plan/HeldPlans" "com/example/tidewise/tidewise/plan/HeldPlans" "origin" "[I") (by decide) pf_D pf_AI))
  have f134 := f115.wr W97
  obtain ⟨T116, h116, X116, e116, W116, st116⟩ := putF X97 hx hZ hown (host := "") (Or.inl (hw _ (List.mem_of_getElem? (i := 37) rfl))) Via.refl e97 f133 f134 (Or.inr ⟨(hw _ (List.mem_of_getElem? (i := 38) rfl)), rfl, hnm⟩) (hw _ (List.mem_of_getElem? (i := 2) rfl)) (ty := .double) (by decide) rfl rfl (g := (mkF m 89 #[.val (.ref a), .val (.double u), .second, .val (.double d), .second] [(.double u), (.ref a)])) rfl rfl (hb hby di_89)
  have f116w := f133.same W116
  have N116 := Fr.snoc X116 N97 ga
  have f136 := F_downPerVm.other W2 (Or.inr (slot_ne (Or.inr (hw _ (List.mem_of_getElem? (i := 40) rfl)) : Laid Z a0 "com/example/tidewise/tidewise/plan/HeldPlans" "com/example/tidewise/tidewise/plan/HeldPlans" "downPerVm" "D") (Or.inl (hw _ (List.mem_of_getElem? (i := 12) rfl)) : Laid Z a0 "com/example/tidewise/tidewise/plan/HeldPlans" "com/example/tidewise/tidewise/plan/HeldPlans" "leastLost" "D") (by decide) pf_D pf_D))
  have f137 := f136.other W3 (Or.inr (slot_ne (Or.inr (hw _ (List.mem_of_getElem? (i := 40) rfl)) : Laid Z a0 "com/example/tidewise/tidewise/plan/HeldPlans" "com/example/tidewise/tidewise/plan/HeldPlans" "downPerVm" "D") (Or.inl (hw _ (List.mem_of_getElem? (i := 14) rfl)) : Laid Z a0 "com/example/tidewise/tidewise/plan/HeldPlans" "com/example/tidewise/tidewise/plan/HeldPlans" "leastValue" "D") (by decide) pf_D pf_D))
  have f138 := f137.other W6 (Or.inr (slot_ne (Or.inr (hw _ (List.mem_of_getElem? (i := 40) rfl)) : Laid Z a0 "com/example/tidewise/tidewise/plan/HeldPlans" "com/example/tidewise/tidewise/plan/HeldPlans" "downPerVm" "D") (Or.inl (hw _ (List.mem_of_getElem? (i := 17) rfl)) : Laid Z a0 "com/example/tidewise/tidewise/plan/HeldPlans" "com/example/tidewise/tidewise/plan/HeldPlans" "mostValue" "D") (by decide) pf_D pf_D))
  have f139 := f138.other W10 (Or.inr (slot_ne (Or.inr (hw _ (List.mem_of_getElem? (i := 40) rfl)) : Laid Z a0 "com/example/tidewise/tidewise/plan/HeldPlans" "com/example/tidewise/tidewise/plan/HeldPlans" "downPerVm" "D") (Or.inl (hw _ (List.mem_of_getElem? (i := 19) rfl)) : Laid Z a0 "com/example/tidewise/tidewise/plan/HeldPlans" "com/example/tidewise/tidewise/plan/HeldPlans" "fewestWhole" "D") (by decide) pf_D pf_D))
  have f140 := f139.other W15 (Or.inr (slot_ne (Or.inr (hw _ (List.mem_of_getElem? (i := 40) rfl)) : Laid Z a0 "com/example/tidewise/tidewise/plan/HeldPlans" "com/example/tidewise/tidewise/plan/HeldPlans" "downPerVm" "D") (Or.inl (hw _ (List.mem_of_getElem? (i := 21) rfl)) : Laid Z a0 "com/example/tidewise/tidewise/plan/HeldPlans" "com/example/tidewise/tidewise/plan/HeldPlans" "mostWhole" "D") (by decide) pf_D pf_D))
  have f141 := f140.ext E21
  have f142 := f141.other W23 (Or.inr (slot_ne (Or.inr (hw _ (List.mem_of_getElem? (i := 40) rfl)) : Laid Z a0 "com/example/tidewise/tidewise/plan/HeldPlans" "com/example/tidewise/tidewise/plan/HeldPlans" "downPerVm" "D") (Or.inl (hw _ (List.mem_of_getElem? (i := 24) rfl)) : Laid Z a0 "com/example/tidewise/tidewise/plan/HeldPlans" "com/example/tidewise/tidewise/plan/HeldPlans" "whole" "[D") (by decide) pf_D pf_AD))
  have f143 := f142.ext E31
  have f144 := f143.other W33 (Or.inr (slot_ne (Or.inr (hw _ (List.mem_of_getElem? (i := 40) rfl)) : Laid Z a0 "com/example/tidewise/tidewise/plan/HeldPlans" "com/example/tidewise/tidewise/plan/HeldPlans" "downPerVm" "D") (Or.inl (hw _ (List.mem_of_getElem? (i := 26) rfl)) : Laid Z a0 "com/example/tidewise/tidewise/plan/HeldPlans" "com/example/tidewise/tidewise/plan/HeldPlans" "part" "[D") (by decide) pf_D pf_AD))
  have f145 := f144.ext E44
  have f146 := f145.other W46 (Or.inr (slot_ne (Or.inr (hw _ (List.mem_of_getElem? (i := 40) rfl)) : Laid Z a0 "com/example/tidewise/tidewise/plan/HeldPlans" "com/example/tidewise/tidewise/plan/HeldPlans" "downPerVm" "D") (Or.inl (hw _ (List.mem_of_getElem? (i := 28) rfl)) : Laid Z a0 "com/example/tidewise/tidewise/plan/HeldPlans" "com/example/tidewise/tidewise/plan/HeldPlans" "value" "[D") (by decide) pf_D pf_AD))
  have f147 := f146.ext E59
  have f148 := f147.other W61 (Or.inr (slot_ne (Or.inr (hw _ (List.mem_of_getElem? (i := 40) rfl)) : Laid Z a0 "com/example/tidewise/tidewise/plan/HeldPlans" "com/example/tidewise/tidewise/plan/HeldPlans" "downPerVm" "D") (Or.inl (hw _ (List.mem_of_getElem? (i := 30) rfl)) : Laid Z a0 "com/example/tidewise/tidewise/plan/HeldPlans" "com/example/tidewise/tidewise/plan/HeldPlans" "lost" "[D") (by decide) pf_D pf_AD))
  have f149 := f148.ext E76
  have f150 := f149.other W78 (Or.inr (slot_ne (Or.inr (hw _ (List.mem_of_getElem? (i := 40) rfl)) : Laid Z a0 "com/example/tidewise/tidewise/plan/HeldPlans" "com/example/tidewise/tidewise/plan/HeldPlans" "downPerVm" "D") (Or.inl (hw _ (List.mem_of_getElem? (i := 33) rfl)) : Laid Z a0 "com/example/tidewise/tidewise/plan/HeldPlans" "com/example/tidewise/tidewise/plan/HeldPlans" "mask" "[J") (by decide) pf_D pf_AJ))
  have f151 := f150.ext E95
  have f152 := f151.other W97 (Or.inr (slot_ne (Or.inr (hw _ (List.mem_of_getElem? (i := 40) rfl)) : Laid Z a0 "com/example/tidewise/tidewise/plan/HeldPlans" "com/example/tidewise/tidewise/plan/HeldPlans" "downPerVm" "D") (Or.inl (hw _ (List.mem_of_getElem? (i := 36) rfl)) : Laid Z a0 "com/example/tidewise/tidewise/plan/HeldPlans" "com/example/tidewise/tidewise/plan/HeldPlans" "origin" "[I") (by decide) pf_D pf_AI))
  have f153 := f152.other W116 (Or.inr (slot_ne (Or.inr (hw _ (List.mem_of_getElem? (i := 40) rfl)) : Laid Z a0 "com/example/tidewise/tidewise/plan/HeldPlans" "com/example/tidewise/tidewise/plan/HeldPlans" "downPerVm" "D") (Or.inr (hw _ (List.mem_of_getElem? (i := 38) rfl)) : Laid Z a0 "com/example/tidewise/tidewise/plan/HeldPlans" "com/example/tidewise/tidewise/plan/HeldPlans" "upPerVm" "D") (by decide) pf_D pf_D))
  have f154 := f134.wr W116
  obtain ⟨T135, h135, X135, e135, W135, st135⟩ := putF X116 hx hZ hown (host := "") (Or.inl (hw _ (List.mem_of_getElem? (i := 39) rfl))) Via.refl e116 f153 f154 (Or.inr ⟨(hw _ (List.mem_of_getElem? (i := 40) rfl)), rfl, hnm⟩) (hw _ (List.mem_of_getElem? (i := 2) rfl)) (ty := .double) (by decide) rfl rfl (g := (mkF m 94 #[.val (.ref a), .val (.double u), .second, .val (.double d), .second] [(.double d), (.ref a)])) rfl rfl (hb hby di_94)
  have f135w := f153.same W135
  have N135 := Fr.snoc X135 N116 ga
  have f155 := f154.wr W135
  have f156 := F_size.other W2 (Or.inr (slot_ne (Or.inl (hw _ (List.mem_of_getElem? (i := 48) rfl)) : Laid Z a0 "com/example/tidewise/tidewise/plan/HeldPlans" "com/example/tidewise/tidewise/plan/HeldPlans" "size" "I") (Or.inl (hw _ (List.mem_of_getElem? (i := 12) rfl)) : Laid Z a0 "com/example/tidewise/tidewise/plan/HeldPlans" "com/example/tidewise/tidewise/plan/HeldPlans" "leastLost" "D") (by decide) pf_I pf_D))
  have f157 := f156.other W3 (Or.inr (slot_ne (Or.inl (hw _ (List.mem_of_getElem? (i := 48) rfl)) : Laid Z a0 "com/example/tidewise/tidewise/plan/HeldPlans" "com/example/tidewise/tidewise/plan/HeldPlans" "size" "I") (Or.inl (hw _ (List.mem_of_getElem? (i := 14) rfl)) : Laid Z a0 "com/example/tidewise/tidewise/plan/HeldPlans" "com/example/tidewise/tidewise/plan/HeldPlans" "leastValue" "D") (by decide) pf_I pf_D))
  have f158 := f157.other W6 (Or.inr (slot_ne (Or.inl (hw _ (List.mem_of_getElem? (i := 48) rfl)) : Laid Z a0 "com/example/tidewise/tidewise/plan/HeldPlans" "com/example/tidewise/tidewise/plan/HeldPlans" "size" "I") (Or.inl (hw _ (List.mem_of_getElem? (i := 17) rfl)) : Laid Z a0 "com/example/tidewise/tidewise/plan/HeldPlans" "com/example/tidewise/tidewise/plan/HeldPlans" "mostValue" "D") (by decide) pf_I pf_D))
  have f159 := f158.other W10 (Or.inr (slot_ne (Or.inl (hw _ (List.mem_of_getElem? (i := 48) rfl)) : Laid Z a0 "com/example/tidewise/tidewise/plan/HeldPlans" "com/example/tidewise/tidewise/plan/HeldPlans" "size" "I") (Or.inl (hw _ (List.mem_of_getElem? (i := 19) rfl)) : Laid Z a0 "com/example/tidewise/tidewise/plan/HeldPlans" "com/example/tidewise/tidewise/plan/HeldPlans" "fewestWhole" "D") (by decide) pf_I pf_D))
  have f160 := f159.other W15 (Or.inr (slot_ne (Or.inl (hw _ (List.mem_of_getElem? (i := 48) rfl)) : Laid Z a0 "com/example/tidewise/tidewise/plan/HeldPlans" "com/example/tidewise/tidewise/plan/HeldPlans" "size" "I") (Or.inl (hw _ (List.mem_of_getElem? (i := 21) rfl)) : Laid Z a0 "com/example/tidewise/tidewise/plan/HeldPlans" "com/example/tidewise/tidewise/plan/HeldPlans" "mostWhole" "D") (by decide) pf_I pf_D))
  have f161 := f160.ext E21
  have f162 := f161.other W23 (Or.inr (slot_ne (Or.inl (hw _ (List.mem_of_getElem? (i := 48) rfl)) : Laid Z a0 "com/example/tidewise/tidewise/plan/HeldPlans" "com/example/tidewise/tidewise/plan/HeldPlans" "size" "I") (Or.inl (hw _ (List.mem_of_getElem? (i := 24) rfl)) : Laid Z a0 "com/example/tidewise/tidewise/plan/HeldPlans" "com/example/tidewise/tidewise/plan/HeldPlans" "whole" "[D") (by decide) pf_I pf_AD))
  have f163 := f162.ext E31
  have f164 := f163.other W33 (Or.inr (slot_ne (Or.inl (hw _ (List.mem_of_getElem? (i := 48) rfl)) : Laid Z a0 "com/example/tidewise/tidewise/plan/HeldPlans" "com/example/tidewise/tidewise/plan/HeldPlans" "size" "I") (Or.inl (hw _ (List.mem_of_getElem? (i := 26) rfl)) : Laid Z a0 "com/example/tidewise/tidewise/plan/HeldPlans" "com/example/tidewise/tidewise/plan/HeldPlans" "part" "[D") (by decide) pf_I pf_AD))
  have f165 := f164.ext E44
  have f166 := f165.other W46 (Or.inr (slot_ne (Or.inl (hw _ (List.mem_of_getElem? (i := 48) rfl)) : Laid Z a0 "com/example/tidewise/tidewise/plan/HeldPlans" "com/example/tidewise/tidewise/plan/HeldPlans" "size" "I") (Or.inl (hw _ (List.mem_of_getElem? (i := 28) rfl)) : Laid Z a0 "com/example/tidewise/tidewise/plan/HeldPlans" "com/example/tidewise/tidewise/plan/HeldPlans" "value" "[D") (by decide) pf_I pf_AD))
  have f167 := f166.ext E59
  have f168 := f167.other W61 (Or.inr (slot_ne (Or.inl (hw _ (List.mem_of_getElem? (i := 48) rfl)) : Laid Z a0 "com/example/tidewise/tidewise/plan/HeldPlans" "com/example/tidewise/tidewise/plan/HeldPlans" "size" "I") (Or.inl (hw _ (List.mem_of_getElem? (i := 30) rfl)) : Laid Z a0 "com/example/tidewise/tidewise/plan/HeldPlans" "com/example/tidewise/tidewise/plan/HeldPlans" "lost" "[D") (by decide) pf_I pf_AD))
  have f169 := f168.ext E76
  have f170 := f169.other W78 (Or.inr (slot_ne (Or.inl (hw _ (List.mem_of_getElem? (i := 48) rfl)) : Laid Z a0 "com/example/tidewise/tidewise/plan/HeldPlans" "com/example/tidewise/tidewise/plan/HeldPlans" "size" "I") (Or.inl (hw _ (List.mem_of_getElem? (i := 33) rfl)) : Laid Z a0 "com/example/tidewise/tidewise/plan/HeldPlans" "com/example/tidewise/tidewise/plan/HeldPlans" "mask" "[J") (by decide) pf_I pf_AJ))
  have f171 := f170.ext E95
  have f172 := f171.other W97 (Or.inr (slot_ne (Or.inl (hw _ (List.mem_of_getElem? (i := 48) rfl)) : Laid Z a0 "com/example/tidewise/tidewise/plan/HeldPlans" "com/example/tidewise/tidewise/plan/HeldPlans" "size" "I") (Or.inl (hw _ (List.mem_of_getElem? (i := 36) rfl)) : Laid Z a0 "com/example/tidewise/tidewise/plan/HeldPlans" "com/example/tidewise/tidewise/plan/HeldPlans" "origin" "[I") (by decide) pf_I pf_AI))
  have f173 := f172.other W116 (Or.inr (slot_ne (Or.inl (hw _ (List.mem_of_getElem? (i := 48) rfl)) : Laid Z a0 "com/example/tidewise/tidewise/plan/HeldPlans" "com/example/tidewise/tidewise/plan/HeldPlans" "size" "I") (Or.inr (hw _ (List.mem_of_getElem? (i := 38) rfl)) : Laid Z a0 "com/example/tidewise/tidewise/plan/HeldPlans" "com/example/tidewise/tidewise/plan/HeldPlans" "upPerVm" "D") (by decide) pf_I pf_D))
  have f174 := f173.other W135 (Or.inr (slot_ne (Or.inl (hw _ (List.mem_of_getElem? (i := 48) rfl)) : Laid Z a0 "com/example/tidewise/tidewise/plan/HeldPlans" "com/example/tidewise/tidewise/plan/HeldPlans" "size" "I") (Or.inr (hw _ (List.mem_of_getElem? (i := 40) rfl)) : Laid Z a0 "com/example/tidewise/tidewise/plan/HeldPlans" "com/example/tidewise/tidewise/plan/HeldPlans" "downPerVm" "D") (by decide) pf_I pf_D))
  have f175 := f23w.ext E31
  have f176 := f175.other W33 (Or.inr (slot_ne (Or.inl (hw _ (List.mem_of_getElem? (i := 24) rfl)) : Laid Z a0 "com/example/tidewise/tidewise/plan/HeldPlans" "com/example/tidewise/tidewise/plan/HeldPlans" "whole" "[D") (Or.inl (hw _ (List.mem_of_getElem? (i := 26) rfl)) : Laid Z a0 "com/example/tidewise/tidewise/plan/HeldPlans" "com/example/tidewise/tidewise/plan/HeldPlans" "part" "[D") (by decide) pf_AD pf_AD))
  have f177 := f176.ext E44
  have f178 := f177.other W46 (Or.inr (slot_ne (Or.inl (hw _ (List.mem_of_getElem? (i := 24) rfl)) : Laid Z a0 "com/example/tidewise/tidewise/plan/HeldPlans" "com/example/tidewise/tidewise/plan/HeldPlans" "whole" "[D") (Or.inl (hw _ (List.mem_of_getElem? (i := 28) rfl)) : Laid Z a0 "com/example/tidewise/tidewise/plan/HeldPlans" "com/example/tidewise/tidewise/plan/HeldPlans" "value" "[D") (by decide) pf_AD pf_AD))
  have f179 := f178.ext E59
  have f180 := f179.other W61 (Or.inr (slot_ne (Or.inl (hw _ (List.mem_of_getElem? (i := 24) rfl)) : Laid Z a0 "com/example/tidewise/tidewise/plan/HeldPlans" "com/example/tidewise/tidewise/plan/HeldPlans" "whole" "[D") (Or.inl (hw _ (List.mem_of_getElem? (i := 30) rfl)) : Laid Z a0 "com/example/tidewise/tidewise/plan/HeldPlans" "com/example/tidewise/tidewise/plan/HeldPlans" "lost" "[D") (by decide) pf_AD pf_AD))
  have f181 := f180.ext E76
  have f182 := f181.other W78 (Or.inr (slot_ne (Or.inl (hw _ (List.mem_of_getElem? (i := 24) rfl)) : Laid Z a0 "com/example/tidewise/tidewise/plan/HeldPlans" "com/example/tidewise/tidewise/plan/HeldPlans" "whole" "[D") (Or.inl (hw _ (List.mem_of_getElem? (i := 33) rfl)) : Laid Z a0 "com/example/tidewise/tidewise/plan/HeldPlans" "com/example/tidewise/tidewise/plan/HeldPlans" "mask" "[J") (by decide) pf_AD pf_AJ))
  have f183 := f182.ext E95
  have f184 := f183.other W97 (Or.inr (slot_ne (Or.inl (hw _ (List.mem_of_getElem? (i := 24) rfl)) : Laid Z a0 "com/example/tidewise/tidewise/plan/HeldPlans" "com/example/tidewise/tidewise/plan/HeldPlans" "whole" "[D") (Or.inl (hw _ (List.mem_of_getElem? (i := 36) rfl)) : Laid Z a0 "com/example/tidewise/tidewise/plan/HeldPlans" "com/example/tidewise/tidewise/plan/HeldPlans" "origin" "[I") (by decide) pf_AD pf_AI))
  have f185 := f184.other W116 (Or.inr (slot_ne (Or.inl (hw _ (List.mem_of_getElem? (i := 24) rfl)) : Laid Z a0 "com/example/tidewise/tidewise/plan/HeldPlans" "com/example/tidewise/tidewise/plan/HeldPlans" "whole" "[D") (Or.inr (hw _ (List.mem_of_getElem? (i := 38) rfl)) : Laid Z a0 "com/example/tidewise/tidewise/plan/HeldPlans" "com/example/tidewise/tidewise/plan/HeldPlans" "upPerVm" "D") (by decide) pf_AD pf_D))
  have f186 := f185.other W135 (Or.inr (slot_ne (Or.inl (hw _ (List.mem_of_getElem? (i := 24) rfl)) : Laid Z a0 "com/example/tidewise/tidewise/plan/HeldPlans" "com/example/tidewise/tidewise/plan/HeldPlans" "whole" "[D") (Or.inr (hw _ (List.mem_of_getElem? (i := 40) rfl)) : Laid Z a0 "com/example/tidewise/tidewise/plan/HeldPlans" "com/example/tidewise/tidewise/plan/HeldPlans" "downPerVm" "D") (by decide) pf_AD pf_D))
  have f187 := f33w.ext E44
  have f188 := f187.other W46 (Or.inr (slot_ne (Or.inl (hw _ (List.mem_of_getElem? (i := 26) rfl)) : Laid Z a0 "com/example/tidewise/tidewise/plan/HeldPlans" "com/example/tidewise/tidewise/plan/HeldPlans" "part" "[D") (Or.inl (hw _ (List.mem_of_getElem? (i := 28) rfl)) : Laid Z a0 "com/example/tidewise/tidewise/plan/HeldPlans" "com/example/tidewise/tidewise/plan/HeldPlans" "value" "[D") (by decide) pf_AD pf_AD))
  have f189 := f188.ext E59
  have f190 := f189.other W61 (Or.inr (slot_ne (Or.inl (hw _ (List.mem_of_getElem? (i := 26) rfl)) : Laid Z a0 "com/example/tidewise/tidewise/plan/HeldPlans" "com/example/tidewise/tidewise/plan/HeldPlans" "part" "[D") (Or.inl (hw _ (List.mem_of_getElem? (i := 30) rfl)) : Laid Z a0 "com/example/tidewise/tidewise/plan/HeldPlans" "com/example/tidewise/tidewise/plan/HeldPlans" "lost" "[D") (by decide) pf_AD pf_AD))
  have f191 := f190.ext E76
  have f192 := f191.other W78 (Or.inr (slot_ne (Or.inl (hw _ (List.mem_of_getElem? (i := 26) rfl)) : Laid Z a0 "com/example/tidewise/tidewise/plan/HeldPlans" "com/example/tidewise/tidewise/plan/HeldPlans" "part" "[D") (Or.inl (hw _ (List.mem_of_getElem? (i := 33) rfl)) : Laid Z a0 "com/example/tidewise/tidewise/plan/HeldPlans" "com/example/tidewise/tidewise/plan/HeldPlans" "mask" "[J") (by decide) pf_AD pf_AJ))
  have f193 := f192.ext E95
  have f194 := f193.other W97 (Or.inr (slot_ne (Or.inl (hw _ (List.mem_of_getElem? (i := 26) rfl)) : Laid Z a0 "com/example/tidewise/tidewise/plan/HeldPlans" "com/example/tidewise/tidewise/plan/HeldPlans" "part" "[D") (Or.inl (hw _ (List.mem_of_getElem? (i := 36) rfl)) : Laid Z a0 "com/example/tidewise/tidewise/plan/HeldPlans" "com/example/tidewise/tidewise/plan/HeldPlans" "origin" "[I") (by decide) pf_AD pf_AI))
  have f195 := f194.other W116 (Or.inr (slot_ne (Or.inl (hw _ (List.mem_of_getElem? (i := 26) rfl)) : Laid Z a0 "com/example/tidewise/tidewise/plan/HeldPlans" "com/example/tidewise/tidewise/plan/HeldPlans" "part" "[D") (Or.inr (hw _ (List.mem_of_getElem? (i := 38) rfl)) : Laid Z a0 "com/example/tidewise/tidewise/plan/HeldPlans" "com/example/tidewise/tidewise/plan/HeldPlans" "upPerVm" "D") (by decide) pf_AD pf_D))
  have f196 := f195.other W135 (Or.inr (slot_ne (Or.inl (hw _ (List.mem_of_getElem? (i := 26) rfl)) : Laid Z a0 "com/example/tidewise/tidewise/plan/HeldPlans" "com/example/tidewise/tidewise/plan/HeldPlans" "part" "[D") (Or.inr (hw _ (List.mem_of_getElem? (i := 40) rfl)) : Laid Z a0 "com/example/tidewise/tidewise/plan/HeldPlans" "com/example/tidewise/tidewise/plan/HeldPlans" "downPerVm" "D") (by decide) pf_AD pf_D))
  have f197 := f46w.ext E59
  have f198 := f197.other W61 (Or.inr (slot_ne (Or.inl (hw _ (List.mem_of_getElem? (i := 28) rfl)) : Laid Z a0 "com/example/tidewise/tidewise/plan/HeldPlans" "com/example/tidewise/tidewise/plan/HeldPlans" "value" "[D") (Or.inl (hw _ (List.mem_of_getElem? (i := 30) rfl)) : Laid Z a0 "com/example/tidewise/tidewise/plan/HeldPlans" "com/example/tidewise/tidewise/plan/HeldPlans" "lost" "[D") (by decide) pf_AD pf_AD))
  have f199 := f198.ext E76
  have f200 := f199.other W78 (Or.inr (slot_ne (Or.inl (hw _ (List.mem_of_getElem? (i := 28) rfl)) : Laid Z a0 "com/example/tidewise/tidewise/plan/HeldPlans" "com/example/tidewise/tidewise/plan/HeldPlans" "value" "[D") (Or.inl (hw _ (List.mem_of_getElem? (i := 33) rfl)) : Laid Z a0 "com/example/tidewise/tidewise/plan/HeldPlans" "com/example/tidewise/tidewise/plan/HeldPlans" "mask" "[J") (by decide) pf_AD pf_AJ))
  have f201 := f200.ext E95
  have f202 := f201.other W97 (Or.inr (slot_ne (Or.inl (hw _ (List.mem_of_getElem? (i := 28) rfl)) : Laid Z a0 "com/example/tidewise/tidewise/plan/HeldPlans" "com/example/tidewise/tidewise/plan/HeldPlans" "value" "[D") (Or.inl (hw _ (List.mem_of_getElem? (i := 36) rfl)) : Laid Z a0 "com/example/tidewise/tidewise/plan/HeldPlans" "com/example/tidewise/tidewise/plan/HeldPlans" "origin" "[I") (by decide) pf_AD pf_AI))
  have f203 := f202.other W116 (Or.inr (slot_ne (Or.inl (hw _ (List.mem_of_getElem? (i := 28) rfl)) : Laid Z a0 "com/example/tidewise/tidewise/plan/HeldPlans" "com/example/tidewise/tidewise/plan/HeldPlans" "value" "[D") (Or.inr (hw _ (List.mem_of_getElem? (i := 38) rfl)) : Laid Z a0 "com/example/tidewise/tidewise/plan/HeldPlans" "com/example/tidewise/tidewise/plan/HeldPlans" "upPerVm" "D") (by decide) pf_AD pf_D))
  have f204 := f203.other W135 (Or.inr (slot_ne (Or.inl (hw _ (List.mem_of_getElem? (i := 28) rfl)) : Laid Z a0 "com/example/tidewise/tidewise/plan/HeldPlans" "com/example/tidewise/tidewise/plan/HeldPlans" "value" "[D") (Or.inr (hw _ (List.mem_of_getElem? (i := 40) rfl)) : Laid Z a0 "com/example/tidewise/tidewise/plan/HeldPlans" "com/example/tidewise/tidewise/plan/HeldPlans" "downPerVm" "D") (by decide) pf_AD pf_D))
  have f205 := f61w.ext E76
  have f206 := f205.other W78 (Or.inr (slot_ne (Or.inl (hw _ (List.mem_of_getElem? (i := 30) rfl)) : Laid Z a0 "com/example/tidewise/tidewise/plan/HeldPlans" "com/example/tidewise/tidewise/plan/HeldPlans" "lost" "[D") (Or.inl (hw _ (List.mem_of_getElem? (i := 33) rfl)) : Laid Z a0 "com/example/tidewise/tidewise/plan/HeldPlans" "com/example/tidewise/tidewise/plan/HeldPlans" "mask" "[J") (by decide) pf_AD pf_AJ))
  have f207 := f206.ext E95
  have f208 := f207.other W97 (Or.inr (slot_ne (Or.inl (hw _ (List.mem_of_getElem? (i := 30) rfl)) : Laid Z a0 "com/example/tidewise/tidewise/plan/HeldPlans" "com/example/tidewise/tidewise/plan/HeldPlans" "lost" "[D") (Or.inl (hw _ (List.mem_of_getElem? (i := 36) rfl)) : Laid Z a0 "com/example/tidewise/tidewise/plan/HeldPlans" "com/example/tidewise/tidewise/plan/HeldPlans" "origin" "[I") (by decide) pf_AD pf_AI))
  have f209 := f208.other W116 (Or.inr (slot_ne (Or.inl (hw _ (List.mem_of_getElem? (i := 30) rfl)) : Laid Z a0 "com/example/tidewise/tidewise/plan/HeldPlans" "com/example/tidewise/tidewise/plan/HeldPlans" "lost" "[D") (Or.inr (hw _ (List.mem_of_getElem? (i := 38) rfl)) : Laid Z a0 "com/example/tidewise/tidewise/plan/HeldPlans" "com/example/tidewise/tidewise/plan/HeldPlans" "upPerVm" "D") (by decide) pf_AD pf_D))
  have f210 := f209.other W135 (Or.inr (slot_ne (Or.inl (hw _ (List.mem_of_getElem? (i := 30) rfl)) : Laid Z a0 "com/example/tidewise/tidewise/plan/HeldPlans" "com/example/tidewise/tidewise/plan/HeldPlans" "lost" "[D") (Or.inr (hw _ (List.mem_of_getElem? (i := 40) rfl)) : Laid Z a0 "com/example/tidewise/tidewise/plan/HeldPlans" "com/example/tidewise/tidewise/plan/HeldPlans" "downPerVm" "D") (by decide) pf_AD pf_D))
  have f211 := f78w.ext E95
  have f212 := f211.other W97 (Or.inr (slot_ne (Or.inl (hw _ (List.mem_of_getElem? (i := 33) rfl)) : Laid Z a0 "com/example/tidewise/tidewise/plan/HeldPlans" "com/example/tidewise/tidewise/plan/HeldPlans" "mask" "[J") (Or.inl (hw _ (List.mem_of_getElem? (i := 36) rfl)) : Laid Z a0 "com/example/tidewise/tidewise/plan/HeldPlans" "com/example/tidewise/tidewise/plan/HeldPlans" "origin" "[I") (by decide) pf_AJ pf_AI))
  have f213 := f212.other W116 (Or.inr (slot_ne (Or.inl (hw _ (List.mem_of_getElem? (i := 33) rfl)) : Laid Z a0 "com/example/tidewise/tidewise/plan/HeldPlans" "com/example/tidewise/tidewise/plan/HeldPlans" "mask" "[J") (Or.inr (hw _ (List.mem_of_getElem? (i := 38) rfl)) : Laid Z a0 "com/example/tidewise/tidewise/plan/HeldPlans" "com/example/tidewise/tidewise/plan/HeldPlans" "upPerVm" "D") (by decide) pf_AJ pf_D))
  have f214 := f213.other W135 (Or.inr (slot_ne (Or.inl (hw _ (List.mem_of_getElem? (i := 33) rfl)) : Laid Z a0 "com/example/tidewise/tidewise/plan/HeldPlans" "com/example/tidewise/tidewise/plan/HeldPlans" "mask" "[J") (Or.inr (hw _ (List.mem_of_getElem? (i := 40) rfl)) : Laid Z a0 "com/example/tidewise/tidewise/plan/HeldPlans" "com/example/tidewise/tidewise/plan/HeldPlans" "downPerVm" "D") (by decide) pf_AJ pf_D))
  have f215 := f97w.other W116 (Or.inr (slot_ne (Or.inl (hw _ (List.mem_of_getElem? (i := 36) rfl)) : Laid Z a0 "com/example/tidewise/tidewise/plan/HeldPlans" "com/example/tidewise/tidewise/plan/HeldPlans" "origin" "[I") (Or.inr (hw _ (List.mem_of_getElem? (i := 38) rfl)) : Laid Z a0 "com/example/tidewise/tidewise/plan/HeldPlans" "com/example/tidewise/tidewise/plan/HeldPlans" "upPerVm" "D") (by decide) pf_AI pf_D))
  have f216 := f215.other W135 (Or.inr (slot_ne (Or.inl (hw _ (List.mem_of_getElem? (i := 36) rfl)) : Laid Z a0 "com/example/tidewise/tidewise/plan/HeldPlans" "com/example/tidewise/tidewise/plan/HeldPlans" "origin" "[I") (Or.inr (hw _ (List.mem_of_getElem? (i := 40) rfl)) : Laid Z a0 "com/example/tidewise/tidewise/plan/HeldPlans" "com/example/tidewise/tidewise/plan/HeldPlans" "downPerVm" "D") (by decide) pf_AI pf_D))
  have f217 := f2w.other W3 (Or.inr (slot_ne (Or.inl (hw _ (List.mem_of_getElem? (i := 12) rfl)) : Laid Z a0 "com/example/tidewise/tidewise/plan/HeldPlans" "com/example/tidewise/tidewise/plan/HeldPlans" "leastLost" "D") (Or.inl (hw _ (List.mem_of_getElem? (i := 14) rfl)) : Laid Z a0 "com/example/tidewise/tidewise/plan/HeldPlans" "com/example/tidewise/tidewise/plan/HeldPlans" "leastValue" "D") (by decide) pf_D pf_D))
  have f218 := f217.other W6 (Or.inr (slot_ne (Or.inl (hw _ (List.mem_of_getElem? (i := 12) rfl)) : Laid Z a0 "com/example/tidewise/tidewise/plan/HeldPlans" "com/example/tidewise/tidewise/plan/HeldPlans" "leastLost" "D") (Or.inl (hw _ (List.mem_of_getElem? (i := 17) rfl)) : Laid Z a0 "com/example/tidewise/tidewise/plan/HeldPlans" "com/example/tidewise/tidewise/plan/HeldPlans" "mostValue" "D") (by decide) pf_D pf_D))
  have f219 := f218.other W10 (Or.inr (slot_ne (Or.inl (hw _ (List.mem_of_getElem? (i := 12) rfl)) : Laid Z a0 "com/example/tidewise/tidewise/plan/HeldPlans" "com/example/tidewise/tidewise/plan/HeldPlans" "leastLost" "D") (Or.inl (hw _ (List.mem_of_getElem? (i := 19) rfl)) : Laid Z a0 "com/example/tidewise/tidewise/plan/HeldPlans" "com/example/tidewise/tidewise/plan/HeldPlans" "fewestWhole" "D") (by decide) pf_D pf_D))
  have f220 := f219.other W15 (Or.inr (slot_ne (Or.inl (hw _ (List.mem_of_getElem? (i := 12) rfl)) : Laid Z a0 "com/example/tidewise/tidewise/plan/HeldPlans" "com/example/tidewise/tidewise/plan/HeldPlans" "leastLost" "D") (Or.inl (hw _ (List.mem_of_getElem? (i := 21) rfl)) : Laid Z a0 "com/example/tidewise/tidewise/plan/HeldPlans" "com/example/tidewise/tidewise/plan/HeldPlans" "mostWhole" "D") (by decide) pf_D pf_D))
  have f221 := f220.ext E21
  have f222 := f221.other W23 (Or.inr (slot_ne (Or.inl (hw _ (List.mem_of_getElem? (i := 12) rfl)) : Laid Z a0 "com/example/tidewise/tidewise/plan/HeldPlans" "com/example/tidewise/tidewise/plan/HeldPlans" "leastLost" "D") (Or.inl (hw _ (List.mem_of_getElem? (i := 24) rfl)) : Laid Z a0 "com/example/tidewise/tidewise/plan/HeldPlans" "com/example/tidewise/tidewise/plan/HeldPlans" "whole" "[D") (by decide) pf_D pf_AD))
  have f223 := f222.ext E31
  have f224 := f223.other W33 (Or.inr (slot_ne (Or.inl (hw _ (List.mem_of_getElem? (i := 12) rfl)) : Laid Z a0 "com/example/tidewise/tidewise/plan/HeldPlans" "com/example/tidewise/tidewise/plan/HeldPlans" "leastLost" "D") (Or.inl (hw _ (List.mem_of_getElem? (i := 26) rfl)) : Laid Z a0 "com/example/tidewise/tidewise/plan/HeldPlans" "com/example/tidewise/tidewise/plan/HeldPlans" "part" "[D") (by decide) pf_D pf_AD))
  have f225 := f224.ext E44
  have f226 := f225.other W46 (Or.inr (slot_ne (Or.inl (hw _ (List.mem_of_getElem? (i := 12) rfl)) : Laid Z a0 "com/example/tidewise/tidewise/plan/HeldPlans" "com/example/tidewise/tidewise/plan/HeldPlans" "leastLost" "D") (Or.inl (hw _ (List.mem_of_getElem? (i := 28) rfl)) : Laid Z a0 "com/example/tidewise/tidewise/plan/HeldPlans" "com/example/tidewise/tidewise/plan/HeldPlans" "value" "[D") (by decide) pf_D pf_AD))
  have f227 := f226.ext E59
  have f228 := f227.other W61 (Or.inr (slot_ne (Or.inl (hw _ (List.mem_of_getElem? (i := 12) rfl)) : Laid Z a0 "com/example/tidewise/tidewise/plan/HeldPlans" "com/example/tidewise/tidewise/plan/HeldPlans" "leastLost" "D") (Or.inl (hw _ (List.mem_of_getElem? (i := 30) rfl)) : Laid Z a0 "com/example/tidewise/tidewise/plan/HeldPlans" "com/example/tidewise/tidewise/plan/HeldPlans" "lost" "[D") (by decide) pf_D pf_AD))
  have f229 := f228.ext E76
  have f230 := f229.other W78 (Or.inr (slot_ne (Or.inl (hw _ (List.mem_of_getElem? (i := 12) rfl)) : Laid Z a0 "com/example/tidewise/tidewise/plan/HeldPlans" "com/example/tidewise/tidewise/plan/HeldPlans" "leastLost" "D") (Or.inl (hw _ (List.mem_of_getElem? (i := 33) rfl)) : Laid Z a0 "com/example/tidewise/tidewise/plan/HeldPlans" "com/example/tidewise/tidewise/plan/HeldPlans" "mask" "[J") (by decide) pf_D pf_AJ))
  have f231 := f230.ext E95
  have f232 := f231.other W97 (Or.inr (slot_ne (Or.inl (hw _ (List.mem_of_getElem? (i := 12) rfl)) : Laid Z a0 "com/example/tidewise/tidewise/plan/HeldPlans" "com/example/tidewise/tidewise/plan/HeldPlans" "leastLost" "D") (Or.inl (hw _ (List.mem_of_getElem? (i := 36) rfl)) : Laid Z a0 "com/example/tidewise/tidewise/plan/HeldPlans" "com/example/tidewise/tidewise/plan/HeldPlans" "origin" "[I") (by decide) pf_D pf_AI))
  have f233 := f232.other W116 (Or.inr (slot_ne (Or.inl (hw _ (List.mem_of_getElem? (i := 12) rfl)) : Laid Z a0 "com/example/tidewise/tidewise/plan/HeldPlans" "com/example/tidewise/tidewise/plan/HeldPlans" "leastLost" "D") (Or.inr (hw _ (List.mem_of_getElem? (i := 38) rfl)) : Laid Z a0 "com/example/tidewise/tidewise/plan/HeldPlans" "com/example/tidewise/tidewise/plan/HeldPlans" "upPerVm" "D") (by decide) pf_D pf_D))
  have f234 := f233.other W135 (Or.inr (slot_ne (Or.inl (hw _ (List.mem_of_getElem? (i := 12) rfl)) : Laid Z a0 "com/example/tidewise/tidewise/plan/HeldPlans" "com/example/tidewise/tidewise/plan/HeldPlans" "leastLost" "D") (Or.inr (hw _ (List.mem_of_getElem? (i := 40) rfl)) : Laid Z a0 "com/example/tidewise/tidewise/plan/HeldPlans" "com/example/tidewise/tidewise/plan/HeldPlans" "downPerVm" "D") (by decide) pf_D pf_D))
  have f235 := f3w.other W6 (Or.inr (slot_ne (Or.inl (hw _ (List.mem_of_getElem? (i := 14) rfl)) : Laid Z a0 "com/example/tidewise/tidewise/plan/HeldPlans" "com/example/tidewise/tidewise/plan/HeldPlans" "leastValue" "D") (Or.inl (hw _ (List.mem_of_getElem? (i := 17) rfl)) : Laid Z a0 "com/example/tidewise/tidewise/plan/HeldPlans" "com/example/tidewise/tidewise/plan/HeldPlans" "mostValue" "D") (by decide) pf_D pf_D))
  have f236 := f235.other W10 (Or.inr (slot_ne (Or.inl (hw _ (List.mem_of_getElem? (i := 14) rfl)) : Laid Z a0 "com/example/tidewise/tidewise/plan/HeldPlans" "com/example/tidewise/tidewise/plan/HeldPlans" "leastValue" "D") (Or.inl (hw _ (List.mem_of_getElem? (i := 19) rfl)) : Laid Z a0 "com/example/tidewise/tidewise/plan/HeldPlans" "com/example/tidewise/tidewise/plan/HeldPlans" "fewestWhole" "D") (by decide) pf_D pf_D))
  have f237 := f236.other W15 (Or.inr (slot_ne (Or.inl (hw _ (List.mem_of_getElem? (i := 14) rfl)) : Laid Z a0 "com/example/tidewise/tidewise/plan/HeldPlans" "com/example/tidewise/tidewise/plan/HeldPlans" "leastValue" "D") (Or.inl (hw _ (List.mem_of_getElem? (i := 21) rfl)) : Laid Z a0 "com/example/tidewise/tidewise/plan/HeldPlans" "com/example/tidewise/tidewise/plan/HeldPlans" "mostWhole" "D") (by decide) pf_D pf_D))
  have f238 := f237.ext E21
  have f239 := f238.other W23 (Or.inr (slot_ne (Or.inl (hw _ (List.mem_of_getElem? (i := 14) rfl)) : Laid Z a0 "com/example/tidewise/tidewise/plan/HeldPlans" "com/example/tidewise/tidewise/plan/HeldPlans" "leastValue" "D") (Or.inl (hw _ (List.mem_of_getElem? (i := 24) rfl)) : Laid Z a0 "com/example/tidewise/tidewise/plan/HeldPlans" "com/example/tidewise/tidewise/plan/HeldPlans" "whole" "[D") (by decide) pf_D pf_AD))
  have f240 := f239.ext E31
  have f241 := f240.other W33 (Or.inr (slot_ne (Or.inl (hw _ (List.mem_of_getElem? (i := 14) rfl)) : Laid Z a0 "com/example/tidewise/tidewise/plan/HeldPlans" "com/example/tidewise/tidewise/plan/HeldPlans" "leastValue" "D") (Or.inl (hw _ (List.mem_of_getElem? (i := 26) rfl)) : Laid Z a0 "com/example/tidewise/tidewise/plan/HeldPlans" "com/example/tidewise/tidewise/plan/HeldPlans" "part" "[D") (by decide) pf_D pf_AD))
  have f242 := f241.ext E44
  have f243 := f242.other W46 (Or.inr (slot_ne (Or.inl (hw _ (List.mem_of_getElem? (i := 14) rfl)) : Laid Z a0 "com/example/tidewise/tidewise/plan/HeldPlans" "com/example/tidewise/tidewise/plan/HeldPlans" "leastValue" "D") (Or.inl (hw _ (List.mem_of_getElem? (i := 28) rfl)) : Laid Z a0 "com/example/tidewise/tidewise/plan/HeldPlans" "com/example/tidewise/tidewise/plan/HeldPlans" "value" "[D") (by decide) pf_D pf_AD))
  have f244 := f243.ext E59
  have f245 := f244.other W61 (Or.inr (slot_ne (Or.inl (hw _ (List.mem_of_getElem? (i := 14) rfl)) : Laid Z a0 "com/example/tidewise/tidewise/plan/HeldPlans" "com/example/tidewise/tidewise/plan/HeldPlans" "leastValue" "D") (Or.inl (hw _ (List.mem_of_getElem? (i := 30) rfl)) : Laid Z a0 "com/example/tidewise/tidewise/plan/HeldPlans" "com/example/tidewise/tidewise/plan/HeldPlans" "lost" "[D") (by decide) pf_D pf_AD))
  have f246 := f245.ext E76
  have f247 := f246.other W78 (Or.inr (slot_ne (Or.inl (hw _ (List.mem_of_getElem? (i := 14) rfl)) : Laid Z a0 "com/example/tidewise/tidewise/plan/HeldPlans" "com/example/tidewise/tidewise/plan/HeldPlans" "leastValue" "D") (Or.inl (hw _ (List.mem_of_getElem? (i := 33) rfl)) : Laid Z a0 "com/example/tidewise/tidewise/plan/HeldPlans" "com/example/tidewise/tidewise/plan/HeldPlans" "mask" "[J") (by decide) pf_D pf_AJ))
  have f248 := f247.ext E95
  have f249 := f248.other W97 (Or.inr (slot_ne (Or.inl (hw _ (List.mem_of_getElem? (i := 14) rfl)) : Laid Z a0 "com/example/tidewise/tidewise/plan/HeldPlans" "com/example/tidewise/tidewise/plan/HeldPlans" "leastValue" "D") (Or.inl (hw _ (List.mem_of_getElem? (i := 36) rfl)) : Laid Z a0 "com/example/tidewise/tidewise/plan/HeldPlans" "com/example/tidewise/tidewise/plan/HeldPlans" "origin" "[I") (by decide) pf_D pf_AI))
  have f250 := f249.other W116 (Or.inr (slot_ne (Or.inl (hw _ (List.mem_of_getElem? (i := 14) rfl)) : Laid Z a0 "com/example/tidewise/tidewise/plan/HeldPlans" "com/example/tidewise/tidewise/plan/HeldPlans" "leastValue" "D") (Or.inr (hw _ (List.mem_of_getElem? (i := 38) rfl)) : Laid Z a0 "com/example/tidewise/tidewise/plan/HeldPlans" "com/example/tidewise/tidewise/plan/HeldPlans" "upPerVm" "D") (by decide) pf_D pf_D))
  have f251 := f250.other W135 (Or.inr (slot_ne (Or.inl (hw _ (List.mem_of_getElem? (i := 14) rfl)) : Laid Z a0 "com/example/tidewise/tidewise/plan/HeldPlans" "com/example/tidewise/tidewise/plan/HeldPlans" "leastValue" "D") (Or.inr (hw _ (List.mem_of_getElem? (i := 40) rfl)) : Laid Z a0 "com/example/tidewise/tidewise/plan/HeldPlans" "com/example/tidewise/tidewise/plan/HeldPlans" "downPerVm" "D") (by decide) pf_D pf_D))
  have f252 := f6w.other W10 (Or.inr (slot_ne (Or.inl (hw _ (List.mem_of_getElem? (i := 17) rfl)) : Laid Z a0 "com/example/tidewise/tidewise/plan/HeldPlans" "com/example/tidewise/tidewise/plan/HeldPlans" "mostValue" "D") (Or.inl (hw _ (List.mem_of_getElem? (i := 19) rfl)) : Laid Z a0 "com/example/tidewise/tidewise/plan/HeldPlans" "com/example/tidewise/tidewise/plan/HeldPlans" "fewestWhole" "D") (by decide) pf_D pf_D))
  have f253 := f252.other W15 (Or.inr (slot_ne (Or.inl (hw _ (List.mem_of_getElem? (i := 17) rfl)) : Laid Z a0 "com/example/tidewise/tidewise/plan/HeldPlans" "com/example/tidewise/tidewise/plan/HeldPlans" "mostValue" "D") (Or.inl (hw _ (List.mem_of_getElem? (i := 21) rfl)) : Laid Z a0 "com/example/tidewise/tidewise/plan/HeldPlans" "com/example/tidewise/tidewise/plan/HeldPlans" "mostWhole" "D") (by decide) pf_D pf_D))
  have f254 := f253.ext E21
  have f255 := f254.other W23 (Or.inr (slot_ne (Or.inl (hw _ (List.mem_of_getElem? (i := 17) rfl)) : Laid Z a0 "com/example/tidewise/tidewise/plan/HeldPlans" "com/example/tidewise/tidewise/plan/HeldPlans" "mostValue" "D") (Or.inl (hw _ (List.mem_of_getElem? (i := 24) rfl)) : Laid Z a0 "com/example/tidewise/tidewise/plan/HeldPlans" "com/example/tidewise/tidewise/plan/HeldPlans" "whole" "[D") (by decide) pf_D pf_AD))
  have f256 := f255.ext E31
  have f257 := f256.other W33 (Or.inr (slot_ne (Or.inl (hw _ (List.mem_of_getElem? (i := 17) rfl)) : Laid Z a0 "com/example/tidewise/tidewise/plan/HeldPlans" "com/example/tidewise/tidewise/plan/HeldPlans" "mostValue" "D") (Or.inl (hw _ (List.mem_of_getElem? (i := 26) rfl)) : Laid Z a0 "com/example/tidewise/tidewise/plan/HeldPlans" "com/example/tidewise/tidewise/plan/HeldPlans" "part" "[D") (by decide) pf_D pf_AD))
  have f258 := f257.ext E44
  have f259 := f258.other W46 (Or.inr (slot_ne (Or.inl (hw _ (List.mem_of_getElem? (i := 17) rfl)) : Laid Z a0 "com/example/tidewise/tidewise/plan/HeldPlans" "com/example/tidewise/tidewise/plan/HeldPlans" "mostValue" "D") (Or.inl (hw _ (List.mem_of_getElem? (i := 28) rfl)) : Laid Z a0 "com/example/tidewise/tidewise/plan/HeldPlans" "com/example/tidewise/tidewise/plan/HeldPlans" "value" "[D") (by decide) pf_D pf_AD))
  have f260 := f259.ext E59
  have f261 := f260.other W61 (Or.inr (slot_ne (Or.inl (hw _ (List.mem_of_getElem? (i := 17) rfl)) : Laid Z a0 "com/example/tidewise/tidewise/plan/HeldPlans" "com/example/tidewise/tidewise/plan/HeldPlans" "mostValue" "D") (Or.inl (hw _ (List.mem_of_getElem? (i := 30) rfl)) : Laid Z a0 "com/example/tidewise/tidewise/plan/HeldPlans" "com/example/tidewise/tidewise/plan/HeldPlans" "lost" "[D") (by decide) pf_D pf_AD))
  have f262 := f261.ext E76
  have f263 := f262.other W78 (Or.inr (slot_ne (Or.inl (hw _ (List.mem_of_getElem? (i := 17) rfl)) : Laid Z a0 "com/example/tidewise/tidewise/plan/HeldPlans" "com/example/tidewise/tidewise/plan/HeldPlans" "mostValue" "D") (Or.inl (hw _ (List.mem_of_getElem? (i := 33) rfl)) : Laid Z a0 "com/example/tidewise/tidewise/plan/HeldPlans" "com/example/tidewise/tidewise/plan/HeldPlans" "mask" "[J") (by decide) pf_D pf_AJ))
  have f264 := f263.ext E95
  have f265 := f264.other W97 (Or.inr (slot_ne (Or.inl (hw _ (List.mem_of_getElem? (i := 17) rfl)) : Laid Z a0 "com/example/tidewise/tidewise/plan/HeldPlans" "com/example/tidewise/tidewise/plan/HeldPlans" "mostValue" "D") (Or.inl (hw _ (List.mem_of_getElem? (i := 36) rfl)) : Laid Z a0 "com/example/tidewise/tidewise/plan/HeldPlans" "com/example/tidewise/tidewise/plan/HeldPlans" "origin" "[I") (by decide) pf_D pf_AI))
  have f266 := f265.other W116 (Or.inr (slot_ne (Or.inl (hw _ (List.mem_of_getElem? (i := 17) rfl)) : Laid Z a0 "com/example/tidewise/tidewise/plan/HeldPlans" "com/example/tidewise/tidewise/plan/HeldPlans" "mostValue" "D") (Or.inr (hw _ (List.mem_of_getElem? (i := 38) rfl)) : Laid Z a0 "com/example/tidewise/tidewise/plan/HeldPlans" "com/example/tidewise/tidewise/plan/HeldPlans" "upPerVm" "D") (by decide) pf_D pf_D))
  have f267 := f266.other W135 (Or.inr (slot_ne (Or.inl (hw _ (List.mem_of_getElem? (i := 17) rfl)) : Laid Z a0 "com/example/tidewise/tidewise/plan/HeldPlans" "com/example/tidewise/tidewise/plan/HeldPlans" "mostValue" "D") (Or.inr (hw _ (List.mem_of_getElem? (i := 40) rfl)) : Laid Z a0 "com/example/tidewise/tidewise/plan/HeldPlans" "com/example/tidewise/tidewise/plan/HeldPlans" "downPerVm" "D") (by decide) pf_D pf_D))
  have f268 := f10w.other W15 (Or.inr (slot_ne (Or.inl (hw _ (List.mem_of_getElem? (i := 19) rfl)) : Laid Z a0 "com/example/tidewise/tidewise/plan/HeldPlans" "com/example/tidewise/tidewise/plan/HeldPlans" "fewestWhole" "D") (Or.inl (hw _ (List.mem_of_getElem? (i := 21) rfl)) : Laid Z a0 "com/example/tidewise/tidewise/plan/HeldPlans" "com/example/tidewise/tidewise/plan/HeldPlans" "mostWhole" "D") (by decide) pf_D pf_D))
  have f269 := f268.ext E21
  have f270 := f269.other W23 (Or.inr (slot_ne (Or.inl (hw _ (List.mem_of_getElem? (i := 19) rfl)) : Laid Z a0 "com/example/tidewise/tidewise/plan/HeldPlans" "com/example/tidewise/tidewise/plan/HeldPlans" "fewestWhole" "D") (Or.inl (hw _ (List.mem_of_getElem? (i := 24) rfl)) : Laid Z a0 "com/example/tidewise/tidewise/plan/HeldPlans" "com/example/tidewise/tidewise/plan/HeldPlans" "whole" "[D") (by decide) pf_D pf_AD))
  have f271 := f270.ext E31
  have f272 := f271.other W33 (Or.inr (slot_ne (Or.inl (hw _ (List.mem_of_getElem? (i := 19) rfl)) : Laid Z a0 "com/example/tidewise/tidewise/plan/HeldPlans" "com/example/tidewise/tidewise/plan/HeldPlans" "fewestWhole" "D") (Or.inl (hw _ (List.mem_of_getElem? (i := 26) rfl)) : Laid Z a0 "com/example/tidewise/tidewise/plan/HeldPlans" "com/example/tidewise/tidewise/plan/HeldPlans" "part" "[D") (by decide) pf_D pf_AD))
  have f273 := f272.ext E44
  have f274 := f273.other W46 (Or.inr (slot_ne (Or.inl (hw _ (List.mem_of_getElem? (i := 19) rfl)) : Laid Z a0 "com/example/tidewise/tidewise/plan/HeldPlans" "com/example/tidewise/tidewise/plan/HeldPlans" "fewestWhole" "D") (Or.inl (hw _ (List.mem_of_getElem? (i := 28) rfl)) : Laid Z a0 "com/example/tidewise/tidewise/plan/HeldPlans" "com/example/tidewise/tidewise/plan/HeldPlans" "value" "[D") (by decide) pf_D pf_AD))
  have f275 := f274.ext E59
  have f276 := f275.other W61 (Or.inr (slot_ne (Or.inl (hw _ (List.mem_of_getElem? (i := 19) rfl)) : Laid Z a0 "com/example/tidewise/tidewise/plan/HeldPlans" "com/example/tidewise/tidewise/plan/HeldPlans" "fewestWhole" "D") (Or.inl (hw _ (List.mem_of_getElem? (i := 30) rfl)) : Laid Z a0 "com/example/tidewise/tidewise/plan/HeldPlans" "com/example/tidewise/tidewise/plan/HeldPlans" "lost" "[D") (by decide) pf_D pf_AD))
  have f277 := f276.ext E76
  have f278 := f277.other W78 (Or.inr (slot_ne (Or.inl (hw _ (List.mem_of_getElem? (i := 19) rfl)) : Laid Z a0 "com/example/tidewise/tidewise/plan/HeldPlans" "com/example/tidewise/tidewise/plan/HeldPlans" "fewestWhole" "D") (Or.inl (hw _ (List.mem_of_getElem? (i := 33) rfl)) : Laid Z a0 "com/example/tidewise/tidewise/plan/HeldPlans" "com/example/tidewise/tidewise/plan/HeldPlans" "mask" "[J") (by decide) pf_D pf_AJ))
  have f279 := f278.ext E95
  have f280 := f279.other W97 (Or.inr (slot_ne (Or.inl (hw _ (List.mem_of_getElem? (i := 19) rfl)) : Laid Z a0 "com/example/tidewise/tidewise/plan/HeldPlans" "com/example/tidewise/tidewise/plan/HeldPlans" "fewestWhole" "D") (Or.inl (hw _ (List.mem_of_getElem? (i := 36) rfl)) : Laid Z a0 "com/example/tidewise/tidewise/plan/HeldPlans" "com/example/tidewise/tidewise/plan/HeldPlans" "origin" "[I") (by decide) pf_D pf_AI))
  have f281 := f280.other W116 (Or.inr (slot_ne (Or.inl (hw _ (List.mem_of_getElem? (i := 19) rfl)) : Laid Z a0 "com/example/tidewise/tidewise/plan/HeldPlans" "com/example/tidewise/tidewise/plan/HeldPlans" "fewestWhole" "D") (Or.inr (hw _ (List.mem_of_getElem? (i := 38) rfl)) : Laid Z a0 "com/example/tidewise/tidewise/plan/HeldPlans" "com/example/tidewise/tidewise/plan/HeldPlans" "upPerVm" "D") (by decide) pf_D pf_D))
  have f282 := f281.other W135 (Or.inr (slot_ne (Or.inl (hw _ (List.mem_of_getElem? (i := 19) rfl)) : Laid Z a0 "com/example/tidewise/tidewise/plan/HeldPlans" "com/example/tidewise/tidewise/plan/HeldPlans" "fewestWhole" "D") (Or.inr (hw _ (List.mem_of_getElem? (i := 40) rfl)) : Laid Z a0 "com/example/tidewise/tidewise/plan/HeldPlans" "com/example/tidewise/tidewise/plan/HeldPlans" "downPerVm" "D") (by decide) pf_D pf_D))
  have f283 := f15w.ext E21
  have f284 := f283.other W23 (Or.inr (slot_ne (Or.inl (hw _ (List.mem_of_getElem? (i := 21) rfl)) : Laid Z a0 "com/example/tidewise/tidewise/plan/HeldPlans" "com/example/tidewise/tidewise/plan/HeldPlans" "mostWhole" "D") (Or.inl (hw _ (List.mem_of_getElem? (i := 24) rfl)) : Laid Z a0 "com/example/tidewise/tidewise/plan/HeldPlans" "com/example/tidewise/tidewise/plan/HeldPlans" "whole" "[D") (by decide) pf_D pf_AD))
  have f285 := f284.ext E31
  have f286 := f285.other W33 (Or.inr (slot_ne (Or.inl (hw _ (List.mem_of_getElem? (i := 21) rfl)) : Laid Z a0 "com/example/tidewise/tidewise/plan/HeldPlans" "com/example/tidewise/tidewise/plan/HeldPlans" "mostWhole" "D") (Or.inl (hw _ (List.mem_of_getElem? (i := 26) rfl)) : Laid Z a0 "com/example/tidewise/tidewise/plan/HeldPlans" "com/example/tidewise/tidewise/plan/HeldPlans" "part" "[D") (by decide) pf_D pf_AD))
  have f287 := f286.ext E44
  have f288 := f287.other W46 (Or.inr (slot_ne (Or.inl (hw _ (List.mem_of_getElem? (i := 21) rfl)) : Laid Z a0 "com/example/tidewise/tidewise/plan/HeldPlans" "com/example/tidewise/tidewise/plan/HeldPlans" "mostWhole" "D") (Or.inl (hw _ (List.mem_of_getElem? (i := 28) rfl)) : Laid Z a0 "com/example/tidewise/tidewise/plan/HeldPlans" "com/example/tidewise/tidewise/plan/HeldPlans" "value" "[D") (by decide) pf_D pf_AD))
  have f289 := f288.ext E59
  have f290 := f289.other W61 (Or.inr (slot_ne (Or.inl (hw _ (List.mem_of_getElem? (i := 21) rfl)) : Laid Z a0 "com/example/tidewise/tidewise/plan/HeldPlans" "com/example/tidewise/tidewise/plan/HeldPlans" "mostWhole" "D") (Or.inl (hw _ (List.mem_of_getElem? (i := 30) rfl)) : Laid Z a0 "com/example/tidewise/tidewise/plan/HeldPlans" "com/example/tidewise/tidewise/plan/HeldPlans" "lost" "[D") (by decide) pf_D pf_AD))
  have f291 := f290.ext E76
  have f292 := f291.other W78 (Or.inr (slot_ne (Or.inl (hw _ (List.mem_of_getElem? (i := 21) rfl)) : Laid Z a0 "com/example/tidewise/tidewise/plan/HeldPlans" "com/example/tidewise/tidewise/plan/HeldPlans" "mostWhole" "D") (Or.inl (hw _ (List.mem_of_getElem? (i := 33) rfl)) : Laid Z a0 "com/example/tidewise/tidewise/plan/HeldPlans" "com/example/tidewise/tidewise/plan/HeldPlans" "mask" "[J") (by decide) pf_D pf_AJ))
  have f293 := f292.ext E95
  have f294 := f293.other W97 (Or.inr (slot_ne (Or.inl (hw _ (List.mem_of_getElem? (i := 21) rfl)) : Laid Z a0 "com/example/tidewise/tidewise/plan/HeldPlans" "com/example/tidewise/tidewise/plan/HeldPlans" "mostWhole" "D") (Or.inl (hw _ (List.mem_of_getElem? (i := 36) rfl)) : Laid Z a0 "com/example/tidewise/tidewise/plan/HeldPlans" "com/example/tidewise/tidewise/plan/HeldPlans" "origin" "[I") (by decide) pf_D pf_AI))
  have f295 := f294.other W116 (Or.inr (slot_ne (Or.inl (hw _ (List.mem_of_getElem? (i := 21) rfl)) : Laid Z a0 "com/example/tidewise/tidewise/plan/HeldPlans" "com/example/tidewise/tidewise/plan/HeldPlans" "mostWhole" "D") (Or.inr (hw _ (List.mem_of_getElem? (i := 38) rfl)) : Laid Z a0 "com/example/tidewise/tidewise/plan/HeldPlans" "com/example/tidewise/tidewise/plan/HeldPlans" "upPerVm" "D") (by decide) pf_D pf_D))
  have f296 := f295.other W135 (Or.inr (slot_ne (Or.inl (hw _ (List.mem_of_getElem? (i := 21) rfl)) : Laid Z a0 "com/example/tidewise/tidewise/plan/HeldPlans" "com/example/tidewise/tidewise/plan/HeldPlans" "mostWhole" "D") (Or.inr (hw _ (List.mem_of_getElem? (i := 40) rfl)) : Laid Z a0 "com/example/tidewise/tidewise/plan/HeldPlans" "com/example/tidewise/tidewise/plan/HeldPlans" "downPerVm" "D") (by decide) pf_D pf_D))
  have f297 := f32.ext E31
  have f298 := f297.other W33 (Nat.ne_of_gt lt_a_aw)
  have f299 := f298.ext E44
  have f300 := f299.other W46 (Nat.ne_of_gt lt_a_aw)
  have f301 := f300.ext E59
  have f302 := f301.other W61 (Nat.ne_of_gt lt_a_aw)
  have f303 := f302.ext E76
  have f304 := f303.other W78 (Nat.ne_of_gt lt_a_aw)
  have f305 := f304.ext E95
  have f306 := f305.other W97 (Nat.ne_of_gt lt_a_aw)
  have f307 := f306.other W116 (Nat.ne_of_gt lt_a_aw)
  have f308 := f307.other W135 (Nat.ne_of_gt lt_a_aw)
  have f309 := f45.ext E44
  have f310 := f309.other W46 (Nat.ne_of_gt lt_a_ap)
  have f311 := f310.ext E59
  have f312 := f311.other W61 (Nat.ne_of_gt lt_a_ap)
  have f313 := f312.ext E76
  have f314 := f313.other W78 (Nat.ne_of_gt lt_a_ap)
  have f315 := f314.ext E95
  have f316 := f315.other W97 (Nat.ne_of_gt lt_a_ap)
  have f317 := f316.other W116 (Nat.ne_of_gt lt_a_ap)
  have f318 := f317.other W135 (Nat.ne_of_gt lt_a_ap)
  have f319 := f60.ext E59
  have f320 := f319.other W61 (Nat.ne_of_gt lt_a_av)
  have f321 := f320.ext E76
  have f322 := f321.other W78 (Nat.ne_of_gt lt_a_av)
  have f323 := f322.ext E95
  have f324 := f323.other W97 (Nat.ne_of_gt lt_a_av)
  have f325 := f324.other W116 (Nat.ne_of_gt lt_a_av)
  have f326 := f325.other W135 (Nat.ne_of_gt lt_a_av)
  have f327 := f77.ext E76
  have f328 := f327.other W78 (Nat.ne_of_gt lt_a_al)
  have f329 := f328.ext E95
  have f330 := f329.other W97 (Nat.ne_of_gt lt_a_al)
  have f331 := f330.other W116 (Nat.ne_of_gt lt_a_al)
  have f332 := f331.other W135 (Nat.ne_of_gt lt_a_al)
  have f333 := f96.ext E95
  have f334 := f333.other W97 (Nat.ne_of_gt lt_a_am)
  have f335 := f334.other W116 (Nat.ne_of_gt lt_a_am)
  have f336 := f335.other W135 (Nat.ne_of_gt lt_a_am)
  have f337 := V95.other W97 (Nat.ne_of_gt lt_a_ao)
  have f338 := f337.other W116 (Nat.ne_of_gt lt_a_ao)
  have f339 := f338.other W135 (Nat.ne_of_gt lt_a_ao)
  obtain ⟨fs, hr, hrun, hended, hW, hsame⟩ := X135.leave (v := none) (fun _ => rfl)
  refine ⟨_, _, pre0 _ ?_, hrun, hended, _, _, rfl, ?_, ⟨_, rfl⟩, hW, hsame.mono (by decide) (by decide)⟩
  · show Steps p.tables e below (s₁.setTop (mkF m 0 #[.val (.ref a), .val (.double u), .second, .val (.double d), .second] [])) _
    refine XS.aloadN X0.here hx rfl (hb hby di_0) rfl rfl ?_
    show Steps p.tables e below (s₁.setTop (mkF m 1 #[.val (.ref a), .val (.double u), .second, .val (.double d), .second] [(.ref a)])) _
    refine st1 _ ?_
    show Steps p.tables e below (T1.setTop (mkF m 4 #[.val (.ref a), .val (.double u), .second, .val (.double d), .second] [])) _
    refine XS.aloadN X1.here hx rfl (hb hby di_4) rfl rfl ?_
    show Steps p.tables e below (T1.setTop (mkF m 5 #[.val (.ref a), .val (.double u), .second, .val (.double d), .second] [(.ref a)])) _
    refine X1.ldc2DoubleC hx hown (mvT hZ (hw _ (List.mem_of_getElem? (i := 10) rfl))) (g := (mkF m 5 #[.val (.ref a), .val (.double u), .second, .val (.double d), .second] [(.ref a)])) rfl (hb hby di_5) _ ?_
    show Steps p.tables e below (T1.setTop (mkF m 8 #[.val (.ref a), .val (.double u), .second, .val (.double d), .second] [(.double (9218868437227405312 : UInt64)), (.ref a)])) _
    refine st2 _ ?_
    show Steps p.tables e below (T2.setTop (mkF m 11 #[.val (.ref a), .val (.double u), .second, .val (.double d), .second] [])) _
    refine XS.aloadN X2.here hx rfl (hb hby di_11) rfl rfl ?_
    show Steps p.tables e below (T2.setTop (mkF m 12 #[.val (.ref a), .val (.double u), .second, .val (.double d), .second] [(.ref a)])) _
    refine X2.ldc2DoubleC hx hown (mvT hZ (hw _ (List.mem_of_getElem? (i := 10) rfl))) (g := (mkF m 12 #[.val (.ref a), .val (.double u), .second, .val (.double d), .second] [(.ref a)])) rfl (hb hby di_12) _ ?_
    show Steps p.tables e below (T2.setTop (mkF m 15 #[.val (.ref a), .val (.double u), .second, .val (.double d), .second] [(.double (9218868437227405312 : UInt64)), (.ref a)])) _
    refine st3 _ ?_
    show Steps p.tables e below (T3.setTop (mkF m 18 #[.val (.ref a), .val (.double u), .second, .val (.double d), .second] [])) _
    refine XS.aloadN X3.here hx rfl (hb hby di_18) rfl rfl ?_
    show Steps p.tables e below (T3.setTop (mkF m 19 #[.val (.ref a), .val (.double u), .second, .val (.double d), .second] [(.ref a)])) _
    refine X3.ldc2DoubleC hx hown (mvT hZ (hw _ (List.mem_of_getElem? (i := 15) rfl))) (g := (mkF m 19 #[.val (.ref a), .val (.double u), .second, .val (.double d), .second] [(.ref a)])) rfl (hb hby di_19) _ ?_
    show Steps p.tables e below (T3.setTop (mkF m 22 #[.val (.ref a), .val (.double u), .second, .val (.double d), .second] [(.double (18442240474082181120 : UInt64)), (.ref a)])) _
    refine st6 _ ?_
    show Steps p.tables e below (T6.setTop (mkF m 25 #[.val (.ref a), .val (.double u), .second, .val (.double d), .second] [])) _
    refine XS.aloadN X6.here hx rfl (hb hby di_25) rfl rfl ?_
    show Steps p.tables e below (T6.setTop (mkF m 26 #[.val (.ref a), .val (.double u), .second, .val (.double d), .second] [(.ref a)])) _
    refine X6.ldc2DoubleC hx hown (mvT hZ (hw _ (List.mem_of_getElem? (i := 10) rfl))) (g := (mkF m 26 #[.val (.ref a), .val (.double u), .second, .val (.double d), .second] [(.ref a)])) rfl (hb hby di_26) _ ?_
    show Steps p.tables e below (T6.setTop (mkF m 29 #[.val (.ref a), .val (.double u), .second, .val (.double d), .second] [(.double (9218868437227405312 : UInt64)), (.ref a)])) _
    refine st10 _ ?_
    show Steps p.tables e below (T10.setTop (mkF m 32 #[.val (.ref a), .val (.double u), .second, .val (.double d), .second] [])) _
    refine XS.aloadN X10.here hx rfl (hb hby di_32) rfl rfl ?_
    show Steps p.tables e below (T10.setTop (mkF m 33 #[.val (.ref a), .val (.double u), .second, .val (.double d), .second] [(.ref a)])) _
    refine X10.ldc2DoubleC hx hown (mvT hZ (hw _ (List.mem_of_getElem? (i := 15) rfl))) (g := (mkF m 33 #[.val (.ref a), .val (.double u), .second, .val (.double d), .second] [(.ref a)])) rfl (hb hby di_33) _ ?_
    show Steps p.tables e below (T10.setTop (mkF m 36 #[.val (.ref a), .val (.double u), .second, .val (.double d), .second] [(.double (18442240474082181120 : UInt64)), (.ref a)])) _
    refine st15 _ ?_
    show Steps p.tables e below (T15.setTop (mkF m 39 #[.val (.ref a), .val (.double u), .second, .val (.double d), .second] [])) _
    refine XS.aloadN X15.here hx rfl (hb hby di_39) rfl rfl ?_
    show Steps p.tables e below (T15.setTop (mkF m 40 #[.val (.ref a), .val (.double u), .second, .val (.double d), .second] [(.ref a)])) _
    refine XS.bipush X15.here hx rfl (hb hby di_40) ?_
    show Steps p.tables e below (T15.setTop (mkF m 42 #[.val (.ref a), .val (.double u), .second, .val (.double d), .second] [(.int (16 : Int32)), (.ref a)])) _
    refine st21 _ ?_
    show Steps p.tables e below (T21.setTop (mkF m 44 #[.val (.ref a), .val (.double u), .second, .val (.double d), .second] [(.ref aw), (.ref a)])) _
    refine st23 _ ?_
    show Steps p.tables e below (T23.setTop (mkF m 47 #[.val (.ref a), .val (.double u), .second, .val (.double d), .second] [])) _
    refine XS.aloadN X23.here hx rfl (hb hby di_47) rfl rfl ?_
    show Steps p.tables e below (T23.setTop (mkF m 48 #[.val (.ref a), .val (.double u), .second, .val (.double d), .second] [(.ref a)])) _
    refine XS.bipush X23.here hx rfl (hb hby di_48) ?_
    show Steps p.tables e below (T23.setTop (mkF m 50 #[.val (.ref a), .val (.double u), .second, .val (.double d), .second] [(.int (16 : Int32)), (.ref a)])) _
    refine st31 _ ?_
    show Steps p.tables e below (T31.setTop (mkF m 52 #[.val (.ref a), .val (.double u), .second, .val (.double d), .second] [(.ref ap), (.ref a)])) _
    refine st33 _ ?_
    show Steps p.tables e below (T33.setTop (mkF m 55 #[.val (.ref a), .val (.double u), .second, .val (.double d), .second] [])) _
    refine XS.aloadN X33.here hx rfl (hb hby di_55) rfl rfl ?_
    show Steps p.tables e below (T33.setTop (mkF m 56 #[.val (.ref a), .val (.double u), .second, .val (.double d), .second] [(.ref a)])) _
    refine XS.bipush X33.here hx rfl (hb hby di_56) ?_
    show Steps p.tables e below (T33.setTop (mkF m 58 #[.val (.ref a), .val (.double u), .second, .val (.double d), .second] [(.int (16 : Int32)), (.ref a)])) _
    refine st44 _ ?_
    show Steps p.tables e below (T44.setTop (mkF m 60 #[.val (.ref a), .val (.double u), .second, .val (.double d), .second] [(.ref av), (.ref a)])) _
    refine st46 _ ?_
    show Steps p.tables e below (T46.setTop (mkF m 63 #[.val (.ref a), .val (.double u), .second, .val (.double d), .second] [])) _
    refine XS.aloadN X46.here hx rfl (hb hby di_63) rfl rfl ?_
    show Steps p.tables e below (T46.setTop (mkF m 64 #[.val (.ref a), .val (.double u), .second, .val (.double d), .second] [(.ref a)])) _
    refine XS.bipush X46.here hx rfl (hb hby di_64) ?_
    show Steps p.tables e below (T46.setTop (mkF m 66 #[.val (.ref a), .val (.double u), .second, .val (.double d), .second] [(.int (16 : Int32)), (.ref a)])) _
    refine st59 _ ?_
    show Steps p.tables e below (T59.setTop (mkF m 68 #[.val (.ref a), .val (.double u), .second, .val (.double d), .second] [(.ref al), (.ref a)])) _
    refine st61 _ ?_
    show Steps p.tables e below (T61.setTop (mkF m 71 #[.val (.ref a), .val (.double u), .second, .val (.double d), .second] [])) _
    refine XS.aloadN X61.here hx rfl (hb hby di_71) rfl rfl ?_
    show Steps p.tables e below (T61.setTop (mkF m 72 #[.val (.ref a), .val (.double u), .second, .val (.double d), .second] [(.ref a)])) _
    refine XS.bipush X61.here hx rfl (hb hby di_72) ?_
    show Steps p.tables e below (T61.setTop (mkF m 74 #[.val (.ref a), .val (.double u), .second, .val (.double d), .second] [(.int (16 : Int32)), (.ref a)])) _
    refine st76 _ ?_
    show Steps p.tables e below (T76.setTop (mkF m 76 #[.val (.ref a), .val (.double u), .second, .val (.double d), .second] [(.ref am), (.ref a)])) _
    refine st78 _ ?_
    show Steps p.tables e below (T78.setTop (mkF m 79 #[.val (.ref a), .val (.double u), .second, .val (.double d), .second] [])) _
    refine XS.aloadN X78.here hx rfl (hb hby di_79) rfl rfl ?_
    show Steps p.tables e below (T78.setTop (mkF m 80 #[.val (.ref a), .val (.double u), .second, .val (.double d), .second] [(.ref a)])) _
    refine XS.bipush X78.here hx rfl (hb hby di_80) ?_
    show Steps p.tables e below (T78.setTop (mkF m 82 #[.val (.ref a), .val (.double u), .second, .val (.double d), .second] [(.int (16 : Int32)), (.ref a)])) _
    refine st95 _ ?_
    show Steps p.tables e below (T95.setTop (mkF m 84 #[.val (.ref a), .val (.double u), .second, .val (.double d), .second] [(.ref ao), (.ref a)])) _
    refine st97 _ ?_
    show Steps p.tables e below (T97.setTop (mkF m 87 #[.val (.ref a), .val (.double u), .second, .val (.double d), .second] [])) _
    refine XS.aloadN X97.here hx rfl (hb hby di_87) rfl rfl ?_
    show Steps p.tables e below (T97.setTop (mkF m 88 #[.val (.ref a), .val (.double u), .second, .val (.double d), .second] [(.ref a)])) _
    refine XS.dloadN X97.here hx rfl (hb hby di_88) rfl ?_
    show Steps p.tables e below (T97.setTop (mkF m 89 #[.val (.ref a), .val (.double u), .second, .val (.double d), .second] [(.double u), (.ref a)])) _
    refine st116 _ ?_
    show Steps p.tables e below (T116.setTop (mkF m 92 #[.val (.ref a), .val (.double u), .second, .val (.double d), .second] [])) _
    refine XS.aloadN X116.here hx rfl (hb hby di_92) rfl rfl ?_
    show Steps p.tables e below (T116.setTop (mkF m 93 #[.val (.ref a), .val (.double u), .second, .val (.double d), .second] [(.ref a)])) _
    refine XS.dloadN X116.here hx rfl (hb hby di_93) rfl ?_
    show Steps p.tables e below (T116.setTop (mkF m 94 #[.val (.ref a), .val (.double u), .second, .val (.double d), .second] [(.double d), (.ref a)])) _
    refine st135 _ ?_
    show Steps p.tables e below (T135.setTop (mkF m 97 #[.val (.ref a), .val (.double u), .second, .val (.double d), .second] [])) _
    exact X135.returnOut hx Bd.returns (hb hby di_97) hr
  · show Q1 Z a n0 _ T135.heap _
    rw [e135]
    exact ⟨rfl, N135, ⟨aw, ap, av, al, am, ao, k_aw, k_ap, k_av, k_al, k_am, k_ao, (9218868437227405312 : UInt64), (9218868437227405312 : UInt64), (18442240474082181120 : UInt64), (9218868437227405312 : UInt64), (18442240474082181120 : UInt64), _, _, _, _, _, ga, o_aw, o_ap, o_av, o_al, o_am, o_ao, f155, f174, f186, f196, f204, f210, f214, f216, f234, f251, f267, f282, f296, (by unfold NoNaN64; decide), (by unfold NoNaN64; decide), (by unfold NoNaN64; decide), (by unfold NoNaN64; decide), (by unfold NoNaN64; decide), f308, f318, f326, f332, f336, f339, rfl, rfl, rfl, rfl, rfl, rfl⟩⟩
theorem da_0 : decode prog_237_method_4_code 0 = .ok (.aload_n 0, 1) := by decide +kernel
theorem da_1 : decode prog_237_method_4_code 1 = .ok (.getfield 61, 3) := by decide +kernel
theorem da_4 : decode prog_237_method_4_code 4 = .ok (.aload_n 0, 1) := by decide +kernel
theorem da_5 : decode prog_237_method_4_code 5 = .ok (.getfield 31, 3) := by decide +kernel
theorem da_8 : decode prog_237_method_4_code 8 = .ok (.arraylength, 1) := by decide +kernel
theorem da_9 : decode prog_237_method_4_code 9 = .ok (.if_icmp .ne 7, 3) := by decide +kernel
theorem da_16 : decode prog_237_method_4_code 16 = .ok (.aload_n 0, 1) := by decide +kernel
theorem da_17 : decode prog_237_method_4_code 17 = .ok (.getfield 31, 3) := by decide +kernel
theorem da_20 : decode prog_237_method_4_code 20 = .ok (.aload_n 0, 1) := by decide +kernel
theorem da_21 : decode prog_237_method_4_code 21 = .ok (.getfield 61, 3) := by decide +kernel
theorem da_24 : decode prog_237_method_4_code 24 = .ok (.dload_n 1, 1) := by decide +kernel
theorem da_25 : decode prog_237_method_4_code 25 = .ok (.dastore, 1) := by decide +kernel
theorem da_26 : decode prog_237_method_4_code 26 = .ok (.aload_n 0, 1) := by decide +kernel
theorem da_27 : decode prog_237_method_4_code 27 = .ok (.getfield 35, 3) := by decide +kernel
theorem da_30 : decode prog_237_method_4_code 30 = .ok (.aload_n 0, 1) := by decide +kernel
theorem da_31 : decode prog_237_method_4_code 31 = .ok (.getfield 61, 3) := by decide +kernel
theorem da_34 : decode prog_237_method_4_code 34 = .ok (.dload_n 3, 1) := by decide +kernel
theorem da_35 : decode prog_237_method_4_code 35 = .ok (.dastore, 1) := by decide +kernel
theorem da_36 : decode prog_237_method_4_code 36 = .ok (.aload_n 0, 1) := by decide +kernel
theorem da_37 : decode prog_237_method_4_code 37 = .ok (.getfield 38, 3) := by decide +kernel
theorem da_40 : decode prog_237_method_4_code 40 = .ok (.aload_n 0, 1) := by decide +kernel
theorem da_41 : decode prog_237_method_4_code 41 = .ok (.getfield 61, 3) := by decide +kernel
theorem da_44 : decode prog_237_method_4_code 44 = .ok (.dload 5, 2) := by decide +kernel
theorem da_46 : decode prog_237_method_4_code 46 = .ok (.dastore, 1) := by decide +kernel
theorem da_47 : decode prog_237_method_4_code 47 = .ok (.aload_n 0, 1) := by decide +kernel
theorem da_48 : decode prog_237_method_4_code 48 = .ok (.getfield 41, 3) := by decide +kernel
theorem da_51 : decode prog_237_method_4_code 51 = .ok (.aload_n 0, 1) := by decide +kernel
theorem da_52 : decode prog_237_method_4_code 52 = .ok (.getfield 61, 3) := by decide +kernel
theorem da_55 : decode prog_237_method_4_code 55 = .ok (.dload 7, 2) := by decide +kernel
theorem da_57 : decode prog_237_method_4_code 57 = .ok (.dastore, 1) := by decide +kernel
theorem da_58 : decode prog_237_method_4_code 58 = .ok (.aload_n 0, 1) := by decide +kernel
theorem da_59 : decode prog_237_method_4_code 59 = .ok (.getfield 44, 3) := by decide +kernel
theorem da_62 : decode prog_237_method_4_code 62 = .ok (.aload_n 0, 1) := by decide +kernel
theorem da_63 : decode prog_237_method_4_code 63 = .ok (.getfield 61, 3) := by decide +kernel
theorem da_66 : decode prog_237_method_4_code 66 = .ok (.lload 9, 2) := by decide +kernel
theorem da_68 : decode prog_237_method_4_code 68 = .ok (.lastore, 1) := by decide +kernel
theorem da_69 : decode prog_237_method_4_code 69 = .ok (.aload_n 0, 1) := by decide +kernel
theorem da_70 : decode prog_237_method_4_code 70 = .ok (.getfield 48, 3) := by decide +kernel
theorem da_73 : decode prog_237_method_4_code 73 = .ok (.aload_n 0, 1) := by decide +kernel
theorem da_74 : decode prog_237_method_4_code 74 = .ok (.getfield 61, 3) := by decide +kernel
theorem da_77 : decode prog_237_method_4_code 77 = .ok (.iload 11, 2) := by decide +kernel
theorem da_79 : decode prog_237_method_4_code 79 = .ok (.iastore, 1) := by decide +kernel
theorem da_80 : decode prog_237_method_4_code 80 = .ok (.aload_n 0, 1) := by decide +kernel
theorem da_81 : decode prog_237_method_4_code 81 = .ok (.dup, 1) := by decide +kernel
theorem da_82 : decode prog_237_method_4_code 82 = .ok (.getfield 61, 3) := by decide +kernel
theorem da_85 : decode prog_237_method_4_code 85 = .ok (.iconst 1, 1) := by decide +kernel
theorem da_86 : decode prog_237_method_4_code 86 = .ok (.iadd, 1) := by decide +kernel
theorem da_87 : decode prog_237_method_4_code 87 = .ok (.putfield 61, 3) := by decide +kernel
theorem da_90 : decode prog_237_method_4_code 90 = .ok (.aload_n 0, 1) := by decide +kernel
theorem da_91 : decode prog_237_method_4_code 91 = .ok (.aload_n 0, 1) := by decide +kernel
theorem da_92 : decode prog_237_method_4_code 92 = .ok (.getfield 11, 3) := by decide +kernel
theorem da_95 : decode prog_237_method_4_code 95 = .ok (.dload 7, 2) := by decide +kernel
theorem da_97 : decode prog_237_method_4_code 97 = .ok (.invokestatic 68, 3) := by decide +kernel
theorem da_100 : decode prog_237_method_4_code 100 = .ok (.putfield 11, 3) := by decide +kernel
theorem da_103 : decode prog_237_method_4_code 103 = .ok (.aload_n 0, 1) := by decide +kernel
theorem da_104 : decode prog_237_method_4_code 104 = .ok (.aload_n 0, 1) := by decide +kernel
theorem da_105 : decode prog_237_method_4_code 105 = .ok (.getfield 17, 3) := by decide +kernel
theorem da_108 : decode prog_237_method_4_code 108 = .ok (.dload 5, 2) := by decide +kernel
theorem da_110 : decode prog_237_method_4_code 110 = .ok (.invokestatic 68, 3) := by decide +kernel
theorem da_113 : decode prog_237_method_4_code 113 = .ok (.putfield 17, 3) := by decide +kernel
theorem da_116 : decode prog_237_method_4_code 116 = .ok (.aload_n 0, 1) := by decide +kernel
theorem da_117 : decode prog_237_method_4_code 117 = .ok (.aload_n 0, 1) := by decide +kernel
theorem da_118 : decode prog_237_method_4_code 118 = .ok (.getfield 22, 3) := by decide +kernel
theorem da_121 : decode prog_237_method_4_code 121 = .ok (.dload 5, 2) := by decide +kernel
theorem da_123 : decode prog_237_method_4_code 123 = .ok (.invokestatic 74, 3) := by decide +kernel
theorem da_126 : decode prog_237_method_4_code 126 = .ok (.putfield 22, 3) := by decide +kernel
theorem da_129 : decode prog_237_method_4_code 129 = .ok (.aload_n 0, 1) := by decide +kernel
theorem da_130 : decode prog_237_method_4_code 130 = .ok (.aload_n 0, 1) := by decide +kernel
theorem da_131 : decode prog_237_method_4_code 131 = .ok (.getfield 25, 3) := by decide +kernel
theorem da_134 : decode prog_237_method_4_code 134 = .ok (.dload_n 1, 1) := by decide +kernel
theorem da_135 : decode prog_237_method_4_code 135 = .ok (.invokestatic 68, 3) := by decide +kernel
theorem da_138 : decode prog_237_method_4_code 138 = .ok (.putfield 25, 3) := by decide +kernel
theorem da_141 : decode prog_237_method_4_code 141 = .ok (.aload_n 0, 1) := by decide +kernel
theorem da_142 : decode prog_237_method_4_code 142 = .ok (.aload_n 0, 1) := by decide +kernel
theorem da_143 : decode prog_237_method_4_code 143 = .ok (.getfield 28, 3) := by decide +kernel
theorem da_146 : decode prog_237_method_4_code 146 = .ok (.dload_n 1, 1) := by decide +kernel
theorem da_147 : decode prog_237_method_4_code 147 = .ok (.invokestatic 74, 3) := by decide +kernel
theorem da_150 : decode prog_237_method_4_code 150 = .ok (.putfield 28, 3) := by decide +kernel
theorem da_153 : decode prog_237_method_4_code 153 = .ok (.return_, 1) := by decide +kernel
theorem ef_4 (m : MethodId) (a : Addr) (xw xf xv xl : UInt64) (xm : Int64) (xo : Int32) : entryFrame m #[(.ref a), (.double xw), (.double xf), (.double xv), (.double xl), (.long xm), (.int xo)] 12 = mkF m 0 #[.val (.ref a), .val (.double xw), .second, .val (.double xf), .second, .val (.double xv), .second, .val (.double xl), .second, .val (.long xm), .second, .val (.int xo)] [] := by first | (simp [entryFrame, mkF, argsToLocals, Value.category]; done) | rfl
def Q4 (Z : State) (a : Addr) (n : Int32) (vs : List Value) (xf : UInt64) (n0 : Nat) (v : Option Value) (h : Heap) (L : List Loc) : Prop := v = none ∧ Fr n0 L ∧ Inv Z h n0 a (n + (1 : Int32)) (vs.set n.toNatClampNeg (.double xf))
set_option maxRecDepth 65536 in
set_option maxHeartbeats 40000000 in
theorem rm4 (l : Launch) (Z : State) (a0 : Array Value) (hw : ∀ d ∈ tables_1, d.before a0 Z = true) (ws : List Jvm.Cond) (a : Addr) (n : Int32) (vs : List Value) (xw xf xv xl : UInt64) (xm : Int64) (xo : Int32) (h0 : Heap) (n0 : Nat) (I : Inv Z h0 n0 a n vs) (hn0 : ¬ n < 0) (hn16 : n < (16 : Int32)) (hne16 : ¬ (n = (16 : Int32))) (hnn : n.toNatClampNeg < 16) (nw : NoNaN64 xw) (nv : NoNaN64 xv) (nl : NoNaN64 xl) :
    MetFree l (⟨"com/example/tidewise/tidewise/plan/HeldPlans", "add", "(DDDDJI)V"⟩ : MethodName) (head1 (Jvm.Cond.code (⟨"com/example/tidewise/tidewise/plan/HeldPlans", "add", "(DDDDJI)V"⟩ : MethodName) prog_237_method_4_code 12 none :: ws) ({ frames := 1, cells := 0, slots := 0, locals := 16 } : Room)) (fun aU U => aU = #[(.ref a), (.double xw), (.double xf), (.double xv), (.double xl), (.long xm), (.int xo)] ∧ Z.Warmed39 U.vm ∧ U.heap = h0) (fun _ _ _ _ _ => True) (fun _ U o U' => ∃ v L, o = .returned v ∧ Q4 Z a n vs xf n0 v U'.heap L ∧ FrameEnd U o U' L ({ frames := 1, cells := 0, slots := 0, locals := 16 } : Room).cells ({ frames := 1, cells := 0, slots := 0, locals := 16 } : Room).slots) := by
  obtain ⟨aw, ap, av, al, am, ao, kaw, kap, kav, kal, kam, kao, x0, x1, x2, x3, x4, vaw, vav, val, vam, vao, ga, o1, o2, o3, o4, o5, o6, E_a, F_size, F_whole, F_part, F_value, F_lost, F_mask, F_origin, F_leastLost, F_leastValue, F_mostValue, F_fewestWhole, F_mostWhole, nx0, nx1, nx2, nx3, nx4, V_aw, V_ap, V_av, V_al, V_am, V_ao, l_aw, l_ap, l_av, l_al, l_am, l_ao⟩ := I
  refine MetFree.of_bodySF (plainFor_of_name pn_C) hisR ?_
  intro p e s m args below meth c s₁ Bd hml0 hP hK
  obtain ⟨rfl, hZ, hh⟩ := hP
  have hx := Bd.exec
  have hby := Bd.bytes
  have hml : c.maxLocals = 12 := hml0
  have hown : s.vm.findClass "com/example/tidewise/tidewise/plan/HeldPlans" = some m.cls := findClass_of_methodNamed Bd.named
  have hnm := (name_of_methodNamed Bd.named Bd.method).1
  have X0 : Stand p l e ({ frames := 1, cells := 0, slots := 0, locals := 16 } : Room) s m #[(.ref a), (.double xw), (.double xf), (.double xv), (.double xl), (.long xm), (.int xo)] below meth c s₁ [] 0 0 := Stand.of_body Bd
  have e0 : s₁.heap = h0 := by rw [← hh, Bd.state]; rfl
  have N0 := Fr.nil n0
  have pre0 : ∀ t, Steps p.tables e below (s₁.setTop (mkF m 0 #[.val (.ref a), .val (.double xw), .second, .val (.double xf), .second, .val (.double xv), .second, .val (.double xl), .second, .val (.long xm), .second, .val (.int xo)] [])) t → Steps p.tables e below (s₁.setTop (entryFrame m #[(.ref a), (.double xw), (.double xf), (.double xv), (.double xl), (.long xm), (.int xo)] 12)) t := fun t k => castTop (ef_4 m a xw xf xv xl xm xo) k
  have lt_a_aw : a < aw := o1
  have lt_a_ap : a < ap := (Nat.lt_trans o1 o2)
  have lt_a_av : a < av := (Nat.lt_trans o1 (Nat.lt_trans o2 o3))
  have lt_a_al : a < al := (Nat.lt_trans o1 (Nat.lt_trans o2 (Nat.lt_trans o3 o4)))
  have lt_a_am : a < am := (Nat.lt_trans o1 (Nat.lt_trans o2 (Nat.lt_trans o3 (Nat.lt_trans o4 o5))))
  have lt_a_ao : a < ao := (Nat.lt_trans o1 (Nat.lt_trans o2 (Nat.lt_trans o3 (Nat.lt_trans o4 (Nat.lt_trans o5 o6)))))
  have lt_aw_ap : aw < ap := o2
  have lt_aw_av : aw < av := (Nat.lt_trans o2 o3)
  have lt_aw_al : aw < al := (Nat.lt_trans o2 (Nat.lt_trans o3 o4))
  have lt_aw_am : aw < am := (Nat.lt_trans o2 (Nat.lt_trans o3 (Nat.lt_trans o4 o5)))
  have lt_aw_ao : aw < ao := (Nat.lt_trans o2 (Nat.lt_trans o3 (Nat.lt_trans o4 (Nat.lt_trans o5 o6))))
  have lt_ap_av : ap < av := o3
  have lt_ap_al : ap < al := (Nat.lt_trans o3 o4)
  have lt_ap_am : ap < am := (Nat.lt_trans o3 (Nat.lt_trans o4 o5))
  have lt_ap_ao : ap < ao := (Nat.lt_trans o3 (Nat.lt_trans o4 (Nat.lt_trans o5 o6)))
  have lt_av_al : av < al := o4
  have lt_av_am : av < am := (Nat.lt_trans o4 o5)
  have lt_av_ao : av < ao := (Nat.lt_trans o4 (Nat.lt_trans o5 o6))
  have lt_al_am : al < am := o5
  have lt_al_ao : al < ao := (Nat.lt_trans o5 o6)
  have lt_am_ao : am < ao := o6
  have g_aw : n0 ≤ aw := Nat.le_trans ga (Nat.le_of_lt lt_a_aw)
  have g_ap : n0 ≤ ap := Nat.le_trans ga (Nat.le_of_lt lt_a_ap)
  have g_av : n0 ≤ av := Nat.le_trans ga (Nat.le_of_lt lt_a_av)
  have g_al : n0 ≤ al := Nat.le_trans ga (Nat.le_of_lt lt_a_al)
  have g_am : n0 ≤ am := Nat.le_trans ga (Nat.le_of_lt lt_a_am)
  have g_ao : n0 ≤ ao := Nat.le_trans ga (Nat.le_of_lt lt_a_ao)
  obtain ⟨c_aw, A_aw, q_aw, S_aw, M_aw, H_aw, G_aw⟩ := V_aw
  have V_aw : Arv Z h0 aw kaw .double (16 : Int32) vaw (.double (0 : UInt64)) := ⟨c_aw, A_aw, q_aw, S_aw, M_aw, H_aw, G_aw⟩
  obtain ⟨T1, X1, e1, st1⟩ := getF X0 hx hZ hown (host := "") (Or.inl (hw _ (List.mem_of_getElem? (i := 47) rfl))) Via.refl e0 F_size (g := (mkF m 1 #[.val (.ref a), .val (.double xw), .second, .val (.double xf), .second, .val (.double xv), .second, .val (.double xl), .second, .val (.long xm), .second, .val (.int xo)] [(.ref a)])) rfl rfl (hb hby da_1)
  obtain ⟨T2, X2, e2, st2⟩ := getF X1 hx hZ hown (host := "") (Or.inl (hw _ (List.mem_of_getElem? (i := 23) rfl))) Via.refl e1 F_whole (g := (mkF m 5 #[.val (.ref a), .val (.double xw), .second, .val (.double xf), .second, .val (.double xv), .second, .val (.double xl), .second, .val (.long xm), .second, .val (.int xo)] [(.ref a), (.int n)])) rfl rfl (hb hby da_5)
  obtain ⟨T3, X3, e3, st3⟩ := getF X2 hx hZ hown (host := "") (Or.inl (hw _ (List.mem_of_getElem? (i := 23) rfl))) Via.refl e2 F_whole (g := (mkF m 17 #[.val (.ref a), .val (.double xw), .second, .val (.double xf), .second, .val (.double xv), .second, .val (.double xl), .second, .val (.long xm), .second, .val (.int xo)] [(.ref a)])) rfl rfl (hb hby da_17)
  obtain ⟨T4, X4, e4, st4⟩ := getF X3 hx hZ hown (host := "") (Or.inl (hw _ (List.mem_of_getElem? (i := 47) rfl))) Via.refl e3 F_size (g := (mkF m 21 #[.val (.ref a), .val (.double xw), .second, .val (.double xf), .second, .val (.double xv), .second, .val (.double xl), .second, .val (.long xm), .second, .val (.int xo)] [(.ref a), (.ref aw)])) rfl rfl (hb hby da_21)
  obtain ⟨c_aw, A_aw, q_aw, S_aw, M_aw, H_aw, G_aw⟩ := V_aw
  have in5 : ¬ (n < 0 ∨ c_aw.slots.size ≤ (n).toNatClampNeg) := inb_of S_aw ⟨hn0, hn16⟩
  obtain ⟨T5, h5, X5, e5, W5, st5⟩ := stD X4 hx hZ e4 A_aw (j := n) in5 (g := (mkF m 25 #[.val (.ref a), .val (.double xw), .second, .val (.double xf), .second, .val (.double xv), .second, .val (.double xl), .second, .val (.long xm), .second, .val (.int xo)] [(.double xw), (.int n), (.ref aw)])) rfl rfl (hb hby da_25)
  have f5v := Arv.set A_aw q_aw S_aw M_aw H_aw G_aw rfl W5 (n).toNatClampNeg rfl (by rw [l_aw]; exact hnn)
  have N5 := Fr.snoc X5 N0 g_aw
  have f7 := F_part.other W5 (Or.inl (Nat.ne_of_lt lt_a_aw))
  obtain ⟨T6, X6, e6, st6⟩ := getF X5 hx hZ hown (host := "") (Or.inl (hw _ (List.mem_of_getElem? (i := 25) rfl))) Via.refl e5 f7 (g := (mkF m 27 #[.val (.ref a), .val (.double xw), .second, .val (.double xf), .second, .val (.double xv), .second, .val (.double xl), .second, .val (.long xm), .second, .val (.int xo)] [(.ref a)])) rfl rfl (hb hby da_27)
  have f9 := F_size.other W5 (Or.inl (Nat.ne_of_lt lt_a_aw))
  obtain ⟨T8, X8, e8, st8⟩ := getF X6 hx hZ hown (host := "") (Or.inl (hw _ (List.mem_of_getElem? (i := 47) rfl))) Via.refl e6 f9 (g := (mkF m 31 #[.val (.ref a), .val (.double xw), .second, .val (.double xf), .second, .val (.double xv), .second, .val (.double xl), .second, .val (.long xm), .second, .val (.int xo)] [(.ref a), (.ref ap)])) rfl rfl (hb hby da_31)
  have f11 := V_ap.other W5 (Nat.ne_of_gt lt_aw_ap)
  obtain ⟨c_ap, A_ap, q_ap, S_ap, M_ap, H_ap, G_ap⟩ := f11
  have in10 : ¬ (n < 0 ∨ c_ap.slots.size ≤ (n).toNatClampNeg) := inb_of S_ap ⟨hn0, hn16⟩
  obtain ⟨T10, h10, X10, e10, W10, st10⟩ := stD X8 hx hZ e8 A_ap (j := n) in10 (g := (mkF m 35 #[.val (.ref a), .val (.double xw), .second, .val (.double xf), .second, .val (.double xv), .second, .val (.double xl), .second, .val (.long xm), .second, .val (.int xo)] [(.double xf), (.int n), (.ref ap)])) rfl rfl (hb hby da_35)
  have f10v := Arv.set A_ap q_ap S_ap M_ap H_ap G_ap rfl W10 (n).toNatClampNeg rfl (by rw [l_ap]; exact hnn)
  have N10 := Fr.snoc X10 N5 g_ap
  have f13 := F_value.other W5 (Or.inl (Nat.ne_of_lt lt_a_aw))
  have f14 := f13.other W10 (Or.inl (Nat.ne_of_lt lt_a_ap))
  obtain ⟨T12, X12, e12, st12⟩ := getF X10 hx hZ hown (host := "") (Or.inl (hw _ (List.mem_of_getElem? (i := 27) rfl))) Via.refl e10 f14 (g := (mkF m 37 #[.val (.ref a), .val (.double xw), .second, .val (.double xf), .second, .val (.double xv), .second, .val (.double xl), .second, .val (.long xm), .second, .val (.int xo)] [(.ref a)])) rfl rfl (hb hby da_37)
  have f16 := f9.other W10 (Or.inl (Nat.ne_of_lt lt_a_ap))
  obtain ⟨T15, X15, e15, st15⟩ := getF X12 hx hZ hown (host := "") (Or.inl (hw _ (List.mem_of_getElem? (i := 47) rfl))) Via.refl e12 f16 (g := (mkF m 41 #[.val (.ref a), .val (.double xw), .second, .val (.double xf), .second, .val (.double xv), .second, .val (.double xl), .second, .val (.long xm), .second, .val (.int xo)] [(.ref a), (.ref av)])) rfl rfl (hb hby da_41)
  have f18 := V_av.other W5 (Nat.ne_of_gt lt_aw_av)
  have f19 := f18.other W10 (Nat.ne_of_gt lt_ap_av)
  obtain ⟨c_av, A_av, q_av, S_av, M_av, H_av, G_av⟩ := f19
  have in17 : ¬ (n < 0 ∨ c_av.slots.size ≤ (n).toNatClampNeg) := inb_of S_av ⟨hn0, hn16⟩
  obtain ⟨T17, h17, X17, e17, W17, st17⟩ := stD X15 hx hZ e15 A_av (j := n) in17 (g := (mkF m 46 #[.val (.ref a), .val (.double xw), .second, .val (.double xf), .second, .val (.double xv), .second, .val (.double xl), .second, .val (.long xm), .second, .val (.int xo)] [(.double xv), (.int n), (.ref av)])) rfl rfl (hb hby da_46)
  have f17v := Arv.set A_av q_av S_av M_av H_av G_av rfl W17 (n).toNatClampNeg rfl (by rw [l_av]; exact hnn)
  have N17 := Fr.snoc X17 N10 g_av
  have f21 := F_lost.other W5 (Or.inl (Nat.ne_of_lt lt_a_aw))
  have f22 := f21.other W10 (Or.inl (Nat.ne_of_lt lt_a_ap))
  have f23 := f22.other W17 (Or.inl (Nat.ne_of_lt lt_a_av))
  obtain ⟨T20, X20, e20, st20⟩ := getF X17 hx hZ hown (host := "") (Or.inl (hw _ (List.mem_of_getElem? (i := 29) rfl))) Via.refl e17 f23 (g := (mkF m 48 #[.val (.ref a), .val (.double xw), .second, .val (.double xf), .second, .val (.double xv), .second, .val (.double xl), .second, .val (.long xm), .second, .val (.int xo)] [(.ref a)])) rfl rfl (hb hby da_48)
  have f25 := f16.other W17 (Or.inl (Nat.ne_of_lt lt_a_av))
  obtain ⟨T24, X24, e24, st24⟩ := getF X20 hx hZ hown (host := "") (Or.inl (hw _ (List.mem_of_getElem? (i := 47) rfl))) Via.refl e20 f25 (g := (mkF m 52 #[.val (.ref a), .val (.double xw), .second, .val (.double xf), .second, .val (.double xv), .second, .val (.double xl), .second, .val (.long xm), .second, .val (.int xo)] [(.ref a), (.ref al)])) rfl rfl (hb hby da_52)
  have f27 := V_al.other W5 (Nat.ne_of_gt lt_aw_al)
  have f28 := f27.other W10 (Nat.ne_of_gt lt_ap_al)
  have f29 := f28.other W17 (Nat.ne_of_gt lt_av_al)
  obtain ⟨c_al, A_al, q_al, S_al, M_al, H_al, G_al⟩ := f29
  have in26 : ¬ (n < 0 ∨ c_al.slots.size ≤ (n).toNatClampNeg) := inb_of S_al ⟨hn0, hn16⟩
  obtain ⟨T26, h26, X26, e26, W26, st26⟩ := stD X24 hx hZ e24 A_al (j := n) in26 (g := (mkF m 57 #[.val (.ref a), .val (.double xw), .second, .val (.double xf), .second, .val (.double xv), .second, .val (.double xl), .second, .val (.long xm), .second, .val (.int xo)] [(.double xl), (.int n), (.ref al)])) rfl rfl (hb hby da_57)
  have f26v := Arv.set A_al q_al S_al M_al H_al G_al rfl W26 (n).toNatClampNeg rfl (by rw [l_al]; exact hnn)
  have N26 := Fr.snoc X26 N17 g_al
  have f31 := F_mask.other W5 (Or.inl (Nat.ne_of_lt lt_a_aw))
  have f32 := f31.other W10 (Or.inl (Nat.ne_of_lt lt_a_ap))
  have f33 := f32.other W17 (Or.inl (Nat.ne_of_lt lt_a_av))
  have f34 := f33.other W26 (Or.inl (Nat.ne_of_lt lt_a_al))
  obtain ⟨T30, X30, e30, st30⟩ := getF X26 hx hZ hown (host := "") (Or.inl (hw _ (List.mem_of_getElem? (i := 32) rfl))) Via.refl e26 f34 (g := (mkF m 59 #[.val (.ref a), .val (.double xw), .second, .val (.double xf), .second, .val (.double xv), .second, .val (.double xl), .second, .val (.long xm), .second, .val (.int xo)] [(.ref a)])) rfl rfl (hb hby da_59)
  have f36 := f25.other W26 (Or.inl (Nat.ne_of_lt lt_a_al))
  obtain ⟨T35, X35, e35, st35⟩ := getF X30 hx hZ hown (host := "") (Or.inl (hw _ (List.mem_of_getElem? (i := 47) rfl))) Via.refl e30 f36 (g := (mkF m 63 #[.val (.ref a), .val (.double xw), .second, .val (.double xf), .second, .val (.double xv), .second, .val (.double xl), .second, .val (.long xm), .second, .val (.int xo)] [(.ref a), (.ref am)])) rfl rfl (hb hby da_63)
  have f38 := V_am.other W5 (Nat.ne_of_gt lt_aw_am)
  have f39 := f38.other W10 (Nat.ne_of_gt lt_ap_am)
  have f40 := f39.other W17 (Nat.ne_of_gt lt_av_am)
  have f41 := f40.other W26 (Nat.ne_of_gt lt_al_am)
  obtain ⟨c_am, A_am, q_am, S_am, M_am, H_am, G_am⟩ := f41
  have in37 : ¬ (n < 0 ∨ c_am.slots.size ≤ (n).toNatClampNeg) := inb_of S_am ⟨hn0, hn16⟩
  obtain ⟨T37, h37, X37, e37, W37, st37⟩ := stJ X35 hx hZ e35 A_am (j := n) in37 (g := (mkF m 68 #[.val (.ref a), .val (.double xw), .second, .val (.double xf), .second, .val (.double xv), .second, .val (.double xl), .second, .val (.long xm), .second, .val (.int xo)] [(.long xm), (.int n), (.ref am)])) rfl rfl (hb hby da_68)
  have f37v := Arv.set A_am q_am S_am M_am H_am G_am rfl W37 (n).toNatClampNeg rfl (by rw [l_am]; exact hnn)
  have N37 := Fr.snoc X37 N26 g_am
  have f43 := F_origin.other W5 (Or.inl (Nat.ne_of_lt lt_a_aw))
  have f44 := f43.other W10 (Or.inl (Nat.ne_of_lt lt_a_ap))
  have f45 := f44.other W17 (Or.inl (Nat.ne_of_lt lt_a_av))
  have f46 := f45.other W26 (Or.inl (Nat.ne_of_lt lt_a_al))
  have f47 := f46.other W37 (Or.inl (Nat.ne_of_lt lt_a_am))
  obtain ⟨T42, X42, e42, st42⟩ := getF X37 hx hZ hown (host := "") (Or.inl (hw _ (List.mem_of_getElem? (i := 35) rfl))) Via.refl e37 f47 (g := (mkF m 70 #[.val (.ref a), .val (.double xw), .second, .val (.double xf), .second, .val (.double xv), .second, .val (.double xl), .second, .val (.long xm), .second, .val (.int xo)] [(.ref a)])) rfl rfl (hb hby da_70)
  have f49 := f36.other W37 (Or.inl (Nat.ne_of_lt lt_a_am))
  obtain ⟨T48, X48, e48, st48⟩ := getF X42 hx hZ hown (host := "") (Or.inl (hw _ (List.mem_of_getElem? (i := 47) rfl))) Via.refl e42 f49 (g := (mkF m 74 #[.val (.ref a), .val (.double xw), .second, .val (.double xf), .second, .val (.double xv), .second, .val (.double xl), .second, .val (.long xm), .second, .val (.int xo)] [(.ref a), (.ref ao)])) rfl rfl (hb hby da_74)
  have f51 := V_ao.other W5 (Nat.ne_of_gt lt_aw_ao)
  have f52 := f51.other W10 (Nat.ne_of_gt lt_ap_ao)
  have f53 := f52.other W17 (Nat.ne_of_gt lt_av_ao)
  have f54 := f53.other W26 (Nat.ne_of_gt lt_al_ao)
  have f55 := f54.other W37 (Nat.ne_of_gt lt_am_ao)
  obtain ⟨c_ao, A_ao, q_ao, S_ao, M_ao, H_ao, G_ao⟩ := f55
  have in50 : ¬ (n < 0 ∨ c_ao.slots.size ≤ (n).toNatClampNeg) := inb_of S_ao ⟨hn0, hn16⟩
  obtain ⟨T50, h50, X50, e50, W50, st50⟩ := stI X48 hx hZ e48 A_ao (j := n) in50 (g := (mkF m 79 #[.val (.ref a), .val (.double xw), .second, .val (.double xf), .second, .val (.double xv), .second, .val (.double xl), .second, .val (.long xm), .second, .val (.int xo)] [(.int xo), (.int n), (.ref ao)])) rfl rfl (hb hby da_79)
  have f50v := Arv.set A_ao q_ao S_ao M_ao H_ao G_ao rfl W50 (n).toNatClampNeg rfl (by rw [l_ao]; exact hnn)
  have N50 := Fr.snoc X50 N37 g_ao
  have f57 := f49.other W50 (Or.inl (Nat.ne_of_lt lt_a_ao))
  obtain ⟨T56, X56, e56, st56⟩ := getF X50 hx hZ hown (host := "") (Or.inl (hw _ (List.mem_of_getElem? (i := 47) rfl))) Via.refl e50 f57 (g := (mkF m 82 #[.val (.ref a), .val (.double xw), .second, .val (.double xf), .second, .val (.double xv), .second, .val (.double xl), .second, .val (.long xm), .second, .val (.int xo)] [(.ref a), (.ref a)])) rfl rfl (hb hby da_82)
  have f59 := E_a.wr W5
  have f60 := f59.wr W10
  have f61 := f60.wr W17
  have f62 := f61.wr W26
  have f63 := f62.wr W37
  have f64 := f63.wr W50
  obtain ⟨T58, h58, X58, e58, W58, st58⟩ := putF X56 hx hZ hown (host := "") (Or.inl (hw _ (List.mem_of_getElem? (i := 47) rfl))) Via.refl e56 f57 f64 (Or.inl (hw _ (List.mem_of_getElem? (i := 48) rfl))) (hw _ (List.mem_of_getElem? (i := 2) rfl)) (ty := .int) (by decide) rfl rfl (g := (mkF m 87 #[.val (.ref a), .val (.double xw), .second, .val (.double xf), .second, .val (.double xv), .second, .val (.double xl), .second, .val (.long xm), .second, .val (.int xo)] [(.int (n + (1 : Int32))), (.ref a)])) rfl rfl (hb hby da_87)
  have f58w := f57.same W58
  have N58 := Fr.snoc X58 N50 ga
  have f66 := F_leastLost.other W5 (Or.inl (Nat.ne_of_lt lt_a_aw))
  have f67 := f66.other W10 (Or.inl (Nat.ne_of_lt lt_a_ap))
  have f68 := f67.other W17 (Or.inl (Nat.ne_of_lt lt_a_av))
  have f69 := f68.other W26 (Or.inl (Nat.ne_of_lt lt_a_al))
  have f70 := f69.other W37 (Or.inl (Nat.ne_of_lt lt_a_am))
  have f71 := f70.other W50 (Or.inl (Nat.ne_of_lt lt_a_ao))
  have f72 := f71.other W58 (Or.inr (slot_ne (Or.inl (hw _ (List.mem_of_getElem? (i := 12) rfl)) : Laid Z a0 "com/example/tidewise/tidewise/plan/HeldPlans" "com/example/tidewise/tidewise/plan/HeldPlans" "leastLost" "D") (Or.inl (hw _ (List.mem_of_getElem? (i := 48) rfl)) : Laid Z a0 "com/example/tidewise/tidewise/plan/HeldPlans" "com/example/tidewise/tidewise/plan/HeldPlans" "size" "I") (by decide) pf_D pf_I))
  obtain ⟨T65, X65, e65, st65⟩ := getF X58 hx hZ hown (host := "") (Or.inl (hw _ (List.mem_of_getElem? (i := 11) rfl))) Via.refl e58 f72 (g := (mkF m 92 #[.val (.ref a), .val (.double xw), .second, .val (.double xf), .second, .val (.double xv), .second, .val (.double xl), .second, .val (.long xm), .second, .val (.int xo)] [(.ref a), (.ref a)])) rfl rfl (hb hby da_92)
  obtain ⟨T73, X73, e73, st73⟩ := natS X65 hx hZ (y := Jvm.Free.Fl.Abs.minDN) hown (hw _ (List.mem_of_getElem? (i := 54) rfl)) (hw _ (List.mem_of_getElem? (i := 55) rfl)) (hw _ (List.mem_of_getElem? (i := 56) rfl)) (by0 := Jvm.Free.Fl.Abs.minDCode) (hw _ (List.mem_of_getElem? (i := 57) rfl)) (by decide) e65 (W := 1) (F := fun a' => a' = #[.double x0, .double xl] ∧ NoNaN64 x0 ∧ NoNaN64 xl) (val' := .double (Native.java_lang_Math.nans.pick64 false x0 xl)) (fun hc => Jvm.Free.Fl.Abs.minD_pays (len := 3) (W := 1) x0 xl hc (by decide) (by decide)) (g := (mkF m 97 #[.val (.ref a), .val (.double xw), .second, .val (.double xf), .second, .val (.double xv), .second, .val (.double xl), .second, .val (.long xm), .second, .val (.int xo)] [(.double xl), (.double x0), (.ref a)])) rfl (by rw [hml]; rfl) (argsL := [.double x0, .double xl]) (rest := [(.ref a)]) (lenOf pd_mm rfl) rfl (by show 2 * 0 + _ ≤ _; exact Nat.le_of_eq rfl) (hb hby da_97) (by decide) (by decide) ⟨rfl, nx0, nl⟩ rfl
  have f75 := f64.wr W58
  obtain ⟨T74, h74, X74, e74, W74, st74⟩ := putF X73 hx hZ hown (host := "") (Or.inl (hw _ (List.mem_of_getElem? (i := 11) rfl))) Via.refl e73 f72 f75 (Or.inl (hw _ (List.mem_of_getElem? (i := 12) rfl))) (hw _ (List.mem_of_getElem? (i := 2) rfl)) (ty := .double) (by decide) rfl rfl (g := (mkF m 100 #[.val (.ref a), .val (.double xw), .second, .val (.double xf), .second, .val (.double xv), .second, .val (.double xl), .second, .val (.long xm), .second, .val (.int xo)] [(.double (Native.java_lang_Math.nans.pick64 false x0 xl)), (.ref a)])) rfl rfl (hb hby da_100)
  have f74w := f72.same W74
  have N74 := Fr.snoc X74 N58 ga
  have f77 := F_leastValue.other W5 (Or.inl (Nat.ne_of_lt lt_a_aw))
  have f78 := f77.other W10 (Or.inl (Nat.ne_of_lt lt_a_ap))
  have f79 := f78.other W17 (Or.inl (Nat.ne_of_lt lt_a_av))
  have f80 := f79.other W26 (Or.inl (Nat.ne_of_lt lt_a_al))
  have f81 := f80.other W37 (Or.inl (Nat.ne_of_lt lt_a_am))
  have f82 := f81.other W50 (Or.inl (Nat.ne_of_lt lt_a_ao))
  have f83 := f82.other W58 (Or.inr (slot_ne (Or.inl (hw _ (List.mem_of_getElem? (i := 14) rfl)) : Laid Z a0 "com/example/tidewise/tidewise/plan/HeldPlans" "com/example/tidewise/tidewise/plan/HeldPlans" "leastValue" "D") (Or.inl (hw _ (List.mem_of_getElem? (i := 48) rfl)) : Laid Z a0 "com/example/tidewise/tidewise/plan/HeldPlans" "com/example/tidewise/tidewise/plan/HeldPlans" "size" "I") (by decide) pf_D pf_I))
  have f84 := f83.other W74 (Or.inr (slot_ne (Or.inl (hw _ (List.mem_of_getElem? (i := 14) rfl)) : Laid Z a0 "com/example/tidewise/tidewise/plan/HeldPlans" "com/example/tidewise/tidewise/plan/HeldPlans" "leastValue" "D") (Or.inl (hw _ (List.mem_of_getElem? (i := 12) rfl)) : Laid Z a0 "com/example/tidewise/tidewise/plan/HeldPlans" "com/example/tidewise/tidewise/plan/HeldPlans" "leastLost" "D") (by decide) pf_D pf_D))
  obtain ⟨T76, X76, e76, st76⟩ := getF X74 hx hZ hown (host := "") (Or.inl (hw _ (List.mem_of_getElem? (i := 13) rfl))) Via.refl e74 f84 (g := (mkF m 105 #[.val (.ref a), .val (.double xw), .second, .val (.double xf), .second, .val (.double xv), .second, .val (.double xl), .second, .val (.long xm), .second, .val (.int xo)] [(.ref a), (.ref a)])) rfl rfl (hb hby da_105)
  obtain ⟨T85, X85, e85, st85⟩ := natS X76 hx hZ (y := Jvm.Free.Fl.Abs.minDN) hown (hw _ (List.mem_of_getElem? (i := 54) rfl)) (hw _ (List.mem_of_getElem? (i := 55) rfl)) (hw _ (List.mem_of_getElem? (i := 56) rfl)) (by0 := Jvm.Free.Fl.Abs.minDCode) (hw _ (List.mem_of_getElem? (i := 57) rfl)) (by decide) e76 (W := 1) (F := fun a' => a' = #[.double x1, .double xv] ∧ NoNaN64 x1 ∧ NoNaN64 xv) (val' := .double (Native.java_lang_Math.nans.pick64 false x1 xv)) (fun hc => Jvm.Free.Fl.Abs.minD_pays (len := 3) (W := 1) x1 xv hc (by decide) (by decide)) (g := (mkF m 110 #[.val (.ref a), .val (.double xw), .second, .val (.double xf), .second, .val (.double xv), .second, .val (.double xl), .second, .val (.long xm), .second, .val (.int xo)] [(.double xv), (.double x1), (.ref a)])) rfl (by rw [hml]; rfl) (argsL := [.double x1, .double xv]) (rest := [(.ref a)]) (lenOf pd_mm rfl) rfl (by show 2 * 0 + _ ≤ _; exact Nat.le_of_eq rfl) (hb hby da_110) (by decide) (by decide) ⟨rfl, nx1, nv⟩ rfl
  have f87 := f75.wr W74
  obtain ⟨T86, h86, X86, e86, W86, st86⟩ := putF X85 hx hZ hown (host := "") (Or.inl (hw _ (List.mem_of_getElem? (i := 13) rfl))) Via.refl e85 f84 f87 (Or.inl (hw _ (List.mem_of_getElem? (i := 14) rfl))) (hw _ (List.mem_of_getElem? (i := 2) rfl)) (ty := .double) (by decide) rfl rfl (g := (mkF m 113 #[.val (.ref a), .val (.double xw), .second, .val (.double xf), .second, .val (.double xv), .second, .val (.double xl), .second, .val (.long xm), .second, .val (.int xo)] [(.double (Native.java_lang_Math.nans.pick64 false x1 xv)), (.ref a)])) rfl rfl (hb hby da_113)
  have f86w := f84.same W86
  have N86 := Fr.snoc X86 N74 ga
  have f89 := F_mostValue.other W5 (Or.inl (Nat.ne_of_lt lt_a_aw))
  have f90 := f89.other W10 (Or.inl (Nat.ne_of_lt lt_a_ap))
  have f91 := f90.other W17 (Or.inl (Nat.ne_of_lt lt_a_av))
  have f92 := f91.other W26 (Or.inl (Nat.ne_of_lt lt_a_al))
  have f93 := f92.other W37 (Or.inl (Nat.ne_of_lt lt_a_am))
  have f94 := f93.other W50 (Or.inl (Nat.ne_of_lt lt_a_ao))
  have f95 := f94.other W58 (Or.inr (slot_ne (Or.inl (hw _ (List.mem_of_getElem? (i := 17) rfl)) : Laid Z a0 "com/example/tidewise/tidewise/plan/HeldPlans" "com/example/tidewise/tidewise/plan/HeldPlans" "mostValue" "D") (Or.inl (hw _ (List.mem_of_getElem? (i := 48) rfl)) : Laid Z a0 "com/example/tidewise/tidewise/plan/HeldPlans" "com/example/tidewise/tidewise/plan/HeldPlans" "size" "I") (by decide) pf_D pf_I))
  have f96 := f95.other W74 (Or.inr (slot_ne (Or.inl (hw _ (List.mem_of_getElem? (i := 17) rfl)) : Laid Z a0 "com/example/tidewise/tidewise/plan/HeldPlans" "com/example/tidewise/tidewise/plan/HeldPlans" "mostValue" "D") (Or.inl (hw _ (List.mem_of_getElem? (i := 12) rfl)) : Laid Z a0 "com/example/tidewise/tidewise/plan/HeldPlans" "com/example/tidewise/tidewise/plan/HeldPlans" "leastLost" "D") (by decide) pf_D pf_D))
  have f97 := f96.other W86 (Or.inr (slot_ne (Or.inl (hw _ (List.mem_of_getElem? (i := 17) rfl)) : Laid Z a0 "com/example/tidewise/tidewise/plan/HeldPlans" "com/example/tidewise/tidewise/plan/HeldPlans" "mostValue" "D") (Or.inl (hw _ (List.mem_of_getElem? (i := 14) rfl)) : Laid Z a0 "com/example/tidewise/tidewise/plan/HeldPlans" "com/example/tidewise/tidewise/plan/HeldPlans" "leastValue" "D") (by decide) pf_D pf_D))
  obtain ⟨T88, X88, e88, st88⟩ := getF X86 hx hZ hown (host := "") (Or.inl (hw _ (List.mem_of_getElem? (i := 16) rfl))) Via.refl e86 f97 (g := (mkF m 118 #[.val (.ref a), .val (.double xw), .second, .val (.double xf), .second, .val (.double xv), .second, .val (.double xl), .second, .val (.long xm), .second, .val (.int xo)] [(.ref a), (.ref a)])) rfl rfl (hb hby da_118)
  obtain ⟨T98, X98, e98, st98⟩ := natS X88 hx hZ (y := Jvm.Free.Fl.Abs.maxDN) hown (hw _ (List.mem_of_getElem? (i := 58) rfl)) (hw _ (List.mem_of_getElem? (i := 59) rfl)) (hw _ (List.mem_of_getElem? (i := 56) rfl)) (by0 := Jvm.Free.Fl.Abs.maxDCode) (hw _ (List.mem_of_getElem? (i := 60) rfl)) (by decide) e88 (W := 1) (F := fun a' => a' = #[.double x2, .double xv] ∧ NoNaN64 x2 ∧ NoNaN64 xv) (val' := .double (Native.java_lang_Math.nans.pick64 true x2 xv)) (fun hc => Jvm.Free.Fl.Abs.maxD_pays (len := 3) (W := 1) x2 xv hc (by decide) (by decide)) (g := (mkF m 123 #[.val (.ref a), .val (.double xw), .second, .val (.double xf), .second, .val (.double xv), .second, .val (.double xl), .second, .val (.long xm), .second, .val (.int xo)] [(.double xv), (.double x2), (.ref a)])) rfl (by rw [hml]; rfl) (argsL := [.double x2, .double xv]) (rest := [(.ref a)]) (lenOf pd_mm rfl) rfl (by show 2 * 0 + _ ≤ _; exact Nat.le_of_eq rfl) (hb hby da_123) (by decide) (by decide) ⟨rfl, nx2, nv⟩ rfl
  have f100 := f87.wr W86
  obtain ⟨T99, h99, X99, e99, W99, st99⟩ := putF X98 hx hZ hown (host := "") (Or.inl (hw _ (List.mem_of_getElem? (i := 16) rfl))) Via.refl e98 f97 f100 (Or.inl (hw _ (List.mem_of_getElem? (i := 17) rfl))) (hw _ (List.mem_of_getElem? (i := 2) rfl)) (ty := .double) (by decide) rfl rfl (g := (mkF m 126 #[.val (.ref a), .val (.double xw), .second, .val (.double xf), .second, .val (.double xv), .second, .val (.double xl), .second, .val (.long xm), .second, .val (.int xo)] [(.double (Native.java_lang_Math.nans.pick64 true x2 xv)), (.ref a)])) rfl rfl (hb hby da_126)
  have f99w := f97.same W99
  have N99 := Fr.snoc X99 N86 ga
  have f102 := F_fewestWhole.other W5 (Or.inl (Nat.ne_of_lt lt_a_aw))
  have f103 := f102.other W10 (Or.inl (Nat.ne_of_lt lt_a_ap))
  have f104 := f103.other W17 (Or.inl (Nat.ne_of_lt lt_a_av))
  have f105 := f104.other W26 (Or.inl (Nat.ne_of_lt lt_a_al))
  have f106 := f105.other W37 (Or.inl (Nat.ne_of_lt lt_a_am))
  have f107 := f106.other W50 (Or.inl (Nat.ne_of_lt lt_a_ao))
  have f108 := f107.other W58 (Or.inr (slot_ne (Or.inl (hw _ (List.mem_of_getElem? (i := 19) rfl)) : Laid Z a0 "com/example/tidewise/tidewise/plan/HeldPlans" "com/example/tidewise/tidewise/plan/HeldPlans" "fewestWhole" "D") (Or.inl (hw _ (List.mem_of_getElem? (i := 48) rfl)) : Laid Z a0 "com/example/tidewise/tidewise/plan/HeldPlans" "com/example/tidewise/tidewise/plan/HeldPlans" "size" "I") (by decide) pf_D pf_I))
  have f109 := f108.other W74 (Or.inr (slot_ne (Or.inl (hw _ (List.mem_of_getElem? (i := 19) rfl)) : Laid Z a0 "com/example/tidewise/tidewise/plan/HeldPlans" "com/example/tidewise/tidewise/plan/HeldPlans" "fewestWhole" "D") (Or.inl (hw _ (List.mem_of_getElem? (i := 12) rfl)) : Laid Z a0 "com/example/tidewise/tidewise/plan/HeldPlans" "com/example/tidewise/tidewise/plan/HeldPlans" "leastLost" "D") (by decide) pf_D pf_D))
  have f110 := f109.other W86 (Or.inr (slot_ne (Or.inl (hw _ (List.mem_of_getElem? (i := 19) rfl)) : Laid Z a0 "com/example/tidewise/tidewise/plan/HeldPlans" "com/example/tidewise/tidewise/plan/HeldPlans" "fewestWhole" "D") (Or.inl (hw _ (List.mem_of_getElem? (i := 14) rfl)) : Laid Z a0 "com/example/tidewise/tidewise/plan/HeldPlans" "com/example/tidewise/tidewise/plan/HeldPlans" "leastValue" "D") (by decide) pf_D pf_D))
  have f111 := f110.other W99 (Or.inr (slot_ne (Or.inl (hw _ (List.mem_of_getElem? (i := 19) rfl)) : Laid Z a0 "com/example/tidewise/tidewise/plan/HeldPlans" "com/example/tidewise/tidewise/plan/HeldPlans" "fewestWhole" "D") (Or.inl (hw _ (List.mem_of_getElem? (i := 17) rfl)) : Laid Z a0 "com/example/tidewise/tidewise/plan/HeldPlans" "com/example/tidewise/tidewise/plan/HeldPlans" "mostValue" "D") (by decide) pf_D pf_D))
  obtain ⟨T101, X101, e101, st101⟩ := getF X99 hx hZ hown (host := "") (Or.inl (hw _ (List.mem_of_getElem? (i := 18) rfl))) Via.refl e99 f111 (g := (mkF m 131 #[.val (.ref a), .val (.double xw), .second, .val (.double xf), .second, .val (.double xv), .second, .val (.double xl), .second, .val (.long xm), .second, .val (.int xo)] [(.ref a), (.ref a)])) rfl rfl (hb hby da_131)
  obtain ⟨T112, X112, e112, st112⟩ := natS X101 hx hZ (y := Jvm.Free.Fl.Abs.minDN) hown (hw _ (List.mem_of_getElem? (i := 54) rfl)) (hw _ (List.mem_of_getElem? (i := 55) rfl)) (hw _ (List.mem_of_getElem? (i := 56) rfl)) (by0 := Jvm.Free.Fl.Abs.minDCode) (hw _ (List.mem_of_getElem? (i := 57) rfl)) (by decide) e101 (W := 1) (F := fun a' => a' = #[.double x3, .double xw] ∧ NoNaN64 x3 ∧ NoNaN64 xw) (val' := .double (Native.java_lang_Math.nans.pick64 false x3 xw)) (fun hc => Jvm.Free.Fl.Abs.minD_pays (len := 3) (W := 1) x3 xw hc (by decide) (by decide)) (g := (mkF m 135 #[.val (.ref a), .val (.double xw), .second, .val (.double xf), .second, .val (.double xv), .second, .val (.double xl), .second, .val (.long xm), .second, .val (.int xo)] [(.double xw), (.double x3), (.ref a)])) rfl (by rw [hml]; rfl) (argsL := [.double x3, .double xw]) (rest := [(.ref a)]) (lenOf pd_mm rfl) rfl (by show 2 * 0 + _ ≤ _; exact Nat.le_of_eq rfl) (hb hby da_135) (by decide) (by decide) ⟨rfl, nx3, nw⟩ rfl
  have f114 := f100.wr W99
  obtain ⟨T113, h113, X113, e113, W113, st113⟩ := putF X112 hx hZ hown (host := "") (Or.inl (hw _ (List.mem_of_getElem? (i := 18) rfl))) Via.refl e112 f111 f114 (Or.inl (hw _ (List.mem_of_getElem? (i := 19) rfl))) (hw _ (List.mem_of_getElem? (i := 2) rfl)) (ty := .double) (by decide) rfl rfl (g := (mkF m 138 #[.val (.ref a), .val (.double xw), .second, .val (.double xf), .second, .val (.double xv), .second, .val (.double xl), .second, .val (.long xm), .second, .val (.int xo)] [(.double (Native.java_lang_Math.nans.pick64 false x3 xw)), (.ref a)])) rfl rfl (hb hby da_138)
  have f113w := f111.same W113
  have N113 := Fr.snoc X113 N99 ga
  have f116 := F_mostWhole.other W5 (Or.inl (Nat.ne_of_lt lt_a_aw))
  have f117 := f116.other W10 (Or.inl (Nat.ne_of_lt lt_a_ap))
  have f118 := f117.other W17 (Or.inl (Nat.ne_of_lt lt_a_av))
  have f119 := f118.other W26 (Or.inl (Nat.ne_of_lt lt_a_al))
  have f120 := f119.other W37 (Or.inl (Nat.ne_of_lt lt_a_am))
  have f121 := f120.other W50 (Or.inl (Nat.ne_of_lt lt_a_ao))
  have f122 := f121.other W58 (Or.inr (slot_ne (Or.inl (hw _ (List.mem_of_getElem? (i := 21) rfl)) : Laid Z a0 "com/example/tidewise/tidewise/plan/HeldPlans" "com/example/tidewise/tidewise/plan/HeldPlans" "mostWhole" "D") (Or.inl (hw _ (List.mem_of_getElem? (i := 48) rfl)) : Laid Z a0 "com/example/tidewise/tidewise/plan/HeldPlans" "com/example/tidewise/tidewise/plan/HeldPlans" "size" "I") (by decide) pf_D pf_I))
  have f123 := f122.other W74 (Or.inr (slot_ne (Or.inl (hw _ (List.mem_of_getElem? (i := 21) rfl)) : Laid Z a0 "com/example/tidewise/tidewise/plan/HeldPlans" "com/example/tidewise/tidewise/plan/HeldPlans" "mostWhole" "D") (Or.inl (hw _ (List.mem_of_getElem? (i := 12) rfl)) : Laid Z a0 "com/example/tidewise/tidewise/plan/HeldPlans" "com/example/tidewise/tidewise/plan/HeldPlans" "leastLost" "D") (by decide) pf_D pf_D))
  have f124 := f123.other W86 (Or.inr (slot_ne (Or.inl (hw _ (List.mem_of_getElem? (i := 21) rfl)) : Laid Z a0 "com/example/tidewise/tidewise/plan/HeldPlans" "com/example/tidewise/tidewise/plan/HeldPlans" "mostWhole" "D") (Or.inl (hw _ (List.mem_of_getElem? (i := 14) rfl)) : Laid Z a0 "com/example/tidewise/tidewise/plan/HeldPlans" "com/example/tidewise/tidewise/plan/HeldPlans" "leastValue" "D") (by decide) pf_D pf_D))
  have f125 := f124.other W99 (Or.inr (slot_ne (Or.inl (hw _ (List.mem_of_getElem? (i := 21) rfl)) : Laid Z a0 "com/example/tidewise/tidewise/plan/HeldPlans" "com/example/tidewise/tidewise/plan/HeldPlans" "mostWhole" "D") (Or.inl (hw _ (List.mem_of_getElem? (i := 17) rfl)) : Laid Z a0 "com/example/tidewise/tidewise/plan/HeldPlans" "com/example/tidewise/tidewise/plan/HeldPlans" "mostValue" "D") (by decide) pf_D pf_D))
  have f126 := f125.other W113 (Or.inr (slot_ne (Or.inl (hw _ (List.mem_of_getElem? (i := 21) rfl)) : Laid Z a0 "com/example/tidewise/tidewise/plan/HeldPlans" "com/example/tidewise/tidewise/plan/HeldPlans" "mostWhole" "D") (Or.inl (hw _ (List.mem_of_getElem? (i := 19) rfl)) : Laid Z a0 "com/example/tidewise/tidewise/plan/HeldPlans" "com/example/tidewise/tidewise/plan/HeldPlans" "fewestWhole" "D") (by decide) pf_D pf_D))
  obtain ⟨T115, X115, e115, st115⟩ := getF X113 hx hZ hown (host := "") (Or.inl (hw _ (List.mem_of_getElem? (i := 20) rfl))) Via.refl e113 f126 (g := (mkF m 143 #[.val (.ref a), .val (.double xw), .second, .val (.double xf), .second, .val (.double xv), .second, .val (.double xl), .second, .val (.long xm), .second, .val (.int xo)] [(.ref a), (.ref a)])) rfl rfl (hb hby da_143)
  obtain ⟨T127, X127, e127, st127⟩ := natS X115 hx hZ (y := Jvm.Free.Fl.Abs.maxDN) hown (hw _ (List.mem_of_getElem? (i := 58) rfl)) (hw _ (List.mem_of_getElem? (i := 59) rfl)) (hw _ (List.mem_of_getElem? (i := 56) rfl)) (by0 := Jvm.Free.Fl.Abs.maxDCode) (hw _ (List.mem_of_getElem? (i := 60) rfl)) (by decide) e115 (W := 1) (F := fun a' => a' = #[.double x4, .double xw] ∧ NoNaN64 x4 ∧ NoNaN64 xw) (val' := .double (Native.java_lang_Math.nans.pick64 true x4 xw)) (fun hc => Jvm.Free.Fl.Abs.maxD_pays (len := 3) (W := 1) x4 xw hc (by decide) (by decide)) (g := (mkF m 147 #[.val (.ref a), .val (.double xw), .second, .val (.double xf), .second, .val (.double xv), .second, .val (.double xl), .second, .val (.long xm), .second, .val (.int xo)] [(.double xw), (.double x4), (.ref a)])) rfl (by rw [hml]; rfl) (argsL := [.double x4, .double xw]) (rest := [(.ref a)]) (lenOf pd_mm rfl) rfl (by show 2 * 0 + _ ≤ _; exact Nat.le_of_eq rfl) (hb hby da_147) (by decide) (by decide) ⟨rfl, nx4, nw⟩ rfl
  have f129 := f114.wr W113
  obtain ⟨T128, h128, X128, e128, W128, st128⟩ := putF X127 hx hZ hown (host := "") (Or.inl (hw _ (List.mem_of_getElem? (i := 20) rfl))) Via.refl e127 f126 f129 (Or.inl (hw _ (List.mem_of_getElem? (i := 21) rfl))) (hw _ (List.mem_of_getElem? (i := 2) rfl)) (ty := .double) (by decide) rfl rfl (g := (mkF m 150 #[.val (.ref a), .val (.double xw), .second, .val (.double xf), .second, .val (.double xv), .second, .val (.double xl), .second, .val (.long xm), .second, .val (.int xo)] [(.double (Native.java_lang_Math.nans.pick64 true x4 xw)), (.ref a)])) rfl rfl (hb hby da_150)
  have f128w := f126.same W128
  have N128 := Fr.snoc X128 N113 ga
  have f130 := f129.wr W128
  have f131 := f58w.other W74 (Or.inr (slot_ne (Or.inl (hw _ (List.mem_of_getElem? (i := 48) rfl)) : Laid Z a0 "com/example/tidewise/tidewise/plan/HeldPlans" "com/example/tidewise/tidewise/plan/HeldPlans" "size" "I") (Or.inl (hw _ (List.mem_of_getElem? (i := 12) rfl)) : Laid Z a0 "com/example/tidewise/tidewise/plan/HeldPlans" "com/example/tidewise/tidewise/plan/HeldPlans" "leastLost" "D") (by decide) pf_I pf_D))
  have f132 := f131.other W86 (Or.inr (slot_ne (Or.inl (hw _ (List.mem_of_getElem? (i := 48) rfl)) : Laid Z a0 "com/example/tidewise/tidewise/plan/HeldPlans" "com/example/tidewise/tidewise/plan/HeldPlans" "size" "I") (Or.inl (hw _ (List.mem_of_getElem? (i := 14) rfl)) : Laid Z a0 "com/example/tidewise/tidewise/plan/HeldPlans" "com/example/tidewise/tidewise/plan/HeldPlans" "leastValue" "D") (by decide) pf_I pf_D))
  have f133 := f132.other W99 (Or.inr (slot_ne (Or.inl (hw _ (List.mem_of_getElem? (i := 48) rfl)) : Laid Z a0 "com/example/tidewise/tidewise/plan/HeldPlans" "com/example/tidewise/tidewise/plan/HeldPlans" "size" "I") (Or.inl (hw _ (List.mem_of_getElem? (i := 17) rfl)) : Laid Z a0 "com/example/tidewise/tidewise/plan/HeldPlans" "com/example/tidewise/tidewise/plan/HeldPlans" "mostValue" "D") (by decide) pf_I pf_D))
  have f134 := f133.other W113 (Or.inr (slot_ne (Or.inl (hw _ (List.mem_of_getElem? (i := 48) rfl)) : Laid Z a0 "com/example/tidewise/tidewise/plan/HeldPlans" "com/example/tidewise/tidewise/plan/HeldPlans" "size" "I") (Or.inl (hw _ (List.mem_of_getElem? (i := 19) rfl)) : Laid Z a0 "com/example/tidewise/tidewise/plan/HeldPlans" "com/example/tidewise/tidewise/plan/HeldPlans" "fewestWhole" "D") (by decide) pf_I pf_D))
  have f135 := f134.other W128 (Or.inr (slot_ne (Or.inl (hw _ (List.mem_of_getElem? (i := 48) rfl)) : Laid Z a0 "com/example/tidewise/tidewise/plan/HeldPlans" "com/example/tidewise/tidewise/plan/HeldPlans" "size" "I") (Or.inl (hw _ (List.mem_of_getElem? (i := 21) rfl)) : Laid Z a0 "com/example/tidewise/tidewise/plan/HeldPlans" "com/example/tidewise/tidewise/plan/HeldPlans" "mostWhole" "D") (by decide) pf_I pf_D))
  have f136 := F_whole.other W5 (Or.inl (Nat.ne_of_lt lt_a_aw))
  have f137 := f136.other W10 (Or.inl (Nat.ne_of_lt lt_a_ap))
  have f138 := f137.other W17 (Or.inl (Nat.ne_of_lt lt_a_av))
  have f139 := f138.other W26 (Or.inl (Nat.ne_of_lt lt_a_al))
  have f140 := f139.other W37 (Or.inl (Nat.ne_of_lt lt_a_am))
  have f141 := f140.other W50 (Or.inl (Nat.ne_of_lt lt_a_ao))
  have f142 := f141.other W58 (Or.inr (slot_ne (Or.inl (hw _ (List.mem_of_getElem? (i := 24) rfl)) : Laid Z a0 "com/example/tidewise/tidewise/plan/HeldPlans" "com/example/tidewise/tidewise/plan/HeldPlans" "whole" "[D") (Or.inl (hw _ (List.mem_of_getElem? (i := 48) rfl)) : Laid Z a0 "com/example/tidewise/tidewise/plan/HeldPlans" "com/example/tidewise/tidewise/plan/HeldPlans" "size" "I") (by decide) pf_AD pf_I))
  have f143 := f142.other W74 (Or.inr (slot_ne (Or.inl (hw _ (List.mem_of_getElem? (i := 24) rfl)) : Laid Z a0 "com/example/tidewise/tidewise/plan/HeldPlans" "com/example/tidewise/tidewise/plan/HeldPlans" "whole" "[D") (Or.inl (hw _ (List.mem_of_getElem? (i := 12) rfl)) : Laid Z a0 "com/example/tidewise/tidewise/plan/HeldPlans" "com/example/tidewise/tidewise/plan/HeldPlans" "leastLost" "D") (by decide) pf_AD pf_D))
  have f144 := f143.other W86 (Or.inr (slot_ne (Or.inl (hw _ (List.mem_of_getElem? (i := 24) rfl)) : Laid Z a0 "com/example/tidewise/tidewise/plan/HeldPlans" "com/example/tidewise/tidewise/plan/HeldPlans" "whole" "[D") (Or.inl (hw _ (List.mem_of_getElem? (i := 14) rfl)) : Laid Z a0 "com/example/tidewise/tidewise/plan/HeldPlans" "com/example/tidewise/tidewise/plan/HeldPlans" "leastValue" "D") (by decide) pf_AD pf_D))
  have f145 := f144.other W99 (Or.inr (slot_ne (Or.inl (hw _ (List.mem_of_getElem? (i := 24) rfl)) : Laid Z a0 "com/example/tidewise/tidewise/plan/HeldPlans" "com/example/tidewise/tidewise/plan/HeldPlans" "whole" "[D") (Or.inl (hw _ (List.mem_of_getElem? (i := 17) rfl)) : Laid Z a0 "com/example/tidewise/tidewise/plan/HeldPlans" "com/example/tidewise/tidewise/plan/HeldPlans" "mostValue" "D") (by decide) pf_AD pf_D))
  have f146 := f145.other W113 (Or.inr (slot_ne (Or.inl (hw _ (List.mem_of_getElem? (i := 24) rfl)) : Laid Z a0 "com/example/tidewise/tidewise/plan/HeldPlans" "com/example/tidewise/tidewise/plan/HeldPlans" "whole" "[D") (Or.inl (hw _ (List.mem_of_getElem? (i := 19) rfl)) : Laid Z a0 "com/example/tidewise/tidewise/plan/HeldPlans" "com/example/tidewise/tidewise/plan/HeldPlans" "fewestWhole" "D") (by decide) pf_AD pf_D))
  have f147 := f146.other W128 (Or.inr (slot_ne (Or.inl (hw _ (List.mem_of_getElem? (i := 24) rfl)) : Laid Z a0 "com/example/tidewise/tidewise/plan/HeldPlans" "com/example/tidewise/tidewise/plan/HeldPlans" "whole" "[D") (Or.inl (hw _ (List.mem_of_getElem? (i := 21) rfl)) : Laid Z a0 "com/example/tidewise/tidewise/plan/HeldPlans" "com/example/tidewise/tidewise/plan/HeldPlans" "mostWhole" "D") (by decide) pf_AD pf_D))
  have f148 := f7.other W10 (Or.inl (Nat.ne_of_lt lt_a_ap))
  have f149 := f148.other W17 (Or.inl (Nat.ne_of_lt lt_a_av))
  have f150 := f149.other W26 (Or.inl (Nat.ne_of_lt lt_a_al))
  have f151 := f150.other W37 (Or.inl (Nat.ne_of_lt lt_a_am))
  have f152 := f151.other W50 (Or.inl (Nat.ne_of_lt lt_a_ao))
  have f153 := f152.other W58 (Or.inr (slot_ne (Or.inl (hw _ (List.mem_of_getElem? (i := 26) rfl)) : Laid Z a0 "com/example/tidewise/tidewise/plan/HeldPlans" "com/example/tidewise/tidewise/plan/HeldPlans" "part" "[D") (Or.inl (hw _ (List.mem_of_getElem? (i := 48) rfl)) : Laid Z a0 "com/example/tidewise/tidewise/plan/HeldPlans" "com/example/tidewise/tidewise/plan/HeldPlans" "size" "I") (by decide) pf_AD pf_I))
  have f154 := f153.other W74 (Or.inr (slot_ne (Or.inl (hw _ (List.mem_of_getElem? (i := 26) rfl)) : Laid Z a0 "com/example/tidewise/tidewise/plan/HeldPlans" "com/example/tidewise/tidewise/plan/HeldPlans" "part" "[D") (Or.inl (hw _ (List.mem_of_getElem? (i := 12) rfl)) : Laid Z a0 "com/example/tidewise/tidewise/plan/HeldPlans" "com/example/tidewise/tidewise/plan/HeldPlans" "leastLost" "D") (by decide) pf_AD pf_D))
  have f155 := f154.other W86 (Or.inr (slot_ne (Or.inl (hw _ (List.mem_of_getElem? (i := 26) rfl)) : Laid Z a0 "com/example/tidewise/tidewise/plan/HeldPlans" "com/example/tidewise/tidewise/plan/HeldPlans" "part" "[D") (Or.inl (hw _ (List.mem_of_getElem? (i := 14) rfl)) : Laid Z a0 "com/example/tidewise/tidewise/plan/HeldPlans" "com/example/tidewise/tidewise/plan/HeldPlans" "leastValue" "D") (by decide) pf_AD pf_D))
  have f156 := f155.other W99 (Or.inr (slot_ne (Or.inl (hw _ (List.mem_of_getElem? (i := 26) rfl)) : Laid Z a0 "com/example/tidewise/tidewise/plan/HeldPlans" "com/example/tidewise/tidewise/plan/HeldPlans" "part" "[D") (Or.inl (hw _ (List.mem_of_getElem? (i := 17) rfl)) : Laid Z a0 "com/example/tidewise/tidewise/plan/HeldPlans" "com/example/tidewise/tidewise/plan/HeldPlans" "mostValue" "D") (by decide) pf_AD pf_D))
  have f157 := f156.other W113 (Or.inr (slot_ne (Or.inl (hw _ (List.mem_of_getElem? (i := 26) rfl)) : Laid Z a0 "com/example/tidewise/tidewise/plan/HeldPlans" "com/example/tidewise/tidewise/plan/HeldPlans" "part" "[D") (Or.inl (hw _ (List.mem_of_getElem? (i := 19) rfl)) : Laid Z a0 "com/example/tidewise/tidewise/plan/HeldPlans" "com/example/tidewise/tidewise/plan/HeldPlans" "fewestWhole" "D") (by decide) pf_AD pf_D))
  have f158 := f157.other W128 (Or.inr (slot_ne (Or.inl (hw _ (List.mem_of_getElem? (i := 26) rfl)) : Laid Z a0 "com/example/tidewise/tidewise/plan/HeldPlans" "com/example/tidewise/tidewise/plan/HeldPlans" "part" "[D") (Or.inl (hw _ (List.mem_of_getElem? (i := 21) rfl)) : Laid Z a0 "com/example/tidewise/tidewise/plan/HeldPlans" "com/example/tidewise/tidewise/plan/HeldPlans" "mostWhole" "D") (by decide) pf_AD pf_D))
  have f159 := f14.other W17 (Or.inl (Nat.ne_of_lt lt_a_av))
  have f160 := f159.other W26 (Or.inl (Nat.ne_of_lt lt_a_al))
  have f161 := f160.other W37 (Or.inl (Nat.ne_of_lt lt_a_am))
  have f162 := f161.other W50 (Or.inl (Nat.ne_of_lt lt_a_ao))
  have f163 := f162.other W58 (Or.inr (slot_ne (Or.inl (hw _ (List.mem_of_getElem? (i := 28) rfl)) : Laid Z a0 "com/example/tidewise/tidewise/plan/HeldPlans" "com/example/tidewise/tidewise/plan/HeldPlans" "value" "[D") (Or.inl (hw _ (List.mem_of_getElem? (i := 48) rfl)) : Laid Z a0 "com/example/tidewise/tidewise/plan/HeldPlans" "com/example/tidewise/tidewise/plan/HeldPlans" "size" "I") (by decide) pf_AD pf_I))
  have f164 := f163.other W74 (Or.inr (slot_ne (Or.inl (hw _ (List.mem_of_getElem? (i := 28) rfl)) : Laid Z a0 "com/example/tidewise/tidewise/plan/HeldPlans" "com/example/tidewise/tidewise/plan/HeldPlans" "value" "[D") (Or.inl (hw _ (List.mem_of_getElem? (i := 12) rfl)) : Laid Z a0 "com/example/tidewise/tidewise/plan/HeldPlans" "com/example/tidewise/tidewise/plan/HeldPlans" "leastLost" "D") (by decide) pf_AD pf_D))
  have f165 := f164.other W86 (Or.inr (slot_ne (Or.inl (hw _ (List.mem_of_getElem? (i := 28) rfl)) : Laid Z a0 "com/example/tidewise/tidewise/plan/HeldPlans" "com/example/tidewise/tidewise/plan/HeldPlans" "value" "[D") (Or.inl (hw _ (List.mem_of_getElem? (i := 14) rfl)) : Laid Z a0 "com/example/tidewise/tidewise/plan/HeldPlans" "com/example/tidewise/tidewise/plan/HeldPlans" "leastValue" "D") (by decide) pf_AD pf_D))
  have f166 := f165.other W99 (Or.inr (slot_ne (Or.inl (hw _ (List.mem_of_getElem? (i := 28) rfl)) : Laid Z a0 "com/example/tidewise/tidewise/plan/HeldPlans" "com/example/tidewise/tidewise/plan/HeldPlans" "value" "[D") (Or.inl (hw _ (List.mem_of_getElem? (i := 17) rfl)) : Laid Z a0 "com/example/tidewise/tidewise/plan/HeldPlans" "com/example/tidewise/tidewise/plan/HeldPlans" "mostValue" "D") (by decide) pf_AD pf_D))
  have f167 := f166.other W113 (Or.inr (slot_ne (Or.inl (hw _ (List.mem_of_getElem? (i := 28) rfl)) : Laid Z a0 "com/example/tidewise/tidewise/plan/HeldPlans" "com/example/tidewise/tidewise/plan/HeldPlans" "value" "[D") (Or.inl (hw _ (List.mem_of_getElem? (i := 19) rfl)) : Laid Z a0 "com/example/tidewise/tidewise/plan/HeldPlans" "com/example/tidewise/tidewise/plan/HeldPlans" "fewestWhole" "D") (by decide) pf_AD pf_D))
  have f168 := f167.other W128 (Or.inr (slot_ne (Or.inl (hw _ (List.mem_of_getElem? (i := 28) rfl)) : Laid Z a0 "com/example/tidewise/tidewise/plan/HeldPlans" "com/example/tidewise/tidewise/plan/HeldPlans" "value" "[D") (Or.inl (hw _ (List.mem_of_getElem? (i := 21) rfl)) : Laid Z a0 "com/example/tidewise/tidewise/plan/HeldPlans" "com/example/tidewise/tidewise/plan/HeldPlans" "mostWhole" "D") (by decide) pf_AD pf_D))
  have f169 := f23.other W26 (Or.inl (Nat.ne_of_lt lt_a_al))
  have f170 := f169.other W37 (Or.inl (Nat.ne_of_lt lt_a_am))
  have f171 := f170.other W50 (Or.inl (Nat.ne_of_lt lt_a_ao))
  have f172 := f171.other W58 (Or.inr (slot_ne (Or.inl (hw _ (List.mem_of_getElem? (i := 30) rfl)) : Laid Z a0 "com/example/tidewise/tidewise/plan/HeldPlans" "com/example/tidewise/tidewise/plan/HeldPlans" "lost" "[D") (Or.inl (hw _ (List.mem_of_getElem? (i := 48) rfl)) : Laid Z a0 "com/example/tidewise/tidewise/plan/HeldPlans" "com/example/tidewise/tidewise/plan/HeldPlans" "size" "I") (by decide) pf_AD pf_I))
  have f173 := f172.other W74 (Or.inr (slot_ne (Or.inl (hw _ (List.mem_of_getElem? (i := 30) rfl)) : Laid Z a0 "com/example/tidewise/tidewise/plan/HeldPlans" "com/example/tidewise/tidewise/plan/HeldPlans" "lost" "[D") (Or.inl (hw _ (List.mem_of_getElem? (i := 12) rfl)) : Laid Z a0 "com/example/tidewise/tidewise/plan/HeldPlans" "com/example/tidewise/tidewise/plan/HeldPlans" "leastLost" "D") (by decide) pf_AD pf_D))
  have f174 := f173.other W86 (Or.inr (slot_ne (Or.inl (hw _ (List.mem_of_getElem? (i := 30) rfl)) : Laid Z a0 "com/example/tidewise/tidewise/plan/HeldPlans" "com/example/tidewise/tidewise/plan/HeldPlans" "lost" "[D") (Or.inl (hw _ (List.mem_of_getElem? (i := 14) rfl)) : Laid Z a0 "com/example/tidewise/tidewise/plan/HeldPlans" "com/example/tidewise/tidewise/plan/HeldPlans" "leastValue" "D") (by decide) pf_AD pf_D))
  have f175 := f174.other W99 (Or.inr (slot_ne (Or.inl (hw _ (List.mem_of_getElem? (i := 30) rfl)) : Laid Z a0 "com/example/tidewise/tidewise/plan/HeldPlans" "com/example/tidewise/tidewise/plan/HeldPlans" "lost" "[D") (Or.inl (hw _ (List.mem_of_getElem? (i := 17) rfl)) : Laid Z a0 "com/example/tidewise/tidewise/plan/HeldPlans" "com/example/tidewise/tidewise/plan/HeldPlans" "mostValue" "D") (by decide) pf_AD pf_D))
  have f176 := f175.other W113 (Or.inr (slot_ne (Or.inl (hw _ (List.mem_of_getElem? (i := 30) rfl)) : Laid Z a0 "com/example/tidewise/tidewise/plan/HeldPlans" "com/example/tidewise/tidewise/plan/HeldPlans" "lost" "[D") (Or.inl (hw _ (List.mem_of_getElem? (i := 19) rfl)) : Laid Z a0 "com/example/tidewise/tidewise/plan/HeldPlans" "com/example/tidewise/tidewise/plan/HeldPlans" "fewestWhole" "D") (by decide) pf_AD pf_D))
  have f177 := f176.other W128 (Or.inr (slot_ne (Or.inl (hw _ (List.mem_of_getElem? (i := 30) rfl)) : Laid Z a0 "com/example/tidewise/tidewise/plan/HeldPlans" "com/example/tidewise/tidewise/plan/HeldPlans" "lost" "[D") (Or.inl (hw _ (List.mem_of_getElem? (i := 21) rfl)) : Laid Z a0 "com/example/tidewise/tidewise/plan/HeldPlans" "com/example/tidewise/tidewise/plan/HeldPlans" "mostWhole" "D") (by decide) pf_AD pf_D))
  have f178 := f34.other W37 (Or.inl (Nat.ne_of_lt lt_a_am))
  have f179 := f178.other W50 (Or.inl (Nat.ne_of_lt lt_a_ao))
  have f180 := f179.other W58 (Or.inr (slot_ne (Or.inl (hw _ (List.mem_of_getElem? (i := 33) rfl)) : Laid Z a0 "com/example/tidewise/tidewise/plan/HeldPlans" "com/example/tidewise/tidewise/plan/HeldPlans" "mask" "[J") (Or.inl (hw _ (List.mem_of_getElem? (i := 48) rfl)) : Laid Z a0 "com/example/tidewise/tidewise/plan/HeldPlans" "com/example/tidewise/tidewise/plan/HeldPlans" "size" "I") (by decide) pf_AJ pf_I))
  have f181 := f180.other W74 (Or.inr (slot_ne (Or.inl (hw _ (List.mem_of_getElem? (i := 33) rfl)) : Laid Z a0 "com/example/tidewise/tidewise/plan/HeldPlans" "com/example/tidewise/tidewise/plan/HeldPlans" "mask" "[J") (Or.inl (hw _ (List.mem_of_getElem? (i := 12) rfl)) : Laid Z a0 "com/example/tidewise/tidewise/plan/HeldPlans" "com/example/tidewise/tidewise/plan/HeldPlans" "leastLost" "D") (by decide) pf_AJ pf_D))
  have f182 := f181.other W86 (Or.inr (slot_ne (Or.inl (hw _ (List.mem_of_getElem? (i := 33) rfl)) : Laid Z a0 "com/example/tidewise/tidewise/plan/HeldPlans" "com/example/tidewise/tidewise/plan/HeldPlans" "mask" "[J") (Or.inl (hw _ (List.mem_of_getElem? (i := 14) rfl)) : Laid Z a0 "com/example/tidewise/tidewise/plan/HeldPlans" "com/example/tidewise/tidewise/plan/HeldPlans" "leastValue" "D") (by decide) pf_AJ pf_D))
  have f183 := f182.other W99 (Or.inr (slot_ne (Or.inl (hw _ (List.mem_of_getElem? (i := 33) rfl)) : Laid Z a0 "com/example/tidewise/tidewise/plan/HeldPlans" "com/example/tidewise/tidewise/plan/HeldPlans" "mask" "[J") (Or.inl (hw _ (List.mem_of_getElem? (i := 17) rfl)) : Laid Z a0 "com/example/tidewise/tidewise/plan/HeldPlans" "com/example/tidewise/tidewise/plan/HeldPlans" "mostValue" "D") (by decide) pf_AJ pf_D))
  have f184 := f183.other W113 (Or.inr (slot_ne (Or.inl (hw _ (List.mem_of_getElem? (i := 33) rfl)) : Laid Z a0 "com/example/tidewise/tidewise/plan/HeldPlans" "com/example/tidewise/tidewise/plan/HeldPlans" "mask" "[J") (Or.inl (hw _ (List.mem_of_getElem? (i := 19) rfl)) : Laid Z a0 "com/example/tidewise/tidewise/plan/HeldPlans" "com/example/tidewise/tidewise/plan/HeldPlans" "fewestWhole" "D") (by decide) pf_AJ pf_D))
  have f185 := f184.other W128 (Or.inr (slot_ne (Or.inl (hw _ (List.mem_of_getElem? (i := 33) rfl)) : Laid Z a0 "com/example/tidewise/tidewise/plan/HeldPlans" "com/example/tidewise/tidewise/plan/HeldPlans" "mask" "[J") (Or.inl (hw _ (List.mem_of_getElem? (i := 21) rfl)) : Laid Z a0 "com/example/tidewise/tidewise/plan/HeldPlans" "com/example/tidewise/tidewise/plan/HeldPlans" "mostWhole" "D") (by decide) pf_AJ pf_D))
  have f186 := f47.other W50 (Or.inl (Nat.ne_of_lt lt_a_ao))
  have f187 := f186.other W58 (Or.inr (slot_ne (Or.inl (hw _ (List.mem_of_getElem? (i := 36) rfl)) : Laid Z a0 "com/example/tidewise/tidewise/plan/HeldPlans" "com/example/tidewise/tidewise/plan/HeldPlans" "origin" "[I") (Or.inl (hw _ (List.mem_of_getElem? (i := 48) rfl)) : Laid Z a0 "com/example/tidewise/tidewise/plan/HeldPlans" "com/example/tidewise/tidewise/plan/HeldPlans" "size" "I") (by decide) pf_AI pf_I))
  have f188 := f187.other W74 (Or.inr (slot_ne (Or.inl (hw _ (List.mem_of_getElem? (i := 36) rfl)) : Laid Z a0 "com/example/tidewise/tidewise/plan/HeldPlans" "com/example/tidewise/tidewise/plan/HeldPlans" "origin" "[I") (Or.inl (hw _ (List.mem_of_getElem? (i := 12) rfl)) : Laid Z a0 "com/example/tidewise/tidewise/plan/HeldPlans" "com/example/tidewise/tidewise/plan/HeldPlans" "leastLost" "D") (by decide) pf_AI pf_D))
  have f189 := f188.other W86 (Or.inr (slot_ne (Or.inl (hw _ (List.mem_of_getElem? (i := 36) rfl)) : Laid Z a0 "com/example/tidewise/tidewise/plan/HeldPlans" "com/example/tidewise/tidewise/plan/HeldPlans" "origin" "[I") (Or.inl (hw _ (List.mem_of_getElem? (i := 14) rfl)) : Laid Z a0 "com/example/tidewise/tidewise/plan/HeldPlans" "com/example/tidewise/tidewise/plan/HeldPlans" "leastValue" "D") (by decide) pf_AI pf_D))
  have f190 := f189.other W99 (Or.inr (slot_ne (Or.inl (hw _ (List.mem_of_getElem? (i := 36) rfl)) : Laid Z a0 "com/example/tidewise/tidewise/plan/HeldPlans" "com/example/tidewise/tidewise/plan/HeldPlans" "origin" "[I") (Or.inl (hw _ (List.mem_of_getElem? (i := 17) rfl)) : Laid Z a0 "com/example/tidewise/tidewise/plan/HeldPlans" "com/example/tidewise/tidewise/plan/HeldPlans" "mostValue" "D") (by decide) pf_AI pf_D))
  have f191 := f190.other W113 (Or.inr (slot_ne (Or.inl (hw _ (List.mem_of_getElem? (i := 36) rfl)) : Laid Z a0 "com/example/tidewise/tidewise/plan/HeldPlans" "com/example/tidewise/tidewise/plan/HeldPlans" "origin" "[I") (Or.inl (hw _ (List.mem_of_getElem? (i := 19) rfl)) : Laid Z a0 "com/example/tidewise/tidewise/plan/HeldPlans" "com/example/tidewise/tidewise/plan/HeldPlans" "fewestWhole" "D") (by decide) pf_AI pf_D))
  have f192 := f191.other W128 (Or.inr (slot_ne (Or.inl (hw _ (List.mem_of_getElem? (i := 36) rfl)) : Laid Z a0 "com/example/tidewise/tidewise/plan/HeldPlans" "com/example/tidewise/tidewise/plan/HeldPlans" "origin" "[I") (Or.inl (hw _ (List.mem_of_getElem? (i := 21) rfl)) : Laid Z a0 "com/example/tidewise/tidewise/plan/HeldPlans" "com/example/tidewise/tidewise/plan/HeldPlans" "mostWhole" "D") (by decide) pf_AI pf_D))
  have f193 := f74w.other W86 (Or.inr (slot_ne (Or.inl (hw _ (List.mem_of_getElem? (i := 12) rfl)) : Laid Z a0 "com/example/tidewise/tidewise/plan/HeldPlans" "com/example/tidewise/tidewise/plan/HeldPlans" "leastLost" "D") (Or.inl (hw _ (List.mem_of_getElem? (i := 14) rfl)) : Laid Z a0 "com/example/tidewise/tidewise/plan/HeldPlans" "com/example/tidewise/tidewise/plan/HeldPlans" "leastValue" "D") (by decide) pf_D pf_D))
  have f194 := f193.other W99 (Or.inr (slot_ne (Or.inl (hw _ (List.mem_of_getElem? (i := 12) rfl)) : Laid Z a0 "com/example/tidewise/tidewise/plan/HeldPlans" "com/example/tidewise/tidewise/plan/HeldPlans" "leastLost" "D") (Or.inl (hw _ (List.mem_of_getElem? (i := 17) rfl)) : Laid Z a0 "com/example/tidewise/tidewise/plan/HeldPlans" "com/example/tidewise/tidewise/plan/HeldPlans" "mostValue" "D") (by decide) pf_D pf_D))
  have f195 := f194.other W113 (Or.inr (slot_ne (Or.inl (hw _ (List.mem_of_getElem? (i := 12) rfl)) : Laid Z a0 "com/example/tidewise/tidewise/plan/HeldPlans" "com/example/tidewise/tidewise/plan/HeldPlans" "leastLost" "D") (Or.inl (hw _ (List.mem_of_getElem? (i := 19) rfl)) : Laid Z a0 "com/example/tidewise/tidewise/plan/HeldPlans" "com/example/tidewise/tidewise/plan/HeldPlans" "fewestWhole" "D") (by decide) pf_D pf_D))
  have f196 := f195.other W128 (Or.inr (slot_ne (Or.inl (hw _ (List.mem_of_getElem? (i := 12) rfl)) : Laid Z a0 "com/example/tidewise/tidewise/plan/HeldPlans" "com/example/tidewise/tidewise/plan/HeldPlans" "leastLost" "D") (Or.inl (hw _ (List.mem_of_getElem? (i := 21) rfl)) : Laid Z a0 "com/example/tidewise/tidewise/plan/HeldPlans" "com/example/tidewise/tidewise/plan/HeldPlans" "mostWhole" "D") (by decide) pf_D pf_D))
  have f197 := f86w.other W99 (Or.inr (slot_ne (Or.inl (hw _ (List.mem_of_getElem? (i := 14) rfl)) : Laid Z a0 "com/example/tidewise/tidewise/plan/HeldPlans" "com/example/tidewise/tidewise/plan/HeldPlans" "leastValue" "D") (Or.inl (hw _ (List.mem_of_getElem? (i := 17) rfl)) : Laid Z a0 "com/example/tidewise/tidewise/plan/HeldPlans" "com/example/tidewise/tidewise/plan/HeldPlans" "mostValue" "D") (by decide) pf_D pf_D))
  have f198 := f197.other W113 (Or.inr (slot_ne (Or.inl (hw _ (List.mem_of_getElem? (i := 14) rfl)) : Laid Z a0 "com/example/tidewise/tidewise/plan/HeldPlans" "com/example/tidewise/tidewise/plan/HeldPlans" "leastValue" "D") (Or.inl (hw _ (List.mem_of_getElem? (i := 19) rfl)) : Laid Z a0 "com/example/tidewise/tidewise/plan/HeldPlans" "com/example/tidewise/tidewise/plan/HeldPlans" "fewestWhole" "D") (by decide) pf_D pf_D))
  have f199 := f198.other W128 (Or.inr (slot_ne (Or.inl (hw _ (List.mem_of_getElem? (i := 14) rfl)) : Laid Z a0 "com/example/tidewise/tidewise/plan/HeldPlans" "com/example/tidewise/tidewise/plan/HeldPlans" "leastValue" "D") (Or.inl (hw _ (List.mem_of_getElem? (i := 21) rfl)) : Laid Z a0 "com/example/tidewise/tidewise/plan/HeldPlans" "com/example/tidewise/tidewise/plan/HeldPlans" "mostWhole" "D") (by decide) pf_D pf_D))
  have f200 := f99w.other W113 (Or.inr (slot_ne (Or.inl (hw _ (List.mem_of_getElem? (i := 17) rfl)) : Laid Z a0 "com/example/tidewise/tidewise/plan/HeldPlans" "com/example/tidewise/tidewise/plan/HeldPlans" "mostValue" "D") (Or.inl (hw _ (List.mem_of_getElem? (i := 19) rfl)) : Laid Z a0 "com/example/tidewise/tidewise/plan/HeldPlans" "com/example/tidewise/tidewise/plan/HeldPlans" "fewestWhole" "D") (by decide) pf_D pf_D))
  have f201 := f200.other W128 (Or.inr (slot_ne (Or.inl (hw _ (List.mem_of_getElem? (i := 17) rfl)) : Laid Z a0 "com/example/tidewise/tidewise/plan/HeldPlans" "com/example/tidewise/tidewise/plan/HeldPlans" "mostValue" "D") (Or.inl (hw _ (List.mem_of_getElem? (i := 21) rfl)) : Laid Z a0 "com/example/tidewise/tidewise/plan/HeldPlans" "com/example/tidewise/tidewise/plan/HeldPlans" "mostWhole" "D") (by decide) pf_D pf_D))
  have f202 := f113w.other W128 (Or.inr (slot_ne (Or.inl (hw _ (List.mem_of_getElem? (i := 19) rfl)) : Laid Z a0 "com/example/tidewise/tidewise/plan/HeldPlans" "com/example/tidewise/tidewise/plan/HeldPlans" "fewestWhole" "D") (Or.inl (hw _ (List.mem_of_getElem? (i := 21) rfl)) : Laid Z a0 "com/example/tidewise/tidewise/plan/HeldPlans" "com/example/tidewise/tidewise/plan/HeldPlans" "mostWhole" "D") (by decide) pf_D pf_D))
  have f203 := f5v.other W10 (Nat.ne_of_lt lt_aw_ap)
  have f204 := f203.other W17 (Nat.ne_of_lt lt_aw_av)
  have f205 := f204.other W26 (Nat.ne_of_lt lt_aw_al)
  have f206 := f205.other W37 (Nat.ne_of_lt lt_aw_am)
  have f207 := f206.other W50 (Nat.ne_of_lt lt_aw_ao)
  have f208 := f207.other W58 (Nat.ne_of_gt lt_a_aw)
  have f209 := f208.other W74 (Nat.ne_of_gt lt_a_aw)
  have f210 := f209.other W86 (Nat.ne_of_gt lt_a_aw)
  have f211 := f210.other W99 (Nat.ne_of_gt lt_a_aw)
  have f212 := f211.other W113 (Nat.ne_of_gt lt_a_aw)
  have f213 := f212.other W128 (Nat.ne_of_gt lt_a_aw)
  have f214 := f10v.other W17 (Nat.ne_of_lt lt_ap_av)
  have f215 := f214.other W26 (Nat.ne_of_lt lt_ap_al)
  have f216 := f215.other W37 (Nat.ne_of_lt lt_ap_am)
  have f217 := f216.other W50 (Nat.ne_of_lt lt_ap_ao)
  have f218 := f217.other W58 (Nat.ne_of_gt lt_a_ap)
  have f219 := f218.other W74 (Nat.ne_of_gt lt_a_ap)
  have f220 := f219.other W86 (Nat.ne_of_gt lt_a_ap)
  have f221 := f220.other W99 (Nat.ne_of_gt lt_a_ap)
  have f222 := f221.other W113 (Nat.ne_of_gt lt_a_ap)
  have f223 := f222.other W128 (Nat.ne_of_gt lt_a_ap)
  have f224 := f17v.other W26 (Nat.ne_of_lt lt_av_al)
  have f225 := f224.other W37 (Nat.ne_of_lt lt_av_am)
  have f226 := f225.other W50 (Nat.ne_of_lt lt_av_ao)
  have f227 := f226.other W58 (Nat.ne_of_gt lt_a_av)
  have f228 := f227.other W74 (Nat.ne_of_gt lt_a_av)
  have f229 := f228.other W86 (Nat.ne_of_gt lt_a_av)
  have f230 := f229.other W99 (Nat.ne_of_gt lt_a_av)
  have f231 := f230.other W113 (Nat.ne_of_gt lt_a_av)
  have f232 := f231.other W128 (Nat.ne_of_gt lt_a_av)
  have f233 := f26v.other W37 (Nat.ne_of_lt lt_al_am)
  have f234 := f233.other W50 (Nat.ne_of_lt lt_al_ao)
  have f235 := f234.other W58 (Nat.ne_of_gt lt_a_al)
  have f236 := f235.other W74 (Nat.ne_of_gt lt_a_al)
  have f237 := f236.other W86 (Nat.ne_of_gt lt_a_al)
  have f238 := f237.other W99 (Nat.ne_of_gt lt_a_al)
  have f239 := f238.other W113 (Nat.ne_of_gt lt_a_al)
  have f240 := f239.other W128 (Nat.ne_of_gt lt_a_al)
  have f241 := f37v.other W50 (Nat.ne_of_lt lt_am_ao)
  have f242 := f241.other W58 (Nat.ne_of_gt lt_a_am)
  have f243 := f242.other W74 (Nat.ne_of_gt lt_a_am)
  have f244 := f243.other W86 (Nat.ne_of_gt lt_a_am)
  have f245 := f244.other W99 (Nat.ne_of_gt lt_a_am)
  have f246 := f245.other W113 (Nat.ne_of_gt lt_a_am)
  have f247 := f246.other W128 (Nat.ne_of_gt lt_a_am)
  have f248 := f50v.other W58 (Nat.ne_of_gt lt_a_ao)
  have f249 := f248.other W74 (Nat.ne_of_gt lt_a_ao)
  have f250 := f249.other W86 (Nat.ne_of_gt lt_a_ao)
  have f251 := f250.other W99 (Nat.ne_of_gt lt_a_ao)
  have f252 := f251.other W113 (Nat.ne_of_gt lt_a_ao)
  have f253 := f252.other W128 (Nat.ne_of_gt lt_a_ao)
  obtain ⟨fs, hr, hrun, hended, hW, hsame⟩ := X128.leave (v := none) (fun _ => rfl)
  refine ⟨_, _, pre0 _ ?_, hrun, hended, _, _, rfl, ?_, ⟨_, rfl⟩, hW, hsame.mono (by decide) (by decide)⟩
  · show Steps p.tables e below (s₁.setTop (mkF m 0 #[.val (.ref a), .val (.double xw), .second, .val (.double xf), .second, .val (.double xv), .second, .val (.double xl), .second, .val (.long xm), .second, .val (.int xo)] [])) _
    refine XS.aloadN X0.here hx rfl (hb hby da_0) rfl rfl ?_
    show Steps p.tables e below (s₁.setTop (mkF m 1 #[.val (.ref a), .val (.double xw), .second, .val (.double xf), .second, .val (.double xv), .second, .val (.double xl), .second, .val (.long xm), .second, .val (.int xo)] [(.ref a)])) _
    refine st1 _ ?_
    show Steps p.tables e below (T1.setTop (mkF m 4 #[.val (.ref a), .val (.double xw), .second, .val (.double xf), .second, .val (.double xv), .second, .val (.double xl), .second, .val (.long xm), .second, .val (.int xo)] [(.int n)])) _
    refine XS.aloadN X1.here hx rfl (hb hby da_4) rfl rfl ?_
    show Steps p.tables e below (T1.setTop (mkF m 5 #[.val (.ref a), .val (.double xw), .second, .val (.double xf), .second, .val (.double xv), .second, .val (.double xl), .second, .val (.long xm), .second, .val (.int xo)] [(.ref a), (.int n)])) _
    refine st2 _ ?_
    show Steps p.tables e below (T2.setTop (mkF m 8 #[.val (.ref a), .val (.double xw), .second, .val (.double xf), .second, .val (.double xv), .second, .val (.double xl), .second, .val (.long xm), .second, .val (.int xo)] [(.ref aw), (.int n)])) _
    refine X2.arraylength hx (cell := c_aw) (by rw [e2]; exact A_aw.1) (State.isArrayOf_alike hZ.alike A_aw.2.1) (g := (mkF m 8 #[.val (.ref a), .val (.double xw), .second, .val (.double xf), .second, .val (.double xv), .second, .val (.double xl), .second, .val (.long xm), .second, .val (.int xo)] [(.ref aw), (.int n)])) rfl (rest := [(.int n)]) rfl (hb hby da_8) _ ?_
    rw [len_of S_aw M_aw]
    show Steps p.tables e below (T2.setTop (mkF m 9 #[.val (.ref a), .val (.double xw), .second, .val (.double xf), .second, .val (.double xv), .second, .val (.double xl), .second, .val (.long xm), .second, .val (.int xo)] [(.int (16 : Int32)), (.int n)])) _
    refine XS.icmpYes X2.here hx rfl (pc0 := 9) (pc' := 16) rfl (hb hby da_9) rfl (feq (hne16 : ¬ (n = (16 : Int32)))).2 (by decide) (by decide) ?_
    show Steps p.tables e below (T2.setTop (mkF m 16 #[.val (.ref a), .val (.double xw), .second, .val (.double xf), .second, .val (.double xv), .second, .val (.double xl), .second, .val (.long xm), .second, .val (.int xo)] [])) _
    refine XS.aloadN X2.here hx rfl (hb hby da_16) rfl rfl ?_
    show Steps p.tables e below (T2.setTop (mkF m 17 #[.val (.ref a), .val (.double xw), .second, .val (.double xf), .second, .val (.double xv), .second, .val (.double xl), .second, .val (.long xm), .second, .val (.int xo)] [(.ref a)])) _
    refine st3 _ ?_
    show Steps p.tables e below (T3.setTop (mkF m 20 #[.val (.ref a), .val (.double xw), .second, .val (.double xf), .second, .val (.double xv), .second, .val (.double xl), .second, .val (.long xm), .second, .val (.int xo)] [(.ref aw)])) _
    refine XS.aloadN X3.here hx rfl (hb hby da_20) rfl rfl ?_
    show Steps p.tables e below (T3.setTop (mkF m 21 #[.val (.ref a), .val (.double xw), .second, .val (.double xf), .second, .val (.double xv), .second, .val (.double xl), .second, .val (.long xm), .second, .val (.int xo)] [(.ref a), (.ref aw)])) _
    refine st4 _ ?_
    show Steps p.tables e below (T4.setTop (mkF m 24 #[.val (.ref a), .val (.double xw), .second, .val (.double xf), .second, .val (.double xv), .second, .val (.double xl), .second, .val (.long xm), .second, .val (.int xo)] [(.int n), (.ref aw)])) _
    refine XS.dloadN X4.here hx rfl (hb hby da_24) rfl ?_
    show Steps p.tables e below (T4.setTop (mkF m 25 #[.val (.ref a), .val (.double xw), .second, .val (.double xf), .second, .val (.double xv), .second, .val (.double xl), .second, .val (.long xm), .second, .val (.int xo)] [(.double xw), (.int n), (.ref aw)])) _
    refine st5 _ ?_
    show Steps p.tables e below (T5.setTop (mkF m 26 #[.val (.ref a), .val (.double xw), .second, .val (.double xf), .second, .val (.double xv), .second, .val (.double xl), .second, .val (.long xm), .second, .val (.int xo)] [])) _
    refine XS.aloadN X5.here hx rfl (hb hby da_26) rfl rfl ?_
    show Steps p.tables e below (T5.setTop (mkF m 27 #[.val (.ref a), .val (.double xw), .second, .val (.double xf), .second, .val (.double xv), .second, .val (.double xl), .second, .val (.long xm), .second, .val (.int xo)] [(.ref a)])) _
    refine st6 _ ?_
    show Steps p.tables e below (T6.setTop (mkF m 30 #[.val (.ref a), .val (.double xw), .second, .val (.double xf), .second, .val (.double xv), .second, .val (.double xl), .second, .val (.long xm), .second, .val (.int xo)] [(.ref ap)])) _
    refine XS.aloadN X6.here hx rfl (hb hby da_30) rfl rfl ?_
    show Steps p.tables e below (T6.setTop (mkF m 31 #[.val (.ref a), .val (.double xw), .second, .val (.double xf), .second, .val (.double xv), .second, .val (.double xl), .second, .val (.long xm), .second, .val (.int xo)] [(.ref a), (.ref ap)])) _
    refine st8 _ ?_
    show Steps p.tables e below (T8.setTop (mkF m 34 #[.val (.ref a), .val (.double xw), .second, .val (.double xf), .second, .val (.double xv), .second, .val (.double xl), .second, .val (.long xm), .second, .val (.int xo)] [(.int n), (.ref ap)])) _
    refine XS.dloadN X8.here hx rfl (hb hby da_34) rfl ?_
    show Steps p.tables e below (T8.setTop (mkF m 35 #[.val (.ref a), .val (.double xw), .second, .val (.double xf), .second, .val (.double xv), .second, .val (.double xl), .second, .val (.long xm), .second, .val (.int xo)] [(.double xf), (.int n), (.ref ap)])) _
    refine st10 _ ?_
    show Steps p.tables e below (T10.setTop (mkF m 36 #[.val (.ref a), .val (.double xw), .second, .val (.double xf), .second, .val (.double xv), .second, .val (.double xl), .second, .val (.long xm), .second, .val (.int xo)] [])) _
    refine XS.aloadN X10.here hx rfl (hb hby da_36) rfl rfl ?_
    show Steps p.tables e below (T10.setTop (mkF m 37 #[.val (.ref a), .val (.double xw), .second, .val (.double xf), .second, .val (.double xv), .second, .val (.double xl), .second, .val (.long xm), .second, .val (.int xo)] [(.ref a)])) _
    refine st12 _ ?_
    show Steps p.tables e below (T12.setTop (mkF m 40 #[.val (.ref a), .val (.double xw), .second, .val (.double xf), .second, .val (.double xv), .second, .val (.double xl), .second, .val (.long xm), .second, .val (.int xo)] [(.ref av)])) _
    refine XS.aloadN X12.here hx rfl (hb hby da_40) rfl rfl ?_
    show Steps p.tables e below (T12.setTop (mkF m 41 #[.val (.ref a), .val (.double xw), .second, .val (.double xf), .second, .val (.double xv), .second, .val (.double xl), .second, .val (.long xm), .second, .val (.int xo)] [(.ref a), (.ref av)])) _
    refine st15 _ ?_
    show Steps p.tables e below (T15.setTop (mkF m 44 #[.val (.ref a), .val (.double xw), .second, .val (.double xf), .second, .val (.double xv), .second, .val (.double xl), .second, .val (.long xm), .second, .val (.int xo)] [(.int n), (.ref av)])) _
    refine XS.dload X15.here hx rfl (hb hby da_44) rfl ?_
    show Steps p.tables e below (T15.setTop (mkF m 46 #[.val (.ref a), .val (.double xw), .second, .val (.double xf), .second, .val (.double xv), .second, .val (.double xl), .second, .val (.long xm), .second, .val (.int xo)] [(.double xv), (.int n), (.ref av)])) _
    refine st17 _ ?_
    show Steps p.tables e below (T17.setTop (mkF m 47 #[.val (.ref a), .val (.double xw), .second, .val (.double xf), .second, .val (.double xv), .second, .val (.double xl), .second, .val (.long xm), .second, .val (.int xo)] [])) _
    refine XS.aloadN X17.here hx rfl (hb hby da_47) rfl rfl ?_
    show Steps p.tables e below (T17.setTop (mkF m 48 #[.val (.ref a), .val (.double xw), .second, .val (.double xf), .second, .val (.double xv), .second, .val (.double xl), .second, .val (.long xm), .second, .val (.int xo)] [(.ref a)])) _
    refine st20 _ ?_
    show Steps p.tables e below (T20.setTop (mkF m 51 #[.val (.ref a), .val (.double xw), .second, .val (.double xf), .second, .val (.double xv), .second, .val (.double xl), .second, .val (.long xm), .second, .val (.int xo)] [(.ref al)])) _
    refine XS.aloadN X20.here hx rfl (hb hby da_51) rfl rfl ?_
    show Steps p.tables e below (T20.setTop (mkF m 52 #[.val (.ref a), .val (.double xw), .second, .val (.double xf), .second, .val (.double xv), .second, .val (.double xl), .second, .val (.long xm), .second, .val (.int xo)] [(.ref a), (.ref al)])) _
    refine st24 _ ?_
    show Steps p.tables e below (T24.setTop (mkF m 55 #[.val (.ref a), .val (.double xw), .second, .val (.double xf), .second, .val (.double xv), .second, .val (.double xl), .second, .val (.long xm), .second, .val (.int xo)] [(.int n), (.ref al)])) _
    refine XS.dload X24.here hx rfl (hb hby da_55) rfl ?_
    show Steps p.tables e below (T24.setTop (mkF m 57 #[.val (.ref a), .val (.double xw), .second, .val (.double xf), .second, .val (.double xv), .second, .val (.double xl), .second, .val (.long xm), .second, .val (.int xo)] [(.double xl), (.int n), (.ref al)])) _
    refine st26 _ ?_
    show Steps p.tables e below (T26.setTop (mkF m 58 #[.val (.ref a), .val (.double xw), .second, .val (.double xf), .second, .val (.double xv), .second, .val (.double xl), .second, .val (.long xm), .second, .val (.int xo)] [])) _
    refine XS.aloadN X26.here hx rfl (hb hby da_58) rfl rfl ?_
    show Steps p.tables e below (T26.setTop (mkF m 59 #[.val (.ref a), .val (.double xw), .second, .val (.double xf), .second, .val (.double xv), .second, .val (.double xl), .second, .val (.long xm), .second, .val (.int xo)] [(.ref a)])) _
    refine st30 _ ?_
    show Steps p.tables e below (T30.setTop (mkF m 62 #[.val (.ref a), .val (.double xw), .second, .val (.double xf), .second, .val (.double xv), .second, .val (.double xl), .second, .val (.long xm), .second, .val (.int xo)] [(.ref am)])) _
    refine XS.aloadN X30.here hx rfl (hb hby da_62) rfl rfl ?_
    show Steps p.tables e below (T30.setTop (mkF m 63 #[.val (.ref a), .val (.double xw), .second, .val (.double xf), .second, .val (.double xv), .second, .val (.double xl), .second, .val (.long xm), .second, .val (.int xo)] [(.ref a), (.ref am)])) _
    refine st35 _ ?_
    show Steps p.tables e below (T35.setTop (mkF m 66 #[.val (.ref a), .val (.double xw), .second, .val (.double xf), .second, .val (.double xv), .second, .val (.double xl), .second, .val (.long xm), .second, .val (.int xo)] [(.int n), (.ref am)])) _
    refine XS.lload X35.here hx rfl (hb hby da_66) rfl ?_
    show Steps p.tables e below (T35.setTop (mkF m 68 #[.val (.ref a), .val (.double xw), .second, .val (.double xf), .second, .val (.double xv), .second, .val (.double xl), .second, .val (.long xm), .second, .val (.int xo)] [(.long xm), (.int n), (.ref am)])) _
    refine st37 _ ?_
    show Steps p.tables e below (T37.setTop (mkF m 69 #[.val (.ref a), .val (.double xw), .second, .val (.double xf), .second, .val (.double xv), .second, .val (.double xl), .second, .val (.long xm), .second, .val (.int xo)] [])) _
    refine XS.aloadN X37.here hx rfl (hb hby da_69) rfl rfl ?_
    show Steps p.tables e below (T37.setTop (mkF m 70 #[.val (.ref a), .val (.double xw), .second, .val (.double xf), .second, .val (.double xv), .second, .val (.double xl), .second, .val (.long xm), .second, .val (.int xo)] [(.ref a)])) _
    refine st42 _ ?_
    show Steps p.tables e below (T42.setTop (mkF m 73 #[.val (.ref a), .val (.double xw), .second, .val (.double xf), .second, .val (.double xv), .second, .val (.double xl), .second, .val (.long xm), .second, .val (.int xo)] [(.ref ao)])) _
    refine XS.aloadN X42.here hx rfl (hb hby da_73) rfl rfl ?_
    show Steps p.tables e below (T42.setTop (mkF m 74 #[.val (.ref a), .val (.double xw), .second, .val (.double xf), .second, .val (.double xv), .second, .val (.double xl), .second, .val (.long xm), .second, .val (.int xo)] [(.ref a), (.ref ao)])) _
    refine st48 _ ?_
    show Steps p.tables e below (T48.setTop (mkF m 77 #[.val (.ref a), .val (.double xw), .second, .val (.double xf), .second, .val (.double xv), .second, .val (.double xl), .second, .val (.long xm), .second, .val (.int xo)] [(.int n), (.ref ao)])) _
    refine XS.iload X48.here hx rfl (hb hby da_77) rfl ?_
    show Steps p.tables e below (T48.setTop (mkF m 79 #[.val (.ref a), .val (.double xw), .second, .val (.double xf), .second, .val (.double xv), .second, .val (.double xl), .second, .val (.long xm), .second, .val (.int xo)] [(.int xo), (.int n), (.ref ao)])) _
    refine st50 _ ?_
    show Steps p.tables e below (T50.setTop (mkF m 80 #[.val (.ref a), .val (.double xw), .second, .val (.double xf), .second, .val (.double xv), .second, .val (.double xl), .second, .val (.long xm), .second, .val (.int xo)] [])) _
    refine XS.aloadN X50.here hx rfl (hb hby da_80) rfl rfl ?_
    show Steps p.tables e below (T50.setTop (mkF m 81 #[.val (.ref a), .val (.double xw), .second, .val (.double xf), .second, .val (.double xv), .second, .val (.double xl), .second, .val (.long xm), .second, .val (.int xo)] [(.ref a)])) _
    refine XS.dup X50.here hx rfl (hb hby da_81) rfl rfl ?_
    show Steps p.tables e below (T50.setTop (mkF m 82 #[.val (.ref a), .val (.double xw), .second, .val (.double xf), .second, .val (.double xv), .second, .val (.double xl), .second, .val (.long xm), .second, .val (.int xo)] [(.ref a), (.ref a)])) _
    refine st56 _ ?_
    show Steps p.tables e below (T56.setTop (mkF m 85 #[.val (.ref a), .val (.double xw), .second, .val (.double xf), .second, .val (.double xv), .second, .val (.double xl), .second, .val (.long xm), .second, .val (.int xo)] [(.int n), (.ref a)])) _
    refine XS.iconst X56.here hx rfl (hb hby da_85) ?_
    show Steps p.tables e below (T56.setTop (mkF m 86 #[.val (.ref a), .val (.double xw), .second, .val (.double xf), .second, .val (.double xv), .second, .val (.double xl), .second, .val (.long xm), .second, .val (.int xo)] [(.int (1 : Int32)), (.int n), (.ref a)])) _
    refine XS.iadd X56.here hx rfl (hb hby da_86) rfl ?_
    show Steps p.tables e below (T56.setTop (mkF m 87 #[.val (.ref a), .val (.double xw), .second, .val (.double xf), .second, .val (.double xv), .second, .val (.double xl), .second, .val (.long xm), .second, .val (.int xo)] [(.int (n + (1 : Int32))), (.ref a)])) _
    refine st58 _ ?_
    show Steps p.tables e below (T58.setTop (mkF m 90 #[.val (.ref a), .val (.double xw), .second, .val (.double xf), .second, .val (.double xv), .second, .val (.double xl), .second, .val (.long xm), .second, .val (.int xo)] [])) _
    refine XS.aloadN X58.here hx rfl (hb hby da_90) rfl rfl ?_
    show Steps p.tables e below (T58.setTop (mkF m 91 #[.val (.ref a), .val (.double xw), .second, .val (.double xf), .second, .val (.double xv), .second, .val (.double xl), .second, .val (.long xm), .second, .val (.int xo)] [(.ref a)])) _
    refine XS.aloadN X58.here hx rfl (hb hby da_91) rfl rfl ?_
    show Steps p.tables e below (T58.setTop (mkF m 92 #[.val (.ref a), .val (.double xw), .second, .val (.double xf), .second, .val (.double xv), .second, .val (.double xl), .second, .val (.long xm), .second, .val (.int xo)] [(.ref a), (.ref a)])) _
    refine st65 _ ?_
    show Steps p.tables e below (T65.setTop (mkF m 95 #[.val (.ref a), .val (.double xw), .second, .val (.double xf), .second, .val (.double xv), .second, .val (.double xl), .second, .val (.long xm), .second, .val (.int xo)] [(.double x0), (.ref a)])) _
    refine XS.dload X65.here hx rfl (hb hby da_95) rfl ?_
    show Steps p.tables e below (T65.setTop (mkF m 97 #[.val (.ref a), .val (.double xw), .second, .val (.double xf), .second, .val (.double xv), .second, .val (.double xl), .second, .val (.long xm), .second, .val (.int xo)] [(.double xl), (.double x0), (.ref a)])) _
    refine st73 _ ?_
    show Steps p.tables e below (T73.setTop (mkF m 100 #[.val (.ref a), .val (.double xw), .second, .val (.double xf), .second, .val (.double xv), .second, .val (.double xl), .second, .val (.long xm), .second, .val (.int xo)] [(.double (Native.java_lang_Math.nans.pick64 false x0 xl)), (.ref a)])) _
    refine st74 _ ?_
    show Steps p.tables e below (T74.setTop (mkF m 103 #[.val (.ref a), .val (.double xw), .second, .val (.double xf), .second, .val (.double xv), .second, .val (.double xl), .second, .val (.long xm), .second, .val (.int xo)] [])) _
    refine XS.aloadN X74.here hx rfl (hb hby da_103) rfl rfl ?_
    show Steps p.tables e below (T74.setTop (mkF m 104 #[.val (.ref a), .val (.double xw), .second, .val (.double xf), .second, .val (.double xv), .second, .val (.double xl), .second, .val (.long xm), .second, .val (.int xo)] [(.ref a)])) _
    refine XS.aloadN X74.here hx rfl (hb hby da_104) rfl rfl ?_
    show Steps p.tables e below (T74.setTop (mkF m 105 #[.val (.ref a), .val (.double xw), .second, .val (.double xf), .second, .val (.double xv), .second, .val (.double xl), .second, .val (.long xm), .second, .val (.int xo)] [(.ref a), (.ref a)])) _
    refine st76 _ ?_
    show Steps p.tables e below (T76.setTop (mkF m 108 #[.val (.ref a), .val (.double xw), .second, .val (.double xf), .second, .val (.double xv), .second, .val (.double xl), .second, .val (.long xm), .second, .val (.int xo)] [(.double x1), (.ref a)])) _
    refine XS.dload X76.here hx rfl (hb hby da_108) rfl ?_
    show Steps p.tables e below (T76.setTop (mkF m 110 #[.val (.ref a), .val (.double xw), .second, .val (.double xf), .second, .val (.double xv), .second, .val (.double xl), .second, .val (.long xm), .second, .val (.int xo)] [(.double xv), (.double x1), (.ref a)])) _
    refine st85 _ ?_
    show Steps p.tables e below (T85.setTop (mkF m 113 #[.val (.ref a), .val (.double xw), .second, .val (.double xf), .second, .val (.double xv), .second, .val (.double xl), .second, .val (.long xm), .second, .val (.int xo)] [(.double (Native.java_lang_Math.nans.pick64 false x1 xv)), (.ref a)])) _
    refine st86 _ ?_
    show Steps p.tables e below (T86.setTop (mkF m 116 #[.val (.ref a), .val (.double xw), .second, .val (.double xf), .second, .val (.double xv), .second, .val (.double xl), .second, .val (.long xm), .second, .val (.int xo)] [])) _
    refine XS.aloadN X86.here hx rfl (hb hby da_116) rfl rfl ?_
    show Steps p.tables e below (T86.setTop (mkF m 117 #[.val (.ref a), .val (.double xw), .second, .val (.double xf), .second, .val (.double xv), .second, .val (.double xl), .second, .val (.long xm), .second, .val (.int xo)] [(.ref a)])) _
    refine XS.aloadN X86.here hx rfl (hb hby da_117) rfl rfl ?_
    show Steps p.tables e below (T86.setTop (mkF m 118 #[.val (.ref a), .val (.double xw), .second, .val (.double xf), .second, .val (.double xv), .second, .val (.double xl), .second, .val (.long xm), .second, .val (.int xo)] [(.ref a), (.ref a)])) _
    refine st88 _ ?_
    show Steps p.tables e below (T88.setTop (mkF m 121 #[.val (.ref a), .val (.double xw), .second, .val (.double xf), .second, .val (.double xv), .second, .val (.double xl), .second, .val (.long xm), .second, .val (.int xo)] [(.double x2), (.ref a)])) _
    refine XS.dload X88.here hx rfl (hb hby da_121) rfl ?_
    show Steps p.tables e below (T88.setTop (mkF m 123 #[.val (.ref a), .val (.double xw), .second, .val (.double xf), .second, .val (.double xv), .second, .val (.double xl), .second, .val (.long xm), .second, .val (.int xo)] [(.double xv), (.double x2), (.ref a)])) _
    refine st98 _ ?_
    show Steps p.tables e below (T98.setTop (mkF m 126 #[.val (.ref a), .val (.double xw), .second, .val (.double xf), .second, .val (.double xv), .second, .val (.double xl), .second, .val (.long xm), .second, .val (.int xo)] [(.double (Native.java_lang_Math.nans.pick64 true x2 xv)), (.ref a)])) _
    refine st99 _ ?_
    show Steps p.tables e below (T99.setTop (mkF m 129 #[.val (.ref a), .val (.double xw), .second, .val (.double xf), .second, .val (.double xv), .second, .val (.double xl), .second, .val (.long xm), .second, .val (.int xo)] [])) _
    refine XS.aloadN X99.here hx rfl (hb hby da_129) rfl rfl ?_
    show Steps p.tables e below (T99.setTop (mkF m 130 #[.val (.ref a), .val (.double xw), .second, .val (.double xf), .second, .val (.double xv), .second, .val (.double xl), .second, .val (.long xm), .second, .val (.int xo)] [(.ref a)])) _
    refine XS.aloadN X99.here hx rfl (hb hby da_130) rfl rfl ?_
    show Steps p.tables e below (T99.setTop (mkF m 131 #[.val (.ref a), .val (.double xw), .second, .val (.double xf), .second, .val (.double xv), .second, .val (.double xl), .second, .val (.long xm), .second, .val (.int xo)] [(.ref a), (.ref a)])) _
    refine st101 _ ?_
    show Steps p.tables e below (T101.setTop (mkF m 134 #[.val (.ref a), .val (.double xw), .second, .val (.double xf), .second, .val (.double xv), .second, .val (.double xl), .second, .val (.long xm), .second, .val (.int xo)] [(.double x3), (.ref a)])) _
    refine XS.dloadN X101.here hx rfl (hb hby da_134) rfl ?_
    show Steps p.tables e below (T101.setTop (mkF m 135 #[.val (.ref a), .val (.double xw), .second, .val (.double xf), .second, .val (.double xv), .second, .val (.double xl), .second, .val (.long xm), .second, .val (.int xo)] [(.double xw), (.double x3), (.ref a)])) _
    refine st112 _ ?_
    show Steps p.tables e below (T112.setTop (mkF m 138 #[.val (.ref a), .val (.double xw), .second, .val (.double xf), .second, .val (.double xv), .second, .val (.double xl), .second, .val (.long xm), .second, .val (.int xo)] [(.double (Native.java_lang_Math.nans.pick64 false x3 xw)), (.ref a)])) _
    refine st113 _ ?_
    show Steps p.tables e below (T113.setTop (mkF m 141 #[.val (.ref a), .val (.double xw), .second, .val (.double xf), .second, .val (.double xv), .second, .val (.double xl), .second, .val (.long xm), .second, .val (.int xo)] [])) _
    refine XS.aloadN X113.here hx rfl (hb hby da_141) rfl rfl ?_
    show Steps p.tables e below (T113.setTop (mkF m 142 #[.val (.ref a), .val (.double xw), .second, .val (.double xf), .second, .val (.double xv), .second, .val (.double xl), .second, .val (.long xm), .second, .val (.int xo)] [(.ref a)])) _
    refine XS.aloadN X113.here hx rfl (hb hby da_142) rfl rfl ?_
    show Steps p.tables e below (T113.setTop (mkF m 143 #[.val (.ref a), .val (.double xw), .second, .val (.double xf), .second, .val (.double xv), .second, .val (.double xl), .second, .val (.long xm), .second, .val (.int xo)] [(.ref a), (.ref a)])) _
    refine st115 _ ?_
    show Steps p.tables e below (T115.setTop (mkF m 146 #[.val (.ref a), .val (.double xw), .second, .val (.double xf), .second, .val (.double xv), .second, .val (.double xl), .second, .val (.long xm), .second, .val (.int xo)] [(.double x4), (.ref a)])) _
    refine XS.dloadN X115.here hx rfl (hb hby da_146) rfl ?_
    show Steps p.tables e below (T115.setTop (mkF m 147 #[.val (.ref a), .val (.double xw), .second, .val (.double xf), .second, .val (.double xv), .second, .val (.double xl), .second, .val (.long xm), .second, .val (.int xo)] [(.double xw), (.double x4), (.ref a)])) _
    refine st127 _ ?_
    show Steps p.tables e below (T127.setTop (mkF m 150 #[.val (.ref a), .val (.double xw), .second, .val (.double xf), .second, .val (.double xv), .second, .val (.double xl), .second, .val (.long xm), .second, .val (.int xo)] [(.double (Native.java_lang_Math.nans.pick64 true x4 xw)), (.ref a)])) _
    refine st128 _ ?_
    show Steps p.tables e below (T128.setTop (mkF m 153 #[.val (.ref a), .val (.double xw), .second, .val (.double xf), .second, .val (.double xv), .second, .val (.double xl), .second, .val (.long xm), .second, .val (.int xo)] [])) _
    exact X128.returnOut hx Bd.returns (hb hby da_153) hr
  · show Q4 Z a n vs xf n0 _ T128.heap _
    rw [e128]
    exact ⟨rfl, N128, ⟨aw, ap, av, al, am, ao, _, _, _, _, _, _, (Native.java_lang_Math.nans.pick64 false x0 xl), (Native.java_lang_Math.nans.pick64 false x1 xv), (Native.java_lang_Math.nans.pick64 true x2 xv), (Native.java_lang_Math.nans.pick64 false x3 xw), (Native.java_lang_Math.nans.pick64 true x4 xw), _, _, _, _, _, ga, o1, o2, o3, o4, o5, o6, f130, f135, f147, f158, f168, f177, f185, f192, f196, f199, f201, f202, f128w, (own_pick nx0 nl), (own_pick nx1 nv), (own_pick nx2 nv), (own_pick nx3 nw), (own_pick nx4 nw), f213, f223, f232, f240, f247, f253, (by rw [List.length_set]; exact l_aw), (by rw [List.length_set]; exact l_ap), (by rw [List.length_set]; exact l_av), (by rw [List.length_set]; exact l_al), (by rw [List.length_set]; exact l_am), (by rw [List.length_set]; exact l_ao)⟩⟩
theorem os7 {a : Addr} {mv : UInt64} {x y v : Int32} {o : Slot} (h : One o) : storeLocals #[.val (.ref a), .val (.double mv), .second, .val (.int x), .val (.int y), o] 5 (.int v) = some #[.val (.ref a), .val (.double mv), .second, .val (.int x), .val (.int y), .val (.int v)] := by
  rcases h with rfl | ⟨w, rfl, hw⟩
  · rfl
  · cases w <;> first | rfl | (simp [Value.category] at hw)
theorem df_0 : decode prog_237_method_7_code 0 = .ok (.iconst 0, 1) := by decide +kernel
theorem df_1 : decode prog_237_method_7_code 1 = .ok (.istore_n 3, 1) := by decide +kernel
theorem df_2 : decode prog_237_method_7_code 2 = .ok (.aload_n 0, 1) := by decide +kernel
theorem df_3 : decode prog_237_method_7_code 3 = .ok (.getfield 61, 3) := by decide +kernel
theorem df_6 : decode prog_237_method_7_code 6 = .ok (.istore 4, 2) := by decide +kernel
theorem df_8 : decode prog_237_method_7_code 8 = .ok (.iload_n 3, 1) := by decide +kernel
theorem df_9 : decode prog_237_method_7_code 9 = .ok (.iload 4, 2) := by decide +kernel
theorem df_11 : decode prog_237_method_7_code 11 = .ok (.if_icmp .ge 40, 3) := by decide +kernel
theorem df_14 : decode prog_237_method_7_code 14 = .ok (.iload_n 3, 1) := by decide +kernel
theorem df_15 : decode prog_237_method_7_code 15 = .ok (.iload 4, 2) := by decide +kernel
theorem df_17 : decode prog_237_method_7_code 17 = .ok (.iadd, 1) := by decide +kernel
theorem df_18 : decode prog_237_method_7_code 18 = .ok (.iconst 1, 1) := by decide +kernel
theorem df_19 : decode prog_237_method_7_code 19 = .ok (.iushr, 1) := by decide +kernel
theorem df_20 : decode prog_237_method_7_code 20 = .ok (.istore 5, 2) := by decide +kernel
theorem df_22 : decode prog_237_method_7_code 22 = .ok (.aload_n 0, 1) := by decide +kernel
theorem df_23 : decode prog_237_method_7_code 23 = .ok (.getfield 35, 3) := by decide +kernel
theorem df_26 : decode prog_237_method_7_code 26 = .ok (.iload 5, 2) := by decide +kernel
theorem df_28 : decode prog_237_method_7_code 28 = .ok (.daload, 1) := by decide +kernel
theorem df_29 : decode prog_237_method_7_code 29 = .ok (.dload_n 1, 1) := by decide +kernel
theorem df_30 : decode prog_237_method_7_code 30 = .ok (.dadd, 1) := by decide +kernel
theorem df_31 : decode prog_237_method_7_code 31 = .ok (.dconst 1, 1) := by decide +kernel
theorem df_32 : decode prog_237_method_7_code 32 = .ok (.dcmp .g, 1) := by decide +kernel
theorem df_33 : decode prog_237_method_7_code 33 = .ok (.ifCond .ge 11, 3) := by decide +kernel
theorem df_36 : decode prog_237_method_7_code 36 = .ok (.iload 5, 2) := by decide +kernel
theorem df_38 : decode prog_237_method_7_code 38 = .ok (.iconst 1, 1) := by decide +kernel
theorem df_39 : decode prog_237_method_7_code 39 = .ok (.iadd, 1) := by decide +kernel
theorem df_40 : decode prog_237_method_7_code 40 = .ok (.istore_n 3, 1) := by decide +kernel
theorem df_41 : decode prog_237_method_7_code 41 = .ok (.goto 7, 3) := by decide +kernel
theorem df_44 : decode prog_237_method_7_code 44 = .ok (.iload 5, 2) := by decide +kernel
theorem df_46 : decode prog_237_method_7_code 46 = .ok (.istore 4, 2) := by decide +kernel
theorem df_48 : decode prog_237_method_7_code 48 = .ok (.goto (-40), 3) := by decide +kernel
theorem df_51 : decode prog_237_method_7_code 51 = .ok (.iload_n 3, 1) := by decide +kernel
theorem df_52 : decode prog_237_method_7_code 52 = .ok (.aload_n 0, 1) := by decide +kernel
theorem df_53 : decode prog_237_method_7_code 53 = .ok (.getfield 61, 3) := by decide +kernel
theorem df_56 : decode prog_237_method_7_code 56 = .ok (.if_icmp .ne 7, 3) := by decide +kernel
theorem df_59 : decode prog_237_method_7_code 59 = .ok (.iconst 0, 1) := by decide +kernel
theorem df_60 : decode prog_237_method_7_code 60 = .ok (.goto 4, 3) := by decide +kernel
theorem df_63 : decode prog_237_method_7_code 63 = .ok (.iload_n 3, 1) := by decide +kernel
theorem df_64 : decode prog_237_method_7_code 64 = .ok (.ireturn, 1) := by decide +kernel
set_option maxRecDepth 65536 in
set_option maxHeartbeats 40000000 in
theorem tn7_lt {p : Program} {l : Launch} {e : Env} {R : Room} {s : State} {m : MethodId} {args : Array Value} {below : List Frame} {meth : Method} {c : Code} {T0 : State} {locs : List Loc} {cells slots : Nat} {Z : State} {a0 : Array Value} {h0 : Heap} (a ap : Addr) (kp : ClassId) (mv x : UInt64) (i3 i4 im : Int32) (o : Slot) (c_ap : Cell)
    (X0 : Stand p l e R s m args below meth c T0 locs cells slots) (hx : p.tables.exec = Jvm.exec) (hZ : Z.Warmed39 s.vm) (hw : ∀ d ∈ tables_1, d.before a0 Z = true) (hby : c.code = prog_237_method_7_code) (hml : c.maxLocals = 6) (hown : s.vm.findClass "com/example/tidewise/tidewise/plan/HeldPlans" = some m.cls) (e0 : T0.heap = h0) (F_part : Fld Z h0 a "com/example/tidewise/tidewise/plan/HeldPlans" "part" "[D" (.ref ap)) (A_ap : Arr Z h0 ap c_ap .double) (ho : One o) (hlt : i3 < i4) (hmid : ((((i3 + i4)).toUInt32 >>> ((1 : Int32) &&& 31).toUInt32).toInt32) = im) (hin : ¬ (im < 0 ∨ c_ap.slots.size ≤ im.toNatClampNeg)) (hat : c_ap.slots[im.toNatClampNeg]? = some (.double x)) (hnan : NoNaN64 (FP.dadd x mv)) (hc : cmpValue (FP.dcmp (FP.dadd x mv) (4607182418800017408 : UInt64)) .g < (0 : Int32)) (iq : Int32) (hq : (im + (1 : Int32)) = iq) :
    ∃ (T' : State), Stand p l e R s m args below meth c T' locs cells slots ∧ T'.heap = h0 ∧
      ∀ target, Steps p.tables e below (T'.setTop (mkF m 8 #[.val (.ref a), .val (.double mv), .second, .val (.int iq), .val (.int i4), .val (.int im)] [])) target → Steps p.tables e below (T0.setTop (mkF m 8 #[.val (.ref a), .val (.double mv), .second, .val (.int i3), .val (.int i4), o] [])) target := by
  obtain ⟨T1, X1, e1, st1⟩ := getF X0 hx hZ hown (host := "") (Or.inl (hw _ (List.mem_of_getElem? (i := 25) rfl))) Via.refl e0 F_part (g := (mkF m 23 #[.val (.ref a), .val (.double mv), .second, .val (.int i3), .val (.int i4), .val (.int im)] [(.ref a)])) rfl rfl (hb hby df_23)
  refine ⟨T1, X1, e1, fun target kt => ?_⟩
  show Steps p.tables e below (T0.setTop (mkF m 8 #[.val (.ref a), .val (.double mv), .second, .val (.int i3), .val (.int i4), o] [])) _
  refine XS.iloadN X0.here hx rfl (hb hby df_8) rfl ?_
  show Steps p.tables e below (T0.setTop (mkF m 9 #[.val (.ref a), .val (.double mv), .second, .val (.int i3), .val (.int i4), o] [(.int i3)])) _
  refine XS.iload X0.here hx rfl (hb hby df_9) rfl ?_
  show Steps p.tables e below (T0.setTop (mkF m 11 #[.val (.ref a), .val (.double mv), .second, .val (.int i3), .val (.int i4), o] [(.int i4), (.int i3)])) _
  refine XS.icmpNo X0.here hx rfl (hb hby df_11) rfl (tlt (hlt : i3 < i4)).2.1 ?_
  show Steps p.tables e below (T0.setTop (mkF m 14 #[.val (.ref a), .val (.double mv), .second, .val (.int i3), .val (.int i4), o] [])) _
  refine XS.iloadN X0.here hx rfl (hb hby df_14) rfl ?_
  show Steps p.tables e below (T0.setTop (mkF m 15 #[.val (.ref a), .val (.double mv), .second, .val (.int i3), .val (.int i4), o] [(.int i3)])) _
  refine XS.iload X0.here hx rfl (hb hby df_15) rfl ?_
  show Steps p.tables e below (T0.setTop (mkF m 17 #[.val (.ref a), .val (.double mv), .second, .val (.int i3), .val (.int i4), o] [(.int i4), (.int i3)])) _
  refine XS.iadd X0.here hx rfl (hb hby df_17) rfl ?_
  show Steps p.tables e below (T0.setTop (mkF m 18 #[.val (.ref a), .val (.double mv), .second, .val (.int i3), .val (.int i4), o] [(.int (i3 + i4))])) _
  refine XS.iconst X0.here hx rfl (hb hby df_18) ?_
  show Steps p.tables e below (T0.setTop (mkF m 19 #[.val (.ref a), .val (.double mv), .second, .val (.int i3), .val (.int i4), o] [(.int (1 : Int32)), (.int (i3 + i4))])) _
  refine XS.iushr X0.here hx rfl (hb hby df_19) rfl ?_
  show Steps p.tables e below (T0.setTop (mkF m 20 #[.val (.ref a), .val (.double mv), .second, .val (.int i3), .val (.int i4), o] [(.int (((i3 + i4).toUInt32 >>> ((1 : Int32) &&& 31).toUInt32).toInt32))])) _
  rw [hmid]
  show Steps p.tables e below (T0.setTop (mkF m 20 #[.val (.ref a), .val (.double mv), .second, .val (.int i3), .val (.int i4), o] [(.int im)])) _
  refine XS.istore X0.here hx rfl (hb hby df_20) rfl (l' := #[.val (.ref a), .val (.double mv), .second, .val (.int i3), .val (.int i4), .val (.int im)]) (os7 ho) ?_
  show Steps p.tables e below (T0.setTop (mkF m 22 #[.val (.ref a), .val (.double mv), .second, .val (.int i3), .val (.int i4), .val (.int im)] [])) _
  refine XS.aloadN X0.here hx rfl (hb hby df_22) rfl rfl ?_
  show Steps p.tables e below (T0.setTop (mkF m 23 #[.val (.ref a), .val (.double mv), .second, .val (.int i3), .val (.int i4), .val (.int im)] [(.ref a)])) _
  refine st1 _ ?_
  show Steps p.tables e below (T1.setTop (mkF m 26 #[.val (.ref a), .val (.double mv), .second, .val (.int i3), .val (.int i4), .val (.int im)] [(.ref ap)])) _
  refine XS.iload X1.here hx rfl (hb hby df_26) rfl ?_
  show Steps p.tables e below (T1.setTop (mkF m 28 #[.val (.ref a), .val (.double mv), .second, .val (.int i3), .val (.int i4), .val (.int im)] [(.int im), (.ref ap)])) _
  refine X1.daload hx (cell := c_ap) (j := im) (v := (.double x)) (by rw [e1]; exact A_ap.1) (State.isArrayOf_alike hZ.alike A_ap.2.1) A_ap.2.2 hin hat (g := (mkF m 28 #[.val (.ref a), .val (.double mv), .second, .val (.int i3), .val (.int i4), .val (.int im)] [(.int im), (.ref ap)])) rfl rfl (hb hby df_28) _ ?_
  show Steps p.tables e below (T1.setTop (mkF m 29 #[.val (.ref a), .val (.double mv), .second, .val (.int i3), .val (.int i4), .val (.int im)] [(.double x)])) _
  refine XS.dloadN X1.here hx rfl (hb hby df_29) rfl ?_
  show Steps p.tables e below (T1.setTop (mkF m 30 #[.val (.ref a), .val (.double mv), .second, .val (.int i3), .val (.int i4), .val (.int im)] [(.double mv), (.double x)])) _
  refine XS.daddS X1.here hx rfl (hb hby df_30) rfl hnan rfl ?_
  show Steps p.tables e below (T1.setTop (mkF m 31 #[.val (.ref a), .val (.double mv), .second, .val (.int i3), .val (.int i4), .val (.int im)] [(.double (FP.dadd x mv))])) _
  refine XS.dconst1 X1.here hx rfl (hb hby df_31) rfl ?_
  show Steps p.tables e below (T1.setTop (mkF m 32 #[.val (.ref a), .val (.double mv), .second, .val (.int i3), .val (.int i4), .val (.int im)] [(.double (4607182418800017408 : UInt64)), (.double (FP.dadd x mv))])) _
  refine XS.dcmpS X1.here hx rfl (hb hby df_32) rfl rfl ?_
  show Steps p.tables e below (T1.setTop (mkF m 33 #[.val (.ref a), .val (.double mv), .second, .val (.int i3), .val (.int i4), .val (.int im)] [(.int (cmpValue (FP.dcmp (FP.dadd x mv) (4607182418800017408 : UInt64)) .g))])) _
  refine XS.ifNo X1.here hx rfl (hb hby df_33) rfl ((if0 _ _).trans (tlt (hc : (cmpValue (FP.dcmp (FP.dadd x mv) (4607182418800017408 : UInt64)) .g) < (0 : Int32))).2.1) ?_
  show Steps p.tables e below (T1.setTop (mkF m 36 #[.val (.ref a), .val (.double mv), .second, .val (.int i3), .val (.int i4), .val (.int im)] [])) _
  refine XS.iload X1.here hx rfl (hb hby df_36) rfl ?_
  show Steps p.tables e below (T1.setTop (mkF m 38 #[.val (.ref a), .val (.double mv), .second, .val (.int i3), .val (.int i4), .val (.int im)] [(.int im)])) _
  refine XS.iconst X1.here hx rfl (hb hby df_38) ?_
  show Steps p.tables e below (T1.setTop (mkF m 39 #[.val (.ref a), .val (.double mv), .second, .val (.int i3), .val (.int i4), .val (.int im)] [(.int (1 : Int32)), (.int im)])) _
  refine XS.iadd X1.here hx rfl (hb hby df_39) rfl ?_
  show Steps p.tables e below (T1.setTop (mkF m 40 #[.val (.ref a), .val (.double mv), .second, .val (.int i3), .val (.int i4), .val (.int im)] [(.int (im + (1 : Int32)))])) _
  rw [hq]
  show Steps p.tables e below (T1.setTop (mkF m 40 #[.val (.ref a), .val (.double mv), .second, .val (.int i3), .val (.int i4), .val (.int im)] [(.int iq)])) _
  refine XS.istoreN X1.here hx rfl (hb hby df_40) rfl (l' := #[.val (.ref a), .val (.double mv), .second, .val (.int iq), .val (.int i4), .val (.int im)]) rfl ?_
  show Steps p.tables e below (T1.setTop (mkF m 41 #[.val (.ref a), .val (.double mv), .second, .val (.int iq), .val (.int i4), .val (.int im)] [])) _
  refine XS.goto X1.here hx rfl (pc0 := 41) (pc' := 48) rfl (hb hby df_41) (by decide) (by decide) ?_
  show Steps p.tables e below (T1.setTop (mkF m 48 #[.val (.ref a), .val (.double mv), .second, .val (.int iq), .val (.int i4), .val (.int im)] [])) _
  refine XS.goto X1.here hx rfl (pc0 := 48) (pc' := 8) rfl (hb hby df_48) (by decide) (by decide) ?_
  exact kt
set_option maxRecDepth 65536 in
set_option maxHeartbeats 40000000 in
theorem tn7_ge {p : Program} {l : Launch} {e : Env} {R : Room} {s : State} {m : MethodId} {args : Array Value} {below : List Frame} {meth : Method} {c : Code} {T0 : State} {locs : List Loc} {cells slots : Nat} {Z : State} {a0 : Array Value} {h0 : Heap} (a ap : Addr) (kp : ClassId) (mv x : UInt64) (i3 i4 im : Int32) (o : Slot) (c_ap : Cell)
    (X0 : Stand p l e R s m args below meth c T0 locs cells slots) (hx : p.tables.exec = Jvm.exec) (hZ : Z.Warmed39 s.vm) (hw : ∀ d ∈ tables_1, d.before a0 Z = true) (hby : c.code = prog_237_method_7_code) (hml : c.maxLocals = 6) (hown : s.vm.findClass "com/example/tidewise/tidewise/plan/HeldPlans" = some m.cls) (e0 : T0.heap = h0) (F_part : Fld Z h0 a "com/example/tidewise/tidewise/plan/HeldPlans" "part" "[D" (.ref ap)) (A_ap : Arr Z h0 ap c_ap .double) (ho : One o) (hlt : i3 < i4) (hmid : ((((i3 + i4)).toUInt32 >>> ((1 : Int32) &&& 31).toUInt32).toInt32) = im) (hin : ¬ (im < 0 ∨ c_ap.slots.size ≤ im.toNatClampNeg)) (hat : c_ap.slots[im.toNatClampNeg]? = some (.double x)) (hnan : NoNaN64 (FP.dadd x mv)) (hc : ¬ (cmpValue (FP.dcmp (FP.dadd x mv) (4607182418800017408 : UInt64)) .g < (0 : Int32)))  :
    ∃ (T' : State), Stand p l e R s m args below meth c T' locs cells slots ∧ T'.heap = h0 ∧
      ∀ target, Steps p.tables e below (T'.setTop (mkF m 8 #[.val (.ref a), .val (.double mv), .second, .val (.int i3), .val (.int im), .val (.int im)] [])) target → Steps p.tables e below (T0.setTop (mkF m 8 #[.val (.ref a), .val (.double mv), .second, .val (.int i3), .val (.int i4), o] [])) target := by
  obtain ⟨T1, X1, e1, st1⟩ := getF X0 hx hZ hown (host := "") (Or.inl (hw _ (List.mem_of_getElem? (i := 25) rfl))) Via.refl e0 F_part (g := (mkF m 23 #[.val (.ref a), .val (.double mv), .second, .val (.int i3), .val (.int i4), .val (.int im)] [(.ref a)])) rfl rfl (hb hby df_23)
  refine ⟨T1, X1, e1, fun target kt => ?_⟩
  show Steps p.tables e below (T0.setTop (mkF m 8 #[.val (.ref a), .val (.double mv), .second, .val (.int i3), .val (.int i4), o] [])) _
  refine XS.iloadN X0.here hx rfl (hb hby df_8) rfl ?_
  show Steps p.tables e below (T0.setTop (mkF m 9 #[.val (.ref a), .val (.double mv), .second, .val (.int i3), .val (.int i4), o] [(.int i3)])) _
  refine XS.iload X0.here hx rfl (hb hby df_9) rfl ?_
  show Steps p.tables e below (T0.setTop (mkF m 11 #[.val (.ref a), .val (.double mv), .second, .val (.int i3), .val (.int i4), o] [(.int i4), (.int i3)])) _
  refine XS.icmpNo X0.here hx rfl (hb hby df_11) rfl (tlt (hlt : i3 < i4)).2.1 ?_
  show Steps p.tables e below (T0.setTop (mkF m 14 #[.val (.ref a), .val (.double mv), .second, .val (.int i3), .val (.int i4), o] [])) _
  refine XS.iloadN X0.here hx rfl (hb hby df_14) rfl ?_
  show Steps p.tables e below (T0.setTop (mkF m 15 #[.val (.ref a), .val (.double mv), .second, .val (.int i3), .val (.int i4), o] [(.int i3)])) _
  refine XS.iload X0.here hx rfl (hb hby df_15) rfl ?_
  show Steps p.tables e below (T0.setTop (mkF m 17 #[.val (.ref a), .val (.double mv), .second, .val (.int i3), .val (.int i4), o] [(.int i4), (.int i3)])) _
  refine XS.iadd X0.here hx rfl (hb hby df_17) rfl ?_
  show Steps p.tables e below (T0.setTop (mkF m 18 #[.val (.ref a), .val (.double mv), .second, .val (.int i3), .val (.int i4), o] [(.int (i3 + i4))])) _
  refine XS.iconst X0.here hx rfl (hb hby df_18) ?_
  show Steps p.tables e below (T0.setTop (mkF m 19 #[.val (.ref a), .val (.double mv), .second, .val (.int i3), .val (.int i4), o] [(.int (1 : Int32)), (.int (i3 + i4))])) _
  refine XS.iushr X0.here hx rfl (hb hby df_19) rfl ?_
  show Steps p.tables e below (T0.setTop (mkF m 20 #[.val (.ref a), .val (.double mv), .second, .val (.int i3), .val (.int i4), o] [(.int (((i3 + i4).toUInt32 >>> ((1 : Int32) &&& 31).toUInt32).toInt32))])) _
  rw [hmid]
  show Steps p.tables e below (T0.setTop (mkF m 20 #[.val (.ref a), .val (.double mv), .second, .val (.int i3), .val (.int i4), o] [(.int im)])) _
  refine XS.istore X0.here hx rfl (hb hby df_20) rfl (l' := #[.val (.ref a), .val (.double mv), .second, .val (.int i3), .val (.int i4), .val (.int im)]) (os7 ho) ?_
  show Steps p.tables e below (T0.setTop (mkF m 22 #[.val (.ref a), .val (.double mv), .second, .val (.int i3), .val (.int i4), .val (.int im)] [])) _
  refine XS.aloadN X0.here hx rfl (hb hby df_22) rfl rfl ?_
  show Steps p.tables e below (T0.setTop (mkF m 23 #[.val (.ref a), .val (.double mv), .second, .val (.int i3), .val (.int i4), .val (.int im)] [(.ref a)])) _
  refine st1 _ ?_
  show Steps p.tables e below (T1.setTop (mkF m 26 #[.val (.ref a), .val (.double mv), .second, .val (.int i3), .val (.int i4), .val (.int im)] [(.ref ap)])) _
  refine XS.iload X1.here hx rfl (hb hby df_26) rfl ?_
  show Steps p.tables e below (T1.setTop (mkF m 28 #[.val (.ref a), .val (.double mv), .second, .val (.int i3), .val (.int i4), .val (.int im)] [(.int im), (.ref ap)])) _
  refine X1.daload hx (cell := c_ap) (j := im) (v := (.double x)) (by rw [e1]; exact A_ap.1) (State.isArrayOf_alike hZ.alike A_ap.2.1) A_ap.2.2 hin hat (g := (mkF m 28 #[.val (.ref a), .val (.double mv), .second, .val (.int i3), .val (.int i4), .val (.int im)] [(.int im), (.ref ap)])) rfl rfl (hb hby df_28) _ ?_
  show Steps p.tables e below (T1.setTop (mkF m 29 #[.val (.ref a), .val (.double mv), .second, .val (.int i3), .val (.int i4), .val (.int im)] [(.double x)])) _
  refine XS.dloadN X1.here hx rfl (hb hby df_29) rfl ?_
  show Steps p.tables e below (T1.setTop (mkF m 30 #[.val (.ref a), .val (.double mv), .second, .val (.int i3), .val (.int i4), .val (.int im)] [(.double mv), (.double x)])) _
  refine XS.daddS X1.here hx rfl (hb hby df_30) rfl hnan rfl ?_
  show Steps p.tables e below (T1.setTop (mkF m 31 #[.val (.ref a), .val (.double mv), .second, .val (.int i3), .val (.int i4), .val (.int im)] [(.double (FP.dadd x mv))])) _
  refine XS.dconst1 X1.here hx rfl (hb hby df_31) rfl ?_
  show Steps p.tables e below (T1.setTop (mkF m 32 #[.val (.ref a), .val (.double mv), .second, .val (.int i3), .val (.int i4), .val (.int im)] [(.double (4607182418800017408 : UInt64)), (.double (FP.dadd x mv))])) _
  refine XS.dcmpS X1.here hx rfl (hb hby df_32) rfl rfl ?_
  show Steps p.tables e below (T1.setTop (mkF m 33 #[.val (.ref a), .val (.double mv), .second, .val (.int i3), .val (.int i4), .val (.int im)] [(.int (cmpValue (FP.dcmp (FP.dadd x mv) (4607182418800017408 : UInt64)) .g))])) _
  refine XS.ifYes X1.here hx rfl (pc0 := 33) (pc' := 44) rfl (hb hby df_33) rfl ((if0 _ _).trans (flt (hc : ¬ ((cmpValue (FP.dcmp (FP.dadd x mv) (4607182418800017408 : UInt64)) .g) < (0 : Int32)))).2.1) (by decide) (by decide) ?_
  show Steps p.tables e below (T1.setTop (mkF m 44 #[.val (.ref a), .val (.double mv), .second, .val (.int i3), .val (.int i4), .val (.int im)] [])) _
  refine XS.iload X1.here hx rfl (hb hby df_44) rfl ?_
  show Steps p.tables e below (T1.setTop (mkF m 46 #[.val (.ref a), .val (.double mv), .second, .val (.int i3), .val (.int i4), .val (.int im)] [(.int im)])) _
  refine XS.istore X1.here hx rfl (hb hby df_46) rfl (l' := #[.val (.ref a), .val (.double mv), .second, .val (.int i3), .val (.int im), .val (.int im)]) rfl ?_
  show Steps p.tables e below (T1.setTop (mkF m 48 #[.val (.ref a), .val (.double mv), .second, .val (.int i3), .val (.int im), .val (.int im)] [])) _
  refine XS.goto X1.here hx rfl (pc0 := 48) (pc' := 8) rfl (hb hby df_48) (by decide) (by decide) ?_
  exact kt
set_option maxRecDepth 65536 in
set_option maxHeartbeats 40000000 in
theorem tn7_out {p : Program} {l : Launch} {e : Env} {R : Room} {s : State} {m : MethodId} {args : Array Value} {below : List Frame} {meth : Method} {c : Code} {T0 : State} {locs : List Loc} {cells slots : Nat} {Z : State} {a0 : Array Value} (a : Addr) (mv : UInt64) (i3 i4 : Int32) (o : Slot)
    (X0 : Stand p l e R s m args below meth c T0 locs cells slots) (hx : p.tables.exec = Jvm.exec) (hZ : Z.Warmed39 s.vm) (hw : ∀ d ∈ tables_1, d.before a0 Z = true) (hby : c.code = prog_237_method_7_code) (hml : c.maxLocals = 6) (hown : s.vm.findClass "com/example/tidewise/tidewise/plan/HeldPlans" = some m.cls) (hlt : ¬ (i3 < i4)) :
      ∀ target, Steps p.tables e below (T0.setTop (mkF m 51 #[.val (.ref a), .val (.double mv), .second, .val (.int i3), .val (.int i4), o] [])) target → Steps p.tables e below (T0.setTop (mkF m 8 #[.val (.ref a), .val (.double mv), .second, .val (.int i3), .val (.int i4), o] [])) target := by
  intro target kt
  show Steps p.tables e below (T0.setTop (mkF m 8 #[.val (.ref a), .val (.double mv), .second, .val (.int i3), .val (.int i4), o] [])) _
  refine XS.iloadN X0.here hx rfl (hb hby df_8) rfl ?_
  show Steps p.tables e below (T0.setTop (mkF m 9 #[.val (.ref a), .val (.double mv), .second, .val (.int i3), .val (.int i4), o] [(.int i3)])) _
  refine XS.iload X0.here hx rfl (hb hby df_9) rfl ?_
  show Steps p.tables e below (T0.setTop (mkF m 11 #[.val (.ref a), .val (.double mv), .second, .val (.int i3), .val (.int i4), o] [(.int i4), (.int i3)])) _
  refine XS.icmpYes X0.here hx rfl (pc0 := 11) (pc' := 51) rfl (hb hby df_11) rfl (flt (hlt : ¬ (i3 < i4))).2.1 (by decide) (by decide) ?_
  exact kt
def own_lt (xs : Nat → UInt64) (mv : UInt64) (i : Nat) : Prop := cmpValue (FP.dcmp (FP.dadd (xs i) mv) (4607182418800017408 : UInt64)) .g < (0 : Int32)
theorem own_mid : ∀ a b : Fin 5, ((((Int32.ofNat a.1 + Int32.ofNat b.1)).toUInt32 >>> ((1 : Int32) &&& 31).toUInt32).toInt32) = Int32.ofNat ((a.1 + b.1) / 2) := by decide +kernel
theorem own_ltI : ∀ a b : Fin 17, (Int32.ofNat a.1 < Int32.ofNat b.1 ↔ a.1 < b.1) := by decide +kernel
theorem own_eqI : ∀ a b : Fin 5, (Int32.ofNat a.1 = Int32.ofNat b.1 ↔ a.1 = b.1) := by decide +kernel
theorem own_succ : ∀ a : Fin 17, Int32.ofNat a.1 + (1 : Int32) = Int32.ofNat (a.1 + 1) := by decide +kernel
theorem own_nat : ∀ a : Fin 17, (Int32.ofNat a.1).toNatClampNeg = a.1 ∧ ¬ (Int32.ofNat a.1 < 0) := by decide +kernel
set_option maxRecDepth 65536 in
set_option maxHeartbeats 40000000 in
theorem loop7 {p : Program} {l : Launch} {e : Env} {R : Room} {s : State} {m : MethodId} {args : Array Value} {below : List Frame} {meth : Method} {c : Code} {locs : List Loc} {cells slots : Nat} {Z : State} {a0 : Array Value} {h0 : Heap} (a ap : Addr) (kp : ClassId) (vs : List Value) (N : Nat) (hN : N ≤ 4) (mv : UInt64) (xs : Nat → UInt64)
    (hx : p.tables.exec = Jvm.exec) (hZ : Z.Warmed39 s.vm) (hw : ∀ d ∈ tables_1, d.before a0 Z = true) (hby : c.code = prog_237_method_7_code) (hml : c.maxLocals = 6) (hown : s.vm.findClass "com/example/tidewise/tidewise/plan/HeldPlans" = some m.cls)
    (F_part : Fld Z h0 a "com/example/tidewise/tidewise/plan/HeldPlans" "part" "[D" (.ref ap)) (V_ap : Arv Z h0 ap kp .double (16 : Int32) vs (.double (0 : UInt64))) (hxs : ∀ i, i < N → vs.getD i (.double (0 : UInt64)) = .double (xs i)) (hnan : ∀ i, i < N → NoNaN64 (FP.dadd (xs i) mv))
    (mono : ∀ i j, i ≤ j → j < N → ¬ own_lt xs mv i → ¬ own_lt xs mv j) :
    ∀ (k lo hi : Nat) (T0 : State) (o : Slot), One o → Stand p l e R s m args below meth c T0 locs cells slots → T0.heap = h0 → lo ≤ hi → hi ≤ N → hi - lo ≤ k → (∀ i, i < lo → own_lt xs mv i) → (∀ i, hi ≤ i → i < N → ¬ own_lt xs mv i) →
      ∃ (T' : State) (r : Nat) (o' : Slot), Stand p l e R s m args below meth c T' locs cells slots ∧ T'.heap = h0 ∧ r ≤ N ∧ (∀ i, i < r → own_lt xs mv i) ∧ (∀ i, r ≤ i → i < N → ¬ own_lt xs mv i) ∧
        ∀ target, Steps p.tables e below (T'.setTop (mkF m 51 #[.val (.ref a), .val (.double mv), .second, .val (.int (Int32.ofNat r)), .val (.int (Int32.ofNat r)), o'] [])) target → Steps p.tables e below (T0.setTop (mkF m 8 #[.val (.ref a), .val (.double mv), .second, .val (.int (Int32.ofNat lo)), .val (.int (Int32.ofNat hi)), o] [])) target := by
  intro k
  induction k with
  | zero =>
    intro lo hi T0 o ho X0 e0 h1 h2 h3 h4 h5
    obtain rfl : lo = hi := by omega
    exact ⟨T0, lo, o, X0, e0, h2, h4, h5, tn7_out a mv _ _ o X0 hx hZ hw hby hml hown (by rw [own_ltI ⟨lo, by omega⟩ ⟨lo, by omega⟩]; exact Nat.lt_irrefl _)⟩
  | succ k ih =>
    intro lo hi T0 o ho X0 e0 h1 h2 h3 h4 h5
    by_cases hlt : lo < hi
    · obtain ⟨c_ap, A_ap, q_ap, S_ap, M_ap, H_ap, G_ap⟩ := V_ap
      obtain ⟨md, hmd⟩ : ∃ z, z = (lo + hi) / 2 := ⟨_, rfl⟩
      have b1 : lo ≤ md := by omega
      have b2 : md < hi := by omega
      have hI : Int32.ofNat lo < Int32.ofNat hi := (own_ltI ⟨lo, by omega⟩ ⟨hi, by omega⟩).mpr hlt
      have hmid : ((((Int32.ofNat lo + Int32.ofNat hi)).toUInt32 >>> ((1 : Int32) &&& 31).toUInt32).toInt32) = Int32.ofNat md := by rw [hmd]; exact own_mid ⟨lo, by omega⟩ ⟨hi, by omega⟩
      obtain ⟨n1, n2⟩ := own_nat ⟨md, by omega⟩
      have hin : ¬ (Int32.ofNat md < 0 ∨ c_ap.slots.size ≤ (Int32.ofNat md).toNatClampNeg) := inb_of S_ap ⟨n2, (own_ltI ⟨md, by omega⟩ ⟨16, by omega⟩).mpr (show md < 16 by omega)⟩
      have hat : c_ap.slots[(Int32.ofNat md).toNatClampNeg]? = some (.double (xs md)) := H_ap.at hin (by rw [n1]; exact hxs md (by omega))
      by_cases hc : own_lt xs mv md
      · obtain ⟨T1, X1, e1, st1⟩ := tn7_lt a ap kp mv (xs md) _ _ _ o c_ap X0 hx hZ hw hby hml hown e0 F_part A_ap ho hI hmid hin hat (hnan md (by omega)) hc _ (own_succ ⟨md, by omega⟩)
        obtain ⟨T2, r, o2, X2, e2, r1, r2, r3, st2⟩ := ih (md + 1) hi T1 (.val (.int (Int32.ofNat md))) (One.val rfl) X1 e1 (by omega) h2 (by omega) (fun i hi' => Classical.byContradiction fun q => mono i md (by omega) (by omega) q hc) h5
        exact ⟨T2, r, o2, X2, e2, r1, r2, r3, fun t kt => st1 _ (st2 _ kt)⟩
      · obtain ⟨T1, X1, e1, st1⟩ := tn7_ge a ap kp mv (xs md) _ _ _ o c_ap X0 hx hZ hw hby hml hown e0 F_part A_ap ho hI hmid hin hat (hnan md (by omega)) hc
        obtain ⟨T2, r, o2, X2, e2, r1, r2, r3, st2⟩ := ih lo md T1 (.val (.int (Int32.ofNat md))) (One.val rfl) X1 e1 b1 (by omega) (by omega) h4 (fun i hi' hiN => mono md i hi' hiN hc)
        exact ⟨T2, r, o2, X2, e2, r1, r2, r3, fun t kt => st1 _ (st2 _ kt)⟩
    · obtain rfl : lo = hi := by omega
      exact ⟨T0, lo, o, X0, e0, h2, h4, h5, tn7_out a mv _ _ o X0 hx hZ hw hby hml hown (by rw [own_ltI ⟨lo, by omega⟩ ⟨lo, by omega⟩]; exact Nat.lt_irrefl _)⟩
theorem ef_7 (m : MethodId) (a : Addr) (mv : UInt64) : entryFrame m #[(.ref a), (.double mv)] 6 = mkF m 0 #[.val (.ref a), .val (.double mv), .second, .unset, .unset, .unset] [] := by first | (simp [entryFrame, mkF, argsToLocals, Value.category]; done) | rfl
def Q7 (N : Nat) (xs : Nat → UInt64) (mv : UInt64) (h0 : Heap) (n0 : Nat) (v : Option Value) (h : Heap) (L : List Loc) : Prop := (∃ r : Nat, v = some (.int (Int32.ofNat r)) ∧ ((r < N ∧ ¬ own_lt xs mv r ∧ ∀ i, i < r → own_lt xs mv i) ∨ (r = 0 ∧ ∀ i, i < N → own_lt xs mv i))) ∧ Fr n0 L ∧ h = h0
set_option maxRecDepth 65536 in
set_option maxHeartbeats 40000000 in
theorem rm7 (l : Launch) (Z : State) (a0 : Array Value) (hw : ∀ d ∈ tables_1, d.before a0 Z = true) (ws : List Jvm.Cond) (a : Addr) (N : Nat) (hN : N ≤ 4) (vs : List Value) (xs : Nat → UInt64) (mv : UInt64) (h0 : Heap) (n0 : Nat) (I : Inv Z h0 n0 a (Int32.ofNat N) vs) (hxs : ∀ i, i < N → vs.getD i (.double (0 : UInt64)) = .double (xs i)) (hnan : ∀ i, i < N → NoNaN64 (FP.dadd (xs i) mv)) (mono : ∀ i j, i ≤ j → j < N → ¬ own_lt xs mv i → ¬ own_lt xs mv j) :
    MetFree l (⟨"com/example/tidewise/tidewise/plan/HeldPlans", "firstPassing", "(D)I"⟩ : MethodName) (head1 (Jvm.Cond.code (⟨"com/example/tidewise/tidewise/plan/HeldPlans", "firstPassing", "(D)I"⟩ : MethodName) prog_237_method_7_code 6 (some .int) :: ws) ({ frames := 0, cells := 0, slots := 0, locals := 0 } : Room)) (fun aU U => aU = #[(.ref a), (.double mv)] ∧ Z.Warmed39 U.vm ∧ U.heap = h0) (fun _ _ _ _ _ => True) (fun _ U o U' => ∃ v L, o = .returned v ∧ Q7 N xs mv h0 n0 v U'.heap L ∧ FrameEnd U o U' L ({ frames := 0, cells := 0, slots := 0, locals := 0 } : Room).cells ({ frames := 0, cells := 0, slots := 0, locals := 0 } : Room).slots) := by
  obtain ⟨aw, ap, av, al, am, ao, kaw, kap, kav, kal, kam, kao, x0, x1, x2, x3, x4, vaw, vav, val, vam, vao, ga, o1, o2, o3, o4, o5, o6, E_a, F_size, F_whole, F_part, F_value, F_lost, F_mask, F_origin, F_leastLost, F_leastValue, F_mostValue, F_fewestWhole, F_mostWhole, nx0, nx1, nx2, nx3, nx4, V_aw, V_ap, V_av, V_al, V_am, V_ao, l_aw, l_ap, l_av, l_al, l_am, l_ao⟩ := I
  refine MetFree.of_bodySF (plainFor_of_name pn_C) hisR ?_
  intro p e s m args below meth c s₁ Bd hml0 hP hK
  obtain ⟨rfl, hZ, hh⟩ := hP
  have hx := Bd.exec
  have hby := Bd.bytes
  have hml : c.maxLocals = 6 := hml0
  have hown : s.vm.findClass "com/example/tidewise/tidewise/plan/HeldPlans" = some m.cls := findClass_of_methodNamed Bd.named
  have hnm := (name_of_methodNamed Bd.named Bd.method).1
  have X0 : Stand p l e ({ frames := 0, cells := 0, slots := 0, locals := 0 } : Room) s m #[(.ref a), (.double mv)] below meth c s₁ [] 0 0 := Stand.of_body Bd
  have e0 : s₁.heap = h0 := by rw [← hh, Bd.state]; rfl
  have N0 := Fr.nil n0
  have pre0 : ∀ t, Steps p.tables e below (s₁.setTop (mkF m 0 #[.val (.ref a), .val (.double mv), .second, .unset, .unset, .unset] [])) t → Steps p.tables e below (s₁.setTop (entryFrame m #[(.ref a), (.double mv)] 6)) t := fun t k => castTop (ef_7 m a mv) k
  obtain ⟨T1, X1, e1, st1⟩ := getF X0 hx hZ hown (host := "") (Or.inl (hw _ (List.mem_of_getElem? (i := 47) rfl))) Via.refl e0 F_size (g := (mkF m 3 #[.val (.ref a), .val (.double mv), .second, .val (.int (0 : Int32)), .unset, .unset] [(.ref a)])) rfl rfl (hb hby df_3)
  obtain ⟨T2, r, o2, X2, e2, r1, r2, r3, st2⟩ := loop7 a ap kap vs N hN mv xs hx hZ hw hby hml hown F_part V_ap hxs hnan mono N 0 N T1 .unset One.u X1 e1 (Nat.zero_le _) (Nat.le_refl _) (Nat.le_of_eq (Nat.sub_zero N)) (fun i q => absurd q (Nat.not_lt_zero i)) (fun i q1 q2 => absurd q2 (Nat.not_lt.mpr q1))
  obtain ⟨T3, X3, e3, st3⟩ := getF X2 hx hZ hown (host := "") (Or.inl (hw _ (List.mem_of_getElem? (i := 47) rfl))) Via.refl e2 F_size (g := (mkF m 53 #[.val (.ref a), .val (.double mv), .second, .val (.int (Int32.ofNat r)), .val (.int (Int32.ofNat r)), o2] [(.ref a), (.int (Int32.ofNat r))])) rfl rfl (hb hby df_53)
  by_cases hrN : r = N
  · obtain ⟨fs, hr, hrun, hended, hW, hsame⟩ := X3.leave (v := some (.int (0 : Int32))) (fun h => by rw [Bd.returns] at h; cases h)
    refine ⟨_, _, pre0 _ ?_, hrun, hended, _, _, rfl, ?_, ⟨_, rfl⟩, hW, hsame.mono (by decide) (by decide)⟩
    · show Steps p.tables e below (s₁.setTop (mkF m 0 #[.val (.ref a), .val (.double mv), .second, .unset, .unset, .unset] [])) _
      refine XS.iconst X0.here hx rfl (hb hby df_0) ?_
      show Steps p.tables e below (s₁.setTop (mkF m 1 #[.val (.ref a), .val (.double mv), .second, .unset, .unset, .unset] [(.int (0 : Int32))])) _
      refine XS.istoreN X0.here hx rfl (hb hby df_1) rfl (l' := #[.val (.ref a), .val (.double mv), .second, .val (.int (0 : Int32)), .unset, .unset]) rfl ?_
      show Steps p.tables e below (s₁.setTop (mkF m 2 #[.val (.ref a), .val (.double mv), .second, .val (.int (0 : Int32)), .unset, .unset] [])) _
      refine XS.aloadN X0.here hx rfl (hb hby df_2) rfl rfl ?_
      show Steps p.tables e below (s₁.setTop (mkF m 3 #[.val (.ref a), .val (.double mv), .second, .val (.int (0 : Int32)), .unset, .unset] [(.ref a)])) _
      refine st1 _ ?_
      show Steps p.tables e below (T1.setTop (mkF m 6 #[.val (.ref a), .val (.double mv), .second, .val (.int (0 : Int32)), .unset, .unset] [(.int (Int32.ofNat N))])) _
      refine XS.istore X1.here hx rfl (hb hby df_6) rfl (l' := #[.val (.ref a), .val (.double mv), .second, .val (.int (0 : Int32)), .val (.int (Int32.ofNat N)), .unset]) rfl ?_
      show Steps p.tables e below (T1.setTop (mkF m 8 #[.val (.ref a), .val (.double mv), .second, .val (.int (Int32.ofNat 0)), .val (.int (Int32.ofNat N)), .unset] [])) _
      refine st2 _ ?_
      show Steps p.tables e below (T2.setTop (mkF m 51 #[.val (.ref a), .val (.double mv), .second, .val (.int (Int32.ofNat r)), .val (.int (Int32.ofNat r)), o2] [])) _
      refine XS.iloadN X2.here hx rfl (hb hby df_51) rfl ?_
      show Steps p.tables e below (T2.setTop (mkF m 52 #[.val (.ref a), .val (.double mv), .second, .val (.int (Int32.ofNat r)), .val (.int (Int32.ofNat r)), o2] [(.int (Int32.ofNat r))])) _
      refine XS.aloadN X2.here hx rfl (hb hby df_52) rfl rfl ?_
      show Steps p.tables e below (T2.setTop (mkF m 53 #[.val (.ref a), .val (.double mv), .second, .val (.int (Int32.ofNat r)), .val (.int (Int32.ofNat r)), o2] [(.ref a), (.int (Int32.ofNat r))])) _
      refine st3 _ ?_
      show Steps p.tables e below (T3.setTop (mkF m 56 #[.val (.ref a), .val (.double mv), .second, .val (.int (Int32.ofNat r)), .val (.int (Int32.ofNat r)), o2] [(.int (Int32.ofNat N)), (.int (Int32.ofNat r))])) _
      refine XS.icmpNo X3.here hx rfl (hb hby df_56) rfl (teq ((own_eqI ⟨r, by omega⟩ ⟨N, by omega⟩).mpr hrN : (Int32.ofNat r) = (Int32.ofNat N))).2 ?_
      show Steps p.tables e below (T3.setTop (mkF m 59 #[.val (.ref a), .val (.double mv), .second, .val (.int (Int32.ofNat r)), .val (.int (Int32.ofNat r)), o2] [])) _
      refine XS.iconst X3.here hx rfl (hb hby df_59) ?_
      show Steps p.tables e below (T3.setTop (mkF m 60 #[.val (.ref a), .val (.double mv), .second, .val (.int (Int32.ofNat r)), .val (.int (Int32.ofNat r)), o2] [(.int (0 : Int32))])) _
      refine XS.goto X3.here hx rfl (pc0 := 60) (pc' := 64) rfl (hb hby df_60) (by decide) (by decide) ?_
      show Steps p.tables e below (T3.setTop (mkF m 64 #[.val (.ref a), .val (.double mv), .second, .val (.int (Int32.ofNat r)), .val (.int (Int32.ofNat r)), o2] [(.int (0 : Int32))])) _
      exact retI X3 hx Bd.returns (hb hby df_64) hr
    · show Q7 N xs mv h0 n0 _ T3.heap _
      rw [e3]
      exact ⟨⟨0, rfl, Or.inr ⟨rfl, fun i q => r2 i (by omega)⟩⟩, N0, rfl⟩
  · obtain ⟨fs, hr, hrun, hended, hW, hsame⟩ := X3.leave (v := some (.int (Int32.ofNat r))) (fun h => by rw [Bd.returns] at h; cases h)
    refine ⟨_, _, pre0 _ ?_, hrun, hended, _, _, rfl, ?_, ⟨_, rfl⟩, hW, hsame.mono (by decide) (by decide)⟩
    · show Steps p.tables e below (s₁.setTop (mkF m 0 #[.val (.ref a), .val (.double mv), .second, .unset, .unset, .unset] [])) _
      refine XS.iconst X0.here hx rfl (hb hby df_0) ?_
      show Steps p.tables e below (s₁.setTop (mkF m 1 #[.val (.ref a), .val (.double mv), .second, .unset, .unset, .unset] [(.int (0 : Int32))])) _
      refine XS.istoreN X0.here hx rfl (hb hby df_1) rfl (l' := #[.val (.ref a), .val (.double mv), .second, .val (.int (0 : Int32)), .unset, .unset]) rfl ?_
      show Steps p.tables e below (s₁.setTop (mkF m 2 #[.val (.ref a), .val (.double mv), .second, .val (.int (0 : Int32)), .unset, .unset] [])) _
      refine XS.aloadN X0.here hx rfl (hb hby df_2) rfl rfl ?_
      show Steps p.tables e below (s₁.setTop (mkF m 3 #[.val (.ref a), .val (.double mv), .second, .val (.int (0 : Int32)), .unset, .unset] [(.ref a)])) _
      refine st1 _ ?_
      show Steps p.tables e below (T1.setTop (mkF m 6 #[.val (.ref a), .val (.double mv), .second, .val (.int (0 : Int32)), .unset, .unset] [(.int (Int32.ofNat N))])) _
      refine XS.istore X1.here hx rfl (hb hby df_6) rfl (l' := #[.val (.ref a), .val (.double mv), .second, .val (.int (0 : Int32)), .val (.int (Int32.ofNat N)), .unset]) rfl ?_
      show Steps p.tables e below (T1.setTop (mkF m 8 #[.val (.ref a), .val (.double mv), .second, .val (.int (Int32.ofNat 0)), .val (.int (Int32.ofNat N)), .unset] [])) _
      refine st2 _ ?_
      show Steps p.tables e below (T2.setTop (mkF m 51 #[.val (.ref a), .val (.double mv), .second, .val (.int (Int32.ofNat r)), .val (.int (Int32.ofNat r)), o2] [])) _
      refine XS.iloadN X2.here hx rfl (hb hby df_51) rfl ?_
      show Steps p.tables e below (T2.setTop (mkF m 52 #[.val (.ref a), .val (.double mv), .second, .val (.int (Int32.ofNat r)), .val (.int (Int32.ofNat r)), o2] [(.int (Int32.ofNat r))])) _
      refine XS.aloadN X2.here hx rfl (hb hby df_52) rfl rfl ?_
      show Steps p.tables e below (T2.setTop (mkF m 53 #[.val (.ref a), .val (.double mv), .second, .val (.int (Int32.ofNat r)), .val (.int (Int32.ofNat r)), o2] [(.ref a), (.int (Int32.ofNat r))])) _
      refine st3 _ ?_
      show Steps p.tables e below (T3.setTop (mkF m 56 #[.val (.ref a), .val (.double mv), .second, .val (.int (Int32.ofNat r)), .val (.int (Int32.ofNat r)), o2] [(.int (Int32.ofNat N)), (.int (Int32.ofNat r))])) _
      refine XS.icmpYes X3.here hx rfl (pc0 := 56) (pc' := 63) rfl (hb hby df_56) rfl (feq (fun q => hrN ((own_eqI ⟨r, by omega⟩ ⟨N, by omega⟩).mp q) : ¬ ((Int32.ofNat r) = (Int32.ofNat N)))).2 (by decide) (by decide) ?_
      show Steps p.tables e below (T3.setTop (mkF m 63 #[.val (.ref a), .val (.double mv), .second, .val (.int (Int32.ofNat r)), .val (.int (Int32.ofNat r)), o2] [])) _
      refine XS.iloadN X3.here hx rfl (hb hby df_63) rfl ?_
      show Steps p.tables e below (T3.setTop (mkF m 64 #[.val (.ref a), .val (.double mv), .second, .val (.int (Int32.ofNat r)), .val (.int (Int32.ofNat r)), o2] [(.int (Int32.ofNat r))])) _
      exact retI X3 hx Bd.returns (hb hby df_64) hr
    · show Q7 N xs mv h0 n0 _ T3.heap _
      rw [e3]
      exact ⟨⟨r, rfl, Or.inl ⟨by omega, r3 r (Nat.le_refl _) (by omega), r2⟩⟩, N0, rfl⟩
def own_d8 (x : Int32) : UInt64 := FP.ddiv (FP.i2d x) (4620693217682128896 : UInt64)
theorem own_d8_nn (x : Int32) : NoNaN64 (FP.ddiv (FP.i2d x) (4620693217682128896 : UInt64)) := ddiv_out (i2d_fin x).noNaN (by unfold Fin64; decide) (by unfold Nz64; decide)
def own_q (q0 q1 q2 q3 : Int32) : Nat → Int32
  | 0 => q0
  | 1 => q1
  | 2 => q2
  | _ => q3
def own_xs (q0 q1 q2 q3 : Int32) (i : Nat) : UInt64 := own_d8 (own_q q0 q1 q2 q3 i)
def own_pl (xs : Nat → UInt64) (k : Nat) : List Value := (List.range 16).map fun i => .double (if i < k then xs i else 0)
theorem own_pl_zero (xs : Nat → UInt64) : own_pl xs 0 = List.replicate 16 (.double (0 : UInt64)) := by
  simp [own_pl, List.range, List.range.loop, List.replicate]
theorem own_pl_get (xs : Nat → UInt64) (N : Nat) (hN : N ≤ 4) : ∀ i, i < N → (own_pl xs N).getD i (.double (0 : UInt64)) = .double (xs i) := by
  intro i hi
  have h16 : i < 16 := by omega
  simp [own_pl, List.getD, hi, h16]
theorem own_xs0 (q0 q1 q2 q3 : Int32) : own_xs q0 q1 q2 q3 0 = own_d8 q0 := congrArg own_d8 rfl
theorem own_xs1 (q0 q1 q2 q3 : Int32) : own_xs q0 q1 q2 q3 1 = own_d8 q1 := congrArg own_d8 rfl
theorem own_xs2 (q0 q1 q2 q3 : Int32) : own_xs q0 q1 q2 q3 2 = own_d8 q2 := congrArg own_d8 rfl
theorem own_xs3 (q0 q1 q2 q3 : Int32) : own_xs q0 q1 q2 q3 3 = own_d8 q3 := congrArg own_d8 rfl
theorem own_pl_set (xs : Nat → UInt64) (k : Nat) (hk : k < 4) (v : UInt64) (hv : xs k = v) : (own_pl xs k).set (Int32.ofNat k).toNatClampNeg (.double v) = own_pl xs (k + 1) := by
  subst hv
  rw [(own_nat ⟨k, by omega⟩).1]
  apply List.ext_getElem
  · simp [own_pl]
  · intro i h1 h2
    simp only [own_pl, List.getElem_set, List.getElem_map, List.getElem_range]
    by_cases hi : k = i
    · subst hi; simp
    · have : (i < k + 1) ↔ (i < k) := by omega
      simp [hi, this]
theorem own_inv_exa {Z : State} {h : Heap} {n0 : Nat} {a : Addr} {n : Int32} {vs : List Value} (I : Inv Z h n0 a n vs) : Exa Z h a "com/example/tidewise/tidewise/plan/HeldPlans" := by
  obtain ⟨aw, ap, av, al, am, ao, kaw, kap, kav, kal, kam, kao, x0, x1, x2, x3, x4, vaw, vav, val, vam, vao, ga, o1, o2, o3, o4, o5, o6, E_a, F_size, F_whole, F_part, F_value, F_lost, F_mask, F_origin, F_leastLost, F_leastValue, F_mostValue, F_fewestWhole, F_mostWhole, nx0, nx1, nx2, nx3, nx4, V_aw, V_ap, V_av, V_al, V_am, V_ao, l_aw, l_ap, l_av, l_al, l_am, l_ao⟩ := I
  exact E_a
set_option maxRecDepth 65536 in
set_option maxHeartbeats 40000000 in
theorem seg_0 {p : Program} {l : Launch} {e : Env} {s : State} {m : MethodId} {args : Array Value} {below : List Frame} {meth : Method} {c : Code} {T0 : State} {locs : List Loc} {Z : State} {a0 : Array Value} (i0 i1 i2 i3 i4 i5 nn q0 q1 q2 q3 mm : Int32) (a : Addr) (n0 N : Nat)
    (X0 : Stand p l e room_1 s m args below meth c T0 locs 7 110) (hx : p.tables.exec = Jvm.exec) (hZ : Z.Warmed39 s.vm) (hw : ∀ d ∈ tables_1, d.before a0 Z = true) (hby : c.code = code) (hml : c.maxLocals = 15) (hown : s.vm.findClass "com/example/tidewise/tidewise/plan/HeldPlansFirstPassingPinLaw" = some m.cls) (hN : nn.toInt = (N : Int)) (hN4 : N ≤ 4) (I : Inv Z T0.heap n0 a (Int32.ofNat (min N 0)) (own_pl (own_xs q0 q1 q2 q3) (min N 0))) (Nf : Fr n0 locs) :
    ∃ (T' : State) (locs' : List Loc), Stand p l e room_1 s m args below meth c T' locs' 7 110 ∧ Inv Z T'.heap n0 a (Int32.ofNat (min N 1)) (own_pl (own_xs q0 q1 q2 q3) (min N 1)) ∧ Fr n0 locs' ∧
      ∀ target, Steps p.tables e below (T'.setTop (mkF m 100 #[.val (.int i0), .val (.int i1), .val (.int i2), .val (.int i3), .val (.int i4), .val (.int i5), .val (.int nn), .val (.int q0), .val (.int q1), .val (.int q2), .val (.int q3), .val (.int mm), .val (.ref a), .unset, .unset] [])) target → Steps p.tables e below (T0.setTop (mkF m 78 #[.val (.int i0), .val (.int i1), .val (.int i2), .val (.int i3), .val (.int i4), .val (.int i5), .val (.int nn), .val (.int q0), .val (.int q1), .val (.int q2), .val (.int q3), .val (.int mm), .val (.ref a), .unset, .unset] [])) target := by
  by_cases hk : 0 < N
  · have hk' : (0 : Int32) < nn := by rw [Int32.lt_iff_toInt_lt, hN]; show (0 : Int) < (N : Int); omega
    have I1 : Inv Z T0.heap n0 a (Int32.ofNat 0) (own_pl (own_xs q0 q1 q2 q3) 0) := by rw [Nat.min_eq_right (Nat.le_of_lt hk)] at I; exact I
    rw [Nat.min_eq_right (show 1 ≤ N from hk)]
    obtain ⟨cq, kq, qa, qb, qc⟩ := isOf hZ rfl (own_inv_exa I1)
    obtain ⟨_, _, ⟨T1, L1, k1, n1⟩, -, X1, ⟨Lc1, hQ1, l1, y1, z1⟩, st1⟩ := X0.virtualBack hx (y := (⟨"com/example/tidewise/tidewise/plan/HeldPlans", "add", "(DDDDJI)V"⟩ : MethodName)) (z := (⟨"com/example/tidewise/tidewise/plan/HeldPlans", "add", "(DDDDJI)V"⟩ : MethodName)) hown (mvT hZ (hw _ (List.mem_of_getElem? (i := 49) rfl))) (mvT hZ (hw _ (List.mem_of_getElem? (i := 50) rfl))) (notFace_of_selects (args := #[]) (mvT hZ (hw _ (List.mem_of_getElem? (i := 52) rfl)))) (mvT hZ (hw _ (List.mem_of_getElem? (i := 52) rfl))) (mvT hZ (hw _ (List.mem_of_getElem? (i := 51) rfl))) (by decide) (backOf (W := 0) (rm4 l Z a0 hw [] a (Int32.ofNat 0) (own_pl (own_xs q0 q1 q2 q3) 0) (0 : UInt64) (own_d8 q0) (0 : UInt64) (0 : UInt64) (0 : Int64) (0 : Int32) T0.heap n0 I1 (by decide) (by decide) (by decide) (by decide) (by unfold NoNaN64; decide) (by unfold NoNaN64; decide) (by unfold NoNaN64; decide)) hZ (hw _ (List.mem_of_getElem? (i := 53) rfl)) (hw _ (List.mem_of_getElem? (i := 3) rfl)) (by decide) (by decide)) qa qc (g := (mkF m 97 #[.val (.int i0), .val (.int i1), .val (.int i2), .val (.int i3), .val (.int i4), .val (.int i5), .val (.int nn), .val (.int q0), .val (.int q1), .val (.int q2), .val (.int q3), .val (.int mm), .val (.ref a), .unset, .unset] [(.int (0 : Int32)), (.long (0 : Int64)), (.double (0 : UInt64)), (.double (0 : UInt64)), (.double (own_d8 q0)), (.double (0 : UInt64)), (.ref a)])) rfl (by rw [hml]; rfl) (Steps.refl _) (argsL := [(.double (0 : UInt64)), (.double (own_d8 q0)), (.double (0 : UInt64)), (.double (0 : UInt64)), (.long (0 : Int64)), (.int (0 : Int32))]) (rest := []) (lenOf pd_add rfl) rfl (by show 2 * 0 + _ ≤ _; exact Nat.le_of_eq rfl) (hb hby at_97) (fun _ _ => ⟨rfl, rfl, (by decide : 7 + 0 ≤ _), (by decide : 110 + 0 ≤ _)⟩)
    dsimp only [Pt.U, Pt.locs, Pt.cells, Pt.slots] at X1 l1 y1 z1 st1 hQ1
    subst l1 y1 z1
    obtain ⟨rfl, N1, I2⟩ := hQ1
    rw [show (Int32.ofNat 0 : Int32) + (1 : Int32) = Int32.ofNat 1 from by decide, own_pl_set (own_xs q0 q1 q2 q3) 0 (by decide) (own_d8 q0) (own_xs0 q0 q1 q2 q3)] at I2
    refine ⟨T1, _, X1, I2, Fr.app Nf N1, fun target kt => ?_⟩
    show Steps p.tables e below (T0.setTop (mkF m 78 #[.val (.int i0), .val (.int i1), .val (.int i2), .val (.int i3), .val (.int i4), .val (.int i5), .val (.int nn), .val (.int q0), .val (.int q1), .val (.int q2), .val (.int q3), .val (.int mm), .val (.ref a), .unset, .unset] [])) _
    refine XS.iload X0.here hx rfl (hb hby at_78) rfl ?_
    show Steps p.tables e below (T0.setTop (mkF m 80 #[.val (.int i0), .val (.int i1), .val (.int i2), .val (.int i3), .val (.int i4), .val (.int i5), .val (.int nn), .val (.int q0), .val (.int q1), .val (.int q2), .val (.int q3), .val (.int mm), .val (.ref a), .unset, .unset] [(.int nn)])) _
    refine XS.ifNo X0.here hx rfl (hb hby at_80) rfl ((if0 _ _).trans (tlt (hk' : (0 : Int32) < nn)).2.2.2) ?_
    show Steps p.tables e below (T0.setTop (mkF m 83 #[.val (.int i0), .val (.int i1), .val (.int i2), .val (.int i3), .val (.int i4), .val (.int i5), .val (.int nn), .val (.int q0), .val (.int q1), .val (.int q2), .val (.int q3), .val (.int mm), .val (.ref a), .unset, .unset] [])) _
    refine XS.aload X0.here hx rfl (hb hby at_83) rfl rfl ?_
    show Steps p.tables e below (T0.setTop (mkF m 85 #[.val (.int i0), .val (.int i1), .val (.int i2), .val (.int i3), .val (.int i4), .val (.int i5), .val (.int nn), .val (.int q0), .val (.int q1), .val (.int q2), .val (.int q3), .val (.int mm), .val (.ref a), .unset, .unset] [(.ref a)])) _
    refine XS.dconst0 X0.here hx rfl (hb hby at_85) rfl ?_
    show Steps p.tables e below (T0.setTop (mkF m 86 #[.val (.int i0), .val (.int i1), .val (.int i2), .val (.int i3), .val (.int i4), .val (.int i5), .val (.int nn), .val (.int q0), .val (.int q1), .val (.int q2), .val (.int q3), .val (.int mm), .val (.ref a), .unset, .unset] [(.double (0 : UInt64)), (.ref a)])) _
    refine XS.iload X0.here hx rfl (hb hby at_86) rfl ?_
    show Steps p.tables e below (T0.setTop (mkF m 88 #[.val (.int i0), .val (.int i1), .val (.int i2), .val (.int i3), .val (.int i4), .val (.int i5), .val (.int nn), .val (.int q0), .val (.int q1), .val (.int q2), .val (.int q3), .val (.int mm), .val (.ref a), .unset, .unset] [(.int q0), (.double (0 : UInt64)), (.ref a)])) _
    refine XS.i2dS X0.here hx rfl (hb hby at_88) rfl rfl ?_
    show Steps p.tables e below (T0.setTop (mkF m 89 #[.val (.int i0), .val (.int i1), .val (.int i2), .val (.int i3), .val (.int i4), .val (.int i5), .val (.int nn), .val (.int q0), .val (.int q1), .val (.int q2), .val (.int q3), .val (.int mm), .val (.ref a), .unset, .unset] [(.double (FP.i2d q0)), (.double (0 : UInt64)), (.ref a)])) _
    refine X0.ldc2DoubleC hx hown (mvT hZ (hw _ (List.mem_of_getElem? (i := 41) rfl))) (g := (mkF m 89 #[.val (.int i0), .val (.int i1), .val (.int i2), .val (.int i3), .val (.int i4), .val (.int i5), .val (.int nn), .val (.int q0), .val (.int q1), .val (.int q2), .val (.int q3), .val (.int mm), .val (.ref a), .unset, .unset] [(.double (FP.i2d q0)), (.double (0 : UInt64)), (.ref a)])) rfl (hb hby at_89) _ ?_
    show Steps p.tables e below (T0.setTop (mkF m 92 #[.val (.int i0), .val (.int i1), .val (.int i2), .val (.int i3), .val (.int i4), .val (.int i5), .val (.int nn), .val (.int q0), .val (.int q1), .val (.int q2), .val (.int q3), .val (.int mm), .val (.ref a), .unset, .unset] [(.double (4620693217682128896 : UInt64)), (.double (FP.i2d q0)), (.double (0 : UInt64)), (.ref a)])) _
    refine XS.ddivS X0.here hx rfl (hb hby at_92) rfl (own_d8_nn q0) rfl ?_
    show Steps p.tables e below (T0.setTop (mkF m 93 #[.val (.int i0), .val (.int i1), .val (.int i2), .val (.int i3), .val (.int i4), .val (.int i5), .val (.int nn), .val (.int q0), .val (.int q1), .val (.int q2), .val (.int q3), .val (.int mm), .val (.ref a), .unset, .unset] [(.double (own_d8 q0)), (.double (0 : UInt64)), (.ref a)])) _
    refine XS.dconst0 X0.here hx rfl (hb hby at_93) rfl ?_
    show Steps p.tables e below (T0.setTop (mkF m 94 #[.val (.int i0), .val (.int i1), .val (.int i2), .val (.int i3), .val (.int i4), .val (.int i5), .val (.int nn), .val (.int q0), .val (.int q1), .val (.int q2), .val (.int q3), .val (.int mm), .val (.ref a), .unset, .unset] [(.double (0 : UInt64)), (.double (own_d8 q0)), (.double (0 : UInt64)), (.ref a)])) _
    refine XS.dconst0 X0.here hx rfl (hb hby at_94) rfl ?_
    show Steps p.tables e below (T0.setTop (mkF m 95 #[.val (.int i0), .val (.int i1), .val (.int i2), .val (.int i3), .val (.int i4), .val (.int i5), .val (.int nn), .val (.int q0), .val (.int q1), .val (.int q2), .val (.int q3), .val (.int mm), .val (.ref a), .unset, .unset] [(.double (0 : UInt64)), (.double (0 : UInt64)), (.double (own_d8 q0)), (.double (0 : UInt64)), (.ref a)])) _
    refine XS.lconst X0.here hx rfl (hb hby at_95) ?_
    show Steps p.tables e below (T0.setTop (mkF m 96 #[.val (.int i0), .val (.int i1), .val (.int i2), .val (.int i3), .val (.int i4), .val (.int i5), .val (.int nn), .val (.int q0), .val (.int q1), .val (.int q2), .val (.int q3), .val (.int mm), .val (.ref a), .unset, .unset] [(.long (0 : Int64)), (.double (0 : UInt64)), (.double (0 : UInt64)), (.double (own_d8 q0)), (.double (0 : UInt64)), (.ref a)])) _
    refine XS.iconst X0.here hx rfl (hb hby at_96) ?_
    show Steps p.tables e below (T0.setTop (mkF m 97 #[.val (.int i0), .val (.int i1), .val (.int i2), .val (.int i3), .val (.int i4), .val (.int i5), .val (.int nn), .val (.int q0), .val (.int q1), .val (.int q2), .val (.int q3), .val (.int mm), .val (.ref a), .unset, .unset] [(.int (0 : Int32)), (.long (0 : Int64)), (.double (0 : UInt64)), (.double (0 : UInt64)), (.double (own_d8 q0)), (.double (0 : UInt64)), (.ref a)])) _
    refine st1.trans ?_
    exact kt
  · have hk' : ¬ ((0 : Int32) < nn) := by rw [Int32.lt_iff_toInt_lt, hN]; show ¬ ((0 : Int) < (N : Int)); omega
    rw [Nat.min_eq_left (show N ≤ 0 by omega)] at I
    rw [Nat.min_eq_left (show N ≤ 1 by omega)]
    refine ⟨T0, locs, X0, I, Nf, fun target kt => ?_⟩
    show Steps p.tables e below (T0.setTop (mkF m 78 #[.val (.int i0), .val (.int i1), .val (.int i2), .val (.int i3), .val (.int i4), .val (.int i5), .val (.int nn), .val (.int q0), .val (.int q1), .val (.int q2), .val (.int q3), .val (.int mm), .val (.ref a), .unset, .unset] [])) _
    refine XS.iload X0.here hx rfl (hb hby at_78) rfl ?_
    show Steps p.tables e below (T0.setTop (mkF m 80 #[.val (.int i0), .val (.int i1), .val (.int i2), .val (.int i3), .val (.int i4), .val (.int i5), .val (.int nn), .val (.int q0), .val (.int q1), .val (.int q2), .val (.int q3), .val (.int mm), .val (.ref a), .unset, .unset] [(.int nn)])) _
    refine XS.ifYes X0.here hx rfl (pc0 := 80) (pc' := 100) rfl (hb hby at_80) rfl ((if0 _ _).trans (flt (hk' : ¬ ((0 : Int32) < nn))).2.2.2) (by decide) (by decide) ?_
    exact kt
set_option maxRecDepth 65536 in
set_option maxHeartbeats 40000000 in
theorem seg_1 {p : Program} {l : Launch} {e : Env} {s : State} {m : MethodId} {args : Array Value} {below : List Frame} {meth : Method} {c : Code} {T0 : State} {locs : List Loc} {Z : State} {a0 : Array Value} (i0 i1 i2 i3 i4 i5 nn q0 q1 q2 q3 mm : Int32) (a : Addr) (n0 N : Nat)
    (X0 : Stand p l e room_1 s m args below meth c T0 locs 7 110) (hx : p.tables.exec = Jvm.exec) (hZ : Z.Warmed39 s.vm) (hw : ∀ d ∈ tables_1, d.before a0 Z = true) (hby : c.code = code) (hml : c.maxLocals = 15) (hown : s.vm.findClass "com/example/tidewise/tidewise/plan/HeldPlansFirstPassingPinLaw" = some m.cls) (hN : nn.toInt = (N : Int)) (hN4 : N ≤ 4) (I : Inv Z T0.heap n0 a (Int32.ofNat (min N 1)) (own_pl (own_xs q0 q1 q2 q3) (min N 1))) (Nf : Fr n0 locs) :
    ∃ (T' : State) (locs' : List Loc), Stand p l e room_1 s m args below meth c T' locs' 7 110 ∧ Inv Z T'.heap n0 a (Int32.ofNat (min N 2)) (own_pl (own_xs q0 q1 q2 q3) (min N 2)) ∧ Fr n0 locs' ∧
      ∀ target, Steps p.tables e below (T'.setTop (mkF m 123 #[.val (.int i0), .val (.int i1), .val (.int i2), .val (.int i3), .val (.int i4), .val (.int i5), .val (.int nn), .val (.int q0), .val (.int q1), .val (.int q2), .val (.int q3), .val (.int mm), .val (.ref a), .unset, .unset] [])) target → Steps p.tables e below (T0.setTop (mkF m 100 #[.val (.int i0), .val (.int i1), .val (.int i2), .val (.int i3), .val (.int i4), .val (.int i5), .val (.int nn), .val (.int q0), .val (.int q1), .val (.int q2), .val (.int q3), .val (.int mm), .val (.ref a), .unset, .unset] [])) target := by
  by_cases hk : 1 < N
  · have hk' : (1 : Int32) < nn := by rw [Int32.lt_iff_toInt_lt, hN]; show (1 : Int) < (N : Int); omega
    have I1 : Inv Z T0.heap n0 a (Int32.ofNat 1) (own_pl (own_xs q0 q1 q2 q3) 1) := by rw [Nat.min_eq_right (Nat.le_of_lt hk)] at I; exact I
    rw [Nat.min_eq_right (show 2 ≤ N from hk)]
    obtain ⟨cq, kq, qa, qb, qc⟩ := isOf hZ rfl (own_inv_exa I1)
    obtain ⟨_, _, ⟨T1, L1, k1, n1⟩, -, X1, ⟨Lc1, hQ1, l1, y1, z1⟩, st1⟩ := X0.virtualBack hx (y := (⟨"com/example/tidewise/tidewise/plan/HeldPlans", "add", "(DDDDJI)V"⟩ : MethodName)) (z := (⟨"com/example/tidewise/tidewise/plan/HeldPlans", "add", "(DDDDJI)V"⟩ : MethodName)) hown (mvT hZ (hw _ (List.mem_of_getElem? (i := 49) rfl))) (mvT hZ (hw _ (List.mem_of_getElem? (i := 50) rfl))) (notFace_of_selects (args := #[]) (mvT hZ (hw _ (List.mem_of_getElem? (i := 52) rfl)))) (mvT hZ (hw _ (List.mem_of_getElem? (i := 52) rfl))) (mvT hZ (hw _ (List.mem_of_getElem? (i := 51) rfl))) (by decide) (backOf (W := 0) (rm4 l Z a0 hw [] a (Int32.ofNat 1) (own_pl (own_xs q0 q1 q2 q3) 1) (0 : UInt64) (own_d8 q1) (0 : UInt64) (0 : UInt64) (0 : Int64) (0 : Int32) T0.heap n0 I1 (by decide) (by decide) (by decide) (by decide) (by unfold NoNaN64; decide) (by unfold NoNaN64; decide) (by unfold NoNaN64; decide)) hZ (hw _ (List.mem_of_getElem? (i := 53) rfl)) (hw _ (List.mem_of_getElem? (i := 3) rfl)) (by decide) (by decide)) qa qc (g := (mkF m 120 #[.val (.int i0), .val (.int i1), .val (.int i2), .val (.int i3), .val (.int i4), .val (.int i5), .val (.int nn), .val (.int q0), .val (.int q1), .val (.int q2), .val (.int q3), .val (.int mm), .val (.ref a), .unset, .unset] [(.int (0 : Int32)), (.long (0 : Int64)), (.double (0 : UInt64)), (.double (0 : UInt64)), (.double (own_d8 q1)), (.double (0 : UInt64)), (.ref a)])) rfl (by rw [hml]; rfl) (Steps.refl _) (argsL := [(.double (0 : UInt64)), (.double (own_d8 q1)), (.double (0 : UInt64)), (.double (0 : UInt64)), (.long (0 : Int64)), (.int (0 : Int32))]) (rest := []) (lenOf pd_add rfl) rfl (by show 2 * 0 + _ ≤ _; exact Nat.le_of_eq rfl) (hb hby at_120) (fun _ _ => ⟨rfl, rfl, (by decide : 7 + 0 ≤ _), (by decide : 110 + 0 ≤ _)⟩)
    dsimp only [Pt.U, Pt.locs, Pt.cells, Pt.slots] at X1 l1 y1 z1 st1 hQ1
    subst l1 y1 z1
    obtain ⟨rfl, N1, I2⟩ := hQ1
    rw [show (Int32.ofNat 1 : Int32) + (1 : Int32) = Int32.ofNat 2 from by decide, own_pl_set (own_xs q0 q1 q2 q3) 1 (by decide) (own_d8 q1) (own_xs1 q0 q1 q2 q3)] at I2
    refine ⟨T1, _, X1, I2, Fr.app Nf N1, fun target kt => ?_⟩
    show Steps p.tables e below (T0.setTop (mkF m 100 #[.val (.int i0), .val (.int i1), .val (.int i2), .val (.int i3), .val (.int i4), .val (.int i5), .val (.int nn), .val (.int q0), .val (.int q1), .val (.int q2), .val (.int q3), .val (.int mm), .val (.ref a), .unset, .unset] [])) _
    refine XS.iload X0.here hx rfl (hb hby at_100) rfl ?_
    show Steps p.tables e below (T0.setTop (mkF m 102 #[.val (.int i0), .val (.int i1), .val (.int i2), .val (.int i3), .val (.int i4), .val (.int i5), .val (.int nn), .val (.int q0), .val (.int q1), .val (.int q2), .val (.int q3), .val (.int mm), .val (.ref a), .unset, .unset] [(.int nn)])) _
    refine XS.iconst X0.here hx rfl (hb hby at_102) ?_
    show Steps p.tables e below (T0.setTop (mkF m 103 #[.val (.int i0), .val (.int i1), .val (.int i2), .val (.int i3), .val (.int i4), .val (.int i5), .val (.int nn), .val (.int q0), .val (.int q1), .val (.int q2), .val (.int q3), .val (.int mm), .val (.ref a), .unset, .unset] [(.int (1 : Int32)), (.int nn)])) _
    refine XS.icmpNo X0.here hx rfl (hb hby at_103) rfl (tlt (hk' : (1 : Int32) < nn)).2.2.2 ?_
    show Steps p.tables e below (T0.setTop (mkF m 106 #[.val (.int i0), .val (.int i1), .val (.int i2), .val (.int i3), .val (.int i4), .val (.int i5), .val (.int nn), .val (.int q0), .val (.int q1), .val (.int q2), .val (.int q3), .val (.int mm), .val (.ref a), .unset, .unset] [])) _
    refine XS.aload X0.here hx rfl (hb hby at_106) rfl rfl ?_
    show Steps p.tables e below (T0.setTop (mkF m 108 #[.val (.int i0), .val (.int i1), .val (.int i2), .val (.int i3), .val (.int i4), .val (.int i5), .val (.int nn), .val (.int q0), .val (.int q1), .val (.int q2), .val (.int q3), .val (.int mm), .val (.ref a), .unset, .unset] [(.ref a)])) _
    refine XS.dconst0 X0.here hx rfl (hb hby at_108) rfl ?_
    show Steps p.tables e below (T0.setTop (mkF m 109 #[.val (.int i0), .val (.int i1), .val (.int i2), .val (.int i3), .val (.int i4), .val (.int i5), .val (.int nn), .val (.int q0), .val (.int q1), .val (.int q2), .val (.int q3), .val (.int mm), .val (.ref a), .unset, .unset] [(.double (0 : UInt64)), (.ref a)])) _
    refine XS.iload X0.here hx rfl (hb hby at_109) rfl ?_
    show Steps p.tables e below (T0.setTop (mkF m 111 #[.val (.int i0), .val (.int i1), .val (.int i2), .val (.int i3), .val (.int i4), .val (.int i5), .val (.int nn), .val (.int q0), .val (.int q1), .val (.int q2), .val (.int q3), .val (.int mm), .val (.ref a), .unset, .unset] [(.int q1), (.double (0 : UInt64)), (.ref a)])) _
    refine XS.i2dS X0.here hx rfl (hb hby at_111) rfl rfl ?_
    show Steps p.tables e below (T0.setTop (mkF m 112 #[.val (.int i0), .val (.int i1), .val (.int i2), .val (.int i3), .val (.int i4), .val (.int i5), .val (.int nn), .val (.int q0), .val (.int q1), .val (.int q2), .val (.int q3), .val (.int mm), .val (.ref a), .unset, .unset] [(.double (FP.i2d q1)), (.double (0 : UInt64)), (.ref a)])) _
    refine X0.ldc2DoubleC hx hown (mvT hZ (hw _ (List.mem_of_getElem? (i := 41) rfl))) (g := (mkF m 112 #[.val (.int i0), .val (.int i1), .val (.int i2), .val (.int i3), .val (.int i4), .val (.int i5), .val (.int nn), .val (.int q0), .val (.int q1), .val (.int q2), .val (.int q3), .val (.int mm), .val (.ref a), .unset, .unset] [(.double (FP.i2d q1)), (.double (0 : UInt64)), (.ref a)])) rfl (hb hby at_112) _ ?_
    show Steps p.tables e below (T0.setTop (mkF m 115 #[.val (.int i0), .val (.int i1), .val (.int i2), .val (.int i3), .val (.int i4), .val (.int i5), .val (.int nn), .val (.int q0), .val (.int q1), .val (.int q2), .val (.int q3), .val (.int mm), .val (.ref a), .unset, .unset] [(.double (4620693217682128896 : UInt64)), (.double (FP.i2d q1)), (.double (0 : UInt64)), (.ref a)])) _
    refine XS.ddivS X0.here hx rfl (hb hby at_115) rfl (own_d8_nn q1) rfl ?_
    show Steps p.tables e below (T0.setTop (mkF m 116 #[.val (.int i0), .val (.int i1), .val (.int i2), .val (.int i3), .val (.int i4), .val (.int i5), .val (.int nn), .val (.int q0), .val (.int q1), .val (.int q2), .val (.int q3), .val (.int mm), .val (.ref a), .unset, .unset] [(.double (own_d8 q1)), (.double (0 : UInt64)), (.ref a)])) _
    refine XS.dconst0 X0.here hx rfl (hb hby at_116) rfl ?_
    show Steps p.tables e below (T0.setTop (mkF m 117 #[.val (.int i0), .val (.int i1), .val (.int i2), .val (.int i3), .val (.int i4), .val (.int i5), .val (.int nn), .val (.int q0), .val (.int q1), .val (.int q2), .val (.int q3), .val (.int mm), .val (.ref a), .unset, .unset] [(.double (0 : UInt64)), (.double (own_d8 q1)), (.double (0 : UInt64)), (.ref a)])) _
    refine XS.dconst0 X0.here hx rfl (hb hby at_117) rfl ?_
    show Steps p.tables e below (T0.setTop (mkF m 118 #[.val (.int i0), .val (.int i1), .val (.int i2), .val (.int i3), .val (.int i4), .val (.int i5), .val (.int nn), .val (.int q0), .val (.int q1), .val (.int q2), .val (.int q3), .val (.int mm), .val (.ref a), .unset, .unset] [(.double (0 : UInt64)), (.double (0 : UInt64)), (.double (own_d8 q1)), (.double (0 : UInt64)), (.ref a)])) _
    refine XS.lconst X0.here hx rfl (hb hby at_118) ?_
    show Steps p.tables e below (T0.setTop (mkF m 119 #[.val (.int i0), .val (.int i1), .val (.int i2), .val (.int i3), .val (.int i4), .val (.int i5), .val (.int nn), .val (.int q0), .val (.int q1), .val (.int q2), .val (.int q3), .val (.int mm), .val (.ref a), .unset, .unset] [(.long (0 : Int64)), (.double (0 : UInt64)), (.double (0 : UInt64)), (.double (own_d8 q1)), (.double (0 : UInt64)), (.ref a)])) _
    refine XS.iconst X0.here hx rfl (hb hby at_119) ?_
    show Steps p.tables e below (T0.setTop (mkF m 120 #[.val (.int i0), .val (.int i1), .val (.int i2), .val (.int i3), .val (.int i4), .val (.int i5), .val (.int nn), .val (.int q0), .val (.int q1), .val (.int q2), .val (.int q3), .val (.int mm), .val (.ref a), .unset, .unset] [(.int (0 : Int32)), (.long (0 : Int64)), (.double (0 : UInt64)), (.double (0 : UInt64)), (.double (own_d8 q1)), (.double (0 : UInt64)), (.ref a)])) _
    refine st1.trans ?_
    exact kt
  · have hk' : ¬ ((1 : Int32) < nn) := by rw [Int32.lt_iff_toInt_lt, hN]; show ¬ ((1 : Int) < (N : Int)); omega
    rw [Nat.min_eq_left (show N ≤ 1 by omega)] at I
    rw [Nat.min_eq_left (show N ≤ 2 by omega)]
    refine ⟨T0, locs, X0, I, Nf, fun target kt => ?_⟩
    show Steps p.tables e below (T0.setTop (mkF m 100 #[.val (.int i0), .val (.int i1), .val (.int i2), .val (.int i3), .val (.int i4), .val (.int i5), .val (.int nn), .val (.int q0), .val (.int q1), .val (.int q2), .val (.int q3), .val (.int mm), .val (.ref a), .unset, .unset] [])) _
    refine XS.iload X0.here hx rfl (hb hby at_100) rfl ?_
    show Steps p.tables e below (T0.setTop (mkF m 102 #[.val (.int i0), .val (.int i1), .val (.int i2), .val (.int i3), .val (.int i4), .val (.int i5), .val (.int nn), .val (.int q0), .val (.int q1), .val (.int q2), .val (.int q3), .val (.int mm), .val (.ref a), .unset, .unset] [(.int nn)])) _
    refine XS.iconst X0.here hx rfl (hb hby at_102) ?_
    show Steps p.tables e below (T0.setTop (mkF m 103 #[.val (.int i0), .val (.int i1), .val (.int i2), .val (.int i3), .val (.int i4), .val (.int i5), .val (.int nn), .val (.int q0), .val (.int q1), .val (.int q2), .val (.int q3), .val (.int mm), .val (.ref a), .unset, .unset] [(.int (1 : Int32)), (.int nn)])) _
    refine XS.icmpYes X0.here hx rfl (pc0 := 103) (pc' := 123) rfl (hb hby at_103) rfl (flt (hk' : ¬ ((1 : Int32) < nn))).2.2.2 (by decide) (by decide) ?_
    exact kt
set_option maxRecDepth 65536 in
set_option maxHeartbeats 40000000 in
theorem seg_2 {p : Program} {l : Launch} {e : Env} {s : State} {m : MethodId} {args : Array Value} {below : List Frame} {meth : Method} {c : Code} {T0 : State} {locs : List Loc} {Z : State} {a0 : Array Value} (i0 i1 i2 i3 i4 i5 nn q0 q1 q2 q3 mm : Int32) (a : Addr) (n0 N : Nat)
    (X0 : Stand p l e room_1 s m args below meth c T0 locs 7 110) (hx : p.tables.exec = Jvm.exec) (hZ : Z.Warmed39 s.vm) (hw : ∀ d ∈ tables_1, d.before a0 Z = true) (hby : c.code = code) (hml : c.maxLocals = 15) (hown : s.vm.findClass "com/example/tidewise/tidewise/plan/HeldPlansFirstPassingPinLaw" = some m.cls) (hN : nn.toInt = (N : Int)) (hN4 : N ≤ 4) (I : Inv Z T0.heap n0 a (Int32.ofNat (min N 2)) (own_pl (own_xs q0 q1 q2 q3) (min N 2))) (Nf : Fr n0 locs) :
    ∃ (T' : State) (locs' : List Loc), Stand p l e room_1 s m args below meth c T' locs' 7 110 ∧ Inv Z T'.heap n0 a (Int32.ofNat (min N 3)) (own_pl (own_xs q0 q1 q2 q3) (min N 3)) ∧ Fr n0 locs' ∧
      ∀ target, Steps p.tables e below (T'.setTop (mkF m 146 #[.val (.int i0), .val (.int i1), .val (.int i2), .val (.int i3), .val (.int i4), .val (.int i5), .val (.int nn), .val (.int q0), .val (.int q1), .val (.int q2), .val (.int q3), .val (.int mm), .val (.ref a), .unset, .unset] [])) target → Steps p.tables e below (T0.setTop (mkF m 123 #[.val (.int i0), .val (.int i1), .val (.int i2), .val (.int i3), .val (.int i4), .val (.int i5), .val (.int nn), .val (.int q0), .val (.int q1), .val (.int q2), .val (.int q3), .val (.int mm), .val (.ref a), .unset, .unset] [])) target := by
  by_cases hk : 2 < N
  · have hk' : (2 : Int32) < nn := by rw [Int32.lt_iff_toInt_lt, hN]; show (2 : Int) < (N : Int); omega
    have I1 : Inv Z T0.heap n0 a (Int32.ofNat 2) (own_pl (own_xs q0 q1 q2 q3) 2) := by rw [Nat.min_eq_right (Nat.le_of_lt hk)] at I; exact I
    rw [Nat.min_eq_right (show 3 ≤ N from hk)]
    obtain ⟨cq, kq, qa, qb, qc⟩ := isOf hZ rfl (own_inv_exa I1)
    obtain ⟨_, _, ⟨T1, L1, k1, n1⟩, -, X1, ⟨Lc1, hQ1, l1, y1, z1⟩, st1⟩ := X0.virtualBack hx (y := (⟨"com/example/tidewise/tidewise/plan/HeldPlans", "add", "(DDDDJI)V"⟩ : MethodName)) (z := (⟨"com/example/tidewise/tidewise/plan/HeldPlans", "add", "(DDDDJI)V"⟩ : MethodName)) hown (mvT hZ (hw _ (List.mem_of_getElem? (i := 49) rfl))) (mvT hZ (hw _ (List.mem_of_getElem? (i := 50) rfl))) (notFace_of_selects (args := #[]) (mvT hZ (hw _ (List.mem_of_getElem? (i := 52) rfl)))) (mvT hZ (hw _ (List.mem_of_getElem? (i := 52) rfl))) (mvT hZ (hw _ (List.mem_of_getElem? (i := 51) rfl))) (by decide) (backOf (W := 0) (rm4 l Z a0 hw [] a (Int32.ofNat 2) (own_pl (own_xs q0 q1 q2 q3) 2) (0 : UInt64) (own_d8 q2) (0 : UInt64) (0 : UInt64) (0 : Int64) (0 : Int32) T0.heap n0 I1 (by decide) (by decide) (by decide) (by decide) (by unfold NoNaN64; decide) (by unfold NoNaN64; decide) (by unfold NoNaN64; decide)) hZ (hw _ (List.mem_of_getElem? (i := 53) rfl)) (hw _ (List.mem_of_getElem? (i := 3) rfl)) (by decide) (by decide)) qa qc (g := (mkF m 143 #[.val (.int i0), .val (.int i1), .val (.int i2), .val (.int i3), .val (.int i4), .val (.int i5), .val (.int nn), .val (.int q0), .val (.int q1), .val (.int q2), .val (.int q3), .val (.int mm), .val (.ref a), .unset, .unset] [(.int (0 : Int32)), (.long (0 : Int64)), (.double (0 : UInt64)), (.double (0 : UInt64)), (.double (own_d8 q2)), (.double (0 : UInt64)), (.ref a)])) rfl (by rw [hml]; rfl) (Steps.refl _) (argsL := [(.double (0 : UInt64)), (.double (own_d8 q2)), (.double (0 : UInt64)), (.double (0 : UInt64)), (.long (0 : Int64)), (.int (0 : Int32))]) (rest := []) (lenOf pd_add rfl) rfl (by show 2 * 0 + _ ≤ _; exact Nat.le_of_eq rfl) (hb hby at_143) (fun _ _ => ⟨rfl, rfl, (by decide : 7 + 0 ≤ _), (by decide : 110 + 0 ≤ _)⟩)
    dsimp only [Pt.U, Pt.locs, Pt.cells, Pt.slots] at X1 l1 y1 z1 st1 hQ1
    subst l1 y1 z1
    obtain ⟨rfl, N1, I2⟩ := hQ1
    rw [show (Int32.ofNat 2 : Int32) + (1 : Int32) = Int32.ofNat 3 from by decide, own_pl_set (own_xs q0 q1 q2 q3) 2 (by decide) (own_d8 q2) (own_xs2 q0 q1 q2 q3)] at I2
    refine ⟨T1, _, X1, I2, Fr.app Nf N1, fun target kt => ?_⟩
    show Steps p.tables e below (T0.setTop (mkF m 123 #[.val (.int i0), .val (.int i1), .val (.int i2), .val (.int i3), .val (.int i4), .val (.int i5), .val (.int nn), .val (.int q0), .val (.int q1), .val (.int q2), .val (.int q3), .val (.int mm), .val (.ref a), .unset, .unset] [])) _
    refine XS.iload X0.here hx rfl (hb hby at_123) rfl ?_
    show Steps p.tables e below (T0.setTop (mkF m 125 #[.val (.int i0), .val (.int i1), .val (.int i2), .val (.int i3), .val (.int i4), .val (.int i5), .val (.int nn), .val (.int q0), .val (.int q1), .val (.int q2), .val (.int q3), .val (.int mm), .val (.ref a), .unset, .unset] [(.int nn)])) _
    refine XS.iconst X0.here hx rfl (hb hby at_125) ?_
    show Steps p.tables e below (T0.setTop (mkF m 126 #[.val (.int i0), .val (.int i1), .val (.int i2), .val (.int i3), .val (.int i4), .val (.int i5), .val (.int nn), .val (.int q0), .val (.int q1), .val (.int q2), .val (.int q3), .val (.int mm), .val (.ref a), .unset, .unset] [(.int (2 : Int32)), (.int nn)])) _
    refine XS.icmpNo X0.here hx rfl (hb hby at_126) rfl (tlt (hk' : (2 : Int32) < nn)).2.2.2 ?_
    show Steps p.tables e below (T0.setTop (mkF m 129 #[.val (.int i0), .val (.int i1), .val (.int i2), .val (.int i3), .val (.int i4), .val (.int i5), .val (.int nn), .val (.int q0), .val (.int q1), .val (.int q2), .val (.int q3), .val (.int mm), .val (.ref a), .unset, .unset] [])) _
    refine XS.aload X0.here hx rfl (hb hby at_129) rfl rfl ?_
    show Steps p.tables e below (T0.setTop (mkF m 131 #[.val (.int i0), .val (.int i1), .val (.int i2), .val (.int i3), .val (.int i4), .val (.int i5), .val (.int nn), .val (.int q0), .val (.int q1), .val (.int q2), .val (.int q3), .val (.int mm), .val (.ref a), .unset, .unset] [(.ref a)])) _
    refine XS.dconst0 X0.here hx rfl (hb hby at_131) rfl ?_
    show Steps p.tables e below (T0.setTop (mkF m 132 #[.val (.int i0), .val (.int i1), .val (.int i2), .val (.int i3), .val (.int i4), .val (.int i5), .val (.int nn), .val (.int q0), .val (.int q1), .val (.int q2), .val (.int q3), .val (.int mm), .val (.ref a), .unset, .unset] [(.double (0 : UInt64)), (.ref a)])) _
    refine XS.iload X0.here hx rfl (hb hby at_132) rfl ?_
    show Steps p.tables e below (T0.setTop (mkF m 134 #[.val (.int i0), .val (.int i1), .val (.int i2), .val (.int i3), .val (.int i4), .val (.int i5), .val (.int nn), .val (.int q0), .val (.int q1), .val (.int q2), .val (.int q3), .val (.int mm), .val (.ref a), .unset, .unset] [(.int q2), (.double (0 : UInt64)), (.ref a)])) _
    refine XS.i2dS X0.here hx rfl (hb hby at_134) rfl rfl ?_
    show Steps p.tables e below (T0.setTop (mkF m 135 #[.val (.int i0), .val (.int i1), .val (.int i2), .val (.int i3), .val (.int i4), .val (.int i5), .val (.int nn), .val (.int q0), .val (.int q1), .val (.int q2), .val (.int q3), .val (.int mm), .val (.ref a), .unset, .unset] [(.double (FP.i2d q2)), (.double (0 : UInt64)), (.ref a)])) _
    refine X0.ldc2DoubleC hx hown (mvT hZ (hw _ (List.mem_of_getElem? (i := 41) rfl))) (g := (mkF m 135 #[.val (.int i0), .val (.int i1), .val (.int i2), .val (.int i3), .val (.int i4), .val (.int i5), .val (.int nn), .val (.int q0), .val (.int q1), .val (.int q2), .val (.int q3), .val (.int mm), .val (.ref a), .unset, .unset] [(.double (FP.i2d q2)), (.double (0 : UInt64)), (.ref a)])) rfl (hb hby at_135) _ ?_
    show Steps p.tables e below (T0.setTop (mkF m 138 #[.val (.int i0), .val (.int i1), .val (.int i2), .val (.int i3), .val (.int i4), .val (.int i5), .val (.int nn), .val (.int q0), .val (.int q1), .val (.int q2), .val (.int q3), .val (.int mm), .val (.ref a), .unset, .unset] [(.double (4620693217682128896 : UInt64)), (.double (FP.i2d q2)), (.double (0 : UInt64)), (.ref a)])) _
    refine XS.ddivS X0.here hx rfl (hb hby at_138) rfl (own_d8_nn q2) rfl ?_
    show Steps p.tables e below (T0.setTop (mkF m 139 #[.val (.int i0), .val (.int i1), .val (.int i2), .val (.int i3), .val (.int i4), .val (.int i5), .val (.int nn), .val (.int q0), .val (.int q1), .val (.int q2), .val (.int q3), .val (.int mm), .val (.ref a), .unset, .unset] [(.double (own_d8 q2)), (.double (0 : UInt64)), (.ref a)])) _
    refine XS.dconst0 X0.here hx rfl (hb hby at_139) rfl ?_
    show Steps p.tables e below (T0.setTop (mkF m 140 #[.val (.int i0), .val (.int i1), .val (.int i2), .val (.int i3), .val (.int i4), .val (.int i5), .val (.int nn), .val (.int q0), .val (.int q1), .val (.int q2), .val (.int q3), .val (.int mm), .val (.ref a), .unset, .unset] [(.double (0 : UInt64)), (.double (own_d8 q2)), (.double (0 : UInt64)), (.ref a)])) _
    refine XS.dconst0 X0.here hx rfl (hb hby at_140) rfl ?_
    show Steps p.tables e below (T0.setTop (mkF m 141 #[.val (.int i0), .val (.int i1), .val (.int i2), .val (.int i3), .val (.int i4), .val (.int i5), .val (.int nn), .val (.int q0), .val (.int q1), .val (.int q2), .val (.int q3), .val (.int mm), .val (.ref a), .unset, .unset] [(.double (0 : UInt64)), (.double (0 : UInt64)), (.double (own_d8 q2)), (.double (0 : UInt64)), (.ref a)])) _
    refine XS.lconst X0.here hx rfl (hb hby at_141) ?_
    show Steps p.tables e below (T0.setTop (mkF m 142 #[.val (.int i0), .val (.int i1), .val (.int i2), .val (.int i3), .val (.int i4), .val (.int i5), .val (.int nn), .val (.int q0), .val (.int q1), .val (.int q2), .val (.int q3), .val (.int mm), .val (.ref a), .unset, .unset] [(.long (0 : Int64)), (.double (0 : UInt64)), (.double (0 : UInt64)), (.double (own_d8 q2)), (.double (0 : UInt64)), (.ref a)])) _
    refine XS.iconst X0.here hx rfl (hb hby at_142) ?_
    show Steps p.tables e below (T0.setTop (mkF m 143 #[.val (.int i0), .val (.int i1), .val (.int i2), .val (.int i3), .val (.int i4), .val (.int i5), .val (.int nn), .val (.int q0), .val (.int q1), .val (.int q2), .val (.int q3), .val (.int mm), .val (.ref a), .unset, .unset] [(.int (0 : Int32)), (.long (0 : Int64)), (.double (0 : UInt64)), (.double (0 : UInt64)), (.double (own_d8 q2)), (.double (0 : UInt64)), (.ref a)])) _
    refine st1.trans ?_
    exact kt
  · have hk' : ¬ ((2 : Int32) < nn) := by rw [Int32.lt_iff_toInt_lt, hN]; show ¬ ((2 : Int) < (N : Int)); omega
    rw [Nat.min_eq_left (show N ≤ 2 by omega)] at I
    rw [Nat.min_eq_left (show N ≤ 3 by omega)]
    refine ⟨T0, locs, X0, I, Nf, fun target kt => ?_⟩
    show Steps p.tables e below (T0.setTop (mkF m 123 #[.val (.int i0), .val (.int i1), .val (.int i2), .val (.int i3), .val (.int i4), .val (.int i5), .val (.int nn), .val (.int q0), .val (.int q1), .val (.int q2), .val (.int q3), .val (.int mm), .val (.ref a), .unset, .unset] [])) _
    refine XS.iload X0.here hx rfl (hb hby at_123) rfl ?_
    show Steps p.tables e below (T0.setTop (mkF m 125 #[.val (.int i0), .val (.int i1), .val (.int i2), .val (.int i3), .val (.int i4), .val (.int i5), .val (.int nn), .val (.int q0), .val (.int q1), .val (.int q2), .val (.int q3), .val (.int mm), .val (.ref a), .unset, .unset] [(.int nn)])) _
    refine XS.iconst X0.here hx rfl (hb hby at_125) ?_
    show Steps p.tables e below (T0.setTop (mkF m 126 #[.val (.int i0), .val (.int i1), .val (.int i2), .val (.int i3), .val (.int i4), .val (.int i5), .val (.int nn), .val (.int q0), .val (.int q1), .val (.int q2), .val (.int q3), .val (.int mm), .val (.ref a), .unset, .unset] [(.int (2 : Int32)), (.int nn)])) _
    refine XS.icmpYes X0.here hx rfl (pc0 := 126) (pc' := 146) rfl (hb hby at_126) rfl (flt (hk' : ¬ ((2 : Int32) < nn))).2.2.2 (by decide) (by decide) ?_
    exact kt
set_option maxRecDepth 65536 in
set_option maxHeartbeats 40000000 in
theorem seg_3 {p : Program} {l : Launch} {e : Env} {s : State} {m : MethodId} {args : Array Value} {below : List Frame} {meth : Method} {c : Code} {T0 : State} {locs : List Loc} {Z : State} {a0 : Array Value} (i0 i1 i2 i3 i4 i5 nn q0 q1 q2 q3 mm : Int32) (a : Addr) (n0 N : Nat)
    (X0 : Stand p l e room_1 s m args below meth c T0 locs 7 110) (hx : p.tables.exec = Jvm.exec) (hZ : Z.Warmed39 s.vm) (hw : ∀ d ∈ tables_1, d.before a0 Z = true) (hby : c.code = code) (hml : c.maxLocals = 15) (hown : s.vm.findClass "com/example/tidewise/tidewise/plan/HeldPlansFirstPassingPinLaw" = some m.cls) (hN : nn.toInt = (N : Int)) (hN4 : N ≤ 4) (I : Inv Z T0.heap n0 a (Int32.ofNat (min N 3)) (own_pl (own_xs q0 q1 q2 q3) (min N 3))) (Nf : Fr n0 locs) :
    ∃ (T' : State) (locs' : List Loc), Stand p l e room_1 s m args below meth c T' locs' 7 110 ∧ Inv Z T'.heap n0 a (Int32.ofNat (min N 4)) (own_pl (own_xs q0 q1 q2 q3) (min N 4)) ∧ Fr n0 locs' ∧
      ∀ target, Steps p.tables e below (T'.setTop (mkF m 169 #[.val (.int i0), .val (.int i1), .val (.int i2), .val (.int i3), .val (.int i4), .val (.int i5), .val (.int nn), .val (.int q0), .val (.int q1), .val (.int q2), .val (.int q3), .val (.int mm), .val (.ref a), .unset, .unset] [])) target → Steps p.tables e below (T0.setTop (mkF m 146 #[.val (.int i0), .val (.int i1), .val (.int i2), .val (.int i3), .val (.int i4), .val (.int i5), .val (.int nn), .val (.int q0), .val (.int q1), .val (.int q2), .val (.int q3), .val (.int mm), .val (.ref a), .unset, .unset] [])) target := by
  by_cases hk : 3 < N
  · have hk' : (3 : Int32) < nn := by rw [Int32.lt_iff_toInt_lt, hN]; show (3 : Int) < (N : Int); omega
    have I1 : Inv Z T0.heap n0 a (Int32.ofNat 3) (own_pl (own_xs q0 q1 q2 q3) 3) := by rw [Nat.min_eq_right (Nat.le_of_lt hk)] at I; exact I
    rw [Nat.min_eq_right (show 4 ≤ N from hk)]
    obtain ⟨cq, kq, qa, qb, qc⟩ := isOf hZ rfl (own_inv_exa I1)
    obtain ⟨_, _, ⟨T1, L1, k1, n1⟩, -, X1, ⟨Lc1, hQ1, l1, y1, z1⟩, st1⟩ := X0.virtualBack hx (y := (⟨"com/example/tidewise/tidewise/plan/HeldPlans", "add", "(DDDDJI)V"⟩ : MethodName)) (z := (⟨"com/example/tidewise/tidewise/plan/HeldPlans", "add", "(DDDDJI)V"⟩ : MethodName)) hown (mvT hZ (hw _ (List.mem_of_getElem? (i := 49) rfl))) (mvT hZ (hw _ (List.mem_of_getElem? (i := 50) rfl))) (notFace_of_selects (args := #[]) (mvT hZ (hw _ (List.mem_of_getElem? (i := 52) rfl)))) (mvT hZ (hw _ (List.mem_of_getElem? (i := 52) rfl))) (mvT hZ (hw _ (List.mem_of_getElem? (i := 51) rfl))) (by decide) (backOf (W := 0) (rm4 l Z a0 hw [] a (Int32.ofNat 3) (own_pl (own_xs q0 q1 q2 q3) 3) (0 : UInt64) (own_d8 q3) (0 : UInt64) (0 : UInt64) (0 : Int64) (0 : Int32) T0.heap n0 I1 (by decide) (by decide) (by decide) (by decide) (by unfold NoNaN64; decide) (by unfold NoNaN64; decide) (by unfold NoNaN64; decide)) hZ (hw _ (List.mem_of_getElem? (i := 53) rfl)) (hw _ (List.mem_of_getElem? (i := 3) rfl)) (by decide) (by decide)) qa qc (g := (mkF m 166 #[.val (.int i0), .val (.int i1), .val (.int i2), .val (.int i3), .val (.int i4), .val (.int i5), .val (.int nn), .val (.int q0), .val (.int q1), .val (.int q2), .val (.int q3), .val (.int mm), .val (.ref a), .unset, .unset] [(.int (0 : Int32)), (.long (0 : Int64)), (.double (0 : UInt64)), (.double (0 : UInt64)), (.double (own_d8 q3)), (.double (0 : UInt64)), (.ref a)])) rfl (by rw [hml]; rfl) (Steps.refl _) (argsL := [(.double (0 : UInt64)), (.double (own_d8 q3)), (.double (0 : UInt64)), (.double (0 : UInt64)), (.long (0 : Int64)), (.int (0 : Int32))]) (rest := []) (lenOf pd_add rfl) rfl (by show 2 * 0 + _ ≤ _; exact Nat.le_of_eq rfl) (hb hby at_166) (fun _ _ => ⟨rfl, rfl, (by decide : 7 + 0 ≤ _), (by decide : 110 + 0 ≤ _)⟩)
    dsimp only [Pt.U, Pt.locs, Pt.cells, Pt.slots] at X1 l1 y1 z1 st1 hQ1
    subst l1 y1 z1
    obtain ⟨rfl, N1, I2⟩ := hQ1
    rw [show (Int32.ofNat 3 : Int32) + (1 : Int32) = Int32.ofNat 4 from by decide, own_pl_set (own_xs q0 q1 q2 q3) 3 (by decide) (own_d8 q3) (own_xs3 q0 q1 q2 q3)] at I2
    refine ⟨T1, _, X1, I2, Fr.app Nf N1, fun target kt => ?_⟩
    show Steps p.tables e below (T0.setTop (mkF m 146 #[.val (.int i0), .val (.int i1), .val (.int i2), .val (.int i3), .val (.int i4), .val (.int i5), .val (.int nn), .val (.int q0), .val (.int q1), .val (.int q2), .val (.int q3), .val (.int mm), .val (.ref a), .unset, .unset] [])) _
    refine XS.iload X0.here hx rfl (hb hby at_146) rfl ?_
    show Steps p.tables e below (T0.setTop (mkF m 148 #[.val (.int i0), .val (.int i1), .val (.int i2), .val (.int i3), .val (.int i4), .val (.int i5), .val (.int nn), .val (.int q0), .val (.int q1), .val (.int q2), .val (.int q3), .val (.int mm), .val (.ref a), .unset, .unset] [(.int nn)])) _
    refine XS.iconst X0.here hx rfl (hb hby at_148) ?_
    show Steps p.tables e below (T0.setTop (mkF m 149 #[.val (.int i0), .val (.int i1), .val (.int i2), .val (.int i3), .val (.int i4), .val (.int i5), .val (.int nn), .val (.int q0), .val (.int q1), .val (.int q2), .val (.int q3), .val (.int mm), .val (.ref a), .unset, .unset] [(.int (3 : Int32)), (.int nn)])) _
    refine XS.icmpNo X0.here hx rfl (hb hby at_149) rfl (tlt (hk' : (3 : Int32) < nn)).2.2.2 ?_
    show Steps p.tables e below (T0.setTop (mkF m 152 #[.val (.int i0), .val (.int i1), .val (.int i2), .val (.int i3), .val (.int i4), .val (.int i5), .val (.int nn), .val (.int q0), .val (.int q1), .val (.int q2), .val (.int q3), .val (.int mm), .val (.ref a), .unset, .unset] [])) _
    refine XS.aload X0.here hx rfl (hb hby at_152) rfl rfl ?_
    show Steps p.tables e below (T0.setTop (mkF m 154 #[.val (.int i0), .val (.int i1), .val (.int i2), .val (.int i3), .val (.int i4), .val (.int i5), .val (.int nn), .val (.int q0), .val (.int q1), .val (.int q2), .val (.int q3), .val (.int mm), .val (.ref a), .unset, .unset] [(.ref a)])) _
    refine XS.dconst0 X0.here hx rfl (hb hby at_154) rfl ?_
    show Steps p.tables e below (T0.setTop (mkF m 155 #[.val (.int i0), .val (.int i1), .val (.int i2), .val (.int i3), .val (.int i4), .val (.int i5), .val (.int nn), .val (.int q0), .val (.int q1), .val (.int q2), .val (.int q3), .val (.int mm), .val (.ref a), .unset, .unset] [(.double (0 : UInt64)), (.ref a)])) _
    refine XS.iload X0.here hx rfl (hb hby at_155) rfl ?_
    show Steps p.tables e below (T0.setTop (mkF m 157 #[.val (.int i0), .val (.int i1), .val (.int i2), .val (.int i3), .val (.int i4), .val (.int i5), .val (.int nn), .val (.int q0), .val (.int q1), .val (.int q2), .val (.int q3), .val (.int mm), .val (.ref a), .unset, .unset] [(.int q3), (.double (0 : UInt64)), (.ref a)])) _
    refine XS.i2dS X0.here hx rfl (hb hby at_157) rfl rfl ?_
    show Steps p.tables e below (T0.setTop (mkF m 158 #[.val (.int i0), .val (.int i1), .val (.int i2), .val (.int i3), .val (.int i4), .val (.int i5), .val (.int nn), .val (.int q0), .val (.int q1), .val (.int q2), .val (.int q3), .val (.int mm), .val (.ref a), .unset, .unset] [(.double (FP.i2d q3)), (.double (0 : UInt64)), (.ref a)])) _
    refine X0.ldc2DoubleC hx hown (mvT hZ (hw _ (List.mem_of_getElem? (i := 41) rfl))) (g := (mkF m 158 #[.val (.int i0), .val (.int i1), .val (.int i2), .val (.int i3), .val (.int i4), .val (.int i5), .val (.int nn), .val (.int q0), .val (.int q1), .val (.int q2), .val (.int q3), .val (.int mm), .val (.ref a), .unset, .unset] [(.double (FP.i2d q3)), (.double (0 : UInt64)), (.ref a)])) rfl (hb hby at_158) _ ?_
    show Steps p.tables e below (T0.setTop (mkF m 161 #[.val (.int i0), .val (.int i1), .val (.int i2), .val (.int i3), .val (.int i4), .val (.int i5), .val (.int nn), .val (.int q0), .val (.int q1), .val (.int q2), .val (.int q3), .val (.int mm), .val (.ref a), .unset, .unset] [(.double (4620693217682128896 : UInt64)), (.double (FP.i2d q3)), (.double (0 : UInt64)), (.ref a)])) _
    refine XS.ddivS X0.here hx rfl (hb hby at_161) rfl (own_d8_nn q3) rfl ?_
    show Steps p.tables e below (T0.setTop (mkF m 162 #[.val (.int i0), .val (.int i1), .val (.int i2), .val (.int i3), .val (.int i4), .val (.int i5), .val (.int nn), .val (.int q0), .val (.int q1), .val (.int q2), .val (.int q3), .val (.int mm), .val (.ref a), .unset, .unset] [(.double (own_d8 q3)), (.double (0 : UInt64)), (.ref a)])) _
    refine XS.dconst0 X0.here hx rfl (hb hby at_162) rfl ?_
    show Steps p.tables e below (T0.setTop (mkF m 163 #[.val (.int i0), .val (.int i1), .val (.int i2), .val (.int i3), .val (.int i4), .val (.int i5), .val (.int nn), .val (.int q0), .val (.int q1), .val (.int q2), .val (.int q3), .val (.int mm), .val (.ref a), .unset, .unset] [(.double (0 : UInt64)), (.double (own_d8 q3)), (.double (0 : UInt64)), (.ref a)])) _
    refine XS.dconst0 X0.here hx rfl (hb hby at_163) rfl ?_
    show Steps p.tables e below (T0.setTop (mkF m 164 #[.val (.int i0), .val (.int i1), .val (.int i2), .val (.int i3), .val (.int i4), .val (.int i5), .val (.int nn), .val (.int q0), .val (.int q1), .val (.int q2), .val (.int q3), .val (.int mm), .val (.ref a), .unset, .unset] [(.double (0 : UInt64)), (.double (0 : UInt64)), (.double (own_d8 q3)), (.double (0 : UInt64)), (.ref a)])) _
    refine XS.lconst X0.here hx rfl (hb hby at_164) ?_
    show Steps p.tables e below (T0.setTop (mkF m 165 #[.val (.int i0), .val (.int i1), .val (.int i2), .val (.int i3), .val (.int i4), .val (.int i5), .val (.int nn), .val (.int q0), .val (.int q1), .val (.int q2), .val (.int q3), .val (.int mm), .val (.ref a), .unset, .unset] [(.long (0 : Int64)), (.double (0 : UInt64)), (.double (0 : UInt64)), (.double (own_d8 q3)), (.double (0 : UInt64)), (.ref a)])) _
    refine XS.iconst X0.here hx rfl (hb hby at_165) ?_
    show Steps p.tables e below (T0.setTop (mkF m 166 #[.val (.int i0), .val (.int i1), .val (.int i2), .val (.int i3), .val (.int i4), .val (.int i5), .val (.int nn), .val (.int q0), .val (.int q1), .val (.int q2), .val (.int q3), .val (.int mm), .val (.ref a), .unset, .unset] [(.int (0 : Int32)), (.long (0 : Int64)), (.double (0 : UInt64)), (.double (0 : UInt64)), (.double (own_d8 q3)), (.double (0 : UInt64)), (.ref a)])) _
    refine st1.trans ?_
    exact kt
  · have hk' : ¬ ((3 : Int32) < nn) := by rw [Int32.lt_iff_toInt_lt, hN]; show ¬ ((3 : Int) < (N : Int)); omega
    rw [Nat.min_eq_left (show N ≤ 3 by omega)] at I
    rw [Nat.min_eq_left (show N ≤ 4 by omega)]
    refine ⟨T0, locs, X0, I, Nf, fun target kt => ?_⟩
    show Steps p.tables e below (T0.setTop (mkF m 146 #[.val (.int i0), .val (.int i1), .val (.int i2), .val (.int i3), .val (.int i4), .val (.int i5), .val (.int nn), .val (.int q0), .val (.int q1), .val (.int q2), .val (.int q3), .val (.int mm), .val (.ref a), .unset, .unset] [])) _
    refine XS.iload X0.here hx rfl (hb hby at_146) rfl ?_
    show Steps p.tables e below (T0.setTop (mkF m 148 #[.val (.int i0), .val (.int i1), .val (.int i2), .val (.int i3), .val (.int i4), .val (.int i5), .val (.int nn), .val (.int q0), .val (.int q1), .val (.int q2), .val (.int q3), .val (.int mm), .val (.ref a), .unset, .unset] [(.int nn)])) _
    refine XS.iconst X0.here hx rfl (hb hby at_148) ?_
    show Steps p.tables e below (T0.setTop (mkF m 149 #[.val (.int i0), .val (.int i1), .val (.int i2), .val (.int i3), .val (.int i4), .val (.int i5), .val (.int nn), .val (.int q0), .val (.int q1), .val (.int q2), .val (.int q3), .val (.int mm), .val (.ref a), .unset, .unset] [(.int (3 : Int32)), (.int nn)])) _
    refine XS.icmpYes X0.here hx rfl (pc0 := 149) (pc' := 169) rfl (hb hby at_149) rfl (flt (hk' : ¬ ((3 : Int32) < nn))).2.2.2 (by decide) (by decide) ?_
    exact kt
set_option maxRecDepth 65536 in
set_option maxHeartbeats 40000000 in
theorem tl_273 {p : Program} {l : Launch} {e : Env} {R : Room} {s : State} {m : MethodId} {args : Array Value} {below : List Frame} {meth : Method} {c : Code} {T0 : State} {locs : List Loc} {cells slots : Nat} {fs : List Frame} (i0 i1 i2 i3 i4 i5 nn q0 q1 q2 q3 mm : Int32) (gg ww : Int32) (a : Addr) (X0 : Stand p l e R s m args below meth c T0 locs cells slots) (hx : p.tables.exec = Jvm.exec) (hby : c.code = code) (hret : meth.sig.returnType = some .boolean) (hr : ∀ (f : JFrame) (acts : List Action), f.method = m → f.locked = none → f.entered = [] → (doReturn e (T0.setTop f) acts (some (.int (1 : Int32)))).1 = T0.setFrames fs) (h : gg = ww) : Steps p.tables e below (T0.setTop (mkF m 273 #[.val (.int i0), .val (.int i1), .val (.int i2), .val (.int i3), .val (.int i4), .val (.int i5), .val (.int nn), .val (.int q0), .val (.int q1), .val (.int q2), .val (.int q3), .val (.int mm), .val (.ref a), .val (.int gg), .val (.int ww)] [])) (T0.setFrames fs) := by
  show Steps p.tables e below (T0.setTop (mkF m 273 #[.val (.int i0), .val (.int i1), .val (.int i2), .val (.int i3), .val (.int i4), .val (.int i5), .val (.int nn), .val (.int q0), .val (.int q1), .val (.int q2), .val (.int q3), .val (.int mm), .val (.ref a), .val (.int gg), .val (.int ww)] [])) _
  refine XS.iload X0.here hx rfl (hb hby at_273) rfl ?_
  show Steps p.tables e below (T0.setTop (mkF m 275 #[.val (.int i0), .val (.int i1), .val (.int i2), .val (.int i3), .val (.int i4), .val (.int i5), .val (.int nn), .val (.int q0), .val (.int q1), .val (.int q2), .val (.int q3), .val (.int mm), .val (.ref a), .val (.int gg), .val (.int ww)] [(.int gg)])) _
  refine XS.iload X0.here hx rfl (hb hby at_275) rfl ?_
  show Steps p.tables e below (T0.setTop (mkF m 277 #[.val (.int i0), .val (.int i1), .val (.int i2), .val (.int i3), .val (.int i4), .val (.int i5), .val (.int nn), .val (.int q0), .val (.int q1), .val (.int q2), .val (.int q3), .val (.int mm), .val (.ref a), .val (.int gg), .val (.int ww)] [(.int ww), (.int gg)])) _
  refine XS.icmpNo X0.here hx rfl (hb hby at_277) rfl (teq (h : gg = ww)).2 ?_
  show Steps p.tables e below (T0.setTop (mkF m 280 #[.val (.int i0), .val (.int i1), .val (.int i2), .val (.int i3), .val (.int i4), .val (.int i5), .val (.int nn), .val (.int q0), .val (.int q1), .val (.int q2), .val (.int q3), .val (.int mm), .val (.ref a), .val (.int gg), .val (.int ww)] [])) _
  refine XS.iconst X0.here hx rfl (hb hby at_280) ?_
  show Steps p.tables e below (T0.setTop (mkF m 281 #[.val (.int i0), .val (.int i1), .val (.int i2), .val (.int i3), .val (.int i4), .val (.int i5), .val (.int nn), .val (.int q0), .val (.int q1), .val (.int q2), .val (.int q3), .val (.int mm), .val (.ref a), .val (.int gg), .val (.int ww)] [(.int (1 : Int32))])) _
  refine XS.goto X0.here hx rfl (pc0 := 281) (pc' := 285) rfl (hb hby at_281) (by decide) (by decide) ?_
  show Steps p.tables e below (T0.setTop (mkF m 285 #[.val (.int i0), .val (.int i1), .val (.int i2), .val (.int i3), .val (.int i4), .val (.int i5), .val (.int nn), .val (.int q0), .val (.int q1), .val (.int q2), .val (.int q3), .val (.int mm), .val (.ref a), .val (.int gg), .val (.int ww)] [(.int (1 : Int32))])) _
  exact retN X0 hx (t := .boolean) hret (by simp) (hb hby at_285) hr
set_option maxRecDepth 65536 in
set_option maxHeartbeats 40000000 in
theorem tl_270 {p : Program} {l : Launch} {e : Env} {R : Room} {s : State} {m : MethodId} {args : Array Value} {below : List Frame} {meth : Method} {c : Code} {T0 : State} {locs : List Loc} {cells slots : Nat} {fs : List Frame} (i0 i1 i2 i3 i4 i5 nn q0 q1 q2 q3 mm : Int32) (gg : Int32) (a : Addr) (X0 : Stand p l e R s m args below meth c T0 locs cells slots) (hx : p.tables.exec = Jvm.exec) (hby : c.code = code) (hret : meth.sig.returnType = some .boolean) (hr : ∀ (f : JFrame) (acts : List Action), f.method = m → f.locked = none → f.entered = [] → (doReturn e (T0.setTop f) acts (some (.int (1 : Int32)))).1 = T0.setFrames fs) (h : gg = (0 : Int32)) : Steps p.tables e below (T0.setTop (mkF m 270 #[.val (.int i0), .val (.int i1), .val (.int i2), .val (.int i3), .val (.int i4), .val (.int i5), .val (.int nn), .val (.int q0), .val (.int q1), .val (.int q2), .val (.int q3), .val (.int mm), .val (.ref a), .val (.int gg), .unset] [])) (T0.setFrames fs) := by
  show Steps p.tables e below (T0.setTop (mkF m 270 #[.val (.int i0), .val (.int i1), .val (.int i2), .val (.int i3), .val (.int i4), .val (.int i5), .val (.int nn), .val (.int q0), .val (.int q1), .val (.int q2), .val (.int q3), .val (.int mm), .val (.ref a), .val (.int gg), .unset] [])) _
  refine XS.iconst X0.here hx rfl (hb hby at_270) ?_
  show Steps p.tables e below (T0.setTop (mkF m 271 #[.val (.int i0), .val (.int i1), .val (.int i2), .val (.int i3), .val (.int i4), .val (.int i5), .val (.int nn), .val (.int q0), .val (.int q1), .val (.int q2), .val (.int q3), .val (.int mm), .val (.ref a), .val (.int gg), .unset] [(.int (0 : Int32))])) _
  refine XS.istore X0.here hx rfl (hb hby at_271) rfl (l' := #[.val (.int i0), .val (.int i1), .val (.int i2), .val (.int i3), .val (.int i4), .val (.int i5), .val (.int nn), .val (.int q0), .val (.int q1), .val (.int q2), .val (.int q3), .val (.int mm), .val (.ref a), .val (.int gg), .val (.int (0 : Int32))]) rfl ?_
  show Steps p.tables e below (T0.setTop (mkF m 273 #[.val (.int i0), .val (.int i1), .val (.int i2), .val (.int i3), .val (.int i4), .val (.int i5), .val (.int nn), .val (.int q0), .val (.int q1), .val (.int q2), .val (.int q3), .val (.int mm), .val (.ref a), .val (.int gg), .val (.int (0 : Int32))] [])) _
  exact tl_273 i0 i1 i2 i3 i4 i5 nn q0 q1 q2 q3 mm gg _ a X0 hx hby hret hr h
set_option maxRecDepth 65536 in
set_option maxHeartbeats 40000000 in
theorem tl_248 {p : Program} {l : Launch} {e : Env} {R : Room} {s : State} {m : MethodId} {args : Array Value} {below : List Frame} {meth : Method} {c : Code} {T0 : State} {locs : List Loc} {cells slots : Nat} {fs : List Frame} (i0 i1 i2 i3 i4 i5 nn q0 q1 q2 q3 mm : Int32) (gg : Int32) (a : Addr) (X0 : Stand p l e R s m args below meth c T0 locs cells slots) (hx : p.tables.exec = Jvm.exec) (hby : c.code = code) (hret : meth.sig.returnType = some .boolean) (hr : ∀ (f : JFrame) (acts : List Action), f.method = m → f.locked = none → f.entered = [] → (doReturn e (T0.setTop f) acts (some (.int (1 : Int32)))).1 = T0.setFrames fs) (h : gg = (if (3 : Int32) < nn ∧ ¬ (q3 + mm < (8 : Int32)) then (3 : Int32) else (0 : Int32))) : Steps p.tables e below (T0.setTop (mkF m 248 #[.val (.int i0), .val (.int i1), .val (.int i2), .val (.int i3), .val (.int i4), .val (.int i5), .val (.int nn), .val (.int q0), .val (.int q1), .val (.int q2), .val (.int q3), .val (.int mm), .val (.ref a), .val (.int gg), .unset] [])) (T0.setFrames fs) := by
  by_cases h1 : (3 : Int32) < nn
  · by_cases h2 : (q3 + mm) < (8 : Int32)
    · rw [if_neg (fun q => q.2 h2)] at h
      show Steps p.tables e below (T0.setTop (mkF m 248 #[.val (.int i0), .val (.int i1), .val (.int i2), .val (.int i3), .val (.int i4), .val (.int i5), .val (.int nn), .val (.int q0), .val (.int q1), .val (.int q2), .val (.int q3), .val (.int mm), .val (.ref a), .val (.int gg), .unset] [])) _
      refine XS.iload X0.here hx rfl (hb hby at_248) rfl ?_
      show Steps p.tables e below (T0.setTop (mkF m 250 #[.val (.int i0), .val (.int i1), .val (.int i2), .val (.int i3), .val (.int i4), .val (.int i5), .val (.int nn), .val (.int q0), .val (.int q1), .val (.int q2), .val (.int q3), .val (.int mm), .val (.ref a), .val (.int gg), .unset] [(.int nn)])) _
      refine XS.iconst X0.here hx rfl (hb hby at_250) ?_
      show Steps p.tables e below (T0.setTop (mkF m 251 #[.val (.int i0), .val (.int i1), .val (.int i2), .val (.int i3), .val (.int i4), .val (.int i5), .val (.int nn), .val (.int q0), .val (.int q1), .val (.int q2), .val (.int q3), .val (.int mm), .val (.ref a), .val (.int gg), .unset] [(.int (3 : Int32)), (.int nn)])) _
      refine XS.icmpNo X0.here hx rfl (hb hby at_251) rfl (tlt (h1 : (3 : Int32) < nn)).2.2.2 ?_
      show Steps p.tables e below (T0.setTop (mkF m 254 #[.val (.int i0), .val (.int i1), .val (.int i2), .val (.int i3), .val (.int i4), .val (.int i5), .val (.int nn), .val (.int q0), .val (.int q1), .val (.int q2), .val (.int q3), .val (.int mm), .val (.ref a), .val (.int gg), .unset] [])) _
      refine XS.iload X0.here hx rfl (hb hby at_254) rfl ?_
      show Steps p.tables e below (T0.setTop (mkF m 256 #[.val (.int i0), .val (.int i1), .val (.int i2), .val (.int i3), .val (.int i4), .val (.int i5), .val (.int nn), .val (.int q0), .val (.int q1), .val (.int q2), .val (.int q3), .val (.int mm), .val (.ref a), .val (.int gg), .unset] [(.int q3)])) _
      refine XS.iload X0.here hx rfl (hb hby at_256) rfl ?_
      show Steps p.tables e below (T0.setTop (mkF m 258 #[.val (.int i0), .val (.int i1), .val (.int i2), .val (.int i3), .val (.int i4), .val (.int i5), .val (.int nn), .val (.int q0), .val (.int q1), .val (.int q2), .val (.int q3), .val (.int mm), .val (.ref a), .val (.int gg), .unset] [(.int mm), (.int q3)])) _
      refine XS.iadd X0.here hx rfl (hb hby at_258) rfl ?_
      show Steps p.tables e below (T0.setTop (mkF m 259 #[.val (.int i0), .val (.int i1), .val (.int i2), .val (.int i3), .val (.int i4), .val (.int i5), .val (.int nn), .val (.int q0), .val (.int q1), .val (.int q2), .val (.int q3), .val (.int mm), .val (.ref a), .val (.int gg), .unset] [(.int (q3 + mm))])) _
      refine XS.bipush X0.here hx rfl (hb hby at_259) ?_
      show Steps p.tables e below (T0.setTop (mkF m 261 #[.val (.int i0), .val (.int i1), .val (.int i2), .val (.int i3), .val (.int i4), .val (.int i5), .val (.int nn), .val (.int q0), .val (.int q1), .val (.int q2), .val (.int q3), .val (.int mm), .val (.ref a), .val (.int gg), .unset] [(.int (8 : Int32)), (.int (q3 + mm))])) _
      refine XS.icmpYes X0.here hx rfl (pc0 := 261) (pc' := 270) rfl (hb hby at_261) rfl (tlt (h2 : (q3 + mm) < (8 : Int32))).1 (by decide) (by decide) ?_
      show Steps p.tables e below (T0.setTop (mkF m 270 #[.val (.int i0), .val (.int i1), .val (.int i2), .val (.int i3), .val (.int i4), .val (.int i5), .val (.int nn), .val (.int q0), .val (.int q1), .val (.int q2), .val (.int q3), .val (.int mm), .val (.ref a), .val (.int gg), .unset] [])) _
      exact tl_270 i0 i1 i2 i3 i4 i5 nn q0 q1 q2 q3 mm gg a X0 hx hby hret hr h
    · rw [if_pos ⟨h1, h2⟩] at h
      show Steps p.tables e below (T0.setTop (mkF m 248 #[.val (.int i0), .val (.int i1), .val (.int i2), .val (.int i3), .val (.int i4), .val (.int i5), .val (.int nn), .val (.int q0), .val (.int q1), .val (.int q2), .val (.int q3), .val (.int mm), .val (.ref a), .val (.int gg), .unset] [])) _
      refine XS.iload X0.here hx rfl (hb hby at_248) rfl ?_
      show Steps p.tables e below (T0.setTop (mkF m 250 #[.val (.int i0), .val (.int i1), .val (.int i2), .val (.int i3), .val (.int i4), .val (.int i5), .val (.int nn), .val (.int q0), .val (.int q1), .val (.int q2), .val (.int q3), .val (.int mm), .val (.ref a), .val (.int gg), .unset] [(.int nn)])) _
      refine XS.iconst X0.here hx rfl (hb hby at_250) ?_
      show Steps p.tables e below (T0.setTop (mkF m 251 #[.val (.int i0), .val (.int i1), .val (.int i2), .val (.int i3), .val (.int i4), .val (.int i5), .val (.int nn), .val (.int q0), .val (.int q1), .val (.int q2), .val (.int q3), .val (.int mm), .val (.ref a), .val (.int gg), .unset] [(.int (3 : Int32)), (.int nn)])) _
      refine XS.icmpNo X0.here hx rfl (hb hby at_251) rfl (tlt (h1 : (3 : Int32) < nn)).2.2.2 ?_
      show Steps p.tables e below (T0.setTop (mkF m 254 #[.val (.int i0), .val (.int i1), .val (.int i2), .val (.int i3), .val (.int i4), .val (.int i5), .val (.int nn), .val (.int q0), .val (.int q1), .val (.int q2), .val (.int q3), .val (.int mm), .val (.ref a), .val (.int gg), .unset] [])) _
      refine XS.iload X0.here hx rfl (hb hby at_254) rfl ?_
      show Steps p.tables e below (T0.setTop (mkF m 256 #[.val (.int i0), .val (.int i1), .val (.int i2), .val (.int i3), .val (.int i4), .val (.int i5), .val (.int nn), .val (.int q0), .val (.int q1), .val (.int q2), .val (.int q3), .val (.int mm), .val (.ref a), .val (.int gg), .unset] [(.int q3)])) _
      refine XS.iload X0.here hx rfl (hb hby at_256) rfl ?_
      show Steps p.tables e below (T0.setTop (mkF m 258 #[.val (.int i0), .val (.int i1), .val (.int i2), .val (.int i3), .val (.int i4), .val (.int i5), .val (.int nn), .val (.int q0), .val (.int q1), .val (.int q2), .val (.int q3), .val (.int mm), .val (.ref a), .val (.int gg), .unset] [(.int mm), (.int q3)])) _
      refine XS.iadd X0.here hx rfl (hb hby at_258) rfl ?_
      show Steps p.tables e below (T0.setTop (mkF m 259 #[.val (.int i0), .val (.int i1), .val (.int i2), .val (.int i3), .val (.int i4), .val (.int i5), .val (.int nn), .val (.int q0), .val (.int q1), .val (.int q2), .val (.int q3), .val (.int mm), .val (.ref a), .val (.int gg), .unset] [(.int (q3 + mm))])) _
      refine XS.bipush X0.here hx rfl (hb hby at_259) ?_
      show Steps p.tables e below (T0.setTop (mkF m 261 #[.val (.int i0), .val (.int i1), .val (.int i2), .val (.int i3), .val (.int i4), .val (.int i5), .val (.int nn), .val (.int q0), .val (.int q1), .val (.int q2), .val (.int q3), .val (.int mm), .val (.ref a), .val (.int gg), .unset] [(.int (8 : Int32)), (.int (q3 + mm))])) _
      refine XS.icmpNo X0.here hx rfl (hb hby at_261) rfl (flt (h2 : ¬ ((q3 + mm) < (8 : Int32)))).1 ?_
      show Steps p.tables e below (T0.setTop (mkF m 264 #[.val (.int i0), .val (.int i1), .val (.int i2), .val (.int i3), .val (.int i4), .val (.int i5), .val (.int nn), .val (.int q0), .val (.int q1), .val (.int q2), .val (.int q3), .val (.int mm), .val (.ref a), .val (.int gg), .unset] [])) _
      refine XS.iconst X0.here hx rfl (hb hby at_264) ?_
      show Steps p.tables e below (T0.setTop (mkF m 265 #[.val (.int i0), .val (.int i1), .val (.int i2), .val (.int i3), .val (.int i4), .val (.int i5), .val (.int nn), .val (.int q0), .val (.int q1), .val (.int q2), .val (.int q3), .val (.int mm), .val (.ref a), .val (.int gg), .unset] [(.int (3 : Int32))])) _
      refine XS.istore X0.here hx rfl (hb hby at_265) rfl (l' := #[.val (.int i0), .val (.int i1), .val (.int i2), .val (.int i3), .val (.int i4), .val (.int i5), .val (.int nn), .val (.int q0), .val (.int q1), .val (.int q2), .val (.int q3), .val (.int mm), .val (.ref a), .val (.int gg), .val (.int (3 : Int32))]) rfl ?_
      show Steps p.tables e below (T0.setTop (mkF m 267 #[.val (.int i0), .val (.int i1), .val (.int i2), .val (.int i3), .val (.int i4), .val (.int i5), .val (.int nn), .val (.int q0), .val (.int q1), .val (.int q2), .val (.int q3), .val (.int mm), .val (.ref a), .val (.int gg), .val (.int (3 : Int32))] [])) _
      refine XS.goto X0.here hx rfl (pc0 := 267) (pc' := 273) rfl (hb hby at_267) (by decide) (by decide) ?_
      show Steps p.tables e below (T0.setTop (mkF m 273 #[.val (.int i0), .val (.int i1), .val (.int i2), .val (.int i3), .val (.int i4), .val (.int i5), .val (.int nn), .val (.int q0), .val (.int q1), .val (.int q2), .val (.int q3), .val (.int mm), .val (.ref a), .val (.int gg), .val (.int (3 : Int32))] [])) _
      exact tl_273 i0 i1 i2 i3 i4 i5 nn q0 q1 q2 q3 mm gg _ a X0 hx hby hret hr h
  · rw [if_neg (fun q => h1 q.1)] at h
    show Steps p.tables e below (T0.setTop (mkF m 248 #[.val (.int i0), .val (.int i1), .val (.int i2), .val (.int i3), .val (.int i4), .val (.int i5), .val (.int nn), .val (.int q0), .val (.int q1), .val (.int q2), .val (.int q3), .val (.int mm), .val (.ref a), .val (.int gg), .unset] [])) _
    refine XS.iload X0.here hx rfl (hb hby at_248) rfl ?_
    show Steps p.tables e below (T0.setTop (mkF m 250 #[.val (.int i0), .val (.int i1), .val (.int i2), .val (.int i3), .val (.int i4), .val (.int i5), .val (.int nn), .val (.int q0), .val (.int q1), .val (.int q2), .val (.int q3), .val (.int mm), .val (.ref a), .val (.int gg), .unset] [(.int nn)])) _
    refine XS.iconst X0.here hx rfl (hb hby at_250) ?_
    show Steps p.tables e below (T0.setTop (mkF m 251 #[.val (.int i0), .val (.int i1), .val (.int i2), .val (.int i3), .val (.int i4), .val (.int i5), .val (.int nn), .val (.int q0), .val (.int q1), .val (.int q2), .val (.int q3), .val (.int mm), .val (.ref a), .val (.int gg), .unset] [(.int (3 : Int32)), (.int nn)])) _
    refine XS.icmpYes X0.here hx rfl (pc0 := 251) (pc' := 270) rfl (hb hby at_251) rfl (flt (h1 : ¬ ((3 : Int32) < nn))).2.2.2 (by decide) (by decide) ?_
    show Steps p.tables e below (T0.setTop (mkF m 270 #[.val (.int i0), .val (.int i1), .val (.int i2), .val (.int i3), .val (.int i4), .val (.int i5), .val (.int nn), .val (.int q0), .val (.int q1), .val (.int q2), .val (.int q3), .val (.int mm), .val (.ref a), .val (.int gg), .unset] [])) _
    exact tl_270 i0 i1 i2 i3 i4 i5 nn q0 q1 q2 q3 mm gg a X0 hx hby hret hr h
set_option maxRecDepth 65536 in
set_option maxHeartbeats 40000000 in
theorem tl_226 {p : Program} {l : Launch} {e : Env} {R : Room} {s : State} {m : MethodId} {args : Array Value} {below : List Frame} {meth : Method} {c : Code} {T0 : State} {locs : List Loc} {cells slots : Nat} {fs : List Frame} (i0 i1 i2 i3 i4 i5 nn q0 q1 q2 q3 mm : Int32) (gg : Int32) (a : Addr) (X0 : Stand p l e R s m args below meth c T0 locs cells slots) (hx : p.tables.exec = Jvm.exec) (hby : c.code = code) (hret : meth.sig.returnType = some .boolean) (hr : ∀ (f : JFrame) (acts : List Action), f.method = m → f.locked = none → f.entered = [] → (doReturn e (T0.setTop f) acts (some (.int (1 : Int32)))).1 = T0.setFrames fs) (h : gg = (if (2 : Int32) < nn ∧ ¬ (q2 + mm < (8 : Int32)) then (2 : Int32) else (if (3 : Int32) < nn ∧ ¬ (q3 + mm < (8 : Int32)) then (3 : Int32) else (0 : Int32)))) : Steps p.tables e below (T0.setTop (mkF m 226 #[.val (.int i0), .val (.int i1), .val (.int i2), .val (.int i3), .val (.int i4), .val (.int i5), .val (.int nn), .val (.int q0), .val (.int q1), .val (.int q2), .val (.int q3), .val (.int mm), .val (.ref a), .val (.int gg), .unset] [])) (T0.setFrames fs) := by
  by_cases h1 : (2 : Int32) < nn
  · by_cases h2 : (q2 + mm) < (8 : Int32)
    · rw [if_neg (fun q => q.2 h2)] at h
      show Steps p.tables e below (T0.setTop (mkF m 226 #[.val (.int i0), .val (.int i1), .val (.int i2), .val (.int i3), .val (.int i4), .val (.int i5), .val (.int nn), .val (.int q0), .val (.int q1), .val (.int q2), .val (.int q3), .val (.int mm), .val (.ref a), .val (.int gg), .unset] [])) _
      refine XS.iload X0.here hx rfl (hb hby at_226) rfl ?_
      show Steps p.tables e below (T0.setTop (mkF m 228 #[.val (.int i0), .val (.int i1), .val (.int i2), .val (.int i3), .val (.int i4), .val (.int i5), .val (.int nn), .val (.int q0), .val (.int q1), .val (.int q2), .val (.int q3), .val (.int mm), .val (.ref a), .val (.int gg), .unset] [(.int nn)])) _
      refine XS.iconst X0.here hx rfl (hb hby at_228) ?_
      show Steps p.tables e below (T0.setTop (mkF m 229 #[.val (.int i0), .val (.int i1), .val (.int i2), .val (.int i3), .val (.int i4), .val (.int i5), .val (.int nn), .val (.int q0), .val (.int q1), .val (.int q2), .val (.int q3), .val (.int mm), .val (.ref a), .val (.int gg), .unset] [(.int (2 : Int32)), (.int nn)])) _
      refine XS.icmpNo X0.here hx rfl (hb hby at_229) rfl (tlt (h1 : (2 : Int32) < nn)).2.2.2 ?_
      show Steps p.tables e below (T0.setTop (mkF m 232 #[.val (.int i0), .val (.int i1), .val (.int i2), .val (.int i3), .val (.int i4), .val (.int i5), .val (.int nn), .val (.int q0), .val (.int q1), .val (.int q2), .val (.int q3), .val (.int mm), .val (.ref a), .val (.int gg), .unset] [])) _
      refine XS.iload X0.here hx rfl (hb hby at_232) rfl ?_
      show Steps p.tables e below (T0.setTop (mkF m 234 #[.val (.int i0), .val (.int i1), .val (.int i2), .val (.int i3), .val (.int i4), .val (.int i5), .val (.int nn), .val (.int q0), .val (.int q1), .val (.int q2), .val (.int q3), .val (.int mm), .val (.ref a), .val (.int gg), .unset] [(.int q2)])) _
      refine XS.iload X0.here hx rfl (hb hby at_234) rfl ?_
      show Steps p.tables e below (T0.setTop (mkF m 236 #[.val (.int i0), .val (.int i1), .val (.int i2), .val (.int i3), .val (.int i4), .val (.int i5), .val (.int nn), .val (.int q0), .val (.int q1), .val (.int q2), .val (.int q3), .val (.int mm), .val (.ref a), .val (.int gg), .unset] [(.int mm), (.int q2)])) _
      refine XS.iadd X0.here hx rfl (hb hby at_236) rfl ?_
      show Steps p.tables e below (T0.setTop (mkF m 237 #[.val (.int i0), .val (.int i1), .val (.int i2), .val (.int i3), .val (.int i4), .val (.int i5), .val (.int nn), .val (.int q0), .val (.int q1), .val (.int q2), .val (.int q3), .val (.int mm), .val (.ref a), .val (.int gg), .unset] [(.int (q2 + mm))])) _
      refine XS.bipush X0.here hx rfl (hb hby at_237) ?_
      show Steps p.tables e below (T0.setTop (mkF m 239 #[.val (.int i0), .val (.int i1), .val (.int i2), .val (.int i3), .val (.int i4), .val (.int i5), .val (.int nn), .val (.int q0), .val (.int q1), .val (.int q2), .val (.int q3), .val (.int mm), .val (.ref a), .val (.int gg), .unset] [(.int (8 : Int32)), (.int (q2 + mm))])) _
      refine XS.icmpYes X0.here hx rfl (pc0 := 239) (pc' := 248) rfl (hb hby at_239) rfl (tlt (h2 : (q2 + mm) < (8 : Int32))).1 (by decide) (by decide) ?_
      show Steps p.tables e below (T0.setTop (mkF m 248 #[.val (.int i0), .val (.int i1), .val (.int i2), .val (.int i3), .val (.int i4), .val (.int i5), .val (.int nn), .val (.int q0), .val (.int q1), .val (.int q2), .val (.int q3), .val (.int mm), .val (.ref a), .val (.int gg), .unset] [])) _
      exact tl_248 i0 i1 i2 i3 i4 i5 nn q0 q1 q2 q3 mm gg a X0 hx hby hret hr h
    · rw [if_pos ⟨h1, h2⟩] at h
      show Steps p.tables e below (T0.setTop (mkF m 226 #[.val (.int i0), .val (.int i1), .val (.int i2), .val (.int i3), .val (.int i4), .val (.int i5), .val (.int nn), .val (.int q0), .val (.int q1), .val (.int q2), .val (.int q3), .val (.int mm), .val (.ref a), .val (.int gg), .unset] [])) _
      refine XS.iload X0.here hx rfl (hb hby at_226) rfl ?_
      show Steps p.tables e below (T0.setTop (mkF m 228 #[.val (.int i0), .val (.int i1), .val (.int i2), .val (.int i3), .val (.int i4), .val (.int i5), .val (.int nn), .val (.int q0), .val (.int q1), .val (.int q2), .val (.int q3), .val (.int mm), .val (.ref a), .val (.int gg), .unset] [(.int nn)])) _
      refine XS.iconst X0.here hx rfl (hb hby at_228) ?_
      show Steps p.tables e below (T0.setTop (mkF m 229 #[.val (.int i0), .val (.int i1), .val (.int i2), .val (.int i3), .val (.int i4), .val (.int i5), .val (.int nn), .val (.int q0), .val (.int q1), .val (.int q2), .val (.int q3), .val (.int mm), .val (.ref a), .val (.int gg), .unset] [(.int (2 : Int32)), (.int nn)])) _
      refine XS.icmpNo X0.here hx rfl (hb hby at_229) rfl (tlt (h1 : (2 : Int32) < nn)).2.2.2 ?_
      show Steps p.tables e below (T0.setTop (mkF m 232 #[.val (.int i0), .val (.int i1), .val (.int i2), .val (.int i3), .val (.int i4), .val (.int i5), .val (.int nn), .val (.int q0), .val (.int q1), .val (.int q2), .val (.int q3), .val (.int mm), .val (.ref a), .val (.int gg), .unset] [])) _
      refine XS.iload X0.here hx rfl (hb hby at_232) rfl ?_
      show Steps p.tables e below (T0.setTop (mkF m 234 #[.val (.int i0), .val (.int i1), .val (.int i2), .val (.int i3), .val (.int i4), .val (.int i5), .val (.int nn), .val (.int q0), .val (.int q1), .val (.int q2), .val (.int q3), .val (.int mm), .val (.ref a), .val (.int gg), .unset] [(.int q2)])) _
      refine XS.iload X0.here hx rfl (hb hby at_234) rfl ?_
      show Steps p.tables e below (T0.setTop (mkF m 236 #[.val (.int i0), .val (.int i1), .val (.int i2), .val (.int i3), .val (.int i4), .val (.int i5), .val (.int nn), .val (.int q0), .val (.int q1), .val (.int q2), .val (.int q3), .val (.int mm), .val (.ref a), .val (.int gg), .unset] [(.int mm), (.int q2)])) _
      refine XS.iadd X0.here hx rfl (hb hby at_236) rfl ?_
      show Steps p.tables e below (T0.setTop (mkF m 237 #[.val (.int i0), .val (.int i1), .val (.int i2), .val (.int i3), .val (.int i4), .val (.int i5), .val (.int nn), .val (.int q0), .val (.int q1), .val (.int q2), .val (.int q3), .val (.int mm), .val (.ref a), .val (.int gg), .unset] [(.int (q2 + mm))])) _
      refine XS.bipush X0.here hx rfl (hb hby at_237) ?_
      show Steps p.tables e below (T0.setTop (mkF m 239 #[.val (.int i0), .val (.int i1), .val (.int i2), .val (.int i3), .val (.int i4), .val (.int i5), .val (.int nn), .val (.int q0), .val (.int q1), .val (.int q2), .val (.int q3), .val (.int mm), .val (.ref a), .val (.int gg), .unset] [(.int (8 : Int32)), (.int (q2 + mm))])) _
      refine XS.icmpNo X0.here hx rfl (hb hby at_239) rfl (flt (h2 : ¬ ((q2 + mm) < (8 : Int32)))).1 ?_
      show Steps p.tables e below (T0.setTop (mkF m 242 #[.val (.int i0), .val (.int i1), .val (.int i2), .val (.int i3), .val (.int i4), .val (.int i5), .val (.int nn), .val (.int q0), .val (.int q1), .val (.int q2), .val (.int q3), .val (.int mm), .val (.ref a), .val (.int gg), .unset] [])) _
      refine XS.iconst X0.here hx rfl (hb hby at_242) ?_
      show Steps p.tables e below (T0.setTop (mkF m 243 #[.val (.int i0), .val (.int i1), .val (.int i2), .val (.int i3), .val (.int i4), .val (.int i5), .val (.int nn), .val (.int q0), .val (.int q1), .val (.int q2), .val (.int q3), .val (.int mm), .val (.ref a), .val (.int gg), .unset] [(.int (2 : Int32))])) _
      refine XS.istore X0.here hx rfl (hb hby at_243) rfl (l' := #[.val (.int i0), .val (.int i1), .val (.int i2), .val (.int i3), .val (.int i4), .val (.int i5), .val (.int nn), .val (.int q0), .val (.int q1), .val (.int q2), .val (.int q3), .val (.int mm), .val (.ref a), .val (.int gg), .val (.int (2 : Int32))]) rfl ?_
      show Steps p.tables e below (T0.setTop (mkF m 245 #[.val (.int i0), .val (.int i1), .val (.int i2), .val (.int i3), .val (.int i4), .val (.int i5), .val (.int nn), .val (.int q0), .val (.int q1), .val (.int q2), .val (.int q3), .val (.int mm), .val (.ref a), .val (.int gg), .val (.int (2 : Int32))] [])) _
      refine XS.goto X0.here hx rfl (pc0 := 245) (pc' := 273) rfl (hb hby at_245) (by decide) (by decide) ?_
      show Steps p.tables e below (T0.setTop (mkF m 273 #[.val (.int i0), .val (.int i1), .val (.int i2), .val (.int i3), .val (.int i4), .val (.int i5), .val (.int nn), .val (.int q0), .val (.int q1), .val (.int q2), .val (.int q3), .val (.int mm), .val (.ref a), .val (.int gg), .val (.int (2 : Int32))] [])) _
      exact tl_273 i0 i1 i2 i3 i4 i5 nn q0 q1 q2 q3 mm gg _ a X0 hx hby hret hr h
  · rw [if_neg (fun q => h1 q.1)] at h
    show Steps p.tables e below (T0.setTop (mkF m 226 #[.val (.int i0), .val (.int i1), .val (.int i2), .val (.int i3), .val (.int i4), .val (.int i5), .val (.int nn), .val (.int q0), .val (.int q1), .val (.int q2), .val (.int q3), .val (.int mm), .val (.ref a), .val (.int gg), .unset] [])) _
    refine XS.iload X0.here hx rfl (hb hby at_226) rfl ?_
    show Steps p.tables e below (T0.setTop (mkF m 228 #[.val (.int i0), .val (.int i1), .val (.int i2), .val (.int i3), .val (.int i4), .val (.int i5), .val (.int nn), .val (.int q0), .val (.int q1), .val (.int q2), .val (.int q3), .val (.int mm), .val (.ref a), .val (.int gg), .unset] [(.int nn)])) _
    refine XS.iconst X0.here hx rfl (hb hby at_228) ?_
    show Steps p.tables e below (T0.setTop (mkF m 229 #[.val (.int i0), .val (.int i1), .val (.int i2), .val (.int i3), .val (.int i4), .val (.int i5), .val (.int nn), .val (.int q0), .val (.int q1), .val (.int q2), .val (.int q3), .val (.int mm), .val (.ref a), .val (.int gg), .unset] [(.int (2 : Int32)), (.int nn)])) _
    refine XS.icmpYes X0.here hx rfl (pc0 := 229) (pc' := 248) rfl (hb hby at_229) rfl (flt (h1 : ¬ ((2 : Int32) < nn))).2.2.2 (by decide) (by decide) ?_
    show Steps p.tables e below (T0.setTop (mkF m 248 #[.val (.int i0), .val (.int i1), .val (.int i2), .val (.int i3), .val (.int i4), .val (.int i5), .val (.int nn), .val (.int q0), .val (.int q1), .val (.int q2), .val (.int q3), .val (.int mm), .val (.ref a), .val (.int gg), .unset] [])) _
    exact tl_248 i0 i1 i2 i3 i4 i5 nn q0 q1 q2 q3 mm gg a X0 hx hby hret hr h
set_option maxRecDepth 65536 in
set_option maxHeartbeats 40000000 in
theorem tl_204 {p : Program} {l : Launch} {e : Env} {R : Room} {s : State} {m : MethodId} {args : Array Value} {below : List Frame} {meth : Method} {c : Code} {T0 : State} {locs : List Loc} {cells slots : Nat} {fs : List Frame} (i0 i1 i2 i3 i4 i5 nn q0 q1 q2 q3 mm : Int32) (gg : Int32) (a : Addr) (X0 : Stand p l e R s m args below meth c T0 locs cells slots) (hx : p.tables.exec = Jvm.exec) (hby : c.code = code) (hret : meth.sig.returnType = some .boolean) (hr : ∀ (f : JFrame) (acts : List Action), f.method = m → f.locked = none → f.entered = [] → (doReturn e (T0.setTop f) acts (some (.int (1 : Int32)))).1 = T0.setFrames fs) (h : gg = (if (1 : Int32) < nn ∧ ¬ (q1 + mm < (8 : Int32)) then (1 : Int32) else (if (2 : Int32) < nn ∧ ¬ (q2 + mm < (8 : Int32)) then (2 : Int32) else (if (3 : Int32) < nn ∧ ¬ (q3 + mm < (8 : Int32)) then (3 : Int32) else (0 : Int32))))) : Steps p.tables e below (T0.setTop (mkF m 204 #[.val (.int i0), .val (.int i1), .val (.int i2), .val (.int i3), .val (.int i4), .val (.int i5), .val (.int nn), .val (.int q0), .val (.int q1), .val (.int q2), .val (.int q3), .val (.int mm), .val (.ref a), .val (.int gg), .unset] [])) (T0.setFrames fs) := by
  by_cases h1 : (1 : Int32) < nn
  · by_cases h2 : (q1 + mm) < (8 : Int32)
    · rw [if_neg (fun q => q.2 h2)] at h
      show Steps p.tables e below (T0.setTop (mkF m 204 #[.val (.int i0), .val (.int i1), .val (.int i2), .val (.int i3), .val (.int i4), .val (.int i5), .val (.int nn), .val (.int q0), .val (.int q1), .val (.int q2), .val (.int q3), .val (.int mm), .val (.ref a), .val (.int gg), .unset] [])) _
      refine XS.iload X0.here hx rfl (hb hby at_204) rfl ?_
      show Steps p.tables e below (T0.setTop (mkF m 206 #[.val (.int i0), .val (.int i1), .val (.int i2), .val (.int i3), .val (.int i4), .val (.int i5), .val (.int nn), .val (.int q0), .val (.int q1), .val (.int q2), .val (.int q3), .val (.int mm), .val (.ref a), .val (.int gg), .unset] [(.int nn)])) _
      refine XS.iconst X0.here hx rfl (hb hby at_206) ?_
      show Steps p.tables e below (T0.setTop (mkF m 207 #[.val (.int i0), .val (.int i1), .val (.int i2), .val (.int i3), .val (.int i4), .val (.int i5), .val (.int nn), .val (.int q0), .val (.int q1), .val (.int q2), .val (.int q3), .val (.int mm), .val (.ref a), .val (.int gg), .unset] [(.int (1 : Int32)), (.int nn)])) _
      refine XS.icmpNo X0.here hx rfl (hb hby at_207) rfl (tlt (h1 : (1 : Int32) < nn)).2.2.2 ?_
      show Steps p.tables e below (T0.setTop (mkF m 210 #[.val (.int i0), .val (.int i1), .val (.int i2), .val (.int i3), .val (.int i4), .val (.int i5), .val (.int nn), .val (.int q0), .val (.int q1), .val (.int q2), .val (.int q3), .val (.int mm), .val (.ref a), .val (.int gg), .unset] [])) _
      refine XS.iload X0.here hx rfl (hb hby at_210) rfl ?_
      show Steps p.tables e below (T0.setTop (mkF m 212 #[.val (.int i0), .val (.int i1), .val (.int i2), .val (.int i3), .val (.int i4), .val (.int i5), .val (.int nn), .val (.int q0), .val (.int q1), .val (.int q2), .val (.int q3), .val (.int mm), .val (.ref a), .val (.int gg), .unset] [(.int q1)])) _
      refine XS.iload X0.here hx rfl (hb hby at_212) rfl ?_
      show Steps p.tables e below (T0.setTop (mkF m 214 #[.val (.int i0), .val (.int i1), .val (.int i2), .val (.int i3), .val (.int i4), .val (.int i5), .val (.int nn), .val (.int q0), .val (.int q1), .val (.int q2), .val (.int q3), .val (.int mm), .val (.ref a), .val (.int gg), .unset] [(.int mm), (.int q1)])) _
      refine XS.iadd X0.here hx rfl (hb hby at_214) rfl ?_
      show Steps p.tables e below (T0.setTop (mkF m 215 #[.val (.int i0), .val (.int i1), .val (.int i2), .val (.int i3), .val (.int i4), .val (.int i5), .val (.int nn), .val (.int q0), .val (.int q1), .val (.int q2), .val (.int q3), .val (.int mm), .val (.ref a), .val (.int gg), .unset] [(.int (q1 + mm))])) _
      refine XS.bipush X0.here hx rfl (hb hby at_215) ?_
      show Steps p.tables e below (T0.setTop (mkF m 217 #[.val (.int i0), .val (.int i1), .val (.int i2), .val (.int i3), .val (.int i4), .val (.int i5), .val (.int nn), .val (.int q0), .val (.int q1), .val (.int q2), .val (.int q3), .val (.int mm), .val (.ref a), .val (.int gg), .unset] [(.int (8 : Int32)), (.int (q1 + mm))])) _
      refine XS.icmpYes X0.here hx rfl (pc0 := 217) (pc' := 226) rfl (hb hby at_217) rfl (tlt (h2 : (q1 + mm) < (8 : Int32))).1 (by decide) (by decide) ?_
      show Steps p.tables e below (T0.setTop (mkF m 226 #[.val (.int i0), .val (.int i1), .val (.int i2), .val (.int i3), .val (.int i4), .val (.int i5), .val (.int nn), .val (.int q0), .val (.int q1), .val (.int q2), .val (.int q3), .val (.int mm), .val (.ref a), .val (.int gg), .unset] [])) _
      exact tl_226 i0 i1 i2 i3 i4 i5 nn q0 q1 q2 q3 mm gg a X0 hx hby hret hr h
    · rw [if_pos ⟨h1, h2⟩] at h
      show Steps p.tables e below (T0.setTop (mkF m 204 #[.val (.int i0), .val (.int i1), .val (.int i2), .val (.int i3), .val (.int i4), .val (.int i5), .val (.int nn), .val (.int q0), .val (.int q1), .val (.int q2), .val (.int q3), .val (.int mm), .val (.ref a), .val (.int gg), .unset] [])) _
      refine XS.iload X0.here hx rfl (hb hby at_204) rfl ?_
      show Steps p.tables e below (T0.setTop (mkF m 206 #[.val (.int i0), .val (.int i1), .val (.int i2), .val (.int i3), .val (.int i4), .val (.int i5), .val (.int nn), .val (.int q0), .val (.int q1), .val (.int q2), .val (.int q3), .val (.int mm), .val (.ref a), .val (.int gg), .unset] [(.int nn)])) _
      refine XS.iconst X0.here hx rfl (hb hby at_206) ?_
      show Steps p.tables e below (T0.setTop (mkF m 207 #[.val (.int i0), .val (.int i1), .val (.int i2), .val (.int i3), .val (.int i4), .val (.int i5), .val (.int nn), .val (.int q0), .val (.int q1), .val (.int q2), .val (.int q3), .val (.int mm), .val (.ref a), .val (.int gg), .unset] [(.int (1 : Int32)), (.int nn)])) _
      refine XS.icmpNo X0.here hx rfl (hb hby at_207) rfl (tlt (h1 : (1 : Int32) < nn)).2.2.2 ?_
      show Steps p.tables e below (T0.setTop (mkF m 210 #[.val (.int i0), .val (.int i1), .val (.int i2), .val (.int i3), .val (.int i4), .val (.int i5), .val (.int nn), .val (.int q0), .val (.int q1), .val (.int q2), .val (.int q3), .val (.int mm), .val (.ref a), .val (.int gg), .unset] [])) _
      refine XS.iload X0.here hx rfl (hb hby at_210) rfl ?_
      show Steps p.tables e below (T0.setTop (mkF m 212 #[.val (.int i0), .val (.int i1), .val (.int i2), .val (.int i3), .val (.int i4), .val (.int i5), .val (.int nn), .val (.int q0), .val (.int q1), .val (.int q2), .val (.int q3), .val (.int mm), .val (.ref a), .val (.int gg), .unset] [(.int q1)])) _
      refine XS.iload X0.here hx rfl (hb hby at_212) rfl ?_
      show Steps p.tables e below (T0.setTop (mkF m 214 #[.val (.int i0), .val (.int i1), .val (.int i2), .val (.int i3), .val (.int i4), .val (.int i5), .val (.int nn), .val (.int q0), .val (.int q1), .val (.int q2), .val (.int q3), .val (.int mm), .val (.ref a), .val (.int gg), .unset] [(.int mm), (.int q1)])) _
      refine XS.iadd X0.here hx rfl (hb hby at_214) rfl ?_
      show Steps p.tables e below (T0.setTop (mkF m 215 #[.val (.int i0), .val (.int i1), .val (.int i2), .val (.int i3), .val (.int i4), .val (.int i5), .val (.int nn), .val (.int q0), .val (.int q1), .val (.int q2), .val (.int q3), .val (.int mm), .val (.ref a), .val (.int gg), .unset] [(.int (q1 + mm))])) _
      refine XS.bipush X0.here hx rfl (hb hby at_215) ?_
      show Steps p.tables e below (T0.setTop (mkF m 217 #[.val (.int i0), .val (.int i1), .val (.int i2), .val (.int i3), .val (.int i4), .val (.int i5), .val (.int nn), .val (.int q0), .val (.int q1), .val (.int q2), .val (.int q3), .val (.int mm), .val (.ref a), .val (.int gg), .unset] [(.int (8 : Int32)), (.int (q1 + mm))])) _
      refine XS.icmpNo X0.here hx rfl (hb hby at_217) rfl (flt (h2 : ¬ ((q1 + mm) < (8 : Int32)))).1 ?_
      show Steps p.tables e below (T0.setTop (mkF m 220 #[.val (.int i0), .val (.int i1), .val (.int i2), .val (.int i3), .val (.int i4), .val (.int i5), .val (.int nn), .val (.int q0), .val (.int q1), .val (.int q2), .val (.int q3), .val (.int mm), .val (.ref a), .val (.int gg), .unset] [])) _
      refine XS.iconst X0.here hx rfl (hb hby at_220) ?_
      show Steps p.tables e below (T0.setTop (mkF m 221 #[.val (.int i0), .val (.int i1), .val (.int i2), .val (.int i3), .val (.int i4), .val (.int i5), .val (.int nn), .val (.int q0), .val (.int q1), .val (.int q2), .val (.int q3), .val (.int mm), .val (.ref a), .val (.int gg), .unset] [(.int (1 : Int32))])) _
      refine XS.istore X0.here hx rfl (hb hby at_221) rfl (l' := #[.val (.int i0), .val (.int i1), .val (.int i2), .val (.int i3), .val (.int i4), .val (.int i5), .val (.int nn), .val (.int q0), .val (.int q1), .val (.int q2), .val (.int q3), .val (.int mm), .val (.ref a), .val (.int gg), .val (.int (1 : Int32))]) rfl ?_
      show Steps p.tables e below (T0.setTop (mkF m 223 #[.val (.int i0), .val (.int i1), .val (.int i2), .val (.int i3), .val (.int i4), .val (.int i5), .val (.int nn), .val (.int q0), .val (.int q1), .val (.int q2), .val (.int q3), .val (.int mm), .val (.ref a), .val (.int gg), .val (.int (1 : Int32))] [])) _
      refine XS.goto X0.here hx rfl (pc0 := 223) (pc' := 273) rfl (hb hby at_223) (by decide) (by decide) ?_
      show Steps p.tables e below (T0.setTop (mkF m 273 #[.val (.int i0), .val (.int i1), .val (.int i2), .val (.int i3), .val (.int i4), .val (.int i5), .val (.int nn), .val (.int q0), .val (.int q1), .val (.int q2), .val (.int q3), .val (.int mm), .val (.ref a), .val (.int gg), .val (.int (1 : Int32))] [])) _
      exact tl_273 i0 i1 i2 i3 i4 i5 nn q0 q1 q2 q3 mm gg _ a X0 hx hby hret hr h
  · rw [if_neg (fun q => h1 q.1)] at h
    show Steps p.tables e below (T0.setTop (mkF m 204 #[.val (.int i0), .val (.int i1), .val (.int i2), .val (.int i3), .val (.int i4), .val (.int i5), .val (.int nn), .val (.int q0), .val (.int q1), .val (.int q2), .val (.int q3), .val (.int mm), .val (.ref a), .val (.int gg), .unset] [])) _
    refine XS.iload X0.here hx rfl (hb hby at_204) rfl ?_
    show Steps p.tables e below (T0.setTop (mkF m 206 #[.val (.int i0), .val (.int i1), .val (.int i2), .val (.int i3), .val (.int i4), .val (.int i5), .val (.int nn), .val (.int q0), .val (.int q1), .val (.int q2), .val (.int q3), .val (.int mm), .val (.ref a), .val (.int gg), .unset] [(.int nn)])) _
    refine XS.iconst X0.here hx rfl (hb hby at_206) ?_
    show Steps p.tables e below (T0.setTop (mkF m 207 #[.val (.int i0), .val (.int i1), .val (.int i2), .val (.int i3), .val (.int i4), .val (.int i5), .val (.int nn), .val (.int q0), .val (.int q1), .val (.int q2), .val (.int q3), .val (.int mm), .val (.ref a), .val (.int gg), .unset] [(.int (1 : Int32)), (.int nn)])) _
    refine XS.icmpYes X0.here hx rfl (pc0 := 207) (pc' := 226) rfl (hb hby at_207) rfl (flt (h1 : ¬ ((1 : Int32) < nn))).2.2.2 (by decide) (by decide) ?_
    show Steps p.tables e below (T0.setTop (mkF m 226 #[.val (.int i0), .val (.int i1), .val (.int i2), .val (.int i3), .val (.int i4), .val (.int i5), .val (.int nn), .val (.int q0), .val (.int q1), .val (.int q2), .val (.int q3), .val (.int mm), .val (.ref a), .val (.int gg), .unset] [])) _
    exact tl_226 i0 i1 i2 i3 i4 i5 nn q0 q1 q2 q3 mm gg a X0 hx hby hret hr h
set_option maxRecDepth 65536 in
set_option maxHeartbeats 40000000 in
theorem tl_183 {p : Program} {l : Launch} {e : Env} {R : Room} {s : State} {m : MethodId} {args : Array Value} {below : List Frame} {meth : Method} {c : Code} {T0 : State} {locs : List Loc} {cells slots : Nat} {fs : List Frame} (i0 i1 i2 i3 i4 i5 nn q0 q1 q2 q3 mm : Int32) (gg : Int32) (a : Addr) (X0 : Stand p l e R s m args below meth c T0 locs cells slots) (hx : p.tables.exec = Jvm.exec) (hby : c.code = code) (hret : meth.sig.returnType = some .boolean) (hr : ∀ (f : JFrame) (acts : List Action), f.method = m → f.locked = none → f.entered = [] → (doReturn e (T0.setTop f) acts (some (.int (1 : Int32)))).1 = T0.setFrames fs) (h : gg = (if (0 : Int32) < nn ∧ ¬ (q0 + mm < (8 : Int32)) then (0 : Int32) else (if (1 : Int32) < nn ∧ ¬ (q1 + mm < (8 : Int32)) then (1 : Int32) else (if (2 : Int32) < nn ∧ ¬ (q2 + mm < (8 : Int32)) then (2 : Int32) else (if (3 : Int32) < nn ∧ ¬ (q3 + mm < (8 : Int32)) then (3 : Int32) else (0 : Int32)))))) : Steps p.tables e below (T0.setTop (mkF m 183 #[.val (.int i0), .val (.int i1), .val (.int i2), .val (.int i3), .val (.int i4), .val (.int i5), .val (.int nn), .val (.int q0), .val (.int q1), .val (.int q2), .val (.int q3), .val (.int mm), .val (.ref a), .val (.int gg), .unset] [])) (T0.setFrames fs) := by
  by_cases h1 : (0 : Int32) < nn
  · by_cases h2 : (q0 + mm) < (8 : Int32)
    · rw [if_neg (fun q => q.2 h2)] at h
      show Steps p.tables e below (T0.setTop (mkF m 183 #[.val (.int i0), .val (.int i1), .val (.int i2), .val (.int i3), .val (.int i4), .val (.int i5), .val (.int nn), .val (.int q0), .val (.int q1), .val (.int q2), .val (.int q3), .val (.int mm), .val (.ref a), .val (.int gg), .unset] [])) _
      refine XS.iload X0.here hx rfl (hb hby at_183) rfl ?_
      show Steps p.tables e below (T0.setTop (mkF m 185 #[.val (.int i0), .val (.int i1), .val (.int i2), .val (.int i3), .val (.int i4), .val (.int i5), .val (.int nn), .val (.int q0), .val (.int q1), .val (.int q2), .val (.int q3), .val (.int mm), .val (.ref a), .val (.int gg), .unset] [(.int nn)])) _
      refine XS.ifNo X0.here hx rfl (hb hby at_185) rfl ((if0 _ _).trans (tlt (h1 : (0 : Int32) < nn)).2.2.2) ?_
      show Steps p.tables e below (T0.setTop (mkF m 188 #[.val (.int i0), .val (.int i1), .val (.int i2), .val (.int i3), .val (.int i4), .val (.int i5), .val (.int nn), .val (.int q0), .val (.int q1), .val (.int q2), .val (.int q3), .val (.int mm), .val (.ref a), .val (.int gg), .unset] [])) _
      refine XS.iload X0.here hx rfl (hb hby at_188) rfl ?_
      show Steps p.tables e below (T0.setTop (mkF m 190 #[.val (.int i0), .val (.int i1), .val (.int i2), .val (.int i3), .val (.int i4), .val (.int i5), .val (.int nn), .val (.int q0), .val (.int q1), .val (.int q2), .val (.int q3), .val (.int mm), .val (.ref a), .val (.int gg), .unset] [(.int q0)])) _
      refine XS.iload X0.here hx rfl (hb hby at_190) rfl ?_
      show Steps p.tables e below (T0.setTop (mkF m 192 #[.val (.int i0), .val (.int i1), .val (.int i2), .val (.int i3), .val (.int i4), .val (.int i5), .val (.int nn), .val (.int q0), .val (.int q1), .val (.int q2), .val (.int q3), .val (.int mm), .val (.ref a), .val (.int gg), .unset] [(.int mm), (.int q0)])) _
      refine XS.iadd X0.here hx rfl (hb hby at_192) rfl ?_
      show Steps p.tables e below (T0.setTop (mkF m 193 #[.val (.int i0), .val (.int i1), .val (.int i2), .val (.int i3), .val (.int i4), .val (.int i5), .val (.int nn), .val (.int q0), .val (.int q1), .val (.int q2), .val (.int q3), .val (.int mm), .val (.ref a), .val (.int gg), .unset] [(.int (q0 + mm))])) _
      refine XS.bipush X0.here hx rfl (hb hby at_193) ?_
      show Steps p.tables e below (T0.setTop (mkF m 195 #[.val (.int i0), .val (.int i1), .val (.int i2), .val (.int i3), .val (.int i4), .val (.int i5), .val (.int nn), .val (.int q0), .val (.int q1), .val (.int q2), .val (.int q3), .val (.int mm), .val (.ref a), .val (.int gg), .unset] [(.int (8 : Int32)), (.int (q0 + mm))])) _
      refine XS.icmpYes X0.here hx rfl (pc0 := 195) (pc' := 204) rfl (hb hby at_195) rfl (tlt (h2 : (q0 + mm) < (8 : Int32))).1 (by decide) (by decide) ?_
      show Steps p.tables e below (T0.setTop (mkF m 204 #[.val (.int i0), .val (.int i1), .val (.int i2), .val (.int i3), .val (.int i4), .val (.int i5), .val (.int nn), .val (.int q0), .val (.int q1), .val (.int q2), .val (.int q3), .val (.int mm), .val (.ref a), .val (.int gg), .unset] [])) _
      exact tl_204 i0 i1 i2 i3 i4 i5 nn q0 q1 q2 q3 mm gg a X0 hx hby hret hr h
    · rw [if_pos ⟨h1, h2⟩] at h
      show Steps p.tables e below (T0.setTop (mkF m 183 #[.val (.int i0), .val (.int i1), .val (.int i2), .val (.int i3), .val (.int i4), .val (.int i5), .val (.int nn), .val (.int q0), .val (.int q1), .val (.int q2), .val (.int q3), .val (.int mm), .val (.ref a), .val (.int gg), .unset] [])) _
      refine XS.iload X0.here hx rfl (hb hby at_183) rfl ?_
      show Steps p.tables e below (T0.setTop (mkF m 185 #[.val (.int i0), .val (.int i1), .val (.int i2), .val (.int i3), .val (.int i4), .val (.int i5), .val (.int nn), .val (.int q0), .val (.int q1), .val (.int q2), .val (.int q3), .val (.int mm), .val (.ref a), .val (.int gg), .unset] [(.int nn)])) _
      refine XS.ifNo X0.here hx rfl (hb hby at_185) rfl ((if0 _ _).trans (tlt (h1 : (0 : Int32) < nn)).2.2.2) ?_
      show Steps p.tables e below (T0.setTop (mkF m 188 #[.val (.int i0), .val (.int i1), .val (.int i2), .val (.int i3), .val (.int i4), .val (.int i5), .val (.int nn), .val (.int q0), .val (.int q1), .val (.int q2), .val (.int q3), .val (.int mm), .val (.ref a), .val (.int gg), .unset] [])) _
      refine XS.iload X0.here hx rfl (hb hby at_188) rfl ?_
      show Steps p.tables e below (T0.setTop (mkF m 190 #[.val (.int i0), .val (.int i1), .val (.int i2), .val (.int i3), .val (.int i4), .val (.int i5), .val (.int nn), .val (.int q0), .val (.int q1), .val (.int q2), .val (.int q3), .val (.int mm), .val (.ref a), .val (.int gg), .unset] [(.int q0)])) _
      refine XS.iload X0.here hx rfl (hb hby at_190) rfl ?_
      show Steps p.tables e below (T0.setTop (mkF m 192 #[.val (.int i0), .val (.int i1), .val (.int i2), .val (.int i3), .val (.int i4), .val (.int i5), .val (.int nn), .val (.int q0), .val (.int q1), .val (.int q2), .val (.int q3), .val (.int mm), .val (.ref a), .val (.int gg), .unset] [(.int mm), (.int q0)])) _
      refine XS.iadd X0.here hx rfl (hb hby at_192) rfl ?_
      show Steps p.tables e below (T0.setTop (mkF m 193 #[.val (.int i0), .val (.int i1), .val (.int i2), .val (.int i3), .val (.int i4), .val (.int i5), .val (.int nn), .val (.int q0), .val (.int q1), .val (.int q2), .val (.int q3), .val (.int mm), .val (.ref a), .val (.int gg), .unset] [(.int (q0 + mm))])) _
      refine XS.bipush X0.here hx rfl (hb hby at_193) ?_
      show Steps p.tables e below (T0.setTop (mkF m 195 #[.val (.int i0), .val (.int i1), .val (.int i2), .val (.int i3), .val (.int i4), .val (.int i5), .val (.int nn), .val (.int q0), .val (.int q1), .val (.int q2), .val (.int q3), .val (.int mm), .val (.ref a), .val (.int gg), .unset] [(.int (8 : Int32)), (.int (q0 + mm))])) _
      refine XS.icmpNo X0.here hx rfl (hb hby at_195) rfl (flt (h2 : ¬ ((q0 + mm) < (8 : Int32)))).1 ?_
      show Steps p.tables e below (T0.setTop (mkF m 198 #[.val (.int i0), .val (.int i1), .val (.int i2), .val (.int i3), .val (.int i4), .val (.int i5), .val (.int nn), .val (.int q0), .val (.int q1), .val (.int q2), .val (.int q3), .val (.int mm), .val (.ref a), .val (.int gg), .unset] [])) _
      refine XS.iconst X0.here hx rfl (hb hby at_198) ?_
      show Steps p.tables e below (T0.setTop (mkF m 199 #[.val (.int i0), .val (.int i1), .val (.int i2), .val (.int i3), .val (.int i4), .val (.int i5), .val (.int nn), .val (.int q0), .val (.int q1), .val (.int q2), .val (.int q3), .val (.int mm), .val (.ref a), .val (.int gg), .unset] [(.int (0 : Int32))])) _
      refine XS.istore X0.here hx rfl (hb hby at_199) rfl (l' := #[.val (.int i0), .val (.int i1), .val (.int i2), .val (.int i3), .val (.int i4), .val (.int i5), .val (.int nn), .val (.int q0), .val (.int q1), .val (.int q2), .val (.int q3), .val (.int mm), .val (.ref a), .val (.int gg), .val (.int (0 : Int32))]) rfl ?_
      show Steps p.tables e below (T0.setTop (mkF m 201 #[.val (.int i0), .val (.int i1), .val (.int i2), .val (.int i3), .val (.int i4), .val (.int i5), .val (.int nn), .val (.int q0), .val (.int q1), .val (.int q2), .val (.int q3), .val (.int mm), .val (.ref a), .val (.int gg), .val (.int (0 : Int32))] [])) _
      refine XS.goto X0.here hx rfl (pc0 := 201) (pc' := 273) rfl (hb hby at_201) (by decide) (by decide) ?_
      show Steps p.tables e below (T0.setTop (mkF m 273 #[.val (.int i0), .val (.int i1), .val (.int i2), .val (.int i3), .val (.int i4), .val (.int i5), .val (.int nn), .val (.int q0), .val (.int q1), .val (.int q2), .val (.int q3), .val (.int mm), .val (.ref a), .val (.int gg), .val (.int (0 : Int32))] [])) _
      exact tl_273 i0 i1 i2 i3 i4 i5 nn q0 q1 q2 q3 mm gg _ a X0 hx hby hret hr h
  · rw [if_neg (fun q => h1 q.1)] at h
    show Steps p.tables e below (T0.setTop (mkF m 183 #[.val (.int i0), .val (.int i1), .val (.int i2), .val (.int i3), .val (.int i4), .val (.int i5), .val (.int nn), .val (.int q0), .val (.int q1), .val (.int q2), .val (.int q3), .val (.int mm), .val (.ref a), .val (.int gg), .unset] [])) _
    refine XS.iload X0.here hx rfl (hb hby at_183) rfl ?_
    show Steps p.tables e below (T0.setTop (mkF m 185 #[.val (.int i0), .val (.int i1), .val (.int i2), .val (.int i3), .val (.int i4), .val (.int i5), .val (.int nn), .val (.int q0), .val (.int q1), .val (.int q2), .val (.int q3), .val (.int mm), .val (.ref a), .val (.int gg), .unset] [(.int nn)])) _
    refine XS.ifYes X0.here hx rfl (pc0 := 185) (pc' := 204) rfl (hb hby at_185) rfl ((if0 _ _).trans (flt (h1 : ¬ ((0 : Int32) < nn))).2.2.2) (by decide) (by decide) ?_
    show Steps p.tables e below (T0.setTop (mkF m 204 #[.val (.int i0), .val (.int i1), .val (.int i2), .val (.int i3), .val (.int i4), .val (.int i5), .val (.int nn), .val (.int q0), .val (.int q1), .val (.int q2), .val (.int q3), .val (.int mm), .val (.ref a), .val (.int gg), .unset] [])) _
    exact tl_204 i0 i1 i2 i3 i4 i5 nn q0 q1 q2 q3 mm gg a X0 hx hby hret hr h
theorem own_and7 (x : Int32) : 0 ≤ (x &&& (7 : Int32)).toInt ∧ (x &&& (7 : Int32)).toInt ≤ 7 := c_and x 7 (by decide)
theorem own_n (x : Int32) : 0 ≤ ((x &&& (2147483647 : Int32)) % (5 : Int32)).toInt ∧ ((x &&& (2147483647 : Int32)) % (5 : Int32)).toInt ≤ 4 := by
  have h := c_and x (2147483647 : Int32) (by decide)
  have h2 := (c_iremV (x &&& (2147483647 : Int32)) 5).1 h.1 (by decide)
  have h5 : (5 : Int32).toInt = 5 := by decide
  omega
theorem own_m (x : Int32) : -16 ≤ (x % (17 : Int32)).toInt ∧ (x % (17 : Int32)).toInt ≤ 16 := by
  have h17 : (17 : Int32).toInt = 17 := by decide
  have h1 := (c_iremV x 17).1
  have h2 := (c_iremV x 17).2
  by_cases h : 0 ≤ x.toInt
  · have := h1 h (by decide); omega
  · have := h2 (by omega) (by decide); omega
theorem own_next (q y : Int32) (h0 : 0 ≤ q.toInt) (h7 : q.toInt ≤ 7) : ((8 : Int32) - q) ≠ 0 ∧ q.toInt ≤ (q + ((y &&& (7 : Int32)) % ((8 : Int32) - q))).toInt ∧ (q + ((y &&& (7 : Int32)) % ((8 : Int32) - q))).toInt ≤ 7 := by
  have h8 : (8 : Int32).toInt = 8 := by decide
  have hy := own_and7 y
  have hs := c_isub 8 q
  have hr := rng32 (8 - q)
  have e1 : ((8 : Int32) - q).toInt = 8 - q.toInt := by omega
  have hm := (c_iremV (y &&& 7) (8 - q)).1 hy.1 (by omega)
  have ha := c_iadd q ((y &&& 7) % (8 - q))
  have hr2 := rng32 (q + (y &&& 7) % (8 - q))
  refine ⟨fun h => ?_, ?_, ?_⟩
  · rw [h] at e1; have : (0 : Int32).toInt = 0 := by decide
    omega
  · omega
  · omega
theorem own_passT : ∀ (a : Fin 8) (b : Fin 33), NoNaN64 (FP.dadd (own_d8 (Int32.ofNat a.1)) (own_d8 (Int32.ofNat b.1 - 16))) ∧ (cmpValue (FP.dcmp (FP.dadd (own_d8 (Int32.ofNat a.1)) (own_d8 (Int32.ofNat b.1 - 16))) (4607182418800017408 : UInt64)) .g < (0 : Int32) ↔ Int32.ofNat a.1 + (Int32.ofNat b.1 - 16) < (8 : Int32)) := by
  unfold NoNaN64
  decide +kernel
theorem own_pass (q mm : Int32) (h0 : 0 ≤ q.toInt) (h7 : q.toInt ≤ 7) (m1 : -16 ≤ mm.toInt) (m2 : mm.toInt ≤ 16) : NoNaN64 (FP.dadd (own_d8 q) (own_d8 mm)) ∧ (cmpValue (FP.dcmp (FP.dadd (own_d8 q) (own_d8 mm)) (4607182418800017408 : UInt64)) .g < (0 : Int32) ↔ q + mm < (8 : Int32)) := by
  obtain ⟨a, ha⟩ : ∃ a : Nat, q.toInt = (a : Int) := ⟨q.toInt.toNat, by omega⟩
  obtain ⟨b, hb⟩ : ∃ b : Nat, mm.toInt + 16 = (b : Int) := ⟨(mm.toInt + 16).toNat, by omega⟩
  have e1 : q = Int32.ofNat a := Int32.toInt_inj.mp (by rw [ha, Int32.toInt_ofNat_of_lt (by omega)])
  have e2 : mm = Int32.ofNat b - 16 := Int32.toInt_inj.mp (by
    have hs := c_isub (Int32.ofNat b) 16
    have hr := rng32 (Int32.ofNat b - 16)
    have h16 : (16 : Int32).toInt = 16 := by decide
    rw [Int32.toInt_ofNat_of_lt (by omega)] at hs
    omega)
  rw [e1, e2]
  exact own_passT ⟨a, by omega⟩ ⟨b, by omega⟩
theorem own_lt8 (q mm : Int32) (h0 : 0 ≤ q.toInt) (h7 : q.toInt ≤ 7) (m1 : -16 ≤ mm.toInt) (m2 : mm.toInt ≤ 16) : (q + mm < (8 : Int32)) ↔ q.toInt + mm.toInt < 8 := by
  have ha := c_iadd q mm
  have hr := rng32 (q + mm)
  have h8 : (8 : Int32).toInt = 8 := by decide
  rw [Int32.lt_iff_toInt_lt]
  omega
theorem own_got (nn q0 q1 q2 q3 mm : Int32) (N r : Nat) (hN : nn.toInt = (N : Int)) (hN4 : N ≤ 4) (P : Nat → Prop) (h0 : P 0 ↔ q0 + mm < (8 : Int32)) (h1 : P 1 ↔ q1 + mm < (8 : Int32)) (h2 : P 2 ↔ q2 + mm < (8 : Int32)) (h3 : P 3 ↔ q3 + mm < (8 : Int32))
    (h : (r < N ∧ ¬ P r ∧ ∀ i, i < r → P i) ∨ (r = 0 ∧ ∀ i, i < N → P i)) : Int32.ofNat r = (if (0 : Int32) < nn ∧ ¬ (q0 + mm < (8 : Int32)) then (0 : Int32) else (if (1 : Int32) < nn ∧ ¬ (q1 + mm < (8 : Int32)) then (1 : Int32) else (if (2 : Int32) < nn ∧ ¬ (q2 + mm < (8 : Int32)) then (2 : Int32) else (if (3 : Int32) < nn ∧ ¬ (q3 + mm < (8 : Int32)) then (3 : Int32) else (0 : Int32))))) := by
  have k0 : (0 : Int32) < nn ↔ 0 < N := by rw [Int32.lt_iff_toInt_lt, hN]; show ((0 : Int) < (N : Int)) ↔ _; omega
  have k1 : (1 : Int32) < nn ↔ 1 < N := by rw [Int32.lt_iff_toInt_lt, hN]; show ((1 : Int) < (N : Int)) ↔ _; omega
  have k2 : (2 : Int32) < nn ↔ 2 < N := by rw [Int32.lt_iff_toInt_lt, hN]; show ((2 : Int) < (N : Int)) ↔ _; omega
  have k3 : (3 : Int32) < nn ↔ 3 < N := by rw [Int32.lt_iff_toInt_lt, hN]; show ((3 : Int) < (N : Int)) ↔ _; omega
  rcases h with ⟨a, b, c⟩ | ⟨rfl, c⟩
  · match r, a, b, c with
    | 0, a, b, c => rw [if_pos ⟨k0.mpr a, fun q => b (h0.mpr q)⟩]; decide
    | 1, a, b, c => rw [if_neg (fun q => q.2 (h0.mp (c 0 (by omega)))), if_pos ⟨k1.mpr a, fun q => b (h1.mpr q)⟩]; decide
    | 2, a, b, c => rw [if_neg (fun q => q.2 (h0.mp (c 0 (by omega)))), if_neg (fun q => q.2 (h1.mp (c 1 (by omega)))), if_pos ⟨k2.mpr a, fun q => b (h2.mpr q)⟩]; decide
    | 3, a, b, c => rw [if_neg (fun q => q.2 (h0.mp (c 0 (by omega)))), if_neg (fun q => q.2 (h1.mp (c 1 (by omega)))), if_neg (fun q => q.2 (h2.mp (c 2 (by omega)))), if_pos ⟨k3.mpr a, fun q => b (h3.mpr q)⟩]; decide
    | r + 4, a, b, c => omega
  · rw [if_neg (fun q => q.2 (h0.mp (c 0 (k0.mp q.1)))), if_neg (fun q => q.2 (h1.mp (c 1 (k1.mp q.1)))), if_neg (fun q => q.2 (h2.mp (c 2 (k2.mp q.1)))), if_neg (fun q => q.2 (h3.mp (c 3 (k3.mp q.1))))]; decide
theorem own_up (q0 q1 q2 q3 : Int32) (b1 : q0.toInt ≤ q1.toInt) (b2 : q1.toInt ≤ q2.toInt) (b3 : q2.toInt ≤ q3.toInt) : ∀ i j, i ≤ j → j < 4 → (own_q q0 q1 q2 q3 i).toInt ≤ (own_q q0 q1 q2 q3 j).toInt := by
  intro i j h1 h2
  match i, j, h1, h2 with
  | 0, 0, _, _ => exact Int.le_refl _
  | 0, 1, _, _ => exact b1
  | 0, 2, _, _ => exact Int.le_trans b1 b2
  | 0, 3, _, _ => exact Int.le_trans (Int.le_trans b1 b2) b3
  | 1, 1, _, _ => exact Int.le_refl _
  | 1, 2, _, _ => exact b2
  | 1, 3, _, _ => exact Int.le_trans b2 b3
  | 2, 2, _, _ => exact Int.le_refl _
  | 2, 3, _, _ => exact b3
  | 3, 3, _, _ => exact Int.le_refl _
  | i, j + 4, _, h2 => exact absurd h2 (by omega)
  | i + 1, 0, h1, _ => exact absurd h1 (by omega)
  | i + 2, 1, h1, _ => exact absurd h1 (by omega)
  | i + 3, 2, h1, _ => exact absurd h1 (by omega)
  | i + 4, 3, h1, _ => exact absurd h1 (by omega)
theorem ef_0 (m : MethodId) (i0 i1 i2 i3 i4 i5 : Int32) : entryFrame m #[(.int i0), (.int i1), (.int i2), (.int i3), (.int i4), (.int i5)] maxLocals = mkF m 0 #[.val (.int i0), .val (.int i1), .val (.int i2), .val (.int i3), .val (.int i4), .val (.int i5), .unset, .unset, .unset, .unset, .unset, .unset, .unset, .unset, .unset] [] := by first | (simp [entryFrame, mkF, argsToLocals, Value.category, maxLocals]; done) | rfl
def Q0 (n0 : Nat) (v : Option Value) (h : Heap) (L : List Loc) : Prop := v = some (.int (1 : Int32)) ∧ Fr n0 L
set_option maxRecDepth 65536 in
set_option maxHeartbeats 40000000 in
theorem rm0 (l : Launch) (Z : State) (a0 : Array Value) (hw : ∀ d ∈ tables_1, d.before a0 Z = true) (ws : List Jvm.Cond) (i0 i1 i2 i3 i4 i5 : Int32) (h0 : Heap) (n0 : Nat) (Z0 : n0 ≤ h0.size) :
    MetFree l x (head1 (Jvm.Cond.code x code maxLocals ret :: ws) room_1) (fun aU U => aU = #[(.int i0), (.int i1), (.int i2), (.int i3), (.int i4), (.int i5)] ∧ Z.Warmed39 U.vm ∧ U.heap = h0) (fun _ _ _ _ _ => True) (fun _ U o U' => ∃ v L, o = .returned v ∧ Q0 n0 v U'.heap L ∧ FrameEnd U o U' L 24 320) := by
  obtain ⟨nn, hnn⟩ : ∃ z : Int32, ((i0 &&& (2147483647 : Int32)) % (5 : Int32)) = z := ⟨_, rfl⟩
  obtain ⟨q0, hq0⟩ : ∃ z : Int32, (i1 &&& (7 : Int32)) = z := ⟨_, rfl⟩
  obtain ⟨q1, hq1⟩ : ∃ z : Int32, (q0 + ((i2 &&& (7 : Int32)) % ((8 : Int32) - q0))) = z := ⟨_, rfl⟩
  obtain ⟨q2, hq2⟩ : ∃ z : Int32, (q1 + ((i3 &&& (7 : Int32)) % ((8 : Int32) - q1))) = z := ⟨_, rfl⟩
  obtain ⟨q3, hq3⟩ : ∃ z : Int32, (q2 + ((i4 &&& (7 : Int32)) % ((8 : Int32) - q2))) = z := ⟨_, rfl⟩
  obtain ⟨mm, hmm⟩ : ∃ z : Int32, (i5 % (17 : Int32)) = z := ⟨_, rfl⟩
  have bn := own_n i0
  rw [hnn] at bn
  have b0 := own_and7 i1
  rw [hq0] at b0
  obtain ⟨hz1, b1, c1⟩ := own_next q0 i2 b0.1 b0.2
  rw [hq1] at b1 c1
  obtain ⟨hz2, b2, c2⟩ := own_next q1 i3 (Int.le_trans b0.1 b1) c1
  rw [hq2] at b2 c2
  obtain ⟨hz3, b3, c3⟩ := own_next q2 i4 (Int.le_trans (Int.le_trans b0.1 b1) b2) c2
  rw [hq3] at b3 c3
  have bm := own_m i5
  rw [hmm] at bm
  obtain ⟨N, hN⟩ : ∃ N : Nat, nn.toInt = (N : Int) := ⟨nn.toInt.toNat, by omega⟩
  have hN4 : N ≤ 4 := by omega
  have p0 := own_pass q0 mm b0.1 b0.2 bm.1 bm.2
  have t0 := own_lt8 q0 mm b0.1 b0.2 bm.1 bm.2
  have p1 := own_pass q1 mm (Int.le_trans b0.1 b1) c1 bm.1 bm.2
  have t1 := own_lt8 q1 mm (Int.le_trans b0.1 b1) c1 bm.1 bm.2
  have p2 := own_pass q2 mm (Int.le_trans (Int.le_trans b0.1 b1) b2) c2 bm.1 bm.2
  have t2 := own_lt8 q2 mm (Int.le_trans (Int.le_trans b0.1 b1) b2) c2 bm.1 bm.2
  have p3 := own_pass q3 mm (Int.le_trans (Int.le_trans (Int.le_trans b0.1 b1) b2) b3) c3 bm.1 bm.2
  have t3 := own_lt8 q3 mm (Int.le_trans (Int.le_trans (Int.le_trans b0.1 b1) b2) b3) c3 bm.1 bm.2
  have hnan : ∀ i, i < N → NoNaN64 (FP.dadd (own_xs q0 q1 q2 q3 i) (own_d8 mm)) := fun i hi => match i, hi with
    | 0, _ => p0.1
    | 1, _ => p1.1
    | 2, _ => p2.1
    | 3, _ => p3.1
    | i + 4, hi => absurd hi (by omega)
  have hlt : ∀ i, i < 4 → (own_lt (own_xs q0 q1 q2 q3) (own_d8 mm) i ↔ (own_q q0 q1 q2 q3 i).toInt + mm.toInt < 8) := fun i hi => match i, hi with
    | 0, _ => p0.2.trans t0
    | 1, _ => p1.2.trans t1
    | 2, _ => p2.2.trans t2
    | 3, _ => p3.2.trans t3
    | i + 4, hi => absurd hi (by omega)
  have hup : ∀ i j, i ≤ j → j < 4 → (own_q q0 q1 q2 q3 i).toInt ≤ (own_q q0 q1 q2 q3 j).toInt := own_up q0 q1 q2 q3 b1 b2 b3
  have hmono : ∀ i j, i ≤ j → j < N → ¬ own_lt (own_xs q0 q1 q2 q3) (own_d8 mm) i → ¬ own_lt (own_xs q0 q1 q2 q3) (own_d8 mm) j := fun i j h1 h2 h3 => by rw [hlt j (by omega)]; rw [hlt i (by omega)] at h3; have := hup i j h1 (by omega); omega
  refine MetFree.of_bodySF (plainFor_of_name pn_L) hisR ?_
  intro p e s m args below meth c s₁ Bd hml0 hP hK
  obtain ⟨rfl, hZ, hh⟩ := hP
  have hx := Bd.exec
  have hby := Bd.bytes
  have hml : c.maxLocals = 15 := hml0
  have hown : s.vm.findClass "com/example/tidewise/tidewise/plan/HeldPlansFirstPassingPinLaw" = some m.cls := findClass_of_methodNamed Bd.named
  have hnm := (name_of_methodNamed Bd.named Bd.method).1
  have X0 : Stand p l e room_1 s m #[(.int i0), (.int i1), (.int i2), (.int i3), (.int i4), (.int i5)] below meth c s₁ [] 0 0 := Stand.of_body Bd
  have e0 : s₁.heap = h0 := by rw [← hh, Bd.state]; rfl
  have N0 := Fr.nil n0
  have pre0 : ∀ t, Steps p.tables e below (s₁.setTop (mkF m 0 #[.val (.int i0), .val (.int i1), .val (.int i2), .val (.int i3), .val (.int i4), .val (.int i5), .unset, .unset, .unset, .unset, .unset, .unset, .unset, .unset, .unset] [])) t → Steps p.tables e below (s₁.setTop (entryFrame m #[(.int i0), (.int i1), (.int i2), (.int i3), (.int i4), (.int i5)] maxLocals)) t := fun t k => castTop (ef_0 m i0 i1 i2 i3 i4 i5) k
  obtain ⟨T2, h2, X2, e2, E2, A2, D2, -, st2⟩ := newO X0 hx hZ hown (hw _ (List.mem_of_getElem? (i := 1) rfl)) (hw _ (List.mem_of_getElem? (i := 2) rfl)) (hw _ (List.mem_of_getElem? (i := 3) rfl)) e0 (g := (mkF m 67 #[.val (.int i0), .val (.int i1), .val (.int i2), .val (.int i3), .val (.int i4), .val (.int i5), .val (.int nn), .val (.int q0), .val (.int q1), .val (.int q2), .val (.int q3), .val (.int mm), .unset, .unset, .unset] [])) rfl (hb hby at_67) (by decide) (by decide)
  obtain ⟨a, g2⟩ : ∃ z, z = h0.size := ⟨_, rfl⟩
  rw [← g2] at A2 D2 st2
  have F_leastLost : Fld Z h2 a "com/example/tidewise/tidewise/plan/HeldPlans" "leastLost" "D" (.double (0 : UInt64)) := D2 (Or.inl (hw _ (List.mem_of_getElem? (i := 12) rfl)) : Laid Z a0 "com/example/tidewise/tidewise/plan/HeldPlans" "com/example/tidewise/tidewise/plan/HeldPlans" "leastLost" "D") (ty := .double) (by decide)
  have F_leastValue : Fld Z h2 a "com/example/tidewise/tidewise/plan/HeldPlans" "leastValue" "D" (.double (0 : UInt64)) := D2 (Or.inl (hw _ (List.mem_of_getElem? (i := 14) rfl)) : Laid Z a0 "com/example/tidewise/tidewise/plan/HeldPlans" "com/example/tidewise/tidewise/plan/HeldPlans" "leastValue" "D") (ty := .double) (by decide)
  have F_mostValue : Fld Z h2 a "com/example/tidewise/tidewise/plan/HeldPlans" "mostValue" "D" (.double (0 : UInt64)) := D2 (Or.inl (hw _ (List.mem_of_getElem? (i := 17) rfl)) : Laid Z a0 "com/example/tidewise/tidewise/plan/HeldPlans" "com/example/tidewise/tidewise/plan/HeldPlans" "mostValue" "D") (ty := .double) (by decide)
  have F_fewestWhole : Fld Z h2 a "com/example/tidewise/tidewise/plan/HeldPlans" "fewestWhole" "D" (.double (0 : UInt64)) := D2 (Or.inl (hw _ (List.mem_of_getElem? (i := 19) rfl)) : Laid Z a0 "com/example/tidewise/tidewise/plan/HeldPlans" "com/example/tidewise/tidewise/plan/HeldPlans" "fewestWhole" "D") (ty := .double) (by decide)
  have F_mostWhole : Fld Z h2 a "com/example/tidewise/tidewise/plan/HeldPlans" "mostWhole" "D" (.double (0 : UInt64)) := D2 (Or.inl (hw _ (List.mem_of_getElem? (i := 21) rfl)) : Laid Z a0 "com/example/tidewise/tidewise/plan/HeldPlans" "com/example/tidewise/tidewise/plan/HeldPlans" "mostWhole" "D") (ty := .double) (by decide)
  have F_whole : Fld Z h2 a "com/example/tidewise/tidewise/plan/HeldPlans" "whole" "[D" .null := D2 (Or.inl (hw _ (List.mem_of_getElem? (i := 24) rfl)) : Laid Z a0 "com/example/tidewise/tidewise/plan/HeldPlans" "com/example/tidewise/tidewise/plan/HeldPlans" "whole" "[D") (ty := (.array .double)) (by decide)
  have F_part : Fld Z h2 a "com/example/tidewise/tidewise/plan/HeldPlans" "part" "[D" .null := D2 (Or.inl (hw _ (List.mem_of_getElem? (i := 26) rfl)) : Laid Z a0 "com/example/tidewise/tidewise/plan/HeldPlans" "com/example/tidewise/tidewise/plan/HeldPlans" "part" "[D") (ty := (.array .double)) (by decide)
  have F_value : Fld Z h2 a "com/example/tidewise/tidewise/plan/HeldPlans" "value" "[D" .null := D2 (Or.inl (hw _ (List.mem_of_getElem? (i := 28) rfl)) : Laid Z a0 "com/example/tidewise/tidewise/plan/HeldPlans" "com/example/tidewise/tidewise/plan/HeldPlans" "value" "[D") (ty := (.array .double)) (by decide)
  have F_lost : Fld Z h2 a "com/example/tidewise/tidewise/plan/HeldPlans" "lost" "[D" .null := D2 (Or.inl (hw _ (List.mem_of_getElem? (i := 30) rfl)) : Laid Z a0 "com/example/tidewise/tidewise/plan/HeldPlans" "com/example/tidewise/tidewise/plan/HeldPlans" "lost" "[D") (ty := (.array .double)) (by decide)
  have F_mask : Fld Z h2 a "com/example/tidewise/tidewise/plan/HeldPlans" "mask" "[J" .null := D2 (Or.inl (hw _ (List.mem_of_getElem? (i := 33) rfl)) : Laid Z a0 "com/example/tidewise/tidewise/plan/HeldPlans" "com/example/tidewise/tidewise/plan/HeldPlans" "mask" "[J") (ty := (.array .long)) (by decide)
  have F_origin : Fld Z h2 a "com/example/tidewise/tidewise/plan/HeldPlans" "origin" "[I" .null := D2 (Or.inl (hw _ (List.mem_of_getElem? (i := 36) rfl)) : Laid Z a0 "com/example/tidewise/tidewise/plan/HeldPlans" "com/example/tidewise/tidewise/plan/HeldPlans" "origin" "[I") (ty := (.array .int)) (by decide)
  have F_upPerVm : Fld Z h2 a "com/example/tidewise/tidewise/plan/HeldPlans" "upPerVm" "D" (.double (0 : UInt64)) := D2 (Or.inr (hw _ (List.mem_of_getElem? (i := 38) rfl)) : Laid Z a0 "com/example/tidewise/tidewise/plan/HeldPlans" "com/example/tidewise/tidewise/plan/HeldPlans" "upPerVm" "D") (ty := .double) (by decide)
  have F_downPerVm : Fld Z h2 a "com/example/tidewise/tidewise/plan/HeldPlans" "downPerVm" "D" (.double (0 : UInt64)) := D2 (Or.inr (hw _ (List.mem_of_getElem? (i := 40) rfl)) : Laid Z a0 "com/example/tidewise/tidewise/plan/HeldPlans" "com/example/tidewise/tidewise/plan/HeldPlans" "downPerVm" "D") (ty := .double) (by decide)
  have F_size : Fld Z h2 a "com/example/tidewise/tidewise/plan/HeldPlans" "size" "I" (.int (0 : Int32)) := D2 (Or.inl (hw _ (List.mem_of_getElem? (i := 48) rfl)) : Laid Z a0 "com/example/tidewise/tidewise/plan/HeldPlans" "com/example/tidewise/tidewise/plan/HeldPlans" "size" "I") (ty := .int) (by decide)
  have ga : n0 ≤ a := Nat.le_trans Z0 (Nat.le_of_eq g2.symm)
  have Z2 : n0 ≤ h2.size := Nat.le_trans Z0 E2.1
  obtain ⟨_, _, ⟨T3, L3, k3, n3⟩, -, X3, ⟨Lc3, hQ3, l3, y3, z3⟩, st3⟩ := X2.specialBack hx (y := (⟨"com/example/tidewise/tidewise/plan/HeldPlans", "<init>", "(DD)V"⟩ : MethodName)) rfl hown (mvT hZ (hw _ (List.mem_of_getElem? (i := 4) rfl))) (mvT hZ (hw _ (List.mem_of_getElem? (i := 5) rfl))) (mvT hZ (hw _ (List.mem_of_getElem? (i := 6) rfl))) (by decide) (backOf (W := 1) (rm1 l Z a0 hw [] a (4607182418800017408 : UInt64) (4607182418800017408 : UInt64) h2 n0 Z2 F_leastLost F_leastValue F_mostValue F_fewestWhole F_mostWhole F_whole F_part F_value F_lost F_mask F_origin F_upPerVm F_downPerVm F_size A2 ga) hZ (hw _ (List.mem_of_getElem? (i := 6) rfl)) (hw _ (List.mem_of_getElem? (i := 3) rfl)) (by decide) (by decide)) (g := (mkF m 73 #[.val (.int i0), .val (.int i1), .val (.int i2), .val (.int i3), .val (.int i4), .val (.int i5), .val (.int nn), .val (.int q0), .val (.int q1), .val (.int q2), .val (.int q3), .val (.int mm), .unset, .unset, .unset] [(.double (4607182418800017408 : UInt64)), (.double (4607182418800017408 : UInt64)), (.ref a), (.ref a)])) rfl (by rw [hml]; rfl) (Steps.refl _) (a := a) (argsL := [(.double (4607182418800017408 : UInt64)), (.double (4607182418800017408 : UInt64))]) (rest := [(.ref a)]) (lenOf pd_init rfl) rfl (by show 2 * 0 + _ ≤ _; exact Nat.le_of_eq rfl) (hb hby at_73) (fun _ _ => ⟨rfl, e2, (by decide : 1 + 6 ≤ _), (by decide : 14 + 96 ≤ _)⟩)
  dsimp only [Pt.U, Pt.locs, Pt.cells, Pt.slots] at X3 l3 y3 z3 st3 hQ3
  subst l3 y3 z3
  obtain ⟨rfl, N3, I3⟩ := hQ3
  have N4 := Fr.app N0 N3
  have X3' : Stand p l e room_1 s m _ below meth c T3 _ 7 110 := X3
  have J0 : Inv Z T3.heap n0 a (Int32.ofNat (min N 0)) (own_pl (own_xs q0 q1 q2 q3) (min N 0)) := by rw [Nat.min_eq_right (Nat.zero_le N), own_pl_zero]; exact I3
  obtain ⟨TS0, LS0, XS0, J1, NS0, sts0⟩ := seg_0 i0 i1 i2 i3 i4 i5 nn q0 q1 q2 q3 mm a n0 N X3' hx hZ hw hby hml hown hN hN4 J0 N4
  obtain ⟨TS1, LS1, XS1, J2, NS1, sts1⟩ := seg_1 i0 i1 i2 i3 i4 i5 nn q0 q1 q2 q3 mm a n0 N XS0 hx hZ hw hby hml hown hN hN4 J1 NS0
  obtain ⟨TS2, LS2, XS2, J3, NS2, sts2⟩ := seg_2 i0 i1 i2 i3 i4 i5 nn q0 q1 q2 q3 mm a n0 N XS1 hx hZ hw hby hml hown hN hN4 J2 NS1
  obtain ⟨TS3, LS3, XS3, J4, NS3, sts3⟩ := seg_3 i0 i1 i2 i3 i4 i5 nn q0 q1 q2 q3 mm a n0 N XS2 hx hZ hw hby hml hown hN hN4 J3 NS2
  rw [Nat.min_eq_left hN4] at J4
  obtain ⟨cq, kq, qa, qb, qc⟩ := isOf hZ rfl (own_inv_exa J4)
  obtain ⟨_, _, ⟨T5, L5, k5, n5⟩, -, X5, ⟨Lc5, hQ5, l5, y5, z5⟩, st5⟩ := XS3.virtualBack hx (y := (⟨"com/example/tidewise/tidewise/plan/HeldPlans", "firstPassing", "(D)I"⟩ : MethodName)) (z := (⟨"com/example/tidewise/tidewise/plan/HeldPlans", "firstPassing", "(D)I"⟩ : MethodName)) hown (mvT hZ (hw _ (List.mem_of_getElem? (i := 42) rfl))) (mvT hZ (hw _ (List.mem_of_getElem? (i := 43) rfl))) (notFace_of_selects (args := #[]) (mvT hZ (hw _ (List.mem_of_getElem? (i := 45) rfl)))) (mvT hZ (hw _ (List.mem_of_getElem? (i := 45) rfl))) (mvT hZ (hw _ (List.mem_of_getElem? (i := 44) rfl))) (by decide) (backOf (W := 0) (rm7 l Z a0 hw [] a N hN4 (own_pl (own_xs q0 q1 q2 q3) N) (own_xs q0 q1 q2 q3) (own_d8 mm) TS3.heap n0 J4 (own_pl_get _ N hN4) hnan hmono) hZ (hw _ (List.mem_of_getElem? (i := 46) rfl)) (hw _ (List.mem_of_getElem? (i := 3) rfl)) (by decide) (by decide)) qa qc (g := (mkF m 178 #[.val (.int i0), .val (.int i1), .val (.int i2), .val (.int i3), .val (.int i4), .val (.int i5), .val (.int nn), .val (.int q0), .val (.int q1), .val (.int q2), .val (.int q3), .val (.int mm), .val (.ref a), .unset, .unset] [(.double (own_d8 mm)), (.ref a)])) rfl (by rw [hml]; rfl) (Steps.refl _) (argsL := [(.double (own_d8 mm))]) (rest := []) (lenOf pd_first rfl) rfl (by show 2 * 0 + _ ≤ _; exact Nat.le_of_eq rfl) (hb hby at_178) (fun _ _ => ⟨rfl, rfl, (by decide : 7 + 0 ≤ _), (by decide : 110 + 0 ≤ _)⟩)
  dsimp only [Pt.U, Pt.locs, Pt.cells, Pt.slots] at X5 l5 y5 z5 st5 hQ5
  subst l5 y5 z5
  obtain ⟨⟨r, rfl, hrr⟩, N5, e5⟩ := hQ5
  have N6 := Fr.app NS3 N5
  have hgot := own_got nn q0 q1 q2 q3 mm N r hN hN4 (own_lt (own_xs q0 q1 q2 q3) (own_d8 mm)) p0.2 p1.2 p2.2 p3.2 hrr
  obtain ⟨fs, hr, hrun, hended, hW, hsame⟩ := X5.leave (v := some (.int (1 : Int32))) (fun h => by rw [Bd.returns] at h; cases h)
  refine ⟨_, _, pre0 _ ?_, hrun, hended, _, _, rfl, ?_, ⟨_, rfl⟩, hW, hsame.mono (by decide) (by decide)⟩
  · show Steps p.tables e below (s₁.setTop (mkF m 0 #[.val (.int i0), .val (.int i1), .val (.int i2), .val (.int i3), .val (.int i4), .val (.int i5), .unset, .unset, .unset, .unset, .unset, .unset, .unset, .unset, .unset] [])) _
    refine XS.iloadN X0.here hx rfl (hb hby at_0) rfl ?_
    show Steps p.tables e below (s₁.setTop (mkF m 1 #[.val (.int i0), .val (.int i1), .val (.int i2), .val (.int i3), .val (.int i4), .val (.int i5), .unset, .unset, .unset, .unset, .unset, .unset, .unset, .unset, .unset] [(.int i0)])) _
    refine X0.ldcInt hx hown (mvT hZ (hw _ (List.mem_of_getElem? (i := 0) rfl))) (g := (mkF m 1 #[.val (.int i0), .val (.int i1), .val (.int i2), .val (.int i3), .val (.int i4), .val (.int i5), .unset, .unset, .unset, .unset, .unset, .unset, .unset, .unset, .unset] [(.int i0)])) rfl (hb hby at_1) _ ?_
    show Steps p.tables e below (s₁.setTop (mkF m 3 #[.val (.int i0), .val (.int i1), .val (.int i2), .val (.int i3), .val (.int i4), .val (.int i5), .unset, .unset, .unset, .unset, .unset, .unset, .unset, .unset, .unset] [(.int (2147483647 : Int32)), (.int i0)])) _
    refine XS.iand X0.here hx rfl (hb hby at_3) rfl ?_
    show Steps p.tables e below (s₁.setTop (mkF m 4 #[.val (.int i0), .val (.int i1), .val (.int i2), .val (.int i3), .val (.int i4), .val (.int i5), .unset, .unset, .unset, .unset, .unset, .unset, .unset, .unset, .unset] [(.int (i0 &&& (2147483647 : Int32)))])) _
    refine XS.iconst X0.here hx rfl (hb hby at_4) ?_
    show Steps p.tables e below (s₁.setTop (mkF m 5 #[.val (.int i0), .val (.int i1), .val (.int i2), .val (.int i3), .val (.int i4), .val (.int i5), .unset, .unset, .unset, .unset, .unset, .unset, .unset, .unset, .unset] [(.int (5 : Int32)), (.int (i0 &&& (2147483647 : Int32)))])) _
    refine iremM (g := (mkF m 5 #[.val (.int i0), .val (.int i1), .val (.int i2), .val (.int i3), .val (.int i4), .val (.int i5), .unset, .unset, .unset, .unset, .unset, .unset, .unset, .unset, .unset] [(.int (5 : Int32)), (.int (i0 &&& (2147483647 : Int32)))])) X0 hx rfl (hb hby at_5) rfl (by decide) ?_
    show Steps p.tables e below (s₁.setTop (mkF m 6 #[.val (.int i0), .val (.int i1), .val (.int i2), .val (.int i3), .val (.int i4), .val (.int i5), .unset, .unset, .unset, .unset, .unset, .unset, .unset, .unset, .unset] [(.int ((i0 &&& (2147483647 : Int32)) % (5 : Int32)))])) _
    rw [hnn]
    show Steps p.tables e below (s₁.setTop (mkF m 6 #[.val (.int i0), .val (.int i1), .val (.int i2), .val (.int i3), .val (.int i4), .val (.int i5), .unset, .unset, .unset, .unset, .unset, .unset, .unset, .unset, .unset] [(.int nn)])) _
    refine XS.istore X0.here hx rfl (hb hby at_6) rfl (l' := #[.val (.int i0), .val (.int i1), .val (.int i2), .val (.int i3), .val (.int i4), .val (.int i5), .val (.int nn), .unset, .unset, .unset, .unset, .unset, .unset, .unset, .unset]) rfl ?_
    show Steps p.tables e below (s₁.setTop (mkF m 8 #[.val (.int i0), .val (.int i1), .val (.int i2), .val (.int i3), .val (.int i4), .val (.int i5), .val (.int nn), .unset, .unset, .unset, .unset, .unset, .unset, .unset, .unset] [])) _
    refine XS.iloadN X0.here hx rfl (hb hby at_8) rfl ?_
    show Steps p.tables e below (s₁.setTop (mkF m 9 #[.val (.int i0), .val (.int i1), .val (.int i2), .val (.int i3), .val (.int i4), .val (.int i5), .val (.int nn), .unset, .unset, .unset, .unset, .unset, .unset, .unset, .unset] [(.int i1)])) _
    refine XS.bipush X0.here hx rfl (hb hby at_9) ?_
    show Steps p.tables e below (s₁.setTop (mkF m 11 #[.val (.int i0), .val (.int i1), .val (.int i2), .val (.int i3), .val (.int i4), .val (.int i5), .val (.int nn), .unset, .unset, .unset, .unset, .unset, .unset, .unset, .unset] [(.int (7 : Int32)), (.int i1)])) _
    refine XS.iand X0.here hx rfl (hb hby at_11) rfl ?_
    show Steps p.tables e below (s₁.setTop (mkF m 12 #[.val (.int i0), .val (.int i1), .val (.int i2), .val (.int i3), .val (.int i4), .val (.int i5), .val (.int nn), .unset, .unset, .unset, .unset, .unset, .unset, .unset, .unset] [(.int (i1 &&& (7 : Int32)))])) _
    rw [hq0]
    show Steps p.tables e below (s₁.setTop (mkF m 12 #[.val (.int i0), .val (.int i1), .val (.int i2), .val (.int i3), .val (.int i4), .val (.int i5), .val (.int nn), .unset, .unset, .unset, .unset, .unset, .unset, .unset, .unset] [(.int q0)])) _
    refine XS.istore X0.here hx rfl (hb hby at_12) rfl (l' := #[.val (.int i0), .val (.int i1), .val (.int i2), .val (.int i3), .val (.int i4), .val (.int i5), .val (.int nn), .val (.int q0), .unset, .unset, .unset, .unset, .unset, .unset, .unset]) rfl ?_
    show Steps p.tables e below (s₁.setTop (mkF m 14 #[.val (.int i0), .val (.int i1), .val (.int i2), .val (.int i3), .val (.int i4), .val (.int i5), .val (.int nn), .val (.int q0), .unset, .unset, .unset, .unset, .unset, .unset, .unset] [])) _
    refine XS.iload X0.here hx rfl (hb hby at_14) rfl ?_
    show Steps p.tables e below (s₁.setTop (mkF m 16 #[.val (.int i0), .val (.int i1), .val (.int i2), .val (.int i3), .val (.int i4), .val (.int i5), .val (.int nn), .val (.int q0), .unset, .unset, .unset, .unset, .unset, .unset, .unset] [(.int q0)])) _
    refine XS.iloadN X0.here hx rfl (hb hby at_16) rfl ?_
    show Steps p.tables e below (s₁.setTop (mkF m 17 #[.val (.int i0), .val (.int i1), .val (.int i2), .val (.int i3), .val (.int i4), .val (.int i5), .val (.int nn), .val (.int q0), .unset, .unset, .unset, .unset, .unset, .unset, .unset] [(.int i2), (.int q0)])) _
    refine XS.bipush X0.here hx rfl (hb hby at_17) ?_
    show Steps p.tables e below (s₁.setTop (mkF m 19 #[.val (.int i0), .val (.int i1), .val (.int i2), .val (.int i3), .val (.int i4), .val (.int i5), .val (.int nn), .val (.int q0), .unset, .unset, .unset, .unset, .unset, .unset, .unset] [(.int (7 : Int32)), (.int i2), (.int q0)])) _
    refine XS.iand X0.here hx rfl (hb hby at_19) rfl ?_
    show Steps p.tables e below (s₁.setTop (mkF m 20 #[.val (.int i0), .val (.int i1), .val (.int i2), .val (.int i3), .val (.int i4), .val (.int i5), .val (.int nn), .val (.int q0), .unset, .unset, .unset, .unset, .unset, .unset, .unset] [(.int (i2 &&& (7 : Int32))), (.int q0)])) _
    refine XS.bipush X0.here hx rfl (hb hby at_20) ?_
    show Steps p.tables e below (s₁.setTop (mkF m 22 #[.val (.int i0), .val (.int i1), .val (.int i2), .val (.int i3), .val (.int i4), .val (.int i5), .val (.int nn), .val (.int q0), .unset, .unset, .unset, .unset, .unset, .unset, .unset] [(.int (8 : Int32)), (.int (i2 &&& (7 : Int32))), (.int q0)])) _
    refine XS.iload X0.here hx rfl (hb hby at_22) rfl ?_
    show Steps p.tables e below (s₁.setTop (mkF m 24 #[.val (.int i0), .val (.int i1), .val (.int i2), .val (.int i3), .val (.int i4), .val (.int i5), .val (.int nn), .val (.int q0), .unset, .unset, .unset, .unset, .unset, .unset, .unset] [(.int q0), (.int (8 : Int32)), (.int (i2 &&& (7 : Int32))), (.int q0)])) _
    refine XS.isub X0.here hx rfl (hb hby at_24) rfl ?_
    show Steps p.tables e below (s₁.setTop (mkF m 25 #[.val (.int i0), .val (.int i1), .val (.int i2), .val (.int i3), .val (.int i4), .val (.int i5), .val (.int nn), .val (.int q0), .unset, .unset, .unset, .unset, .unset, .unset, .unset] [(.int ((8 : Int32) - q0)), (.int (i2 &&& (7 : Int32))), (.int q0)])) _
    refine iremM (g := (mkF m 25 #[.val (.int i0), .val (.int i1), .val (.int i2), .val (.int i3), .val (.int i4), .val (.int i5), .val (.int nn), .val (.int q0), .unset, .unset, .unset, .unset, .unset, .unset, .unset] [(.int ((8 : Int32) - q0)), (.int (i2 &&& (7 : Int32))), (.int q0)])) X0 hx rfl (hb hby at_25) rfl hz1 ?_
    show Steps p.tables e below (s₁.setTop (mkF m 26 #[.val (.int i0), .val (.int i1), .val (.int i2), .val (.int i3), .val (.int i4), .val (.int i5), .val (.int nn), .val (.int q0), .unset, .unset, .unset, .unset, .unset, .unset, .unset] [(.int ((i2 &&& (7 : Int32)) % ((8 : Int32) - q0))), (.int q0)])) _
    refine XS.iadd X0.here hx rfl (hb hby at_26) rfl ?_
    show Steps p.tables e below (s₁.setTop (mkF m 27 #[.val (.int i0), .val (.int i1), .val (.int i2), .val (.int i3), .val (.int i4), .val (.int i5), .val (.int nn), .val (.int q0), .unset, .unset, .unset, .unset, .unset, .unset, .unset] [(.int (q0 + ((i2 &&& (7 : Int32)) % ((8 : Int32) - q0))))])) _
    rw [hq1]
    show Steps p.tables e below (s₁.setTop (mkF m 27 #[.val (.int i0), .val (.int i1), .val (.int i2), .val (.int i3), .val (.int i4), .val (.int i5), .val (.int nn), .val (.int q0), .unset, .unset, .unset, .unset, .unset, .unset, .unset] [(.int q1)])) _
    refine XS.istore X0.here hx rfl (hb hby at_27) rfl (l' := #[.val (.int i0), .val (.int i1), .val (.int i2), .val (.int i3), .val (.int i4), .val (.int i5), .val (.int nn), .val (.int q0), .val (.int q1), .unset, .unset, .unset, .unset, .unset, .unset]) rfl ?_
    show Steps p.tables e below (s₁.setTop (mkF m 29 #[.val (.int i0), .val (.int i1), .val (.int i2), .val (.int i3), .val (.int i4), .val (.int i5), .val (.int nn), .val (.int q0), .val (.int q1), .unset, .unset, .unset, .unset, .unset, .unset] [])) _
    refine XS.iload X0.here hx rfl (hb hby at_29) rfl ?_
    show Steps p.tables e below (s₁.setTop (mkF m 31 #[.val (.int i0), .val (.int i1), .val (.int i2), .val (.int i3), .val (.int i4), .val (.int i5), .val (.int nn), .val (.int q0), .val (.int q1), .unset, .unset, .unset, .unset, .unset, .unset] [(.int q1)])) _
    refine XS.iloadN X0.here hx rfl (hb hby at_31) rfl ?_
    show Steps p.tables e below (s₁.setTop (mkF m 32 #[.val (.int i0), .val (.int i1), .val (.int i2), .val (.int i3), .val (.int i4), .val (.int i5), .val (.int nn), .val (.int q0), .val (.int q1), .unset, .unset, .unset, .unset, .unset, .unset] [(.int i3), (.int q1)])) _
    refine XS.bipush X0.here hx rfl (hb hby at_32) ?_
    show Steps p.tables e below (s₁.setTop (mkF m 34 #[.val (.int i0), .val (.int i1), .val (.int i2), .val (.int i3), .val (.int i4), .val (.int i5), .val (.int nn), .val (.int q0), .val (.int q1), .unset, .unset, .unset, .unset, .unset, .unset] [(.int (7 : Int32)), (.int i3), (.int q1)])) _
    refine XS.iand X0.here hx rfl (hb hby at_34) rfl ?_
    show Steps p.tables e below (s₁.setTop (mkF m 35 #[.val (.int i0), .val (.int i1), .val (.int i2), .val (.int i3), .val (.int i4), .val (.int i5), .val (.int nn), .val (.int q0), .val (.int q1), .unset, .unset, .unset, .unset, .unset, .unset] [(.int (i3 &&& (7 : Int32))), (.int q1)])) _
    refine XS.bipush X0.here hx rfl (hb hby at_35) ?_
    show Steps p.tables e below (s₁.setTop (mkF m 37 #[.val (.int i0), .val (.int i1), .val (.int i2), .val (.int i3), .val (.int i4), .val (.int i5), .val (.int nn), .val (.int q0), .val (.int q1), .unset, .unset, .unset, .unset, .unset, .unset] [(.int (8 : Int32)), (.int (i3 &&& (7 : Int32))), (.int q1)])) _
    refine XS.iload X0.here hx rfl (hb hby at_37) rfl ?_
    show Steps p.tables e below (s₁.setTop (mkF m 39 #[.val (.int i0), .val (.int i1), .val (.int i2), .val (.int i3), .val (.int i4), .val (.int i5), .val (.int nn), .val (.int q0), .val (.int q1), .unset, .unset, .unset, .unset, .unset, .unset] [(.int q1), (.int (8 : Int32)), (.int (i3 &&& (7 : Int32))), (.int q1)])) _
    refine XS.isub X0.here hx rfl (hb hby at_39) rfl ?_
    show Steps p.tables e below (s₁.setTop (mkF m 40 #[.val (.int i0), .val (.int i1), .val (.int i2), .val (.int i3), .val (.int i4), .val (.int i5), .val (.int nn), .val (.int q0), .val (.int q1), .unset, .unset, .unset, .unset, .unset, .unset] [(.int ((8 : Int32) - q1)), (.int (i3 &&& (7 : Int32))), (.int q1)])) _
    refine iremM (g := (mkF m 40 #[.val (.int i0), .val (.int i1), .val (.int i2), .val (.int i3), .val (.int i4), .val (.int i5), .val (.int nn), .val (.int q0), .val (.int q1), .unset, .unset, .unset, .unset, .unset, .unset] [(.int ((8 : Int32) - q1)), (.int (i3 &&& (7 : Int32))), (.int q1)])) X0 hx rfl (hb hby at_40) rfl hz2 ?_
    show Steps p.tables e below (s₁.setTop (mkF m 41 #[.val (.int i0), .val (.int i1), .val (.int i2), .val (.int i3), .val (.int i4), .val (.int i5), .val (.int nn), .val (.int q0), .val (.int q1), .unset, .unset, .unset, .unset, .unset, .unset] [(.int ((i3 &&& (7 : Int32)) % ((8 : Int32) - q1))), (.int q1)])) _
    refine XS.iadd X0.here hx rfl (hb hby at_41) rfl ?_
    show Steps p.tables e below (s₁.setTop (mkF m 42 #[.val (.int i0), .val (.int i1), .val (.int i2), .val (.int i3), .val (.int i4), .val (.int i5), .val (.int nn), .val (.int q0), .val (.int q1), .unset, .unset, .unset, .unset, .unset, .unset] [(.int (q1 + ((i3 &&& (7 : Int32)) % ((8 : Int32) - q1))))])) _
    rw [hq2]
    show Steps p.tables e below (s₁.setTop (mkF m 42 #[.val (.int i0), .val (.int i1), .val (.int i2), .val (.int i3), .val (.int i4), .val (.int i5), .val (.int nn), .val (.int q0), .val (.int q1), .unset, .unset, .unset, .unset, .unset, .unset] [(.int q2)])) _
    refine XS.istore X0.here hx rfl (hb hby at_42) rfl (l' := #[.val (.int i0), .val (.int i1), .val (.int i2), .val (.int i3), .val (.int i4), .val (.int i5), .val (.int nn), .val (.int q0), .val (.int q1), .val (.int q2), .unset, .unset, .unset, .unset, .unset]) rfl ?_
    show Steps p.tables e below (s₁.setTop (mkF m 44 #[.val (.int i0), .val (.int i1), .val (.int i2), .val (.int i3), .val (.int i4), .val (.int i5), .val (.int nn), .val (.int q0), .val (.int q1), .val (.int q2), .unset, .unset, .unset, .unset, .unset] [])) _
    refine XS.iload X0.here hx rfl (hb hby at_44) rfl ?_
    show Steps p.tables e below (s₁.setTop (mkF m 46 #[.val (.int i0), .val (.int i1), .val (.int i2), .val (.int i3), .val (.int i4), .val (.int i5), .val (.int nn), .val (.int q0), .val (.int q1), .val (.int q2), .unset, .unset, .unset, .unset, .unset] [(.int q2)])) _
    refine XS.iload X0.here hx rfl (hb hby at_46) rfl ?_
    show Steps p.tables e below (s₁.setTop (mkF m 48 #[.val (.int i0), .val (.int i1), .val (.int i2), .val (.int i3), .val (.int i4), .val (.int i5), .val (.int nn), .val (.int q0), .val (.int q1), .val (.int q2), .unset, .unset, .unset, .unset, .unset] [(.int i4), (.int q2)])) _
    refine XS.bipush X0.here hx rfl (hb hby at_48) ?_
    show Steps p.tables e below (s₁.setTop (mkF m 50 #[.val (.int i0), .val (.int i1), .val (.int i2), .val (.int i3), .val (.int i4), .val (.int i5), .val (.int nn), .val (.int q0), .val (.int q1), .val (.int q2), .unset, .unset, .unset, .unset, .unset] [(.int (7 : Int32)), (.int i4), (.int q2)])) _
    refine XS.iand X0.here hx rfl (hb hby at_50) rfl ?_
    show Steps p.tables e below (s₁.setTop (mkF m 51 #[.val (.int i0), .val (.int i1), .val (.int i2), .val (.int i3), .val (.int i4), .val (.int i5), .val (.int nn), .val (.int q0), .val (.int q1), .val (.int q2), .unset, .unset, .unset, .unset, .unset] [(.int (i4 &&& (7 : Int32))), (.int q2)])) _
    refine XS.bipush X0.here hx rfl (hb hby at_51) ?_
    show Steps p.tables e below (s₁.setTop (mkF m 53 #[.val (.int i0), .val (.int i1), .val (.int i2), .val (.int i3), .val (.int i4), .val (.int i5), .val (.int nn), .val (.int q0), .val (.int q1), .val (.int q2), .unset, .unset, .unset, .unset, .unset] [(.int (8 : Int32)), (.int (i4 &&& (7 : Int32))), (.int q2)])) _
    refine XS.iload X0.here hx rfl (hb hby at_53) rfl ?_
    show Steps p.tables e below (s₁.setTop (mkF m 55 #[.val (.int i0), .val (.int i1), .val (.int i2), .val (.int i3), .val (.int i4), .val (.int i5), .val (.int nn), .val (.int q0), .val (.int q1), .val (.int q2), .unset, .unset, .unset, .unset, .unset] [(.int q2), (.int (8 : Int32)), (.int (i4 &&& (7 : Int32))), (.int q2)])) _
    refine XS.isub X0.here hx rfl (hb hby at_55) rfl ?_
    show Steps p.tables e below (s₁.setTop (mkF m 56 #[.val (.int i0), .val (.int i1), .val (.int i2), .val (.int i3), .val (.int i4), .val (.int i5), .val (.int nn), .val (.int q0), .val (.int q1), .val (.int q2), .unset, .unset, .unset, .unset, .unset] [(.int ((8 : Int32) - q2)), (.int (i4 &&& (7 : Int32))), (.int q2)])) _
    refine iremM (g := (mkF m 56 #[.val (.int i0), .val (.int i1), .val (.int i2), .val (.int i3), .val (.int i4), .val (.int i5), .val (.int nn), .val (.int q0), .val (.int q1), .val (.int q2), .unset, .unset, .unset, .unset, .unset] [(.int ((8 : Int32) - q2)), (.int (i4 &&& (7 : Int32))), (.int q2)])) X0 hx rfl (hb hby at_56) rfl hz3 ?_
    show Steps p.tables e below (s₁.setTop (mkF m 57 #[.val (.int i0), .val (.int i1), .val (.int i2), .val (.int i3), .val (.int i4), .val (.int i5), .val (.int nn), .val (.int q0), .val (.int q1), .val (.int q2), .unset, .unset, .unset, .unset, .unset] [(.int ((i4 &&& (7 : Int32)) % ((8 : Int32) - q2))), (.int q2)])) _
    refine XS.iadd X0.here hx rfl (hb hby at_57) rfl ?_
    show Steps p.tables e below (s₁.setTop (mkF m 58 #[.val (.int i0), .val (.int i1), .val (.int i2), .val (.int i3), .val (.int i4), .val (.int i5), .val (.int nn), .val (.int q0), .val (.int q1), .val (.int q2), .unset, .unset, .unset, .unset, .unset] [(.int (q2 + ((i4 &&& (7 : Int32)) % ((8 : Int32) - q2))))])) _
    rw [hq3]
    show Steps p.tables e below (s₁.setTop (mkF m 58 #[.val (.int i0), .val (.int i1), .val (.int i2), .val (.int i3), .val (.int i4), .val (.int i5), .val (.int nn), .val (.int q0), .val (.int q1), .val (.int q2), .unset, .unset, .unset, .unset, .unset] [(.int q3)])) _
    refine XS.istore X0.here hx rfl (hb hby at_58) rfl (l' := #[.val (.int i0), .val (.int i1), .val (.int i2), .val (.int i3), .val (.int i4), .val (.int i5), .val (.int nn), .val (.int q0), .val (.int q1), .val (.int q2), .val (.int q3), .unset, .unset, .unset, .unset]) rfl ?_
    show Steps p.tables e below (s₁.setTop (mkF m 60 #[.val (.int i0), .val (.int i1), .val (.int i2), .val (.int i3), .val (.int i4), .val (.int i5), .val (.int nn), .val (.int q0), .val (.int q1), .val (.int q2), .val (.int q3), .unset, .unset, .unset, .unset] [])) _
    refine XS.iload X0.here hx rfl (hb hby at_60) rfl ?_
    show Steps p.tables e below (s₁.setTop (mkF m 62 #[.val (.int i0), .val (.int i1), .val (.int i2), .val (.int i3), .val (.int i4), .val (.int i5), .val (.int nn), .val (.int q0), .val (.int q1), .val (.int q2), .val (.int q3), .unset, .unset, .unset, .unset] [(.int i5)])) _
    refine XS.bipush X0.here hx rfl (hb hby at_62) ?_
    show Steps p.tables e below (s₁.setTop (mkF m 64 #[.val (.int i0), .val (.int i1), .val (.int i2), .val (.int i3), .val (.int i4), .val (.int i5), .val (.int nn), .val (.int q0), .val (.int q1), .val (.int q2), .val (.int q3), .unset, .unset, .unset, .unset] [(.int (17 : Int32)), (.int i5)])) _
    refine iremM (g := (mkF m 64 #[.val (.int i0), .val (.int i1), .val (.int i2), .val (.int i3), .val (.int i4), .val (.int i5), .val (.int nn), .val (.int q0), .val (.int q1), .val (.int q2), .val (.int q3), .unset, .unset, .unset, .unset] [(.int (17 : Int32)), (.int i5)])) X0 hx rfl (hb hby at_64) rfl (by decide) ?_
    show Steps p.tables e below (s₁.setTop (mkF m 65 #[.val (.int i0), .val (.int i1), .val (.int i2), .val (.int i3), .val (.int i4), .val (.int i5), .val (.int nn), .val (.int q0), .val (.int q1), .val (.int q2), .val (.int q3), .unset, .unset, .unset, .unset] [(.int (i5 % (17 : Int32)))])) _
    rw [hmm]
    show Steps p.tables e below (s₁.setTop (mkF m 65 #[.val (.int i0), .val (.int i1), .val (.int i2), .val (.int i3), .val (.int i4), .val (.int i5), .val (.int nn), .val (.int q0), .val (.int q1), .val (.int q2), .val (.int q3), .unset, .unset, .unset, .unset] [(.int mm)])) _
    refine XS.istore X0.here hx rfl (hb hby at_65) rfl (l' := #[.val (.int i0), .val (.int i1), .val (.int i2), .val (.int i3), .val (.int i4), .val (.int i5), .val (.int nn), .val (.int q0), .val (.int q1), .val (.int q2), .val (.int q3), .val (.int mm), .unset, .unset, .unset]) rfl ?_
    show Steps p.tables e below (s₁.setTop (mkF m 67 #[.val (.int i0), .val (.int i1), .val (.int i2), .val (.int i3), .val (.int i4), .val (.int i5), .val (.int nn), .val (.int q0), .val (.int q1), .val (.int q2), .val (.int q3), .val (.int mm), .unset, .unset, .unset] [])) _
    refine st2 _ ?_
    show Steps p.tables e below (T2.setTop (mkF m 70 #[.val (.int i0), .val (.int i1), .val (.int i2), .val (.int i3), .val (.int i4), .val (.int i5), .val (.int nn), .val (.int q0), .val (.int q1), .val (.int q2), .val (.int q3), .val (.int mm), .unset, .unset, .unset] [(.ref a)])) _
    refine XS.dup X2.here hx rfl (hb hby at_70) rfl rfl ?_
    show Steps p.tables e below (T2.setTop (mkF m 71 #[.val (.int i0), .val (.int i1), .val (.int i2), .val (.int i3), .val (.int i4), .val (.int i5), .val (.int nn), .val (.int q0), .val (.int q1), .val (.int q2), .val (.int q3), .val (.int mm), .unset, .unset, .unset] [(.ref a), (.ref a)])) _
    refine XS.dconst1 X2.here hx rfl (hb hby at_71) rfl ?_
    show Steps p.tables e below (T2.setTop (mkF m 72 #[.val (.int i0), .val (.int i1), .val (.int i2), .val (.int i3), .val (.int i4), .val (.int i5), .val (.int nn), .val (.int q0), .val (.int q1), .val (.int q2), .val (.int q3), .val (.int mm), .unset, .unset, .unset] [(.double (4607182418800017408 : UInt64)), (.ref a), (.ref a)])) _
    refine XS.dconst1 X2.here hx rfl (hb hby at_72) rfl ?_
    show Steps p.tables e below (T2.setTop (mkF m 73 #[.val (.int i0), .val (.int i1), .val (.int i2), .val (.int i3), .val (.int i4), .val (.int i5), .val (.int nn), .val (.int q0), .val (.int q1), .val (.int q2), .val (.int q3), .val (.int mm), .unset, .unset, .unset] [(.double (4607182418800017408 : UInt64)), (.double (4607182418800017408 : UInt64)), (.ref a), (.ref a)])) _
    refine st3.trans ?_
    show Steps p.tables e below (T3.setTop (mkF m 76 #[.val (.int i0), .val (.int i1), .val (.int i2), .val (.int i3), .val (.int i4), .val (.int i5), .val (.int nn), .val (.int q0), .val (.int q1), .val (.int q2), .val (.int q3), .val (.int mm), .unset, .unset, .unset] [(.ref a)])) _
    refine XS.astore X3.here hx rfl (hb hby at_76) rfl rfl (l' := #[.val (.int i0), .val (.int i1), .val (.int i2), .val (.int i3), .val (.int i4), .val (.int i5), .val (.int nn), .val (.int q0), .val (.int q1), .val (.int q2), .val (.int q3), .val (.int mm), .val (.ref a), .unset, .unset]) rfl ?_
    show Steps p.tables e below (T3.setTop (mkF m 78 #[.val (.int i0), .val (.int i1), .val (.int i2), .val (.int i3), .val (.int i4), .val (.int i5), .val (.int nn), .val (.int q0), .val (.int q1), .val (.int q2), .val (.int q3), .val (.int mm), .val (.ref a), .unset, .unset] [])) _
    refine sts0 _ ?_
    show Steps p.tables e below (TS0.setTop (mkF m 100 #[.val (.int i0), .val (.int i1), .val (.int i2), .val (.int i3), .val (.int i4), .val (.int i5), .val (.int nn), .val (.int q0), .val (.int q1), .val (.int q2), .val (.int q3), .val (.int mm), .val (.ref a), .unset, .unset] [])) _
    refine sts1 _ ?_
    show Steps p.tables e below (TS1.setTop (mkF m 123 #[.val (.int i0), .val (.int i1), .val (.int i2), .val (.int i3), .val (.int i4), .val (.int i5), .val (.int nn), .val (.int q0), .val (.int q1), .val (.int q2), .val (.int q3), .val (.int mm), .val (.ref a), .unset, .unset] [])) _
    refine sts2 _ ?_
    show Steps p.tables e below (TS2.setTop (mkF m 146 #[.val (.int i0), .val (.int i1), .val (.int i2), .val (.int i3), .val (.int i4), .val (.int i5), .val (.int nn), .val (.int q0), .val (.int q1), .val (.int q2), .val (.int q3), .val (.int mm), .val (.ref a), .unset, .unset] [])) _
    refine sts3 _ ?_
    show Steps p.tables e below (TS3.setTop (mkF m 169 #[.val (.int i0), .val (.int i1), .val (.int i2), .val (.int i3), .val (.int i4), .val (.int i5), .val (.int nn), .val (.int q0), .val (.int q1), .val (.int q2), .val (.int q3), .val (.int mm), .val (.ref a), .unset, .unset] [])) _
    refine XS.aload XS3.here hx rfl (hb hby at_169) rfl rfl ?_
    show Steps p.tables e below (TS3.setTop (mkF m 171 #[.val (.int i0), .val (.int i1), .val (.int i2), .val (.int i3), .val (.int i4), .val (.int i5), .val (.int nn), .val (.int q0), .val (.int q1), .val (.int q2), .val (.int q3), .val (.int mm), .val (.ref a), .unset, .unset] [(.ref a)])) _
    refine XS.iload XS3.here hx rfl (hb hby at_171) rfl ?_
    show Steps p.tables e below (TS3.setTop (mkF m 173 #[.val (.int i0), .val (.int i1), .val (.int i2), .val (.int i3), .val (.int i4), .val (.int i5), .val (.int nn), .val (.int q0), .val (.int q1), .val (.int q2), .val (.int q3), .val (.int mm), .val (.ref a), .unset, .unset] [(.int mm), (.ref a)])) _
    refine XS.i2dS XS3.here hx rfl (hb hby at_173) rfl rfl ?_
    show Steps p.tables e below (TS3.setTop (mkF m 174 #[.val (.int i0), .val (.int i1), .val (.int i2), .val (.int i3), .val (.int i4), .val (.int i5), .val (.int nn), .val (.int q0), .val (.int q1), .val (.int q2), .val (.int q3), .val (.int mm), .val (.ref a), .unset, .unset] [(.double (FP.i2d mm)), (.ref a)])) _
    refine XS3.ldc2DoubleC hx hown (mvT hZ (hw _ (List.mem_of_getElem? (i := 41) rfl))) (g := (mkF m 174 #[.val (.int i0), .val (.int i1), .val (.int i2), .val (.int i3), .val (.int i4), .val (.int i5), .val (.int nn), .val (.int q0), .val (.int q1), .val (.int q2), .val (.int q3), .val (.int mm), .val (.ref a), .unset, .unset] [(.double (FP.i2d mm)), (.ref a)])) rfl (hb hby at_174) _ ?_
    show Steps p.tables e below (TS3.setTop (mkF m 177 #[.val (.int i0), .val (.int i1), .val (.int i2), .val (.int i3), .val (.int i4), .val (.int i5), .val (.int nn), .val (.int q0), .val (.int q1), .val (.int q2), .val (.int q3), .val (.int mm), .val (.ref a), .unset, .unset] [(.double (4620693217682128896 : UInt64)), (.double (FP.i2d mm)), (.ref a)])) _
    refine XS.ddivS XS3.here hx rfl (hb hby at_177) rfl (own_d8_nn mm) rfl ?_
    show Steps p.tables e below (TS3.setTop (mkF m 178 #[.val (.int i0), .val (.int i1), .val (.int i2), .val (.int i3), .val (.int i4), .val (.int i5), .val (.int nn), .val (.int q0), .val (.int q1), .val (.int q2), .val (.int q3), .val (.int mm), .val (.ref a), .unset, .unset] [(.double (own_d8 mm)), (.ref a)])) _
    refine st5.trans ?_
    show Steps p.tables e below (T5.setTop (mkF m 181 #[.val (.int i0), .val (.int i1), .val (.int i2), .val (.int i3), .val (.int i4), .val (.int i5), .val (.int nn), .val (.int q0), .val (.int q1), .val (.int q2), .val (.int q3), .val (.int mm), .val (.ref a), .unset, .unset] [(.int (Int32.ofNat r))])) _
    refine XS.istore X5.here hx rfl (hb hby at_181) rfl (l' := #[.val (.int i0), .val (.int i1), .val (.int i2), .val (.int i3), .val (.int i4), .val (.int i5), .val (.int nn), .val (.int q0), .val (.int q1), .val (.int q2), .val (.int q3), .val (.int mm), .val (.ref a), .val (.int (Int32.ofNat r)), .unset]) rfl ?_
    show Steps p.tables e below (T5.setTop (mkF m 183 #[.val (.int i0), .val (.int i1), .val (.int i2), .val (.int i3), .val (.int i4), .val (.int i5), .val (.int nn), .val (.int q0), .val (.int q1), .val (.int q2), .val (.int q3), .val (.int mm), .val (.ref a), .val (.int (Int32.ofNat r)), .unset] [])) _
    exact tl_183 i0 i1 i2 i3 i4 i5 nn q0 q1 q2 q3 mm (Int32.ofNat r) a X5 hx hby Bd.returns hr hgot
  · exact ⟨rfl, N6⟩
set_option maxRecDepth 65536 in
set_option maxHeartbeats 40000000 in
theorem comes_1 {Post : Tables → Env → Array Value → State → Outcome → State → Prop} (hpost : ∀ tb e args s v u, (limb_1_1.after args s (.returned v) u = true ∧ limb_1_2.after args s (.returned v) u = true ∧ True) → FrameEnd s (.returned v) u (Jvm.fieldLocs frame_1_writes args s ++ Jvm.arrayLocs frame_1_arrays args s ++ Jvm.staticLocs frame_1_statics s) 24 320 → Post tb e args s (.returned v) u) :
    ArmFor flags0 classFile x code maxLocals ret World_1 tables_1 room_1 Calls_1 rest_1 Pre_1 Post := by
  intro l hfl _ _ p e ha hc hk s m args below hf hA hF happ hP
  obtain ⟨hcalls, hrest, hpre⟩ := hP
  obtain ⟨-, -, -, hnamed, -, -, -, hat⟩ := (Spec.applies_iff hf).mp happ
  obtain ⟨hg, hn⟩ := and_e (Cond.before_iff.mp (show (Jvm.Cond.and given_1 narrow_1).before args s = true from hpre))
  obtain ⟨g1, g2⟩ := and_e hg
  obtain ⟨g3, g4⟩ := and_e g2
  obtain ⟨g5, g6⟩ := and_e g4
  obtain ⟨g7, g8⟩ := and_e g6
  obtain ⟨g9, g10⟩ := and_e g8
  obtain ⟨g11, g12⟩ := and_e g10
  obtain ⟨w0, w1, w2, w3, w4, w5, rfl⟩ : ∃ w0 w1 w2 w3 w4 w5 : Value, args = #[w0, w1, w2, w3, w4, w5] := by
    have hs : args.size = 6 := by simpa [Cond.value, given_1] using g1
    obtain ⟨L⟩ := args
    match L, hs with
    | [w0, w1, w2, w3, w4, w5], _ => exact ⟨w0, w1, w2, w3, w4, w5, rfl⟩
  have hw := fun d (hd : d ∈ tables_1) => atoms_spec (ws := Jvm.Cond.code x code maxLocals ret :: tables_1) hat d (List.mem_cons_of_mem _ hd)
  obtain ⟨i0, ei0⟩ := is_v g3
  obtain rfl : w0 = (.int i0) := Option.some.inj ei0
  obtain ⟨i1, ei1⟩ := is_v g5
  obtain rfl : w1 = (.int i1) := Option.some.inj ei1
  obtain ⟨i2, ei2⟩ := is_v g7
  obtain rfl : w2 = (.int i2) := Option.some.inj ei2
  obtain ⟨i3, ei3⟩ := is_v g9
  obtain rfl : w3 = (.int i3) := Option.some.inj ei3
  obtain ⟨i4, ei4⟩ := is_v g11
  obtain rfl : w4 = (.int i4) := Option.some.inj ei4
  obtain ⟨i5, ei5⟩ := is_v g12
  obtain rfl : w5 = (.int i5) := Option.some.inj ei5
  obtain ⟨n, o, h1, h2, h3, _, L, rfl, ⟨rfl, N⟩, hq⟩ := rm0 l s _ hw tables_1 i0 i1 i2 i3 i4 i5 s.heap s.heap.size (Nat.le_refl _) p e ha hc hk s m _ below hf ((Spec.applies_iff_loose hf).mp happ).1 ⟨rfl, State.Warmed39.refl s, rfl⟩ trivial
  refine ⟨n, _, h1, h2, h3, hpost _ _ _ _ _ _ ⟨Cond.after_iff.mpr rfl, Cond.after_iff.mpr (eq_i res_at (Term.int_eval (1)) rfl), trivial⟩ ⟨hq.1, hq.2.1, (hq.2.2.sift fun y hy => Or.inr (N y hy)).mono (by decide) (by decide)⟩⟩
theorem main_1_1 : Claimed_1_1 := comes_1 fun _ _ _ _ _ _ h hF => ⟨h.1, hF⟩
theorem main_1_2 : Claimed_1_2 := comes_1 fun _ _ _ _ _ _ h hF => ⟨h.2.1, hF⟩
end Jvm.Pilot.@@N@@
namespace Jvm.Pilot.@@N@@
open Jvm Jvm.ClassFile Sem Op Lib Jvm.Free Jvm.Stand Jvm.Pilot.@@N@@.Jvm.D
/-! MADE BY PROGRAM (witnessworld.py) out of the Statement's table words and the real class files: 14 classes; the members and pool entries that the words name. The judged class is class 1, her method 1. -/
namespace start1
open Jvm.ClassFile
def u (s : String) : CpInfo := .utf8 (stringToUtf16 s)
/-- a pool by its gaps: so many unusable entries, then the entry; so many at the end -/
def gap : Nat → List CpInfo → List CpInfo
  | 0, r => r
  | n + 1, r => .unusable :: gap n r
def poolList (es : List (Nat × CpInfo)) (last : Nat) : List CpInfo := es.foldr (fun e r => gap e.1 (e.2 :: r)) (gap last [])
def pool (es : List (Nat × CpInfo)) (last : Nat) : Array CpInfo := ⟨poolList es last⟩
def fileOf (pool : Array CpInfo) (this : Nat) (attrs : Array Attribute := #[]) (ms : Array MethodInfo := #[]) (fl : Nat := 33) (sup : Nat := 0) (ifs : Array Nat := #[]) (fds : Array FieldInfo := #[]) : ClassFile where
  minorVersion := 0
  majorVersion := 65
  constantPool := pool
  accessFlags := fl
  thisClass := this
  superClass := sup
  interfaces := ifs
  fields := fds
  methods := ms
  attributes := attrs
def plain (name : String) (sup : Option ClassId) : Class where
  name := name
  kind := .ordinary
  loader := none
  accessFlags := 33
  super := sup
  interfaces := #[]
  cf := none
  fields := #[]
  methods := #[]
  instanceTypes := #[]
  staticTypes := #[]
  resolved := #[]
  callSites := []
  init := .initialized
  statics := none
  mirror := none

def pool0 : Array CpInfo := pool [(5, u "<init>"), (0, u "()V"), (1, .class_ 10), (1, u "java/lang/Object")] 113

def k0c0 : Code := { maxStack := 0, maxLocals := 1, code := object_method_1_code, exceptionTable := #[], attributes := #[] }
def k0m0 : Method := { name := "<init>", desc := "()V", sig := { parameters := [], returnType := none }, accessFlags := 1, code := some k0c0 }
/-- java/lang/Object -/
def k0 : Class := { plain "java/lang/Object" none with
  accessFlags := 33
  interfaces := #[]
  cf := some (fileOf pool0 8 #[] #[{ accessFlags := 1, nameIndex := 5, descriptorIndex := 6, attributes := #[] }] 33 0 #[] #[])
  fields := #[]
  methods := #[k0m0]
  instanceTypes := #[]
  staticTypes := #[]
  resolved := Array.replicate 124 none
  statics := none }

def pool1 : Array CpInfo := pool [(2, .class_ 4), (1, u "java/lang/Object"), (0, u "<init>"), (0, u "()V"), (0, .integer 2147483647), (0, .class_ 9), (0, u "com/example/tidewise/tidewise/plan/HeldPlans"), (0, .methodref 8 11), (0, .nameAndType 5 12), (0, u "(DD)V"), (0, .double 4620693217682128896), (1, .methodref 8 16), (0, .nameAndType 17 18), (0, u "add"), (0, u "(DDDDJI)V"), (0, .methodref 8 20), (0, .nameAndType 21 22), (0, u "firstPassing"), (0, u "(D)I"), (0, .class_ 24), (0, u "com/example/tidewise/tidewise/plan/HeldPlansFirstPassingPinLaw"), (2, u "law"), (0, u "(IIIIII)Z")] 3

def k1m0 : Method := { name := "<init>", desc := "()V", sig := { parameters := [], returnType := none }, accessFlags := 1, code := none }
def k1c1 : Code := { maxStack := 12, maxLocals := 15, code := code, exceptionTable := #[], attributes := #[] }
def k1m1 : Method := { name := "law", desc := "(IIIIII)Z", sig := { parameters := [.int, .int, .int, .int, .int, .int], returnType := some .boolean }, accessFlags := 9, code := some k1c1 }
/-- com/example/tidewise/tidewise/plan/HeldPlansFirstPassingPinLaw -/
def k1 : Class := { plain "com/example/tidewise/tidewise/plan/HeldPlansFirstPassingPinLaw" (some 0) with
  accessFlags := 49
  interfaces := #[]
  cf := some (fileOf pool1 23 #[] #[{ accessFlags := 1, nameIndex := 5, descriptorIndex := 6, attributes := #[] }, { accessFlags := 9, nameIndex := 27, descriptorIndex := 28, attributes := #[] }] 49 2 #[] #[])
  fields := #[]
  methods := #[k1m0, k1m1]
  instanceTypes := #[]
  staticTypes := #[]
  resolved := Array.replicate 32 none
  statics := none }

def pool2 : Array CpInfo := pool [(1, .methodref 2 3), (0, .class_ 4), (0, .nameAndType 5 6), (0, u "java/lang/Object"), (0, u "<init>"), (0, u "()V"), (2, .double 9218868437227405312), (1, .fieldref 12 13), (0, .class_ 14), (0, .nameAndType 15 16), (0, u "com/example/tidewise/tidewise/plan/HeldPlans"), (0, u "leastLost"), (0, u "D"), (0, .fieldref 12 18), (0, .nameAndType 19 16), (0, u "leastValue"), (0, .double 18442240474082181120), (1, .fieldref 12 23), (0, .nameAndType 24 16), (0, u "mostValue"), (0, .fieldref 12 26), (0, .nameAndType 27 16), (0, u "fewestWhole"), (0, .fieldref 12 29), (0, .nameAndType 30 16), (0, u "mostWhole"), (0, .fieldref 12 32), (0, .nameAndType 33 34), (0, u "whole"), (0, u "[D"), (0, .fieldref 12 36), (0, .nameAndType 37 34), (0, u "part"), (0, .fieldref 12 39), (0, .nameAndType 40 34), (0, u "value"), (0, .fieldref 12 42), (0, .nameAndType 43 34), (0, u "lost"), (0, .fieldref 12 45), (0, .nameAndType 46 47), (0, u "mask"), (0, u "[J"), (0, .fieldref 12 49), (0, .nameAndType 50 51), (0, u "origin"), (0, u "[I"), (0, .fieldref 12 53), (0, .nameAndType 54 16), (0, u "upPerVm"), (0, .fieldref 12 56), (0, .nameAndType 57 16), (0, u "downPerVm"), (2, u "(DD)V"), (0, .fieldref 12 62), (0, .nameAndType 63 64), (0, u "size"), (0, u "I"), (3, .methodref 69 70), (0, .class_ 71), (0, .nameAndType 72 73), (0, u "java/lang/Math"), (0, u "min"), (0, u "(DD)D"), (0, .methodref 69 75), (0, .nameAndType 76 73), (0, u "max"), (14, u "add"), (0, u "(DDDDJI)V"), (4, .class_ 98), (0, u "com/example/tidewise/tidewise/plan/HeldPlans$Price"), (6, .class_ 106), (0, u "com/example/tidewise/tidewise/plan/HeldPlans$OnePrice"), (3, .class_ 111), (0, u "com/example/tidewise/tidewise/plan/HeldPlans$TwoPrices"), (10, u "firstPassing"), (0, u "(D)I"), (2, .class_ 127), (0, u "com/example/tidewise/tidewise/plan/HeldPlans$Beaten"), (3, .class_ 132), (0, u "com/example/tidewise/tidewise/plan/HeldPlans$Greatest")] 6

def k2c0 : Code := { maxStack := 3, maxLocals := 5, code := prog_237_method_1_code, exceptionTable := #[], attributes := #[] }
def k2m0 : Method := { name := "<init>", desc := "(DD)V", sig := { parameters := [.double, .double], returnType := none }, accessFlags := 0, code := some k2c0 }
def k2c1 : Code := { maxStack := 5, maxLocals := 12, code := prog_237_method_4_code, exceptionTable := #[], attributes := #[] }
def k2m1 : Method := { name := "add", desc := "(DDDDJI)V", sig := { parameters := [.double, .double, .double, .double, .long, .int], returnType := none }, accessFlags := 0, code := some k2c1 }
def k2c2 : Code := { maxStack := 4, maxLocals := 6, code := prog_237_method_7_code, exceptionTable := #[], attributes := #[] }
def k2m2 : Method := { name := "firstPassing", desc := "(D)I", sig := { parameters := [.double], returnType := some .int }, accessFlags := 0, code := some k2c2 }
/-- com/example/tidewise/tidewise/plan/HeldPlans -/
def k2 : Class := { plain "com/example/tidewise/tidewise/plan/HeldPlans" (some 0) with
  accessFlags := 48
  interfaces := #[]
  cf := some (fileOf pool2 12 #[.nestMembers #[131, 97, 110, 105, 126]] #[{ accessFlags := 0, nameIndex := 5, descriptorIndex := 60, attributes := #[] }, { accessFlags := 0, nameIndex := 91, descriptorIndex := 92, attributes := #[] }, { accessFlags := 0, nameIndex := 122, descriptorIndex := 123, attributes := #[] }] 48 2 #[] #[{ accessFlags := 16, nameIndex := 54, descriptorIndex := 16, attributes := #[] }, { accessFlags := 16, nameIndex := 57, descriptorIndex := 16, attributes := #[] }, { accessFlags := 0, nameIndex := 63, descriptorIndex := 64, attributes := #[] }, { accessFlags := 0, nameIndex := 15, descriptorIndex := 16, attributes := #[] }, { accessFlags := 2, nameIndex := 19, descriptorIndex := 16, attributes := #[] }, { accessFlags := 2, nameIndex := 24, descriptorIndex := 16, attributes := #[] }, { accessFlags := 2, nameIndex := 27, descriptorIndex := 16, attributes := #[] }, { accessFlags := 2, nameIndex := 30, descriptorIndex := 16, attributes := #[] }, { accessFlags := 0, nameIndex := 33, descriptorIndex := 34, attributes := #[] }, { accessFlags := 0, nameIndex := 37, descriptorIndex := 34, attributes := #[] }, { accessFlags := 0, nameIndex := 40, descriptorIndex := 34, attributes := #[] }, { accessFlags := 0, nameIndex := 43, descriptorIndex := 34, attributes := #[] }, { accessFlags := 0, nameIndex := 46, descriptorIndex := 47, attributes := #[] }, { accessFlags := 0, nameIndex := 50, descriptorIndex := 51, attributes := #[] }])
  fields := #[{ name := "upPerVm", type := .double, accessFlags := 16, slot := 0, constantValue := 0 }, { name := "downPerVm", type := .double, accessFlags := 16, slot := 1, constantValue := 0 }, { name := "size", type := .int, accessFlags := 0, slot := 2, constantValue := 0 }, { name := "leastLost", type := .double, accessFlags := 0, slot := 3, constantValue := 0 }, { name := "leastValue", type := .double, accessFlags := 2, slot := 4, constantValue := 0 }, { name := "mostValue", type := .double, accessFlags := 2, slot := 5, constantValue := 0 }, { name := "fewestWhole", type := .double, accessFlags := 2, slot := 6, constantValue := 0 }, { name := "mostWhole", type := .double, accessFlags := 2, slot := 7, constantValue := 0 }, { name := "whole", type := (.array .double), accessFlags := 0, slot := 8, constantValue := 0 }, { name := "part", type := (.array .double), accessFlags := 0, slot := 9, constantValue := 0 }, { name := "value", type := (.array .double), accessFlags := 0, slot := 10, constantValue := 0 }, { name := "lost", type := (.array .double), accessFlags := 0, slot := 11, constantValue := 0 }, { name := "mask", type := (.array .long), accessFlags := 0, slot := 12, constantValue := 0 }, { name := "origin", type := (.array .int), accessFlags := 0, slot := 13, constantValue := 0 }]
  methods := #[k2m0, k2m1, k2m2]
  instanceTypes := #[.double, .double, .int, .double, .double, .double, .double, .double, (.array .double), (.array .double), (.array .double), (.array .double), (.array .long), (.array .int)]
  staticTypes := #[]
  resolved := Array.replicate 139 none
  statics := none }

def pool3 : Array CpInfo := pool [(1, .class_ 2), (0, u "java/lang/Math"), (1, .class_ 6), (1, u "java/lang/Object"), (0, u "<init>"), (0, u "()V"), (43, u "(DD)D"), (45, .class_ 100), (1, u "java/lang/Math$RandomNumberGeneratorHolder"), (71, u "negativeZeroFloatBits"), (0, u "J"), (2, u "negativeZeroDoubleBits"), (21, u "max"), (2, u "min"), (43, u "$assertionsDisabled"), (0, u "Z"), (91, u "twoToTheDoubleScaleDown"), (0, u "D"), (4, u "twoToTheDoubleScaleUp"), (9, u "E"), (3, u "PI"), (2, u "TAU"), (2, u "DEGREES_TO_RADIANS"), (0, u "RADIANS_TO_DEGREES")] 94

def k3m0 : Method := { name := "<init>", desc := "()V", sig := { parameters := [], returnType := none }, accessFlags := 2, code := none }
def k3c1 : Code := { maxStack := 4, maxLocals := 4, code := jdk_29_method_68_code, exceptionTable := #[], attributes := #[] }
def k3m1 : Method := { name := "max", desc := "(DD)D", sig := { parameters := [.double, .double], returnType := some .double }, accessFlags := 9, code := some k3c1 }
def k3c2 : Code := { maxStack := 4, maxLocals := 4, code := jdk_29_method_72_code, exceptionTable := #[], attributes := #[] }
def k3m2 : Method := { name := "min", desc := "(DD)D", sig := { parameters := [.double, .double], returnType := some .double }, accessFlags := 9, code := some k3c2 }
/-- java/lang/Math -/
def k3 : Class := { plain "java/lang/Math" (some 0) with
  accessFlags := 49
  interfaces := #[]
  cf := some (fileOf pool3 1 #[.nestMembers #[98]] #[{ accessFlags := 2, nameIndex := 7, descriptorIndex := 8, attributes := #[] }, { accessFlags := 9, nameIndex := 198, descriptorIndex := 52, attributes := #[] }, { accessFlags := 9, nameIndex := 201, descriptorIndex := 52, attributes := #[] }] 49 4 #[] #[{ accessFlags := 25, nameIndex := 354, descriptorIndex := 339, attributes := #[] }, { accessFlags := 25, nameIndex := 358, descriptorIndex := 339, attributes := #[] }, { accessFlags := 25, nameIndex := 361, descriptorIndex := 339, attributes := #[] }, { accessFlags := 26, nameIndex := 364, descriptorIndex := 339, attributes := #[] }, { accessFlags := 26, nameIndex := 365, descriptorIndex := 339, attributes := #[] }, { accessFlags := 26, nameIndex := 172, descriptorIndex := 173, attributes := #[] }, { accessFlags := 26, nameIndex := 176, descriptorIndex := 173, attributes := #[] }, { accessFlags := 8, nameIndex := 344, descriptorIndex := 339, attributes := #[] }, { accessFlags := 8, nameIndex := 338, descriptorIndex := 339, attributes := #[] }, { accessFlags := 4120, nameIndex := 245, descriptorIndex := 246, attributes := #[] }])
  fields := #[{ name := "E", type := .double, accessFlags := 25, slot := 0, constantValue := 0 }, { name := "PI", type := .double, accessFlags := 25, slot := 1, constantValue := 0 }, { name := "TAU", type := .double, accessFlags := 25, slot := 2, constantValue := 0 }, { name := "DEGREES_TO_RADIANS", type := .double, accessFlags := 26, slot := 3, constantValue := 0 }, { name := "RADIANS_TO_DEGREES", type := .double, accessFlags := 26, slot := 4, constantValue := 0 }, { name := "negativeZeroFloatBits", type := .long, accessFlags := 26, slot := 5, constantValue := 0 }, { name := "negativeZeroDoubleBits", type := .long, accessFlags := 26, slot := 6, constantValue := 0 }, { name := "twoToTheDoubleScaleUp", type := .double, accessFlags := 8, slot := 7, constantValue := 0 }, { name := "twoToTheDoubleScaleDown", type := .double, accessFlags := 8, slot := 8, constantValue := 0 }, { name := "$assertionsDisabled", type := .boolean, accessFlags := 4120, slot := 9, constantValue := 0 }]
  methods := #[k3m0, k3m1, k3m2]
  instanceTypes := #[]
  staticTypes := #[.double, .double, .double, .double, .double, .long, .long, .double, .double, .boolean]
  resolved := Array.replicate 460 none
  statics := none }

def pool4 : Array CpInfo := pool [(1, u "java/lang/Cloneable"), (0, .class_ 1), (0, u "java/lang/Object"), (0, .class_ 3)] 3

/-- java/lang/Cloneable -/
def k4 : Class := { plain "java/lang/Cloneable" (some 0) with
  accessFlags := 1537
  interfaces := #[]
  cf := some (fileOf pool4 2 #[] #[] 1537 4 #[] #[])
  fields := #[]
  methods := #[]
  instanceTypes := #[]
  staticTypes := #[]
  resolved := Array.replicate 8 none
  statics := none }

def pool5 : Array CpInfo := pool [(1, u "java/io/Serializable"), (0, .class_ 1), (0, u "java/lang/Object"), (0, .class_ 3)] 3

/-- java/io/Serializable -/
def k5 : Class := { plain "java/io/Serializable" (some 0) with
  accessFlags := 1537
  interfaces := #[]
  cf := some (fileOf pool5 2 #[] #[] 1537 4 #[] #[])
  fields := #[]
  methods := #[]
  instanceTypes := #[]
  staticTypes := #[]
  resolved := Array.replicate 8 none
  statics := none }

/-- the primitive byte -/
def k6 : Class := { plain "byte" none with kind := .primitive 'B', accessFlags := 0x411 }
/-- [B -/
def k7 : Class := { plain "[B" (some 0) with kind := .array 6 .byte, interfaces := #[4, 5], accessFlags := 1041 }

/-- the primitive double -/
def k8 : Class := { plain "double" none with kind := .primitive 'D', accessFlags := 0x411 }
/-- [D -/
def k9 : Class := { plain "[D" (some 0) with kind := .array 8 .double, interfaces := #[4, 5], accessFlags := 1041 }

/-- the primitive int -/
def k10 : Class := { plain "int" none with kind := .primitive 'I', accessFlags := 0x411 }
/-- [I -/
def k11 : Class := { plain "[I" (some 0) with kind := .array 10 .int, interfaces := #[4, 5], accessFlags := 1041 }

/-- the primitive long -/
def k12 : Class := { plain "long" none with kind := .primitive 'J', accessFlags := 0x411 }
/-- [J -/
def k13 : Class := { plain "[J" (some 0) with kind := .array 12 .long, interfaces := #[4, 5], accessFlags := 1041 }

def heap : Heap := #[]
def classes : Array Class := #[k0, k1, k2, k3, k4, k5, k6, k7, k8, k9, k10, k11, k12, k13]
def interned : List (Array UInt16 × Addr) := []
def slotsUsed : Nat := 0
def theMethod : MethodId := ⟨1, 1⟩
def args0 : Array Value := #[.int 5, .int 7, .int 9, .int 11, .int 13, .int 17]
def aboutOver (below : List Frame) : State where
  vm := { classes := classes, interned := interned.toArray }
  heap := heap
  slotsUsed := slotsUsed
  threads := #[{ frames := .invoking theMethod args0 :: below }]
def below0 : List Frame := [.native { method := ⟨0, 0⟩, args := #[] }]
def about1 : State := aboutOver below0
def p0 : Program := .bare "" "" ""
def e0 : Env := launch0.env 0 0 0
theorem w_frames : about1.frames = Frame.invoking theMethod args0 :: below0 := rfl
set_option maxRecDepth 65536 in
theorem w_args : argsFit about1.vm theMethod args0 = true := by decide +kernel
set_option maxRecDepth 65536 in
theorem w_heap : heapFits about1 = true := by decide +kernel
set_option maxRecDepth 65536 in
theorem w_runnable : about1.curStatus? = some .runnable := by decide +kernel
set_option maxRecDepth 65536 in
theorem w_alone : about1.alone = true := by decide +kernel
set_option maxRecDepth 65536 in
theorem w_named : about1.methodNamed? x = some theMethod := by decide +kernel
set_option maxRecDepth 65536 in
theorem w_hears : about1.hears theMethod below0 = true := by decide +kernel
set_option maxRecDepth 65536 in
theorem w_ripe : about1.ripe theMethod args0 below0 = true := by decide +kernel
theorem w_running : about1.status = .running := rfl
set_option maxRecDepth 65536 in
theorem w_room : about1.hasRoom e0.platform room_1 = true :=
  launch0.hasRoom_least _ room_1 (by decide +kernel) (by decide +kernel) (by decide +kernel) (by decide +kernel) (by decide +kernel) (by decide +kernel)
theorem allAtoms_all (ts : List Jvm.Cond) (a : Array Jvm.Value) (st : Jvm.State) : (allAtoms ts).before a st = ts.all (fun c => c.before a st) := by
  induction ts with
  | nil => rfl
  | cons c t ih =>
    show (Jvm.Cond.and c (allAtoms t)).before a st = _
    rw [Jvm.Cond.before_and, ih, List.all_cons]
def words1 : List Jvm.Cond := Jvm.Cond.code x code maxLocals ret :: tables_1
/-- a 'code' word, met by the world's own term for the bytes: nothing is compared byte by byte -/
theorem code_word {y : MethodName} {bytes : ByteArray} {mx : Nat} {rt : Option FieldType} {a : Array Value} {s : State} {m : MethodId} {meth : Method} {c : Code} (h1 : s.methodNamed? y = some m) (h2 : s.vm.method? m = some meth) (h3 : meth.code = some c) (h4 : c.code = bytes)
    (h5 : (c.maxLocals == mx && c.exceptionTable.isEmpty && decide (c.maxStack ≤ mostOperands) && decide (meth.sig.returnType = rt) && !meth.locks && decide (parseMethodDescriptor y.desc = some meth.sig)) = true) : (Jvm.Cond.code y bytes mx rt).before a s = true := by
  simp only [Bool.and_eq_true, beq_iff_eq, Bool.not_eq_true', decide_eq_true_eq] at h5
  obtain ⟨⟨⟨⟨⟨g1, g2⟩, g3⟩, g4⟩, g5⟩, g6⟩ := h5
  simp [Cond.before, Cond.holds, Cond.value, h1, h2, h3, h4, g1, g2, g3, g4, g5, g6]
def isCode : Jvm.Cond → Bool
  | .code _ _ _ _ => true
  | _ => false
theorem all_split {L : List Jvm.Cond} {P : Jvm.Cond → Bool} (h1 : L.all (fun c => isCode c || P c) = true) (h2 : ∀ c ∈ L.filter isCode, P c = true) : L.all P = true := by
  refine List.all_eq_true.mpr fun c hc => ?_
  have h := List.all_eq_true.mp h1 c hc
  rcases Bool.eq_false_or_eq_true (isCode c) with hi | hi
  · exact h2 c (List.mem_filter.mpr ⟨hc, hi⟩)
  · simpa [hi] using h
set_option maxRecDepth 65536 in
theorem w_c0 : (Jvm.Cond.code x code maxLocals ret).before args0 about1 = true := code_word (m := ⟨1, 1⟩) (meth := k1m1) (c := k1c1) (by decide +kernel) rfl rfl rfl (by decide +kernel)
set_option maxRecDepth 65536 in
theorem w_c1 : (Jvm.Cond.code ({ cls := "com/example/tidewise/tidewise/plan/HeldPlans", name := "<init>", desc := "(DD)V" } : Jvm.MethodName) prog_237_method_1_code (5 : Nat) (Option.none : Option Jvm.ClassFile.FieldType)).before args0 about1 = true := code_word (m := ⟨2, 0⟩) (meth := k2m0) (c := k2c0) (by decide +kernel) rfl rfl rfl (by decide +kernel)
set_option maxRecDepth 65536 in
theorem w_c2 : (Jvm.Cond.code ({ cls := "java/lang/Object", name := "<init>", desc := "()V" } : Jvm.MethodName) object_method_1_code (1 : Nat) (Option.none : Option Jvm.ClassFile.FieldType)).before args0 about1 = true := code_word (m := ⟨0, 0⟩) (meth := k0m0) (c := k0c0) (by decide +kernel) rfl rfl rfl (by decide +kernel)
set_option maxRecDepth 65536 in
theorem w_c3 : (Jvm.Cond.code ({ cls := "com/example/tidewise/tidewise/plan/HeldPlans", name := "firstPassing", desc := "(D)I" } : Jvm.MethodName) prog_237_method_7_code (6 : Nat) (Option.some Jvm.ClassFile.FieldType.int)).before args0 about1 = true := code_word (m := ⟨2, 2⟩) (meth := k2m2) (c := k2c2) (by decide +kernel) rfl rfl rfl (by decide +kernel)
set_option maxRecDepth 65536 in
theorem w_c4 : (Jvm.Cond.code ({ cls := "com/example/tidewise/tidewise/plan/HeldPlans", name := "add", desc := "(DDDDJI)V" } : Jvm.MethodName) prog_237_method_4_code (12 : Nat) (Option.none : Option Jvm.ClassFile.FieldType)).before args0 about1 = true := code_word (m := ⟨2, 1⟩) (meth := k2m1) (c := k2c1) (by decide +kernel) rfl rfl rfl (by decide +kernel)
set_option maxRecDepth 65536 in
theorem w_c5 : (Jvm.Cond.code ({ cls := "java/lang/Math", name := "min", desc := "(DD)D" } : Jvm.MethodName) jdk_29_method_72_code (4 : Nat) (Option.some Jvm.ClassFile.FieldType.double)).before args0 about1 = true := code_word (m := ⟨3, 2⟩) (meth := k3m2) (c := k3c2) (by decide +kernel) rfl rfl rfl (by decide +kernel)
set_option maxRecDepth 65536 in
theorem w_c6 : (Jvm.Cond.code ({ cls := "java/lang/Math", name := "max", desc := "(DD)D" } : Jvm.MethodName) jdk_29_method_68_code (4 : Nat) (Option.some Jvm.ClassFile.FieldType.double)).before args0 about1 = true := code_word (m := ⟨3, 1⟩) (meth := k3m1) (c := k3c1) (by decide +kernel) rfl rfl rfl (by decide +kernel)
def codes1 : List Jvm.Cond := [Jvm.Cond.code x code maxLocals ret, Jvm.Cond.code ({ cls := "com/example/tidewise/tidewise/plan/HeldPlans", name := "<init>", desc := "(DD)V" } : Jvm.MethodName) prog_237_method_1_code (5 : Nat) (Option.none : Option Jvm.ClassFile.FieldType), Jvm.Cond.code ({ cls := "java/lang/Object", name := "<init>", desc := "()V" } : Jvm.MethodName) object_method_1_code (1 : Nat) (Option.none : Option Jvm.ClassFile.FieldType), Jvm.Cond.code ({ cls := "com/example/tidewise/tidewise/plan/HeldPlans", name := "firstPassing", desc := "(D)I" } : Jvm.MethodName) prog_237_method_7_code (6 : Nat) (Option.some Jvm.ClassFile.FieldType.int), Jvm.Cond.code ({ cls := "com/example/tidewise/tidewise/plan/HeldPlans", name := "add", desc := "(DDDDJI)V" } : Jvm.MethodName) prog_237_method_4_code (12 : Nat) (Option.none : Option Jvm.ClassFile.FieldType), Jvm.Cond.code ({ cls := "java/lang/Math", name := "min", desc := "(DD)D" } : Jvm.MethodName) jdk_29_method_72_code (4 : Nat) (Option.some Jvm.ClassFile.FieldType.double), Jvm.Cond.code ({ cls := "java/lang/Math", name := "max", desc := "(DD)D" } : Jvm.MethodName) jdk_29_method_68_code (4 : Nat) (Option.some Jvm.ClassFile.FieldType.double)]
set_option maxRecDepth 65536 in
theorem codes_eq : words1.filter isCode = codes1 := rfl
theorem w_codes : ∀ c ∈ words1.filter isCode, c.before args0 about1 = true := by
  rw [codes_eq]
  intro c hc
  simp only [codes1, List.mem_cons, List.not_mem_nil, or_false] at hc
  rcases hc with rfl | rfl | rfl | rfl | rfl | rfl | rfl
  · exact w_c0
  · exact w_c1
  · exact w_c2
  · exact w_c3
  · exact w_c4
  · exact w_c5
  · exact w_c6
set_option maxRecDepth 65536 in
theorem w_t1 : (words1.take 24).all (fun c => isCode c || c.before args0 about1) = true := by decide +kernel
set_option maxRecDepth 65536 in
theorem w_t2 : ((words1.drop 24).take 24).all (fun c => isCode c || c.before args0 about1) = true := by decide +kernel
set_option maxRecDepth 65536 in
theorem w_t3 : ((words1.drop 24).drop 24).all (fun c => isCode c || c.before args0 about1) = true := by decide +kernel
theorem w_tables : (allAtoms (Jvm.Cond.code x code maxLocals ret :: tables_1)).before args0 about1 = true := by
  rw [allAtoms_all]
  show words1.all (fun c => c.before args0 about1) = true
  refine all_split ?_ w_codes
  rw [← List.take_append_drop 24 words1, List.all_append, w_t1, ← List.take_append_drop 24 (words1.drop 24), List.all_append, w_t2, w_t3]
  rfl
set_option maxRecDepth 65536 in
theorem w_case : (Jvm.Cond.and given_1 narrow_1).before args0 about1 = true := by decide +kernel
theorem w_applies : (headSpec (Jvm.Cond.code x code maxLocals ret :: tables_1) room_1).applies x e0.platform about1 = true :=
  (Spec.applies_iff w_frames).mpr ⟨w_running, w_runnable, w_alone, w_named, w_hears, w_ripe, w_room, w_tables⟩
theorem atStart : AtStart classFile x code maxLocals ret World_1 tables_1 room_1 Calls_1 rest_1 Pre_1 launch0 p0 e0 about1 theMethod args0 below0 :=
  ⟨lists_1, trivial, launch0.admits_env _ _ _, launch0.least_env, fairChoices_fair.cas, fairChoices_fair.clock, w_frames, w_args, w_heap, w_applies, trivial, trivial, w_case⟩
end start1
theorem witness_1 : WitnessClaimed_1 := ⟨start1.p0, start1.e0, start1.about1, start1.theMethod, start1.args0, start1.below0, start1.atStart⟩
end Jvm.Pilot.@@N@@
